import JvmDerived
import JvmDerived.Pilot.@@N@@Statement
import JvmDerived.Pilot.@@N@@Code
set_option linter.unusedVariables false
set_option linter.unusedSimpArgs false
namespace Jvm.GoKit
open Sem ClassFile Op Lib Jvm.Stand Jvm.Free Jvm.LawKit Jvm.RoadKit
/-! A small logic of walks: 'Go .. h kc ks SL pc L S': from pc, with locals L, stack S, heap h, the body comes to its end and Q holds. -/
def Sfs (Z : State) (EL : List (String × Nat)) (vm : Vm) (h : Heap) (SL : List Addr) : Prop := ∀ x ∈ SL, x < h.size ∧ Safe Z EL vm h x
def En (w : Bool) (s : State) (o : Outcome) (t : State) (L : List Loc) (k n : Nat) : Prop := ReturnedEndW s o t L k n ∧ (w = false → s.WarmedH t.vm)
def Wk (l : Launch) (Z : State) (y : MethodName) (bytes : ByteArray) (mx : Nat) (rt : Option FieldType) (R : Room) (EL : List (String × Nat)) (n0 : Nat) (w : Bool) (p : Program) (e : Env) (s : State) (m : MethodId) (args : Array Value) (below : List Frame) (meth : Method) (c : Code) (T : State) (h : Heap) (kc ks : Nat) (SL : List Addr) : Prop :=
  (p.tables.exec = Jvm.exec ∧ c.code = bytes ∧ c.maxLocals = mx ∧ meth.sig.returnType = rt ∧ meth.locks = false ∧ meth.name = y.name ∧ ∃ a0, EW Z a0 EL) ∧
  ∃ k0 locs, Stand p l e R (s.setVm T.vm) m args below meth c T locs kc ks ∧ T.heap = h ∧ s.Since T.vm k0 ∧ k0 ≤ h.size ∧ Z.Warmed39 T.vm ∧ T.vm.findClass y.cls = some m.cls ∧ CHr Z EL s.vm s.heap T.vm h ∧ Fr n0 locs ∧ (w = false → s.WarmedH T.vm) ∧ Sfs Z EL T.vm h SL
def Go (l : Launch) (Z : State) (y : MethodName) (bytes : ByteArray) (mx : Nat) (rt : Option FieldType) (R : Room) (EL : List (String × Nat)) (n0 : Nat) (w : Bool) (Q : Option Value → Heap → List Addr → Prop) (h : Heap) (kc ks : Nat) (SL : List Addr) (pc : Nat) (L : Array Slot) (S : List Value) : Prop :=
  ∀ p e s m args below meth c T, Wk l Z y bytes mx rt R EL n0 w p e s m args below meth c T h kc ks SL →
    ∃ s₂ o, Steps p.tables e below (T.setTop (mkF m pc L S)) s₂ ∧ s₂.status = .running ∧ Ended s₂ below o ∧
      ∃ v Ls N, o = .returned v ∧ Q v s₂.heap N ∧ Fr n0 Ls ∧ CHr Z EL s.vm s.heap s₂.vm s₂.heap ∧ Sfs Z EL s₂.vm s₂.heap N ∧ En w s o s₂ Ls R.cells R.slots
/-- a method's contract, for one array of arguments and one heap -/
def Ct (l : Launch) (Z : State) (y : MethodName) (bytes : ByteArray) (mx : Nat) (rt : Option FieldType) (R : Room) (EL : List (String × Nat)) (n0 : Nat) (w : Bool) (ws : List Jvm.Cond) (as' : Array Value) (h0 : Heap) (SL : List Addr) (Q : Option Value → Heap → List Addr → Prop) : Prop :=
  MetFree l y (head1 (Jvm.Cond.code y bytes mx rt :: ws) R) (fun a U => a = as' ∧ Z.Warmed39 U.vm ∧ U.heap = h0 ∧ CHv Z EL U.vm h0 ∧ Sfs Z EL U.vm h0 SL) (fun _ _ _ _ _ => True)
    (fun _ U o U' => ∃ v Ls N, o = .returned v ∧ Q v U'.heap N ∧ Fr n0 Ls ∧ CHr Z EL U.vm U.heap U'.vm U'.heap ∧ Sfs Z EL U'.vm U'.heap N ∧ En w U o U' Ls R.cells R.slots)
theorem nlt {a b : Nat} (h : a < b) : a < b := h
theorem nle {a b : Nat} (h : a ≤ b) : a ≤ b := h
theorem neq {a b : Nat} (h : a = b) : a = b := h
theorem nne {a b : Nat} (h : a ≠ b) : a ≠ b := h
theorem nne2 {x a b : Nat} (h : x ≠ a ∧ x ≠ b) : x ≠ a ∧ x ≠ b := h
theorem sta_keep {Z : State} {h h' : Heap} {C n d : String} {v : Value} {ws : List Addr} (F : Sta Z h C n d v) (K : Keep h h' ws) (q : ∀ x ∈ ws, ∀ cell : Cell, h[x]? = some cell → cell.vm.isStatics = false) : Sta Z h' C n d v := by
  obtain ⟨cf, i, k, f, st, cell, h1, h2, h3, h4, h5, h6, h7⟩ := F
  exact ⟨cf, i, k, f, st, cell, h1, h2, h3, h4, K.2.1 st cell h5 (fun m => by rw [q st m cell h5] at h6; cases h6), h6, h7⟩
theorem arr_keep {Z : State} {h h' : Heap} {a : Addr} {c : Cell} {ty : FieldType} {ws : List Addr} (F : RoadKit.Arr Z h a c ty) (K : Keep h h' ws) (q : a ∉ ws) : RoadKit.Arr Z h' a c ty := ⟨K.2.1 a c F.1 q, F.2⟩
section Closure
variable {l : Launch} {Z : State} {y : MethodName} {bytes : ByteArray} {mx : Nat} {rt : Option FieldType} {R : Room} {EL : List (String × Nat)} {n0 : Nat} {w : Bool} {Q : Option Value → Heap → List Addr → Prop} {h h' : Heap} {kc ks kc' ks' : Nat} {SL SL' : List Addr} {pc pc' : Nat} {L L' : Array Slot} {S S' : List Value} {a0 : Array Value}
variable {p : Program} {e : Env} {s : State} {m : MethodId} {args : Array Value} {below : List Frame} {meth : Method} {c : Code} {T T' : State} {locs' : List Loc}
theorem Sfs.mono (F : Sfs Z EL T.vm h SL) (q : ∀ x ∈ SL', x ∈ SL) : Sfs Z EL T.vm h SL' := fun x hx => F x (q x hx)
theorem Sfs.chr {vm vm1 : Vm} (F : Sfs Z EL vm h SL) (A : CHr Z EL vm h vm1 h') : Sfs Z EL vm1 h' SL := fun x hx => ⟨Nat.lt_of_lt_of_le (F x hx).1 A.2.1, A.safe (F x hx).1 (F x hx).2⟩
theorem Wk.mono (W : Wk l Z y bytes mx rt R EL n0 w p e s m args below meth c T h kc ks SL) (q : ∀ x ∈ SL', x ∈ SL) : Wk l Z y bytes mx rt R EL n0 w p e s m args below meth c T h kc ks SL' := by
  obtain ⟨A, k0, locs, X, e1, h1, h2, h3, h4, h5, h6, h7, h8⟩ := W
  exact ⟨A, k0, locs, X, e1, h1, h2, h3, h4, h5, h6, h7, h8.mono q⟩
/-- a step that interns nothing -/
theorem Wk.next (W : Wk l Z y bytes mx rt R EL n0 w p e s m args below meth c T h kc ks SL) (X' : Stand p l e R (s.setVm T.vm) m args below meth c T' locs' kc' ks') (e' : T'.heap = h') (hC : CHr Z EL T.vm h T.vm h') (N : Fr n0 locs') (hSf : Sfs Z EL T.vm h' SL') :
    Wk l Z y bytes mx rt R EL n0 w p e s m args below meth c T' h' kc' ks' SL' := by
  obtain ⟨⟨b1, b2, b3, b4, b5, b6, a0, b7⟩, k0, locs, X, e1, h1, h2, h3, h4, h5, h6, h7, h8⟩ := W
  have hW : (s.setVm T.vm).WarmedH T'.vm := X'.warmed
  have A := CHv.at X' h3 b7 hC.1
  have Xr : Stand p l e R (s.setVm T'.vm) m args below meth c T' locs' kc' ks' := X'.retabled hW.wide
  refine ⟨⟨b1, b2, b3, b4, b5, b6, a0, b7⟩, k0, locs', Xr, e', h1.trans (hW.since _) (Nat.le_refl _), Nat.le_trans h2 hC.2.1, State.Warmed39.trans (t := s.setVm T.vm) h3 hW.wide, ?_, (h5.trans hC).trans A, N, fun q => State.WarmedH.trans (t := s.setVm T.vm) (h7 q) hW, hSf.chr A⟩
  rw [hW.alike.findClass]; exact h4
/-- a step that may intern -/
theorem Wk.nextS (W : Wk l Z y bytes mx rt R EL n0 w p e s m args below meth c T h kc ks SL) (X' : Stand p l e R (s.setVm T'.vm) m args below meth c T' locs' kc' ks') (e' : T'.heap = h') {n1 : Nat} (hS : (s.setVm T.vm).Since T'.vm n1) (hn1 : h.size ≤ n1) (hn : n1 ≤ h'.size) (hC : CHr Z EL T.vm h T'.vm h') (N : Fr n0 locs') (hw : w = false → (s.setVm T.vm).WarmedH T'.vm) (hSf : Sfs Z EL T'.vm h' SL') :
    Wk l Z y bytes mx rt R EL n0 w p e s m args below meth c T' h' kc' ks' SL' := by
  obtain ⟨⟨b1, b2, b3, b4, b5, b6, a0, b7⟩, k0, locs, X, e1, h1, h2, h3, h4, h5, h6, h7, h8⟩ := W
  refine ⟨⟨b1, b2, b3, b4, b5, b6, a0, b7⟩, n1, locs', X', e', h1.trans hS (Nat.le_trans h2 hn1), hn, State.Warmed39.trans (t := s.setVm T.vm) h3 hS.1, ?_, h5.trans hC, N, fun q => State.WarmedH.trans (t := s.setVm T.vm) (h7 q) (hw q), hSf⟩
  rw [hS.1.alike.findClass]; exact h4
theorem Go.st (hst : ∀ {p : Program} {e : Env} {s : State} {m : MethodId} {args : Array Value} {below : List Frame} {meth : Method} {c : Code} {T : State}, Wk l Z y bytes mx rt R EL n0 w p e s m args below meth c T h kc ks SL → ∀ t, Steps p.tables e below (T.setTop (mkF m pc' L' S')) t → Steps p.tables e below (T.setTop (mkF m pc L S)) t)
    (k : Go l Z y bytes mx rt R EL n0 w Q h kc ks SL pc' L' S') : Go l Z y bytes mx rt R EL n0 w Q h kc ks SL pc L S := by
  intro p e s m args below meth c T W
  obtain ⟨s₂, o, st, r⟩ := k p e s m args below meth c T W
  exact ⟨s₂, o, hst W _ st, r⟩
theorem Go.mono (q : ∀ x ∈ SL', x ∈ SL) (k : Go l Z y bytes mx rt R EL n0 w Q h kc ks SL' pc L S) : Go l Z y bytes mx rt R EL n0 w Q h kc ks SL pc L S := fun p e s m args below meth c T W => k p e s m args below meth c T (W.mono q)
theorem Go.post {Q' : Option Value → Heap → List Addr → Prop} (q : ∀ v h N, Q' v h N → Q v h N) (k : Go l Z y bytes mx rt R EL n0 w Q' h kc ks SL pc L S) : Go l Z y bytes mx rt R EL n0 w Q h kc ks SL pc L S := fun p e s m args below meth c T W => by
  obtain ⟨s₂, o, st, r1, r2, v, Ls, N, r3, r4, r5⟩ := k p e s m args below meth c T W
  exact ⟨s₂, o, st, r1, r2, v, Ls, N, r3, q _ _ _ r4, r5⟩
theorem Ct.of {ws : List Jvm.Cond} {as' : Array Value} {h0 : Heap} (hp : plainFor y = true) (hEL : EW Z a0 EL) {L0 : Array Slot} (hE : ∀ m, entryFrame m as' mx = mkF m 0 L0 []) (G : Go l Z y bytes mx rt R EL n0 w Q h0 0 0 SL 0 L0 []) :
    Ct l Z y bytes mx rt R EL n0 w ws as' h0 SL Q := by
  refine MetFree.of_bodySF hp hisR ?_
  intro p e s m args below meth c s₁ Bd hml0 hP hK
  obtain ⟨rfl, hZ, hh, hC, hSf⟩ := hP
  have X0 : Stand p l e R (s.setVm s.vm) m args below meth c s₁ [] 0 0 := Stand.of_body Bd
  have e0 : s₁.heap = h0 := by rw [← hh, Bd.state]; rfl
  have hW : s.WarmedH s₁.vm := X0.warmed
  have A := CHv.at X0 hZ hEL hC
  have hl : meth.locks = false := BodyLoose.notSynchronized Bd
  rw [hE]
  refine G p e s m args below meth c s₁ ⟨⟨Bd.exec, Bd.bytes, hml0, Bd.returns, hl, (name_of_methodNamed Bd.named Bd.method).1, a0, hEL⟩, h0.size, [], X0.retabled hW.wide, e0, hW.since _, Nat.le_refl _, State.Warmed39.trans (t := s) hZ hW.wide, ?_, ?_, Fr.nil n0, fun _ => hW, hSf.chr A⟩
  · rw [hW.alike.findClass]; exact findClass_of_methodNamed Bd.named
  · rw [hh]; exact A
/-- a callee's contract pays the call -/
theorem Ct.pay {z : MethodName} {bytesZ : ByteArray} {mxZ : Nat} {rtZ : Option FieldType} {rm : Room} {as' : Array Value} {QZ : Option Value → Heap → List Addr → Prop} {len W : Nat} {vm0 : Vm} (hM : Ct l Z z bytesZ mxZ rtZ rm EL n0 w [] as' h SL' QZ)
    (hZ : Z.Warmed39 vm0) (hEL : EW Z a0 EL) (H : CHv Z EL vm0 h) (hSf : Sfs Z EL vm0 h SL') {a1 : Array Value} (wc : (Jvm.Cond.code z bytesZ mxZ rtZ).before a1 Z = true) (wz : (Jvm.Cond.initialized z.cls).before a1 Z = true) (hf : rm.frames + 1 ≤ R.frames) (hl : W + (mxZ + 11) + rm.locals ≤ R.locals) :
    BackS l R p e below (s.setVm vm0) args z len W (fun A a => a = as' ∧ A.U.heap = h ∧ A.cells + rm.cells ≤ R.cells ∧ A.slots + rm.slots ≤ R.slots)
      (fun A _ v B => ∃ Ls N, QZ v B.U.heap N ∧ Fr n0 Ls ∧ B.locs = A.locs ++ Ls ∧ B.cells = A.cells + rm.cells ∧ B.slots = A.slots + rm.slots ∧ CHr Z EL vm0 h B.U.vm B.U.heap ∧ Sfs Z EL B.U.vm B.U.heap N ∧ (w = false → (s.setVm vm0).WarmedH B.U.vm)) :=
  BackS.of_freeW (bytes := bytesZ) (maxL := mxZ) (ret := rtZ) (E := fun _ first o t L k n => k = rm.cells ∧ n = rm.slots ∧ (∃ v N, o = .returned v ∧ QZ v t.heap N ∧ Fr n0 L ∧ Sfs Z EL t.vm t.heap N) ∧ CHr Z EL first.vm first.heap t.vm t.heap ∧ (w = false → first.WarmedH t.vm)) hM hf hl
    (fun m meth c A a Y hp => have hU : Z.Warmed39 A.U.vm := wtrans (s := s.setVm vm0) hZ Y.warmed
      ⟨by show (Jvm.Cond.and _ .tt).before a A.U = true; rw [Cond.before_and, mv hU wc]; rfl, mv hU wc, mv hU wz, hp.2.2.1, hp.2.2.2⟩)
    (fun m meth c A a g mk Y hp => have A9 : CHr Z EL vm0 h A.U.vm h := CHv.at (T := A.U) Y hZ hEL H
      ⟨hp.1, wtrans (s := s.setVm vm0) hZ Y.warmed, hp.2.1, A9.1, hSf.chr A9⟩) (fun _ _ _ _ _ _ _ _ _ => trivial)
    (fun _ _ _ _ ⟨v, L, N, h1, h2, h3, h4, h5, h6⟩ => ⟨L, _, _, h6.1, rfl, rfl, ⟨v, N, h1, h2, h3, h5⟩, h4, h6.2⟩)
    (fun m meth c A a g mk v t L k n Y hp _ _ ⟨e1, e2, ⟨v', N, e3, e4, e5, e6⟩, e7, e8⟩ => by
      cases e3; subst e1 e2
      refine ⟨L, N, e4, e5, rfl, rfl, rfl, (CHv.at Y hZ hEL H).trans ?_, e6, fun q => State.WarmedH.trans (s := s.setVm vm0) (t := A.U) Y.warmed (e8 q)⟩
      rw [← hp.2.1]; exact e7)
end Closure
section Rules
abbrev usr (x y : Int32) : Int32 := (x.toUInt32 >>> (y &&& 31).toUInt32).toInt32
def cP : ClassFile.Cond → Int32 → Int32 → Prop
  | .eq, x, y => x = y
  | .ne, x, y => ¬ x = y
  | .lt, x, y => x < y
  | .ge, x, y => ¬ x < y
  | .gt, x, y => y < x
  | .le, x, y => ¬ y < x
def cneg : ClassFile.Cond → ClassFile.Cond
  | .eq => .ne
  | .ne => .eq
  | .lt => .ge
  | .ge => .lt
  | .gt => .le
  | .le => .gt
theorem ic_t {cd : ClassFile.Cond} {x y : Int32} (h : cP cd x y) : if_icmp.holds cd x y = true := by
  cases cd
  · exact (teq h).1
  · exact (feq h).2
  · exact (tlt h).1
  · exact (flt h).2.1
  · exact (tlt h).2.2.1
  · exact (flt h).2.2.2
theorem ic_f {cd : ClassFile.Cond} {x y : Int32} (h : cP (cneg cd) x y) : if_icmp.holds cd x y = false := by
  cases cd
  · exact (feq h).1
  · exact (teq h).2
  · exact (flt h).1
  · exact (tlt h).2.1
  · exact (flt h).2.2.1
  · exact (tlt h).2.2.2
theorem if_ic (cd : ClassFile.Cond) (x : Int32) : ifCond.holds cd x = if_icmp.holds cd x 0 := by cases cd <;> rfl
theorem if_t {cd : ClassFile.Cond} {x : Int32} (h : cP cd x 0) : ifCond.holds cd x = true := (if_ic cd x).trans (ic_t h)
theorem if_f {cd : ClassFile.Cond} {x : Int32} (h : cP (cneg cd) x 0) : ifCond.holds cd x = false := (if_ic cd x).trans (ic_f h)
theorem cP_em (cd : ClassFile.Cond) (x y : Int32) : cP cd x y ∨ cP (cneg cd) x y := by
  cases cd <;> simp only [cP, cneg] <;> first | exact Decidable.em _ | exact (Decidable.em _).symm
variable {l : Launch} {Z : State} {y : MethodName} {bytes : ByteArray} {mx : Nat} {rt : Option FieldType} {R : Room} {EL : List (String × Nat)} {n0 : Nat} {w : Bool} {Q : Option Value → Heap → List Addr → Prop} {h h' : Heap} {kc ks kc' ks' : Nat} {SL SL' : List Addr} {pc pc' pc'' : Nat} {L L' : Array Slot} {S S' : List Value} {a0 a1 : Array Value}
theorem Go.re (q1 : pc = pc') (q2 : L = L') (q3 : S = S') (K : Go l Z y bytes mx rt R EL n0 w Q h kc ks SL pc' L' S') : Go l Z y bytes mx rt R EL n0 w Q h kc ks SL pc L S := by subst q1 q2 q3; exact K
theorem Go.aloadN {k : Fin 4} {v : Value} (hd : decode bytes pc = .ok (.aload_n k, 1)) (hl : L[k.val]? = some (.val v)) (hv : v.isRef = true) (q : pc + 1 = pc') (K : Go l Z y bytes mx rt R EL n0 w Q h kc ks SL pc' L (v :: S)) : Go l Z y bytes mx rt R EL n0 w Q h kc ks SL pc L S := Go.st (fun W t kk => by obtain ⟨⟨hx, hby, -⟩, _, _, X, -⟩ := W; subst q; exact XS.aloadN X.here hx rfl (hb hby hd) hl hv kk) K
theorem Go.aload {k : Nat} {v : Value} (hd : decode bytes pc = .ok (.aload k, 2)) (hl : L[k]? = some (.val v)) (hv : v.isRef = true) (q : pc + 2 = pc') (K : Go l Z y bytes mx rt R EL n0 w Q h kc ks SL pc' L (v :: S)) : Go l Z y bytes mx rt R EL n0 w Q h kc ks SL pc L S := Go.st (fun W t kk => by obtain ⟨⟨hx, hby, -⟩, _, _, X, -⟩ := W; subst q; exact XS.aload X.here hx rfl (hb hby hd) hl hv kk) K
theorem Go.iloadN {k : Fin 4} {v : Int32} (hd : decode bytes pc = .ok (.iload_n k, 1)) (hl : L[k.val]? = some (.val (.int v))) (q : pc + 1 = pc') (K : Go l Z y bytes mx rt R EL n0 w Q h kc ks SL pc' L (.int v :: S)) : Go l Z y bytes mx rt R EL n0 w Q h kc ks SL pc L S := Go.st (fun W t kk => by obtain ⟨⟨hx, hby, -⟩, _, _, X, -⟩ := W; subst q; exact XS.iloadN X.here hx rfl (hb hby hd) hl kk) K
theorem Go.iload {k : Nat} {v : Int32} (hd : decode bytes pc = .ok (.iload k, 2)) (hl : L[k]? = some (.val (.int v))) (q : pc + 2 = pc') (K : Go l Z y bytes mx rt R EL n0 w Q h kc ks SL pc' L (.int v :: S)) : Go l Z y bytes mx rt R EL n0 w Q h kc ks SL pc L S := Go.st (fun W t kk => by obtain ⟨⟨hx, hby, -⟩, _, _, X, -⟩ := W; subst q; exact XS.iload X.here hx rfl (hb hby hd) hl kk) K
theorem Go.lloadN {k : Fin 4} {v : Int64} (hd : decode bytes pc = .ok (.lload_n k, 1)) (hl : L[k.val]? = some (.val (.long v))) (q : pc + 1 = pc') (K : Go l Z y bytes mx rt R EL n0 w Q h kc ks SL pc' L (.long v :: S)) : Go l Z y bytes mx rt R EL n0 w Q h kc ks SL pc L S := Go.st (fun W t kk => by obtain ⟨⟨hx, hby, -⟩, _, _, X, -⟩ := W; subst q; exact XS.lloadN X.here hx rfl (hb hby hd) hl kk) K
theorem Go.lload {k : Nat} {v : Int64} (hd : decode bytes pc = .ok (.lload k, 2)) (hl : L[k]? = some (.val (.long v))) (q : pc + 2 = pc') (K : Go l Z y bytes mx rt R EL n0 w Q h kc ks SL pc' L (.long v :: S)) : Go l Z y bytes mx rt R EL n0 w Q h kc ks SL pc L S := Go.st (fun W t kk => by obtain ⟨⟨hx, hby, -⟩, _, _, X, -⟩ := W; subst q; exact XS.lload X.here hx rfl (hb hby hd) hl kk) K
theorem Go.istoreN {k : Fin 4} {v : Int32} (L' : Array Slot) (hd : decode bytes pc = .ok (.istore_n k, 1)) (hl : storeLocals L k.val (.int v) = some L') (q : pc + 1 = pc') (K : Go l Z y bytes mx rt R EL n0 w Q h kc ks SL pc' L' S) : Go l Z y bytes mx rt R EL n0 w Q h kc ks SL pc L (.int v :: S) := Go.st (fun W t kk => by obtain ⟨⟨hx, hby, -⟩, _, _, X, -⟩ := W; subst q; exact XS.istoreN X.here hx rfl (hb hby hd) rfl hl kk) K
theorem Go.istore {k : Nat} {v : Int32} (L' : Array Slot) (hd : decode bytes pc = .ok (.istore k, 2)) (hl : storeLocals L k (.int v) = some L') (q : pc + 2 = pc') (K : Go l Z y bytes mx rt R EL n0 w Q h kc ks SL pc' L' S) : Go l Z y bytes mx rt R EL n0 w Q h kc ks SL pc L (.int v :: S) := Go.st (fun W t kk => by obtain ⟨⟨hx, hby, -⟩, _, _, X, -⟩ := W; subst q; exact XS.istore X.here hx rfl (hb hby hd) rfl hl kk) K
theorem Go.lstoreN {k : Fin 4} {v : Int64} (L' : Array Slot) (hd : decode bytes pc = .ok (.lstore_n k, 1)) (hl : storeLocals L k.val (.long v) = some L') (q : pc + 1 = pc') (K : Go l Z y bytes mx rt R EL n0 w Q h kc ks SL pc' L' S) : Go l Z y bytes mx rt R EL n0 w Q h kc ks SL pc L (.long v :: S) := Go.st (fun W t kk => by obtain ⟨⟨hx, hby, -⟩, _, _, X, -⟩ := W; subst q; exact XS.lstoreN X.here hx rfl (hb hby hd) rfl hl kk) K
theorem Go.lstore {k : Nat} {v : Int64} (L' : Array Slot) (hd : decode bytes pc = .ok (.lstore k, 2)) (hl : storeLocals L k (.long v) = some L') (q : pc + 2 = pc') (K : Go l Z y bytes mx rt R EL n0 w Q h kc ks SL pc' L' S) : Go l Z y bytes mx rt R EL n0 w Q h kc ks SL pc L (.long v :: S) := Go.st (fun W t kk => by obtain ⟨⟨hx, hby, -⟩, _, _, X, -⟩ := W; subst q; exact XS.lstore X.here hx rfl (hb hby hd) rfl hl kk) K
theorem Go.astoreN {k : Fin 4} {v : Value} (L' : Array Slot) (hd : decode bytes pc = .ok (.astore_n k, 1)) (hv : v.isRef = true) (hl : storeLocals L k.val v = some L') (q : pc + 1 = pc') (K : Go l Z y bytes mx rt R EL n0 w Q h kc ks SL pc' L' S) : Go l Z y bytes mx rt R EL n0 w Q h kc ks SL pc L (v :: S) := Go.st (fun W t kk => by obtain ⟨⟨hx, hby, -⟩, _, _, X, -⟩ := W; subst q; exact XS.astoreN X.here hx rfl (hb hby hd) rfl hv hl kk) K
theorem Go.astore {k : Nat} {v : Value} (L' : Array Slot) (hd : decode bytes pc = .ok (.astore k, 2)) (hv : v.isRef = true) (hl : storeLocals L k v = some L') (q : pc + 2 = pc') (K : Go l Z y bytes mx rt R EL n0 w Q h kc ks SL pc' L' S) : Go l Z y bytes mx rt R EL n0 w Q h kc ks SL pc L (v :: S) := Go.st (fun W t kk => by obtain ⟨⟨hx, hby, -⟩, _, _, X, -⟩ := W; subst q; exact XS.astore X.here hx rfl (hb hby hd) rfl hv hl kk) K
theorem Go.iconst {i : Int} (z : Int32) (hd : decode bytes pc = .ok (.iconst i, 1)) (hz : Int32.ofInt i = z) (q : pc + 1 = pc') (K : Go l Z y bytes mx rt R EL n0 w Q h kc ks SL pc' L (.int z :: S)) : Go l Z y bytes mx rt R EL n0 w Q h kc ks SL pc L S := Go.st (fun W t kk => by obtain ⟨⟨hx, hby, -⟩, _, _, X, -⟩ := W; subst q; subst hz; exact XS.iconst X.here hx rfl (hb hby hd) kk) K
theorem Go.bipush {i : Int} (z : Int32) (hd : decode bytes pc = .ok (.bipush i, 2)) (hz : (Int8.ofInt i).toInt32 = z) (q : pc + 2 = pc') (K : Go l Z y bytes mx rt R EL n0 w Q h kc ks SL pc' L (.int z :: S)) : Go l Z y bytes mx rt R EL n0 w Q h kc ks SL pc L S := Go.st (fun W t kk => by obtain ⟨⟨hx, hby, -⟩, _, _, X, -⟩ := W; subst q; subst hz; exact XS.bipush X.here hx rfl (hb hby hd) kk) K
theorem Go.sipush {i : Int} (z : Int32) (hd : decode bytes pc = .ok (.sipush i, 3)) (hz : (Int16.ofInt i).toInt32 = z) (q : pc + 3 = pc') (K : Go l Z y bytes mx rt R EL n0 w Q h kc ks SL pc' L (.int z :: S)) : Go l Z y bytes mx rt R EL n0 w Q h kc ks SL pc L S := Go.st (fun W t kk => by obtain ⟨⟨hx, hby, -⟩, _, _, X, -⟩ := W; subst q; subst hz; exact XS.sipush X.here hx rfl (hb hby hd) kk) K
theorem Go.lconst {k : Fin 2} (z : Int64) (hd : decode bytes pc = .ok (.lconst k, 1)) (hz : Int64.ofNat k.val = z) (q : pc + 1 = pc') (K : Go l Z y bytes mx rt R EL n0 w Q h kc ks SL pc' L (.long z :: S)) : Go l Z y bytes mx rt R EL n0 w Q h kc ks SL pc L S := Go.st (fun W t kk => by obtain ⟨⟨hx, hby, -⟩, _, _, X, -⟩ := W; subst q; subst hz; exact XS.lconst X.here hx rfl (hb hby hd) kk) K
theorem Go.aconstNull (hd : decode bytes pc = .ok (.aconst_null, 1)) (q : pc + 1 = pc') (K : Go l Z y bytes mx rt R EL n0 w Q h kc ks SL pc' L (.null :: S)) : Go l Z y bytes mx rt R EL n0 w Q h kc ks SL pc L S := Go.st (fun W t kk => by obtain ⟨⟨hx, hby, -⟩, _, _, X, -⟩ := W; subst q; exact XS.aconstNull X.here hx rfl (hb hby hd) kk) K
theorem Go.iadd {x y' : Int32} (hd : decode bytes pc = .ok (.iadd, 1)) (q : pc + 1 = pc') (K : Go l Z y bytes mx rt R EL n0 w Q h kc ks SL pc' L (.int (x + y') :: S)) : Go l Z y bytes mx rt R EL n0 w Q h kc ks SL pc L (.int y' :: .int x :: S) := Go.st (fun W t kk => by obtain ⟨⟨hx, hby, -⟩, _, _, X, -⟩ := W; subst q; exact XS.iadd X.here hx rfl (hb hby hd) rfl kk) K
theorem Go.isub {x y' : Int32} (hd : decode bytes pc = .ok (.isub, 1)) (q : pc + 1 = pc') (K : Go l Z y bytes mx rt R EL n0 w Q h kc ks SL pc' L (.int (x - y') :: S)) : Go l Z y bytes mx rt R EL n0 w Q h kc ks SL pc L (.int y' :: .int x :: S) := Go.st (fun W t kk => by obtain ⟨⟨hx, hby, -⟩, _, _, X, -⟩ := W; subst q; exact XS.isub X.here hx rfl (hb hby hd) rfl kk) K
theorem Go.iand {x y' : Int32} (hd : decode bytes pc = .ok (.iand, 1)) (q : pc + 1 = pc') (K : Go l Z y bytes mx rt R EL n0 w Q h kc ks SL pc' L (.int (x &&& y') :: S)) : Go l Z y bytes mx rt R EL n0 w Q h kc ks SL pc L (.int y' :: .int x :: S) := Go.st (fun W t kk => by obtain ⟨⟨hx, hby, -⟩, _, _, X, -⟩ := W; subst q; exact XS.iand X.here hx rfl (hb hby hd) rfl kk) K
theorem Go.ior {x y' : Int32} (hd : decode bytes pc = .ok (.ior, 1)) (q : pc + 1 = pc') (K : Go l Z y bytes mx rt R EL n0 w Q h kc ks SL pc' L (.int (x ||| y') :: S)) : Go l Z y bytes mx rt R EL n0 w Q h kc ks SL pc L (.int y' :: .int x :: S) := Go.st (fun W t kk => by obtain ⟨⟨hx, hby, -⟩, _, _, X, -⟩ := W; subst q; exact XS.ior X.here hx rfl (hb hby hd) rfl kk) K
theorem Go.ixor {x y' : Int32} (hd : decode bytes pc = .ok (.ixor, 1)) (q : pc + 1 = pc') (K : Go l Z y bytes mx rt R EL n0 w Q h kc ks SL pc' L (.int (x ^^^ y') :: S)) : Go l Z y bytes mx rt R EL n0 w Q h kc ks SL pc L (.int y' :: .int x :: S) := Go.st (fun W t kk => by obtain ⟨⟨hx, hby, -⟩, _, _, X, -⟩ := W; subst q; exact XS.ixor X.here hx rfl (hb hby hd) rfl kk) K
theorem Go.imul {x y' : Int32} (hd : decode bytes pc = .ok (.imul, 1)) (q : pc + 1 = pc') (K : Go l Z y bytes mx rt R EL n0 w Q h kc ks SL pc' L (.int (x * y') :: S)) : Go l Z y bytes mx rt R EL n0 w Q h kc ks SL pc L (.int y' :: .int x :: S) := Go.st (fun W t kk => by obtain ⟨⟨hx, hby, -⟩, _, _, X, -⟩ := W; subst q; exact XS.imul X.here hx rfl (hb hby hd) rfl kk) K
theorem Go.ishl {x y' : Int32} (hd : decode bytes pc = .ok (.ishl, 1)) (q : pc + 1 = pc') (K : Go l Z y bytes mx rt R EL n0 w Q h kc ks SL pc' L (.int (x <<< (y' &&& 31)) :: S)) : Go l Z y bytes mx rt R EL n0 w Q h kc ks SL pc L (.int y' :: .int x :: S) := Go.st (fun W t kk => by obtain ⟨⟨hx, hby, -⟩, _, _, X, -⟩ := W; subst q; exact XS.ishl X.here hx rfl (hb hby hd) rfl kk) K
theorem Go.ishr {x y' : Int32} (hd : decode bytes pc = .ok (.ishr, 1)) (q : pc + 1 = pc') (K : Go l Z y bytes mx rt R EL n0 w Q h kc ks SL pc' L (.int (x >>> (y' &&& 31)) :: S)) : Go l Z y bytes mx rt R EL n0 w Q h kc ks SL pc L (.int y' :: .int x :: S) := Go.st (fun W t kk => by obtain ⟨⟨hx, hby, -⟩, _, _, X, -⟩ := W; subst q; exact XS.ishr X.here hx rfl (hb hby hd) rfl kk) K
theorem Go.iushr {x y' : Int32} (hd : decode bytes pc = .ok (.iushr, 1)) (q : pc + 1 = pc') (K : Go l Z y bytes mx rt R EL n0 w Q h kc ks SL pc' L (.int (usr x y') :: S)) : Go l Z y bytes mx rt R EL n0 w Q h kc ks SL pc L (.int y' :: .int x :: S) := Go.st (fun W t kk => by obtain ⟨⟨hx, hby, -⟩, _, _, X, -⟩ := W; subst q; exact XS.iushr X.here hx rfl (hb hby hd) rfl kk) K
theorem Go.ladd {x y' : Int64} (hd : decode bytes pc = .ok (.ladd, 1)) (q : pc + 1 = pc') (K : Go l Z y bytes mx rt R EL n0 w Q h kc ks SL pc' L (.long (x + y') :: S)) : Go l Z y bytes mx rt R EL n0 w Q h kc ks SL pc L (.long y' :: .long x :: S) := Go.st (fun W t kk => by obtain ⟨⟨hx, hby, -⟩, _, _, X, -⟩ := W; subst q; exact XS.ladd X.here hx rfl (hb hby hd) rfl kk) K
theorem Go.lsub {x y' : Int64} (hd : decode bytes pc = .ok (.lsub, 1)) (q : pc + 1 = pc') (K : Go l Z y bytes mx rt R EL n0 w Q h kc ks SL pc' L (.long (x - y') :: S)) : Go l Z y bytes mx rt R EL n0 w Q h kc ks SL pc L (.long y' :: .long x :: S) := Go.st (fun W t kk => by obtain ⟨⟨hx, hby, -⟩, _, _, X, -⟩ := W; subst q; exact XS.lsub X.here hx rfl (hb hby hd) rfl kk) K
theorem Go.land {x y' : Int64} (hd : decode bytes pc = .ok (.land, 1)) (q : pc + 1 = pc') (K : Go l Z y bytes mx rt R EL n0 w Q h kc ks SL pc' L (.long (x &&& y') :: S)) : Go l Z y bytes mx rt R EL n0 w Q h kc ks SL pc L (.long y' :: .long x :: S) := Go.st (fun W t kk => by obtain ⟨⟨hx, hby, -⟩, _, _, X, -⟩ := W; subst q; exact XS.land X.here hx rfl (hb hby hd) rfl kk) K
theorem Go.lor {x y' : Int64} (hd : decode bytes pc = .ok (.lor, 1)) (q : pc + 1 = pc') (K : Go l Z y bytes mx rt R EL n0 w Q h kc ks SL pc' L (.long (x ||| y') :: S)) : Go l Z y bytes mx rt R EL n0 w Q h kc ks SL pc L (.long y' :: .long x :: S) := Go.st (fun W t kk => by obtain ⟨⟨hx, hby, -⟩, _, _, X, -⟩ := W; subst q; exact XS.lor X.here hx rfl (hb hby hd) rfl kk) K
theorem Go.lxor {x y' : Int64} (hd : decode bytes pc = .ok (.lxor, 1)) (q : pc + 1 = pc') (K : Go l Z y bytes mx rt R EL n0 w Q h kc ks SL pc' L (.long (x ^^^ y') :: S)) : Go l Z y bytes mx rt R EL n0 w Q h kc ks SL pc L (.long y' :: .long x :: S) := Go.st (fun W t kk => by obtain ⟨⟨hx, hby, -⟩, _, _, X, -⟩ := W; subst q; exact XS.lxor X.here hx rfl (hb hby hd) rfl kk) K
theorem Go.lmul {x y' : Int64} (hd : decode bytes pc = .ok (.lmul, 1)) (q : pc + 1 = pc') (K : Go l Z y bytes mx rt R EL n0 w Q h kc ks SL pc' L (.long (x * y') :: S)) : Go l Z y bytes mx rt R EL n0 w Q h kc ks SL pc L (.long y' :: .long x :: S) := Go.st (fun W t kk => by obtain ⟨⟨hx, hby, -⟩, _, _, X, -⟩ := W; subst q; exact XS.lmul X.here hx rfl (hb hby hd) rfl kk) K
theorem Go.irem {x y' : Int32} (hd : decode bytes pc = .ok (.irem, 1)) (hy : y' ≠ 0) (q : pc + 1 = pc') (K : Go l Z y bytes mx rt R EL n0 w Q h kc ks SL pc' L (.int (x % y') :: S)) : Go l Z y bytes mx rt R EL n0 w Q h kc ks SL pc L (.int y' :: .int x :: S) := Go.st (fun W t kk => by obtain ⟨⟨hx, hby, -⟩, _, _, X, -⟩ := W; subst q; exact iremM X hx rfl (hb hby hd) rfl hy kk) K
theorem Go.idiv {x y' : Int32} (hd : decode bytes pc = .ok (.idiv, 1)) (hy : y' ≠ 0) (q : pc + 1 = pc') (K : Go l Z y bytes mx rt R EL n0 w Q h kc ks SL pc' L (.int (x / y') :: S)) : Go l Z y bytes mx rt R EL n0 w Q h kc ks SL pc L (.int y' :: .int x :: S) := Go.st (fun W t kk => by obtain ⟨⟨hx, hby, -⟩, _, _, X, -⟩ := W; subst q; exact XS.idiv X.here hx rfl (hb hby hd) rfl hy kk) K
theorem Go.ineg {x : Int32} (hd : decode bytes pc = .ok (.ineg, 1)) (q : pc + 1 = pc') (K : Go l Z y bytes mx rt R EL n0 w Q h kc ks SL pc' L (.int (-x) :: S)) : Go l Z y bytes mx rt R EL n0 w Q h kc ks SL pc L (.int x :: S) := Go.st (fun W t kk => by obtain ⟨⟨hx, hby, -⟩, _, _, X, -⟩ := W; subst q; exact XS.ineg X.here hx rfl (hb hby hd) rfl kk) K
theorem Go.lcmp {x y' : Int64} (hd : decode bytes pc = .ok (.lcmp, 1)) (q : pc + 1 = pc') (K : Go l Z y bytes mx rt R EL n0 w Q h kc ks SL pc' L (.int (lcmpW x y') :: S)) : Go l Z y bytes mx rt R EL n0 w Q h kc ks SL pc L (.long y' :: .long x :: S) := Go.st (fun W t kk => by obtain ⟨⟨hx, hby, -⟩, _, _, X, -⟩ := W; subst q; exact XS.lcmp X.here hx rfl (hb hby hd) rfl kk) K
theorem Go.dup {x : Value} (hd : decode bytes pc = .ok (.dup, 1)) (hc : x.category = 1) (q : pc + 1 = pc') (K : Go l Z y bytes mx rt R EL n0 w Q h kc ks SL pc' L (x :: x :: S)) : Go l Z y bytes mx rt R EL n0 w Q h kc ks SL pc L (x :: S) := Go.st (fun W t kk => by obtain ⟨⟨hx, hby, -⟩, _, _, X, -⟩ := W; subst q; exact XS.dup X.here hx rfl (hb hby hd) rfl hc kk) K
theorem Go.dupX1 {x x2 : Value} (hd : decode bytes pc = .ok (.dup_x1, 1)) (hc : x.category = 1) (hc' : x2.category = 1) (q : pc + 1 = pc') (K : Go l Z y bytes mx rt R EL n0 w Q h kc ks SL pc' L (x :: x2 :: x :: S)) : Go l Z y bytes mx rt R EL n0 w Q h kc ks SL pc L (x :: x2 :: S) := Go.st (fun W t kk => by obtain ⟨⟨hx, hby, -⟩, _, _, X, -⟩ := W; subst q; exact XS.dupX1 X.here hx rfl (hb hby hd) rfl hc hc' kk) K
theorem Go.pop {x : Value} (hd : decode bytes pc = .ok (.pop, 1)) (hc : x.category = 1) (q : pc + 1 = pc') (K : Go l Z y bytes mx rt R EL n0 w Q h kc ks SL pc' L S) : Go l Z y bytes mx rt R EL n0 w Q h kc ks SL pc L (x :: S) := Go.st (fun W t kk => by obtain ⟨⟨hx, hby, -⟩, _, _, X, -⟩ := W; subst q; exact XS.pop X.here hx rfl (hb hby hd) rfl hc kk) K
theorem Go.iinc {k : Nat} {cst : Int} {x : Int32} (z : Int32) (L' : Array Slot) (hd : decode bytes pc = .ok (.iinc k cst, 3)) (hl : L[k]? = some (.val (.int x))) (hz : x + Int32.ofInt cst = z) (hl' : storeLocals L k (.int z) = some L') (q : pc + 3 = pc') (K : Go l Z y bytes mx rt R EL n0 w Q h kc ks SL pc' L' S) : Go l Z y bytes mx rt R EL n0 w Q h kc ks SL pc L S := Go.st (fun W t kk => by obtain ⟨⟨hx, hby, -⟩, _, _, X, -⟩ := W; subst q; subst hz; exact XS.iinc X.here hx rfl (hb hby hd) hl hl' kk) K
theorem Go.i2b {x : Int32} (hd : decode bytes pc = .ok (.i2b, 1)) (q : pc + 1 = pc') (K : Go l Z y bytes mx rt R EL n0 w Q h kc ks SL pc' L (.int (x.toInt8.toInt32) :: S)) : Go l Z y bytes mx rt R EL n0 w Q h kc ks SL pc L (.int x :: S) := Go.st (fun W t kk => by obtain ⟨⟨hx, hby, -⟩, _, _, X, -⟩ := W; subst q; exact XS.i2b X.here hx rfl (hb hby hd) rfl kk) K
theorem Go.i2c {x : Int32} (hd : decode bytes pc = .ok (.i2c, 1)) (q : pc + 1 = pc') (K : Go l Z y bytes mx rt R EL n0 w Q h kc ks SL pc' L (.int (nar .char x) :: S)) : Go l Z y bytes mx rt R EL n0 w Q h kc ks SL pc L (.int x :: S) := Go.st (fun W t kk => by obtain ⟨⟨hx, hby, -⟩, _, _, X, -⟩ := W; subst q; exact XS.i2c X.here hx rfl (hb hby hd) rfl kk) K
theorem Go.i2s {x : Int32} (hd : decode bytes pc = .ok (.i2s, 1)) (q : pc + 1 = pc') (K : Go l Z y bytes mx rt R EL n0 w Q h kc ks SL pc' L (.int (x.toInt16.toInt32) :: S)) : Go l Z y bytes mx rt R EL n0 w Q h kc ks SL pc L (.int x :: S) := Go.st (fun W t kk => by obtain ⟨⟨hx, hby, -⟩, _, _, X, -⟩ := W; subst q; exact XS.i2s X.here hx rfl (hb hby hd) rfl kk) K
theorem Go.i2l {x : Int32} (hd : decode bytes pc = .ok (.i2l, 1)) (q : pc + 1 = pc') (K : Go l Z y bytes mx rt R EL n0 w Q h kc ks SL pc' L (.long x.toInt64 :: S)) : Go l Z y bytes mx rt R EL n0 w Q h kc ks SL pc L (.int x :: S) := Go.st (fun W t kk => by obtain ⟨⟨hx, hby, -⟩, _, _, X, -⟩ := W; subst q; exact XS.i2l X.here hx rfl (hb hby hd) rfl kk) K
theorem Go.l2i {x : Int64} (hd : decode bytes pc = .ok (.l2i, 1)) (q : pc + 1 = pc') (K : Go l Z y bytes mx rt R EL n0 w Q h kc ks SL pc' L (.int x.toInt32 :: S)) : Go l Z y bytes mx rt R EL n0 w Q h kc ks SL pc L (.long x :: S) := Go.st (fun W t kk => by obtain ⟨⟨hx, hby, -⟩, _, _, X, -⟩ := W; subst q; exact XS.l2i X.here hx rfl (hb hby hd) rfl kk) K
theorem Go.goto {o : Int} (hd : decode bytes pc = .ok (.goto o, 3)) (ho : 0 ≤ (pc : Int) + o) (hp : ((pc : Int) + o).toNat = pc') (K : Go l Z y bytes mx rt R EL n0 w Q h kc ks SL pc' L S) : Go l Z y bytes mx rt R EL n0 w Q h kc ks SL pc L S := Go.st (fun W t kk => by obtain ⟨⟨hx, hby, -⟩, _, _, X, -⟩ := W; exact XS.goto X.here hx rfl rfl (hb hby hd) ho hp kk) K
theorem Go.ifT {cd : ClassFile.Cond} {x : Int32} {o : Int} (hd : decode bytes pc = .ok (.ifCond cd o, 3)) (hc : cP cd x 0) (ho : 0 ≤ (pc : Int) + o) (hp : ((pc : Int) + o).toNat = pc') (K : Go l Z y bytes mx rt R EL n0 w Q h kc ks SL pc' L S) : Go l Z y bytes mx rt R EL n0 w Q h kc ks SL pc L (.int x :: S) := Go.st (fun W t kk => by obtain ⟨⟨hx, hby, -⟩, _, _, X, -⟩ := W; exact XS.ifYes X.here hx rfl rfl (hb hby hd) rfl (if_t hc) ho hp kk) K
theorem Go.ifF {cd : ClassFile.Cond} {x : Int32} {o : Int} (hd : decode bytes pc = .ok (.ifCond cd o, 3)) (hc : cP (cneg cd) x 0) (q : pc + 3 = pc') (K : Go l Z y bytes mx rt R EL n0 w Q h kc ks SL pc' L S) : Go l Z y bytes mx rt R EL n0 w Q h kc ks SL pc L (.int x :: S) := Go.st (fun W t kk => by obtain ⟨⟨hx, hby, -⟩, _, _, X, -⟩ := W; subst q; exact XS.ifNo X.here hx rfl (hb hby hd) rfl (if_f hc) kk) K
theorem Go.icmpT {cd : ClassFile.Cond} {x x2 : Int32} {o : Int} (hd : decode bytes pc = .ok (.if_icmp cd o, 3)) (hc : cP cd x x2) (ho : 0 ≤ (pc : Int) + o) (hp : ((pc : Int) + o).toNat = pc') (K : Go l Z y bytes mx rt R EL n0 w Q h kc ks SL pc' L S) : Go l Z y bytes mx rt R EL n0 w Q h kc ks SL pc L (.int x2 :: .int x :: S) := Go.st (fun W t kk => by obtain ⟨⟨hx, hby, -⟩, _, _, X, -⟩ := W; exact XS.icmpYes X.here hx rfl rfl (hb hby hd) rfl (ic_t hc) ho hp kk) K
theorem Go.icmpF {cd : ClassFile.Cond} {x x2 : Int32} {o : Int} (hd : decode bytes pc = .ok (.if_icmp cd o, 3)) (hc : cP (cneg cd) x x2) (q : pc + 3 = pc') (K : Go l Z y bytes mx rt R EL n0 w Q h kc ks SL pc' L S) : Go l Z y bytes mx rt R EL n0 w Q h kc ks SL pc L (.int x2 :: .int x :: S) := Go.st (fun W t kk => by obtain ⟨⟨hx, hby, -⟩, _, _, X, -⟩ := W; subst q; exact XS.icmpNo X.here hx rfl (hb hby hd) rfl (ic_f hc) kk) K
theorem Go.ifnullT {o : Int} (hd : decode bytes pc = .ok (.ifnull o, 3)) (ho : 0 ≤ (pc : Int) + o) (hp : ((pc : Int) + o).toNat = pc') (K : Go l Z y bytes mx rt R EL n0 w Q h kc ks SL pc' L S) : Go l Z y bytes mx rt R EL n0 w Q h kc ks SL pc L (.null :: S) := Go.st (fun W t kk => by obtain ⟨⟨hx, hby, -⟩, _, _, X, -⟩ := W; exact XS.ifnullYes X.here hx rfl rfl (hb hby hd) rfl ho hp kk) K
theorem Go.ifnullF {o : Int} {b : Addr} (hd : decode bytes pc = .ok (.ifnull o, 3)) (q : pc + 3 = pc') (K : Go l Z y bytes mx rt R EL n0 w Q h kc ks SL pc' L S) : Go l Z y bytes mx rt R EL n0 w Q h kc ks SL pc L (.ref b :: S) := Go.st (fun W t kk => by obtain ⟨⟨hx, hby, -⟩, _, _, X, -⟩ := W; subst q; exact XS.ifnullNo X.here hx rfl (hb hby hd) rfl kk) K
theorem Go.ifnonnullT {o : Int} {b : Addr} (hd : decode bytes pc = .ok (.ifnonnull o, 3)) (ho : 0 ≤ (pc : Int) + o) (hp : ((pc : Int) + o).toNat = pc') (K : Go l Z y bytes mx rt R EL n0 w Q h kc ks SL pc' L S) : Go l Z y bytes mx rt R EL n0 w Q h kc ks SL pc L (.ref b :: S) := Go.st (fun W t kk => by obtain ⟨⟨hx, hby, -⟩, _, _, X, -⟩ := W; exact XS.ifnonnullYes X.here hx rfl rfl (hb hby hd) rfl ho hp kk) K
theorem Go.ifnonnullF {o : Int} (hd : decode bytes pc = .ok (.ifnonnull o, 3)) (q : pc + 3 = pc') (K : Go l Z y bytes mx rt R EL n0 w Q h kc ks SL pc' L S) : Go l Z y bytes mx rt R EL n0 w Q h kc ks SL pc L (.null :: S) := Go.st (fun W t kk => by obtain ⟨⟨hx, hby, -⟩, _, _, X, -⟩ := W; subst q; exact XS.ifnonnullNo X.here hx rfl (hb hby hd) rfl kk) K
theorem Go.acmp {cd : ClassFile.ACond} {x x2 : Value} {o : Int} (same : Bool) (hd : decode bytes pc = .ok (.if_acmp cd o, 3)) (h1 : x.isRef = true) (h2 : x2.isRef = true) (hq : decide (x = x2) = same) (ho : 0 ≤ (pc : Int) + o) (hp : pc' = if acV cd same = true then ((pc : Int) + o).toNat else pc + 3) (K : Go l Z y bytes mx rt R EL n0 w Q h kc ks SL pc' L S) : Go l Z y bytes mx rt R EL n0 w Q h kc ks SL pc L (x2 :: x :: S) := Go.st (fun W t kk => by obtain ⟨⟨hx, hby, -⟩, _, _, X, -⟩ := W; exact RoadKit.acmp X hx rfl h1 h2 rfl (hb hby hd) rfl hq ho hp kk) K
theorem Go.st1 {n : Nat} (q : pc + n = pc') (hst : ∀ {p : Program} {e : Env} {s : State} {m : MethodId} {args : Array Value} {below : List Frame} {meth : Method} {c : Code} {T : State} {locs : List Loc}, Stand p l e R (s.setVm T.vm) m args below meth c T locs kc ks → T.heap = h → p.tables.exec = Jvm.exec → c.code = bytes → Z.Warmed39 T.vm → T.vm.findClass y.cls = some m.cls → ∀ t, Steps p.tables e below (T.setTop (mkF m (pc + n) L' S')) t → Steps p.tables e below (T.setTop (mkF m pc L S)) t)
    (K : Go l Z y bytes mx rt R EL n0 w Q h kc ks SL pc' L' S') : Go l Z y bytes mx rt R EL n0 w Q h kc ks SL pc L S := by
  subst q
  exact Go.st (fun W t kk => by
    obtain ⟨⟨hx, hby, -⟩, _, _, X, e1, -, -, hZ, hown, -⟩ := W
    exact hst X e1 hx hby hZ hown t kk) K
/-- both ways of a branch -/
theorem Go.icmp {cd : ClassFile.Cond} {x x2 : Int32} {o : Int} (hd : decode bytes pc = .ok (.if_icmp cd o, 3)) (ho : 0 ≤ (pc : Int) + o) (hp : ((pc : Int) + o).toNat = pc') (q : pc + 3 = pc'') (Kt : cP cd x x2 → Go l Z y bytes mx rt R EL n0 w Q h kc ks SL pc' L S) (Kf : cP (cneg cd) x x2 → Go l Z y bytes mx rt R EL n0 w Q h kc ks SL pc'' L S) : Go l Z y bytes mx rt R EL n0 w Q h kc ks SL pc L (.int x2 :: .int x :: S) :=
  (cP_em cd x x2).elim (fun hc => Go.icmpT hd hc ho hp (Kt hc)) (fun hc => Go.icmpF hd hc q (Kf hc))
theorem Go.ifc {cd : ClassFile.Cond} {x : Int32} {o : Int} (hd : decode bytes pc = .ok (.ifCond cd o, 3)) (ho : 0 ≤ (pc : Int) + o) (hp : ((pc : Int) + o).toNat = pc') (q : pc + 3 = pc'') (Kt : cP cd x 0 → Go l Z y bytes mx rt R EL n0 w Q h kc ks SL pc' L S) (Kf : cP (cneg cd) x 0 → Go l Z y bytes mx rt R EL n0 w Q h kc ks SL pc'' L S) : Go l Z y bytes mx rt R EL n0 w Q h kc ks SL pc L (.int x :: S) :=
  (cP_em cd x 0).elim (fun hc => Go.ifT hd hc ho hp (Kt hc)) (fun hc => Go.ifF hd hc q (Kf hc))
theorem Go.ldcI {index : Nat} {z : Int32} (hd : decode bytes pc = .ok (.ldc index, 2)) (wd : (Jvm.Cond.constant y.cls index z).before a1 Z = true) (q : pc + 2 = pc') (K : Go l Z y bytes mx rt R EL n0 w Q h kc ks SL pc' L (.int z :: S)) : Go l Z y bytes mx rt R EL n0 w Q h kc ks SL pc L S :=
  Go.st1 q (fun X e1 hx hby hZ hown t kk => X.ldcInt hx hown (mv (s := State.setVm _ _) hZ wd) (g := mkF _ pc L S) rfl (hb hby hd) t kk) K
theorem Go.ldc2J {index : Nat} {z : Int64} (hd : decode bytes pc = .ok (.ldc2_w index, 3)) (wd : (Jvm.Cond.constantLong y.cls index z).before a1 Z = true) (q : pc + 3 = pc') (K : Go l Z y bytes mx rt R EL n0 w Q h kc ks SL pc' L (.long z :: S)) : Go l Z y bytes mx rt R EL n0 w Q h kc ks SL pc L S :=
  Go.st1 q (fun X e1 hx hby hZ hown t kk => X.ldc2Long hx hown (mv (s := State.setVm _ _) hZ wd) (g := mkF _ pc L S) rfl (hb hby hd) t kk) K
theorem Go.getF {R0 O n d host : String} {index : Nat} {a : Addr} {v : Value} (hd : decode bytes pc = .ok (.getfield index, 3)) (wd : (Jvm.Cond.fieldLink y.cls index R0 n d).before a1 Z = true ∨ (Jvm.Cond.fieldLinkNest y.cls index R0 n d host).before a1 Z = true) (via : Via Z R0 O n d) (F : Fld Z h a O n d v) (q : pc + 3 = pc')
    (K : Go l Z y bytes mx rt R EL n0 w Q h kc ks SL pc' L (v :: S)) : Go l Z y bytes mx rt R EL n0 w Q h kc ks SL pc L (.ref a :: S) := by
  intro p e s m args below meth c T W
  subst q
  have W0 := W
  obtain ⟨⟨hx, hby, -⟩, k0, locs, X, e1, -, -, hZ, hown, hC, N, -, hSf⟩ := W
  obtain ⟨T', X', e', st⟩ := RoadKit.getF X hx hZ hown wd via e1 F (g := mkF m pc L (.ref a :: S)) rfl rfl (hb hby hd)
  obtain ⟨s₂, o, st2, r⟩ := K p e s m args below meth c T' (W0.next X' e' (CHr.refl hC.1) N hSf)
  exact ⟨s₂, o, st _ st2, r⟩
theorem Go.getS {R0 O n d host : String} {index : Nat} {v : Value} (hd : decode bytes pc = .ok (.getstatic index, 3)) (wd : (Jvm.Cond.fieldLink y.cls index R0 n d).before a1 Z = true ∨ (Jvm.Cond.fieldLinkNest y.cls index R0 n d host).before a1 Z = true) (via : Via Z R0 O n d) (F : Sta Z h O n d v) (q : pc + 3 = pc')
    (K : Go l Z y bytes mx rt R EL n0 w Q h kc ks SL pc' L (v :: S)) : Go l Z y bytes mx rt R EL n0 w Q h kc ks SL pc L S := by
  intro p e s m args below meth c T W
  subst q
  have W0 := W
  obtain ⟨⟨hx, hby, -⟩, k0, locs, X, e1, -, -, hZ, hown, hC, N, -, hSf⟩ := W
  obtain ⟨T', X', e', st⟩ := RoadKit.getS2 X hx hZ hown wd via e1 F (g := mkF m pc L S) rfl (hb hby hd)
  obtain ⟨s₂, o, st2, r⟩ := K p e s m args below meth c T' (W0.next X' e' (CHr.refl hC.1) N hSf)
  exact ⟨s₂, o, st _ st2, r⟩
/-- the cell at a is no literal's -/
def Sf (Z : State) (EL : List (String × Nat)) (SL : List Addr) (h : Heap) (a : Addr) : Prop := ∀ vm, Z.Warmed39 vm → Sfs Z EL vm h SL → Safe Z EL vm h a
theorem Sf.exa {a : Addr} {C : String} (E : Exa Z h a C) (h1 : C ≠ "java/lang/String") (h2 : C ≠ "[B") : Sf Z EL SL h a := fun vm hZ _ => Safe.exa hZ.alike E h1 h2
theorem Sf.mem {a : Addr} (hm : a ∈ SL) : Sf Z EL SL h a := fun vm _ F => (F a hm).2
theorem Sf.nil {a : Addr} : Sf Z [] SL h a := fun vm _ _ B => by obtain ⟨p, hp, -⟩ := B; cases hp
theorem Sf.arr {a : Addr} {cl : Cell} {ty : FieldType} (A : Arr Z h a cl ty) (ht : ty ≠ .byte) : Sf Z EL SL h a := fun vm hZ _ => Safe.arr hZ.alike A ht
theorem Go.putF {R0 O n d host C : String} {index kk : Nat} {ty : FieldType} {a : Addr} {v old : Value} (hd : decode bytes pc = .ok (.putfield index, 3)) (wd : (Jvm.Cond.fieldLink y.cls index R0 n d).before a1 Z = true ∨ (Jvm.Cond.fieldLinkNest y.cls index R0 n d host).before a1 Z = true) (via : Via Z R0 O n d) (F : Fld Z h a O n d old) (E : Exa Z h a C)
    (Ly : (Jvm.Cond.lays C O n d).before a1 Z = true ∨ ((Jvm.Cond.laysFinal C O n d).before a1 Z = true ∧ y.cls = O ∧ y.name = "<init>")) (wi : (Jvm.Cond.instantiable C kk).before a1 Z = true) (hty : parseFieldDescriptor d = some ty) (hn : narrow ty v = v) (hf : fits ty v = true) (hsafe : Sf Z EL SL h a) (ha : n0 ≤ a) (q : pc + 3 = pc')
    (K : ∀ h', Wr h h' a (RoadKit.slotOf Z O n d) v → Go l Z y bytes mx rt R EL n0 w Q h' kc ks SL pc' L S) : Go l Z y bytes mx rt R EL n0 w Q h kc ks SL pc L (v :: .ref a :: S) := by
  intro p e s m args below meth c T W
  subst q
  have W0 := W
  obtain ⟨⟨hx, hby, -, -, -, hnm, -⟩, k0, locs, X, e1, -, -, hZ, hown, hC, N, -, hSf⟩ := W
  obtain ⟨T', h', X', e', Wr', st⟩ := RoadKit.putF X hx hZ hown wd via e1 F E (Ly.imp id fun q => ⟨q.1, q.2.1, hnm.trans q.2.2⟩) wi hty hn hf (g := mkF m pc L (v :: .ref a :: S)) rfl rfl (hb hby hd)
  have A := CHr.wr Wr' (hsafe _ hZ hSf) hC.1
  obtain ⟨s₂, o, st2, r⟩ := K h' Wr' p e s m args below meth c T' (W0.next X' e' A (Fr.snoc X' N ha) (hSf.chr A))
  exact ⟨s₂, o, st _ st2, r⟩
theorem Go.newO {C : String} {index n : Nat} (hd : decode bytes pc = .ok (.new index, 3)) (wd : (Jvm.Cond.classLink y.cls index C).before a1 Z = true) (wi : (Jvm.Cond.instantiable C n).before a1 Z = true) (wz : (Jvm.Cond.initialized C).before a1 Z = true) (hc : kc + 1 ≤ R.cells) (hl : ks + n ≤ R.slots) (q : pc + 3 = pc')
    (K : ∀ (a : Addr) (h' : Heap), a = h.size → Ext h h' → Exa Z h' a C → (∀ {O nm d : String} {ty : FieldType}, Laid Z a1 C O nm d → parseFieldDescriptor d = some ty → Fld Z h' a O nm d (defaultValue ty)) → Go l Z y bytes mx rt R EL n0 w Q h' (kc + 1) (ks + n) (a :: SL) pc' L (.ref a :: S)) : Go l Z y bytes mx rt R EL n0 w Q h kc ks SL pc L S := by
  intro p e s m args below meth c T W
  subst q
  have W0 := W
  obtain ⟨⟨hx, hby, -⟩, k0, locs, X, e1, -, -, hZ, hown, hC, N, -, hSf⟩ := W
  obtain ⟨T', h', X', e', E, A, D, -, st⟩ := RoadKit.newO X hx hZ hown wd wi wz e1 (g := mkF m pc L S) rfl (hb hby hd) hc hl
  have B := CHr.ext (vm := T.vm) (EL := EL) (Z := Z) E hC.1
  have hS2 : Sfs Z EL T.vm h' (h.size :: SL) := fun x hx' => by
    rcases List.mem_cons.mp hx' with rfl | q
    · exact ⟨A.lt, Safe.ext E hC.1 (Safe.new (Nat.le_refl _))⟩
    · exact hSf.chr B x q
  obtain ⟨s₂, o, st2, r⟩ := K h.size h' rfl E A D p e s m args below meth c T' (W0.next X' e' B N hS2)
  exact ⟨s₂, o, st _ st2, r⟩
theorem Go.newP {aty : ArrayType} {n : Int32} (cap : Nat) (hd : decode bytes pc = .ok (.newarray aty, 2)) (wd : (Jvm.Cond.arrayClass (newarray.typeOf aty)).before a1 Z = true) (hn : ¬ n < 0) (hcap : n.toNatClampNeg ≤ cap) (hb' : cap * 8 ≤ 536870912) (hc : kc + 1 ≤ R.cells) (hl : ks + cap ≤ R.slots) (q : pc + 2 = pc')
    (K : ∀ (a : Addr) (h' : Heap) (cA : ClassId), a = h.size → Ext h h' → Arr Z h' a (newA cA (newarray.typeOf aty) n) (newarray.typeOf aty) → Go l Z y bytes mx rt R EL n0 w Q h' (kc + 1) (ks + cap) (a :: SL) pc' L (.ref a :: S)) : Go l Z y bytes mx rt R EL n0 w Q h kc ks SL pc L (.int n :: S) := by
  intro p e s m args below meth c T W
  subst q
  have W0 := W
  obtain ⟨⟨hx, hby, -⟩, k0, locs, X, e1, -, -, hZ, hown, hC, N, -, hSf⟩ := W
  obtain ⟨T', h', cA, X', e', E, A, st⟩ := RoadKit.newP X hx hZ wd e1 (g := mkF m pc L (.int n :: S)) rfl (hb hby hd) rfl hn hcap hb' hc hl
  have B := CHr.ext (vm := T.vm) (EL := EL) (Z := Z) E hC.1
  have hS2 : Sfs Z EL T.vm h' (h.size :: SL) := fun x hx' => by
    rcases List.mem_cons.mp hx' with rfl | q
    · exact ⟨A.lt, Safe.ext E hC.1 (Safe.new (Nat.le_refl _))⟩
    · exact hSf.chr B x q
  obtain ⟨s₂, o, st2, r⟩ := K h.size h' cA rfl E A p e s m args below meth c T' (W0.next X' e' B N hS2)
  exact ⟨s₂, o, st _ st2, r⟩
theorem Go.initO {index : Nat} {a : Addr} (hd : decode bytes pc = .ok (.invokespecial index, 3)) (w1 : (Jvm.Cond.methodLink y.cls index Lib.objectInit).before a1 Z = true) (w2 : (Jvm.Cond.instanceMethod Lib.objectInit).before a1 Z = true) (w3 : (Jvm.Cond.code Lib.objectInit ⟨#[0xb1]⟩ 1 none).before a1 Z = true) (hL : L.size = mx) (hf : 1 ≤ R.frames) (Wd : Nat) (hW : (S.map fun v => v.category).sum = Wd) (hl : Wd + 12 ≤ R.locals) (q : pc + 3 = pc')
    (K : Go l Z y bytes mx rt R EL n0 w Q h kc ks SL pc' L S) : Go l Z y bytes mx rt R EL n0 w Q h kc ks SL pc L (.ref a :: S) := by
  intro p e s m args below meth c T W
  subst q
  have W0 := W
  obtain ⟨⟨hx, hby, hml, -⟩, k0, locs, X, e1, -, -, hZ, hown, hC, N, -, hSf⟩ := W
  obtain ⟨T', X', e', st⟩ := RoadKit.initO X hx hZ hown w1 w2 w3 e1 (g := mkF m pc L (.ref a :: S)) rfl (hL.trans hml.symm) rfl (hb hby hd) hf (W := Wd) (by show 2 * 0 + _ ≤ _; omega) hl
  obtain ⟨s₂, o, st2, r⟩ := K p e s m args below meth c T' (W0.next X' e' (CHr.refl hC.1) N hSf)
  exact ⟨s₂, o, st _ st2, r⟩
/-- a String constant, unread -/
theorem Go.ldcO {index : Nat} {text : String} (n : Nat) (hd : decode bytes pc = .ok (.ldc index, 2)) (hw : w = true) (wd : (Jvm.Cond.stringLink y.cls index text).before a1 Z = true) (wS : ∀ d ∈ Bundle.stringAtoms, d.before a1 Z = true) (hn : 4 * text.toList.length ≤ n) (hbig : n ≤ 536870912) (hc : kc + 2 ≤ R.cells) (hl : ks + (n + 4) ≤ R.slots) (q : pc + 2 = pc') (hEL : EW Z a1 EL)
    (K : ∀ (a : Addr) (h' : Heap), Ext h h' → Go l Z y bytes mx rt R EL n0 w Q h' (kc + 2) (ks + (n + 4)) SL pc' L (.ref a :: S)) : Go l Z y bytes mx rt R EL n0 w Q h kc ks SL pc L S := by
  intro p e s m args below meth c T W
  subst q
  have W0 := W
  obtain ⟨⟨hx, hby, -⟩, k0, locs, X, e1, hS, hk, hZ, hown, hC, N, -, hSf⟩ := W
  obtain ⟨a, T', h', k1, X', e', E, hS', hk', hZ', hown', hC', -, st⟩ := RoadKit.ldcOH (s := s.setVm T.vm) (vm0 := T.vm) X hx hZ hown wd wS e1 (k0 := h.size) ((State.WarmedH.refl _).since _) (Nat.le_refl _) hEL hC.1 (g := mkF m pc L S) rfl (hb hby hd) hn hbig hc hl
  have hS2 : (s.setVm T.vm).Since T'.vm h'.size := ⟨hS'.1, fun j p hj hp => by obtain ⟨z1, z2⟩ := hS'.2 j p hj hp; exact ⟨z1, Nat.lt_of_lt_of_le z2 hk'⟩⟩
  obtain ⟨s₂, o, st2, r⟩ := K a h' E p e s m args below meth c T' (W0.nextS X' e' hS2 E.1 (Nat.le_refl _) hC' N (fun q => by rw [hw] at q; cases q) (hSf.chr hC'))
  exact ⟨s₂, o, st _ st2, r⟩
/-- a String constant, read -/
theorem Go.ldcR {index : Nat} {text : String} (n : Nat) {vs : List Value} {z : Int32} (hd : decode bytes pc = .ok (.ldc index, 2)) (hw : w = true) (wd : (Jvm.Cond.stringLink y.cls index text).before a1 Z = true) (wS : ∀ d ∈ Bundle.stringAtoms, d.before a1 Z = true) (hn : 4 * text.toList.length ≤ n) (hbig : n ≤ 536870912) (hc : kc + 2 ≤ R.cells) (hl : ks + (n + 4) ≤ R.slots) (q : pc + 2 = pc') (hEL : EW Z a1 EL) (hmem : (y.cls, index) ∈ EL)
    (ht : (∀ c ∈ text.toList, c.toNat < 256) ∧ text.toList.map (fun c => Value.int (Jvm.Lit.byteI c.toNat.toUInt16)) = vs) (hz : ¬ z < 0) (hzl : z.toNatClampNeg = vs.length)
    (K : ∀ (a : Addr) (h' : Heap) (b : Addr) (k : ClassId), Ext h h' → Exa Z h' a "java/lang/String" → Fld Z h' a "java/lang/String" "coder" "B" (.int 0) → Fld Z h' a "java/lang/String" "value" "[B" (.ref b) → Arv Z h' b k .byte z vs (.int 0) → (∀ x ∈ SL, x ≠ a ∧ x ≠ b) → Go l Z y bytes mx rt R EL n0 w Q h' (kc + 2) (ks + (n + 4)) SL pc' L (.ref a :: S)) : Go l Z y bytes mx rt R EL n0 w Q h kc ks SL pc L S := by
  intro p e s m args below meth c T W
  subst q
  have W0 := W
  obtain ⟨⟨hx, hby, -⟩, k0, locs, X, e1, hS, hk, hZ, hown, hC, N, -, hSf⟩ := W
  obtain ⟨a, T', h', k1, b, k, X', e', E, hS', hk', hZ', hown', E1, E2, E3, E4, -, -, hC', -, hne, st⟩ := RoadKit.ldcCH (s := s.setVm T.vm) (vm0 := T.vm) X hx hZ hown wd wS e1 (k0 := h.size) ((State.WarmedH.refl _).since _) (Nat.le_refl _) hEL hmem hC.1 ht hz hzl (g := mkF m pc L S) rfl (hb hby hd) hn hbig hc hl
  have hS2 : (s.setVm T.vm).Since T'.vm h'.size := ⟨hS'.1, fun j p hj hp => by obtain ⟨z1, z2⟩ := hS'.2 j p hj hp; exact ⟨z1, Nat.lt_of_lt_of_le z2 hk'⟩⟩
  obtain ⟨s₂, o, st2, r⟩ := K a h' b k E E1 E2 E3 E4 (fun x hx' => hne x ((hSf.chr hC') x hx').2) p e s m args below meth c T' (W0.nextS X' e' hS2 E.1 (Nat.le_refl _) hC' N (fun q => by rw [hw] at q; cases q) (hSf.chr hC'))
  exact ⟨s₂, o, st _ st2, r⟩
section Calls
variable {z yy : MethodName} {bytesZ : ByteArray} {mxZ : Nat} {rtZ : Option FieldType} {rm : Room} {QZ : Option Value → Heap → List Addr → Prop} {argsL rest : List Value} {index : Nat}
theorem Go.callS (hM : Ct l Z z bytesZ mxZ rtZ rm EL n0 w [] argsL.toArray h SL' QZ) (hd : decode bytes pc = .ok (.invokestatic index, 3)) (w1 : (Jvm.Cond.methodLink y.cls index z).before a1 Z = true) (w2 : (Jvm.Cond.static z).before a1 Z = true) (w3 : (Jvm.Cond.initialized z.cls).before a1 Z = true) (w4 : (Jvm.Cond.code z bytesZ mxZ rtZ).before a1 Z = true)
    (hy : z.cls ≠ "java/lang/invoke/MethodHandle" ∧ z.cls ≠ "java/lang/invoke/VarHandle") (hlen : ∀ sig, parseMethodDescriptor z.desc = some sig → argsL.length = sig.parameters.length) (hst : S = argsL.reverse ++ rest) (Wd : Nat) (hW : (rest.map fun v => v.category).sum = Wd) (hL : L.size = mx) (hf : rm.frames + 1 ≤ R.frames) (hl : Wd + (mxZ + 11) + rm.locals ≤ R.locals) (hc : kc + rm.cells ≤ R.cells) (hs : ks + rm.slots ≤ R.slots) (hSL : ∀ x ∈ SL', x ∈ SL) (q : pc + 3 = pc')
    (K : ∀ v h' N, QZ v h' N → h.size ≤ h'.size → Go l Z y bytes mx rt R EL n0 w Q h' (kc + rm.cells) (ks + rm.slots) (N ++ SL) pc' L (v.toList ++ rest)) : Go l Z y bytes mx rt R EL n0 w Q h kc ks SL pc L S := by
  intro p e s m args below meth c T W
  subst q
  have W0 := W
  obtain ⟨⟨hx, hby, hml, -, -, -, a2, hEW⟩, k0, locs, X, e1, hS, hk, hZ, hown, hC, N, -, hSf⟩ := W
  obtain ⟨v, vm₁, ⟨T', Lt, kt, nt⟩, -, X', hS', hgr, ⟨Ls, N', hQ, hFr, l1, l2, l3, hC', hSf', hw'⟩, st⟩ := RoadKit.callSS X hx hown (mvT (s := s.setVm T.vm) hZ w1) (mvT (s := s.setVm T.vm) hZ w2) (mvT (s := s.setVm T.vm) hZ w3) (mvT (s := s.setVm T.vm) hZ w4) hy (Ct.pay (W := Wd) hM hZ hEW hC.1 (hSf.mono hSL) w4 w3 hf hl) (g := mkF m pc L S) rfl (hL.trans hml.symm) (argsL := argsL) (rest := rest) hlen hst (by show 2 * 0 + _ ≤ _; omega) (hb hby hd) (fun _ _ => ⟨rfl, e1, hc, hs⟩)
  dsimp only [Pt.U, Pt.locs, Pt.cells, Pt.slots] at X' l1 l2 l3 st hQ hC' hSf' hw' hgr hS'
  subst l1 l2 l3
  have hS2 : Sfs Z EL T'.vm T'.heap (N' ++ SL) := fun x hx' => (List.mem_append.mp hx').elim (hSf' x) (hSf.chr hC' x)
  obtain ⟨s₂, o, st2, r⟩ := K v _ N' hQ hC'.2.1 p e s m args below meth c T' (W0.nextS X' rfl hS' hC'.2.1 (Nat.le_refl _) hC' (N.app hFr) hw' hS2)
  exact ⟨s₂, o, st.trans st2, r⟩
theorem Go.callN {a : Addr} (hM : Ct l Z z bytesZ mxZ none rm EL n0 w [] (.ref a :: argsL).toArray h SL' QZ) (hd : decode bytes pc = .ok (.invokespecial index, 3)) (hz1 : z.name = "<init>") (w1 : (Jvm.Cond.methodLink y.cls index z).before a1 Z = true) (w2 : (Jvm.Cond.instanceMethod z).before a1 Z = true) (w3 : (Jvm.Cond.initialized z.cls).before a1 Z = true) (w4 : (Jvm.Cond.code z bytesZ mxZ none).before a1 Z = true)
    (hy : z.cls ≠ "java/lang/invoke/MethodHandle" ∧ z.cls ≠ "java/lang/invoke/VarHandle") (hlen : ∀ sig, parseMethodDescriptor z.desc = some sig → argsL.length = sig.parameters.length) (hst : S = argsL.reverse ++ .ref a :: rest) (Wd : Nat) (hW : (rest.map fun v => v.category).sum = Wd) (hL : L.size = mx) (hf : rm.frames + 1 ≤ R.frames) (hl : Wd + (mxZ + 11) + rm.locals ≤ R.locals) (hc : kc + rm.cells ≤ R.cells) (hs : ks + rm.slots ≤ R.slots) (hSL : ∀ x ∈ SL', x ∈ SL) (q : pc + 3 = pc')
    (K : ∀ v h' N, QZ v h' N → h.size ≤ h'.size → Go l Z y bytes mx rt R EL n0 w Q h' (kc + rm.cells) (ks + rm.slots) (N ++ SL) pc' L (v.toList ++ rest)) : Go l Z y bytes mx rt R EL n0 w Q h kc ks SL pc L S := by
  intro p e s m args below meth c T W
  subst q
  have W0 := W
  obtain ⟨⟨hx, hby, hml, -, -, -, a2, hEW⟩, k0, locs, X, e1, hS, hk, hZ, hown, hC, N, -, hSf⟩ := W
  obtain ⟨v, vm₁, ⟨T', Lt, kt, nt⟩, -, X', hS', hgr, ⟨Ls, N', hQ, hFr, l1, l2, l3, hC', hSf', hw'⟩, st⟩ := X.specialBackS hx hz1 hown (mvT (s := s.setVm T.vm) hZ w1) (mvT (s := s.setVm T.vm) hZ w2) (mvT (s := s.setVm T.vm) hZ w4) hy (Ct.pay (W := Wd) hM hZ hEW hC.1 (hSf.mono hSL) w4 w3 hf hl) (g := mkF m pc L S) rfl (hL.trans hml.symm) (Steps.refl _) (a := a) (argsL := argsL) (rest := rest) hlen hst (by show 2 * 0 + _ ≤ _; omega) (hb hby hd) (fun _ _ => ⟨rfl, e1, hc, hs⟩)
  dsimp only [Pt.U, Pt.locs, Pt.cells, Pt.slots] at X' l1 l2 l3 st hQ hC' hSf' hw' hgr hS'
  subst l1 l2 l3
  have hS2 : Sfs Z EL T'.vm T'.heap (N' ++ SL) := fun x hx' => (List.mem_append.mp hx').elim (hSf' x) (hSf.chr hC' x)
  obtain ⟨s₂, o, st2, r⟩ := K v _ N' hQ hC'.2.1 p e s m args below meth c T' (W0.nextS X' rfl hS' hC'.2.1 (Nat.le_refl _) hC' (N.app hFr) hw' hS2)
  exact ⟨s₂, o, st.trans st2, r⟩
theorem Go.callV {a : Addr} {C : String} (hM : Ct l Z z bytesZ mxZ rtZ rm EL n0 w [] (.ref a :: argsL).toArray h SL' QZ) (hd : decode bytes pc = .ok (.invokevirtual index, 3)) (w1 : (Jvm.Cond.methodLink y.cls index yy).before a1 Z = true) (wdec : (Jvm.Cond.declares yy).before a1 Z = true) (wnf : (Jvm.Cond.selects yy.cls yy yy).before a1 Z = true) (wsel : (Jvm.Cond.selects C yy z).before a1 Z = true) (w2 : (Jvm.Cond.instanceMethod z).before a1 Z = true) (w3 : (Jvm.Cond.initialized z.cls).before a1 Z = true) (w4 : (Jvm.Cond.code z bytesZ mxZ rtZ).before a1 Z = true) (E : Exa Z h a C)
    (hy : yy.cls ≠ "java/lang/invoke/MethodHandle" ∧ yy.cls ≠ "java/lang/invoke/VarHandle") (hlen : ∀ sig, parseMethodDescriptor yy.desc = some sig → argsL.length = sig.parameters.length) (hst : S = argsL.reverse ++ .ref a :: rest) (Wd : Nat) (hW : (rest.map fun v => v.category).sum = Wd) (hL : L.size = mx) (hf : rm.frames + 1 ≤ R.frames) (hl : Wd + (mxZ + 11) + rm.locals ≤ R.locals) (hc : kc + rm.cells ≤ R.cells) (hs : ks + rm.slots ≤ R.slots) (hSL : ∀ x ∈ SL', x ∈ SL) (q : pc + 3 = pc')
    (K : ∀ v h' N, QZ v h' N → h.size ≤ h'.size → Go l Z y bytes mx rt R EL n0 w Q h' (kc + rm.cells) (ks + rm.slots) (N ++ SL) pc' L (v.toList ++ rest)) : Go l Z y bytes mx rt R EL n0 w Q h kc ks SL pc L S := by
  intro p e s m args below meth c T W
  subst q
  have W0 := W
  obtain ⟨⟨hx, hby, hml, -, -, -, a2, hEW⟩, k0, locs, X, e1, hS, hk, hZ, hown, hC, N, -, hSf⟩ := W
  obtain ⟨cq, kq, qa, qb, qc⟩ := isOf (s := s.setVm T.vm) hZ e1 E
  obtain ⟨v, vm₁, ⟨T', Lt, kt, nt⟩, -, X', hS', hgr, ⟨Ls, N', hQ, hFr, l1, l2, l3, hC', hSf', hw'⟩, st⟩ := X.virtualBackS hx hown (mvT (s := s.setVm T.vm) hZ w1) (mvT (s := s.setVm T.vm) hZ wdec) (notFace_of_selects (args := #[]) (mvT (s := s.setVm T.vm) hZ wnf)) (mvT (s := s.setVm T.vm) hZ wsel) (mvT (s := s.setVm T.vm) hZ w2) hy (Ct.pay (W := Wd) hM hZ hEW hC.1 (hSf.mono hSL) w4 w3 hf hl) qa qc (g := mkF m pc L S) rfl (hL.trans hml.symm) (Steps.refl _) (argsL := argsL) (rest := rest) hlen hst (by show 2 * 0 + _ ≤ _; omega) (hb hby hd) (fun _ _ => ⟨rfl, e1, hc, hs⟩)
  dsimp only [Pt.U, Pt.locs, Pt.cells, Pt.slots] at X' l1 l2 l3 st hQ hC' hSf' hw' hgr hS'
  subst l1 l2 l3
  have hS2 : Sfs Z EL T'.vm T'.heap (N' ++ SL) := fun x hx' => (List.mem_append.mp hx').elim (hSf' x) (hSf.chr hC' x)
  obtain ⟨s₂, o, st2, r⟩ := K v _ N' hQ hC'.2.1 p e s m args below meth c T' (W0.nextS X' rfl hS' hC'.2.1 (Nat.le_refl _) hC' (N.app hFr) hw' hS2)
  exact ⟨s₂, o, st.trans st2, r⟩
end Calls
/-- the end of a body -/
theorem Go.out {v : Option Value} (hv : rt = none → v = none) (N : List Addr) (hN : ∀ x ∈ N, x ∈ SL) (hQ : Q v h N) (hc : kc ≤ R.cells) (hs : ks ≤ R.slots)
    (hst : ∀ {p : Program} {e : Env} {s : State} {m : MethodId} {args : Array Value} {below : List Frame} {meth : Method} {c : Code} {T : State} {locs : List Loc}, p.tables.exec = Jvm.exec → c.code = bytes → meth.sig.returnType = rt → Stand p l e R (s.setVm T.vm) m args below meth c T locs kc ks → ∀ fs, (∀ (f : JFrame) (acts : List Action), f.method = m → f.locked = none → f.entered = [] → (doReturn e (T.setTop f) acts v).1 = T.setFrames fs) → Steps p.tables e below (T.setTop (mkF m pc L S)) (T.setFrames fs)) :
    Go l Z y bytes mx rt R EL n0 w Q h kc ks SL pc L S := by
  intro p e s m args below meth c T W
  obtain ⟨⟨hx, hby, hml, hrt, hlk, -⟩, k0, locs, X, e1, hS, hk, hZ, hown, hC, Nn, hw', hSf⟩ := W
  obtain ⟨fs, hr, hrun, hended, hW⟩ := X.leaveW hS (by rw [e1]; exact hk) (v := v) (fun q => hv (hrt.symm.trans q)) hlk
  refine ⟨_, _, hst hx hby hrt X fs hr, hrun, hended, v, locs, N, rfl, ?_, Nn, ?_, ?_, ⟨hW.1, hW.2.1, hW.2.2.1, hW.2.2.2.mono hc hs⟩, hw'⟩
  · show Q v T.heap N; rw [e1]; exact hQ
  · show CHr Z EL s.vm s.heap T.vm T.heap; rw [e1]; exact hC
  · show Sfs Z EL T.vm T.heap N; rw [e1]; exact hSf.mono hN
theorem Go.ret0 (hr : rt = none) (N : List Addr) (hN : ∀ x ∈ N, x ∈ SL) (hd : decode bytes pc = .ok (.return_, 1)) (hc : kc ≤ R.cells) (hs : ks ≤ R.slots) (hQ : Q none h N) : Go l Z y bytes mx rt R EL n0 w Q h kc ks SL pc L [] :=
  Go.out (v := none) (fun _ => rfl) N hN hQ hc hs (fun hx hby hrt X fs hl => X.returnOut hx (hrt.trans hr) (hb hby hd) hl)
/-- a boolean, byte, char, short -/
theorem Go.retN {t : FieldType} {z : Int32} (z' : Int32) (hr : rt = some t) (ht : t = .boolean ∨ t = .byte ∨ t = .char ∨ t = .short) (hz : nar t z = z') (N : List Addr) (hN : ∀ x ∈ N, x ∈ SL) (hd : decode bytes pc = .ok (.ireturn, 1)) (hc : kc ≤ R.cells) (hs : ks ≤ R.slots) (hQ : Q (some (.int z')) h N) : Go l Z y bytes mx rt R EL n0 w Q h kc ks SL pc L (.int z :: S) :=
  Go.out (v := some (.int z')) (fun q => by rw [hr] at q; cases q) N hN hQ hc hs (fun hx hby hrt X fs hl => RoadKit.retN X hx (hrt.trans hr) ht (hb hby hd) (by rw [hz]; exact hl))
theorem Go.retI {z : Int32} (hr : rt = some .int) (N : List Addr) (hN : ∀ x ∈ N, x ∈ SL) (hd : decode bytes pc = .ok (.ireturn, 1)) (hc : kc ≤ R.cells) (hs : ks ≤ R.slots) (hQ : Q (some (.int z)) h N) : Go l Z y bytes mx rt R EL n0 w Q h kc ks SL pc L (.int z :: S) :=
  Go.out (v := some (.int z)) (fun q => by rw [hr] at q; cases q) N hN hQ hc hs (fun hx hby hrt X fs hl => RoadKit.retOut X hx (hrt.trans hr) rfl (Or.inl ⟨rfl, Or.inl rfl, _, rfl⟩) (hb hby hd) hl)
theorem Go.retJ {z : Int64} (hr : rt = some .long) (N : List Addr) (hN : ∀ x ∈ N, x ∈ SL) (hd : decode bytes pc = .ok (.lreturn, 1)) (hc : kc ≤ R.cells) (hs : ks ≤ R.slots) (hQ : Q (some (.long z)) h N) : Go l Z y bytes mx rt R EL n0 w Q h kc ks SL pc L (.long z :: S) :=
  Go.out (v := some (.long z)) (fun q => by rw [hr] at q; cases q) N hN hQ hc hs (fun hx hby hrt X fs hl => RoadKit.retOut X hx (hrt.trans hr) rfl (Or.inr (Or.inl ⟨rfl, rfl, _, rfl⟩)) (hb hby hd) hl)
theorem narrow_ref {t : FieldType} {v : Value} (ht : t.isReference = true) : narrow t v = v := by cases t <;> cases v <;> simp_all [FieldType.isReference, narrow]
theorem fits_r {t : FieldType} {v : Value} (ht : t.isReference = true) (hv : v.isRef = true) : fits t v = true := by cases t <;> cases v <;> simp_all [FieldType.isReference, fits, Value.isRef]
theorem Go.retA {t : FieldType} {v : Value} (hr : rt = some t) (ht : t.isReference = true) (hv : v.isRef = true) (N : List Addr) (hN : ∀ x ∈ N, x ∈ SL) (hd : decode bytes pc = .ok (.areturn, 1)) (hc : kc ≤ R.cells) (hs : ks ≤ R.slots) (hQ : Q (some v) h N) : Go l Z y bytes mx rt R EL n0 w Q h kc ks SL pc L (v :: S) :=
  Go.out (v := some v) (fun q => by rw [hr] at q; cases q) N hN hQ hc hs (fun hx hby hrt X fs hl => RoadKit.retOut X hx (hrt.trans hr) (narrow_ref ht) (Or.inr (Or.inr (Or.inr (Or.inr ⟨rfl, ht, hv⟩)))) (hb hby hd) hl)
/-! arrays -/
theorem Go.alen {a : Addr} {cl : Cell} {ty : FieldType} {n : Int32} (hd : decode bytes pc = .ok (.arraylength, 1)) (A : Arr Z h a cl ty) (hn : cl.slots.size.toInt32 = n) (q : pc + 1 = pc') (K : Go l Z y bytes mx rt R EL n0 w Q h kc ks SL pc' L (.int n :: S)) : Go l Z y bytes mx rt R EL n0 w Q h kc ks SL pc L (.ref a :: S) :=
  Go.st1 q (fun X e1 hx hby hZ hown t kk => X.arraylength hx (cell := cl) (ty := ty) (e1.symm ▸ A.1) (State.isArrayOf_alike hZ.alike A.2.1) (g := mkF _ pc L (.ref a :: S)) rfl rfl (hb hby hd) t (hn.symm ▸ kk)) K
theorem Go.aaload {a : Addr} {cl : Cell} {ty : FieldType} {j : Int32} {v : Value} (hd : decode bytes pc = .ok (.aaload, 1)) (A : Arr Z h a cl ty) (hty : ty.isReference = true) (hin : ¬ (j < 0 ∨ cl.slots.size ≤ j.toNatClampNeg)) (hv : cl.slots[j.toNatClampNeg]? = some v) (q : pc + 1 = pc') (K : Go l Z y bytes mx rt R EL n0 w Q h kc ks SL pc' L (v :: S)) : Go l Z y bytes mx rt R EL n0 w Q h kc ks SL pc L (.int j :: .ref a :: S) :=
  Go.st1 q (fun X e1 hx hby hZ hown t kk => X.aaload hx (cell := cl) (e1.symm ▸ A.1) (State.isArrayOf_alike hZ.alike A.2.1) hty A.2.2 hin hv (g := mkF _ pc L (.int j :: .ref a :: S)) rfl rfl (hb hby hd) t kk) K
theorem Go.iaload {a : Addr} {cl : Cell} {j : Int32} {v : Value} (hd : decode bytes pc = .ok (.iaload, 1)) (A : Arr Z h a cl .int) (hin : ¬ (j < 0 ∨ cl.slots.size ≤ j.toNatClampNeg)) (hv : cl.slots[j.toNatClampNeg]? = some v) (q : pc + 1 = pc') (K : Go l Z y bytes mx rt R EL n0 w Q h kc ks SL pc' L (v :: S)) : Go l Z y bytes mx rt R EL n0 w Q h kc ks SL pc L (.int j :: .ref a :: S) :=
  Go.st1 q (fun X e1 hx hby hZ hown t kk => X.iaload hx (cell := cl) (e1.symm ▸ A.1) (State.isArrayOf_alike hZ.alike A.2.1) A.2.2 hin hv (g := mkF _ pc L (.int j :: .ref a :: S)) rfl rfl (hb hby hd) t kk) K
theorem Go.baload {a : Addr} {cl : Cell} {j : Int32} {v : Value} (hd : decode bytes pc = .ok (.baload, 1)) (A : Arr Z h a cl .byte) (hin : ¬ (j < 0 ∨ cl.slots.size ≤ j.toNatClampNeg)) (hv : cl.slots[j.toNatClampNeg]? = some v) (q : pc + 1 = pc') (K : Go l Z y bytes mx rt R EL n0 w Q h kc ks SL pc' L (v :: S)) : Go l Z y bytes mx rt R EL n0 w Q h kc ks SL pc L (.int j :: .ref a :: S) :=
  Go.st1 q (fun X e1 hx hby hZ hown t kk => X.baloadBytes hx (cell := cl) (e1.symm ▸ A.1) (State.isArrayOf_alike hZ.alike A.2.1) A.2.2 hin hv (g := mkF _ pc L (.int j :: .ref a :: S)) rfl rfl (hb hby hd) t kk) K
theorem Go.caload {a : Addr} {cl : Cell} {j : Int32} {v : Value} (hd : decode bytes pc = .ok (.caload, 1)) (A : Arr Z h a cl .char) (hin : ¬ (j < 0 ∨ cl.slots.size ≤ j.toNatClampNeg)) (hv : cl.slots[j.toNatClampNeg]? = some v) (q : pc + 1 = pc') (K : Go l Z y bytes mx rt R EL n0 w Q h kc ks SL pc' L (v :: S)) : Go l Z y bytes mx rt R EL n0 w Q h kc ks SL pc L (.int j :: .ref a :: S) :=
  Go.st1 q (fun X e1 hx hby hZ hown t kk => X.caload hx (cell := cl) (e1.symm ▸ A.1) (State.isArrayOf_alike hZ.alike A.2.1) A.2.2 hin hv (g := mkF _ pc L (.int j :: .ref a :: S)) rfl rfl (hb hby hd) t kk) K
theorem Go.castore {a : Addr} {cl : Cell} {j x : Int32} (hd : decode bytes pc = .ok (.castore, 1)) (A : Arr Z h a cl .char) (hin : ¬ (j < 0 ∨ cl.slots.size ≤ j.toNatClampNeg)) (ha : n0 ≤ a) (q : pc + 1 = pc')
    (K : ∀ h', Wr h h' a j.toNatClampNeg (.int (nar .char x)) → Go l Z y bytes mx rt R EL n0 w Q h' kc ks SL pc' L S) : Go l Z y bytes mx rt R EL n0 w Q h kc ks SL pc L (.int x :: .int j :: .ref a :: S) := by
  intro p e s m args below meth c T W
  subst q
  have W0 := W
  obtain ⟨⟨hx, hby, -⟩, k0, locs, X, e1, -, -, hZ, hown, hC, N, -, hSf⟩ := W
  obtain ⟨T', h', X', e', Wr', st⟩ := RoadKit.stC X hx hZ e1 A hin (g := mkF m pc L (.int x :: .int j :: .ref a :: S)) rfl rfl (hb hby hd)
  have B := CHr.wr Wr' (Safe.arr hZ.alike A (by decide)) hC.1
  obtain ⟨s₂, o, st2, r⟩ := K h' Wr' p e s m args below meth c T' (W0.next X' e' B (Fr.snoc X' N ha) (hSf.chr B))
  exact ⟨s₂, o, st _ st2, r⟩
theorem Go.bastore {a : Addr} {cl : Cell} {j x : Int32} (hd : decode bytes pc = .ok (.bastore, 1)) (A : Arr Z h a cl .byte) (hin : ¬ (j < 0 ∨ cl.slots.size ≤ j.toNatClampNeg)) (hsafe : Sf Z EL SL h a) (ha : n0 ≤ a) (q : pc + 1 = pc')
    (K : ∀ h', Wr h h' a j.toNatClampNeg (.int (nar .byte x)) → Go l Z y bytes mx rt R EL n0 w Q h' kc ks SL pc' L S) : Go l Z y bytes mx rt R EL n0 w Q h kc ks SL pc L (.int x :: .int j :: .ref a :: S) := by
  intro p e s m args below meth c T W
  subst q
  have W0 := W
  obtain ⟨⟨hx, hby, -⟩, k0, locs, X, e1, -, -, hZ, hown, hC, N, -, hSf⟩ := W
  obtain ⟨T', h', X', e', Wr', st⟩ := RoadKit.stB X hx hZ e1 A hin (g := mkF m pc L (.int x :: .int j :: .ref a :: S)) rfl rfl (hb hby hd)
  have B := CHr.wr Wr' (hsafe _ hZ hSf) hC.1
  obtain ⟨s₂, o, st2, r⟩ := K h' Wr' p e s m args below meth c T' (W0.next X' e' B (Fr.snoc X' N ha) (hSf.chr B))
  exact ⟨s₂, o, st _ st2, r⟩
/-- two roads that meet: the rest is walked once -/
theorem Go.cut {α : Type} (pcJ : Nat) (LJ : α → Array Slot) (SJ : α → List Value) (K : ∀ r, Go l Z y bytes mx rt R EL n0 w Q h kc ks SL pcJ (LJ r) (SJ r)) (K2 : (∀ r, Go l Z y bytes mx rt R EL n0 w Q h kc ks SL pcJ (LJ r) (SJ r)) → Go l Z y bytes mx rt R EL n0 w Q h kc ks SL pc L S) : Go l Z y bytes mx rt R EL n0 w Q h kc ks SL pc L S := K2 K
end Rules
end Jvm.GoKit
namespace Jvm.GoKit
open Sem ClassFile Op Lib Jvm.Stand Jvm.Free Jvm.LawKit Jvm.RoadKit
section RulesV
variable {l : Launch} {Z : State} {y : MethodName} {bytes : ByteArray} {mx : Nat} {rt : Option FieldType} {R : Room} {EL : List (String × Nat)} {n0 : Nat} {w : Bool} {Q : Option Value → Heap → List Addr → Prop} {h h' : Heap} {kc ks kc' ks' : Nat} {SL SL' : List Addr} {pc pc' pc'' : Nat} {L L' : Array Slot} {S S' : List Value} {a0 a1 : Array Value}
variable {a : Addr} {k : ClassId} {ty : FieldType} {n j x : Int32} {vs : List Value} {d v : Value}
theorem Go.alenV (hd : decode bytes pc = .ok (.arraylength, 1)) (F : Arv Z h a k ty n vs d) (q : pc + 1 = pc') (K : Go l Z y bytes mx rt R EL n0 w Q h kc ks SL pc' L (.int n :: S)) : Go l Z y bytes mx rt R EL n0 w Q h kc ks SL pc L (.ref a :: S) := by
  obtain ⟨c, A, -, s1, s2, -⟩ := F
  exact Go.alen hd A (len_of s1 s2) q K
theorem Go.baloadV (hd : decode bytes pc = .ok (.baload, 1)) (F : Arv Z h a k .byte n vs d) (hj : ¬ j < 0 ∧ j < n) (hv : vs.getD j.toNatClampNeg d = v) (q : pc + 1 = pc') (K : Go l Z y bytes mx rt R EL n0 w Q h kc ks SL pc' L (v :: S)) : Go l Z y bytes mx rt R EL n0 w Q h kc ks SL pc L (.int j :: .ref a :: S) := by
  obtain ⟨c, A, -, s1, s2, H, -⟩ := F
  exact Go.baload hd A (inb_of s1 hj) (H.at (inb_of s1 hj) hv) q K
theorem Go.caloadV (hd : decode bytes pc = .ok (.caload, 1)) (F : Arv Z h a k .char n vs d) (hj : ¬ j < 0 ∧ j < n) (hv : vs.getD j.toNatClampNeg d = v) (q : pc + 1 = pc') (K : Go l Z y bytes mx rt R EL n0 w Q h kc ks SL pc' L (v :: S)) : Go l Z y bytes mx rt R EL n0 w Q h kc ks SL pc L (.int j :: .ref a :: S) := by
  obtain ⟨c, A, -, s1, s2, H, -⟩ := F
  exact Go.caload hd A (inb_of s1 hj) (H.at (inb_of s1 hj) hv) q K
theorem Go.ialoadV (hd : decode bytes pc = .ok (.iaload, 1)) (F : Arv Z h a k .int n vs d) (hj : ¬ j < 0 ∧ j < n) (hv : vs.getD j.toNatClampNeg d = v) (q : pc + 1 = pc') (K : Go l Z y bytes mx rt R EL n0 w Q h kc ks SL pc' L (v :: S)) : Go l Z y bytes mx rt R EL n0 w Q h kc ks SL pc L (.int j :: .ref a :: S) := by
  obtain ⟨c, A, -, s1, s2, H, -⟩ := F
  exact Go.iaload hd A (inb_of s1 hj) (H.at (inb_of s1 hj) hv) q K
theorem Go.newPV {aty : ArrayType} (cap : Nat) (vs : List Value) (hd : decode bytes pc = .ok (.newarray aty, 2)) (wd : (Jvm.Cond.arrayClass (newarray.typeOf aty)).before a1 Z = true) (hn : ¬ n < 0) (hcap : n.toNatClampNeg ≤ cap) (hb' : cap * 8 ≤ 536870912) (hc : kc + 1 ≤ R.cells) (hl : ks + cap ≤ R.slots) (hvs : vs = List.replicate n.toNatClampNeg (defaultValue (newarray.typeOf aty))) (q : pc + 2 = pc')
    (K : ∀ (a : Addr) (h' : Heap) (cA : ClassId), a = h.size → Ext h h' → Arv Z h' a cA (newarray.typeOf aty) n vs (defaultValue (newarray.typeOf aty)) → Go l Z y bytes mx rt R EL n0 w Q h' (kc + 1) (ks + cap) (a :: SL) pc' L (.ref a :: S)) : Go l Z y bytes mx rt R EL n0 w Q h kc ks SL pc L (.int n :: S) :=
  Go.newP cap hd wd hn hcap hb' hc hl q (fun a h' cA e E A => K a h' cA e E ((Arv.new A hn).pad (by rw [hvs, ← List.nil_append (List.replicate _ _)]; exact pad_rep _ _ _)))
theorem Go.castoreV (i : Nat) (hd : decode bytes pc = .ok (.castore, 1)) (F : Arv Z h a k .char n vs d) (hj : ¬ j < 0 ∧ j < n) (hi : j.toNatClampNeg = i) (hl : i < vs.length) (ha : n0 ≤ a) (q : pc + 1 = pc')
    (K : ∀ h', Wr h h' a j.toNatClampNeg (.int (nar .char x)) → Arv Z h' a k .char n (vs.set i (.int (nar .char x))) d → Go l Z y bytes mx rt R EL n0 w Q h' kc ks SL pc' L S) : Go l Z y bytes mx rt R EL n0 w Q h kc ks SL pc L (.int x :: .int j :: .ref a :: S) := by
  obtain ⟨c, A, q1, s1, s2, H, G⟩ := F
  exact Go.castore hd A (inb_of s1 hj) ha q (fun h' W => K h' W (Arv.set A q1 s1 s2 H G (fits_nar_char x) W i hi hl))
theorem fits_nar_byte (x : Int32) : fits .byte (.int (nar .byte x)) = true := by
  have h1 := Int8.toInt_lt x.toInt8
  have h2 := Int8.le_toInt x.toInt8
  have e : (x.toInt8.toInt32).toInt = x.toInt8.toInt := Int8.toInt_toInt32 _
  simp only [fits, nar, Bool.and_eq_true, decide_eq_true_eq, Int32.le_iff_toInt_le]
  rw [e]
  first
    | exact ⟨by have : ((-128 : Int32)).toInt = -128 := by decide
                omega, by have : ((127 : Int32)).toInt = 127 := by decide
                          omega⟩
    | omega
theorem Go.bastoreV (i : Nat) (hd : decode bytes pc = .ok (.bastore, 1)) (F : Arv Z h a k .byte n vs d) (hj : ¬ j < 0 ∧ j < n) (hi : j.toNatClampNeg = i) (hl : i < vs.length) (hsafe : Sf Z EL SL h a) (ha : n0 ≤ a) (q : pc + 1 = pc')
    (K : ∀ h', Wr h h' a j.toNatClampNeg (.int (nar .byte x)) → Arv Z h' a k .byte n (vs.set i (.int (nar .byte x))) d → Go l Z y bytes mx rt R EL n0 w Q h' kc ks SL pc' L S) : Go l Z y bytes mx rt R EL n0 w Q h kc ks SL pc L (.int x :: .int j :: .ref a :: S) := by
  obtain ⟨c, A, q1, s1, s2, H, G⟩ := F
  exact Go.bastore hd A (inb_of s1 hj) hsafe ha q (fun h' W => K h' W (Arv.set A q1 s1 s2 H G (fits_nar_byte x) W i hi hl))
theorem Go.cast {K0 : String} {index : Nat} (hd : decode bytes pc = .ok (.checkcast index, 3)) (wd : (Jvm.Cond.classLink y.cls index K0).before a1 Z = true) (F : Ins Z h a K0 true) (q : pc + 3 = pc') (K : Go l Z y bytes mx rt R EL n0 w Q h kc ks SL pc' L (.ref a :: S)) : Go l Z y bytes mx rt R EL n0 w Q h kc ks SL pc L (.ref a :: S) := by
  intro p e s m args below meth c T W
  subst q
  have W0 := W
  obtain ⟨⟨hx, hby, -⟩, k0, locs, X, e1, -, -, hZ, hown, hC, N, -, hSf⟩ := W
  obtain ⟨T', X', e', st⟩ := RoadKit.castY X hx hZ hown wd e1 F (g := mkF m pc L (.ref a :: S)) rfl rfl (hb hby hd)
  obtain ⟨s₂, o, st2, r⟩ := K p e s m args below meth c T' (W0.next X' e' (CHr.refl hC.1) N hSf)
  exact ⟨s₂, o, st _ st2, r⟩
theorem Go.inst {K0 : String} {index : Nat} (hd : decode bytes pc = .ok (.instanceof index, 3)) (wd : (Jvm.Cond.classLink y.cls index K0).before a1 Z = true) (F : Ins Z h a K0 true) (q : pc + 3 = pc') (K : Go l Z y bytes mx rt R EL n0 w Q h kc ks SL pc' L (.int 1 :: S)) : Go l Z y bytes mx rt R EL n0 w Q h kc ks SL pc L (.ref a :: S) := by
  intro p e s m args below meth c T W
  subst q
  have W0 := W
  obtain ⟨⟨hx, hby, -⟩, k0, locs, X, e1, -, -, hZ, hown, hC, N, -, hSf⟩ := W
  obtain ⟨T', X', e', st⟩ := RoadKit.instY X hx hZ hown wd e1 F (g := mkF m pc L (.ref a :: S)) rfl rfl (hb hby hd)
  obtain ⟨s₂, o, st2, r⟩ := K p e s m args below meth c T' (W0.next X' e' (CHr.refl hC.1) N hSf)
  exact ⟨s₂, o, st _ st2, r⟩
theorem Go.acopy {index : Nat} {b : Addr} {k' : ClassId} {z z' sp dp nn : Int32} {vd us : List Value} {dv dd : Value} (hd : decode bytes pc = .ok (.invokestatic index, 3)) (w1 : (Jvm.Cond.methodLink y.cls index Jvm.Stand.acN).before a1 Z = true) (w2 : (Jvm.Cond.native Jvm.Stand.acN).before a1 Z = true) (w3 : (Jvm.Cond.static Jvm.Stand.acN).before a1 Z = true) (w4 : (Jvm.Cond.initialized "java/lang/System").before a1 Z = true)
    (A : Arv Z h a k ty z vs dv) (B : Arv Z h b k' ty z' vd dd) (hty : refKind ty = false) (h1 : ¬ sp < 0) (h2 : ¬ dp < 0) (h3 : ¬ nn < 0) (h4 : sp.toNatClampNeg + nn.toNatClampNeg ≤ z.toNatClampNeg) (h5 : dp.toNatClampNeg + nn.toNatClampNeg ≤ z'.toNatClampNeg) (hus : us = (List.range nn.toNatClampNeg).map fun i => vs.getD (sp.toNatClampNeg + i) dv) (hl : dp.toNatClampNeg + nn.toNatClampNeg ≤ vd.length)
    (hsafe : Sf Z EL SL h b) (ge : n0 ≤ b) (hL : L.size = mx) (hf : 1 ≤ R.frames) (Wd : Nat) (hW : (S.map fun v => v.category).sum = Wd) (hlo : Wd + (nativeFrameWords "java/lang/System" "arraycopy" 5 + 11) ≤ R.locals) (q : pc + 3 = pc')
    (K : ∀ h', Keep h h' [b] → Arv Z h' b k' ty z' (vd.take dp.toNatClampNeg ++ us ++ vd.drop (dp.toNatClampNeg + nn.toNatClampNeg)) dd → Go l Z y bytes mx rt R EL n0 w Q h' kc ks SL pc' L S) : Go l Z y bytes mx rt R EL n0 w Q h kc ks SL pc L (.int nn :: .int dp :: .ref b :: .int sp :: .ref a :: S) := by
  intro p e s m args below meth c T W
  subst q
  have W0 := W
  obtain ⟨⟨hx, hby, hml, -⟩, k0, locs, X, e1, -, -, hZ, hown, hC, N, -, hSf⟩ := W
  obtain ⟨T', h', L', X', e', N', Kp, A', st⟩ := RoadKit.cpA X hx hZ hown w1 w2 w3 w4 e1 A B (Or.inl ⟨rfl, hty⟩) h1 h2 h3 h4 h5 hus hl N ge (g := mkF m pc L (.int nn :: .int dp :: .ref b :: .int sp :: .ref a :: S)) rfl (hL.trans hml.symm) rfl (hb hby hd) hf (W := Wd) (by show 2 * 0 + _ ≤ _; omega) hlo
  have Bk := CHr.keep (vm := T.vm) Kp (fun x hx' => by cases List.mem_singleton.mp hx'; exact hsafe _ hZ hSf) hC.1
  obtain ⟨s₂, o, st2, r⟩ := K h' Kp A' p e s m args below meth c T' (W0.next X' e' Bk N' (hSf.chr Bk))
  exact ⟨s₂, o, st _ st2, r⟩
/-- a loop: the head is reached again with a smaller measure -/
theorem Go.ind {α : Type} (μ : α → Nat) (P : α → Prop) (hJ : α → Heap) (LJ : α → Array Slot) (SJ : α → List Value) (step : ∀ x, P x → (∀ x', μ x' < μ x → P x' → Go l Z y bytes mx rt R EL n0 w Q (hJ x') kc ks SL pc (LJ x') (SJ x')) → Go l Z y bytes mx rt R EL n0 w Q (hJ x) kc ks SL pc (LJ x) (SJ x)) (x : α) (hx : P x) (e1 : h = hJ x) (e2 : L = LJ x) (e3 : S = SJ x) : Go l Z y bytes mx rt R EL n0 w Q h kc ks SL pc L S := by
  have key : ∀ n x, μ x < n → P x → Go l Z y bytes mx rt R EL n0 w Q (hJ x) kc ks SL pc (LJ x) (SJ x) := by
    intro n
    induction n with
    | zero => intro x q; exact absurd q (Nat.not_lt_zero _)
    | succ n ih => intro x q hP; exact step x hP (fun x' q' hP' => ih x' (by omega) hP')
  subst e1 e2 e3
  exact key _ x (Nat.lt_succ_self _) hx
theorem shr0 (n : Int32) : n >>> ((0 : Int32) &&& 31) = n := by
  have e : (0 : Int32) &&& 31 = 0 := by decide
  rw [e]; simp
theorem nar_i2b (x : Int32) : nar .byte (x.toInt8.toInt32) = x.toInt8.toInt32 := by simp [nar]
theorem ofN_lt {i n : Nat} (hi : i < 2 ^ 31) (hn : n < 2 ^ 31) : (Int32.ofNat i < Int32.ofNat n) ↔ i < n := by
  rw [Int32.lt_iff_toInt_lt, Int32.toInt_ofNat_of_lt hi, Int32.toInt_ofNat_of_lt hn]; omega
theorem ofN_eq {i n : Nat} (hi : i < 2 ^ 31) (hn : n < 2 ^ 31) : (Int32.ofNat i = Int32.ofNat n) ↔ i = n := by
  rw [← Int32.toInt_inj, Int32.toInt_ofNat_of_lt hi, Int32.toInt_ofNat_of_lt hn]; omega
theorem ofN_nn {i : Nat} (hi : i < 2 ^ 31) : ¬ Int32.ofNat i < 0 := by
  rw [Int32.lt_iff_toInt_lt, Int32.toInt_ofNat_of_lt hi]
  have e : (0 : Int32).toInt = 0 := by decide
  omega
theorem ofN_nat {i : Nat} (hi : i < 2 ^ 31) : (Int32.ofNat i).toNatClampNeg = i := by
  have e : (Int32.ofNat i).toNatClampNeg = (Int32.ofNat i).toInt.toNat := rfl
  rw [e, Int32.toInt_ofNat_of_lt hi]; omega
theorem ofN_succ (i : Nat) : Int32.ofNat i + 1 = Int32.ofNat (i + 1) := by
  rw [Int32.ofNat_add]; rfl
end RulesV
end Jvm.GoKit
namespace Jvm.GoKit
open Sem ClassFile Op Lib Jvm.Stand Jvm.Free Jvm.LawKit Jvm.RoadKit
section RulesW
variable {l : Launch} {Z : State} {y : MethodName} {bytes : ByteArray} {mx : Nat} {rt : Option FieldType} {R : Room} {EL : List (String × Nat)} {n0 : Nat} {w : Bool} {Q : Option Value → Heap → List Addr → Prop} {h h' : Heap} {kc ks kc' ks' : Nat} {SL SL' : List Addr} {pc pc' pc'' : Nat} {L L' : Array Slot} {S S' : List Value} {a0 a1 : Array Value}
/-- two roads that meet, with what is known there -/
theorem Go.cutP {P : Prop} (pcJ : Nat) (LJ : Array Slot) (SJ : List Value) (K : P → Go l Z y bytes mx rt R EL n0 w Q h kc ks SL pcJ LJ SJ) (K2 : (P → Go l Z y bytes mx rt R EL n0 w Q h kc ks SL pcJ LJ SJ) → Go l Z y bytes mx rt R EL n0 w Q h kc ks SL pc L S) : Go l Z y bytes mx rt R EL n0 w Q h kc ks SL pc L S := K2 K
theorem Ct.post {Q' : Option Value → Heap → List Addr → Prop} {ws : List Jvm.Cond} {as' : Array Value} {h0 : Heap} (q : ∀ v h N, Q v h N → Q' v h N) (hM : Ct l Z y bytes mx rt R EL n0 w ws as' h0 SL Q) : Ct l Z y bytes mx rt R EL n0 w ws as' h0 SL Q' := by
  intro p e ha hc hk s m args below hf happ hP hK
  obtain ⟨n, o, h1, h2, h3, v, Ls, N, e1, e2, r⟩ := hM p e ha hc hk s m args below hf happ hP hK
  exact ⟨n, o, h1, h2, h3, v, Ls, N, e1, q _ _ _ e2, r⟩
/-- fewer cells used than said -/
theorem Go.more (hk : kc ≤ kc') (hs : ks ≤ ks') (K : Go l Z y bytes mx rt R EL n0 w Q h kc' ks' SL pc L S) : Go l Z y bytes mx rt R EL n0 w Q h kc ks SL pc L S := fun p e s m args below meth c T W => by
  obtain ⟨A, k0, locs, X, r⟩ := W
  exact K p e s m args below meth c T ⟨A, k0, locs, X.more hk hs, r⟩
/-- a loop that makes cells -/
theorem Go.indK {α : Type} (μ : α → Nat) (P : α → Prop) (hJ : α → Heap) (kJ sJ : α → Nat) (LJ : α → Array Slot) (SJ : α → List Value) (step : ∀ x, P x → (∀ x', μ x' < μ x → P x' → Go l Z y bytes mx rt R EL n0 w Q (hJ x') (kJ x') (sJ x') SL pc (LJ x') (SJ x')) → Go l Z y bytes mx rt R EL n0 w Q (hJ x) (kJ x) (sJ x) SL pc (LJ x) (SJ x)) (x : α) (hx : P x) (e1 : h = hJ x) (ek : kc = kJ x) (es : ks = sJ x) (e2 : L = LJ x) (e3 : S = SJ x) : Go l Z y bytes mx rt R EL n0 w Q h kc ks SL pc L S := by
  have key : ∀ n x, μ x < n → P x → Go l Z y bytes mx rt R EL n0 w Q (hJ x) (kJ x) (sJ x) SL pc (LJ x) (SJ x) := by
    intro n
    induction n with
    | zero => intro x q; exact absurd q (Nat.not_lt_zero _)
    | succ n ih => intro x q hP; exact step x hP (fun x' q' hP' => ih x' (by omega) hP')
  subst e1 ek es e2 e3
  exact key _ x (Nat.lt_succ_self _) hx
end RulesW
end Jvm.GoKit
namespace Jvm.GoKit
open Sem ClassFile Op Lib Jvm.Stand Jvm.Free Jvm.LawKit Jvm.RoadKit
theorem nf_by {s : State} {args : Array Value} {C : String} {y y1 : MethodName} (hsel : (Jvm.Cond.selects C y1 y1).before args s = true) (e : y1.cls = y.cls) : NotFace s y := fun r0 h0 => by
  obtain ⟨c2, r2, m2, -, -, q3, -, kP, hkP, hkPi⟩ := Cond.selects_spec hsel
  have e1 := findClass_of_methodNamed h0
  have e2 := findClass_of_methodNamed q3
  rw [e] at e2
  have e3 := Option.some.inj (e1.symm.trans e2)
  exact ⟨kP, by rw [e3]; exact hkP, hkPi⟩
theorem decl_by {s : State} {args : Array Value} {y : MethodName} {b : ByteArray} {mx : Nat} {rt : Option FieldType} (hi : (Jvm.Cond.instanceMethod y).before args s = true) (hc : (Jvm.Cond.code y b mx rt).before args s = true) : (Jvm.Cond.declares y).before args s = true := by
  obtain ⟨mk, methM, hnamed, hmethM, hstM, habM⟩ := Cond.instanceMethod_spec hi
  obtain ⟨m2, cM, q1, -, -, -, -, -, -, hsig⟩ := Cond.code_spec hnamed hc
  cases hmethM.symm.trans q1
  simp [Jvm.Cond.before, Jvm.Cond.holds, Jvm.Cond.value, hnamed, hmethM, hstM, hsig]
theorem same_by {s : State} {args : Array Value} {y : MethodName} (hd : (Jvm.Cond.declares y).before args s = true) (hn : NotFace s y) (hy : y.cls ≠ "java/lang/invoke/MethodHandle" ∧ y.cls ≠ "java/lang/invoke/VarHandle") : (Jvm.Cond.sameMethod y.cls y.cls y.name y.desc).before args s = true := by
  obtain ⟨r0, r, hnm, hrm, hstR, hsigR⟩ := Cond.declares_spec hd
  obtain ⟨kr, hkr, hni⟩ := hn r0 hnm
  have hf := State.methodFound?_of_named hnm hy
  have hc := findClass_of_methodNamed hnm
  simp [Jvm.Cond.before, Jvm.Cond.holds, Jvm.Cond.value, hnm, hf, hc, hkr, hni]
theorem mvNest {Z s : State} {a0 args : Array Value} {own host : String} {index : Nat} {x : MethodName} (hZ : Z.Warmed39 s.vm) (w : (Jvm.Cond.methodLinkNest own index x host).before a0 Z = true) : (Jvm.Cond.methodLinkNest own index x host).before args s = true := (Cond.methodLinkNest_wide hZ w :)
theorem wd {ws : List Jvm.Cond} {a0 : Array Value} {Z : State} (hw : ∀ d ∈ ws, d.before a0 Z = true) (i : Nat) {d : Jvm.Cond} (e : ws[i]? = some d) : d.before a0 Z = true := hw d (List.mem_of_getElem? e)
theorem sl0 {SL : List Addr} : ∀ x ∈ ([] : List Addr), x ∈ SL := fun _ q => nomatch q
theorem sl1 {SL : List Addr} {b : Addr} (q : b ∈ SL) : ∀ x ∈ [b], x ∈ SL := fun x hx => by cases List.mem_singleton.mp hx; exact q
section Calls6
variable {l : Launch} {Z : State} {y : MethodName} {bytes : ByteArray} {mx : Nat} {rt : Option FieldType} {R : Room} {EL : List (String × Nat)} {n0 : Nat} {w : Bool} {Q : Option Value → Heap → List Addr → Prop} {h h' : Heap} {kc ks kc' ks' : Nat} {SL SL' : List Addr} {pc pc' pc'' : Nat} {L L' : Array Slot} {S S' : List Value} {a0 a1 : Array Value}
variable {z yy y1 : MethodName} {bytesZ : ByteArray} {mxZ : Nat} {rtZ : Option FieldType} {rm : Room} {QZ : Option Value → Heap → List Addr → Prop} {argsL rest : List Value} {index : Nat}
theorem Go.rs (S' : List Value) (q3 : S = S') (K : Go l Z y bytes mx rt R EL n0 w Q h kc ks SL pc L S') : Go l Z y bytes mx rt R EL n0 w Q h kc ks SL pc L S := by subst q3; exact K
theorem Go.callW {a : Addr} {C C1 : String} (hM : Ct l Z z bytesZ mxZ rtZ rm EL n0 w [] (.ref a :: argsL).toArray h SL' QZ) (hd : decode bytes pc = .ok (.invokevirtual index, 3)) (w1 : (Jvm.Cond.methodLink y.cls index yy).before a1 Z = true) (wdec : (Jvm.Cond.declares yy).before a1 Z = true) (wnf : (Jvm.Cond.selects C1 y1 y1).before a1 Z = true) (enf : y1.cls = yy.cls) (wsel : (Jvm.Cond.selects C yy z).before a1 Z = true) (w2 : (Jvm.Cond.instanceMethod z).before a1 Z = true) (w3 : (Jvm.Cond.initialized z.cls).before a1 Z = true) (w4 : (Jvm.Cond.code z bytesZ mxZ rtZ).before a1 Z = true) (E : Exa Z h a C)
    (hy : yy.cls ≠ "java/lang/invoke/MethodHandle" ∧ yy.cls ≠ "java/lang/invoke/VarHandle") (hlen : ∀ sig, parseMethodDescriptor yy.desc = some sig → argsL.length = sig.parameters.length) (hst : S = argsL.reverse ++ .ref a :: rest) (Wd : Nat) (hW : (rest.map fun v => v.category).sum = Wd) (hL : L.size = mx) (hf : rm.frames + 1 ≤ R.frames) (hl : Wd + (mxZ + 11) + rm.locals ≤ R.locals) (hc : kc + rm.cells ≤ R.cells) (hs : ks + rm.slots ≤ R.slots) (hSL : ∀ x ∈ SL', x ∈ SL) (q : pc + 3 = pc')
    (K : ∀ v h' N, QZ v h' N → h.size ≤ h'.size → Go l Z y bytes mx rt R EL n0 w Q h' (kc + rm.cells) (ks + rm.slots) (N ++ SL) pc' L (v.toList ++ rest)) : Go l Z y bytes mx rt R EL n0 w Q h kc ks SL pc L S := by
  intro p e s m args below meth c T W
  subst q
  have W0 := W
  obtain ⟨⟨hx, hby, hml, -, -, -, a2, hEW⟩, k0, locs, X, e1, hS, hk, hZ, hown, hC, N, -, hSf⟩ := W
  obtain ⟨cq, kq, qa, qb, qc⟩ := isOf (s := s.setVm T.vm) hZ e1 E
  obtain ⟨v, vm₁, ⟨T', Lt, kt, nt⟩, -, X', hS', hgr, ⟨Ls, N', hQ, hFr, l1, l2, l3, hC', hSf', hw'⟩, st⟩ := X.virtualBackS hx hown (mvT (s := s.setVm T.vm) hZ w1) (mvT (s := s.setVm T.vm) hZ wdec) (nf_by (args := #[]) (mvT (s := s.setVm T.vm) hZ wnf) enf) (mvT (s := s.setVm T.vm) hZ wsel) (mvT (s := s.setVm T.vm) hZ w2) hy (Ct.pay (W := Wd) hM hZ hEW hC.1 (hSf.mono hSL) w4 w3 hf hl) qa qc (g := mkF m pc L S) rfl (hL.trans hml.symm) (Steps.refl _) (argsL := argsL) (rest := rest) hlen hst (by show 2 * 0 + _ ≤ _; omega) (hb hby hd) (fun _ _ => ⟨rfl, e1, hc, hs⟩)
  dsimp only [Pt.U, Pt.locs, Pt.cells, Pt.slots] at X' l1 l2 l3 st hQ hC' hSf' hw' hgr hS'
  subst l1 l2 l3
  have hS2 : Sfs Z EL T'.vm T'.heap (N' ++ SL) := fun x hx' => (List.mem_append.mp hx').elim (hSf' x) (hSf.chr hC' x)
  obtain ⟨s₂, o, st2, r⟩ := K v _ N' hQ hC'.2.1 p e s m args below meth c T' (W0.nextS X' rfl hS' hC'.2.1 (Nat.le_refl _) hC' (N.app hFr) hw' hS2)
  exact ⟨s₂, o, st.trans st2, r⟩
theorem Go.callU {a : Addr} {C C1 : String} (hM : Ct l Z z bytesZ mxZ rtZ rm EL n0 w [] (.ref a :: argsL).toArray h SL' QZ) (hd : decode bytes pc = .ok (.invokespecial index, 3)) (hz1 : z.name ≠ "<init>") (w1 : (Jvm.Cond.methodLink y.cls index z).before a1 Z = true) (wdec : (Jvm.Cond.declares z).before a1 Z = true) (wnf : (Jvm.Cond.selects C1 y1 y1).before a1 Z = true) (enf : y1.cls = z.cls) (wsup : (Jvm.Cond.superclass y.cls z.cls).before a1 Z = true) (w2 : (Jvm.Cond.instanceMethod z).before a1 Z = true) (w3 : (Jvm.Cond.initialized z.cls).before a1 Z = true) (w4 : (Jvm.Cond.code z bytesZ mxZ rtZ).before a1 Z = true) (E : Exa Z h a C)
    (hy : z.cls ≠ "java/lang/invoke/MethodHandle" ∧ z.cls ≠ "java/lang/invoke/VarHandle") (hlen : ∀ sig, parseMethodDescriptor z.desc = some sig → argsL.length = sig.parameters.length) (hst : S = argsL.reverse ++ .ref a :: rest) (Wd : Nat) (hW : (rest.map fun v => v.category).sum = Wd) (hL : L.size = mx) (hf : rm.frames + 1 ≤ R.frames) (hl : Wd + (mxZ + 11) + rm.locals ≤ R.locals) (hc : kc + rm.cells ≤ R.cells) (hs : ks + rm.slots ≤ R.slots) (hSL : ∀ x ∈ SL', x ∈ SL) (q : pc + 3 = pc')
    (K : ∀ v h' N, QZ v h' N → h.size ≤ h'.size → Go l Z y bytes mx rt R EL n0 w Q h' (kc + rm.cells) (ks + rm.slots) (N ++ SL) pc' L (v.toList ++ rest)) : Go l Z y bytes mx rt R EL n0 w Q h kc ks SL pc L S := by
  intro p e s m args below meth c T W
  subst q
  have W0 := W
  obtain ⟨⟨hx, hby, hml, -, -, -, a2, hEW⟩, k0, locs, X, e1, hS, hk, hZ, hown, hC, N, -, hSf⟩ := W
  have wsm := same_by wdec (nf_by wnf enf) hy
  obtain ⟨v, vm₁, ⟨T', Lt, kt, nt⟩, -, X', hS', hgr, ⟨Ls, N', hQ, hFr, l1, l2, l3, hC', hSf', hw'⟩, st⟩ := RoadKit.superBackS (s := s.setVm T.vm) X hx hZ hown w1 wsm w2 wsup hz1 (Ct.pay (W := Wd) hM hZ hEW hC.1 (hSf.mono hSL) w4 w3 hf hl) e1 (Ins.self E) (g := mkF m pc L S) rfl (hL.trans hml.symm) w4 (argsL := argsL) (rest := rest) hlen hst (by show 2 * 0 + _ ≤ _; omega) (hb hby hd) (fun _ _ => ⟨rfl, e1, hc, hs⟩)
  dsimp only [Pt.U, Pt.locs, Pt.cells, Pt.slots] at X' l1 l2 l3 st hQ hC' hSf' hw' hgr hS'
  subst l1 l2 l3
  have hS2 : Sfs Z EL T'.vm T'.heap (N' ++ SL) := fun x hx' => (List.mem_append.mp hx').elim (hSf' x) (hSf.chr hC' x)
  obtain ⟨s₂, o, st2, r⟩ := K v _ N' hQ hC'.2.1 p e s m args below meth c T' (W0.nextS X' rfl hS' hC'.2.1 (Nat.le_refl _) hC' (N.app hFr) hw' hS2)
  exact ⟨s₂, o, st.trans st2, r⟩
theorem Go.callI {a : Addr} {C : String} {count : Nat} (hM : Ct l Z z bytesZ mxZ rtZ rm EL n0 w [] (.ref a :: argsL).toArray h SL' QZ) (hd : decode bytes pc = .ok (.invokeinterface index count, 5)) (w1 : (Jvm.Cond.methodLink y.cls index yy).before a1 Z = true) (wdec : (Jvm.Cond.declares yy).before a1 Z = true) (wface : (Jvm.Cond.interfaceMethod yy.cls yy.cls yy.name yy.desc).before a1 Z = true) (wsel : (Jvm.Cond.selects C yy z).before a1 Z = true) (w2 : (Jvm.Cond.instanceMethod z).before a1 Z = true) (wpub : (Jvm.Cond.publicMethod z).before a1 Z = true) (wunh : (Jvm.Cond.unhidden C yy.name yy.desc).before a1 Z = true) (wcast : (Jvm.Cond.castable C yy.cls).before a1 Z = true) (w3 : (Jvm.Cond.initialized z.cls).before a1 Z = true) (w4 : (Jvm.Cond.code z bytesZ mxZ rtZ).before a1 Z = true) (E : Exa Z h a C)
    (hy : yy.cls ≠ "java/lang/invoke/MethodHandle" ∧ yy.cls ≠ "java/lang/invoke/VarHandle") (hlen : ∀ sig, parseMethodDescriptor yy.desc = some sig → argsL.length = sig.parameters.length) (hst : S = argsL.reverse ++ .ref a :: rest) (Wd : Nat) (hW : (rest.map fun v => v.category).sum = Wd) (hL : L.size = mx) (hf : rm.frames + 1 ≤ R.frames) (hl : Wd + (mxZ + 11) + rm.locals ≤ R.locals) (hc : kc + rm.cells ≤ R.cells) (hs : ks + rm.slots ≤ R.slots) (hSL : ∀ x ∈ SL', x ∈ SL) (q : pc + 5 = pc')
    (K : ∀ v h' N, QZ v h' N → h.size ≤ h'.size → Go l Z y bytes mx rt R EL n0 w Q h' (kc + rm.cells) (ks + rm.slots) (N ++ SL) pc' L (v.toList ++ rest)) : Go l Z y bytes mx rt R EL n0 w Q h kc ks SL pc L S := by
  intro p e s m args below meth c T W
  subst q
  have W0 := W
  obtain ⟨⟨hx, hby, hml, -, -, -, a2, hEW⟩, k0, locs, X, e1, hS, hk, hZ, hown, hC, N, -, hSf⟩ := W
  obtain ⟨cq, kq, qa, qb, qc⟩ := isOf (s := s.setVm T.vm) hZ e1 E
  obtain ⟨v, vm₁, ⟨T', Lt, kt, nt⟩, -, X', hS', hgr, ⟨Ls, N', hQ, hFr, l1, l2, l3, hC', hSf', hw'⟩, st⟩ := X.interfaceBackS hx hown (mvT (s := s.setVm T.vm) hZ w1) (mvT (s := s.setVm T.vm) hZ wdec) (mvT (s := s.setVm T.vm) hZ wface (by simp [Cond.onTables, Cond.keepsFace, Cond.keeps, Cond.steady, Cond.faceAtom, hy.1, hy.2])) (mvT (s := s.setVm T.vm) hZ wsel) (mvT (s := s.setVm T.vm) hZ w2) (mvT (s := s.setVm T.vm) hZ wpub) (mvT (s := s.setVm T.vm) hZ wunh) (mvT (s := s.setVm T.vm) hZ wcast) hy (Ct.pay (W := Wd) hM hZ hEW hC.1 (hSf.mono hSL) w4 w3 hf hl) qa qb qc (g := mkF m pc L S) rfl (hL.trans hml.symm) (Steps.refl _) (argsL := argsL) (rest := rest) hlen hst (by show 2 * 0 + _ ≤ _; omega) (hb hby hd) (fun _ _ => ⟨rfl, e1, hc, hs⟩)
  dsimp only [Pt.U, Pt.locs, Pt.cells, Pt.slots] at X' l1 l2 l3 st hQ hC' hSf' hw' hgr hS'
  subst l1 l2 l3
  have hS2 : Sfs Z EL T'.vm T'.heap (N' ++ SL) := fun x hx' => (List.mem_append.mp hx').elim (hSf' x) (hSf.chr hC' x)
  obtain ⟨s₂, o, st2, r⟩ := K v _ N' hQ hC'.2.1 p e s m args below meth c T' (W0.nextS X' rfl hS' hC'.2.1 (Nat.le_refl _) hC' (N.app hFr) hw' hS2)
  exact ⟨s₂, o, st.trans st2, r⟩
theorem Go.callUp {a : Addr} {C : String} {owner : String} (hM : Ct l Z z bytesZ mxZ rtZ rm EL n0 w [] (.ref a :: argsL).toArray h SL' QZ) (hd : decode bytes pc = .ok (.invokevirtual index, 3)) (w1 : (Jvm.Cond.methodLink y.cls index yy).before a1 Z = true) (wsame : (Jvm.Cond.sameMethod yy.cls owner yy.name yy.desc).before a1 Z = true) (wdec : (Jvm.Cond.declares ⟨owner, yy.name, yy.desc⟩).before a1 Z = true) (wsel : (Jvm.Cond.selects C yy z).before a1 Z = true) (w2 : (Jvm.Cond.instanceMethod z).before a1 Z = true) (w3 : (Jvm.Cond.initialized z.cls).before a1 Z = true) (w4 : (Jvm.Cond.code z bytesZ mxZ rtZ).before a1 Z = true) (E : Exa Z h a C)
    (hy : owner ≠ "java/lang/invoke/MethodHandle" ∧ owner ≠ "java/lang/invoke/VarHandle") (hlen : ∀ sig, parseMethodDescriptor yy.desc = some sig → argsL.length = sig.parameters.length) (hst : S = argsL.reverse ++ .ref a :: rest) (Wd : Nat) (hW : (rest.map fun v => v.category).sum = Wd) (hL : L.size = mx) (hf : rm.frames + 1 ≤ R.frames) (hl : Wd + (mxZ + 11) + rm.locals ≤ R.locals) (hc : kc + rm.cells ≤ R.cells) (hs : ks + rm.slots ≤ R.slots) (hSL : ∀ x ∈ SL', x ∈ SL) (q : pc + 3 = pc')
    (K : ∀ v h' N, QZ v h' N → h.size ≤ h'.size → Go l Z y bytes mx rt R EL n0 w Q h' (kc + rm.cells) (ks + rm.slots) (N ++ SL) pc' L (v.toList ++ rest)) : Go l Z y bytes mx rt R EL n0 w Q h kc ks SL pc L S := by
  intro p e s m args below meth c T W
  subst q
  have W0 := W
  obtain ⟨⟨hx, hby, hml, -, -, -, a2, hEW⟩, k0, locs, X, e1, hS, hk, hZ, hown, hC, N, -, hSf⟩ := W
  obtain ⟨cq, kq, qa, qb, qc⟩ := isOf (s := s.setVm T.vm) hZ e1 E
  obtain ⟨v, vm₁, ⟨T', Lt, kt, nt⟩, -, X', hS', hgr, ⟨Ls, N', hQ, hFr, l1, l2, l3, hC', hSf', hw'⟩, st⟩ := X.virtualBackUpS hx hown (mvT (s := s.setVm T.vm) hZ w1) (mvT (s := s.setVm T.vm) hZ wsame) (mvT (s := s.setVm T.vm) hZ wdec) hy (mvT (s := s.setVm T.vm) hZ wsel) (mvT (s := s.setVm T.vm) hZ w2) (Ct.pay (W := Wd) hM hZ hEW hC.1 (hSf.mono hSL) w4 w3 hf hl) qa qc (g := mkF m pc L S) rfl (hL.trans hml.symm) (Steps.refl _) (argsL := argsL) (rest := rest) hlen hst (by show 2 * 0 + _ ≤ _; omega) (hb hby hd) (fun _ _ => ⟨rfl, e1, hc, hs⟩)
  dsimp only [Pt.U, Pt.locs, Pt.cells, Pt.slots] at X' l1 l2 l3 st hQ hC' hSf' hw' hgr hS'
  subst l1 l2 l3
  have hS2 : Sfs Z EL T'.vm T'.heap (N' ++ SL) := fun x hx' => (List.mem_append.mp hx').elim (hSf' x) (hSf.chr hC' x)
  obtain ⟨s₂, o, st2, r⟩ := K v _ N' hQ hC'.2.1 p e s m args below meth c T' (W0.nextS X' rfl hS' hC'.2.1 (Nat.le_refl _) hC' (N.app hFr) hw' hS2)
  exact ⟨s₂, o, st.trans st2, r⟩
theorem Go.callSN {host : String} (hM : Ct l Z z bytesZ mxZ rtZ rm EL n0 w [] argsL.toArray h SL' QZ) (hd : decode bytes pc = .ok (.invokestatic index, 3)) (w1 : (Jvm.Cond.methodLinkNest y.cls index z host).before a1 Z = true) (w2 : (Jvm.Cond.static z).before a1 Z = true) (w3 : (Jvm.Cond.initialized z.cls).before a1 Z = true) (w4 : (Jvm.Cond.code z bytesZ mxZ rtZ).before a1 Z = true)
    (hy : z.cls ≠ "java/lang/invoke/MethodHandle" ∧ z.cls ≠ "java/lang/invoke/VarHandle") (hlen : ∀ sig, parseMethodDescriptor z.desc = some sig → argsL.length = sig.parameters.length) (hst : S = argsL.reverse ++ rest) (Wd : Nat) (hW : (rest.map fun v => v.category).sum = Wd) (hL : L.size = mx) (hf : rm.frames + 1 ≤ R.frames) (hl : Wd + (mxZ + 11) + rm.locals ≤ R.locals) (hc : kc + rm.cells ≤ R.cells) (hs : ks + rm.slots ≤ R.slots) (hSL : ∀ x ∈ SL', x ∈ SL) (q : pc + 3 = pc')
    (K : ∀ v h' N, QZ v h' N → h.size ≤ h'.size → Go l Z y bytes mx rt R EL n0 w Q h' (kc + rm.cells) (ks + rm.slots) (N ++ SL) pc' L (v.toList ++ rest)) : Go l Z y bytes mx rt R EL n0 w Q h kc ks SL pc L S := by
  intro p e s m args below meth c T W
  subst q
  have W0 := W
  obtain ⟨⟨hx, hby, hml, -, -, -, a2, hEW⟩, k0, locs, X, e1, hS, hk, hZ, hown, hC, N, -, hSf⟩ := W
  obtain ⟨v, vm₁, ⟨T', Lt, kt, nt⟩, -, X', hS', hgr, ⟨Ls, N', hQ, hFr, l1, l2, l3, hC', hSf', hw'⟩, st⟩ := RoadKit.callSNS X hx hown (mvNest (s := s.setVm T.vm) hZ w1) (mvT (s := s.setVm T.vm) hZ w2) (mvT (s := s.setVm T.vm) hZ w3) (mvT (s := s.setVm T.vm) hZ w4) hy (Ct.pay (W := Wd) hM hZ hEW hC.1 (hSf.mono hSL) w4 w3 hf hl) (g := mkF m pc L S) rfl (hL.trans hml.symm) (argsL := argsL) (rest := rest) hlen hst (by show 2 * 0 + _ ≤ _; omega) (hb hby hd) (fun _ _ => ⟨rfl, e1, hc, hs⟩)
  dsimp only [Pt.U, Pt.locs, Pt.cells, Pt.slots] at X' l1 l2 l3 st hQ hC' hSf' hw' hgr hS'
  subst l1 l2 l3
  have hS2 : Sfs Z EL T'.vm T'.heap (N' ++ SL) := fun x hx' => (List.mem_append.mp hx').elim (hSf' x) (hSf.chr hC' x)
  obtain ⟨s₂, o, st2, r⟩ := K v _ N' hQ hC'.2.1 p e s m args below meth c T' (W0.nextS X' rfl hS' hC'.2.1 (Nat.le_refl _) hC' (N.app hFr) hw' hS2)
  exact ⟨s₂, o, st.trans st2, r⟩
theorem Go.tsw {dflt low high o : Int} {offs : Array Int} {len : Nat} {i : Int32} (hd : decode bytes pc = .ok (.tableswitch dflt low high offs, len)) (hin : ¬ (i.toInt < low ∨ i.toInt > high)) (hoff : offs[(i.toInt - low).toNat]? = some o) (ho : 0 ≤ (pc : Int) + o) (hp : ((pc : Int) + o).toNat = pc') (K : Go l Z y bytes mx rt R EL n0 w Q h kc ks SL pc' L S) : Go l Z y bytes mx rt R EL n0 w Q h kc ks SL pc L (.int i :: S) := Go.st (fun W t kk => by obtain ⟨⟨hx, hby, -⟩, _, _, X, -⟩ := W; exact XS.tswIn X.here hx rfl rfl (hb hby hd) rfl hin hoff ho hp kk) K
end Calls6
end Jvm.GoKit
namespace Jvm.GoKit
open Sem ClassFile Op Lib Jvm.Stand Jvm.Free Jvm.LawKit Jvm.RoadKit
/-- a Latin-1 String at a, its bytes at b -/
def Str (Z : State) (h : Heap) (a b : Addr) (ll : List Int32) : Prop := Exa Z h a "java/lang/String" ∧ Fld Z h a "java/lang/String" "coder" "B" (.int (0 : Int32)) ∧ Fld Z h a "java/lang/String" "value" "[B" (.ref b) ∧ ∃ k, Arv Z h b k .byte (Int32.ofNat ll.length) (ll.map Value.int) (.int 0)
/-- a Latin-1 StringBuilder at a, its bytes at b, so many of them, ll the content -/
def Sb (Z : State) (h : Heap) (a b : Addr) (cap : Nat) (ll : List Int32) : Prop := Exa Z h a "java/lang/StringBuilder" ∧ Fld Z h a "java/lang/AbstractStringBuilder" "count" "I" (.int (Int32.ofNat ll.length)) ∧ Fld Z h a "java/lang/AbstractStringBuilder" "coder" "B" (.int (0 : Int32)) ∧ Fld Z h a "java/lang/AbstractStringBuilder" "value" "[B" (.ref b) ∧ ∃ k vr, Arv Z h b k .byte (Int32.ofNat cap) ((ll ++ vr).map Value.int) (.int 0) ∧ (ll ++ vr).length = cap
section
variable {Z : State} {h h' : Heap} {a b : Addr} {cap : Nat} {ll : List Int32} {ws : List Addr}
theorem Str.ext (F : Str Z h a b ll) (E : Ext h h') : Str Z h' a b ll := by
  obtain ⟨f1, f2, f3, k, f4⟩ := F; exact ⟨Exa.ext E f1, Fld.ext E f2, Fld.ext E f3, k, f4.ext E⟩
theorem Str.keep (F : Str Z h a b ll) (K : Keep h h' ws) (q1 : a ∉ ws) (q2 : b ∉ ws) : Str Z h' a b ll := by
  obtain ⟨f1, f2, f3, k, f4⟩ := F; exact ⟨f1.keep K, f2.keep K q1, f3.keep K q1, k, f4.keep K q2⟩
theorem Str.lt (F : Str Z h a b ll) : a < h.size := F.1.lt
theorem Str.ltb (F : Str Z h a b ll) : b < h.size := by obtain ⟨f1, f2, f3, k, f4⟩ := F; exact f4.lt
theorem Sb.ext (F : Sb Z h a b cap ll) (E : Ext h h') : Sb Z h' a b cap ll := by
  obtain ⟨f1, f2, f3, f4, k, vr, f5, f6⟩ := F; exact ⟨Exa.ext E f1, Fld.ext E f2, Fld.ext E f3, Fld.ext E f4, k, vr, f5.ext E, f6⟩
theorem Sb.keep (F : Sb Z h a b cap ll) (K : Keep h h' ws) (q1 : a ∉ ws) (q2 : b ∉ ws) : Sb Z h' a b cap ll := by
  obtain ⟨f1, f2, f3, f4, k, vr, f5, f6⟩ := F; exact ⟨f1.keep K, f2.keep K q1, f3.keep K q1, f4.keep K q1, k, vr, f5.keep K q2, f6⟩
theorem Sb.lt (F : Sb Z h a b cap ll) : a < h.size := F.1.lt
theorem Sb.ltb (F : Sb Z h a b cap ll) : b < h.size := by obtain ⟨f1, f2, f3, f4, k, vr, f5, f6⟩ := F; exact f5.lt
theorem Sb.nsA (F : Sb Z h a b cap ll) : ∀ cell : Cell, h[a]? = some cell → cell.vm.isStatics = false := F.1.nostat
theorem Sb.nsB (F : Sb Z h a b cap ll) : ∀ cell : Cell, h[b]? = some cell → cell.vm.isStatics = false := by obtain ⟨f1, f2, f3, f4, k, vr, f5, f6⟩ := F; exact f5.nostat
theorem Str.nsA (F : Str Z h a b ll) : ∀ cell : Cell, h[a]? = some cell → cell.vm.isStatics = false := F.1.nostat
end
theorem shl0 (n : Int32) : n <<< ((0 : Int32) &&& 31) = n := by
  have e : (0 : Int32) &&& 31 = 0 := by decide
  rw [e]; simp
theorem ofN_add (i j : Nat) : Int32.ofNat i + Int32.ofNat j = Int32.ofNat (i + j) := (Int32.ofNat_add _ _).symm
theorem ofN_sub {p c : Nat} (h : c ≤ p) : Int32.ofNat p - Int32.ofNat c = Int32.ofNat (p - c) := by
  have e : Int32.ofNat p = Int32.ofNat (p - c) + Int32.ofNat c := by rw [ofN_add, Nat.sub_add_cancel h]
  rw [e]; exact Int32.add_sub_cancel _ _
theorem ofN_sub_le {p c : Nat} (h : p ≤ c) (hc : c < 2 ^ 31) : ¬ (0 < Int32.ofNat p - Int32.ofNat c) := by
  have e : Int32.ofNat p - Int32.ofNat c = -(Int32.ofNat (c - p)) := by rw [← ofN_sub h, Int32.neg_sub]
  rw [e]
  intro q
  have hz : (Int32.ofNat (c - p)).toInt = (c - p : Nat) := Int32.toInt_ofNat_of_lt (by omega)
  rw [Int32.lt_iff_toInt_lt, Int32.toInt_neg, hz] at q
  have e0 : (0 : Int32).toInt = 0 := by decide
  rw [e0] at q
  have e1 : (-((c - p : Nat) : Int)).bmod (2 ^ 32) = -((c - p : Nat) : Int) := by
    apply Int.bmod_eq_of_le <;> omega
  rw [e1] at q
  omega
theorem ofN_pos {p : Nat} (h : 0 < p) (hp : p < 2 ^ 31) : (0 : Int32) < Int32.ofNat p := by
  have e : (0 : Int32) = Int32.ofNat 0 := rfl
  rw [e, ofN_lt (by omega) hp]; exact h
theorem cp_us (m : List Int32) : (m.map Value.int) = (List.range m.length).map fun i => (m.map Value.int).getD (0 + i) (.int 0) := by
  apply List.ext_getElem
  · simp
  · intro i h1 h2
    simp at h1
    simp [h1]
theorem cp_us2 (m r : List Int32) : (m.map Value.int) = (List.range m.length).map fun i => ((m ++ r).map Value.int).getD (0 + i) (.int 0) := by
  apply List.ext_getElem
  · simp
  · intro i h1 h2
    simp at h1
    simp [h1, List.getElem?_append_left]
theorem put_at (ll m vr : List Int32) : ((ll ++ vr).map Value.int).take ll.length ++ m.map Value.int ++ ((ll ++ vr).map Value.int).drop (ll.length + m.length) = ((ll ++ m) ++ vr.drop m.length).map Value.int := by
  simp [List.take_append, List.drop_append, List.map_append, List.map_drop]
end Jvm.GoKit
namespace Jvm.Pilot.@@N@@
open Jvm Jvm.ClassFile Sem Op Lib Jvm.Free Jvm.Stand Jvm.LawKit Jvm.RoadKit Jvm.GoKit Bundle Jvm.Pilot.@@N@@.Jvm.D
set_option maxRecDepth 65536
set_option maxHeartbeats 40000000
abbrev EL1 : List (String × Nat) := consts_1
theorem own_ew {Z : State} {a0 : Array Value} (hw : ∀ d ∈ tables_1, d.before a0 Z = true) : EW Z a0 EL1 := EW.cons (wd hw 27 rfl) (by decide) (EW.cons (wd hw 387 rfl) (by decide) (EW.cons (wd hw 248 rfl) (by decide) (EW.cons (wd hw 128 rfl) (by decide) (EW.cons (wd hw 382 rfl) (by decide) (EW.cons (wd hw 335 rfl) (by decide) (EW.cons (wd hw 346 rfl) (by decide) (EW.cons (wd hw 367 rfl) (by decide) (EW.cons (wd hw 368 rfl) (by decide) (EW.cons (wd hw 375 rfl) (by decide) (EW.cons (wd hw 353 rfl) (by decide) (EW.cons (wd hw 354 rfl) (by decide) (EW.cons (wd hw 267 rfl) (by decide) (EW.cons (wd hw 277 rfl) (by decide) (EW.cons (wd hw 390 rfl) (by decide) (EW.cons (wd hw 279 rfl) (by decide) (EW.cons (wd hw 309 rfl) (by decide) (EW.cons (wd hw 316 rfl) (by decide) (EW.cons (wd hw 202 rfl) (by decide) (EW.cons (wd hw 190 rfl) (by decide) (EW.cons (wd hw 211 rfl) (by decide) (EW.cons (wd hw 179 rfl) (by decide) (EW.cons (wd hw 234 rfl) (by decide) (EW.cons (wd hw 389 rfl) (by decide) (EW.cons (wd hw 269 rfl) (by decide) (EW.cons (wd hw 249 rfl) (by decide) (EW.cons (wd hw 251 rfl) (by decide) (EW.cons (wd hw 381 rfl) (by decide) (EW.cons (wd hw 337 rfl) (by decide) (EW.cons (wd hw 400 rfl) (by decide) (EW.cons (wd hw 376 rfl) (by decide) (EW.cons (wd hw 210 rfl) (by decide) (EW.cons (wd hw 395 rfl) (by decide) (EW.cons (wd hw 391 rfl) (by decide) (EW.cons (wd hw 298 rfl) (by decide) (EW.cons (wd hw 250 rfl) (by decide) (EW.cons (wd hw 399 rfl) (by decide) (EW.cons (wd hw 383 rfl) (by decide) (EW.cons (wd hw 358 rfl) (by decide) (EW.cons (wd hw 401 rfl) (by decide) (EW.cons (wd hw 388 rfl) (by decide) (EW.cons (wd hw 384 rfl) (by decide) (EW.cons (wd hw 369 rfl) (by decide) (EW.cons (wd hw 394 rfl) (by decide) (EW.cons (wd hw 396 rfl) (by decide) (EW.cons (wd hw 310 rfl) (by decide) (EW.cons (wd hw 317 rfl) (by decide) (EW.cons (wd hw 380 rfl) (by decide) (EW.nil))))))))))))))))))))))))))))))))))))))))))))))))
theorem own_ws {Z : State} {a0 : Array Value} (hw : ∀ d ∈ tables_1, d.before a0 Z = true) : ∀ d ∈ Bundle.stringAtoms, d.before a0 Z = true := fun d hd => by
  simp only [Bundle.stringAtoms, List.mem_cons, List.not_mem_nil, or_false] at hd
  rcases hd with rfl | rfl | rfl | rfl | rfl | rfl | rfl
  · exact (wd hw 28 rfl)
  · exact (wd hw 29 rfl)
  · exact (wd hw 30 rfl)
  · exact (wd hw 31 rfl)
  · exact (wd hw 32 rfl)
  · exact (wd hw 33 rfl)
  · exact (wd hw 34 rfl)
theorem pn_java_lang_String : plainName "java/lang/String" = true := by first | (simp [plainName, overriddenIn]; done) | decide +kernel
theorem dj42m152_0 : decode jdk_42_method_152_code 0 = .ok (.getstatic 38, 3) := by decide +kernel
theorem dj42m152_3 : decode jdk_42_method_152_code 3 = .ok (.ifCond .eq 10, 3) := by decide +kernel
theorem dj42m152_6 : decode jdk_42_method_152_code 6 = .ok (.aload_n 0, 1) := by decide +kernel
theorem dj42m152_7 : decode jdk_42_method_152_code 7 = .ok (.getfield 15, 3) := by decide +kernel
theorem dj42m152_10 : decode jdk_42_method_152_code 10 = .ok (.goto 4, 3) := by decide +kernel
theorem dj42m152_14 : decode jdk_42_method_152_code 14 = .ok (.ireturn, 1) := by decide +kernel
theorem ct_coder (l : Launch) (Z : State) (a0 : Array Value) (hw : ∀ d ∈ tables_1, d.before a0 Z = true) (n0 : Nat) (h0 : Heap) (a1 : Addr) (cs : Int32) (S_cs : Sta Z h0 "java/lang/String" "COMPACT_STRINGS" "Z" (.int cs)) (hcs : ¬ cs = 0) (FC : Fld Z h0 a1 "java/lang/String" "coder" "B" (.int (0 : Int32))) :
    Ct l Z (⟨"java/lang/String", "coder", "()B"⟩ : MethodName) jdk_42_method_152_code 1 (some .byte) ({ frames := 0, cells := 0, slots := 0, locals := 0 } : Room) EL1 n0 true [] #[(.ref a1)] h0 [] (fun v h N => h0 = h ∧ v = some (.int 0)) := by
  refine Ct.of (a0 := a0) (plainFor_of_name pn_java_lang_String) (own_ew hw) (L0 := #[.val (.ref a1)]) (fun _ => rfl) ?_
  refine Go.getS (pc' := 3) (host := "") (a1 := a0) dj42m152_0 (Or.inl (wd hw 99 rfl)) Via.refl S_cs rfl ?_
  refine Go.ifF (pc' := 6) dj42m152_3 (hcs) rfl ?_
  refine Go.aloadN (pc' := 7) dj42m152_6 rfl rfl rfl ?_
  refine Go.getF (pc' := 10) (host := "") (a1 := a0) dj42m152_7 (Or.inl (wd hw 100 rfl)) Via.refl FC rfl ?_
  refine Go.goto (pc' := 14) dj42m152_10 (by decide) (by decide) ?_
  refine Go.retN (t := .byte) (0 : Int32) rfl (by simp) rfl [] sl0 dj42m152_14 (by decide) (by decide) ?_
  exact ⟨rfl, rfl⟩
theorem dj42m54_0 : decode jdk_42_method_54_code 0 = .ok (.aload_n 0, 1) := by decide +kernel
theorem dj42m54_1 : decode jdk_42_method_54_code 1 = .ok (.getfield 9, 3) := by decide +kernel
theorem dj42m54_4 : decode jdk_42_method_54_code 4 = .ok (.arraylength, 1) := by decide +kernel
theorem dj42m54_5 : decode jdk_42_method_54_code 5 = .ok (.aload_n 0, 1) := by decide +kernel
theorem pd_0 : parseMethodDescriptor "()B" = some ⟨[], (some .byte)⟩ := by decide +kernel
theorem dj42m54_6 : decode jdk_42_method_54_code 6 = .ok (.invokevirtual 335, 3) := by decide +kernel
theorem dj42m54_9 : decode jdk_42_method_54_code 9 = .ok (.ishr, 1) := by decide +kernel
theorem dj42m54_10 : decode jdk_42_method_54_code 10 = .ok (.ireturn, 1) := by decide +kernel
theorem ct_length (l : Launch) (Z : State) (a0 : Array Value) (hw : ∀ d ∈ tables_1, d.before a0 Z = true) (n0 : Nat) (h0 : Heap) (a1 b : Addr) (k : ClassId) (n : Int32) (vs : List Value) (cs : Int32) (S_cs : Sta Z h0 "java/lang/String" "COMPACT_STRINGS" "Z" (.int cs)) (hcs : ¬ cs = 0) (E : Exa Z h0 a1 "java/lang/String") (FC : Fld Z h0 a1 "java/lang/String" "coder" "B" (.int (0 : Int32))) (FV : Fld Z h0 a1 "java/lang/String" "value" "[B" (.ref b)) (AV : Arv Z h0 b k .byte n vs (.int 0)) :
    Ct l Z (⟨"java/lang/String", "length", "()I"⟩ : MethodName) jdk_42_method_54_code 1 (some .int) ({ frames := 1, cells := 0, slots := 0, locals := 13 } : Room) EL1 n0 true [] #[(.ref a1)] h0 [] (fun v h N => h0 = h ∧ v = some (.int n)) := by
  refine Ct.of (a0 := a0) (plainFor_of_name pn_java_lang_String) (own_ew hw) (L0 := #[.val (.ref a1)]) (fun _ => rfl) ?_
  have l0_E := nlt E.lt
  have l0_AV := nlt AV.lt
  refine Go.aloadN (pc' := 1) dj42m54_0 rfl rfl rfl ?_
  refine Go.getF (pc' := 4) (host := "") (a1 := a0) dj42m54_1 (Or.inl (wd hw 93 rfl)) Via.refl FV rfl ?_
  refine Go.alenV (pc' := 5) dj42m54_4 AV rfl ?_
  refine Go.aloadN (pc' := 6) dj42m54_5 rfl rfl rfl ?_
  refine Go.callV (a1 := a0) (pc' := 9) (argsL := []) (rest := [(.int n)]) (ct_coder l Z a0 hw n0 h0 a1 cs S_cs hcs FC) dj42m54_6 (wd hw 94 rfl) (wd hw 95 rfl) (wd hw 97 rfl) (wd hw 97 rfl) (wd hw 96 rfl) (wd hw 28 rfl) (wd hw 98 rfl) E (by decide) (lenOf pd_0 rfl) rfl 1 rfl rfl (by decide) (by decide) (by decide) (by decide) sl0 rfl (fun v_1 h_2 N_3 hQ_4 hle_5 => ?_)
  obtain ⟨rfl, rfl⟩ := hQ_4
  refine Go.rs [(.int (0 : Int32)), (.int n)] rfl ?_
  refine Go.ishr (pc' := 10) dj42m54_9 rfl ?_
  refine Go.re (pc' := 10) (L' := #[.val (.ref a1)]) (S' := [.int n]) rfl rfl (by rw [shr0]) ?_
  refine Go.retI rfl [] sl0 dj42m54_10 (by decide) (by decide) ?_
  exact ⟨rfl, rfl⟩
theorem getD_int (l : List Int32) (i : Nat) : (l.map Value.int).getD i (.int 0) = .int (l.getD i 0) := by
  simp only [List.getD_eq_getElem?_getD, List.getElem?_map]; cases l[i]? <;> rfl
theorem list_ext0 {l1 l2 : List Int32} (hl : l1.length = l2.length) (h : ∀ j, j < l1.length → l1.getD j 0 = l2.getD j 0) : l1 = l2 := by
  apply List.ext_getElem hl
  intro j h1 h2
  have := h j h1
  simpa [List.getD_eq_getElem?_getD, h1, h2] using this
theorem pn_java_lang_StringLatin1 : plainName "java/lang/StringLatin1" = true := by first | (simp [plainName, overriddenIn]; done) | decide +kernel
theorem dj43m13_0 : decode jdk_43_method_13_code 0 = .ok (.aload_n 0, 1) := by decide +kernel
theorem dj43m13_1 : decode jdk_43_method_13_code 1 = .ok (.arraylength, 1) := by decide +kernel
theorem dj43m13_2 : decode jdk_43_method_13_code 2 = .ok (.aload_n 1, 1) := by decide +kernel
theorem dj43m13_3 : decode jdk_43_method_13_code 3 = .ok (.arraylength, 1) := by decide +kernel
theorem dj43m13_4 : decode jdk_43_method_13_code 4 = .ok (.if_icmp .ne 30, 3) := by decide +kernel
theorem dj43m13_34 : decode jdk_43_method_13_code 34 = .ok (.iconst 0, 1) := by decide +kernel
theorem dj43m13_35 : decode jdk_43_method_13_code 35 = .ok (.ireturn, 1) := by decide +kernel
theorem dj43m13_7 : decode jdk_43_method_13_code 7 = .ok (.iconst 0, 1) := by decide +kernel
theorem dj43m13_8 : decode jdk_43_method_13_code 8 = .ok (.istore_n 2, 1) := by decide +kernel
theorem dj43m13_9 : decode jdk_43_method_13_code 9 = .ok (.iload_n 2, 1) := by decide +kernel
theorem dj43m13_10 : decode jdk_43_method_13_code 10 = .ok (.aload_n 0, 1) := by decide +kernel
theorem dj43m13_11 : decode jdk_43_method_13_code 11 = .ok (.arraylength, 1) := by decide +kernel
theorem dj43m13_12 : decode jdk_43_method_13_code 12 = .ok (.if_icmp .ge 20, 3) := by decide +kernel
theorem dj43m13_32 : decode jdk_43_method_13_code 32 = .ok (.iconst 1, 1) := by decide +kernel
theorem dj43m13_33 : decode jdk_43_method_13_code 33 = .ok (.ireturn, 1) := by decide +kernel
theorem dj43m13_15 : decode jdk_43_method_13_code 15 = .ok (.aload_n 0, 1) := by decide +kernel
theorem dj43m13_16 : decode jdk_43_method_13_code 16 = .ok (.iload_n 2, 1) := by decide +kernel
theorem dj43m13_17 : decode jdk_43_method_13_code 17 = .ok (.baload, 1) := by decide +kernel
theorem dj43m13_18 : decode jdk_43_method_13_code 18 = .ok (.aload_n 1, 1) := by decide +kernel
theorem dj43m13_19 : decode jdk_43_method_13_code 19 = .ok (.iload_n 2, 1) := by decide +kernel
theorem dj43m13_20 : decode jdk_43_method_13_code 20 = .ok (.baload, 1) := by decide +kernel
theorem dj43m13_21 : decode jdk_43_method_13_code 21 = .ok (.if_icmp .eq 5, 3) := by decide +kernel
theorem dj43m13_26 : decode jdk_43_method_13_code 26 = .ok (.iinc 2 1, 3) := by decide +kernel
theorem dj43m13_29 : decode jdk_43_method_13_code 29 = .ok (.goto (-20), 3) := by decide +kernel
theorem dj43m13_24 : decode jdk_43_method_13_code 24 = .ok (.iconst 0, 1) := by decide +kernel
theorem dj43m13_25 : decode jdk_43_method_13_code 25 = .ok (.ireturn, 1) := by decide +kernel
theorem ct_leq (l : Launch) (Z : State) (a0 : Array Value) (hw : ∀ d ∈ tables_1, d.before a0 Z = true) (n0 : Nat) (h0 : Heap) (b1 b2 : Addr) (k1 k2 : ClassId) (l1 l2 : List Int32) (AV1 : Arv Z h0 b1 k1 .byte (Int32.ofNat l1.length) (l1.map Value.int) (.int 0)) (hl1 : l1.length < 2 ^ 31) (AV2 : Arv Z h0 b2 k2 .byte (Int32.ofNat l2.length) (l2.map Value.int) (.int 0)) (hl2 : l2.length < 2 ^ 31) :
    Ct l Z (⟨"java/lang/StringLatin1", "equals", "([B[B)Z"⟩ : MethodName) jdk_43_method_13_code 3 (some .boolean) ({ frames := 0, cells := 0, slots := 0, locals := 0 } : Room) EL1 n0 true [] #[(.ref b1), (.ref b2)] h0 [] (fun v h N => h0 = h ∧ v = some (.int (if l1 = l2 then (1 : Int32) else 0))) := by
  refine Ct.of (a0 := a0) (plainFor_of_name pn_java_lang_StringLatin1) (own_ew hw) (L0 := #[.val (.ref b1), .val (.ref b2), .unset]) (fun _ => rfl) ?_
  have l0_AV1 := nlt AV1.lt
  have l0_AV2 := nlt AV2.lt
  refine Go.aloadN (pc' := 1) dj43m13_0 rfl rfl rfl ?_
  refine Go.alenV (pc' := 2) dj43m13_1 AV1 rfl ?_
  refine Go.aloadN (pc' := 3) dj43m13_2 rfl rfl rfl ?_
  refine Go.alenV (pc' := 4) dj43m13_3 AV2 rfl ?_
  refine Go.icmp (pc' := 34) (pc'' := 7) dj43m13_4 (by decide) (by decide) rfl (fun hc_1 => ?_) (fun hc_1 => ?_)
  · have hc_1 : ¬ ((Int32.ofNat l1.length) = (Int32.ofNat l2.length)) := hc_1
    refine Go.iconst (pc' := 35) 0 dj43m13_34 rfl rfl ?_
    refine Go.retN (t := .boolean) (0 : Int32) rfl (by simp) rfl [] sl0 dj43m13_35 (by decide) (by decide) ?_
    exact ⟨rfl, by rw [if_neg (fun q => hc_1 (by rw [q]))]⟩
  · have hc_1 : (Int32.ofNat l1.length) = (Int32.ofNat l2.length) := hc_1
    refine Go.iconst (pc' := 8) 0 dj43m13_7 rfl rfl ?_
    refine Go.istoreN (pc' := 9) #[.val (.ref b1), .val (.ref b2), .val (.int (0 : Int32))] dj43m13_8 rfl rfl ?_
    have hlen : l1.length = l2.length := (ofN_eq hl1 hl2).mp hc_1
    refine Go.ind (fun i => l1.length - i) (fun i => i ≤ l1.length ∧ ∀ j, j < i → l1.getD j 0 = l2.getD j 0) (fun _ => h0) (fun i => #[.val (.ref b1), .val (.ref b2), .val (.int (Int32.ofNat i))]) (fun _ => []) (fun i hi IH => ?_) 0 ⟨Nat.zero_le _, fun j hj => absurd hj (Nat.not_lt_zero _)⟩ rfl rfl rfl
    refine Go.iloadN (pc' := 10) dj43m13_9 rfl rfl ?_
    refine Go.aloadN (pc' := 11) dj43m13_10 rfl rfl rfl ?_
    refine Go.alenV (pc' := 12) dj43m13_11 AV1 rfl ?_
    refine Go.icmp (pc' := 32) (pc'' := 15) dj43m13_12 (by decide) (by decide) rfl (fun hc_2 => ?_) (fun hc_2 => ?_)
    · have hc_2 : ¬ ((Int32.ofNat i) < (Int32.ofNat l1.length)) := hc_2
      refine Go.iconst (pc' := 33) 1 dj43m13_32 rfl rfl ?_
      refine Go.retN (t := .boolean) (1 : Int32) rfl (by simp) rfl [] sl0 dj43m13_33 (by decide) (by decide) ?_
      exact ⟨rfl, by rw [if_pos (list_ext0 hlen (fun j hj => hi.2 j (by have q := hc_2; rw [ofN_lt (by omega) hl1] at q; omega)))]⟩
    · have hc_2 : (Int32.ofNat i) < (Int32.ofNat l1.length) := hc_2
      refine Go.aloadN (pc' := 16) dj43m13_15 rfl rfl rfl ?_
      refine Go.iloadN (pc' := 17) dj43m13_16 rfl rfl ?_
      have hil : i < l1.length := by have q := hc_2; rw [ofN_lt (by omega) hl1] at q; omega
      refine Go.baloadV (pc' := 18) (v := .int (l1.getD i 0)) dj43m13_17 AV1 ⟨ofN_nn (by omega), (ofN_lt (by omega) hl1).mpr (by omega)⟩ (by rw [ofN_nat (by omega)]; exact getD_int _ _) rfl ?_
      refine Go.aloadN (pc' := 19) dj43m13_18 rfl rfl rfl ?_
      refine Go.iloadN (pc' := 20) dj43m13_19 rfl rfl ?_
      refine Go.baloadV (pc' := 21) (v := .int (l2.getD i 0)) dj43m13_20 AV2 ⟨ofN_nn (by omega), (ofN_lt (by omega) hl2).mpr (by omega)⟩ (by rw [ofN_nat (by omega)]; exact getD_int _ _) rfl ?_
      refine Go.icmp (pc' := 26) (pc'' := 24) dj43m13_21 (by decide) (by decide) rfl (fun hc_3 => ?_) (fun hc_3 => ?_)
      · have hc_3 : (l1.getD i 0) = (l2.getD i 0) := hc_3
        have hg : l1.getD i 0 = l2.getD i 0 := hc_3
        refine Go.iinc (pc' := 29) (Int32.ofNat i + 1) #[.val (.ref b1), .val (.ref b2), .val (.int (Int32.ofNat i + 1))] dj43m13_26 rfl rfl rfl rfl ?_
        refine Go.goto (pc' := 9) dj43m13_29 (by decide) (by decide) ?_
        refine Go.re (pc' := 9) (L' := #[.val (.ref b1), .val (.ref b2), .val (.int (Int32.ofNat (i + 1)))]) (S' := []) rfl (by rw [ofN_succ]) rfl ?_
        exact IH (i + 1) (by omega) ⟨by omega, fun j hj => by rcases Nat.lt_succ_iff_lt_or_eq.mp hj with q | rfl; exact hi.2 j q; exact hg⟩
      · have hc_3 : ¬ ((l1.getD i 0) = (l2.getD i 0)) := hc_3
        refine Go.iconst (pc' := 25) 0 dj43m13_24 rfl rfl ?_
        refine Go.retN (t := .boolean) (0 : Int32) rfl (by simp) rfl [] sl0 dj43m13_25 (by decide) (by decide) ?_
        exact ⟨rfl, by rw [if_neg (fun q => hc_3 (by rw [q]))]⟩
theorem dj42m66_0 : decode jdk_42_method_66_code 0 = .ok (.aload_n 0, 1) := by decide +kernel
theorem dj42m66_1 : decode jdk_42_method_66_code 1 = .ok (.aload_n 1, 1) := by decide +kernel
theorem dj42m66_2 : decode jdk_42_method_66_code 2 = .ok (.if_acmp .ne 5, 3) := by decide +kernel
theorem dj42m66_7 : decode jdk_42_method_66_code 7 = .ok (.aload_n 1, 1) := by decide +kernel
theorem dj42m66_8 : decode jdk_42_method_66_code 8 = .ok (.instanceof 10, 3) := by decide +kernel
theorem dj42m66_11 : decode jdk_42_method_66_code 11 = .ok (.ifCond .eq 43, 3) := by decide +kernel
theorem dj42m66_14 : decode jdk_42_method_66_code 14 = .ok (.aload_n 1, 1) := by decide +kernel
theorem dj42m66_15 : decode jdk_42_method_66_code 15 = .ok (.checkcast 10, 3) := by decide +kernel
theorem dj42m66_18 : decode jdk_42_method_66_code 18 = .ok (.astore_n 2, 1) := by decide +kernel
theorem dj42m66_19 : decode jdk_42_method_66_code 19 = .ok (.getstatic 38, 3) := by decide +kernel
theorem dj42m66_22 : decode jdk_42_method_66_code 22 = .ok (.ifCond .eq 14, 3) := by decide +kernel
theorem dj42m66_25 : decode jdk_42_method_66_code 25 = .ok (.aload_n 0, 1) := by decide +kernel
theorem dj42m66_26 : decode jdk_42_method_66_code 26 = .ok (.getfield 15, 3) := by decide +kernel
theorem dj42m66_29 : decode jdk_42_method_66_code 29 = .ok (.aload_n 2, 1) := by decide +kernel
theorem dj42m66_30 : decode jdk_42_method_66_code 30 = .ok (.getfield 15, 3) := by decide +kernel
theorem dj42m66_33 : decode jdk_42_method_66_code 33 = .ok (.if_icmp .ne 21, 3) := by decide +kernel
theorem dj42m66_36 : decode jdk_42_method_66_code 36 = .ok (.aload_n 0, 1) := by decide +kernel
theorem dj42m66_37 : decode jdk_42_method_66_code 37 = .ok (.getfield 9, 3) := by decide +kernel
theorem dj42m66_40 : decode jdk_42_method_66_code 40 = .ok (.aload_n 2, 1) := by decide +kernel
theorem dj42m66_41 : decode jdk_42_method_66_code 41 = .ok (.getfield 9, 3) := by decide +kernel
theorem pd_1 : parseMethodDescriptor "([B[B)Z" = some ⟨[(.array .byte), (.array .byte)], (some .boolean)⟩ := by decide +kernel
theorem dj42m66_44 : decode jdk_42_method_66_code 44 = .ok (.invokestatic 541, 3) := by decide +kernel
theorem dj42m66_47 : decode jdk_42_method_66_code 47 = .ok (.ifCond .eq 7, 3) := by decide +kernel
theorem dj42m66_54 : decode jdk_42_method_66_code 54 = .ok (.iconst 0, 1) := by decide +kernel
theorem dj42m66_55 : decode jdk_42_method_66_code 55 = .ok (.ireturn, 1) := by decide +kernel
theorem dj42m66_50 : decode jdk_42_method_66_code 50 = .ok (.iconst 1, 1) := by decide +kernel
theorem dj42m66_51 : decode jdk_42_method_66_code 51 = .ok (.goto 4, 3) := by decide +kernel
theorem ct_equals (l : Launch) (Z : State) (a0 : Array Value) (hw : ∀ d ∈ tables_1, d.before a0 Z = true) (n0 : Nat) (h0 : Heap) (a1 a2 b1 b2 : Addr) (k1 k2 : ClassId) (l1 l2 : List Int32) (hl1 : l1.length < 2 ^ 31) (hl2 : l2.length < 2 ^ 31) (cs : Int32) (S_cs : Sta Z h0 "java/lang/String" "COMPACT_STRINGS" "Z" (.int cs)) (hcs : ¬ cs = 0) (E1 : Exa Z h0 a1 "java/lang/String") (FC1 : Fld Z h0 a1 "java/lang/String" "coder" "B" (.int (0 : Int32))) (FV1 : Fld Z h0 a1 "java/lang/String" "value" "[B" (.ref b1)) (AV1 : Arv Z h0 b1 k1 .byte (Int32.ofNat l1.length) (l1.map Value.int) (.int 0)) (E2 : Exa Z h0 a2 "java/lang/String") (FC2 : Fld Z h0 a2 "java/lang/String" "coder" "B" (.int (0 : Int32))) (FV2 : Fld Z h0 a2 "java/lang/String" "value" "[B" (.ref b2)) (AV2 : Arv Z h0 b2 k2 .byte (Int32.ofNat l2.length) (l2.map Value.int) (.int 0)) (hne : a1 ≠ a2) :
    Ct l Z (⟨"java/lang/String", "equals", "(Ljava/lang/Object;)Z"⟩ : MethodName) jdk_42_method_66_code 3 (some .boolean) ({ frames := 1, cells := 0, slots := 0, locals := 14 } : Room) EL1 n0 true [] #[(.ref a1), (.ref a2)] h0 [] (fun v h N => h0 = h ∧ v = some (.int (if l1 = l2 then (1 : Int32) else 0))) := by
  refine Ct.of (a0 := a0) (plainFor_of_name pn_java_lang_String) (own_ew hw) (L0 := #[.val (.ref a1), .val (.ref a2), .unset]) (fun _ => rfl) ?_
  have l0_E1 := nlt E1.lt
  have l0_AV1 := nlt AV1.lt
  have l0_E2 := nlt E2.lt
  have l0_AV2 := nlt AV2.lt
  refine Go.aloadN (pc' := 1) dj42m66_0 rfl rfl rfl ?_
  refine Go.aloadN (pc' := 2) dj42m66_1 rfl rfl rfl ?_
  refine Go.acmp (pc' := 7) false dj42m66_2 rfl rfl (decide_eq_false (fun q => hne (Value.ref.inj q))) (by decide) (by decide) ?_
  refine Go.aloadN (pc' := 8) dj42m66_7 rfl rfl rfl ?_
  refine Go.inst (pc' := 11) (a1 := a0) dj42m66_8 (wd hw 185 rfl) (Ins.self E2) rfl ?_
  refine Go.ifF (pc' := 14) dj42m66_11 (show ¬ ((1 : Int32) = (0 : Int32)) by decide) rfl ?_
  refine Go.aloadN (pc' := 15) dj42m66_14 rfl rfl rfl ?_
  refine Go.cast (pc' := 18) (a1 := a0) dj42m66_15 (wd hw 185 rfl) (Ins.self E2) rfl ?_
  refine Go.astoreN (pc' := 19) #[.val (.ref a1), .val (.ref a2), .val (.ref a2)] dj42m66_18 rfl rfl rfl ?_
  refine Go.getS (pc' := 22) (host := "") (a1 := a0) dj42m66_19 (Or.inl (wd hw 99 rfl)) Via.refl S_cs rfl ?_
  refine Go.ifF (pc' := 25) dj42m66_22 (hcs) rfl ?_
  refine Go.aloadN (pc' := 26) dj42m66_25 rfl rfl rfl ?_
  refine Go.getF (pc' := 29) (host := "") (a1 := a0) dj42m66_26 (Or.inl (wd hw 100 rfl)) Via.refl FC1 rfl ?_
  refine Go.aloadN (pc' := 30) dj42m66_29 rfl rfl rfl ?_
  refine Go.getF (pc' := 33) (host := "") (a1 := a0) dj42m66_30 (Or.inl (wd hw 100 rfl)) Via.refl FC2 rfl ?_
  refine Go.icmpF (pc' := 36) dj42m66_33 (show (0 : Int32) = (0 : Int32) by decide) rfl ?_
  refine Go.aloadN (pc' := 37) dj42m66_36 rfl rfl rfl ?_
  refine Go.getF (pc' := 40) (host := "") (a1 := a0) dj42m66_37 (Or.inl (wd hw 93 rfl)) Via.refl FV1 rfl ?_
  refine Go.aloadN (pc' := 41) dj42m66_40 rfl rfl rfl ?_
  refine Go.getF (pc' := 44) (host := "") (a1 := a0) dj42m66_41 (Or.inl (wd hw 93 rfl)) Via.refl FV2 rfl ?_
  refine Go.callS (a1 := a0) (pc' := 47) (argsL := [(.ref b1), (.ref b2)]) (rest := []) (ct_leq l Z a0 hw n0 h0 b1 b2 k1 k2 l1 l2 AV1 hl1 AV2 hl2) dj42m66_44 (wd hw 186 rfl) (wd hw 187 rfl) (wd hw 188 rfl) (wd hw 189 rfl) (by decide) (lenOf pd_1 rfl) rfl 0 rfl rfl (by decide) (by decide) (by decide) (by decide) sl0 rfl (fun v_1 h_2 N_3 hQ_4 hle_5 => ?_)
  obtain ⟨rfl, rfl⟩ := hQ_4
  refine Go.rs [(.int (if l1 = l2 then (1 : Int32) else 0))] rfl ?_
  refine Go.ifc (pc' := 54) (pc'' := 50) dj42m66_47 (by decide) (by decide) rfl (fun hc_6 => ?_) (fun hc_6 => ?_)
  · have hc_6 : (if l1 = l2 then (1 : Int32) else 0) = 0 := hc_6
    refine Go.iconst (pc' := 55) 0 dj42m66_54 rfl rfl ?_
    refine Go.retN (t := .boolean) (0 : Int32) rfl (by simp) rfl [] sl0 dj42m66_55 (by decide) (by decide) ?_
    exact ⟨rfl, by have q := hc_6; by_cases z : l1 = l2; rw [if_pos z] at q; exact absurd q (by decide); rw [if_neg z]⟩
  · have hc_6 : ¬ ((if l1 = l2 then (1 : Int32) else 0) = 0) := hc_6
    refine Go.iconst (pc' := 51) 1 dj42m66_50 rfl rfl ?_
    refine Go.goto (pc' := 55) dj42m66_51 (by decide) (by decide) ?_
    refine Go.retN (t := .boolean) (1 : Int32) rfl (by simp) rfl [] sl0 dj42m66_55 (by decide) (by decide) ?_
    exact ⟨rfl, by have q := hc_6; by_cases z : l1 = l2; rw [if_pos z]; rw [if_neg z] at q; exact absurd rfl q⟩
theorem dj42m66_5 : decode jdk_42_method_66_code 5 = .ok (.iconst 1, 1) := by decide +kernel
theorem dj42m66_6 : decode jdk_42_method_66_code 6 = .ok (.ireturn, 1) := by decide +kernel
theorem ct_equalsS (l : Launch) (Z : State) (a0 : Array Value) (hw : ∀ d ∈ tables_1, d.before a0 Z = true) (n0 : Nat) (h0 : Heap) (a1 : Addr) :
    Ct l Z (⟨"java/lang/String", "equals", "(Ljava/lang/Object;)Z"⟩ : MethodName) jdk_42_method_66_code 3 (some .boolean) ({ frames := 0, cells := 0, slots := 0, locals := 0 } : Room) EL1 n0 true [] #[(.ref a1), (.ref a1)] h0 [] (fun v h N => h0 = h ∧ v = some (.int 1)) := by
  refine Ct.of (a0 := a0) (plainFor_of_name pn_java_lang_String) (own_ew hw) (L0 := #[.val (.ref a1), .val (.ref a1), .unset]) (fun _ => rfl) ?_
  refine Go.aloadN (pc' := 1) dj42m66_0 rfl rfl rfl ?_
  refine Go.aloadN (pc' := 2) dj42m66_1 rfl rfl rfl ?_
  refine Go.acmp (pc' := 5) true dj42m66_2 rfl rfl (decide_eq_true rfl) (by decide) (by decide) ?_
  refine Go.iconst (pc' := 6) 1 dj42m66_5 rfl rfl ?_
  refine Go.retN (t := .boolean) (1 : Int32) rfl (by simp) rfl [] sl0 dj42m66_6 (by decide) (by decide) ?_
  exact ⟨rfl, rfl⟩
theorem pn_java_lang_AbstractStringBuilder : plainName "java/lang/AbstractStringBuilder" = true := by first | (simp [plainName, overriddenIn]; done) | decide +kernel
theorem dj68m71_0 : decode jdk_68_method_71_code 0 = .ok (.getstatic 18, 3) := by decide +kernel
theorem dj68m71_3 : decode jdk_68_method_71_code 3 = .ok (.ifCond .eq 18, 3) := by decide +kernel
theorem dj68m71_6 : decode jdk_68_method_71_code 6 = .ok (.aload_n 0, 1) := by decide +kernel
theorem dj68m71_7 : decode jdk_68_method_71_code 7 = .ok (.getfield 22, 3) := by decide +kernel
theorem dj68m71_10 : decode jdk_68_method_71_code 10 = .ok (.aload_n 1, 1) := by decide +kernel
theorem dj68m71_11 : decode jdk_68_method_71_code 11 = .ok (.invokevirtual 40, 3) := by decide +kernel
theorem dj68m71_14 : decode jdk_68_method_71_code 14 = .ok (.if_icmp .eq 7, 3) := by decide +kernel
theorem dj68m71_21 : decode jdk_68_method_71_code 21 = .ok (.return_, 1) := by decide +kernel
theorem ct_inf (l : Launch) (Z : State) (a0 : Array Value) (hw : ∀ d ∈ tables_1, d.before a0 Z = true) (n0 : Nat) (h0 : Heap) (a1 s : Addr) (cs : Int32) (S_cs : Sta Z h0 "java/lang/String" "COMPACT_STRINGS" "Z" (.int cs)) (hcs : ¬ cs = 0) (GC : Fld Z h0 a1 "java/lang/AbstractStringBuilder" "coder" "B" (.int (0 : Int32))) (Es : Exa Z h0 s "java/lang/String") (FCs : Fld Z h0 s "java/lang/String" "coder" "B" (.int (0 : Int32))) :
    Ct l Z (⟨"java/lang/AbstractStringBuilder", "inflateIfNeededFor", "(Ljava/lang/String;)V"⟩ : MethodName) jdk_68_method_71_code 2 none ({ frames := 1, cells := 0, slots := 0, locals := 13 } : Room) EL1 n0 true [] #[(.ref a1), (.ref s)] h0 [] (fun v h N => h0 = h ∧ v = none) := by
  refine Ct.of (a0 := a0) (plainFor_of_name pn_java_lang_AbstractStringBuilder) (own_ew hw) (L0 := #[.val (.ref a1), .val (.ref s)]) (fun _ => rfl) ?_
  have l0_Es := nlt Es.lt
  refine Go.getS (pc' := 3) (host := "") (a1 := a0) dj68m71_0 (Or.inl (wd hw 73 rfl)) Via.refl S_cs rfl ?_
  refine Go.ifF (pc' := 6) dj68m71_3 (hcs) rfl ?_
  refine Go.aloadN (pc' := 7) dj68m71_6 rfl rfl rfl ?_
  refine Go.getF (pc' := 10) (host := "") (a1 := a0) dj68m71_7 (Or.inl (wd hw 76 rfl)) Via.refl GC rfl ?_
  refine Go.aloadN (pc' := 11) dj68m71_10 rfl rfl rfl ?_
  refine Go.callV (a1 := a0) (pc' := 14) (argsL := []) (rest := [(.int (0 : Int32))]) (ct_coder l Z a0 hw n0 h0 s cs S_cs hcs FCs) dj68m71_11 (wd hw 118 rfl) (wd hw 95 rfl) (wd hw 97 rfl) (wd hw 97 rfl) (wd hw 96 rfl) (wd hw 28 rfl) (wd hw 98 rfl) Es (by decide) (lenOf pd_0 rfl) rfl 1 rfl rfl (by decide) (by decide) (by decide) (by decide) sl0 rfl (fun v_1 h_2 N_3 hQ_4 hle_5 => ?_)
  obtain ⟨rfl, rfl⟩ := hQ_4
  refine Go.rs [(.int (0 : Int32)), (.int (0 : Int32))] rfl ?_
  refine Go.icmpT (pc' := 21) dj68m71_14 (show (0 : Int32) = (0 : Int32) by decide) (by decide) (by decide) ?_
  refine Go.ret0 rfl [] sl0 dj68m71_21 (by decide) (by decide) ?_
  exact ⟨rfl, rfl⟩
theorem dj68m9_0 : decode jdk_68_method_9_code 0 = .ok (.aload_n 0, 1) := by decide +kernel
theorem dj68m9_1 : decode jdk_68_method_9_code 1 = .ok (.getfield 15, 3) := by decide +kernel
theorem dj68m9_4 : decode jdk_68_method_9_code 4 = .ok (.arraylength, 1) := by decide +kernel
theorem dj68m9_5 : decode jdk_68_method_9_code 5 = .ok (.aload_n 0, 1) := by decide +kernel
theorem dj68m9_6 : decode jdk_68_method_9_code 6 = .ok (.getfield 22, 3) := by decide +kernel
theorem dj68m9_9 : decode jdk_68_method_9_code 9 = .ok (.ishr, 1) := by decide +kernel
theorem dj68m9_10 : decode jdk_68_method_9_code 10 = .ok (.istore_n 2, 1) := by decide +kernel
theorem dj68m9_11 : decode jdk_68_method_9_code 11 = .ok (.iload_n 1, 1) := by decide +kernel
theorem dj68m9_12 : decode jdk_68_method_9_code 12 = .ok (.iload_n 2, 1) := by decide +kernel
theorem dj68m9_13 : decode jdk_68_method_9_code 13 = .ok (.isub, 1) := by decide +kernel
theorem dj68m9_14 : decode jdk_68_method_9_code 14 = .ok (.ifCond .le 24, 3) := by decide +kernel
theorem dj68m9_38 : decode jdk_68_method_9_code 38 = .ok (.return_, 1) := by decide +kernel
theorem ct_ens (l : Launch) (Z : State) (a0 : Array Value) (hw : ∀ d ∈ tables_1, d.before a0 Z = true) (n0 : Nat) (h0 : Heap) (a1 b : Addr) (k : ClassId) (vs : List Value) (p cap : Nat) (GC : Fld Z h0 a1 "java/lang/AbstractStringBuilder" "coder" "B" (.int (0 : Int32))) (GV : Fld Z h0 a1 "java/lang/AbstractStringBuilder" "value" "[B" (.ref b)) (AVB : Arv Z h0 b k .byte (Int32.ofNat cap) vs (.int 0)) (hp : p ≤ cap) (hc : cap < 2 ^ 16) :
    Ct l Z (⟨"java/lang/AbstractStringBuilder", "ensureCapacityInternal", "(I)V"⟩ : MethodName) jdk_68_method_9_code 3 none ({ frames := 0, cells := 0, slots := 0, locals := 0 } : Room) EL1 n0 true [] #[(.ref a1), (.int (Int32.ofNat p))] h0 [] (fun v h N => h0 = h ∧ v = none) := by
  refine Ct.of (a0 := a0) (plainFor_of_name pn_java_lang_AbstractStringBuilder) (own_ew hw) (L0 := #[.val (.ref a1), .val (.int (Int32.ofNat p)), .unset]) (fun _ => rfl) ?_
  have l0_AVB := nlt AVB.lt
  refine Go.aloadN (pc' := 1) dj68m9_0 rfl rfl rfl ?_
  refine Go.getF (pc' := 4) (host := "") (a1 := a0) dj68m9_1 (Or.inl (wd hw 74 rfl)) Via.refl GV rfl ?_
  refine Go.alenV (pc' := 5) dj68m9_4 AVB rfl ?_
  refine Go.aloadN (pc' := 6) dj68m9_5 rfl rfl rfl ?_
  refine Go.getF (pc' := 9) (host := "") (a1 := a0) dj68m9_6 (Or.inl (wd hw 76 rfl)) Via.refl GC rfl ?_
  refine Go.ishr (pc' := 10) dj68m9_9 rfl ?_
  refine Go.re (pc' := 10) (L' := #[.val (.ref a1), .val (.int (Int32.ofNat p)), .unset]) (S' := [(.int (Int32.ofNat cap))]) rfl rfl (by rw [shr0]) ?_
  refine Go.istoreN (pc' := 11) #[.val (.ref a1), .val (.int (Int32.ofNat p)), .val (.int (Int32.ofNat cap))] dj68m9_10 rfl rfl ?_
  refine Go.iloadN (pc' := 12) dj68m9_11 rfl rfl ?_
  refine Go.iloadN (pc' := 13) dj68m9_12 rfl rfl ?_
  refine Go.isub (pc' := 14) dj68m9_13 rfl ?_
  refine Go.ifT (pc' := 38) dj68m9_14 (ofN_sub_le hp (by omega)) (by decide) (by decide) ?_
  refine Go.ret0 rfl [] sl0 dj68m9_38 (by decide) (by decide) ?_
  exact ⟨rfl, rfl⟩
theorem dj42m147_0 : decode jdk_42_method_147_code 0 = .ok (.aload_n 0, 1) := by decide +kernel
theorem dj42m147_1 : decode jdk_42_method_147_code 1 = .ok (.invokevirtual 335, 3) := by decide +kernel
theorem dj42m147_4 : decode jdk_42_method_147_code 4 = .ok (.iload_n 3, 1) := by decide +kernel
theorem dj42m147_5 : decode jdk_42_method_147_code 5 = .ok (.if_icmp .ne 23, 3) := by decide +kernel
theorem dj42m147_8 : decode jdk_42_method_147_code 8 = .ok (.aload_n 0, 1) := by decide +kernel
theorem dj42m147_9 : decode jdk_42_method_147_code 9 = .ok (.getfield 9, 3) := by decide +kernel
theorem dj42m147_12 : decode jdk_42_method_147_code 12 = .ok (.iconst 0, 1) := by decide +kernel
theorem dj42m147_13 : decode jdk_42_method_147_code 13 = .ok (.aload_n 1, 1) := by decide +kernel
theorem dj42m147_14 : decode jdk_42_method_147_code 14 = .ok (.iload_n 2, 1) := by decide +kernel
theorem dj42m147_15 : decode jdk_42_method_147_code 15 = .ok (.iload_n 3, 1) := by decide +kernel
theorem dj42m147_16 : decode jdk_42_method_147_code 16 = .ok (.ishl, 1) := by decide +kernel
theorem dj42m147_17 : decode jdk_42_method_147_code 17 = .ok (.aload_n 0, 1) := by decide +kernel
theorem dj42m147_18 : decode jdk_42_method_147_code 18 = .ok (.getfield 9, 3) := by decide +kernel
theorem dj42m147_21 : decode jdk_42_method_147_code 21 = .ok (.arraylength, 1) := by decide +kernel
theorem dj42m147_22 : decode jdk_42_method_147_code 22 = .ok (.invokestatic 212, 3) := by decide +kernel
theorem dj42m147_25 : decode jdk_42_method_147_code 25 = .ok (.goto 18, 3) := by decide +kernel
theorem dj42m147_43 : decode jdk_42_method_147_code 43 = .ok (.return_, 1) := by decide +kernel
theorem ct_get (l : Launch) (Z : State) (a0 : Array Value) (hw : ∀ d ∈ tables_1, d.before a0 Z = true) (n0 : Nat) (h0 : Heap) (s b1 b : Addr) (k1 k : ClassId) (m vd : List Int32) (p cap : Nat) (hp : p + m.length ≤ cap) (hc : cap < 2 ^ 16) (cs : Int32) (S_cs : Sta Z h0 "java/lang/String" "COMPACT_STRINGS" "Z" (.int cs)) (hcs : ¬ cs = 0) (Es : Exa Z h0 s "java/lang/String") (FCs : Fld Z h0 s "java/lang/String" "coder" "B" (.int (0 : Int32))) (FVs : Fld Z h0 s "java/lang/String" "value" "[B" (.ref b1)) (AVs : Arv Z h0 b1 k1 .byte (Int32.ofNat m.length) (m.map Value.int) (.int 0)) (AVB : Arv Z h0 b k .byte (Int32.ofNat cap) (vd.map Value.int) (.int 0)) (hv : vd.length = cap) (hb1 : b1 ≠ b) (hb : n0 ≤ b) :
    Ct l Z (⟨"java/lang/String", "getBytes", "([BIB)V"⟩ : MethodName) jdk_42_method_147_code 4 none ({ frames := 1, cells := 0, slots := 0, locals := 18 } : Room) EL1 n0 true [] #[(.ref s), (.ref b), (.int (Int32.ofNat p)), (.int (0 : Int32))] h0 [b] (fun v h N => v = none ∧ Keep h0 h [b] ∧ Arv Z h b k .byte (Int32.ofNat cap) ((vd.map Value.int).take p ++ m.map Value.int ++ (vd.map Value.int).drop (p + m.length)) (.int 0)) := by
  refine Ct.of (a0 := a0) (plainFor_of_name pn_java_lang_String) (own_ew hw) (L0 := #[.val (.ref s), .val (.ref b), .val (.int (Int32.ofNat p)), .val (.int (0 : Int32))]) (fun _ => rfl) ?_
  have e_sb := nne (Exa.neArv (a0 := a0) Es AVB (wd hw 29 rfl))
  have e_b := nne hb1
  have l0_Es := nlt Es.lt
  have l0_AVs := nlt AVs.lt
  have l0_AVB := nlt AVB.lt
  refine Go.aloadN (pc' := 1) dj42m147_0 rfl rfl rfl ?_
  refine Go.callV (a1 := a0) (pc' := 4) (argsL := []) (rest := []) (ct_coder l Z a0 hw n0 h0 s cs S_cs hcs FCs) dj42m147_1 (wd hw 94 rfl) (wd hw 95 rfl) (wd hw 97 rfl) (wd hw 97 rfl) (wd hw 96 rfl) (wd hw 28 rfl) (wd hw 98 rfl) Es (by decide) (lenOf pd_0 rfl) rfl 0 rfl rfl (by decide) (by decide) (by decide) (by decide) sl0 rfl (fun v_1 h_2 N_3 hQ_4 hle_5 => ?_)
  obtain ⟨rfl, rfl⟩ := hQ_4
  refine Go.rs [(.int (0 : Int32))] rfl ?_
  refine Go.iloadN (pc' := 5) dj42m147_4 rfl rfl ?_
  refine Go.icmpF (pc' := 8) dj42m147_5 (show (0 : Int32) = (0 : Int32) by decide) rfl ?_
  refine Go.aloadN (pc' := 9) dj42m147_8 rfl rfl rfl ?_
  refine Go.getF (pc' := 12) (host := "") (a1 := a0) dj42m147_9 (Or.inl (wd hw 93 rfl)) Via.refl FVs rfl ?_
  refine Go.iconst (pc' := 13) 0 dj42m147_12 rfl rfl ?_
  refine Go.aloadN (pc' := 14) dj42m147_13 rfl rfl rfl ?_
  refine Go.iloadN (pc' := 15) dj42m147_14 rfl rfl ?_
  refine Go.iloadN (pc' := 16) dj42m147_15 rfl rfl ?_
  refine Go.ishl (pc' := 17) dj42m147_16 rfl ?_
  refine Go.re (pc' := 17) (L' := #[.val (.ref s), .val (.ref b), .val (.int (Int32.ofNat p)), .val (.int (0 : Int32))]) (S' := [(.int (Int32.ofNat p)), (.ref b), (.int (0 : Int32)), (.ref b1)]) rfl rfl (by rw [shl0]) ?_
  refine Go.aloadN (pc' := 18) dj42m147_17 rfl rfl rfl ?_
  refine Go.getF (pc' := 21) (host := "") (a1 := a0) dj42m147_18 (Or.inl (wd hw 93 rfl)) Via.refl FVs rfl ?_
  refine Go.alenV (pc' := 22) dj42m147_21 AVs rfl ?_
  refine Go.acopy (pc' := 25) (a1 := a0) (us := m.map Value.int) dj42m147_22 (wd hw 124 rfl) (wd hw 127 rfl) (wd hw 125 rfl) (wd hw 126 rfl) AVs AVB rfl (by decide) (ofN_nn (by omega)) (ofN_nn (by omega)) (by rw [ofN_nat (by omega)]; exact Nat.le_of_eq (Nat.zero_add _)) (by rw [ofN_nat (by omega), ofN_nat (by omega), ofN_nat (by omega)]; exact hp) (by rw [ofN_nat (by omega)]; exact cp_us m) (by rw [ofN_nat (by omega), ofN_nat (by omega), List.length_map, hv]; exact hp) (Sf.mem (by simp)) (by omega) rfl (by decide) 0 rfl (by decide) rfl (fun h_6 K_7 A_8 => ?_)
  have szh_6 := nle K_7.1
  have F_9 : Arv Z h_6 b k .byte (Int32.ofNat cap) ((vd.map Value.int).take p ++ m.map Value.int ++ (vd.map Value.int).drop (p + m.length)) (.int 0) := by have q := A_8; rw [ofN_nat (by omega), ofN_nat (by omega)] at q; exact q
  refine Go.rs [] rfl ?_
  refine Go.goto (pc' := 43) dj42m147_25 (by decide) (by decide) ?_
  refine Go.ret0 rfl [] sl0 dj42m147_43 (by decide) (by decide) ?_
  exact ⟨rfl, (Keep.trans (Keep.refl _ [b]) K_7 (allS (Or.inl (by simp)) all0)), F_9⟩
theorem dj68m73_0 : decode jdk_68_method_73_code 0 = .ok (.aload_n 0, 1) := by decide +kernel
theorem dj68m73_1 : decode jdk_68_method_73_code 1 = .ok (.aload_n 2, 1) := by decide +kernel
theorem pd_2 : parseMethodDescriptor "(Ljava/lang/String;)V" = some ⟨[(.object "java/lang/String")], none⟩ := by decide +kernel
theorem dj68m73_2 : decode jdk_68_method_73_code 2 = .ok (.invokevirtual 397, 3) := by decide +kernel
theorem dj68m73_5 : decode jdk_68_method_73_code 5 = .ok (.aload_n 2, 1) := by decide +kernel
theorem dj68m73_6 : decode jdk_68_method_73_code 6 = .ok (.aload_n 0, 1) := by decide +kernel
theorem dj68m73_7 : decode jdk_68_method_73_code 7 = .ok (.getfield 15, 3) := by decide +kernel
theorem dj68m73_10 : decode jdk_68_method_73_code 10 = .ok (.iload_n 1, 1) := by decide +kernel
theorem dj68m73_11 : decode jdk_68_method_73_code 11 = .ok (.aload_n 0, 1) := by decide +kernel
theorem dj68m73_12 : decode jdk_68_method_73_code 12 = .ok (.getfield 22, 3) := by decide +kernel
theorem pd_3 : parseMethodDescriptor "([BIB)V" = some ⟨[(.array .byte), .int, .byte], none⟩ := by decide +kernel
theorem dj68m73_15 : decode jdk_68_method_73_code 15 = .ok (.invokevirtual 399, 3) := by decide +kernel
theorem dj68m73_18 : decode jdk_68_method_73_code 18 = .ok (.return_, 1) := by decide +kernel
theorem ct_put (l : Launch) (Z : State) (a0 : Array Value) (hw : ∀ d ∈ tables_1, d.before a0 Z = true) (n0 : Nat) (h0 : Heap) (a1 s b1 b : Addr) (k1 k : ClassId) (m vd : List Int32) (p cap : Nat) (hp : p + m.length ≤ cap) (hc : cap < 2 ^ 16) (cs : Int32) (S_cs : Sta Z h0 "java/lang/String" "COMPACT_STRINGS" "Z" (.int cs)) (hcs : ¬ cs = 0) (Es : Exa Z h0 s "java/lang/String") (FCs : Fld Z h0 s "java/lang/String" "coder" "B" (.int (0 : Int32))) (FVs : Fld Z h0 s "java/lang/String" "value" "[B" (.ref b1)) (AVs : Arv Z h0 b1 k1 .byte (Int32.ofNat m.length) (m.map Value.int) (.int 0)) (EA : Exa Z h0 a1 "java/lang/StringBuilder") (GC : Fld Z h0 a1 "java/lang/AbstractStringBuilder" "coder" "B" (.int (0 : Int32))) (GV : Fld Z h0 a1 "java/lang/AbstractStringBuilder" "value" "[B" (.ref b)) (AVB : Arv Z h0 b k .byte (Int32.ofNat cap) (vd.map Value.int) (.int 0)) (hv : vd.length = cap) (hb1 : b1 ≠ b) (hb : n0 ≤ b) :
    Ct l Z (⟨"java/lang/AbstractStringBuilder", "putStringAt", "(ILjava/lang/String;)V"⟩ : MethodName) jdk_68_method_73_code 3 none ({ frames := 2, cells := 0, slots := 0, locals := 33 } : Room) EL1 n0 true [] #[(.ref a1), (.int (Int32.ofNat p)), (.ref s)] h0 [b] (fun v h N => v = none ∧ Keep h0 h [b] ∧ Arv Z h b k .byte (Int32.ofNat cap) ((vd.map Value.int).take p ++ m.map Value.int ++ (vd.map Value.int).drop (p + m.length)) (.int 0)) := by
  refine Ct.of (a0 := a0) (plainFor_of_name pn_java_lang_AbstractStringBuilder) (own_ew hw) (L0 := #[.val (.ref a1), .val (.int (Int32.ofNat p)), .val (.ref s)]) (fun _ => rfl) ?_
  have e_sb := nne (Exa.neArv (a0 := a0) Es AVB (wd hw 29 rfl))
  have e_b := nne hb1
  have e_ab := nne (Exa.neArv (a0 := a0) EA AVB (wd hw 61 rfl))
  have l0_Es := nlt Es.lt
  have l0_AVs := nlt AVs.lt
  have l0_EA := nlt EA.lt
  have l0_AVB := nlt AVB.lt
  refine Go.aloadN (pc' := 1) dj68m73_0 rfl rfl rfl ?_
  refine Go.aloadN (pc' := 2) dj68m73_1 rfl rfl rfl ?_
  refine Go.callW (a1 := a0) (pc' := 5) (argsL := [(.ref s)]) (rest := []) (ct_inf l Z a0 hw n0 h0 a1 s cs S_cs hcs GC Es FCs) dj68m73_2 (wd hw 113 rfl) (decl_by (wd hw 114 rfl) (wd hw 117 rfl)) (wd hw 106 rfl) rfl (wd hw 116 rfl) (wd hw 114 rfl) (wd hw 70 rfl) (wd hw 117 rfl) EA (by decide) (lenOf pd_2 rfl) rfl 0 rfl rfl (by decide) (by decide) (by decide) (by decide) sl0 rfl (fun v_1 h_2 N_3 hQ_4 hle_5 => ?_)
  obtain ⟨rfl, rfl⟩ := hQ_4
  refine Go.rs [] rfl ?_
  refine Go.aloadN (pc' := 6) dj68m73_5 rfl rfl rfl ?_
  refine Go.aloadN (pc' := 7) dj68m73_6 rfl rfl rfl ?_
  refine Go.getF (pc' := 10) (host := "") (a1 := a0) dj68m73_7 (Or.inl (wd hw 74 rfl)) Via.refl GV rfl ?_
  refine Go.iloadN (pc' := 11) dj68m73_10 rfl rfl ?_
  refine Go.aloadN (pc' := 12) dj68m73_11 rfl rfl rfl ?_
  refine Go.getF (pc' := 15) (host := "") (a1 := a0) dj68m73_12 (Or.inl (wd hw 76 rfl)) Via.refl GC rfl ?_
  refine Go.callV (a1 := a0) (pc' := 18) (argsL := [(.ref b), (.int (Int32.ofNat p)), (.int (0 : Int32))]) (rest := []) (ct_get l Z a0 hw n0 h0 s b1 b k1 k m vd p cap hp hc cs S_cs hcs Es FCs FVs AVs AVB hv hb1 hb) dj68m73_15 (wd hw 119 rfl) (wd hw 120 rfl) (wd hw 122 rfl) (wd hw 122 rfl) (wd hw 121 rfl) (wd hw 28 rfl) (wd hw 123 rfl) Es (by decide) (lenOf pd_3 rfl) rfl 0 rfl rfl (by decide) (by decide) (by decide) (by decide) (sl1 (by simp)) rfl (fun v_8 h_9 N_10 hQ_11 hle_12 => ?_)
  obtain ⟨rfl, K_6, F_7⟩ := hQ_11
  have szh_9 := nle K_6.1
  refine Go.rs [] rfl ?_
  refine Go.ret0 rfl [] sl0 dj68m73_18 (by decide) (by decide) ?_
  exact ⟨rfl, (Keep.trans (Keep.refl _ [b]) K_6 (allS (Or.inl (by simp)) all0)), F_7⟩
theorem dj68m22_0 : decode jdk_68_method_22_code 0 = .ok (.aload_n 1, 1) := by decide +kernel
theorem dj68m22_1 : decode jdk_68_method_22_code 1 = .ok (.ifnonnull 8, 3) := by decide +kernel
theorem dj68m22_9 : decode jdk_68_method_22_code 9 = .ok (.aload_n 1, 1) := by decide +kernel
theorem pd_4 : parseMethodDescriptor "()I" = some ⟨[], (some .int)⟩ := by decide +kernel
theorem dj68m22_10 : decode jdk_68_method_22_code 10 = .ok (.invokevirtual 32, 3) := by decide +kernel
theorem dj68m22_13 : decode jdk_68_method_22_code 13 = .ok (.istore_n 2, 1) := by decide +kernel
theorem dj68m22_14 : decode jdk_68_method_22_code 14 = .ok (.aload_n 0, 1) := by decide +kernel
theorem dj68m22_15 : decode jdk_68_method_22_code 15 = .ok (.aload_n 0, 1) := by decide +kernel
theorem dj68m22_16 : decode jdk_68_method_22_code 16 = .ok (.getfield 79, 3) := by decide +kernel
theorem dj68m22_19 : decode jdk_68_method_22_code 19 = .ok (.iload_n 2, 1) := by decide +kernel
theorem dj68m22_20 : decode jdk_68_method_22_code 20 = .ok (.iadd, 1) := by decide +kernel
theorem pd_5 : parseMethodDescriptor "(I)V" = some ⟨[.int], none⟩ := by decide +kernel
theorem dj68m22_21 : decode jdk_68_method_22_code 21 = .ok (.invokevirtual 100, 3) := by decide +kernel
theorem dj68m22_24 : decode jdk_68_method_22_code 24 = .ok (.aload_n 0, 1) := by decide +kernel
theorem dj68m22_25 : decode jdk_68_method_22_code 25 = .ok (.aload_n 0, 1) := by decide +kernel
theorem dj68m22_26 : decode jdk_68_method_22_code 26 = .ok (.getfield 79, 3) := by decide +kernel
theorem dj68m22_29 : decode jdk_68_method_22_code 29 = .ok (.aload_n 1, 1) := by decide +kernel
theorem pd_6 : parseMethodDescriptor "(ILjava/lang/String;)V" = some ⟨[.int, (.object "java/lang/String")], none⟩ := by decide +kernel
theorem dj68m22_30 : decode jdk_68_method_22_code 30 = .ok (.invokevirtual 208, 3) := by decide +kernel
theorem dj68m22_33 : decode jdk_68_method_22_code 33 = .ok (.aload_n 0, 1) := by decide +kernel
theorem dj68m22_34 : decode jdk_68_method_22_code 34 = .ok (.dup, 1) := by decide +kernel
theorem dj68m22_35 : decode jdk_68_method_22_code 35 = .ok (.getfield 79, 3) := by decide +kernel
theorem dj68m22_38 : decode jdk_68_method_22_code 38 = .ok (.iload_n 2, 1) := by decide +kernel
theorem dj68m22_39 : decode jdk_68_method_22_code 39 = .ok (.iadd, 1) := by decide +kernel
theorem dj68m22_40 : decode jdk_68_method_22_code 40 = .ok (.putfield 79, 3) := by decide +kernel
theorem dj68m22_43 : decode jdk_68_method_22_code 43 = .ok (.aload_n 0, 1) := by decide +kernel
theorem dj68m22_44 : decode jdk_68_method_22_code 44 = .ok (.areturn, 1) := by decide +kernel
theorem ct_aapp (l : Launch) (Z : State) (a0 : Array Value) (hw : ∀ d ∈ tables_1, d.before a0 Z = true) (n0 : Nat) (h0 : Heap) (a1 s b1 b : Addr) (k1 k : ClassId) (ll vr m : List Int32) (cap : Nat) (hv : (ll ++ vr).length = cap) (hm : ll.length + m.length ≤ cap) (hc : cap < 2 ^ 16) (hb1 : b1 ≠ b) (hb : n0 ≤ b) (ha : n0 ≤ a1) (cs : Int32) (S_cs : Sta Z h0 "java/lang/String" "COMPACT_STRINGS" "Z" (.int cs)) (hcs : ¬ cs = 0) (Es : Exa Z h0 s "java/lang/String") (FCs : Fld Z h0 s "java/lang/String" "coder" "B" (.int (0 : Int32))) (FVs : Fld Z h0 s "java/lang/String" "value" "[B" (.ref b1)) (AVs : Arv Z h0 b1 k1 .byte (Int32.ofNat m.length) (m.map Value.int) (.int 0)) (EA : Exa Z h0 a1 "java/lang/StringBuilder") (GN : Fld Z h0 a1 "java/lang/AbstractStringBuilder" "count" "I" (.int (Int32.ofNat ll.length))) (GC : Fld Z h0 a1 "java/lang/AbstractStringBuilder" "coder" "B" (.int (0 : Int32))) (GV : Fld Z h0 a1 "java/lang/AbstractStringBuilder" "value" "[B" (.ref b)) (AVB : Arv Z h0 b k .byte (Int32.ofNat cap) ((ll ++ vr).map Value.int) (.int 0)) :
    Ct l Z (⟨"java/lang/AbstractStringBuilder", "append", "(Ljava/lang/String;)Ljava/lang/AbstractStringBuilder;"⟩ : MethodName) jdk_68_method_22_code 3 (some (.object "java/lang/AbstractStringBuilder")) ({ frames := 3, cells := 0, slots := 0, locals := 47 } : Room) EL1 n0 true [] #[(.ref a1), (.ref s)] h0 [b] (fun v h N => v = some (.ref a1) ∧ Keep h0 h [a1, b] ∧ Exa Z h a1 "java/lang/StringBuilder" ∧ Fld Z h a1 "java/lang/AbstractStringBuilder" "count" "I" (.int (Int32.ofNat (ll.length + m.length))) ∧ Fld Z h a1 "java/lang/AbstractStringBuilder" "coder" "B" (.int (0 : Int32)) ∧ Fld Z h a1 "java/lang/AbstractStringBuilder" "value" "[B" (.ref b) ∧ Arv Z h b k .byte (Int32.ofNat cap) ((ll ++ m ++ vr.drop m.length).map Value.int) (.int 0)) := by
  refine Ct.of (a0 := a0) (plainFor_of_name pn_java_lang_AbstractStringBuilder) (own_ew hw) (L0 := #[.val (.ref a1), .val (.ref s), .unset]) (fun _ => rfl) ?_
  have e_sb := nne (Exa.neArv (a0 := a0) Es AVB (wd hw 29 rfl))
  have e_b := nne hb1
  have e_ab := nne (Exa.neArv (a0 := a0) EA AVB (wd hw 61 rfl))
  have e_as := nne (Exa.ne EA Es (by decide))
  have e_a1 := nne (Exa.neArv (a0 := a0) EA AVs (wd hw 61 rfl))
  have l0_Es := nlt Es.lt
  have l0_AVs := nlt AVs.lt
  have l0_EA := nlt EA.lt
  have l0_AVB := nlt AVB.lt
  refine Go.aloadN (pc' := 1) dj68m22_0 rfl rfl rfl ?_
  refine Go.ifnonnullT (pc' := 9) dj68m22_1 (by decide) (by decide) ?_
  refine Go.aloadN (pc' := 10) dj68m22_9 rfl rfl rfl ?_
  refine Go.callV (a1 := a0) (pc' := 13) (argsL := []) (rest := []) (ct_length l Z a0 hw n0 h0 s b1 k1 (Int32.ofNat m.length) (m.map Value.int) cs S_cs hcs Es FCs FVs AVs) dj68m22_10 (wd hw 88 rfl) (wd hw 89 rfl) (wd hw 91 rfl) (wd hw 91 rfl) (wd hw 90 rfl) (wd hw 28 rfl) (wd hw 92 rfl) Es (by decide) (lenOf pd_4 rfl) rfl 0 rfl rfl (by decide) (by decide) (by decide) (by decide) sl0 rfl (fun v_1 h_2 N_3 hQ_4 hle_5 => ?_)
  obtain ⟨rfl, rfl⟩ := hQ_4
  refine Go.rs [(.int (Int32.ofNat m.length))] rfl ?_
  refine Go.istoreN (pc' := 14) #[.val (.ref a1), .val (.ref s), .val (.int (Int32.ofNat m.length))] dj68m22_13 rfl rfl ?_
  refine Go.aloadN (pc' := 15) dj68m22_14 rfl rfl rfl ?_
  refine Go.aloadN (pc' := 16) dj68m22_15 rfl rfl rfl ?_
  refine Go.getF (pc' := 19) (host := "") (a1 := a0) dj68m22_16 (Or.inl (wd hw 101 rfl)) Via.refl GN rfl ?_
  refine Go.iloadN (pc' := 20) dj68m22_19 rfl rfl ?_
  refine Go.iadd (pc' := 21) dj68m22_20 rfl ?_
  refine Go.re (pc' := 21) (L' := #[.val (.ref a1), .val (.ref s), .val (.int (Int32.ofNat m.length))]) (S' := [(.int (Int32.ofNat (ll.length + m.length))), (.ref a1)]) rfl rfl (by rw [ofN_add]) ?_
  refine Go.callW (a1 := a0) (pc' := 24) (argsL := [(.int (Int32.ofNat (ll.length + m.length)))]) (rest := []) (ct_ens l Z a0 hw n0 h0 a1 b k _ (ll.length + m.length) cap GC GV AVB hm hc) dj68m22_21 (wd hw 103 rfl) (decl_by (wd hw 104 rfl) (wd hw 107 rfl)) (wd hw 106 rfl) rfl (wd hw 106 rfl) (wd hw 104 rfl) (wd hw 70 rfl) (wd hw 107 rfl) EA (by decide) (lenOf pd_5 rfl) rfl 0 rfl rfl (by decide) (by decide) (by decide) (by decide) sl0 rfl (fun v_6 h_7 N_8 hQ_9 hle_10 => ?_)
  obtain ⟨rfl, rfl⟩ := hQ_9
  refine Go.rs [] rfl ?_
  refine Go.aloadN (pc' := 25) dj68m22_24 rfl rfl rfl ?_
  refine Go.aloadN (pc' := 26) dj68m22_25 rfl rfl rfl ?_
  refine Go.getF (pc' := 29) (host := "") (a1 := a0) dj68m22_26 (Or.inl (wd hw 101 rfl)) Via.refl GN rfl ?_
  refine Go.aloadN (pc' := 30) dj68m22_29 rfl rfl rfl ?_
  refine Go.callW (a1 := a0) (pc' := 33) (argsL := [(.int (Int32.ofNat ll.length)), (.ref s)]) (rest := []) (ct_put l Z a0 hw n0 h0 a1 s b1 b k1 k m (ll ++ vr) ll.length cap hm hc cs S_cs hcs Es FCs FVs AVs EA GC GV AVB hv hb1 hb) dj68m22_30 (wd hw 108 rfl) (decl_by (wd hw 109 rfl) (wd hw 112 rfl)) (wd hw 106 rfl) rfl (wd hw 111 rfl) (wd hw 109 rfl) (wd hw 70 rfl) (wd hw 112 rfl) EA (by decide) (lenOf pd_6 rfl) rfl 0 rfl rfl (by decide) (by decide) (by decide) (by decide) (sl1 (by simp)) rfl (fun v_14 h_15 N_16 hQ_17 hle_18 => ?_)
  obtain ⟨rfl, K_11, F_12⟩ := hQ_17
  have szh_15 := nle K_11.1
  have F_13 : Arv Z h_15 b k .byte (Int32.ofNat cap) ((ll ++ m ++ vr.drop m.length).map Value.int) (.int 0) := by rw [← put_at]; exact F_12
  refine Go.rs [] rfl ?_
  refine Go.aloadN (pc' := 34) dj68m22_33 rfl rfl rfl ?_
  refine Go.dup (pc' := 35) dj68m22_34 rfl rfl ?_
  have F_19 := (Fld.keep GN K_11 (ninS (nne (by omega)) nin0))
  refine Go.getF (pc' := 38) (host := "") (a1 := a0) dj68m22_35 (Or.inl (wd hw 101 rfl)) Via.refl F_19 rfl ?_
  refine Go.iloadN (pc' := 39) dj68m22_38 rfl rfl ?_
  refine Go.iadd (pc' := 40) dj68m22_39 rfl ?_
  refine Go.re (pc' := 40) (L' := #[.val (.ref a1), .val (.ref s), .val (.int (Int32.ofNat m.length))]) (S' := [(.int (Int32.ofNat (ll.length + m.length))), (.ref a1)]) rfl rfl (by rw [ofN_add]) ?_
  have F_20 := (Exa.keep EA K_11)
  refine Go.putF (pc' := 43) (host := "") (a1 := a0) dj68m22_40 (Or.inl (wd hw 101 rfl)) Via.refl F_19 F_20 (Or.inl (wd hw 102 rfl)) (wd hw 61 rfl) (ty := .int) (by decide) rfl rfl (Sf.exa F_20 (by decide) (by decide)) (by omega) rfl (fun h_21 W_22 => ?_)
  have szh_21 : h_21.size = h_15.size := Wr.size W_22
  have F_23 : Fld Z h_21 a1 "java/lang/AbstractStringBuilder" "count" "I" (.int (Int32.ofNat (ll.length + m.length))) := Fld.same W_22 F_19
  refine Go.aloadN (pc' := 44) dj68m22_43 rfl rfl rfl ?_
  have F_24 := (Exa.wr W_22 F_20)
  have F_25 : Fld Z h_21 a1 "java/lang/AbstractStringBuilder" "coder" "B" (.int (0 : Int32)) := (Fld.other W_22 (Fld.keep GC K_11 (ninS (nne (by omega)) nin0)) (Or.inr (slot_ne (Or.inl (wd hw 77 rfl)) (Or.inl (wd hw 102 rfl)) (by decide) (t := .byte) (t' := .int) (by decide) (by decide))))
  have F_26 : Fld Z h_21 a1 "java/lang/AbstractStringBuilder" "value" "[B" (.ref b) := (Fld.other W_22 (Fld.keep GV K_11 (ninS (nne (by omega)) nin0)) (Or.inr (slot_ne (Or.inl (wd hw 75 rfl)) (Or.inl (wd hw 102 rfl)) (by decide) (t := (.array .byte)) (t' := .int) (by decide) (by decide))))
  have F_27 := (Arv.other F_13 W_22 (nne (by omega)))
  refine Go.retA rfl rfl rfl [] sl0 dj68m22_44 (by decide) (by decide) ?_
  exact ⟨rfl, (Keep.wr (Keep.trans (Keep.refl _ [a1, b]) K_11 (allS (Or.inl (by simp)) all0)) W_22 (Or.inl (by simp))), F_24, F_23, F_25, F_26, F_27⟩
theorem pn_java_lang_StringBuilder : plainName "java/lang/StringBuilder" = true := by first | (simp [plainName, overriddenIn]; done) | decide +kernel
theorem dj67m7_0 : decode jdk_67_method_7_code 0 = .ok (.aload_n 0, 1) := by decide +kernel
theorem dj67m7_1 : decode jdk_67_method_7_code 1 = .ok (.aload_n 1, 1) := by decide +kernel
theorem pd_7 : parseMethodDescriptor "(Ljava/lang/String;)Ljava/lang/AbstractStringBuilder;" = some ⟨[(.object "java/lang/String")], (some (.object "java/lang/AbstractStringBuilder"))⟩ := by decide +kernel
theorem dj67m7_2 : decode jdk_67_method_7_code 2 = .ok (.invokespecial 29, 3) := by decide +kernel
theorem dj67m7_5 : decode jdk_67_method_7_code 5 = .ok (.pop, 1) := by decide +kernel
theorem dj67m7_6 : decode jdk_67_method_7_code 6 = .ok (.aload_n 0, 1) := by decide +kernel
theorem dj67m7_7 : decode jdk_67_method_7_code 7 = .ok (.areturn, 1) := by decide +kernel
theorem ct_app (l : Launch) (Z : State) (a0 : Array Value) (hw : ∀ d ∈ tables_1, d.before a0 Z = true) (n0 : Nat) (h0 : Heap) (a1 s b1 b : Addr) (ll m : List Int32) (cap : Nat) (HB : Sb Z h0 a1 b cap ll) (HS : Str Z h0 s b1 m) (hm : ll.length + m.length ≤ cap) (hc : cap < 2 ^ 16) (hb1 : b1 ≠ b) (hb : n0 ≤ b) (ha : n0 ≤ a1) (cs : Int32) (S_cs : Sta Z h0 "java/lang/String" "COMPACT_STRINGS" "Z" (.int cs)) (hcs : ¬ cs = 0) :
    Ct l Z (⟨"java/lang/StringBuilder", "append", "(Ljava/lang/String;)Ljava/lang/StringBuilder;"⟩ : MethodName) jdk_67_method_7_code 2 (some (.object "java/lang/StringBuilder")) ({ frames := 4, cells := 0, slots := 0, locals := 61 } : Room) EL1 n0 true [] #[(.ref a1), (.ref s)] h0 [b] (fun v h N => v = some (.ref a1) ∧ Keep h0 h [a1, b] ∧ Sb Z h a1 b cap (ll ++ m)) := by
  refine Ct.of (a0 := a0) (plainFor_of_name pn_java_lang_StringBuilder) (own_ew hw) (L0 := #[.val (.ref a1), .val (.ref s)]) (fun _ => rfl) ?_
  obtain ⟨EA, GN, GC, GV, k, vr, AVB, hv⟩ := HB
  obtain ⟨Es, FCs, FVs, k1, AVs⟩ := HS
  have l0_EA := nlt EA.lt
  refine Go.aloadN (pc' := 1) dj67m7_0 rfl rfl rfl ?_
  refine Go.aloadN (pc' := 2) dj67m7_1 rfl rfl rfl ?_
  refine Go.callU (a1 := a0) (pc' := 5) (argsL := [(.ref s)]) (rest := []) (ct_aapp l Z a0 hw n0 h0 a1 s b1 b k1 k ll vr m cap hv hm hc hb1 hb ha cs S_cs hcs Es FCs FVs AVs EA GN GC GV AVB) dj67m7_2 (by decide) (wd hw 83 rfl) (wd hw 86 rfl) (wd hw 106 rfl) rfl (wd hw 85 rfl) (wd hw 84 rfl) (wd hw 70 rfl) (wd hw 87 rfl) EA (by decide) (lenOf pd_7 rfl) rfl 0 rfl rfl (by decide) (by decide) (by decide) (by decide) (sl1 (by simp)) rfl (fun v_7 h_8 N_9 hQ_10 hle_11 => ?_)
  obtain ⟨rfl, K_1, X_2, F_3, F_4, F_5, A_6⟩ := hQ_10
  have szh_8 := nle K_1.1
  refine Go.rs [(.ref a1)] rfl ?_
  refine Go.pop (pc' := 6) dj67m7_5 rfl rfl ?_
  refine Go.aloadN (pc' := 7) dj67m7_6 rfl rfl rfl ?_
  refine Go.retA rfl rfl rfl [] sl0 dj67m7_7 (by decide) (by decide) ?_
  exact ⟨rfl, (Keep.trans (Keep.refl _ [a1, b]) K_1 (allS (Or.inl (by simp)) (allS (Or.inl (by simp)) all0))), X_2, by rw [List.length_append]; exact F_3, F_4, F_5, k, vr.drop m.length, A_6, by rw [List.length_append, List.length_append, List.length_drop]; rw [List.length_append] at hv; omega⟩
theorem dj68m64_0 : decode jdk_68_method_64_code 0 = .ok (.aload_n 0, 1) := by decide +kernel
theorem dj68m64_1 : decode jdk_68_method_64_code 1 = .ok (.getfield 15, 3) := by decide +kernel
theorem dj68m64_4 : decode jdk_68_method_64_code 4 = .ok (.areturn, 1) := by decide +kernel
theorem ct_gv (l : Launch) (Z : State) (a0 : Array Value) (hw : ∀ d ∈ tables_1, d.before a0 Z = true) (n0 : Nat) (h0 : Heap) (a1 b : Addr) (GV : Fld Z h0 a1 "java/lang/AbstractStringBuilder" "value" "[B" (.ref b)) :
    Ct l Z (⟨"java/lang/AbstractStringBuilder", "getValue", "()[B"⟩ : MethodName) jdk_68_method_64_code 1 (some (.array .byte)) ({ frames := 0, cells := 0, slots := 0, locals := 0 } : Room) EL1 n0 true [] #[(.ref a1)] h0 [] (fun v h N => h0 = h ∧ v = some (.ref b)) := by
  refine Ct.of (a0 := a0) (plainFor_of_name pn_java_lang_AbstractStringBuilder) (own_ew hw) (L0 := #[.val (.ref a1)]) (fun _ => rfl) ?_
  refine Go.aloadN (pc' := 1) dj68m64_0 rfl rfl rfl ?_
  refine Go.getF (pc' := 4) (host := "") (a1 := a0) dj68m64_1 (Or.inl (wd hw 74 rfl)) Via.refl GV rfl ?_
  refine Go.retA rfl rfl rfl [] sl0 dj68m64_4 (by decide) (by decide) ?_
  exact ⟨rfl, rfl⟩
theorem dj68m6_0 : decode jdk_68_method_6_code 0 = .ok (.aload_n 0, 1) := by decide +kernel
theorem dj68m6_1 : decode jdk_68_method_6_code 1 = .ok (.getfield 79, 3) := by decide +kernel
theorem dj68m6_4 : decode jdk_68_method_6_code 4 = .ok (.ireturn, 1) := by decide +kernel
theorem ct_alen (l : Launch) (Z : State) (a0 : Array Value) (hw : ∀ d ∈ tables_1, d.before a0 Z = true) (n0 : Nat) (h0 : Heap) (a1 : Addr) (n : Int32) (GN : Fld Z h0 a1 "java/lang/AbstractStringBuilder" "count" "I" (.int n)) :
    Ct l Z (⟨"java/lang/AbstractStringBuilder", "length", "()I"⟩ : MethodName) jdk_68_method_6_code 1 (some .int) ({ frames := 0, cells := 0, slots := 0, locals := 0 } : Room) EL1 n0 true [] #[(.ref a1)] h0 [] (fun v h N => h0 = h ∧ v = some (.int n)) := by
  refine Ct.of (a0 := a0) (plainFor_of_name pn_java_lang_AbstractStringBuilder) (own_ew hw) (L0 := #[.val (.ref a1)]) (fun _ => rfl) ?_
  refine Go.aloadN (pc' := 1) dj68m6_0 rfl rfl rfl ?_
  refine Go.getF (pc' := 4) (host := "") (a1 := a0) dj68m6_1 (Or.inl (wd hw 101 rfl)) Via.refl GN rfl ?_
  refine Go.retI rfl [] sl0 dj68m6_4 (by decide) (by decide) ?_
  exact ⟨rfl, rfl⟩
theorem dj67m93_0 : decode jdk_67_method_93_code 0 = .ok (.aload_n 0, 1) := by decide +kernel
theorem dj67m93_1 : decode jdk_67_method_93_code 1 = .ok (.invokespecial 343, 3) := by decide +kernel
theorem dj67m93_4 : decode jdk_67_method_93_code 4 = .ok (.ireturn, 1) := by decide +kernel
theorem ct_slen (l : Launch) (Z : State) (a0 : Array Value) (hw : ∀ d ∈ tables_1, d.before a0 Z = true) (n0 : Nat) (h0 : Heap) (a1 : Addr) (n : Int32) (EA : Exa Z h0 a1 "java/lang/StringBuilder") (GN : Fld Z h0 a1 "java/lang/AbstractStringBuilder" "count" "I" (.int n)) :
    Ct l Z (⟨"java/lang/StringBuilder", "length", "()I"⟩ : MethodName) jdk_67_method_93_code 1 (some .int) ({ frames := 1, cells := 0, slots := 0, locals := 12 } : Room) EL1 n0 true [] #[(.ref a1)] h0 [] (fun v h N => h0 = h ∧ v = some (.int n)) := by
  refine Ct.of (a0 := a0) (plainFor_of_name pn_java_lang_StringBuilder) (own_ew hw) (L0 := #[.val (.ref a1)]) (fun _ => rfl) ?_
  have l0_EA := nlt EA.lt
  refine Go.aloadN (pc' := 1) dj67m93_0 rfl rfl rfl ?_
  refine Go.callU (a1 := a0) (pc' := 4) (argsL := []) (rest := []) (ct_alen l Z a0 hw n0 h0 a1 n GN) dj67m93_1 (by decide) (wd hw 154 rfl) (wd hw 149 rfl) (wd hw 106 rfl) rfl (wd hw 85 rfl) (wd hw 150 rfl) (wd hw 70 rfl) (wd hw 155 rfl) EA (by decide) (lenOf pd_4 rfl) rfl 0 rfl rfl (by decide) (by decide) (by decide) (by decide) sl0 rfl (fun v_1 h_2 N_3 hQ_4 hle_5 => ?_)
  obtain ⟨rfl, rfl⟩ := hQ_4
  refine Go.rs [(.int n)] rfl ?_
  refine Go.retI rfl [] sl0 dj67m93_4 (by decide) (by decide) ?_
  exact ⟨rfl, rfl⟩
theorem dj68m68_0 : decode jdk_68_method_68_code 0 = .ok (.getstatic 18, 3) := by decide +kernel
theorem dj68m68_3 : decode jdk_68_method_68_code 3 = .ok (.ifCond .eq 14, 3) := by decide +kernel
theorem dj68m68_6 : decode jdk_68_method_68_code 6 = .ok (.aload_n 0, 1) := by decide +kernel
theorem dj68m68_7 : decode jdk_68_method_68_code 7 = .ok (.getfield 22, 3) := by decide +kernel
theorem dj68m68_10 : decode jdk_68_method_68_code 10 = .ok (.ifCond .ne 7, 3) := by decide +kernel
theorem dj68m68_13 : decode jdk_68_method_68_code 13 = .ok (.iconst 1, 1) := by decide +kernel
theorem dj68m68_14 : decode jdk_68_method_68_code 14 = .ok (.goto 4, 3) := by decide +kernel
theorem dj68m68_18 : decode jdk_68_method_68_code 18 = .ok (.ireturn, 1) := by decide +kernel
theorem ct_isl (l : Launch) (Z : State) (a0 : Array Value) (hw : ∀ d ∈ tables_1, d.before a0 Z = true) (n0 : Nat) (h0 : Heap) (a1 : Addr) (cs : Int32) (S_cs : Sta Z h0 "java/lang/String" "COMPACT_STRINGS" "Z" (.int cs)) (hcs : ¬ cs = 0) (GC : Fld Z h0 a1 "java/lang/AbstractStringBuilder" "coder" "B" (.int (0 : Int32))) :
    Ct l Z (⟨"java/lang/AbstractStringBuilder", "isLatin1", "()Z"⟩ : MethodName) jdk_68_method_68_code 1 (some .boolean) ({ frames := 0, cells := 0, slots := 0, locals := 0 } : Room) EL1 n0 true [] #[(.ref a1)] h0 [] (fun v h N => h0 = h ∧ v = some (.int 1)) := by
  refine Ct.of (a0 := a0) (plainFor_of_name pn_java_lang_AbstractStringBuilder) (own_ew hw) (L0 := #[.val (.ref a1)]) (fun _ => rfl) ?_
  refine Go.getS (pc' := 3) (host := "") (a1 := a0) dj68m68_0 (Or.inl (wd hw 73 rfl)) Via.refl S_cs rfl ?_
  refine Go.ifF (pc' := 6) dj68m68_3 (hcs) rfl ?_
  refine Go.aloadN (pc' := 7) dj68m68_6 rfl rfl rfl ?_
  refine Go.getF (pc' := 10) (host := "") (a1 := a0) dj68m68_7 (Or.inl (wd hw 76 rfl)) Via.refl GC rfl ?_
  refine Go.ifF (pc' := 13) dj68m68_10 (show (0 : Int32) = (0 : Int32) by decide) rfl ?_
  refine Go.iconst (pc' := 14) 1 dj68m68_13 rfl rfl ?_
  refine Go.goto (pc' := 18) dj68m68_14 (by decide) (by decide) ?_
  refine Go.retN (t := .boolean) (1 : Int32) rfl (by simp) rfl [] sl0 dj68m68_18 (by decide) (by decide) ?_
  exact ⟨rfl, rfl⟩
theorem dj29m69_0 : decode jdk_29_method_69_code 0 = .ok (.iload_n 0, 1) := by decide +kernel
theorem dj29m69_1 : decode jdk_29_method_69_code 1 = .ok (.iload_n 1, 1) := by decide +kernel
theorem dj29m69_2 : decode jdk_29_method_69_code 2 = .ok (.if_icmp .gt 7, 3) := by decide +kernel
theorem dj29m69_9 : decode jdk_29_method_69_code 9 = .ok (.iload_n 1, 1) := by decide +kernel
theorem dj29m69_10 : decode jdk_29_method_69_code 10 = .ok (.ireturn, 1) := by decide +kernel
theorem ct_min2 (l : Launch) (Z : State) (a0 : Array Value) (hw : ∀ d ∈ tables_1, d.before a0 Z = true) (n0 : Nat) (h0 : Heap) (p1 p2 : Int32) (hp : p2 < p1) :
    Ct l Z (⟨"java/lang/Math", "min", "(II)I"⟩ : MethodName) jdk_29_method_69_code 2 (some .int) ({ frames := 0, cells := 0, slots := 0, locals := 0 } : Room) EL1 n0 true [] #[(.int p1), (.int p2)] h0 [] (fun v h N => h0 = h ∧ v = some (.int p2)) := by
  refine Ct.of (a0 := a0) (Jvm.Free.JP.mathPlain rfl (by decide +kernel)) (own_ew hw) (L0 := #[.val (.int p1), .val (.int p2)]) (fun _ => rfl) ?_
  refine Go.iloadN (pc' := 1) dj29m69_0 rfl rfl ?_
  refine Go.iloadN (pc' := 2) dj29m69_1 rfl rfl ?_
  refine Go.icmpT (pc' := 9) dj29m69_2 (hp) (by decide) (by decide) ?_
  refine Go.iloadN (pc' := 10) dj29m69_9 rfl rfl ?_
  refine Go.retI rfl [] sl0 dj29m69_10 (by decide) (by decide) ?_
  exact ⟨rfl, rfl⟩
theorem pn_java_util_Arrays : plainName "java/util/Arrays" = true := by first | (simp [plainName, overriddenIn]; done) | decide +kernel
theorem dj65m131_0 : decode jdk_65_method_131_code 0 = .ok (.iload_n 1, 1) := by decide +kernel
theorem dj65m131_1 : decode jdk_65_method_131_code 1 = .ok (.iload_n 0, 1) := by decide +kernel
theorem dj65m131_2 : decode jdk_65_method_131_code 2 = .ok (.if_icmp .ge 35, 3) := by decide +kernel
theorem dj65m131_37 : decode jdk_65_method_131_code 37 = .ok (.return_, 1) := by decide +kernel
theorem ct_chkL (l : Launch) (Z : State) (a0 : Array Value) (hw : ∀ d ∈ tables_1, d.before a0 Z = true) (n0 : Nat) (h0 : Heap) (p2 : Int32) (hp : ¬ p2 < 0) :
    Ct l Z (⟨"java/util/Arrays", "checkLength", "(II)V"⟩ : MethodName) jdk_65_method_131_code 2 none ({ frames := 0, cells := 0, slots := 0, locals := 0 } : Room) EL1 n0 true [] #[(.int (0 : Int32)), (.int p2)] h0 [] (fun v h N => h0 = h ∧ v = none) := by
  refine Ct.of (a0 := a0) (plainFor_of_name pn_java_util_Arrays) (own_ew hw) (L0 := #[.val (.int (0 : Int32)), .val (.int p2)]) (fun _ => rfl) ?_
  refine Go.iloadN (pc' := 1) dj65m131_0 rfl rfl ?_
  refine Go.iloadN (pc' := 2) dj65m131_1 rfl rfl ?_
  refine Go.icmpT (pc' := 37) dj65m131_2 (hp) (by decide) (by decide) ?_
  refine Go.ret0 rfl [] sl0 dj65m131_37 (by decide) (by decide) ?_
  exact ⟨rfl, rfl⟩
theorem dj65m133_0 : decode jdk_65_method_133_code 0 = .ok (.iload_n 1, 1) := by decide +kernel
theorem dj65m133_1 : decode jdk_65_method_133_code 1 = .ok (.iload_n 2, 1) := by decide +kernel
theorem pd_8 : parseMethodDescriptor "(II)V" = some ⟨[.int, .int], none⟩ := by decide +kernel
theorem dj65m133_2 : decode jdk_65_method_133_code 2 = .ok (.invokestatic 343, 3) := by decide +kernel
theorem dj65m133_5 : decode jdk_65_method_133_code 5 = .ok (.iload_n 2, 1) := by decide +kernel
theorem dj65m133_6 : decode jdk_65_method_133_code 6 = .ok (.iload_n 1, 1) := by decide +kernel
theorem dj65m133_7 : decode jdk_65_method_133_code 7 = .ok (.isub, 1) := by decide +kernel
theorem dj65m133_8 : decode jdk_65_method_133_code 8 = .ok (.istore_n 3, 1) := by decide +kernel
theorem dj65m133_9 : decode jdk_65_method_133_code 9 = .ok (.iload_n 3, 1) := by decide +kernel
theorem dj65m133_10 : decode jdk_65_method_133_code 10 = .ok (.newarray .byte, 2) := by decide +kernel
theorem dj65m133_12 : decode jdk_65_method_133_code 12 = .ok (.astore 4, 2) := by decide +kernel
theorem dj65m133_14 : decode jdk_65_method_133_code 14 = .ok (.aload_n 0, 1) := by decide +kernel
theorem dj65m133_15 : decode jdk_65_method_133_code 15 = .ok (.iload_n 1, 1) := by decide +kernel
theorem dj65m133_16 : decode jdk_65_method_133_code 16 = .ok (.aload 4, 2) := by decide +kernel
theorem dj65m133_18 : decode jdk_65_method_133_code 18 = .ok (.iconst 0, 1) := by decide +kernel
theorem dj65m133_19 : decode jdk_65_method_133_code 19 = .ok (.aload_n 0, 1) := by decide +kernel
theorem dj65m133_20 : decode jdk_65_method_133_code 20 = .ok (.arraylength, 1) := by decide +kernel
theorem dj65m133_21 : decode jdk_65_method_133_code 21 = .ok (.iload_n 1, 1) := by decide +kernel
theorem dj65m133_22 : decode jdk_65_method_133_code 22 = .ok (.isub, 1) := by decide +kernel
theorem dj65m133_23 : decode jdk_65_method_133_code 23 = .ok (.iload_n 3, 1) := by decide +kernel
theorem pd_9 : parseMethodDescriptor "(II)I" = some ⟨[.int, .int], (some .int)⟩ := by decide +kernel
theorem dj65m133_24 : decode jdk_65_method_133_code 24 = .ok (.invokestatic 304, 3) := by decide +kernel
theorem dj65m133_27 : decode jdk_65_method_133_code 27 = .ok (.invokestatic 150, 3) := by decide +kernel
theorem dj65m133_30 : decode jdk_65_method_133_code 30 = .ok (.aload 4, 2) := by decide +kernel
theorem dj65m133_32 : decode jdk_65_method_133_code 32 = .ok (.areturn, 1) := by decide +kernel
theorem ct_crb (l : Launch) (Z : State) (a0 : Array Value) (hw : ∀ d ∈ tables_1, d.before a0 Z = true) (n0 : Nat) (h0 : Heap) (b : Addr) (k : ClassId) (ll vr : List Int32) (cap : Nat) (hv : (ll ++ vr).length = cap) (hn : ll.length < cap) (hc : cap < 2 ^ 16) (hk : ll.length ≤ 128) (AVB : Arv Z h0 b k .byte (Int32.ofNat cap) ((ll ++ vr).map Value.int) (.int 0)) (hn0 : n0 ≤ h0.size) :
    Ct l Z (⟨"java/util/Arrays", "copyOfRangeByte", "([BII)[B"⟩ : MethodName) jdk_65_method_133_code 5 (some (.array .byte)) ({ frames := 1, cells := 1, slots := 128, locals := 18 } : Room) EL1 n0 true [] #[(.ref b), (.int (0 : Int32)), (.int (Int32.ofNat ll.length))] h0 [] (fun v h N => ∃ d kd, v = some (.ref d) ∧ h0.size ≤ d ∧ d < h.size ∧ Keep h0 h [] ∧ Arv Z h d kd .byte (Int32.ofNat ll.length) (ll.map Value.int) (.int 0)) := by
  refine Ct.of (a0 := a0) (plainFor_of_name pn_java_util_Arrays) (own_ew hw) (L0 := #[.val (.ref b), .val (.int (0 : Int32)), .val (.int (Int32.ofNat ll.length)), .unset, .unset]) (fun _ => rfl) ?_
  have l0_AVB := nlt AVB.lt
  refine Go.iloadN (pc' := 1) dj65m133_0 rfl rfl ?_
  refine Go.iloadN (pc' := 2) dj65m133_1 rfl rfl ?_
  refine Go.callS (a1 := a0) (pc' := 5) (argsL := [(.int (0 : Int32)), (.int (Int32.ofNat ll.length))]) (rest := []) (ct_chkL l Z a0 hw n0 h0 (Int32.ofNat ll.length) (ofN_nn (by omega))) dj65m133_2 (wd hw 168 rfl) (wd hw 169 rfl) (wd hw 163 rfl) (wd hw 170 rfl) (by decide) (lenOf pd_8 rfl) rfl 0 rfl rfl (by decide) (by decide) (by decide) (by decide) sl0 rfl (fun v_1 h_2 N_3 hQ_4 hle_5 => ?_)
  obtain ⟨rfl, rfl⟩ := hQ_4
  refine Go.rs [] rfl ?_
  refine Go.iloadN (pc' := 6) dj65m133_5 rfl rfl ?_
  refine Go.iloadN (pc' := 7) dj65m133_6 rfl rfl ?_
  refine Go.isub (pc' := 8) dj65m133_7 rfl ?_
  refine Go.re (pc' := 8) (L' := #[.val (.ref b), .val (.int (0 : Int32)), .val (.int (Int32.ofNat ll.length)), .unset, .unset]) (S' := [(.int (Int32.ofNat ll.length))]) rfl rfl (by rw [Int32.sub_zero]) ?_
  refine Go.istoreN (pc' := 9) #[.val (.ref b), .val (.int (0 : Int32)), .val (.int (Int32.ofNat ll.length)), .val (.int (Int32.ofNat ll.length)), .unset] dj65m133_8 rfl rfl ?_
  refine Go.iloadN (pc' := 10) dj65m133_9 rfl rfl ?_
  refine Go.newPV (pc' := 12) (a1 := a0) 128 ((List.replicate ll.length (0 : Int32)).map Value.int) dj65m133_10 (wd hw 30 rfl) (ofN_nn (by omega)) (by rw [ofN_nat (by omega)]; exact hk) (by decide) (by decide) (by decide) (by rw [ofN_nat (by omega), List.map_replicate]; rfl) rfl (fun a_6 h_7 cA_8 ha_9 E_10 A_11 => ?_)
  have szh_7 := nle E_10.1
  have lta_6 := nlt A_11.lt
  have qa_6 := neq ha_9
  have F_12 : Arv Z h_7 a_6 cA_8 .byte (Int32.ofNat ll.length) ((List.replicate ll.length (0 : Int32)).map Value.int) (.int 0) := A_11
  refine Go.astore (pc' := 14) #[.val (.ref b), .val (.int (0 : Int32)), .val (.int (Int32.ofNat ll.length)), .val (.int (Int32.ofNat ll.length)), .val (.ref a_6)] dj65m133_12 rfl rfl rfl ?_
  refine Go.aloadN (pc' := 15) dj65m133_14 rfl rfl rfl ?_
  refine Go.iloadN (pc' := 16) dj65m133_15 rfl rfl ?_
  refine Go.aload (pc' := 18) dj65m133_16 rfl rfl rfl ?_
  refine Go.iconst (pc' := 19) 0 dj65m133_18 rfl rfl ?_
  refine Go.aloadN (pc' := 20) dj65m133_19 rfl rfl rfl ?_
  have F_13 := (Arv.ext AVB E_10)
  refine Go.alenV (pc' := 21) dj65m133_20 F_13 rfl ?_
  refine Go.iloadN (pc' := 22) dj65m133_21 rfl rfl ?_
  refine Go.isub (pc' := 23) dj65m133_22 rfl ?_
  refine Go.re (pc' := 23) (L' := #[.val (.ref b), .val (.int (0 : Int32)), .val (.int (Int32.ofNat ll.length)), .val (.int (Int32.ofNat ll.length)), .val (.ref a_6)]) (S' := [(.int (Int32.ofNat cap)), (.int (0 : Int32)), (.ref a_6), (.int (0 : Int32)), (.ref b)]) rfl rfl (by rw [Int32.sub_zero]) ?_
  refine Go.iloadN (pc' := 24) dj65m133_23 rfl rfl ?_
  refine Go.callS (a1 := a0) (pc' := 27) (argsL := [(.int (Int32.ofNat cap)), (.int (Int32.ofNat ll.length))]) (rest := [(.int (0 : Int32)), (.ref a_6), (.int (0 : Int32)), (.ref b)]) (ct_min2 l Z a0 hw n0 h_7 (Int32.ofNat cap) (Int32.ofNat ll.length) ((ofN_lt (by omega) (by omega)).mpr hn)) dj65m133_24 (wd hw 171 rfl) (wd hw 172 rfl) (wd hw 173 rfl) (wd hw 174 rfl) (by decide) (lenOf pd_9 rfl) rfl 4 rfl rfl (by decide) (by decide) (by decide) (by decide) sl0 rfl (fun v_14 h_15 N_16 hQ_17 hle_18 => ?_)
  obtain ⟨rfl, rfl⟩ := hQ_17
  refine Go.rs [(.int (Int32.ofNat ll.length)), (.int (0 : Int32)), (.ref a_6), (.int (0 : Int32)), (.ref b)] rfl ?_
  refine Go.acopy (pc' := 30) (a1 := a0) (us := ll.map Value.int) dj65m133_27 (wd hw 175 rfl) (wd hw 127 rfl) (wd hw 125 rfl) (wd hw 126 rfl) F_13 F_12 rfl (by decide) (by decide) (ofN_nn (by omega)) (by rw [ofN_nat (by omega), ofN_nat (by omega)]; show 0 + ll.length ≤ cap; omega) (by rw [ofN_nat (by omega)]; show 0 + ll.length ≤ ll.length; omega) (by rw [ofN_nat (by omega)]; exact cp_us2 ll vr) (by rw [ofN_nat (by omega), List.length_map, List.length_replicate]; show 0 + ll.length ≤ ll.length; omega) (Sf.mem (by simp)) (by omega) rfl (by decide) 0 rfl (by decide) rfl (fun h_19 K_20 A_21 => ?_)
  have szh_19 := nle K_20.1
  have F_22 : Arv Z h_19 a_6 cA_8 .byte (Int32.ofNat ll.length) (ll.map Value.int) (.int 0) := by have q := A_21; rw [ofN_nat (by omega)] at q; have z0 : (0 : Int32).toNatClampNeg = 0 := (by decide); rw [z0] at q; simpa using q
  refine Go.rs [] rfl ?_
  refine Go.aload (pc' := 32) dj65m133_30 rfl rfl rfl ?_
  refine Go.retA rfl rfl rfl [] sl0 dj65m133_32 (by decide) (by decide) ?_
  exact ⟨a_6, _, rfl, by omega, F_22.lt, (Keep.trans (Keep.ext (Keep.refl _ []) E_10) K_20 (allS (Or.inr (by omega)) all0)), F_22⟩
theorem dj65m132_0 : decode jdk_65_method_132_code 0 = .ok (.iload_n 1, 1) := by decide +kernel
theorem dj65m132_1 : decode jdk_65_method_132_code 1 = .ok (.ifCond .ne 9, 3) := by decide +kernel
theorem dj65m132_4 : decode jdk_65_method_132_code 4 = .ok (.iload_n 2, 1) := by decide +kernel
theorem dj65m132_5 : decode jdk_65_method_132_code 5 = .ok (.aload_n 0, 1) := by decide +kernel
theorem dj65m132_6 : decode jdk_65_method_132_code 6 = .ok (.arraylength, 1) := by decide +kernel
theorem dj65m132_7 : decode jdk_65_method_132_code 7 = .ok (.if_icmp .eq 10, 3) := by decide +kernel
theorem dj65m132_10 : decode jdk_65_method_132_code 10 = .ok (.aload_n 0, 1) := by decide +kernel
theorem dj65m132_11 : decode jdk_65_method_132_code 11 = .ok (.iload_n 1, 1) := by decide +kernel
theorem dj65m132_12 : decode jdk_65_method_132_code 12 = .ok (.iload_n 2, 1) := by decide +kernel
theorem pd_10 : parseMethodDescriptor "([BII)[B" = some ⟨[(.array .byte), .int, .int], (some (.array .byte))⟩ := by decide +kernel
theorem dj65m132_13 : decode jdk_65_method_132_code 13 = .ok (.invokestatic 339, 3) := by decide +kernel
theorem dj65m132_16 : decode jdk_65_method_132_code 16 = .ok (.areturn, 1) := by decide +kernel
theorem ct_cr (l : Launch) (Z : State) (a0 : Array Value) (hw : ∀ d ∈ tables_1, d.before a0 Z = true) (n0 : Nat) (h0 : Heap) (b : Addr) (k : ClassId) (ll vr : List Int32) (cap : Nat) (hv : (ll ++ vr).length = cap) (hn : ll.length < cap) (hc : cap < 2 ^ 16) (hk : ll.length ≤ 128) (AVB : Arv Z h0 b k .byte (Int32.ofNat cap) ((ll ++ vr).map Value.int) (.int 0)) (hn0 : n0 ≤ h0.size) :
    Ct l Z (⟨"java/util/Arrays", "copyOfRange", "([BII)[B"⟩ : MethodName) jdk_65_method_132_code 3 (some (.array .byte)) ({ frames := 2, cells := 1, slots := 128, locals := 34 } : Room) EL1 n0 true [] #[(.ref b), (.int (0 : Int32)), (.int (Int32.ofNat ll.length))] h0 [] (fun v h N => ∃ d kd, v = some (.ref d) ∧ h0.size ≤ d ∧ d < h.size ∧ Keep h0 h [] ∧ Arv Z h d kd .byte (Int32.ofNat ll.length) (ll.map Value.int) (.int 0)) := by
  refine Ct.of (a0 := a0) (plainFor_of_name pn_java_util_Arrays) (own_ew hw) (L0 := #[.val (.ref b), .val (.int (0 : Int32)), .val (.int (Int32.ofNat ll.length))]) (fun _ => rfl) ?_
  have l0_AVB := nlt AVB.lt
  refine Go.iloadN (pc' := 1) dj65m132_0 rfl rfl ?_
  refine Go.ifF (pc' := 4) dj65m132_1 (show (0 : Int32) = (0 : Int32) by decide) rfl ?_
  refine Go.iloadN (pc' := 5) dj65m132_4 rfl rfl ?_
  refine Go.aloadN (pc' := 6) dj65m132_5 rfl rfl rfl ?_
  refine Go.alenV (pc' := 7) dj65m132_6 AVB rfl ?_
  refine Go.icmpF (pc' := 10) dj65m132_7 (fun q => absurd ((ofN_eq (by omega) (by omega)).mp q) (by omega)) rfl ?_
  refine Go.aloadN (pc' := 11) dj65m132_10 rfl rfl rfl ?_
  refine Go.iloadN (pc' := 12) dj65m132_11 rfl rfl ?_
  refine Go.iloadN (pc' := 13) dj65m132_12 rfl rfl ?_
  refine Go.callS (a1 := a0) (pc' := 16) (argsL := [(.ref b), (.int (0 : Int32)), (.int (Int32.ofNat ll.length))]) (rest := []) (ct_crb l Z a0 hw n0 h0 b k ll vr cap hv hn hc hk AVB (by omega)) dj65m132_13 (wd hw 165 rfl) (wd hw 166 rfl) (wd hw 163 rfl) (wd hw 167 rfl) (by decide) (lenOf pd_10 rfl) rfl 0 rfl rfl (by decide) (by decide) (by decide) (by decide) sl0 rfl (fun v_7 h_8 N_9 hQ_10 hle_11 => ?_)
  obtain ⟨d_1, kd_2, rfl, g_3, g_4, K_5, F_6⟩ := hQ_10
  have szh_8 := nle K_5.1
  have ltd_1 := nlt g_4
  have ged_1 := nle g_3
  refine Go.rs [(.ref d_1)] rfl ?_
  refine Go.retA rfl rfl rfl [] sl0 dj65m132_16 (by decide) (by decide) ?_
  exact ⟨d_1, _, rfl, by omega, F_6.lt, (Keep.trans (Keep.refl _ []) K_5 all0), F_6⟩
theorem dj42m150_0 : decode jdk_42_method_150_code 0 = .ok (.aload_n 0, 1) := by decide +kernel
theorem dj42m150_1 : decode jdk_42_method_150_code 1 = .ok (.invokespecial 1, 3) := by decide +kernel
theorem dj42m150_4 : decode jdk_42_method_150_code 4 = .ok (.aload_n 1, 1) := by decide +kernel
theorem pd_11 : parseMethodDescriptor "()[B" = some ⟨[], (some (.array .byte))⟩ := by decide +kernel
theorem dj42m150_5 : decode jdk_42_method_150_code 5 = .ok (.invokevirtual 552, 3) := by decide +kernel
theorem dj42m150_8 : decode jdk_42_method_150_code 8 = .ok (.astore_n 3, 1) := by decide +kernel
theorem dj42m150_9 : decode jdk_42_method_150_code 9 = .ok (.aload_n 1, 1) := by decide +kernel
theorem dj42m150_10 : decode jdk_42_method_150_code 10 = .ok (.invokevirtual 549, 3) := by decide +kernel
theorem dj42m150_13 : decode jdk_42_method_150_code 13 = .ok (.istore 4, 2) := by decide +kernel
theorem dj42m150_15 : decode jdk_42_method_150_code 15 = .ok (.aload_n 1, 1) := by decide +kernel
theorem pd_12 : parseMethodDescriptor "()Z" = some ⟨[], (some .boolean)⟩ := by decide +kernel
theorem dj42m150_16 : decode jdk_42_method_150_code 16 = .ok (.invokevirtual 1047, 3) := by decide +kernel
theorem dj42m150_19 : decode jdk_42_method_150_code 19 = .ok (.ifCond .eq 22, 3) := by decide +kernel
theorem dj42m150_22 : decode jdk_42_method_150_code 22 = .ok (.aload_n 0, 1) := by decide +kernel
theorem dj42m150_23 : decode jdk_42_method_150_code 23 = .ok (.iconst 0, 1) := by decide +kernel
theorem dj42m150_24 : decode jdk_42_method_150_code 24 = .ok (.putfield 15, 3) := by decide +kernel
theorem dj42m150_27 : decode jdk_42_method_150_code 27 = .ok (.aload_n 0, 1) := by decide +kernel
theorem dj42m150_28 : decode jdk_42_method_150_code 28 = .ok (.aload_n 3, 1) := by decide +kernel
theorem dj42m150_29 : decode jdk_42_method_150_code 29 = .ok (.iconst 0, 1) := by decide +kernel
theorem dj42m150_30 : decode jdk_42_method_150_code 30 = .ok (.iload 4, 2) := by decide +kernel
theorem dj42m150_32 : decode jdk_42_method_150_code 32 = .ok (.invokestatic 54, 3) := by decide +kernel
theorem dj42m150_35 : decode jdk_42_method_150_code 35 = .ok (.putfield 9, 3) := by decide +kernel
theorem dj42m150_38 : decode jdk_42_method_150_code 38 = .ok (.goto 59, 3) := by decide +kernel
theorem dj42m150_97 : decode jdk_42_method_150_code 97 = .ok (.return_, 1) := by decide +kernel
theorem ct_tsi2 (l : Launch) (Z : State) (a0 : Array Value) (hw : ∀ d ∈ tables_1, d.before a0 Z = true) (n0 : Nat) (h0 : Heap) (s : Addr) (hs : n0 ≤ s) (Es : Exa Z h0 s "java/lang/String") (G1 : Fld Z h0 s "java/lang/String" "value" "[B" .null) (G2 : Fld Z h0 s "java/lang/String" "coder" "B" (.int (0 : Int32))) (a1 b : Addr) (k : ClassId) (ll vr : List Int32) (cap : Nat) (hv : (ll ++ vr).length = cap) (hn : ll.length < cap) (hc : cap < 2 ^ 16) (hk : ll.length ≤ 128) (EA : Exa Z h0 a1 "java/lang/StringBuilder") (GN : Fld Z h0 a1 "java/lang/AbstractStringBuilder" "count" "I" (.int (Int32.ofNat ll.length))) (GC : Fld Z h0 a1 "java/lang/AbstractStringBuilder" "coder" "B" (.int (0 : Int32))) (GV : Fld Z h0 a1 "java/lang/AbstractStringBuilder" "value" "[B" (.ref b)) (AVB : Arv Z h0 b k .byte (Int32.ofNat cap) ((ll ++ vr).map Value.int) (.int 0)) (cs : Int32) (S_cs : Sta Z h0 "java/lang/String" "COMPACT_STRINGS" "Z" (.int cs)) (hcs : ¬ cs = 0) :
    Ct l Z (⟨"java/lang/String", "<init>", "(Ljava/lang/AbstractStringBuilder;Ljava/lang/Void;)V"⟩ : MethodName) jdk_42_method_150_code 5 none ({ frames := 3, cells := 1, slots := 128, locals := 49 } : Room) EL1 n0 true [] #[(.ref s), (.ref a1), (.null)] h0 [s] (fun v h N => v = none ∧ ∃ b2 k2, h0.size ≤ b2 ∧ b2 < h.size ∧ Keep h0 h [s] ∧ Exa Z h s "java/lang/String" ∧ Fld Z h s "java/lang/String" "coder" "B" (.int (0 : Int32)) ∧ Fld Z h s "java/lang/String" "value" "[B" (.ref b2) ∧ Arv Z h b2 k2 .byte (Int32.ofNat ll.length) (ll.map Value.int) (.int 0)) := by
  refine Ct.of (a0 := a0) (plainFor_of_name pn_java_lang_String) (own_ew hw) (L0 := #[.val (.ref s), .val (.ref a1), .val (.null), .unset, .unset]) (fun _ => rfl) ?_
  have e_as := nne (Exa.ne EA Es (by decide))
  have e_ab := nne (Exa.neArv (a0 := a0) EA AVB (wd hw 61 rfl))
  have e_sb := nne (Exa.neArv (a0 := a0) Es AVB (wd hw 29 rfl))
  have l0_Es := nlt Es.lt
  have l0_EA := nlt EA.lt
  have l0_AVB := nlt AVB.lt
  refine Go.aloadN (pc' := 1) dj42m150_0 rfl rfl rfl ?_
  refine Go.initO (pc' := 4) (a1 := a0) dj42m150_1 (wd hw 142 rfl) (wd hw 44 rfl) (wd hw 45 rfl) rfl (by decide) 0 rfl (by decide) rfl ?_
  refine Go.aloadN (pc' := 5) dj42m150_4 rfl rfl rfl ?_
  refine Go.callW (a1 := a0) (pc' := 8) (argsL := []) (rest := []) (ct_gv l Z a0 hw n0 h0 a1 b GV) dj42m150_5 (wd hw 143 rfl) (wd hw 144 rfl) (wd hw 106 rfl) rfl (wd hw 146 rfl) (wd hw 145 rfl) (wd hw 70 rfl) (wd hw 147 rfl) EA (by decide) (lenOf pd_11 rfl) rfl 0 rfl rfl (by decide) (by decide) (by decide) (by decide) sl0 rfl (fun v_1 h_2 N_3 hQ_4 hle_5 => ?_)
  obtain ⟨rfl, rfl⟩ := hQ_4
  refine Go.rs [(.ref b)] rfl ?_
  refine Go.astoreN (pc' := 9) #[.val (.ref s), .val (.ref a1), .val (.null), .val (.ref b), .unset] dj42m150_8 rfl rfl rfl ?_
  refine Go.aloadN (pc' := 10) dj42m150_9 rfl rfl rfl ?_
  refine Go.callW (a1 := a0) (pc' := 13) (argsL := []) (rest := []) (ct_slen l Z a0 hw n0 h0 a1 (Int32.ofNat ll.length) EA GN) dj42m150_10 (wd hw 148 rfl) (wd hw 149 rfl) (wd hw 106 rfl) rfl (wd hw 151 rfl) (wd hw 152 rfl) (wd hw 62 rfl) (wd hw 153 rfl) EA (by decide) (lenOf pd_4 rfl) rfl 0 rfl rfl (by decide) (by decide) (by decide) (by decide) sl0 rfl (fun v_6 h_7 N_8 hQ_9 hle_10 => ?_)
  obtain ⟨rfl, rfl⟩ := hQ_9
  refine Go.rs [(.int (Int32.ofNat ll.length))] rfl ?_
  refine Go.istore (pc' := 15) #[.val (.ref s), .val (.ref a1), .val (.null), .val (.ref b), .val (.int (Int32.ofNat ll.length))] dj42m150_13 rfl rfl ?_
  refine Go.aloadN (pc' := 16) dj42m150_15 rfl rfl rfl ?_
  refine Go.callW (a1 := a0) (pc' := 19) (argsL := []) (rest := []) (ct_isl l Z a0 hw n0 h0 a1 cs S_cs hcs GC) dj42m150_16 (wd hw 156 rfl) (wd hw 157 rfl) (wd hw 106 rfl) rfl (wd hw 159 rfl) (wd hw 158 rfl) (wd hw 70 rfl) (wd hw 160 rfl) EA (by decide) (lenOf pd_12 rfl) rfl 0 rfl rfl (by decide) (by decide) (by decide) (by decide) sl0 rfl (fun v_11 h_12 N_13 hQ_14 hle_15 => ?_)
  obtain ⟨rfl, rfl⟩ := hQ_14
  refine Go.rs [(.int (1 : Int32))] rfl ?_
  refine Go.ifF (pc' := 22) dj42m150_19 (show ¬ ((1 : Int32) = (0 : Int32)) by decide) rfl ?_
  refine Go.aloadN (pc' := 23) dj42m150_22 rfl rfl rfl ?_
  refine Go.iconst (pc' := 24) 0 dj42m150_23 rfl rfl ?_
  refine Go.putF (pc' := 27) (host := "") (a1 := a0) dj42m150_24 (Or.inl (wd hw 100 rfl)) Via.refl G2 Es (Or.inr ⟨(wd hw 32 rfl), rfl, rfl⟩) (wd hw 29 rfl) (ty := .byte) (by decide) rfl rfl (Sf.mem (by simp)) (by omega) rfl (fun h_16 W_17 => ?_)
  have szh_16 : h_16.size = h0.size := Wr.size W_17
  have F_18 : Fld Z h_16 s "java/lang/String" "coder" "B" (.int (0 : Int32)) := Fld.same W_17 G2
  refine Go.aloadN (pc' := 28) dj42m150_27 rfl rfl rfl ?_
  refine Go.aloadN (pc' := 29) dj42m150_28 rfl rfl rfl ?_
  refine Go.iconst (pc' := 30) 0 dj42m150_29 rfl rfl ?_
  refine Go.iload (pc' := 32) dj42m150_30 rfl rfl ?_
  have F_25 := (Arv.other AVB W_17 (nne (by omega)))
  refine Go.callS (a1 := a0) (pc' := 35) (argsL := [(.ref b), (.int (0 : Int32)), (.int (Int32.ofNat ll.length))]) (rest := [(.ref s)]) (ct_cr l Z a0 hw n0 h_16 b k ll vr cap hv hn hc hk F_25 (by omega)) dj42m150_32 (wd hw 161 rfl) (wd hw 162 rfl) (wd hw 163 rfl) (wd hw 164 rfl) (by decide) (lenOf pd_10 rfl) rfl 1 rfl rfl (by decide) (by decide) (by decide) (by decide) sl0 rfl (fun v_26 h_27 N_28 hQ_29 hle_30 => ?_)
  obtain ⟨d_19, kd_20, rfl, g_21, g_22, K_23, F_24⟩ := hQ_29
  have szh_27 := nle K_23.1
  have ltd_19 := nlt g_22
  have ged_19 := nle g_21
  refine Go.rs [(.ref d_19), (.ref s)] rfl ?_
  have F_31 : Fld Z h_27 s "java/lang/String" "value" "[B" (.null) := (Fld.keep (Fld.other W_17 G1 (Or.inr (slot_ne (Or.inr (wd hw 31 rfl)) (Or.inr (wd hw 32 rfl)) (by decide) (t := (.array .byte)) (t' := .byte) (by decide) (by decide)))) K_23 nin0)
  have F_32 := (Exa.keep (Exa.wr W_17 Es) K_23)
  refine Go.putF (pc' := 38) (host := "") (a1 := a0) dj42m150_35 (Or.inl (wd hw 93 rfl)) Via.refl F_31 F_32 (Or.inr ⟨(wd hw 31 rfl), rfl, rfl⟩) (wd hw 29 rfl) (ty := (.array .byte)) (by decide) rfl rfl (Sf.mem (by simp)) (by omega) rfl (fun h_33 W_34 => ?_)
  have szh_33 : h_33.size = h_27.size := Wr.size W_34
  have F_35 : Fld Z h_33 s "java/lang/String" "value" "[B" (.ref d_19) := Fld.same W_34 F_31
  refine Go.goto (pc' := 97) dj42m150_38 (by decide) (by decide) ?_
  have F_36 := (Arv.other F_24 W_34 (nne (by omega)))
  have F_37 := (Exa.wr W_34 F_32)
  have F_38 : Fld Z h_33 s "java/lang/String" "coder" "B" (.int (0 : Int32)) := (Fld.other W_34 (Fld.keep F_18 K_23 nin0) (Or.inr (slot_ne (Or.inr (wd hw 32 rfl)) (Or.inr (wd hw 31 rfl)) (by decide) (t := .byte) (t' := (.array .byte)) (by decide) (by decide))))
  have F_39 := (Arv.other F_24 W_34 (nne (by omega)))
  refine Go.ret0 rfl [] sl0 dj42m150_97 (by decide) (by decide) ?_
  exact ⟨rfl, d_19, kd_20, by omega, F_36.lt, (Keep.wr (Keep.trans (Keep.wr (Keep.refl _ [s]) W_17 (Or.inl (by simp))) K_23 all0) W_34 (Or.inl (by simp))), F_37, F_38, F_35, F_39⟩
theorem dj42m53_0 : decode jdk_42_method_53_code 0 = .ok (.aload_n 0, 1) := by decide +kernel
theorem dj42m53_1 : decode jdk_42_method_53_code 1 = .ok (.aload_n 1, 1) := by decide +kernel
theorem dj42m53_2 : decode jdk_42_method_53_code 2 = .ok (.aconst_null, 1) := by decide +kernel
theorem pd_13 : parseMethodDescriptor "(Ljava/lang/AbstractStringBuilder;Ljava/lang/Void;)V" = some ⟨[(.object "java/lang/AbstractStringBuilder"), (.object "java/lang/Void")], none⟩ := by decide +kernel
theorem dj42m53_3 : decode jdk_42_method_53_code 3 = .ok (.invokespecial 489, 3) := by decide +kernel
theorem dj42m53_6 : decode jdk_42_method_53_code 6 = .ok (.return_, 1) := by decide +kernel
theorem ct_tsi1 (l : Launch) (Z : State) (a0 : Array Value) (hw : ∀ d ∈ tables_1, d.before a0 Z = true) (n0 : Nat) (h0 : Heap) (s : Addr) (hs : n0 ≤ s) (Es : Exa Z h0 s "java/lang/String") (G1 : Fld Z h0 s "java/lang/String" "value" "[B" .null) (G2 : Fld Z h0 s "java/lang/String" "coder" "B" (.int (0 : Int32))) (a1 b : Addr) (k : ClassId) (ll vr : List Int32) (cap : Nat) (hv : (ll ++ vr).length = cap) (hn : ll.length < cap) (hc : cap < 2 ^ 16) (hk : ll.length ≤ 128) (EA : Exa Z h0 a1 "java/lang/StringBuilder") (GN : Fld Z h0 a1 "java/lang/AbstractStringBuilder" "count" "I" (.int (Int32.ofNat ll.length))) (GC : Fld Z h0 a1 "java/lang/AbstractStringBuilder" "coder" "B" (.int (0 : Int32))) (GV : Fld Z h0 a1 "java/lang/AbstractStringBuilder" "value" "[B" (.ref b)) (AVB : Arv Z h0 b k .byte (Int32.ofNat cap) ((ll ++ vr).map Value.int) (.int 0)) (cs : Int32) (S_cs : Sta Z h0 "java/lang/String" "COMPACT_STRINGS" "Z" (.int cs)) (hcs : ¬ cs = 0) :
    Ct l Z (⟨"java/lang/String", "<init>", "(Ljava/lang/StringBuilder;)V"⟩ : MethodName) jdk_42_method_53_code 2 none ({ frames := 4, cells := 1, slots := 128, locals := 65 } : Room) EL1 n0 true [] #[(.ref s), (.ref a1)] h0 [s] (fun v h N => v = none ∧ ∃ b2 k2, h0.size ≤ b2 ∧ b2 < h.size ∧ Keep h0 h [s] ∧ Exa Z h s "java/lang/String" ∧ Fld Z h s "java/lang/String" "coder" "B" (.int (0 : Int32)) ∧ Fld Z h s "java/lang/String" "value" "[B" (.ref b2) ∧ Arv Z h b2 k2 .byte (Int32.ofNat ll.length) (ll.map Value.int) (.int 0)) := by
  refine Ct.of (a0 := a0) (plainFor_of_name pn_java_lang_String) (own_ew hw) (L0 := #[.val (.ref s), .val (.ref a1)]) (fun _ => rfl) ?_
  have e_as := nne (Exa.ne EA Es (by decide))
  have e_ab := nne (Exa.neArv (a0 := a0) EA AVB (wd hw 61 rfl))
  have e_sb := nne (Exa.neArv (a0 := a0) Es AVB (wd hw 29 rfl))
  have l0_Es := nlt Es.lt
  have l0_EA := nlt EA.lt
  have l0_AVB := nlt AVB.lt
  refine Go.aloadN (pc' := 1) dj42m53_0 rfl rfl rfl ?_
  refine Go.aloadN (pc' := 2) dj42m53_1 rfl rfl rfl ?_
  refine Go.aconstNull (pc' := 3) dj42m53_2 rfl ?_
  refine Go.callN (a1 := a0) (pc' := 6) (argsL := [(.ref a1), (.null)]) (rest := []) (ct_tsi2 l Z a0 hw n0 h0 s (by omega) Es G1 G2 a1 b k ll vr cap hv hn hc hk EA GN GC GV AVB cs S_cs hcs) dj42m53_3 rfl (wd hw 139 rfl) (wd hw 140 rfl) (wd hw 28 rfl) (wd hw 141 rfl) (by decide) (lenOf pd_13 rfl) rfl 0 rfl rfl (by decide) (by decide) (by decide) (by decide) (sl1 (by simp)) rfl (fun v_10 h_11 N_12 hQ_13 hle_14 => ?_)
  obtain ⟨rfl, b_1, kb_2, g_3, g_4, K_5, X_6, F_7, F_8, A_9⟩ := hQ_13
  have szh_11 := nle K_5.1
  have ltb_1 := nlt g_4
  have geb_1 := nle g_3
  refine Go.rs [] rfl ?_
  refine Go.ret0 rfl [] sl0 dj42m53_6 (by decide) (by decide) ?_
  exact ⟨rfl, b_1, kb_2, by omega, A_9.lt, (Keep.trans (Keep.refl _ [s]) K_5 (allS (Or.inl (by simp)) all0)), X_6, F_7, F_8, A_9⟩
theorem dj67m42_0 : decode jdk_67_method_42_code 0 = .ok (.new 18, 3) := by decide +kernel
theorem dj67m42_3 : decode jdk_67_method_42_code 3 = .ok (.dup, 1) := by decide +kernel
theorem dj67m42_4 : decode jdk_67_method_42_code 4 = .ok (.aload_n 0, 1) := by decide +kernel
theorem pd_14 : parseMethodDescriptor "(Ljava/lang/StringBuilder;)V" = some ⟨[(.object "java/lang/StringBuilder")], none⟩ := by decide +kernel
theorem dj67m42_5 : decode jdk_67_method_42_code 5 = .ok (.invokespecial 137, 3) := by decide +kernel
theorem dj67m42_8 : decode jdk_67_method_42_code 8 = .ok (.areturn, 1) := by decide +kernel
theorem ct_ts (l : Launch) (Z : State) (a0 : Array Value) (hw : ∀ d ∈ tables_1, d.before a0 Z = true) (n0 : Nat) (h0 : Heap) (a1 b : Addr) (ll : List Int32) (cap : Nat) (HB : Sb Z h0 a1 b cap ll) (hn : ll.length < cap) (hc : cap < 2 ^ 16) (hk : ll.length ≤ 128) (hn0 : n0 ≤ h0.size) (cs : Int32) (S_cs : Sta Z h0 "java/lang/String" "COMPACT_STRINGS" "Z" (.int cs)) (hcs : ¬ cs = 0) :
    Ct l Z (⟨"java/lang/StringBuilder", "toString", "()Ljava/lang/String;"⟩ : MethodName) jdk_67_method_42_code 1 (some (.object "java/lang/String")) ({ frames := 5, cells := 2, slots := 132, locals := 79 } : Room) EL1 n0 true [] #[(.ref a1)] h0 [] (fun v h N => ∃ s b2, v = some (.ref s) ∧ h0.size ≤ s ∧ h0.size ≤ b2 ∧ Keep h0 h [] ∧ Str Z h s b2 ll) := by
  refine Ct.of (a0 := a0) (plainFor_of_name pn_java_lang_StringBuilder) (own_ew hw) (L0 := #[.val (.ref a1)]) (fun _ => rfl) ?_
  obtain ⟨EA, GN, GC, GV, k, vr, AVB, hv⟩ := HB
  have l0_EA := nlt EA.lt
  have l0_AVB := nlt AVB.lt
  refine Go.newO (pc' := 3) (a1 := a0) dj67m42_0 (wd hw 134 rfl) (wd hw 29 rfl) (wd hw 28 rfl) (by decide) (by decide) rfl (fun a_1 h_2 ha_4 E_3 X_5 Df_6 => ?_)
  have szh_2 := nle E_3.1
  have lta_1 := nlt X_5.lt
  have qa_1 := neq ha_4
  have F_7 : Fld Z h_2 a_1 "java/lang/String" "value" "[B" (.null) := Df_6 (Or.inr (wd hw 31 rfl)) (ty := (.array .byte)) (by decide)
  have F_8 : Fld Z h_2 a_1 "java/lang/String" "coder" "B" (.int (0 : Int32)) := Df_6 (Or.inr (wd hw 32 rfl)) (ty := .byte) (by decide)
  refine Go.dup (pc' := 4) dj67m42_3 rfl rfl ?_
  refine Go.aloadN (pc' := 5) dj67m42_4 rfl rfl rfl ?_
  have F_18 := (Exa.ext E_3 EA)
  have F_19 := (Fld.ext E_3 GN)
  have F_20 := (Fld.ext E_3 GC)
  have F_21 := (Fld.ext E_3 GV)
  have F_22 := (Arv.ext AVB E_3)
  have F_23 := (Sta.ext E_3 S_cs)
  refine Go.callN (a1 := a0) (pc' := 8) (argsL := [(.ref a1)]) (rest := [(.ref a_1)]) (ct_tsi1 l Z a0 hw n0 h_2 a_1 (by omega) X_5 F_7 F_8 a1 b k ll vr cap hv hn hc hk F_18 F_19 F_20 F_21 F_22 cs F_23 hcs) dj67m42_5 rfl (wd hw 135 rfl) (wd hw 136 rfl) (wd hw 28 rfl) (wd hw 138 rfl) (by decide) (lenOf pd_14 rfl) rfl 1 rfl rfl (by decide) (by decide) (by decide) (by decide) (sl1 (by simp)) rfl (fun v_24 h_25 N_26 hQ_27 hle_28 => ?_)
  obtain ⟨rfl, b_9, kb_10, g_11, g_12, K_13, X_14, F_15, F_16, A_17⟩ := hQ_27
  have szh_25 := nle K_13.1
  have ltb_9 := nlt g_12
  have geb_9 := nle g_11
  refine Go.rs [(.ref a_1)] rfl ?_
  refine Go.retA rfl rfl rfl [] sl0 dj67m42_8 (by decide) (by decide) ?_
  exact ⟨a_1, b_9, rfl, by omega, by omega, (Keep.trans (Keep.ext (Keep.refl _ []) E_3) K_13 (allS (Or.inr (by omega)) all0)), X_14, F_15, F_16, kb_10, A_17⟩
theorem dj68m2_0 : decode jdk_68_method_2_code 0 = .ok (.aload_n 0, 1) := by decide +kernel
theorem dj68m2_1 : decode jdk_68_method_2_code 1 = .ok (.invokespecial 3, 3) := by decide +kernel
theorem dj68m2_4 : decode jdk_68_method_2_code 4 = .ok (.getstatic 18, 3) := by decide +kernel
theorem dj68m2_7 : decode jdk_68_method_2_code 7 = .ok (.ifCond .eq 18, 3) := by decide +kernel
theorem dj68m2_10 : decode jdk_68_method_2_code 10 = .ok (.aload_n 0, 1) := by decide +kernel
theorem dj68m2_11 : decode jdk_68_method_2_code 11 = .ok (.iload_n 1, 1) := by decide +kernel
theorem dj68m2_12 : decode jdk_68_method_2_code 12 = .ok (.newarray .byte, 2) := by decide +kernel
theorem dj68m2_14 : decode jdk_68_method_2_code 14 = .ok (.putfield 15, 3) := by decide +kernel
theorem dj68m2_17 : decode jdk_68_method_2_code 17 = .ok (.aload_n 0, 1) := by decide +kernel
theorem dj68m2_18 : decode jdk_68_method_2_code 18 = .ok (.iconst 0, 1) := by decide +kernel
theorem dj68m2_19 : decode jdk_68_method_2_code 19 = .ok (.putfield 22, 3) := by decide +kernel
theorem dj68m2_22 : decode jdk_68_method_2_code 22 = .ok (.goto 16, 3) := by decide +kernel
theorem dj68m2_38 : decode jdk_68_method_2_code 38 = .ok (.return_, 1) := by decide +kernel
theorem ct_sbi1 (l : Launch) (Z : State) (a0 : Array Value) (hw : ∀ d ∈ tables_1, d.before a0 Z = true) (n0 : Nat) (h0 : Heap) (a1 : Addr) (ha : n0 ≤ a1) (EA : Exa Z h0 a1 "java/lang/StringBuilder") (GN : Fld Z h0 a1 "java/lang/AbstractStringBuilder" "count" "I" (.int (0 : Int32))) (GC : Fld Z h0 a1 "java/lang/AbstractStringBuilder" "coder" "B" (.int (0 : Int32))) (GV : Fld Z h0 a1 "java/lang/AbstractStringBuilder" "value" "[B" .null) (cs : Int32) (S_cs : Sta Z h0 "java/lang/String" "COMPACT_STRINGS" "Z" (.int cs)) (hcs : ¬ cs = 0) :
    Ct l Z (⟨"java/lang/AbstractStringBuilder", "<init>", "(I)V"⟩ : MethodName) jdk_68_method_2_code 2 none ({ frames := 1, cells := 1, slots := 16, locals := 12 } : Room) EL1 n0 true [] #[(.ref a1), (.int (16 : Int32))] h0 [] (fun v h N => v = none ∧ ∃ b, N = [b] ∧ h0.size ≤ b ∧ Keep h0 h [a1] ∧ Sb Z h a1 b 16 []) := by
  refine Ct.of (a0 := a0) (plainFor_of_name pn_java_lang_AbstractStringBuilder) (own_ew hw) (L0 := #[.val (.ref a1), .val (.int (16 : Int32))]) (fun _ => rfl) ?_
  have l0_EA := nlt EA.lt
  refine Go.aloadN (pc' := 1) dj68m2_0 rfl rfl rfl ?_
  refine Go.initO (pc' := 4) (a1 := a0) dj68m2_1 (wd hw 72 rfl) (wd hw 44 rfl) (wd hw 45 rfl) rfl (by decide) 0 rfl (by decide) rfl ?_
  refine Go.getS (pc' := 7) (host := "") (a1 := a0) dj68m2_4 (Or.inl (wd hw 73 rfl)) Via.refl S_cs rfl ?_
  refine Go.ifF (pc' := 10) dj68m2_7 (hcs) rfl ?_
  refine Go.aloadN (pc' := 11) dj68m2_10 rfl rfl rfl ?_
  refine Go.iloadN (pc' := 12) dj68m2_11 rfl rfl ?_
  refine Go.newPV (pc' := 14) (a1 := a0) 16 [(.int (0 : Int32)), (.int (0 : Int32)), (.int (0 : Int32)), (.int (0 : Int32)), (.int (0 : Int32)), (.int (0 : Int32)), (.int (0 : Int32)), (.int (0 : Int32)), (.int (0 : Int32)), (.int (0 : Int32)), (.int (0 : Int32)), (.int (0 : Int32)), (.int (0 : Int32)), (.int (0 : Int32)), (.int (0 : Int32)), (.int (0 : Int32))] dj68m2_12 (wd hw 30 rfl) (by decide) (by decide) (by decide) (by decide) (by decide) rfl rfl (fun a_1 h_2 cA_3 ha_4 E_5 A_6 => ?_)
  have szh_2 := nle E_5.1
  have lta_1 := nlt A_6.lt
  have qa_1 := neq ha_4
  have F_7 : Arv Z h_2 a_1 cA_3 .byte (16 : Int32) [(.int (0 : Int32)), (.int (0 : Int32)), (.int (0 : Int32)), (.int (0 : Int32)), (.int (0 : Int32)), (.int (0 : Int32)), (.int (0 : Int32)), (.int (0 : Int32)), (.int (0 : Int32)), (.int (0 : Int32)), (.int (0 : Int32)), (.int (0 : Int32)), (.int (0 : Int32)), (.int (0 : Int32)), (.int (0 : Int32)), (.int (0 : Int32))] (.int 0) := A_6
  have F_8 := (Fld.ext E_5 GV)
  have F_9 := (Exa.ext E_5 EA)
  refine Go.putF (pc' := 17) (host := "") (a1 := a0) dj68m2_14 (Or.inl (wd hw 74 rfl)) Via.refl F_8 F_9 (Or.inl (wd hw 75 rfl)) (wd hw 61 rfl) (ty := (.array .byte)) (by decide) rfl rfl (Sf.exa F_9 (by decide) (by decide)) (by omega) rfl (fun h_10 W_11 => ?_)
  have szh_10 : h_10.size = h_2.size := Wr.size W_11
  have F_12 : Fld Z h_10 a1 "java/lang/AbstractStringBuilder" "value" "[B" (.ref a_1) := Fld.same W_11 F_8
  refine Go.aloadN (pc' := 18) dj68m2_17 rfl rfl rfl ?_
  refine Go.iconst (pc' := 19) 0 dj68m2_18 rfl rfl ?_
  have F_13 : Fld Z h_10 a1 "java/lang/AbstractStringBuilder" "coder" "B" (.int (0 : Int32)) := (Fld.other W_11 (Fld.ext E_5 GC) (Or.inr (slot_ne (Or.inl (wd hw 77 rfl)) (Or.inl (wd hw 75 rfl)) (by decide) (t := .byte) (t' := (.array .byte)) (by decide) (by decide))))
  have F_14 := (Exa.wr W_11 F_9)
  refine Go.putF (pc' := 22) (host := "") (a1 := a0) dj68m2_19 (Or.inl (wd hw 76 rfl)) Via.refl F_13 F_14 (Or.inl (wd hw 77 rfl)) (wd hw 61 rfl) (ty := .byte) (by decide) rfl rfl (Sf.exa F_14 (by decide) (by decide)) (by omega) rfl (fun h_15 W_16 => ?_)
  have szh_15 : h_15.size = h_10.size := Wr.size W_16
  have F_17 : Fld Z h_15 a1 "java/lang/AbstractStringBuilder" "coder" "B" (.int (0 : Int32)) := Fld.same W_16 F_13
  refine Go.goto (pc' := 38) dj68m2_22 (by decide) (by decide) ?_
  have F_18 := (Exa.wr W_16 F_14)
  have F_19 : Fld Z h_15 a1 "java/lang/AbstractStringBuilder" "count" "I" (.int (0 : Int32)) := (Fld.other W_16 (Fld.other W_11 (Fld.ext E_5 GN) (Or.inr (slot_ne (Or.inl (wd hw 102 rfl)) (Or.inl (wd hw 75 rfl)) (by decide) (t := .int) (t' := (.array .byte)) (by decide) (by decide)))) (Or.inr (slot_ne (Or.inl (wd hw 102 rfl)) (Or.inl (wd hw 77 rfl)) (by decide) (t := .int) (t' := .byte) (by decide) (by decide))))
  have F_20 : Fld Z h_15 a1 "java/lang/AbstractStringBuilder" "value" "[B" (.ref a_1) := (Fld.other W_16 F_12 (Or.inr (slot_ne (Or.inl (wd hw 75 rfl)) (Or.inl (wd hw 77 rfl)) (by decide) (t := (.array .byte)) (t' := .byte) (by decide) (by decide))))
  have F_21 := (Arv.other (Arv.other F_7 W_11 (nne (by omega))) W_16 (nne (by omega)))
  refine Go.ret0 rfl [a_1] (by intro x hx; cases List.mem_singleton.mp hx; simp) dj68m2_38 (by decide) (by decide) ?_
  exact ⟨rfl, a_1, rfl, by omega, (Keep.wr (Keep.wr (Keep.ext (Keep.refl _ [a1]) E_5) W_11 (Or.inl (by simp))) W_16 (Or.inl (by simp))), F_18, F_19, F_17, F_20, cA_3, List.replicate 16 (0 : Int32), F_21, rfl⟩
theorem dj67m1_0 : decode jdk_67_method_1_code 0 = .ok (.aload_n 0, 1) := by decide +kernel
theorem dj67m1_1 : decode jdk_67_method_1_code 1 = .ok (.bipush 16, 2) := by decide +kernel
theorem dj67m1_3 : decode jdk_67_method_1_code 3 = .ok (.invokespecial 1, 3) := by decide +kernel
theorem dj67m1_6 : decode jdk_67_method_1_code 6 = .ok (.return_, 1) := by decide +kernel
theorem ct_sbi0 (l : Launch) (Z : State) (a0 : Array Value) (hw : ∀ d ∈ tables_1, d.before a0 Z = true) (n0 : Nat) (h0 : Heap) (a1 : Addr) (ha : n0 ≤ a1) (EA : Exa Z h0 a1 "java/lang/StringBuilder") (GN : Fld Z h0 a1 "java/lang/AbstractStringBuilder" "count" "I" (.int (0 : Int32))) (GC : Fld Z h0 a1 "java/lang/AbstractStringBuilder" "coder" "B" (.int (0 : Int32))) (GV : Fld Z h0 a1 "java/lang/AbstractStringBuilder" "value" "[B" .null) (cs : Int32) (S_cs : Sta Z h0 "java/lang/String" "COMPACT_STRINGS" "Z" (.int cs)) (hcs : ¬ cs = 0) :
    Ct l Z (⟨"java/lang/StringBuilder", "<init>", "()V"⟩ : MethodName) jdk_67_method_1_code 1 none ({ frames := 2, cells := 1, slots := 16, locals := 25 } : Room) EL1 n0 true [] #[(.ref a1)] h0 [] (fun v h N => v = none ∧ ∃ b, N = [b] ∧ h0.size ≤ b ∧ Keep h0 h [a1] ∧ Sb Z h a1 b 16 []) := by
  refine Ct.of (a0 := a0) (plainFor_of_name pn_java_lang_StringBuilder) (own_ew hw) (L0 := #[.val (.ref a1)]) (fun _ => rfl) ?_
  have l0_EA := nlt EA.lt
  refine Go.aloadN (pc' := 1) dj67m1_0 rfl rfl rfl ?_
  refine Go.bipush (pc' := 3) 16 dj67m1_1 rfl rfl ?_
  refine Go.callN (a1 := a0) (pc' := 6) (argsL := [(.int (16 : Int32))]) (rest := []) (ct_sbi1 l Z a0 hw n0 h0 a1 (by omega) EA GN GC GV cs S_cs hcs) dj67m1_3 rfl (wd hw 66 rfl) (wd hw 67 rfl) (wd hw 70 rfl) (wd hw 71 rfl) (by decide) (lenOf pd_5 rfl) rfl 0 rfl rfl (by decide) (by decide) (by decide) (by decide) sl0 rfl (fun v_5 h_6 N_7 hQ_8 hle_9 => ?_)
  obtain ⟨rfl, b_1, rfl, g_2, K_3, F_4⟩ := hQ_8
  have szh_6 := nle K_3.1
  have ltb_1 := nlt F_4.ltb
  have geb_1 := nle g_2
  refine Go.rs [] rfl ?_
  refine Go.ret0 rfl [b_1] (by intro x hx; cases List.mem_singleton.mp hx; simp) dj67m1_6 (by decide) (by decide) ?_
  exact ⟨rfl, b_1, rfl, by omega, (Keep.trans (Keep.refl _ [a1]) K_3 (allS (Or.inl (by simp)) all0)), F_4⟩
theorem ofN_add2 (i : Nat) : Int32.ofNat i + (2 : Int32) = Int32.ofNat (i + 2) := by rw [← ofN_add]; rfl
theorem ofN_ngt {n : Nat} (h : n ≤ 2147483639) : ¬ ((2147483639 : Int32) < Int32.ofNat n) := fun q => by rw [show (2147483639 : Int32) = Int32.ofNat 2147483639 from rfl, ofN_lt (by decide) (by omega)] at q; omega
theorem ofN_nemax {n : Nat} (h : n ≤ 2147483639) : ¬ (Int32.ofNat n = (2147483647 : Int32)) := fun q => by rw [show (2147483647 : Int32) = Int32.ofNat 2147483647 from rfl, ofN_eq (by omega) (by decide)] at q; omega
theorem dj29m65_0 : decode jdk_29_method_65_code 0 = .ok (.iload_n 0, 1) := by decide +kernel
theorem dj29m65_1 : decode jdk_29_method_65_code 1 = .ok (.iload_n 1, 1) := by decide +kernel
theorem dj29m65_2 : decode jdk_29_method_65_code 2 = .ok (.if_icmp .lt 7, 3) := by decide +kernel
theorem dj29m65_9 : decode jdk_29_method_65_code 9 = .ok (.iload_n 1, 1) := by decide +kernel
theorem dj29m65_10 : decode jdk_29_method_65_code 10 = .ok (.ireturn, 1) := by decide +kernel
theorem dj29m65_5 : decode jdk_29_method_65_code 5 = .ok (.iload_n 0, 1) := by decide +kernel
theorem dj29m65_6 : decode jdk_29_method_65_code 6 = .ok (.goto 4, 3) := by decide +kernel
theorem ct_max (l : Launch) (Z : State) (a0 : Array Value) (hw : ∀ d ∈ tables_1, d.before a0 Z = true) (n0 : Nat) (h0 : Heap) (x y : Nat) (hx : x ≤ y) (hy : y < 2 ^ 31) :
    Ct l Z (⟨"java/lang/Math", "max", "(II)I"⟩ : MethodName) jdk_29_method_65_code 2 (some .int) ({ frames := 0, cells := 0, slots := 0, locals := 0 } : Room) EL1 n0 true [] #[(.int (Int32.ofNat x)), (.int (Int32.ofNat y))] h0 [] (fun v h N => h0 = h ∧ v = some (.int (Int32.ofNat y))) := by
  refine Ct.of (a0 := a0) (Jvm.Free.JP.mathPlain rfl (by decide +kernel)) (own_ew hw) (L0 := #[.val (.int (Int32.ofNat x)), .val (.int (Int32.ofNat y))]) (fun _ => rfl) ?_
  refine Go.iloadN (pc' := 1) dj29m65_0 rfl rfl ?_
  refine Go.iloadN (pc' := 2) dj29m65_1 rfl rfl ?_
  refine Go.icmp (pc' := 9) (pc'' := 5) dj29m65_2 (by decide) (by decide) rfl (fun hc_1 => ?_) (fun hc_1 => ?_)
  · have hc_1 : (Int32.ofNat x) < (Int32.ofNat y) := hc_1
    refine Go.iloadN (pc' := 10) dj29m65_9 rfl rfl ?_
    refine Go.retI rfl [] sl0 dj29m65_10 (by decide) (by decide) ?_
    exact ⟨rfl, rfl⟩
  · have hc_1 : ¬ ((Int32.ofNat x) < (Int32.ofNat y)) := hc_1
    refine Go.iloadN (pc' := 6) dj29m65_5 rfl rfl ?_
    refine Go.goto (pc' := 10) dj29m65_6 (by decide) (by decide) ?_
    refine Go.retI rfl [] sl0 dj29m65_10 (by decide) (by decide) ?_
    exact ⟨rfl, by have q := hc_1; rw [ofN_lt (by omega) hy] at q; rw [show x = y by omega]⟩
theorem dj29m69_5 : decode jdk_29_method_69_code 5 = .ok (.iload_n 0, 1) := by decide +kernel
theorem dj29m69_6 : decode jdk_29_method_69_code 6 = .ok (.goto 4, 3) := by decide +kernel
theorem ct_min1 (l : Launch) (Z : State) (a0 : Array Value) (hw : ∀ d ∈ tables_1, d.before a0 Z = true) (n0 : Nat) (h0 : Heap) (p1 p2 : Int32) (hp : ¬ p2 < p1) :
    Ct l Z (⟨"java/lang/Math", "min", "(II)I"⟩ : MethodName) jdk_29_method_69_code 2 (some .int) ({ frames := 0, cells := 0, slots := 0, locals := 0 } : Room) EL1 n0 true [] #[(.int p1), (.int p2)] h0 [] (fun v h N => h0 = h ∧ v = some (.int p1)) := by
  refine Ct.of (a0 := a0) (Jvm.Free.JP.mathPlain rfl (by decide +kernel)) (own_ew hw) (L0 := #[.val (.int p1), .val (.int p2)]) (fun _ => rfl) ?_
  refine Go.iloadN (pc' := 1) dj29m69_0 rfl rfl ?_
  refine Go.iloadN (pc' := 2) dj29m69_1 rfl rfl ?_
  refine Go.icmpF (pc' := 5) dj29m69_2 (hp) rfl ?_
  refine Go.iloadN (pc' := 6) dj29m69_5 rfl rfl ?_
  refine Go.goto (pc' := 10) dj29m69_6 (by decide) (by decide) ?_
  refine Go.retI rfl [] sl0 dj29m69_10 (by decide) (by decide) ?_
  exact ⟨rfl, rfl⟩
theorem pn_jdk_internal_util_ArraysSupport : plainName "jdk/internal/util/ArraysSupport" = true := by first | (simp [plainName, overriddenIn]; done) | decide +kernel
theorem dj48m27_0 : decode jdk_48_method_27_code 0 = .ok (.iload_n 0, 1) := by decide +kernel
theorem dj48m27_1 : decode jdk_48_method_27_code 1 = .ok (.iload_n 1, 1) := by decide +kernel
theorem dj48m27_2 : decode jdk_48_method_27_code 2 = .ok (.iload_n 2, 1) := by decide +kernel
theorem dj48m27_3 : decode jdk_48_method_27_code 3 = .ok (.invokestatic 194, 3) := by decide +kernel
theorem dj48m27_6 : decode jdk_48_method_27_code 6 = .ok (.iadd, 1) := by decide +kernel
theorem dj48m27_7 : decode jdk_48_method_27_code 7 = .ok (.istore_n 3, 1) := by decide +kernel
theorem dj48m27_8 : decode jdk_48_method_27_code 8 = .ok (.iconst 0, 1) := by decide +kernel
theorem dj48m27_9 : decode jdk_48_method_27_code 9 = .ok (.iload_n 3, 1) := by decide +kernel
theorem dj48m27_10 : decode jdk_48_method_27_code 10 = .ok (.if_icmp .ge 11, 3) := by decide +kernel
theorem dj48m27_13 : decode jdk_48_method_27_code 13 = .ok (.iload_n 3, 1) := by decide +kernel
theorem dj48m27_14 : decode jdk_48_method_27_code 14 = .ok (.ldc 200, 2) := by decide +kernel
theorem dj48m27_16 : decode jdk_48_method_27_code 16 = .ok (.if_icmp .gt 5, 3) := by decide +kernel
theorem dj48m27_19 : decode jdk_48_method_27_code 19 = .ok (.iload_n 3, 1) := by decide +kernel
theorem dj48m27_20 : decode jdk_48_method_27_code 20 = .ok (.ireturn, 1) := by decide +kernel
theorem ct_nl (l : Launch) (Z : State) (a0 : Array Value) (hw : ∀ d ∈ tables_1, d.before a0 Z = true) (n0 : Nat) (h0 : Heap) (p cap : Nat) (hp1 : cap < p) (hp2 : p ≤ cap + (cap + 2)) (hc : cap ≤ 63) :
    Ct l Z (⟨"jdk/internal/util/ArraysSupport", "newLength", "(III)I"⟩ : MethodName) jdk_48_method_27_code 4 (some .int) ({ frames := 1, cells := 0, slots := 0, locals := 14 } : Room) EL1 n0 true [] #[(.int (Int32.ofNat cap)), (.int (Int32.ofNat (p - cap))), (.int (Int32.ofNat (cap + 2)))] h0 [] (fun v h N => h0 = h ∧ v = some (.int (Int32.ofNat (cap + (cap + 2))))) := by
  refine Ct.of (a0 := a0) (plainFor_of_name pn_jdk_internal_util_ArraysSupport) (own_ew hw) (L0 := #[.val (.int (Int32.ofNat cap)), .val (.int (Int32.ofNat (p - cap))), .val (.int (Int32.ofNat (cap + 2))), .unset]) (fun _ => rfl) ?_
  refine Go.iloadN (pc' := 1) dj48m27_0 rfl rfl ?_
  refine Go.iloadN (pc' := 2) dj48m27_1 rfl rfl ?_
  refine Go.iloadN (pc' := 3) dj48m27_2 rfl rfl ?_
  refine Go.callS (a1 := a0) (pc' := 6) (argsL := [(.int (Int32.ofNat (p - cap))), (.int (Int32.ofNat (cap + 2)))]) (rest := [(.int (Int32.ofNat cap))]) (ct_max l Z a0 hw n0 h0 (p - cap) (cap + 2) (by omega) (by omega)) dj48m27_3 (wd hw 289 rfl) (wd hw 290 rfl) (wd hw 173 rfl) (wd hw 291 rfl) (by decide) (lenOf pd_9 rfl) rfl 1 rfl rfl (by decide) (by decide) (by decide) (by decide) sl0 rfl (fun v_1 h_2 N_3 hQ_4 hle_5 => ?_)
  obtain ⟨rfl, rfl⟩ := hQ_4
  refine Go.rs [(.int (Int32.ofNat (cap + 2))), (.int (Int32.ofNat cap))] rfl ?_
  refine Go.iadd (pc' := 7) dj48m27_6 rfl ?_
  refine Go.re (pc' := 7) (L' := #[.val (.int (Int32.ofNat cap)), .val (.int (Int32.ofNat (p - cap))), .val (.int (Int32.ofNat (cap + 2))), .unset]) (S' := [(.int (Int32.ofNat (cap + (cap + 2))))]) rfl rfl (by rw [ofN_add]) ?_
  refine Go.istoreN (pc' := 8) #[.val (.int (Int32.ofNat cap)), .val (.int (Int32.ofNat (p - cap))), .val (.int (Int32.ofNat (cap + 2))), .val (.int (Int32.ofNat (cap + (cap + 2))))] dj48m27_7 rfl rfl ?_
  refine Go.iconst (pc' := 9) 0 dj48m27_8 rfl rfl ?_
  refine Go.iloadN (pc' := 10) dj48m27_9 rfl rfl ?_
  refine Go.icmpF (pc' := 13) dj48m27_10 (ofN_pos (by omega) (by omega)) rfl ?_
  refine Go.iloadN (pc' := 14) dj48m27_13 rfl rfl ?_
  refine Go.ldcI (pc' := 16) (a1 := a0) dj48m27_14 (wd hw 292 rfl) rfl ?_
  refine Go.icmpF (pc' := 19) dj48m27_16 (ofN_ngt (by omega)) rfl ?_
  refine Go.iloadN (pc' := 20) dj48m27_19 rfl rfl ?_
  refine Go.retI rfl [] sl0 dj48m27_20 (by decide) (by decide) ?_
  exact ⟨rfl, rfl⟩
theorem dj68m10_0 : decode jdk_68_method_10_code 0 = .ok (.aload_n 0, 1) := by decide +kernel
theorem dj68m10_1 : decode jdk_68_method_10_code 1 = .ok (.getfield 15, 3) := by decide +kernel
theorem dj68m10_4 : decode jdk_68_method_10_code 4 = .ok (.arraylength, 1) := by decide +kernel
theorem dj68m10_5 : decode jdk_68_method_10_code 5 = .ok (.istore_n 2, 1) := by decide +kernel
theorem dj68m10_6 : decode jdk_68_method_10_code 6 = .ok (.iload_n 1, 1) := by decide +kernel
theorem dj68m10_7 : decode jdk_68_method_10_code 7 = .ok (.aload_n 0, 1) := by decide +kernel
theorem dj68m10_8 : decode jdk_68_method_10_code 8 = .ok (.getfield 22, 3) := by decide +kernel
theorem dj68m10_11 : decode jdk_68_method_10_code 11 = .ok (.ishl, 1) := by decide +kernel
theorem dj68m10_12 : decode jdk_68_method_10_code 12 = .ok (.istore_n 3, 1) := by decide +kernel
theorem dj68m10_13 : decode jdk_68_method_10_code 13 = .ok (.iload_n 3, 1) := by decide +kernel
theorem dj68m10_14 : decode jdk_68_method_10_code 14 = .ok (.iload_n 2, 1) := by decide +kernel
theorem dj68m10_15 : decode jdk_68_method_10_code 15 = .ok (.isub, 1) := by decide +kernel
theorem dj68m10_16 : decode jdk_68_method_10_code 16 = .ok (.istore 4, 2) := by decide +kernel
theorem dj68m10_18 : decode jdk_68_method_10_code 18 = .ok (.iload_n 2, 1) := by decide +kernel
theorem dj68m10_19 : decode jdk_68_method_10_code 19 = .ok (.iload 4, 2) := by decide +kernel
theorem dj68m10_21 : decode jdk_68_method_10_code 21 = .ok (.iload_n 2, 1) := by decide +kernel
theorem dj68m10_22 : decode jdk_68_method_10_code 22 = .ok (.iconst 2, 1) := by decide +kernel
theorem dj68m10_23 : decode jdk_68_method_10_code 23 = .ok (.aload_n 0, 1) := by decide +kernel
theorem dj68m10_24 : decode jdk_68_method_10_code 24 = .ok (.getfield 22, 3) := by decide +kernel
theorem dj68m10_27 : decode jdk_68_method_10_code 27 = .ok (.ishl, 1) := by decide +kernel
theorem dj68m10_28 : decode jdk_68_method_10_code 28 = .ok (.iadd, 1) := by decide +kernel
theorem pd_15 : parseMethodDescriptor "(III)I" = some ⟨[.int, .int, .int], (some .int)⟩ := by decide +kernel
theorem dj68m10_29 : decode jdk_68_method_10_code 29 = .ok (.invokestatic 114, 3) := by decide +kernel
theorem dj68m10_32 : decode jdk_68_method_10_code 32 = .ok (.istore 5, 2) := by decide +kernel
theorem dj68m10_34 : decode jdk_68_method_10_code 34 = .ok (.iload 5, 2) := by decide +kernel
theorem dj68m10_36 : decode jdk_68_method_10_code 36 = .ok (.ldc 39, 2) := by decide +kernel
theorem dj68m10_38 : decode jdk_68_method_10_code 38 = .ok (.if_icmp .ne 13, 3) := by decide +kernel
theorem dj68m10_51 : decode jdk_68_method_10_code 51 = .ok (.iload 5, 2) := by decide +kernel
theorem dj68m10_53 : decode jdk_68_method_10_code 53 = .ok (.aload_n 0, 1) := by decide +kernel
theorem dj68m10_54 : decode jdk_68_method_10_code 54 = .ok (.getfield 22, 3) := by decide +kernel
theorem dj68m10_57 : decode jdk_68_method_10_code 57 = .ok (.ishr, 1) := by decide +kernel
theorem dj68m10_58 : decode jdk_68_method_10_code 58 = .ok (.ireturn, 1) := by decide +kernel
theorem ct_nc (l : Launch) (Z : State) (a0 : Array Value) (hw : ∀ d ∈ tables_1, d.before a0 Z = true) (n0 : Nat) (h0 : Heap) (a1 b : Addr) (k : ClassId) (vs : List Value) (p cap : Nat) (GC : Fld Z h0 a1 "java/lang/AbstractStringBuilder" "coder" "B" (.int (0 : Int32))) (GV : Fld Z h0 a1 "java/lang/AbstractStringBuilder" "value" "[B" (.ref b)) (AVB : Arv Z h0 b k .byte (Int32.ofNat cap) vs (.int 0)) (hp1 : cap < p) (hp2 : p ≤ cap + (cap + 2)) (hc : cap ≤ 63) :
    Ct l Z (⟨"java/lang/AbstractStringBuilder", "newCapacity", "(I)I"⟩ : MethodName) jdk_68_method_10_code 6 (some .int) ({ frames := 2, cells := 0, slots := 0, locals := 29 } : Room) EL1 n0 true [] #[(.ref a1), (.int (Int32.ofNat p))] h0 [] (fun v h N => h0 = h ∧ v = some (.int (Int32.ofNat (cap + (cap + 2))))) := by
  refine Ct.of (a0 := a0) (plainFor_of_name pn_java_lang_AbstractStringBuilder) (own_ew hw) (L0 := #[.val (.ref a1), .val (.int (Int32.ofNat p)), .unset, .unset, .unset, .unset]) (fun _ => rfl) ?_
  have l0_AVB := nlt AVB.lt
  refine Go.aloadN (pc' := 1) dj68m10_0 rfl rfl rfl ?_
  refine Go.getF (pc' := 4) (host := "") (a1 := a0) dj68m10_1 (Or.inl (wd hw 74 rfl)) Via.refl GV rfl ?_
  refine Go.alenV (pc' := 5) dj68m10_4 AVB rfl ?_
  refine Go.istoreN (pc' := 6) #[.val (.ref a1), .val (.int (Int32.ofNat p)), .val (.int (Int32.ofNat cap)), .unset, .unset, .unset] dj68m10_5 rfl rfl ?_
  refine Go.iloadN (pc' := 7) dj68m10_6 rfl rfl ?_
  refine Go.aloadN (pc' := 8) dj68m10_7 rfl rfl rfl ?_
  refine Go.getF (pc' := 11) (host := "") (a1 := a0) dj68m10_8 (Or.inl (wd hw 76 rfl)) Via.refl GC rfl ?_
  refine Go.ishl (pc' := 12) dj68m10_11 rfl ?_
  refine Go.re (pc' := 12) (L' := #[.val (.ref a1), .val (.int (Int32.ofNat p)), .val (.int (Int32.ofNat cap)), .unset, .unset, .unset]) (S' := [(.int (Int32.ofNat p))]) rfl rfl (by rw [shl0]) ?_
  refine Go.istoreN (pc' := 13) #[.val (.ref a1), .val (.int (Int32.ofNat p)), .val (.int (Int32.ofNat cap)), .val (.int (Int32.ofNat p)), .unset, .unset] dj68m10_12 rfl rfl ?_
  refine Go.iloadN (pc' := 14) dj68m10_13 rfl rfl ?_
  refine Go.iloadN (pc' := 15) dj68m10_14 rfl rfl ?_
  refine Go.isub (pc' := 16) dj68m10_15 rfl ?_
  refine Go.re (pc' := 16) (L' := #[.val (.ref a1), .val (.int (Int32.ofNat p)), .val (.int (Int32.ofNat cap)), .val (.int (Int32.ofNat p)), .unset, .unset]) (S' := [(.int (Int32.ofNat (p - cap)))]) rfl rfl (by rw [ofN_sub (by omega)]) ?_
  refine Go.istore (pc' := 18) #[.val (.ref a1), .val (.int (Int32.ofNat p)), .val (.int (Int32.ofNat cap)), .val (.int (Int32.ofNat p)), .val (.int (Int32.ofNat (p - cap))), .unset] dj68m10_16 rfl rfl ?_
  refine Go.iloadN (pc' := 19) dj68m10_18 rfl rfl ?_
  refine Go.iload (pc' := 21) dj68m10_19 rfl rfl ?_
  refine Go.iloadN (pc' := 22) dj68m10_21 rfl rfl ?_
  refine Go.iconst (pc' := 23) 2 dj68m10_22 rfl rfl ?_
  refine Go.aloadN (pc' := 24) dj68m10_23 rfl rfl rfl ?_
  refine Go.getF (pc' := 27) (host := "") (a1 := a0) dj68m10_24 (Or.inl (wd hw 76 rfl)) Via.refl GC rfl ?_
  refine Go.ishl (pc' := 28) dj68m10_27 rfl ?_
  refine Go.re (pc' := 28) (L' := #[.val (.ref a1), .val (.int (Int32.ofNat p)), .val (.int (Int32.ofNat cap)), .val (.int (Int32.ofNat p)), .val (.int (Int32.ofNat (p - cap))), .unset]) (S' := [(.int (2 : Int32)), (.int (Int32.ofNat cap)), (.int (Int32.ofNat (p - cap))), (.int (Int32.ofNat cap))]) rfl rfl (congrArg (fun z => Value.int z :: _) (show ((2 : Int32) <<< ((0 : Int32) &&& 31)) = 2 by decide)) ?_
  refine Go.iadd (pc' := 29) dj68m10_28 rfl ?_
  refine Go.re (pc' := 29) (L' := #[.val (.ref a1), .val (.int (Int32.ofNat p)), .val (.int (Int32.ofNat cap)), .val (.int (Int32.ofNat p)), .val (.int (Int32.ofNat (p - cap))), .unset]) (S' := [(.int (Int32.ofNat (cap + 2))), (.int (Int32.ofNat (p - cap))), (.int (Int32.ofNat cap))]) rfl rfl (by rw [ofN_add2]) ?_
  refine Go.callS (a1 := a0) (pc' := 32) (argsL := [(.int (Int32.ofNat cap)), (.int (Int32.ofNat (p - cap))), (.int (Int32.ofNat (cap + 2)))]) (rest := []) (ct_nl l Z a0 hw n0 h0 p cap hp1 hp2 hc) dj68m10_29 (wd hw 285 rfl) (wd hw 286 rfl) (wd hw 287 rfl) (wd hw 288 rfl) (by decide) (lenOf pd_15 rfl) rfl 0 rfl rfl (by decide) (by decide) (by decide) (by decide) sl0 rfl (fun v_1 h_2 N_3 hQ_4 hle_5 => ?_)
  obtain ⟨rfl, rfl⟩ := hQ_4
  refine Go.rs [(.int (Int32.ofNat (cap + (cap + 2))))] rfl ?_
  refine Go.istore (pc' := 34) #[.val (.ref a1), .val (.int (Int32.ofNat p)), .val (.int (Int32.ofNat cap)), .val (.int (Int32.ofNat p)), .val (.int (Int32.ofNat (p - cap))), .val (.int (Int32.ofNat (cap + (cap + 2))))] dj68m10_32 rfl rfl ?_
  refine Go.iload (pc' := 36) dj68m10_34 rfl rfl ?_
  refine Go.ldcI (pc' := 38) (a1 := a0) dj68m10_36 (wd hw 293 rfl) rfl ?_
  refine Go.icmpT (pc' := 51) dj68m10_38 (ofN_nemax (by omega)) (by decide) (by decide) ?_
  refine Go.iload (pc' := 53) dj68m10_51 rfl rfl ?_
  refine Go.aloadN (pc' := 54) dj68m10_53 rfl rfl rfl ?_
  refine Go.getF (pc' := 57) (host := "") (a1 := a0) dj68m10_54 (Or.inl (wd hw 76 rfl)) Via.refl GC rfl ?_
  refine Go.ishr (pc' := 58) dj68m10_57 rfl ?_
  refine Go.re (pc' := 58) (L' := #[.val (.ref a1), .val (.int (Int32.ofNat p)), .val (.int (Int32.ofNat cap)), .val (.int (Int32.ofNat p)), .val (.int (Int32.ofNat (p - cap))), .val (.int (Int32.ofNat (cap + (cap + 2))))]) (S' := [(.int (Int32.ofNat (cap + (cap + 2))))]) rfl rfl (by rw [shr0]) ?_
  refine Go.retI rfl [] sl0 dj68m10_58 (by decide) (by decide) ?_
  exact ⟨rfl, rfl⟩
theorem dj65m121_0 : decode jdk_65_method_121_code 0 = .ok (.iload_n 1, 1) := by decide +kernel
theorem dj65m121_1 : decode jdk_65_method_121_code 1 = .ok (.aload_n 0, 1) := by decide +kernel
theorem dj65m121_2 : decode jdk_65_method_121_code 2 = .ok (.arraylength, 1) := by decide +kernel
theorem dj65m121_3 : decode jdk_65_method_121_code 3 = .ok (.if_icmp .ne 11, 3) := by decide +kernel
theorem dj65m121_14 : decode jdk_65_method_121_code 14 = .ok (.iload_n 1, 1) := by decide +kernel
theorem dj65m121_15 : decode jdk_65_method_121_code 15 = .ok (.newarray .byte, 2) := by decide +kernel
theorem dj65m121_17 : decode jdk_65_method_121_code 17 = .ok (.astore_n 2, 1) := by decide +kernel
theorem dj65m121_18 : decode jdk_65_method_121_code 18 = .ok (.aload_n 0, 1) := by decide +kernel
theorem dj65m121_19 : decode jdk_65_method_121_code 19 = .ok (.iconst 0, 1) := by decide +kernel
theorem dj65m121_20 : decode jdk_65_method_121_code 20 = .ok (.aload_n 2, 1) := by decide +kernel
theorem dj65m121_21 : decode jdk_65_method_121_code 21 = .ok (.iconst 0, 1) := by decide +kernel
theorem dj65m121_22 : decode jdk_65_method_121_code 22 = .ok (.aload_n 0, 1) := by decide +kernel
theorem dj65m121_23 : decode jdk_65_method_121_code 23 = .ok (.arraylength, 1) := by decide +kernel
theorem dj65m121_24 : decode jdk_65_method_121_code 24 = .ok (.iload_n 1, 1) := by decide +kernel
theorem dj65m121_25 : decode jdk_65_method_121_code 25 = .ok (.invokestatic 304, 3) := by decide +kernel
theorem dj65m121_28 : decode jdk_65_method_121_code 28 = .ok (.invokestatic 150, 3) := by decide +kernel
theorem dj65m121_31 : decode jdk_65_method_121_code 31 = .ok (.aload_n 2, 1) := by decide +kernel
theorem dj65m121_32 : decode jdk_65_method_121_code 32 = .ok (.areturn, 1) := by decide +kernel
theorem ct_co (l : Launch) (Z : State) (a0 : Array Value) (hw : ∀ d ∈ tables_1, d.before a0 Z = true) (n0 : Nat) (h0 : Heap) (b : Addr) (k : ClassId) (vd : List Int32) (cap : Nat) (AVB : Arv Z h0 b k .byte (Int32.ofNat cap) (vd.map Value.int) (.int 0)) (hv : vd.length = cap) (hc : cap ≤ 63) (hn0 : n0 ≤ h0.size) :
    Ct l Z (⟨"java/util/Arrays", "copyOf", "([BI)[B"⟩ : MethodName) jdk_65_method_121_code 3 (some (.array .byte)) ({ frames := 1, cells := 1, slots := 128, locals := 18 } : Room) EL1 n0 true [] #[(.ref b), (.int (Int32.ofNat (cap + (cap + 2))))] h0 [] (fun v h N => ∃ d kd, v = some (.ref d) ∧ N = [d] ∧ h0.size ≤ d ∧ Keep h0 h [] ∧ Arv Z h d kd .byte (Int32.ofNat (cap + (cap + 2))) ((vd ++ List.replicate (cap + 2) (0 : Int32)).map Value.int) (.int 0)) := by
  refine Ct.of (a0 := a0) (plainFor_of_name pn_java_util_Arrays) (own_ew hw) (L0 := #[.val (.ref b), .val (.int (Int32.ofNat (cap + (cap + 2)))), .unset]) (fun _ => rfl) ?_
  have l0_AVB := nlt AVB.lt
  refine Go.iloadN (pc' := 1) dj65m121_0 rfl rfl ?_
  refine Go.aloadN (pc' := 2) dj65m121_1 rfl rfl rfl ?_
  refine Go.alenV (pc' := 3) dj65m121_2 AVB rfl ?_
  refine Go.icmpT (pc' := 14) dj65m121_3 (fun q => absurd ((ofN_eq (by omega) (by omega)).mp q) (by omega)) (by decide) (by decide) ?_
  refine Go.iloadN (pc' := 15) dj65m121_14 rfl rfl ?_
  refine Go.newPV (pc' := 17) (a1 := a0) 128 ((List.replicate (cap + (cap + 2)) (0 : Int32)).map Value.int) dj65m121_15 (wd hw 30 rfl) (ofN_nn (by omega)) (by rw [ofN_nat (by omega)]; omega) (by decide) (by decide) (by decide) (by rw [ofN_nat (by omega), List.map_replicate]; rfl) rfl (fun a_1 h_2 cA_3 ha_4 E_5 A_6 => ?_)
  have szh_2 := nle E_5.1
  have lta_1 := nlt A_6.lt
  have qa_1 := neq ha_4
  have F_7 : Arv Z h_2 a_1 cA_3 .byte (Int32.ofNat (cap + (cap + 2))) ((List.replicate (cap + (cap + 2)) (0 : Int32)).map Value.int) (.int 0) := A_6
  refine Go.astoreN (pc' := 18) #[.val (.ref b), .val (.int (Int32.ofNat (cap + (cap + 2)))), .val (.ref a_1)] dj65m121_17 rfl rfl rfl ?_
  refine Go.aloadN (pc' := 19) dj65m121_18 rfl rfl rfl ?_
  refine Go.iconst (pc' := 20) 0 dj65m121_19 rfl rfl ?_
  refine Go.aloadN (pc' := 21) dj65m121_20 rfl rfl rfl ?_
  refine Go.iconst (pc' := 22) 0 dj65m121_21 rfl rfl ?_
  refine Go.aloadN (pc' := 23) dj65m121_22 rfl rfl rfl ?_
  have F_8 := (Arv.ext AVB E_5)
  refine Go.alenV (pc' := 24) dj65m121_23 F_8 rfl ?_
  refine Go.iloadN (pc' := 25) dj65m121_24 rfl rfl ?_
  refine Go.callS (a1 := a0) (pc' := 28) (argsL := [(.int (Int32.ofNat cap)), (.int (Int32.ofNat (cap + (cap + 2))))]) (rest := [(.int (0 : Int32)), (.ref a_1), (.int (0 : Int32)), (.ref b)]) (ct_min1 l Z a0 hw n0 h_2 (Int32.ofNat cap) (Int32.ofNat (cap + (cap + 2))) (fun q => by rw [ofN_lt (by omega) (by omega)] at q; omega)) dj65m121_25 (wd hw 171 rfl) (wd hw 172 rfl) (wd hw 173 rfl) (wd hw 174 rfl) (by decide) (lenOf pd_9 rfl) rfl 4 rfl rfl (by decide) (by decide) (by decide) (by decide) sl0 rfl (fun v_9 h_10 N_11 hQ_12 hle_13 => ?_)
  obtain ⟨rfl, rfl⟩ := hQ_12
  refine Go.rs [(.int (Int32.ofNat cap)), (.int (0 : Int32)), (.ref a_1), (.int (0 : Int32)), (.ref b)] rfl ?_
  refine Go.acopy (pc' := 31) (a1 := a0) (us := vd.map Value.int) dj65m121_28 (wd hw 175 rfl) (wd hw 127 rfl) (wd hw 125 rfl) (wd hw 126 rfl) F_8 F_7 rfl (by decide) (by decide) (ofN_nn (by omega)) (by rw [ofN_nat (by omega)]; show 0 + cap ≤ cap; omega) (by rw [ofN_nat (by omega), ofN_nat (by omega)]; show 0 + cap ≤ cap + (cap + 2); omega) (by rw [ofN_nat (by omega), ← hv]; exact cp_us vd) (by rw [ofN_nat (by omega), List.length_map, List.length_replicate]; show 0 + cap ≤ cap + (cap + 2); omega) (Sf.mem (by simp)) (by omega) rfl (by decide) 0 rfl (by decide) rfl (fun h_14 K_15 A_16 => ?_)
  have szh_14 := nle K_15.1
  have F_17 : Arv Z h_14 a_1 cA_3 .byte (Int32.ofNat (cap + (cap + 2))) ((vd ++ List.replicate (cap + 2) (0 : Int32)).map Value.int) (.int 0) := by have q := A_16; rw [ofN_nat (by omega)] at q; have z0 : (0 : Int32).toNatClampNeg = 0 := (by decide); rw [z0] at q; simpa [List.drop_replicate] using q
  refine Go.rs [] rfl ?_
  refine Go.aloadN (pc' := 32) dj65m121_31 rfl rfl rfl ?_
  refine Go.retA rfl rfl rfl [a_1] (by intro x hx; cases List.mem_singleton.mp hx; simp) dj65m121_32 (by decide) (by decide) ?_
  exact ⟨a_1, _, rfl, rfl, by omega, (Keep.trans (Keep.ext (Keep.refl _ []) E_5) K_15 (allS (Or.inr (by omega)) all0)), F_17⟩
theorem dj68m9_17 : decode jdk_68_method_9_code 17 = .ok (.aload_n 0, 1) := by decide +kernel
theorem dj68m9_18 : decode jdk_68_method_9_code 18 = .ok (.aload_n 0, 1) := by decide +kernel
theorem dj68m9_19 : decode jdk_68_method_9_code 19 = .ok (.getfield 15, 3) := by decide +kernel
theorem dj68m9_22 : decode jdk_68_method_9_code 22 = .ok (.aload_n 0, 1) := by decide +kernel
theorem dj68m9_23 : decode jdk_68_method_9_code 23 = .ok (.iload_n 1, 1) := by decide +kernel
theorem pd_16 : parseMethodDescriptor "(I)I" = some ⟨[.int], (some .int)⟩ := by decide +kernel
theorem dj68m9_24 : decode jdk_68_method_9_code 24 = .ok (.invokevirtual 104, 3) := by decide +kernel
theorem dj68m9_27 : decode jdk_68_method_9_code 27 = .ok (.aload_n 0, 1) := by decide +kernel
theorem dj68m9_28 : decode jdk_68_method_9_code 28 = .ok (.getfield 22, 3) := by decide +kernel
theorem dj68m9_31 : decode jdk_68_method_9_code 31 = .ok (.ishl, 1) := by decide +kernel
theorem pd_17 : parseMethodDescriptor "([BI)[B" = some ⟨[(.array .byte), .int], (some (.array .byte))⟩ := by decide +kernel
theorem dj68m9_32 : decode jdk_68_method_9_code 32 = .ok (.invokestatic 108, 3) := by decide +kernel
theorem dj68m9_35 : decode jdk_68_method_9_code 35 = .ok (.putfield 15, 3) := by decide +kernel
theorem ct_ensG (l : Launch) (Z : State) (a0 : Array Value) (hw : ∀ d ∈ tables_1, d.before a0 Z = true) (n0 : Nat) (h0 : Heap) (a1 b : Addr) (k : ClassId) (n : Int32) (vd : List Int32) (p cap : Nat) (EA : Exa Z h0 a1 "java/lang/StringBuilder") (GN : Fld Z h0 a1 "java/lang/AbstractStringBuilder" "count" "I" (.int n)) (GC : Fld Z h0 a1 "java/lang/AbstractStringBuilder" "coder" "B" (.int (0 : Int32))) (GV : Fld Z h0 a1 "java/lang/AbstractStringBuilder" "value" "[B" (.ref b)) (AVB : Arv Z h0 b k .byte (Int32.ofNat cap) (vd.map Value.int) (.int 0)) (hv : vd.length = cap) (hp1 : cap < p) (hp2 : p ≤ cap + (cap + 2)) (hc : cap ≤ 63) (ha : n0 ≤ a1) :
    Ct l Z (⟨"java/lang/AbstractStringBuilder", "ensureCapacityInternal", "(I)V"⟩ : MethodName) jdk_68_method_9_code 3 none ({ frames := 3, cells := 1, slots := 128, locals := 48 } : Room) EL1 n0 true [] #[(.ref a1), (.int (Int32.ofNat p))] h0 [] (fun v h N => v = none ∧ ∃ d kd, N = [d] ∧ h0.size ≤ d ∧ Keep h0 h [a1] ∧ Exa Z h a1 "java/lang/StringBuilder" ∧ Fld Z h a1 "java/lang/AbstractStringBuilder" "count" "I" (.int n) ∧ Fld Z h a1 "java/lang/AbstractStringBuilder" "coder" "B" (.int (0 : Int32)) ∧ Fld Z h a1 "java/lang/AbstractStringBuilder" "value" "[B" (.ref d) ∧ Arv Z h d kd .byte (Int32.ofNat (cap + (cap + 2))) ((vd ++ List.replicate (cap + 2) (0 : Int32)).map Value.int) (.int 0)) := by
  refine Ct.of (a0 := a0) (plainFor_of_name pn_java_lang_AbstractStringBuilder) (own_ew hw) (L0 := #[.val (.ref a1), .val (.int (Int32.ofNat p)), .unset]) (fun _ => rfl) ?_
  have e_ab := nne (Exa.neArv (a0 := a0) EA AVB (wd hw 61 rfl))
  have l0_EA := nlt EA.lt
  have l0_AVB := nlt AVB.lt
  refine Go.aloadN (pc' := 1) dj68m9_0 rfl rfl rfl ?_
  refine Go.getF (pc' := 4) (host := "") (a1 := a0) dj68m9_1 (Or.inl (wd hw 74 rfl)) Via.refl GV rfl ?_
  refine Go.alenV (pc' := 5) dj68m9_4 AVB rfl ?_
  refine Go.aloadN (pc' := 6) dj68m9_5 rfl rfl rfl ?_
  refine Go.getF (pc' := 9) (host := "") (a1 := a0) dj68m9_6 (Or.inl (wd hw 76 rfl)) Via.refl GC rfl ?_
  refine Go.ishr (pc' := 10) dj68m9_9 rfl ?_
  refine Go.re (pc' := 10) (L' := #[.val (.ref a1), .val (.int (Int32.ofNat p)), .unset]) (S' := [(.int (Int32.ofNat cap))]) rfl rfl (by rw [shr0]) ?_
  refine Go.istoreN (pc' := 11) #[.val (.ref a1), .val (.int (Int32.ofNat p)), .val (.int (Int32.ofNat cap))] dj68m9_10 rfl rfl ?_
  refine Go.iloadN (pc' := 12) dj68m9_11 rfl rfl ?_
  refine Go.iloadN (pc' := 13) dj68m9_12 rfl rfl ?_
  refine Go.isub (pc' := 14) dj68m9_13 rfl ?_
  refine Go.ifF (pc' := 17) dj68m9_14 (by rw [ofN_sub (by omega)]; exact ofN_pos (by omega) (by omega)) rfl ?_
  refine Go.aloadN (pc' := 18) dj68m9_17 rfl rfl rfl ?_
  refine Go.aloadN (pc' := 19) dj68m9_18 rfl rfl rfl ?_
  refine Go.getF (pc' := 22) (host := "") (a1 := a0) dj68m9_19 (Or.inl (wd hw 74 rfl)) Via.refl GV rfl ?_
  refine Go.aloadN (pc' := 23) dj68m9_22 rfl rfl rfl ?_
  refine Go.iloadN (pc' := 24) dj68m9_23 rfl rfl ?_
  refine Go.callW (a1 := a0) (pc' := 27) (argsL := [(.int (Int32.ofNat p))]) (rest := [(.ref b), (.ref a1)]) (ct_nc l Z a0 hw n0 h0 a1 b k _ p cap GC GV AVB hp1 hp2 hc) dj68m9_24 (wd hw 280 rfl) (decl_by (wd hw 281 rfl) (wd hw 284 rfl)) (wd hw 106 rfl) rfl (wd hw 283 rfl) (wd hw 281 rfl) (wd hw 70 rfl) (wd hw 284 rfl) EA (by decide) (lenOf pd_16 rfl) rfl 2 rfl rfl (by decide) (by decide) (by decide) (by decide) sl0 rfl (fun v_1 h_2 N_3 hQ_4 hle_5 => ?_)
  obtain ⟨rfl, rfl⟩ := hQ_4
  refine Go.rs [(.int (Int32.ofNat (cap + (cap + 2)))), (.ref b), (.ref a1)] rfl ?_
  refine Go.aloadN (pc' := 28) dj68m9_27 rfl rfl rfl ?_
  refine Go.getF (pc' := 31) (host := "") (a1 := a0) dj68m9_28 (Or.inl (wd hw 76 rfl)) Via.refl GC rfl ?_
  refine Go.ishl (pc' := 32) dj68m9_31 rfl ?_
  refine Go.re (pc' := 32) (L' := #[.val (.ref a1), .val (.int (Int32.ofNat p)), .val (.int (Int32.ofNat cap))]) (S' := [(.int (Int32.ofNat (cap + (cap + 2)))), (.ref b), (.ref a1)]) rfl rfl (by rw [shl0]) ?_
  refine Go.callS (a1 := a0) (pc' := 35) (argsL := [(.ref b), (.int (Int32.ofNat (cap + (cap + 2))))]) (rest := [(.ref a1)]) (ct_co l Z a0 hw n0 h0 b k vd cap AVB hv hc (by omega)) dj68m9_32 (wd hw 294 rfl) (wd hw 295 rfl) (wd hw 163 rfl) (wd hw 296 rfl) (by decide) (lenOf pd_17 rfl) rfl 1 rfl rfl (by decide) (by decide) (by decide) (by decide) sl0 rfl (fun v_11 h_12 N_13 hQ_14 hle_15 => ?_)
  obtain ⟨d_6, kd_7, rfl, rfl, g_8, K_9, F_10⟩ := hQ_14
  have szh_12 := nle K_9.1
  have ltd_6 := nlt F_10.lt
  have ged_6 := nle g_8
  refine Go.rs [(.ref d_6), (.ref a1)] rfl ?_
  have F_16 := (Fld.keep GV K_9 nin0)
  have F_17 := (Exa.keep EA K_9)
  refine Go.putF (pc' := 38) (host := "") (a1 := a0) dj68m9_35 (Or.inl (wd hw 74 rfl)) Via.refl F_16 F_17 (Or.inl (wd hw 75 rfl)) (wd hw 61 rfl) (ty := (.array .byte)) (by decide) rfl rfl (Sf.exa F_17 (by decide) (by decide)) (by omega) rfl (fun h_18 W_19 => ?_)
  have szh_18 : h_18.size = h_12.size := Wr.size W_19
  have F_20 : Fld Z h_18 a1 "java/lang/AbstractStringBuilder" "value" "[B" (.ref d_6) := Fld.same W_19 F_16
  have F_21 := (Exa.wr W_19 F_17)
  have F_22 : Fld Z h_18 a1 "java/lang/AbstractStringBuilder" "count" "I" (.int n) := (Fld.other W_19 (Fld.keep GN K_9 nin0) (Or.inr (slot_ne (Or.inl (wd hw 102 rfl)) (Or.inl (wd hw 75 rfl)) (by decide) (t := .int) (t' := (.array .byte)) (by decide) (by decide))))
  have F_23 : Fld Z h_18 a1 "java/lang/AbstractStringBuilder" "coder" "B" (.int (0 : Int32)) := (Fld.other W_19 (Fld.keep GC K_9 nin0) (Or.inr (slot_ne (Or.inl (wd hw 77 rfl)) (Or.inl (wd hw 75 rfl)) (by decide) (t := .byte) (t' := (.array .byte)) (by decide) (by decide))))
  have F_24 := (Arv.other F_10 W_19 (nne (by omega)))
  refine Go.ret0 rfl [d_6] (by intro x hx; cases List.mem_singleton.mp hx; simp) dj68m9_38 (by decide) (by decide) ?_
  exact ⟨rfl, d_6, kd_7, rfl, by omega, (Keep.wr (Keep.trans (Keep.refl _ [a1]) K_9 all0) W_19 (Or.inl (by simp))), F_21, F_22, F_23, F_20, F_24⟩
theorem ct_aappG (l : Launch) (Z : State) (a0 : Array Value) (hw : ∀ d ∈ tables_1, d.before a0 Z = true) (n0 : Nat) (h0 : Heap) (a1 s b1 b : Addr) (k1 k : ClassId) (ll vr m : List Int32) (cap : Nat) (hv : (ll ++ vr).length = cap) (hm1 : cap < ll.length + m.length) (hm2 : ll.length + m.length ≤ cap + (cap + 2)) (hc : cap ≤ 63) (hb1 : b1 ≠ b) (ha : n0 ≤ a1) (cs : Int32) (S_cs : Sta Z h0 "java/lang/String" "COMPACT_STRINGS" "Z" (.int cs)) (hcs : ¬ cs = 0) (Es : Exa Z h0 s "java/lang/String") (FCs : Fld Z h0 s "java/lang/String" "coder" "B" (.int (0 : Int32))) (FVs : Fld Z h0 s "java/lang/String" "value" "[B" (.ref b1)) (AVs : Arv Z h0 b1 k1 .byte (Int32.ofNat m.length) (m.map Value.int) (.int 0)) (EA : Exa Z h0 a1 "java/lang/StringBuilder") (GN : Fld Z h0 a1 "java/lang/AbstractStringBuilder" "count" "I" (.int (Int32.ofNat ll.length))) (GC : Fld Z h0 a1 "java/lang/AbstractStringBuilder" "coder" "B" (.int (0 : Int32))) (GV : Fld Z h0 a1 "java/lang/AbstractStringBuilder" "value" "[B" (.ref b)) (AVB : Arv Z h0 b k .byte (Int32.ofNat cap) ((ll ++ vr).map Value.int) (.int 0)) :
    Ct l Z (⟨"java/lang/AbstractStringBuilder", "append", "(Ljava/lang/String;)Ljava/lang/AbstractStringBuilder;"⟩ : MethodName) jdk_68_method_22_code 3 (some (.object "java/lang/AbstractStringBuilder")) ({ frames := 4, cells := 1, slots := 128, locals := 62 } : Room) EL1 n0 true [] #[(.ref a1), (.ref s)] h0 [] (fun v h N => v = some (.ref a1) ∧ ∃ d kd, N = [d] ∧ h0.size ≤ d ∧ Keep h0 h [a1] ∧ Exa Z h a1 "java/lang/StringBuilder" ∧ Fld Z h a1 "java/lang/AbstractStringBuilder" "count" "I" (.int (Int32.ofNat (ll.length + m.length))) ∧ Fld Z h a1 "java/lang/AbstractStringBuilder" "coder" "B" (.int (0 : Int32)) ∧ Fld Z h a1 "java/lang/AbstractStringBuilder" "value" "[B" (.ref d) ∧ Arv Z h d kd .byte (Int32.ofNat (cap + (cap + 2))) ((ll ++ m ++ (vr ++ List.replicate (cap + 2) (0 : Int32)).drop m.length).map Value.int) (.int 0)) := by
  refine Ct.of (a0 := a0) (plainFor_of_name pn_java_lang_AbstractStringBuilder) (own_ew hw) (L0 := #[.val (.ref a1), .val (.ref s), .unset]) (fun _ => rfl) ?_
  have e_sb := nne (Exa.neArv (a0 := a0) Es AVB (wd hw 29 rfl))
  have e_b := nne hb1
  have e_ab := nne (Exa.neArv (a0 := a0) EA AVB (wd hw 61 rfl))
  have e_as := nne (Exa.ne EA Es (by decide))
  have e_a1 := nne (Exa.neArv (a0 := a0) EA AVs (wd hw 61 rfl))
  have e_s1 := nne (Exa.neArv (a0 := a0) Es AVs (wd hw 29 rfl))
  have l0_Es := nlt Es.lt
  have l0_AVs := nlt AVs.lt
  have l0_EA := nlt EA.lt
  have l0_AVB := nlt AVB.lt
  refine Go.aloadN (pc' := 1) dj68m22_0 rfl rfl rfl ?_
  refine Go.ifnonnullT (pc' := 9) dj68m22_1 (by decide) (by decide) ?_
  refine Go.aloadN (pc' := 10) dj68m22_9 rfl rfl rfl ?_
  refine Go.callV (a1 := a0) (pc' := 13) (argsL := []) (rest := []) (ct_length l Z a0 hw n0 h0 s b1 k1 (Int32.ofNat m.length) (m.map Value.int) cs S_cs hcs Es FCs FVs AVs) dj68m22_10 (wd hw 88 rfl) (wd hw 89 rfl) (wd hw 91 rfl) (wd hw 91 rfl) (wd hw 90 rfl) (wd hw 28 rfl) (wd hw 92 rfl) Es (by decide) (lenOf pd_4 rfl) rfl 0 rfl rfl (by decide) (by decide) (by decide) (by decide) sl0 rfl (fun v_1 h_2 N_3 hQ_4 hle_5 => ?_)
  obtain ⟨rfl, rfl⟩ := hQ_4
  refine Go.rs [(.int (Int32.ofNat m.length))] rfl ?_
  refine Go.istoreN (pc' := 14) #[.val (.ref a1), .val (.ref s), .val (.int (Int32.ofNat m.length))] dj68m22_13 rfl rfl ?_
  refine Go.aloadN (pc' := 15) dj68m22_14 rfl rfl rfl ?_
  refine Go.aloadN (pc' := 16) dj68m22_15 rfl rfl rfl ?_
  refine Go.getF (pc' := 19) (host := "") (a1 := a0) dj68m22_16 (Or.inl (wd hw 101 rfl)) Via.refl GN rfl ?_
  refine Go.iloadN (pc' := 20) dj68m22_19 rfl rfl ?_
  refine Go.iadd (pc' := 21) dj68m22_20 rfl ?_
  refine Go.re (pc' := 21) (L' := #[.val (.ref a1), .val (.ref s), .val (.int (Int32.ofNat m.length))]) (S' := [(.int (Int32.ofNat (ll.length + m.length))), (.ref a1)]) rfl rfl (by rw [ofN_add]) ?_
  refine Go.callW (a1 := a0) (pc' := 24) (argsL := [(.int (Int32.ofNat (ll.length + m.length)))]) (rest := []) (ct_ensG l Z a0 hw n0 h0 a1 b k _ (ll ++ vr) (ll.length + m.length) cap EA GN GC GV AVB hv hm1 hm2 hc ha) dj68m22_21 (wd hw 103 rfl) (decl_by (wd hw 104 rfl) (wd hw 107 rfl)) (wd hw 106 rfl) rfl (wd hw 106 rfl) (wd hw 104 rfl) (wd hw 70 rfl) (wd hw 107 rfl) EA (by decide) (lenOf pd_5 rfl) rfl 0 rfl rfl (by decide) (by decide) (by decide) (by decide) sl0 rfl (fun v_16 h_17 N_18 hQ_19 hle_20 => ?_)
  obtain ⟨rfl, d_6, kd_7, rfl, g_8, K_9, X_10, F_11, F_12, F_13, A_14⟩ := hQ_19
  have szh_17 := nle K_9.1
  have ltd_6 := nlt A_14.lt
  have ged_6 := nle g_8
  have A_15 : Arv Z h_17 d_6 kd_7 .byte (Int32.ofNat (cap + (cap + 2))) ((ll ++ (vr ++ List.replicate (cap + 2) (0 : Int32))).map Value.int) (.int 0) := by rw [← List.append_assoc]; exact A_14
  refine Go.rs [] rfl ?_
  refine Go.aloadN (pc' := 25) dj68m22_24 rfl rfl rfl ?_
  refine Go.aloadN (pc' := 26) dj68m22_25 rfl rfl rfl ?_
  refine Go.getF (pc' := 29) (host := "") (a1 := a0) dj68m22_26 (Or.inl (wd hw 101 rfl)) Via.refl F_11 rfl ?_
  refine Go.aloadN (pc' := 30) dj68m22_29 rfl rfl rfl ?_
  have F_21 := (Exa.keep Es K_9)
  have F_22 := (Fld.keep FCs K_9 (ninS (nne (by omega)) nin0))
  have F_23 := (Fld.keep FVs K_9 (ninS (nne (by omega)) nin0))
  have F_24 := (Arv.keep AVs K_9 (ninS (nne (by omega)) nin0))
  have F_28 := (sta_keep S_cs K_9 (nsS (Exa.nostat EA) ns0))
  refine Go.callW (a1 := a0) (pc' := 33) (argsL := [(.int (Int32.ofNat ll.length)), (.ref s)]) (rest := []) (ct_put l Z a0 hw n0 h_17 a1 s b1 d_6 k1 kd_7 m (ll ++ (vr ++ List.replicate (cap + 2) (0 : Int32))) ll.length (cap + (cap + 2)) hm2 (by omega) cs F_28 hcs F_21 F_22 F_23 F_24 X_10 F_12 F_13 A_15 (by simp only [List.length_append, List.length_replicate] at hv ⊢; omega) (nne (by omega)) (by omega)) dj68m22_30 (wd hw 108 rfl) (decl_by (wd hw 109 rfl) (wd hw 112 rfl)) (wd hw 106 rfl) rfl (wd hw 111 rfl) (wd hw 109 rfl) (wd hw 70 rfl) (wd hw 112 rfl) X_10 (by decide) (lenOf pd_6 rfl) rfl 0 rfl rfl (by decide) (by decide) (by decide) (by decide) (sl1 (by simp)) rfl (fun v_29 h_30 N_31 hQ_32 hle_33 => ?_)
  obtain ⟨rfl, K_25, F_26⟩ := hQ_32
  have szh_30 := nle K_25.1
  have F_27 : Arv Z h_30 d_6 kd_7 .byte (Int32.ofNat (cap + (cap + 2))) ((ll ++ m ++ (vr ++ List.replicate (cap + 2) (0 : Int32)).drop m.length).map Value.int) (.int 0) := by rw [← put_at]; exact F_26
  refine Go.rs [] rfl ?_
  refine Go.aloadN (pc' := 34) dj68m22_33 rfl rfl rfl ?_
  refine Go.dup (pc' := 35) dj68m22_34 rfl rfl ?_
  have F_34 := (Fld.keep F_11 K_25 (ninS (nne (by omega)) nin0))
  refine Go.getF (pc' := 38) (host := "") (a1 := a0) dj68m22_35 (Or.inl (wd hw 101 rfl)) Via.refl F_34 rfl ?_
  refine Go.iloadN (pc' := 39) dj68m22_38 rfl rfl ?_
  refine Go.iadd (pc' := 40) dj68m22_39 rfl ?_
  refine Go.re (pc' := 40) (L' := #[.val (.ref a1), .val (.ref s), .val (.int (Int32.ofNat m.length))]) (S' := [(.int (Int32.ofNat (ll.length + m.length))), (.ref a1)]) rfl rfl (by rw [ofN_add]) ?_
  have F_35 := (Exa.keep X_10 K_25)
  refine Go.putF (pc' := 43) (host := "") (a1 := a0) dj68m22_40 (Or.inl (wd hw 101 rfl)) Via.refl F_34 F_35 (Or.inl (wd hw 102 rfl)) (wd hw 61 rfl) (ty := .int) (by decide) rfl rfl (Sf.exa F_35 (by decide) (by decide)) (by omega) rfl (fun h_36 W_37 => ?_)
  have szh_36 : h_36.size = h_30.size := Wr.size W_37
  have F_38 : Fld Z h_36 a1 "java/lang/AbstractStringBuilder" "count" "I" (.int (Int32.ofNat (ll.length + m.length))) := Fld.same W_37 F_34
  refine Go.aloadN (pc' := 44) dj68m22_43 rfl rfl rfl ?_
  have F_39 := (Exa.wr W_37 F_35)
  have F_40 : Fld Z h_36 a1 "java/lang/AbstractStringBuilder" "coder" "B" (.int (0 : Int32)) := (Fld.other W_37 (Fld.keep F_12 K_25 (ninS (nne (by omega)) nin0)) (Or.inr (slot_ne (Or.inl (wd hw 77 rfl)) (Or.inl (wd hw 102 rfl)) (by decide) (t := .byte) (t' := .int) (by decide) (by decide))))
  have F_41 : Fld Z h_36 a1 "java/lang/AbstractStringBuilder" "value" "[B" (.ref d_6) := (Fld.other W_37 (Fld.keep F_13 K_25 (ninS (nne (by omega)) nin0)) (Or.inr (slot_ne (Or.inl (wd hw 75 rfl)) (Or.inl (wd hw 102 rfl)) (by decide) (t := (.array .byte)) (t' := .int) (by decide) (by decide))))
  have F_42 := (Arv.other F_27 W_37 (nne (by omega)))
  refine Go.retA rfl rfl rfl [d_6] (by intro x hx; cases List.mem_singleton.mp hx; simp) dj68m22_44 (by decide) (by decide) ?_
  exact ⟨rfl, d_6, _, rfl, by omega, (Keep.wr (Keep.trans (Keep.trans (Keep.refl _ [a1]) K_9 (allS (Or.inl (by simp)) all0)) K_25 (allS (Or.inr (by omega)) all0)) W_37 (Or.inl (by simp))), F_39, F_38, F_40, F_41, F_42⟩
theorem ct_appG (l : Launch) (Z : State) (a0 : Array Value) (hw : ∀ d ∈ tables_1, d.before a0 Z = true) (n0 : Nat) (h0 : Heap) (a1 s b1 b : Addr) (ll m : List Int32) (cap : Nat) (HB : Sb Z h0 a1 b cap ll) (HS : Str Z h0 s b1 m) (hm1 : cap < ll.length + m.length) (hm2 : ll.length + m.length ≤ cap + (cap + 2)) (hc : cap ≤ 63) (hb1 : b1 ≠ b) (ha : n0 ≤ a1) (cs : Int32) (S_cs : Sta Z h0 "java/lang/String" "COMPACT_STRINGS" "Z" (.int cs)) (hcs : ¬ cs = 0) :
    Ct l Z (⟨"java/lang/StringBuilder", "append", "(Ljava/lang/String;)Ljava/lang/StringBuilder;"⟩ : MethodName) jdk_67_method_7_code 2 (some (.object "java/lang/StringBuilder")) ({ frames := 5, cells := 1, slots := 128, locals := 76 } : Room) EL1 n0 true [] #[(.ref a1), (.ref s)] h0 [] (fun v h N => v = some (.ref a1) ∧ ∃ d, N = [d] ∧ h0.size ≤ d ∧ Keep h0 h [a1] ∧ Sb Z h a1 d (cap + (cap + 2)) (ll ++ m)) := by
  refine Ct.of (a0 := a0) (plainFor_of_name pn_java_lang_StringBuilder) (own_ew hw) (L0 := #[.val (.ref a1), .val (.ref s)]) (fun _ => rfl) ?_
  obtain ⟨EA, GN, GC, GV, k, vr, AVB, hv⟩ := HB
  obtain ⟨Es, FCs, FVs, k1, AVs⟩ := HS
  have l0_EA := nlt EA.lt
  refine Go.aloadN (pc' := 1) dj67m7_0 rfl rfl rfl ?_
  refine Go.aloadN (pc' := 2) dj67m7_1 rfl rfl rfl ?_
  refine Go.callU (a1 := a0) (pc' := 5) (argsL := [(.ref s)]) (rest := []) (ct_aappG l Z a0 hw n0 h0 a1 s b1 b k1 k ll vr m cap hv hm1 hm2 hc hb1 ha cs S_cs hcs Es FCs FVs AVs EA GN GC GV AVB) dj67m7_2 (by decide) (wd hw 83 rfl) (wd hw 86 rfl) (wd hw 106 rfl) rfl (wd hw 85 rfl) (wd hw 84 rfl) (wd hw 70 rfl) (wd hw 87 rfl) EA (by decide) (lenOf pd_7 rfl) rfl 0 rfl rfl (by decide) (by decide) (by decide) (by decide) sl0 rfl (fun v_10 h_11 N_12 hQ_13 hle_14 => ?_)
  obtain ⟨rfl, d_1, kd_2, rfl, g_3, K_4, X_5, F_6, F_7, F_8, A_9⟩ := hQ_13
  have szh_11 := nle K_4.1
  have ged_1 := nle g_3
  refine Go.rs [(.ref a1)] rfl ?_
  refine Go.pop (pc' := 6) dj67m7_5 rfl rfl ?_
  refine Go.aloadN (pc' := 7) dj67m7_6 rfl rfl rfl ?_
  refine Go.retA rfl rfl rfl [d_1] (by intro x hx; cases List.mem_singleton.mp hx; simp) dj67m7_7 (by decide) (by decide) ?_
  exact ⟨rfl, d_1, rfl, by omega, (Keep.trans (Keep.refl _ [a1]) K_4 (allS (Or.inl (by simp)) all0)), X_5, by rw [List.length_append]; exact F_6, F_7, F_8, kd_2, (vr ++ List.replicate (cap + 2) (0 : Int32)).drop m.length, A_9, by simp only [List.length_append, List.length_drop, List.length_replicate] at hv ⊢; omega⟩
theorem pn_java_lang_Record : plainName "java/lang/Record" = true := by first | (simp [plainName, overriddenIn]; done) | decide +kernel
theorem dj30m1_0 : decode jdk_30_method_1_code 0 = .ok (.aload_n 0, 1) := by decide +kernel
theorem dj30m1_1 : decode jdk_30_method_1_code 1 = .ok (.invokespecial 1, 3) := by decide +kernel
theorem dj30m1_4 : decode jdk_30_method_1_code 4 = .ok (.return_, 1) := by decide +kernel
theorem ct_record (l : Launch) (Z : State) (a0 : Array Value) (hw : ∀ d ∈ tables_1, d.before a0 Z = true) (n0 : Nat) (h0 : Heap) (a1 : Addr) :
    Ct l Z (⟨"java/lang/Record", "<init>", "()V"⟩ : MethodName) jdk_30_method_1_code 1 none ({ frames := 1, cells := 0, slots := 0, locals := 12 } : Room) EL1 n0 true [] #[(.ref a1)] h0 [] (fun v h N => h0 = h ∧ v = none) := by
  refine Ct.of (a0 := a0) (plainFor_of_name pn_java_lang_Record) (own_ew hw) (L0 := #[.val (.ref a1)]) (fun _ => rfl) ?_
  refine Go.aloadN (pc' := 1) dj30m1_0 rfl rfl rfl ?_
  refine Go.initO (pc' := 4) (a1 := a0) dj30m1_1 (wd hw 43 rfl) (wd hw 44 rfl) (wd hw 45 rfl) rfl (by decide) 0 rfl (by decide) rfl ?_
  refine Go.ret0 rfl [] sl0 dj30m1_4 (by decide) (by decide) ?_
  exact ⟨rfl, rfl⟩
theorem pn_dev_typewright_dart_DartForm : plainName "dev/typewright/dart/DartForm" = true := by first | (simp [plainName, overriddenIn]; done) | decide +kernel
theorem dp38m9_0 : decode prog_38_method_9_code 0 = .ok (.iload_n 1, 1) := by decide +kernel
theorem dp38m9_1 : decode prog_38_method_9_code 1 = .ok (.ifCond .eq 25, 3) := by decide +kernel
theorem dp38m9_26 : decode prog_38_method_9_code 26 = .ok (.aload_n 0, 1) := by decide +kernel
theorem dp38m9_27 : decode prog_38_method_9_code 27 = .ok (.areturn, 1) := by decide +kernel
theorem ct_nul0 (l : Launch) (Z : State) (a0 : Array Value) (hw : ∀ d ∈ tables_1, d.before a0 Z = true) (n0 : Nat) (h0 : Heap) (s1 : Addr) :
    Ct l Z (⟨"dev/typewright/dart/DartForm", "nullable", "(Ljava/lang/String;Z)Ljava/lang/String;"⟩ : MethodName) prog_38_method_9_code 2 (some (.object "java/lang/String")) ({ frames := 0, cells := 0, slots := 0, locals := 0 } : Room) EL1 n0 true [] #[(.ref s1), (.int (0 : Int32))] h0 [] (fun v h N => h0 = h ∧ v = some (.ref s1)) := by
  refine Ct.of (a0 := a0) (plainFor_of_name pn_dev_typewright_dart_DartForm) (own_ew hw) (L0 := #[.val (.ref s1), .val (.int (0 : Int32))]) (fun _ => rfl) ?_
  refine Go.iloadN (pc' := 1) dp38m9_0 rfl rfl ?_
  refine Go.ifT (pc' := 26) dp38m9_1 (show (0 : Int32) = (0 : Int32) by decide) (by decide) (by decide) ?_
  refine Go.aloadN (pc' := 27) dp38m9_26 rfl rfl rfl ?_
  refine Go.retA rfl rfl rfl [] sl0 dp38m9_27 (by decide) (by decide) ?_
  exact ⟨rfl, rfl⟩
theorem dp38m9_4 : decode prog_38_method_9_code 4 = .ok (.new 46, 3) := by decide +kernel
theorem dp38m9_7 : decode prog_38_method_9_code 7 = .ok (.dup, 1) := by decide +kernel
theorem pd_18 : parseMethodDescriptor "()V" = some ⟨[], none⟩ := by decide +kernel
theorem dp38m9_8 : decode prog_38_method_9_code 8 = .ok (.invokespecial 48, 3) := by decide +kernel
theorem dp38m9_11 : decode prog_38_method_9_code 11 = .ok (.aload_n 0, 1) := by decide +kernel
theorem pd_19 : parseMethodDescriptor "(Ljava/lang/String;)Ljava/lang/StringBuilder;" = some ⟨[(.object "java/lang/String")], (some (.object "java/lang/StringBuilder"))⟩ := by decide +kernel
theorem dp38m9_12 : decode prog_38_method_9_code 12 = .ok (.invokevirtual 49, 3) := by decide +kernel
theorem dp38m9_15 : decode prog_38_method_9_code 15 = .ok (.ldc 53, 2) := by decide +kernel
theorem dp38m9_17 : decode prog_38_method_9_code 17 = .ok (.invokevirtual 49, 3) := by decide +kernel
theorem pd_20 : parseMethodDescriptor "()Ljava/lang/String;" = some ⟨[], (some (.object "java/lang/String"))⟩ := by decide +kernel
theorem dp38m9_20 : decode prog_38_method_9_code 20 = .ok (.invokevirtual 55, 3) := by decide +kernel
theorem dp38m9_23 : decode prog_38_method_9_code 23 = .ok (.goto 4, 3) := by decide +kernel
theorem ct_nul1 (l : Launch) (Z : State) (a0 : Array Value) (hw : ∀ d ∈ tables_1, d.before a0 Z = true) (n0 : Nat) (h0 : Heap) (ll : List Int32) (s1 b1 : Addr) (H1 : Str Z h0 s1 b1 ll) (hl : ll.length ≤ 8) (hn0 : n0 ≤ h0.size) (cs : Int32) (S_cs : Sta Z h0 "java/lang/String" "COMPACT_STRINGS" "Z" (.int cs)) (hcs : ¬ cs = 0) :
    Ct l Z (⟨"dev/typewright/dart/DartForm", "nullable", "(Ljava/lang/String;Z)Ljava/lang/String;"⟩ : MethodName) prog_38_method_9_code 2 (some (.object "java/lang/String")) ({ frames := 6, cells := 6, slots := 160, locals := 91 } : Room) EL1 n0 true [] #[(.ref s1), (.int (1 : Int32))] h0 [] (fun v h N => ∃ s b, v = some (.ref s) ∧ h0.size ≤ s ∧ h0.size ≤ b ∧ Keep h0 h [] ∧ Str Z h s b (ll ++ [63])) := by
  refine Ct.of (a0 := a0) (plainFor_of_name pn_dev_typewright_dart_DartForm) (own_ew hw) (L0 := #[.val (.ref s1), .val (.int (1 : Int32))]) (fun _ => rfl) ?_
  have lt_H1 := nlt H1.lt
  have ltb_H1 := nlt H1.ltb
  refine Go.iloadN (pc' := 1) dp38m9_0 rfl rfl ?_
  refine Go.ifF (pc' := 4) dp38m9_1 (show ¬ ((1 : Int32) = (0 : Int32)) by decide) rfl ?_
  refine Go.newO (pc' := 7) (a1 := a0) dp38m9_4 (wd hw 60 rfl) (wd hw 61 rfl) (wd hw 62 rfl) (by decide) (by decide) rfl (fun a_1 h_2 ha_4 E_3 X_5 Df_6 => ?_)
  have szh_2 := nle E_3.1
  have lta_1 := nlt X_5.lt
  have qa_1 := neq ha_4
  have F_7 : Fld Z h_2 a_1 "java/lang/AbstractStringBuilder" "value" "[B" (.null) := Df_6 (Or.inl (wd hw 75 rfl)) (ty := (.array .byte)) (by decide)
  have F_8 : Fld Z h_2 a_1 "java/lang/AbstractStringBuilder" "coder" "B" (.int (0 : Int32)) := Df_6 (Or.inl (wd hw 77 rfl)) (ty := .byte) (by decide)
  have F_9 : Fld Z h_2 a_1 "java/lang/AbstractStringBuilder" "count" "I" (.int (0 : Int32)) := Df_6 (Or.inl (wd hw 102 rfl)) (ty := .int) (by decide)
  refine Go.dup (pc' := 8) dp38m9_7 rfl rfl ?_
  have F_14 := (Sta.ext E_3 S_cs)
  refine Go.callN (a1 := a0) (pc' := 11) (argsL := []) (rest := [(.ref a_1)]) (ct_sbi0 l Z a0 hw n0 h_2 a_1 (by omega) X_5 F_9 F_8 F_7 cs F_14 hcs) dp38m9_8 rfl (wd hw 63 rfl) (wd hw 64 rfl) (wd hw 62 rfl) (wd hw 65 rfl) (by decide) (lenOf pd_18 rfl) rfl 1 rfl rfl (by decide) (by decide) (by decide) (by decide) sl0 rfl (fun v_15 h_16 N_17 hQ_18 hle_19 => ?_)
  obtain ⟨rfl, b_10, rfl, g_11, K_12, F_13⟩ := hQ_18
  have szh_16 := nle K_12.1
  have ltb_10 := nlt F_13.ltb
  have geb_10 := nle g_11
  refine Go.rs [(.ref a_1)] rfl ?_
  refine Go.aloadN (pc' := 12) dp38m9_11 rfl rfl rfl ?_
  have F_23 := (Str.keep (Str.ext H1 E_3) K_12 (ninS (nne (by omega)) nin0) (ninS (nne (by omega)) nin0))
  have F_24 := (sta_keep F_14 K_12 (nsS (Exa.nostat X_5) ns0))
  have F_30 := (Exa.keep X_5 K_12)
  refine Go.callV (a1 := a0) (pc' := 15) (argsL := [(.ref s1)]) (rest := []) (ct_app l Z a0 hw n0 h_16 a_1 s1 b1 b_10 [] ll 16 F_13 F_23 (by simp only [List.length_append, List.length_cons, List.length_nil]; omega) (by decide) (nne (by omega)) (by omega) (by omega) cs F_24 hcs) dp38m9_12 (wd hw 78 rfl) (wd hw 79 rfl) (wd hw 81 rfl) (wd hw 81 rfl) (wd hw 80 rfl) (wd hw 62 rfl) (wd hw 82 rfl) F_30 (by decide) (lenOf pd_19 rfl) rfl 0 rfl rfl (by decide) (by decide) (by decide) (by decide) (sl1 (by simp)) rfl (fun v_25 h_26 N_27 hQ_28 hle_29 => ?_)
  obtain ⟨rfl, K_20, F_21⟩ := hQ_28
  have szh_26 := nle K_20.1
  have F_22 : Sb Z h_26 a_1 b_10 16 ll := F_21
  refine Go.rs [(.ref a_1)] rfl ?_
  refine Go.ldcR (pc' := 17) (a1 := a0) 4 (vs := [.int 63]) (z := 1) dp38m9_15 rfl (wd hw 128 rfl) (own_ws hw) (by decide) (by decide) (by decide) (by decide) rfl (own_ew hw) (List.mem_of_getElem? (i := 3) rfl) ⟨by decide, by decide⟩ (by decide) (by decide) (fun a_31 h_32 b_33 k_34 E_35 X_36 F_37 F_38 A_39 ne_40 => ?_)
  have szh_32 := nle E_35.1
  have lta_31 := nlt X_36.lt
  have ltb_33 := nlt A_39.lt
  have nx_41 := nne2 (ne_40 b_10 (by simp))
  have nx_42 := nne2 (ne_40 a_1 (by simp))
  have T_43 : Str Z h_32 a_31 b_33 [63] := ⟨X_36, F_37, F_38, k_34, A_39⟩
  have F_47 := (Sb.ext F_22 E_35)
  have F_48 := (Sta.ext E_35 (sta_keep F_24 K_20 (nsS (Exa.nostat F_30) (nsS (Sb.nsB F_13) ns0))))
  have F_54 := (Exa.ext E_35 (Exa.keep F_30 K_20))
  refine Go.callV (a1 := a0) (pc' := 20) (argsL := [(.ref a_31)]) (rest := []) (ct_app l Z a0 hw n0 h_32 a_1 a_31 b_33 b_10 ll [63] 16 F_47 T_43 (by simp only [List.length_append, List.length_cons, List.length_nil]; omega) (by decide) (nne (by omega)) (by omega) (by omega) cs F_48 hcs) dp38m9_17 (wd hw 78 rfl) (wd hw 79 rfl) (wd hw 81 rfl) (wd hw 81 rfl) (wd hw 80 rfl) (wd hw 62 rfl) (wd hw 82 rfl) F_54 (by decide) (lenOf pd_19 rfl) rfl 0 rfl rfl (by decide) (by decide) (by decide) (by decide) (sl1 (by simp)) rfl (fun v_49 h_50 N_51 hQ_52 hle_53 => ?_)
  obtain ⟨rfl, K_44, F_45⟩ := hQ_52
  have szh_50 := nle K_44.1
  have F_46 : Sb Z h_50 a_1 b_10 16 (ll ++ [63]) := F_45
  refine Go.rs [(.ref a_1)] rfl ?_
  have F_55 := (sta_keep F_48 K_44 (nsS (Exa.nostat F_54) (nsS (Sb.nsB F_47) ns0)))
  have F_67 := (Exa.keep F_54 K_44)
  refine Go.callV (a1 := a0) (pc' := 23) (argsL := []) (rest := []) (ct_ts l Z a0 hw n0 h_50 a_1 b_10 (ll ++ [63]) 16 F_46 (by simp only [List.length_append, List.length_cons, List.length_nil]; omega) (by decide) (by simp only [List.length_append, List.length_cons, List.length_nil]; omega) (by omega) cs F_55 hcs) dp38m9_20 (wd hw 129 rfl) (wd hw 130 rfl) (wd hw 132 rfl) (wd hw 132 rfl) (wd hw 131 rfl) (wd hw 62 rfl) (wd hw 133 rfl) F_67 (by decide) (lenOf pd_20 rfl) rfl 0 rfl rfl (by decide) (by decide) (by decide) (by decide) sl0 rfl (fun v_62 h_63 N_64 hQ_65 hle_66 => ?_)
  obtain ⟨s_56, b_57, rfl, g_58, g_59, K_60, F_61⟩ := hQ_65
  have szh_63 := nle K_60.1
  have lts_56 := nlt F_61.lt
  have ltb_57 := nlt F_61.ltb
  have ges_56 := nle g_58
  have geb_57 := nle g_59
  refine Go.rs [(.ref s_56)] rfl ?_
  refine Go.goto (pc' := 27) dp38m9_23 (by decide) (by decide) ?_
  refine Go.retA rfl rfl rfl [] sl0 dp38m9_27 (by decide) (by decide) ?_
  exact ⟨s_56, b_57, rfl, by omega, by omega, (Keep.trans (Keep.trans (Keep.ext (Keep.trans (Keep.trans (Keep.ext (Keep.refl _ []) E_3) K_12 (allS (Or.inr (by omega)) all0)) K_20 (allS (Or.inr (by omega)) (allS (Or.inr (by omega)) all0))) E_35) K_44 (allS (Or.inr (by omega)) (allS (Or.inr (by omega)) all0))) K_60 all0), F_61⟩
theorem dp38m11_0 : decode prog_38_method_11_code 0 = .ok (.iload_n 1, 1) := by decide +kernel
theorem dp38m11_1 : decode prog_38_method_11_code 1 = .ok (.ifCond .eq 25, 3) := by decide +kernel
theorem dp38m11_26 : decode prog_38_method_11_code 26 = .ok (.aload_n 0, 1) := by decide +kernel
theorem dp38m11_27 : decode prog_38_method_11_code 27 = .ok (.areturn, 1) := by decide +kernel
theorem ct_rec0 (l : Launch) (Z : State) (a0 : Array Value) (hw : ∀ d ∈ tables_1, d.before a0 Z = true) (n0 : Nat) (h0 : Heap) (s1 : Addr) :
    Ct l Z (⟨"dev/typewright/dart/DartForm", "receiver", "(Ljava/lang/String;Z)Ljava/lang/String;"⟩ : MethodName) prog_38_method_11_code 2 (some (.object "java/lang/String")) ({ frames := 0, cells := 0, slots := 0, locals := 0 } : Room) EL1 n0 true [] #[(.ref s1), (.int (0 : Int32))] h0 [] (fun v h N => h0 = h ∧ v = some (.ref s1)) := by
  refine Ct.of (a0 := a0) (plainFor_of_name pn_dev_typewright_dart_DartForm) (own_ew hw) (L0 := #[.val (.ref s1), .val (.int (0 : Int32))]) (fun _ => rfl) ?_
  refine Go.iloadN (pc' := 1) dp38m11_0 rfl rfl ?_
  refine Go.ifT (pc' := 26) dp38m11_1 (show (0 : Int32) = (0 : Int32) by decide) (by decide) (by decide) ?_
  refine Go.aloadN (pc' := 27) dp38m11_26 rfl rfl rfl ?_
  refine Go.retA rfl rfl rfl [] sl0 dp38m11_27 (by decide) (by decide) ?_
  exact ⟨rfl, rfl⟩
theorem dp38m11_4 : decode prog_38_method_11_code 4 = .ok (.new 46, 3) := by decide +kernel
theorem dp38m11_7 : decode prog_38_method_11_code 7 = .ok (.dup, 1) := by decide +kernel
theorem dp38m11_8 : decode prog_38_method_11_code 8 = .ok (.invokespecial 48, 3) := by decide +kernel
theorem dp38m11_11 : decode prog_38_method_11_code 11 = .ok (.aload_n 0, 1) := by decide +kernel
theorem dp38m11_12 : decode prog_38_method_11_code 12 = .ok (.invokevirtual 49, 3) := by decide +kernel
theorem dp38m11_15 : decode prog_38_method_11_code 15 = .ok (.ldc 53, 2) := by decide +kernel
theorem dp38m11_17 : decode prog_38_method_11_code 17 = .ok (.invokevirtual 49, 3) := by decide +kernel
theorem dp38m11_20 : decode prog_38_method_11_code 20 = .ok (.invokevirtual 55, 3) := by decide +kernel
theorem dp38m11_23 : decode prog_38_method_11_code 23 = .ok (.goto 4, 3) := by decide +kernel
theorem ct_rec1 (l : Launch) (Z : State) (a0 : Array Value) (hw : ∀ d ∈ tables_1, d.before a0 Z = true) (n0 : Nat) (h0 : Heap) (ll : List Int32) (s1 b1 : Addr) (H1 : Str Z h0 s1 b1 ll) (hl : ll.length ≤ 8) (hn0 : n0 ≤ h0.size) (cs : Int32) (S_cs : Sta Z h0 "java/lang/String" "COMPACT_STRINGS" "Z" (.int cs)) (hcs : ¬ cs = 0) :
    Ct l Z (⟨"dev/typewright/dart/DartForm", "receiver", "(Ljava/lang/String;Z)Ljava/lang/String;"⟩ : MethodName) prog_38_method_11_code 2 (some (.object "java/lang/String")) ({ frames := 6, cells := 6, slots := 160, locals := 91 } : Room) EL1 n0 true [] #[(.ref s1), (.int (1 : Int32))] h0 [] (fun v h N => ∃ s b, v = some (.ref s) ∧ h0.size ≤ s ∧ h0.size ≤ b ∧ Keep h0 h [] ∧ Str Z h s b (ll ++ [63])) := by
  refine Ct.of (a0 := a0) (plainFor_of_name pn_dev_typewright_dart_DartForm) (own_ew hw) (L0 := #[.val (.ref s1), .val (.int (1 : Int32))]) (fun _ => rfl) ?_
  have lt_H1 := nlt H1.lt
  have ltb_H1 := nlt H1.ltb
  refine Go.iloadN (pc' := 1) dp38m11_0 rfl rfl ?_
  refine Go.ifF (pc' := 4) dp38m11_1 (show ¬ ((1 : Int32) = (0 : Int32)) by decide) rfl ?_
  refine Go.newO (pc' := 7) (a1 := a0) dp38m11_4 (wd hw 60 rfl) (wd hw 61 rfl) (wd hw 62 rfl) (by decide) (by decide) rfl (fun a_1 h_2 ha_4 E_3 X_5 Df_6 => ?_)
  have szh_2 := nle E_3.1
  have lta_1 := nlt X_5.lt
  have qa_1 := neq ha_4
  have F_7 : Fld Z h_2 a_1 "java/lang/AbstractStringBuilder" "value" "[B" (.null) := Df_6 (Or.inl (wd hw 75 rfl)) (ty := (.array .byte)) (by decide)
  have F_8 : Fld Z h_2 a_1 "java/lang/AbstractStringBuilder" "coder" "B" (.int (0 : Int32)) := Df_6 (Or.inl (wd hw 77 rfl)) (ty := .byte) (by decide)
  have F_9 : Fld Z h_2 a_1 "java/lang/AbstractStringBuilder" "count" "I" (.int (0 : Int32)) := Df_6 (Or.inl (wd hw 102 rfl)) (ty := .int) (by decide)
  refine Go.dup (pc' := 8) dp38m11_7 rfl rfl ?_
  have F_14 := (Sta.ext E_3 S_cs)
  refine Go.callN (a1 := a0) (pc' := 11) (argsL := []) (rest := [(.ref a_1)]) (ct_sbi0 l Z a0 hw n0 h_2 a_1 (by omega) X_5 F_9 F_8 F_7 cs F_14 hcs) dp38m11_8 rfl (wd hw 63 rfl) (wd hw 64 rfl) (wd hw 62 rfl) (wd hw 65 rfl) (by decide) (lenOf pd_18 rfl) rfl 1 rfl rfl (by decide) (by decide) (by decide) (by decide) sl0 rfl (fun v_15 h_16 N_17 hQ_18 hle_19 => ?_)
  obtain ⟨rfl, b_10, rfl, g_11, K_12, F_13⟩ := hQ_18
  have szh_16 := nle K_12.1
  have ltb_10 := nlt F_13.ltb
  have geb_10 := nle g_11
  refine Go.rs [(.ref a_1)] rfl ?_
  refine Go.aloadN (pc' := 12) dp38m11_11 rfl rfl rfl ?_
  have F_23 := (Str.keep (Str.ext H1 E_3) K_12 (ninS (nne (by omega)) nin0) (ninS (nne (by omega)) nin0))
  have F_24 := (sta_keep F_14 K_12 (nsS (Exa.nostat X_5) ns0))
  have F_30 := (Exa.keep X_5 K_12)
  refine Go.callV (a1 := a0) (pc' := 15) (argsL := [(.ref s1)]) (rest := []) (ct_app l Z a0 hw n0 h_16 a_1 s1 b1 b_10 [] ll 16 F_13 F_23 (by simp only [List.length_append, List.length_cons, List.length_nil]; omega) (by decide) (nne (by omega)) (by omega) (by omega) cs F_24 hcs) dp38m11_12 (wd hw 78 rfl) (wd hw 79 rfl) (wd hw 81 rfl) (wd hw 81 rfl) (wd hw 80 rfl) (wd hw 62 rfl) (wd hw 82 rfl) F_30 (by decide) (lenOf pd_19 rfl) rfl 0 rfl rfl (by decide) (by decide) (by decide) (by decide) (sl1 (by simp)) rfl (fun v_25 h_26 N_27 hQ_28 hle_29 => ?_)
  obtain ⟨rfl, K_20, F_21⟩ := hQ_28
  have szh_26 := nle K_20.1
  have F_22 : Sb Z h_26 a_1 b_10 16 ll := F_21
  refine Go.rs [(.ref a_1)] rfl ?_
  refine Go.ldcR (pc' := 17) (a1 := a0) 4 (vs := [.int 63]) (z := 1) dp38m11_15 rfl (wd hw 128 rfl) (own_ws hw) (by decide) (by decide) (by decide) (by decide) rfl (own_ew hw) (List.mem_of_getElem? (i := 3) rfl) ⟨by decide, by decide⟩ (by decide) (by decide) (fun a_31 h_32 b_33 k_34 E_35 X_36 F_37 F_38 A_39 ne_40 => ?_)
  have szh_32 := nle E_35.1
  have lta_31 := nlt X_36.lt
  have ltb_33 := nlt A_39.lt
  have nx_41 := nne2 (ne_40 b_10 (by simp))
  have nx_42 := nne2 (ne_40 a_1 (by simp))
  have T_43 : Str Z h_32 a_31 b_33 [63] := ⟨X_36, F_37, F_38, k_34, A_39⟩
  have F_47 := (Sb.ext F_22 E_35)
  have F_48 := (Sta.ext E_35 (sta_keep F_24 K_20 (nsS (Exa.nostat F_30) (nsS (Sb.nsB F_13) ns0))))
  have F_54 := (Exa.ext E_35 (Exa.keep F_30 K_20))
  refine Go.callV (a1 := a0) (pc' := 20) (argsL := [(.ref a_31)]) (rest := []) (ct_app l Z a0 hw n0 h_32 a_1 a_31 b_33 b_10 ll [63] 16 F_47 T_43 (by simp only [List.length_append, List.length_cons, List.length_nil]; omega) (by decide) (nne (by omega)) (by omega) (by omega) cs F_48 hcs) dp38m11_17 (wd hw 78 rfl) (wd hw 79 rfl) (wd hw 81 rfl) (wd hw 81 rfl) (wd hw 80 rfl) (wd hw 62 rfl) (wd hw 82 rfl) F_54 (by decide) (lenOf pd_19 rfl) rfl 0 rfl rfl (by decide) (by decide) (by decide) (by decide) (sl1 (by simp)) rfl (fun v_49 h_50 N_51 hQ_52 hle_53 => ?_)
  obtain ⟨rfl, K_44, F_45⟩ := hQ_52
  have szh_50 := nle K_44.1
  have F_46 : Sb Z h_50 a_1 b_10 16 (ll ++ [63]) := F_45
  refine Go.rs [(.ref a_1)] rfl ?_
  have F_55 := (sta_keep F_48 K_44 (nsS (Exa.nostat F_54) (nsS (Sb.nsB F_47) ns0)))
  have F_67 := (Exa.keep F_54 K_44)
  refine Go.callV (a1 := a0) (pc' := 23) (argsL := []) (rest := []) (ct_ts l Z a0 hw n0 h_50 a_1 b_10 (ll ++ [63]) 16 F_46 (by simp only [List.length_append, List.length_cons, List.length_nil]; omega) (by decide) (by simp only [List.length_append, List.length_cons, List.length_nil]; omega) (by omega) cs F_55 hcs) dp38m11_20 (wd hw 129 rfl) (wd hw 130 rfl) (wd hw 132 rfl) (wd hw 132 rfl) (wd hw 131 rfl) (wd hw 62 rfl) (wd hw 133 rfl) F_67 (by decide) (lenOf pd_20 rfl) rfl 0 rfl rfl (by decide) (by decide) (by decide) (by decide) sl0 rfl (fun v_62 h_63 N_64 hQ_65 hle_66 => ?_)
  obtain ⟨s_56, b_57, rfl, g_58, g_59, K_60, F_61⟩ := hQ_65
  have szh_63 := nle K_60.1
  have lts_56 := nlt F_61.lt
  have ltb_57 := nlt F_61.ltb
  have ges_56 := nle g_58
  have geb_57 := nle g_59
  refine Go.rs [(.ref s_56)] rfl ?_
  refine Go.goto (pc' := 27) dp38m11_23 (by decide) (by decide) ?_
  refine Go.retA rfl rfl rfl [] sl0 dp38m11_27 (by decide) (by decide) ?_
  exact ⟨s_56, b_57, rfl, by omega, by omega, (Keep.trans (Keep.trans (Keep.ext (Keep.trans (Keep.trans (Keep.ext (Keep.refl _ []) E_3) K_12 (allS (Or.inr (by omega)) all0)) K_20 (allS (Or.inr (by omega)) (allS (Or.inr (by omega)) all0))) E_35) K_44 (allS (Or.inr (by omega)) (allS (Or.inr (by omega)) all0))) K_60 all0), F_61⟩
theorem pn_dev_typewright_dart_DartForm_PlainForm : plainName "dev/typewright/dart/DartForm$PlainForm" = true := by first | (simp [plainName, overriddenIn]; done) | decide +kernel
theorem dp47m1_0 : decode prog_47_method_1_code 0 = .ok (.aload_n 0, 1) := by decide +kernel
theorem dp47m1_1 : decode prog_47_method_1_code 1 = .ok (.invokespecial 1, 3) := by decide +kernel
theorem dp47m1_4 : decode prog_47_method_1_code 4 = .ok (.aload_n 0, 1) := by decide +kernel
theorem dp47m1_5 : decode prog_47_method_1_code 5 = .ok (.aload_n 1, 1) := by decide +kernel
theorem dp47m1_6 : decode prog_47_method_1_code 6 = .ok (.putfield 7, 3) := by decide +kernel
theorem dp47m1_9 : decode prog_47_method_1_code 9 = .ok (.return_, 1) := by decide +kernel
theorem ct_pi (l : Launch) (Z : State) (a0 : Array Value) (hw : ∀ d ∈ tables_1, d.before a0 Z = true) (n0 : Nat) (h0 : Heap) (a1 s : Addr) (ha : n0 ≤ a1) (E1 : Exa Z h0 a1 "dev/typewright/dart/DartForm$PlainForm") (G1 : Fld Z h0 a1 "dev/typewright/dart/DartForm$PlainForm" "name" "Ljava/lang/String;" .null) :
    Ct l Z (⟨"dev/typewright/dart/DartForm$PlainForm", "<init>", "(Ljava/lang/String;)V"⟩ : MethodName) prog_47_method_1_code 2 none ({ frames := 2, cells := 0, slots := 0, locals := 24 } : Room) EL1 n0 true [] #[(.ref a1), (.ref s)] h0 [] (fun v h N => v = none ∧ Keep h0 h [a1] ∧ Fld Z h a1 "dev/typewright/dart/DartForm$PlainForm" "name" "Ljava/lang/String;" (.ref s)) := by
  refine Ct.of (a0 := a0) (plainFor_of_name pn_dev_typewright_dart_DartForm_PlainForm) (own_ew hw) (L0 := #[.val (.ref a1), .val (.ref s)]) (fun _ => rfl) ?_
  have l0_E1 := nlt E1.lt
  refine Go.aloadN (pc' := 1) dp47m1_0 rfl rfl rfl ?_
  refine Go.callN (a1 := a0) (pc' := 4) (argsL := []) (rest := []) (ct_record l Z a0 hw n0 h0 a1) dp47m1_1 rfl (wd hw 38 rfl) (wd hw 39 rfl) (wd hw 41 rfl) (wd hw 42 rfl) (by decide) (lenOf pd_18 rfl) rfl 0 rfl rfl (by decide) (by decide) (by decide) (by decide) sl0 rfl (fun v_1 h_2 N_3 hQ_4 hle_5 => ?_)
  obtain ⟨rfl, rfl⟩ := hQ_4
  refine Go.rs [] rfl ?_
  refine Go.aloadN (pc' := 5) dp47m1_4 rfl rfl rfl ?_
  refine Go.aloadN (pc' := 6) dp47m1_5 rfl rfl rfl ?_
  refine Go.putF (pc' := 9) (host := "") (a1 := a0) dp47m1_6 (Or.inl (wd hw 46 rfl)) Via.refl G1 E1 (Or.inr ⟨(wd hw 47 rfl), rfl, rfl⟩) (wd hw 25 rfl) (ty := (.object "java/lang/String")) (by decide) rfl rfl (Sf.exa E1 (by decide) (by decide)) (by omega) rfl (fun h_6 W_7 => ?_)
  have szh_6 : h_6.size = h0.size := Wr.size W_7
  have F_8 : Fld Z h_6 a1 "dev/typewright/dart/DartForm$PlainForm" "name" "Ljava/lang/String;" (.ref s) := Fld.same W_7 G1
  refine Go.ret0 rfl [] sl0 dp47m1_9 (by decide) (by decide) ?_
  exact ⟨rfl, (Keep.wr (Keep.refl _ [a1]) W_7 (Or.inl (by simp))), F_8⟩
theorem pn_dev_typewright_dart_DartForm_DoubleForm : plainName "dev/typewright/dart/DartForm$DoubleForm" = true := by first | (simp [plainName, overriddenIn]; done) | decide +kernel
theorem dp44m1_0 : decode prog_44_method_1_code 0 = .ok (.aload_n 0, 1) := by decide +kernel
theorem dp44m1_1 : decode prog_44_method_1_code 1 = .ok (.invokespecial 1, 3) := by decide +kernel
theorem dp44m1_4 : decode prog_44_method_1_code 4 = .ok (.return_, 1) := by decide +kernel
theorem ct_di (l : Launch) (Z : State) (a0 : Array Value) (hw : ∀ d ∈ tables_1, d.before a0 Z = true) (n0 : Nat) (h0 : Heap) (a1 : Addr) :
    Ct l Z (⟨"dev/typewright/dart/DartForm$DoubleForm", "<init>", "()V"⟩ : MethodName) prog_44_method_1_code 1 none ({ frames := 2, cells := 0, slots := 0, locals := 24 } : Room) EL1 n0 true [] #[(.ref a1)] h0 [] (fun v h N => h0 = h ∧ v = none) := by
  refine Ct.of (a0 := a0) (plainFor_of_name pn_dev_typewright_dart_DartForm_DoubleForm) (own_ew hw) (L0 := #[.val (.ref a1)]) (fun _ => rfl) ?_
  refine Go.aloadN (pc' := 1) dp44m1_0 rfl rfl rfl ?_
  refine Go.callN (a1 := a0) (pc' := 4) (argsL := []) (rest := []) (ct_record l Z a0 hw n0 h0 a1) dp44m1_1 rfl (wd hw 260 rfl) (wd hw 39 rfl) (wd hw 41 rfl) (wd hw 42 rfl) (by decide) (lenOf pd_18 rfl) rfl 0 rfl rfl (by decide) (by decide) (by decide) (by decide) sl0 rfl (fun v_1 h_2 N_3 hQ_4 hle_5 => ?_)
  obtain ⟨rfl, rfl⟩ := hQ_4
  refine Go.rs [] rfl ?_
  refine Go.ret0 rfl [] sl0 dp44m1_4 (by decide) (by decide) ?_
  exact ⟨rfl, rfl⟩
theorem pn_dev_typewright_dart_DartForm_DateTimeForm : plainName "dev/typewright/dart/DartForm$DateTimeForm" = true := by first | (simp [plainName, overriddenIn]; done) | decide +kernel
theorem dp42m1_0 : decode prog_42_method_1_code 0 = .ok (.aload_n 0, 1) := by decide +kernel
theorem dp42m1_1 : decode prog_42_method_1_code 1 = .ok (.invokespecial 1, 3) := by decide +kernel
theorem dp42m1_4 : decode prog_42_method_1_code 4 = .ok (.aload_n 0, 1) := by decide +kernel
theorem dp42m1_5 : decode prog_42_method_1_code 5 = .ok (.iload_n 1, 1) := by decide +kernel
theorem dp42m1_6 : decode prog_42_method_1_code 6 = .ok (.putfield 7, 3) := by decide +kernel
theorem dp42m1_9 : decode prog_42_method_1_code 9 = .ok (.return_, 1) := by decide +kernel
theorem ct_ti0 (l : Launch) (Z : State) (a0 : Array Value) (hw : ∀ d ∈ tables_1, d.before a0 Z = true) (n0 : Nat) (h0 : Heap) (a1 : Addr) (ha : n0 ≤ a1) (E1 : Exa Z h0 a1 "dev/typewright/dart/DartForm$DateTimeForm") (G1 : Fld Z h0 a1 "dev/typewright/dart/DartForm$DateTimeForm" "dateOnly" "Z" (.int (0 : Int32))) :
    Ct l Z (⟨"dev/typewright/dart/DartForm$DateTimeForm", "<init>", "(Z)V"⟩ : MethodName) prog_42_method_1_code 2 none ({ frames := 2, cells := 0, slots := 0, locals := 24 } : Room) EL1 n0 true [] #[(.ref a1), (.int (0 : Int32))] h0 [] (fun v h N => v = none ∧ Keep h0 h [a1] ∧ Fld Z h a1 "dev/typewright/dart/DartForm$DateTimeForm" "dateOnly" "Z" (.int (0 : Int32))) := by
  refine Ct.of (a0 := a0) (plainFor_of_name pn_dev_typewright_dart_DartForm_DateTimeForm) (own_ew hw) (L0 := #[.val (.ref a1), .val (.int (0 : Int32))]) (fun _ => rfl) ?_
  have l0_E1 := nlt E1.lt
  refine Go.aloadN (pc' := 1) dp42m1_0 rfl rfl rfl ?_
  refine Go.callN (a1 := a0) (pc' := 4) (argsL := []) (rest := []) (ct_record l Z a0 hw n0 h0 a1) dp42m1_1 rfl (wd hw 326 rfl) (wd hw 39 rfl) (wd hw 41 rfl) (wd hw 42 rfl) (by decide) (lenOf pd_18 rfl) rfl 0 rfl rfl (by decide) (by decide) (by decide) (by decide) sl0 rfl (fun v_1 h_2 N_3 hQ_4 hle_5 => ?_)
  obtain ⟨rfl, rfl⟩ := hQ_4
  refine Go.rs [] rfl ?_
  refine Go.aloadN (pc' := 5) dp42m1_4 rfl rfl rfl ?_
  refine Go.iloadN (pc' := 6) dp42m1_5 rfl rfl ?_
  refine Go.putF (pc' := 9) (host := "") (a1 := a0) dp42m1_6 (Or.inl (wd hw 327 rfl)) Via.refl G1 E1 (Or.inr ⟨(wd hw 328 rfl), rfl, rfl⟩) (wd hw 321 rfl) (ty := .boolean) (by decide) rfl rfl (Sf.exa E1 (by decide) (by decide)) (by omega) rfl (fun h_6 W_7 => ?_)
  have szh_6 : h_6.size = h0.size := Wr.size W_7
  have F_8 : Fld Z h_6 a1 "dev/typewright/dart/DartForm$DateTimeForm" "dateOnly" "Z" (.int (0 : Int32)) := Fld.same W_7 G1
  refine Go.ret0 rfl [] sl0 dp42m1_9 (by decide) (by decide) ?_
  exact ⟨rfl, (Keep.wr (Keep.refl _ [a1]) W_7 (Or.inl (by simp))), F_8⟩
theorem ct_ti1 (l : Launch) (Z : State) (a0 : Array Value) (hw : ∀ d ∈ tables_1, d.before a0 Z = true) (n0 : Nat) (h0 : Heap) (a1 : Addr) (ha : n0 ≤ a1) (E1 : Exa Z h0 a1 "dev/typewright/dart/DartForm$DateTimeForm") (G1 : Fld Z h0 a1 "dev/typewright/dart/DartForm$DateTimeForm" "dateOnly" "Z" (.int (0 : Int32))) :
    Ct l Z (⟨"dev/typewright/dart/DartForm$DateTimeForm", "<init>", "(Z)V"⟩ : MethodName) prog_42_method_1_code 2 none ({ frames := 2, cells := 0, slots := 0, locals := 24 } : Room) EL1 n0 true [] #[(.ref a1), (.int (1 : Int32))] h0 [] (fun v h N => v = none ∧ Keep h0 h [a1] ∧ Fld Z h a1 "dev/typewright/dart/DartForm$DateTimeForm" "dateOnly" "Z" (.int (1 : Int32))) := by
  refine Ct.of (a0 := a0) (plainFor_of_name pn_dev_typewright_dart_DartForm_DateTimeForm) (own_ew hw) (L0 := #[.val (.ref a1), .val (.int (1 : Int32))]) (fun _ => rfl) ?_
  have l0_E1 := nlt E1.lt
  refine Go.aloadN (pc' := 1) dp42m1_0 rfl rfl rfl ?_
  refine Go.callN (a1 := a0) (pc' := 4) (argsL := []) (rest := []) (ct_record l Z a0 hw n0 h0 a1) dp42m1_1 rfl (wd hw 326 rfl) (wd hw 39 rfl) (wd hw 41 rfl) (wd hw 42 rfl) (by decide) (lenOf pd_18 rfl) rfl 0 rfl rfl (by decide) (by decide) (by decide) (by decide) sl0 rfl (fun v_1 h_2 N_3 hQ_4 hle_5 => ?_)
  obtain ⟨rfl, rfl⟩ := hQ_4
  refine Go.rs [] rfl ?_
  refine Go.aloadN (pc' := 5) dp42m1_4 rfl rfl rfl ?_
  refine Go.iloadN (pc' := 6) dp42m1_5 rfl rfl ?_
  refine Go.putF (pc' := 9) (host := "") (a1 := a0) dp42m1_6 (Or.inl (wd hw 327 rfl)) Via.refl G1 E1 (Or.inr ⟨(wd hw 328 rfl), rfl, rfl⟩) (wd hw 321 rfl) (ty := .boolean) (by decide) rfl rfl (Sf.exa E1 (by decide) (by decide)) (by omega) rfl (fun h_6 W_7 => ?_)
  have szh_6 : h_6.size = h0.size := Wr.size W_7
  have F_8 : Fld Z h_6 a1 "dev/typewright/dart/DartForm$DateTimeForm" "dateOnly" "Z" (.int (1 : Int32)) := Fld.same W_7 G1
  refine Go.ret0 rfl [] sl0 dp42m1_9 (by decide) (by decide) ?_
  exact ⟨rfl, (Keep.wr (Keep.refl _ [a1]) W_7 (Or.inl (by simp))), F_8⟩
theorem pn_dev_typewright_dart_DartFormOfPinLaw : plainName "dev/typewright/dart/DartFormOfPinLaw" = true := by first | (simp [plainName, overriddenIn]; done) | decide +kernel
theorem dm3_0 : decode method_3_code 0 = .ok (.iload_n 0, 1) := by decide +kernel
theorem dm3_1 : decode method_3_code 1 = .ok (.ifCond .ne 7, 3) := by decide +kernel
theorem dm3_4 : decode method_3_code 4 = .ok (.getstatic 66, 3) := by decide +kernel
theorem dm3_7 : decode method_3_code 7 = .ok (.areturn, 1) := by decide +kernel
theorem ct_sc0 (l : Launch) (Z : State) (a0 : Array Value) (hw : ∀ d ∈ tables_1, d.before a0 Z = true) (n0 : Nat) (h0 : Heap) (o : Addr) (S_o : Sta Z h0 "dev/typewright/core/ScalarType" "INTEGER" "Ldev/typewright/core/ScalarType;" (.ref o)) :
    Ct l Z (⟨"dev/typewright/dart/DartFormOfPinLaw", "scalar", "(I)Ldev/typewright/core/ScalarType;"⟩ : MethodName) method_3_code 1 (some (.object "dev/typewright/core/ScalarType")) ({ frames := 0, cells := 0, slots := 0, locals := 0 } : Room) EL1 n0 true [] #[(.int (0 : Int32))] h0 [] (fun v h N => h0 = h ∧ v = some (.ref o)) := by
  refine Ct.of (a0 := a0) (plainFor_of_name pn_dev_typewright_dart_DartFormOfPinLaw) (own_ew hw) (L0 := #[.val (.int (0 : Int32))]) (fun _ => rfl) ?_
  refine Go.iloadN (pc' := 1) dm3_0 rfl rfl ?_
  refine Go.ifF (pc' := 4) dm3_1 (show (0 : Int32) = (0 : Int32) by decide) rfl ?_
  refine Go.getS (pc' := 7) (host := "") (a1 := a0) dm3_4 (Or.inl (wd hw 5 rfl)) Via.refl S_o rfl ?_
  refine Go.retA rfl rfl rfl [] sl0 dm3_7 (by decide) (by decide) ?_
  exact ⟨rfl, rfl⟩
theorem dm3_8 : decode method_3_code 8 = .ok (.iload_n 0, 1) := by decide +kernel
theorem dm3_9 : decode method_3_code 9 = .ok (.iconst 1, 1) := by decide +kernel
theorem dm3_10 : decode method_3_code 10 = .ok (.if_icmp .ne 7, 3) := by decide +kernel
theorem dm3_13 : decode method_3_code 13 = .ok (.getstatic 72, 3) := by decide +kernel
theorem dm3_16 : decode method_3_code 16 = .ok (.areturn, 1) := by decide +kernel
theorem ct_sc1 (l : Launch) (Z : State) (a0 : Array Value) (hw : ∀ d ∈ tables_1, d.before a0 Z = true) (n0 : Nat) (h0 : Heap) (o : Addr) (S_o : Sta Z h0 "dev/typewright/core/ScalarType" "NUMBER" "Ldev/typewright/core/ScalarType;" (.ref o)) :
    Ct l Z (⟨"dev/typewright/dart/DartFormOfPinLaw", "scalar", "(I)Ldev/typewright/core/ScalarType;"⟩ : MethodName) method_3_code 1 (some (.object "dev/typewright/core/ScalarType")) ({ frames := 0, cells := 0, slots := 0, locals := 0 } : Room) EL1 n0 true [] #[(.int (1 : Int32))] h0 [] (fun v h N => h0 = h ∧ v = some (.ref o)) := by
  refine Ct.of (a0 := a0) (plainFor_of_name pn_dev_typewright_dart_DartFormOfPinLaw) (own_ew hw) (L0 := #[.val (.int (1 : Int32))]) (fun _ => rfl) ?_
  refine Go.iloadN (pc' := 1) dm3_0 rfl rfl ?_
  refine Go.ifT (pc' := 8) dm3_1 (show ¬ ((1 : Int32) = (0 : Int32)) by decide) (by decide) (by decide) ?_
  refine Go.iloadN (pc' := 9) dm3_8 rfl rfl ?_
  refine Go.iconst (pc' := 10) 1 dm3_9 rfl rfl ?_
  refine Go.icmpF (pc' := 13) dm3_10 (show (1 : Int32) = (1 : Int32) by decide) rfl ?_
  refine Go.getS (pc' := 16) (host := "") (a1 := a0) dm3_13 (Or.inl (wd hw 252 rfl)) Via.refl S_o rfl ?_
  refine Go.retA rfl rfl rfl [] sl0 dm3_16 (by decide) (by decide) ?_
  exact ⟨rfl, rfl⟩
theorem dm3_17 : decode method_3_code 17 = .ok (.iload_n 0, 1) := by decide +kernel
theorem dm3_18 : decode method_3_code 18 = .ok (.iconst 2, 1) := by decide +kernel
theorem dm3_19 : decode method_3_code 19 = .ok (.if_icmp .ne 7, 3) := by decide +kernel
theorem dm3_22 : decode method_3_code 22 = .ok (.getstatic 75, 3) := by decide +kernel
theorem dm3_25 : decode method_3_code 25 = .ok (.areturn, 1) := by decide +kernel
theorem ct_sc2 (l : Launch) (Z : State) (a0 : Array Value) (hw : ∀ d ∈ tables_1, d.before a0 Z = true) (n0 : Nat) (h0 : Heap) (o : Addr) (S_o : Sta Z h0 "dev/typewright/core/ScalarType" "STRING" "Ldev/typewright/core/ScalarType;" (.ref o)) :
    Ct l Z (⟨"dev/typewright/dart/DartFormOfPinLaw", "scalar", "(I)Ldev/typewright/core/ScalarType;"⟩ : MethodName) method_3_code 1 (some (.object "dev/typewright/core/ScalarType")) ({ frames := 0, cells := 0, slots := 0, locals := 0 } : Room) EL1 n0 true [] #[(.int (2 : Int32))] h0 [] (fun v h N => h0 = h ∧ v = some (.ref o)) := by
  refine Ct.of (a0 := a0) (plainFor_of_name pn_dev_typewright_dart_DartFormOfPinLaw) (own_ew hw) (L0 := #[.val (.int (2 : Int32))]) (fun _ => rfl) ?_
  refine Go.iloadN (pc' := 1) dm3_0 rfl rfl ?_
  refine Go.ifT (pc' := 8) dm3_1 (show ¬ ((2 : Int32) = (0 : Int32)) by decide) (by decide) (by decide) ?_
  refine Go.iloadN (pc' := 9) dm3_8 rfl rfl ?_
  refine Go.iconst (pc' := 10) 1 dm3_9 rfl rfl ?_
  refine Go.icmpT (pc' := 17) dm3_10 (show ¬ ((2 : Int32) = (1 : Int32)) by decide) (by decide) (by decide) ?_
  refine Go.iloadN (pc' := 18) dm3_17 rfl rfl ?_
  refine Go.iconst (pc' := 19) 2 dm3_18 rfl rfl ?_
  refine Go.icmpF (pc' := 22) dm3_19 (show (2 : Int32) = (2 : Int32) by decide) rfl ?_
  refine Go.getS (pc' := 25) (host := "") (a1 := a0) dm3_22 (Or.inl (wd hw 397 rfl)) Via.refl S_o rfl ?_
  refine Go.retA rfl rfl rfl [] sl0 dm3_25 (by decide) (by decide) ?_
  exact ⟨rfl, rfl⟩
theorem dm3_26 : decode method_3_code 26 = .ok (.iload_n 0, 1) := by decide +kernel
theorem dm3_27 : decode method_3_code 27 = .ok (.iconst 3, 1) := by decide +kernel
theorem dm3_28 : decode method_3_code 28 = .ok (.if_icmp .ne 7, 3) := by decide +kernel
theorem dm3_31 : decode method_3_code 31 = .ok (.getstatic 78, 3) := by decide +kernel
theorem dm3_34 : decode method_3_code 34 = .ok (.areturn, 1) := by decide +kernel
theorem ct_sc3 (l : Launch) (Z : State) (a0 : Array Value) (hw : ∀ d ∈ tables_1, d.before a0 Z = true) (n0 : Nat) (h0 : Heap) (o : Addr) (S_o : Sta Z h0 "dev/typewright/core/ScalarType" "BOOLEAN" "Ldev/typewright/core/ScalarType;" (.ref o)) :
    Ct l Z (⟨"dev/typewright/dart/DartFormOfPinLaw", "scalar", "(I)Ldev/typewright/core/ScalarType;"⟩ : MethodName) method_3_code 1 (some (.object "dev/typewright/core/ScalarType")) ({ frames := 0, cells := 0, slots := 0, locals := 0 } : Room) EL1 n0 true [] #[(.int (3 : Int32))] h0 [] (fun v h N => h0 = h ∧ v = some (.ref o)) := by
  refine Ct.of (a0 := a0) (plainFor_of_name pn_dev_typewright_dart_DartFormOfPinLaw) (own_ew hw) (L0 := #[.val (.int (3 : Int32))]) (fun _ => rfl) ?_
  refine Go.iloadN (pc' := 1) dm3_0 rfl rfl ?_
  refine Go.ifT (pc' := 8) dm3_1 (show ¬ ((3 : Int32) = (0 : Int32)) by decide) (by decide) (by decide) ?_
  refine Go.iloadN (pc' := 9) dm3_8 rfl rfl ?_
  refine Go.iconst (pc' := 10) 1 dm3_9 rfl rfl ?_
  refine Go.icmpT (pc' := 17) dm3_10 (show ¬ ((3 : Int32) = (1 : Int32)) by decide) (by decide) (by decide) ?_
  refine Go.iloadN (pc' := 18) dm3_17 rfl rfl ?_
  refine Go.iconst (pc' := 19) 2 dm3_18 rfl rfl ?_
  refine Go.icmpT (pc' := 26) dm3_19 (show ¬ ((3 : Int32) = (2 : Int32)) by decide) (by decide) (by decide) ?_
  refine Go.iloadN (pc' := 27) dm3_26 rfl rfl ?_
  refine Go.iconst (pc' := 28) 3 dm3_27 rfl rfl ?_
  refine Go.icmpF (pc' := 31) dm3_28 (show (3 : Int32) = (3 : Int32) by decide) rfl ?_
  refine Go.getS (pc' := 34) (host := "") (a1 := a0) dm3_31 (Or.inl (wd hw 246 rfl)) Via.refl S_o rfl ?_
  refine Go.retA rfl rfl rfl [] sl0 dm3_34 (by decide) (by decide) ?_
  exact ⟨rfl, rfl⟩
theorem dm3_35 : decode method_3_code 35 = .ok (.iload_n 0, 1) := by decide +kernel
theorem dm3_36 : decode method_3_code 36 = .ok (.iconst 4, 1) := by decide +kernel
theorem dm3_37 : decode method_3_code 37 = .ok (.if_icmp .ne 7, 3) := by decide +kernel
theorem dm3_40 : decode method_3_code 40 = .ok (.getstatic 81, 3) := by decide +kernel
theorem dm3_43 : decode method_3_code 43 = .ok (.areturn, 1) := by decide +kernel
theorem ct_sc4 (l : Launch) (Z : State) (a0 : Array Value) (hw : ∀ d ∈ tables_1, d.before a0 Z = true) (n0 : Nat) (h0 : Heap) (o : Addr) (S_o : Sta Z h0 "dev/typewright/core/ScalarType" "DATE" "Ldev/typewright/core/ScalarType;" (.ref o)) :
    Ct l Z (⟨"dev/typewright/dart/DartFormOfPinLaw", "scalar", "(I)Ldev/typewright/core/ScalarType;"⟩ : MethodName) method_3_code 1 (some (.object "dev/typewright/core/ScalarType")) ({ frames := 0, cells := 0, slots := 0, locals := 0 } : Room) EL1 n0 true [] #[(.int (4 : Int32))] h0 [] (fun v h N => h0 = h ∧ v = some (.ref o)) := by
  refine Ct.of (a0 := a0) (plainFor_of_name pn_dev_typewright_dart_DartFormOfPinLaw) (own_ew hw) (L0 := #[.val (.int (4 : Int32))]) (fun _ => rfl) ?_
  refine Go.iloadN (pc' := 1) dm3_0 rfl rfl ?_
  refine Go.ifT (pc' := 8) dm3_1 (show ¬ ((4 : Int32) = (0 : Int32)) by decide) (by decide) (by decide) ?_
  refine Go.iloadN (pc' := 9) dm3_8 rfl rfl ?_
  refine Go.iconst (pc' := 10) 1 dm3_9 rfl rfl ?_
  refine Go.icmpT (pc' := 17) dm3_10 (show ¬ ((4 : Int32) = (1 : Int32)) by decide) (by decide) (by decide) ?_
  refine Go.iloadN (pc' := 18) dm3_17 rfl rfl ?_
  refine Go.iconst (pc' := 19) 2 dm3_18 rfl rfl ?_
  refine Go.icmpT (pc' := 26) dm3_19 (show ¬ ((4 : Int32) = (2 : Int32)) by decide) (by decide) (by decide) ?_
  refine Go.iloadN (pc' := 27) dm3_26 rfl rfl ?_
  refine Go.iconst (pc' := 28) 3 dm3_27 rfl rfl ?_
  refine Go.icmpT (pc' := 35) dm3_28 (show ¬ ((4 : Int32) = (3 : Int32)) by decide) (by decide) (by decide) ?_
  refine Go.iloadN (pc' := 36) dm3_35 rfl rfl ?_
  refine Go.iconst (pc' := 37) 4 dm3_36 rfl rfl ?_
  refine Go.icmpF (pc' := 40) dm3_37 (show (4 : Int32) = (4 : Int32) by decide) rfl ?_
  refine Go.getS (pc' := 43) (host := "") (a1 := a0) dm3_40 (Or.inl (wd hw 318 rfl)) Via.refl S_o rfl ?_
  refine Go.retA rfl rfl rfl [] sl0 dm3_43 (by decide) (by decide) ?_
  exact ⟨rfl, rfl⟩
theorem dm3_44 : decode method_3_code 44 = .ok (.iload_n 0, 1) := by decide +kernel
theorem dm3_45 : decode method_3_code 45 = .ok (.iconst 5, 1) := by decide +kernel
theorem dm3_46 : decode method_3_code 46 = .ok (.if_icmp .ne 7, 3) := by decide +kernel
theorem dm3_49 : decode method_3_code 49 = .ok (.getstatic 84, 3) := by decide +kernel
theorem dm3_52 : decode method_3_code 52 = .ok (.areturn, 1) := by decide +kernel
theorem ct_sc5 (l : Launch) (Z : State) (a0 : Array Value) (hw : ∀ d ∈ tables_1, d.before a0 Z = true) (n0 : Nat) (h0 : Heap) (o : Addr) (S_o : Sta Z h0 "dev/typewright/core/ScalarType" "DATE_TIME" "Ldev/typewright/core/ScalarType;" (.ref o)) :
    Ct l Z (⟨"dev/typewright/dart/DartFormOfPinLaw", "scalar", "(I)Ldev/typewright/core/ScalarType;"⟩ : MethodName) method_3_code 1 (some (.object "dev/typewright/core/ScalarType")) ({ frames := 0, cells := 0, slots := 0, locals := 0 } : Room) EL1 n0 true [] #[(.int (5 : Int32))] h0 [] (fun v h N => h0 = h ∧ v = some (.ref o)) := by
  refine Ct.of (a0 := a0) (plainFor_of_name pn_dev_typewright_dart_DartFormOfPinLaw) (own_ew hw) (L0 := #[.val (.int (5 : Int32))]) (fun _ => rfl) ?_
  refine Go.iloadN (pc' := 1) dm3_0 rfl rfl ?_
  refine Go.ifT (pc' := 8) dm3_1 (show ¬ ((5 : Int32) = (0 : Int32)) by decide) (by decide) (by decide) ?_
  refine Go.iloadN (pc' := 9) dm3_8 rfl rfl ?_
  refine Go.iconst (pc' := 10) 1 dm3_9 rfl rfl ?_
  refine Go.icmpT (pc' := 17) dm3_10 (show ¬ ((5 : Int32) = (1 : Int32)) by decide) (by decide) (by decide) ?_
  refine Go.iloadN (pc' := 18) dm3_17 rfl rfl ?_
  refine Go.iconst (pc' := 19) 2 dm3_18 rfl rfl ?_
  refine Go.icmpT (pc' := 26) dm3_19 (show ¬ ((5 : Int32) = (2 : Int32)) by decide) (by decide) (by decide) ?_
  refine Go.iloadN (pc' := 27) dm3_26 rfl rfl ?_
  refine Go.iconst (pc' := 28) 3 dm3_27 rfl rfl ?_
  refine Go.icmpT (pc' := 35) dm3_28 (show ¬ ((5 : Int32) = (3 : Int32)) by decide) (by decide) (by decide) ?_
  refine Go.iloadN (pc' := 36) dm3_35 rfl rfl ?_
  refine Go.iconst (pc' := 37) 4 dm3_36 rfl rfl ?_
  refine Go.icmpT (pc' := 44) dm3_37 (show ¬ ((5 : Int32) = (4 : Int32)) by decide) (by decide) (by decide) ?_
  refine Go.iloadN (pc' := 45) dm3_44 rfl rfl ?_
  refine Go.iconst (pc' := 46) 5 dm3_45 rfl rfl ?_
  refine Go.icmpF (pc' := 49) dm3_46 (show (5 : Int32) = (5 : Int32) by decide) rfl ?_
  refine Go.getS (pc' := 52) (host := "") (a1 := a0) dm3_49 (Or.inl (wd hw 392 rfl)) Via.refl S_o rfl ?_
  refine Go.retA rfl rfl rfl [] sl0 dm3_52 (by decide) (by decide) ?_
  exact ⟨rfl, rfl⟩
theorem dm3_53 : decode method_3_code 53 = .ok (.getstatic 87, 3) := by decide +kernel
theorem dm3_56 : decode method_3_code 56 = .ok (.areturn, 1) := by decide +kernel
theorem ct_sc6 (l : Launch) (Z : State) (a0 : Array Value) (hw : ∀ d ∈ tables_1, d.before a0 Z = true) (n0 : Nat) (h0 : Heap) (o : Addr) (S_o : Sta Z h0 "dev/typewright/core/ScalarType" "BINARY" "Ldev/typewright/core/ScalarType;" (.ref o)) :
    Ct l Z (⟨"dev/typewright/dart/DartFormOfPinLaw", "scalar", "(I)Ldev/typewright/core/ScalarType;"⟩ : MethodName) method_3_code 1 (some (.object "dev/typewright/core/ScalarType")) ({ frames := 0, cells := 0, slots := 0, locals := 0 } : Room) EL1 n0 true [] #[(.int (6 : Int32))] h0 [] (fun v h N => h0 = h ∧ v = some (.ref o)) := by
  refine Ct.of (a0 := a0) (plainFor_of_name pn_dev_typewright_dart_DartFormOfPinLaw) (own_ew hw) (L0 := #[.val (.int (6 : Int32))]) (fun _ => rfl) ?_
  refine Go.iloadN (pc' := 1) dm3_0 rfl rfl ?_
  refine Go.ifT (pc' := 8) dm3_1 (show ¬ ((6 : Int32) = (0 : Int32)) by decide) (by decide) (by decide) ?_
  refine Go.iloadN (pc' := 9) dm3_8 rfl rfl ?_
  refine Go.iconst (pc' := 10) 1 dm3_9 rfl rfl ?_
  refine Go.icmpT (pc' := 17) dm3_10 (show ¬ ((6 : Int32) = (1 : Int32)) by decide) (by decide) (by decide) ?_
  refine Go.iloadN (pc' := 18) dm3_17 rfl rfl ?_
  refine Go.iconst (pc' := 19) 2 dm3_18 rfl rfl ?_
  refine Go.icmpT (pc' := 26) dm3_19 (show ¬ ((6 : Int32) = (2 : Int32)) by decide) (by decide) (by decide) ?_
  refine Go.iloadN (pc' := 27) dm3_26 rfl rfl ?_
  refine Go.iconst (pc' := 28) 3 dm3_27 rfl rfl ?_
  refine Go.icmpT (pc' := 35) dm3_28 (show ¬ ((6 : Int32) = (3 : Int32)) by decide) (by decide) (by decide) ?_
  refine Go.iloadN (pc' := 36) dm3_35 rfl rfl ?_
  refine Go.iconst (pc' := 37) 4 dm3_36 rfl rfl ?_
  refine Go.icmpT (pc' := 44) dm3_37 (show ¬ ((6 : Int32) = (4 : Int32)) by decide) (by decide) (by decide) ?_
  refine Go.iloadN (pc' := 45) dm3_44 rfl rfl ?_
  refine Go.iconst (pc' := 46) 5 dm3_45 rfl rfl ?_
  refine Go.icmpT (pc' := 53) dm3_46 (show ¬ ((6 : Int32) = (5 : Int32)) by decide) (by decide) (by decide) ?_
  refine Go.getS (pc' := 56) (host := "") (a1 := a0) dm3_53 (Or.inl (wd hw 385 rfl)) Via.refl S_o rfl ?_
  refine Go.retA rfl rfl rfl [] sl0 dm3_56 (by decide) (by decide) ?_
  exact ⟨rfl, rfl⟩
theorem pn_java_lang_Enum : plainName "java/lang/Enum" = true := by first | (simp [plainName, overriddenIn]; done) | decide +kernel
theorem dj37m2_0 : decode jdk_37_method_2_code 0 = .ok (.aload_n 0, 1) := by decide +kernel
theorem dj37m2_1 : decode jdk_37_method_2_code 1 = .ok (.getfield 7, 3) := by decide +kernel
theorem dj37m2_4 : decode jdk_37_method_2_code 4 = .ok (.ireturn, 1) := by decide +kernel
theorem ct_ord (l : Launch) (Z : State) (a0 : Array Value) (hw : ∀ d ∈ tables_1, d.before a0 Z = true) (n0 : Nat) (h0 : Heap) (a1 : Addr) (n : Int32) (F1 : Fld Z h0 a1 "java/lang/Enum" "ordinal" "I" (.int n)) :
    Ct l Z (⟨"java/lang/Enum", "ordinal", "()I"⟩ : MethodName) jdk_37_method_2_code 1 (some .int) ({ frames := 0, cells := 0, slots := 0, locals := 0 } : Room) EL1 n0 true [] #[(.ref a1)] h0 [] (fun v h N => h0 = h ∧ v = some (.int n)) := by
  refine Ct.of (a0 := a0) (plainFor_of_name pn_java_lang_Enum) (own_ew hw) (L0 := #[.val (.ref a1)]) (fun _ => rfl) ?_
  refine Go.aloadN (pc' := 1) dj37m2_0 rfl rfl rfl ?_
  refine Go.getF (pc' := 4) (host := "") (a1 := a0) dj37m2_1 (Or.inl (wd hw 22 rfl)) Via.refl F1 rfl ?_
  refine Go.retI rfl [] sl0 dj37m2_4 (by decide) (by decide) ?_
  exact ⟨rfl, rfl⟩
theorem dp38m1_0 : decode prog_38_method_1_code 0 = .ok (.getstatic 1, 3) := by decide +kernel
theorem dp38m1_3 : decode prog_38_method_1_code 3 = .ok (.aload_n 0, 1) := by decide +kernel
theorem dp38m1_4 : decode prog_38_method_1_code 4 = .ok (.invokevirtual 7, 3) := by decide +kernel
theorem dp38m1_7 : decode prog_38_method_1_code 7 = .ok (.iaload, 1) := by decide +kernel
theorem dp38m1_8 : decode prog_38_method_1_code 8 = .ok (.tableswitch 44 1 7 #[54, 66, 76, 76, 88, 100, 111], 44) := by decide +kernel
theorem dp38m1_62 : decode prog_38_method_1_code 62 = .ok (.new 19, 3) := by decide +kernel
theorem dp38m1_65 : decode prog_38_method_1_code 65 = .ok (.dup, 1) := by decide +kernel
theorem dp38m1_66 : decode prog_38_method_1_code 66 = .ok (.ldc 21, 2) := by decide +kernel
theorem dp38m1_68 : decode prog_38_method_1_code 68 = .ok (.invokespecial 23, 3) := by decide +kernel
theorem dp38m1_71 : decode prog_38_method_1_code 71 = .ok (.goto 56, 3) := by decide +kernel
theorem dp38m1_127 : decode prog_38_method_1_code 127 = .ok (.areturn, 1) := by decide +kernel
theorem ct_of0 (l : Launch) (Z : State) (a0 : Array Value) (hw : ∀ d ∈ tables_1, d.before a0 Z = true) (n0 : Nat) (h0 : Heap) (o : Addr) (X_o : Exa Z h0 o "dev/typewright/core/ScalarType") (F_o : Fld Z h0 o "java/lang/Enum" "ordinal" "I" (.int (0 : Int32))) (b1 : Addr) (cl : Cell) (S_B : Sta Z h0 "dev/typewright/dart/DartForm$1" "$SwitchMap$dev$typewright$core$ScalarType" "[I" (.ref b1)) (A_B : RoadKit.Arr Z h0 b1 cl .int) (hi_0 : ¬ ((0 : Int32) < 0 ∨ cl.slots.size ≤ (0 : Int32).toNatClampNeg)) (he_0 : cl.slots[(0 : Int32).toNatClampNeg]? = some (.int (1 : Int32))) (hn0 : n0 ≤ h0.size) :
    Ct l Z (⟨"dev/typewright/dart/DartForm", "of", "(Ldev/typewright/core/ScalarType;)Ldev/typewright/dart/DartForm;"⟩ : MethodName) prog_38_method_1_code 1 (some (.object "dev/typewright/dart/DartForm")) ({ frames := 3, cells := 3, slots := 17, locals := 38 } : Room) EL1 n0 true [] #[(.ref o)] h0 [] (fun v h N => ∃ f s b, v = some (.ref f) ∧ h0.size ≤ f ∧ Keep h0 h [] ∧ Exa Z h f "dev/typewright/dart/DartForm$PlainForm" ∧ Fld Z h f "dev/typewright/dart/DartForm$PlainForm" "name" "Ljava/lang/String;" (.ref s) ∧ Str Z h s b [105, 110, 116]) := by
  refine Ct.of (a0 := a0) (plainFor_of_name pn_dev_typewright_dart_DartForm) (own_ew hw) (L0 := #[.val (.ref o)]) (fun _ => rfl) ?_
  have l0_X_o := nlt X_o.lt
  refine Go.getS (pc' := 3) (host := "") (a1 := a0) dp38m1_0 (Or.inl (wd hw 12 rfl)) Via.refl S_B rfl ?_
  refine Go.aloadN (pc' := 4) dp38m1_3 rfl rfl rfl ?_
  refine Go.callUp (a1 := a0) (pc' := 7) (argsL := []) (rest := [(.ref b1)]) (ct_ord l Z a0 hw n0 h0 o (0 : Int32) F_o) dp38m1_4 (wd hw 15 rfl) (wd hw 16 rfl) (wd hw 17 rfl) (wd hw 19 rfl) (wd hw 18 rfl) (wd hw 20 rfl) (wd hw 21 rfl) X_o (by decide) (lenOf pd_4 rfl) rfl 1 rfl rfl (by decide) (by decide) (by decide) (by decide) sl0 rfl (fun v_1 h_2 N_3 hQ_4 hle_5 => ?_)
  obtain ⟨rfl, rfl⟩ := hQ_4
  refine Go.rs [(.int (0 : Int32)), (.ref b1)] rfl ?_
  refine Go.iaload (pc' := 8) dp38m1_7 A_B hi_0 he_0 rfl ?_
  refine Go.tsw (pc' := 62) (o := 54) dp38m1_8 (by decide) (by decide) (by decide) (by decide) ?_
  refine Go.newO (pc' := 65) (a1 := a0) dp38m1_62 (wd hw 24 rfl) (wd hw 25 rfl) (wd hw 26 rfl) (by decide) (by decide) rfl (fun a_6 h_7 ha_9 E_8 X_10 Df_11 => ?_)
  have szh_7 := nle E_8.1
  have lta_6 := nlt X_10.lt
  have qa_6 := neq ha_9
  have F_12 : Fld Z h_7 a_6 "dev/typewright/dart/DartForm$PlainForm" "name" "Ljava/lang/String;" (.null) := Df_11 (Or.inr (wd hw 47 rfl)) (ty := (.object "java/lang/String")) (by decide)
  refine Go.dup (pc' := 66) dp38m1_65 rfl rfl ?_
  refine Go.ldcR (pc' := 68) (a1 := a0) 12 (vs := [.int 105, .int 110, .int 116]) (z := 3) dp38m1_66 rfl (wd hw 27 rfl) (own_ws hw) (by decide) (by decide) (by decide) (by decide) rfl (own_ew hw) (List.mem_of_getElem? (i := 0) rfl) ⟨by decide, by decide⟩ (by decide) (by decide) (fun a_13 h_14 b_15 k_16 E_17 X_18 F_19 F_20 A_21 ne_22 => ?_)
  have szh_14 := nle E_17.1
  have lta_13 := nlt X_18.lt
  have ltb_15 := nlt A_21.lt
  have nx_23 := nne2 (ne_22 a_6 (by simp))
  have T_24 : Str Z h_14 a_13 b_15 [105, 110, 116] := ⟨X_18, F_19, F_20, k_16, A_21⟩
  have F_27 := (Exa.ext E_17 X_10)
  have F_28 := (Fld.ext E_17 F_12)
  refine Go.callN (a1 := a0) (pc' := 71) (argsL := [(.ref a_13)]) (rest := [(.ref a_6)]) (ct_pi l Z a0 hw n0 h_14 a_6 a_13 (by omega) F_27 F_28) dp38m1_68 rfl (wd hw 35 rfl) (wd hw 36 rfl) (wd hw 26 rfl) (wd hw 37 rfl) (by decide) (lenOf pd_2 rfl) rfl 1 rfl rfl (by decide) (by decide) (by decide) (by decide) sl0 rfl (fun v_29 h_30 N_31 hQ_32 hle_33 => ?_)
  obtain ⟨rfl, K_25, F_26⟩ := hQ_32
  have szh_30 := nle K_25.1
  refine Go.rs [(.ref a_6)] rfl ?_
  refine Go.goto (pc' := 127) dp38m1_71 (by decide) (by decide) ?_
  have F_34 := (Exa.keep F_27 K_25)
  have F_35 := (Str.keep T_24 K_25 (ninS (nne (by omega)) nin0) (ninS (nne (by omega)) nin0))
  refine Go.retA rfl rfl rfl [] sl0 dp38m1_127 (by decide) (by decide) ?_
  exact ⟨a_6, a_13, b_15, rfl, by omega, (Keep.trans (Keep.ext (Keep.ext (Keep.refl _ []) E_8) E_17) K_25 (allS (Or.inr (by omega)) all0)), F_34, F_26, F_35⟩
theorem dp38m1_74 : decode prog_38_method_1_code 74 = .ok (.new 26, 3) := by decide +kernel
theorem dp38m1_77 : decode prog_38_method_1_code 77 = .ok (.dup, 1) := by decide +kernel
theorem dp38m1_78 : decode prog_38_method_1_code 78 = .ok (.invokespecial 28, 3) := by decide +kernel
theorem dp38m1_81 : decode prog_38_method_1_code 81 = .ok (.goto 46, 3) := by decide +kernel
theorem ct_of1 (l : Launch) (Z : State) (a0 : Array Value) (hw : ∀ d ∈ tables_1, d.before a0 Z = true) (n0 : Nat) (h0 : Heap) (o : Addr) (X_o : Exa Z h0 o "dev/typewright/core/ScalarType") (F_o : Fld Z h0 o "java/lang/Enum" "ordinal" "I" (.int (1 : Int32))) (b1 : Addr) (cl : Cell) (S_B : Sta Z h0 "dev/typewright/dart/DartForm$1" "$SwitchMap$dev$typewright$core$ScalarType" "[I" (.ref b1)) (A_B : RoadKit.Arr Z h0 b1 cl .int) (hi_1 : ¬ ((1 : Int32) < 0 ∨ cl.slots.size ≤ (1 : Int32).toNatClampNeg)) (he_1 : cl.slots[(1 : Int32).toNatClampNeg]? = some (.int (2 : Int32))) (hn0 : n0 ≤ h0.size) :
    Ct l Z (⟨"dev/typewright/dart/DartForm", "of", "(Ldev/typewright/core/ScalarType;)Ldev/typewright/dart/DartForm;"⟩ : MethodName) prog_38_method_1_code 1 (some (.object "dev/typewright/dart/DartForm")) ({ frames := 3, cells := 1, slots := 0, locals := 37 } : Room) EL1 n0 true [] #[(.ref o)] h0 [] (fun v h N => ∃ f, v = some (.ref f) ∧ h0.size ≤ f ∧ Keep h0 h [] ∧ Exa Z h f "dev/typewright/dart/DartForm$DoubleForm") := by
  refine Ct.of (a0 := a0) (plainFor_of_name pn_dev_typewright_dart_DartForm) (own_ew hw) (L0 := #[.val (.ref o)]) (fun _ => rfl) ?_
  have l0_X_o := nlt X_o.lt
  refine Go.getS (pc' := 3) (host := "") (a1 := a0) dp38m1_0 (Or.inl (wd hw 12 rfl)) Via.refl S_B rfl ?_
  refine Go.aloadN (pc' := 4) dp38m1_3 rfl rfl rfl ?_
  refine Go.callUp (a1 := a0) (pc' := 7) (argsL := []) (rest := [(.ref b1)]) (ct_ord l Z a0 hw n0 h0 o (1 : Int32) F_o) dp38m1_4 (wd hw 15 rfl) (wd hw 16 rfl) (wd hw 17 rfl) (wd hw 19 rfl) (wd hw 18 rfl) (wd hw 20 rfl) (wd hw 21 rfl) X_o (by decide) (lenOf pd_4 rfl) rfl 1 rfl rfl (by decide) (by decide) (by decide) (by decide) sl0 rfl (fun v_1 h_2 N_3 hQ_4 hle_5 => ?_)
  obtain ⟨rfl, rfl⟩ := hQ_4
  refine Go.rs [(.int (1 : Int32)), (.ref b1)] rfl ?_
  refine Go.iaload (pc' := 8) dp38m1_7 A_B hi_1 he_1 rfl ?_
  refine Go.tsw (pc' := 74) (o := 66) dp38m1_8 (by decide) (by decide) (by decide) (by decide) ?_
  refine Go.newO (pc' := 77) (a1 := a0) dp38m1_74 (wd hw 254 rfl) (wd hw 255 rfl) (wd hw 256 rfl) (by decide) (by decide) rfl (fun a_6 h_7 ha_9 E_8 X_10 Df_11 => ?_)
  have szh_7 := nle E_8.1
  have lta_6 := nlt X_10.lt
  have qa_6 := neq ha_9
  refine Go.dup (pc' := 78) dp38m1_77 rfl rfl ?_
  refine Go.callN (a1 := a0) (pc' := 81) (argsL := []) (rest := [(.ref a_6)]) (ct_di l Z a0 hw n0 h_7 a_6) dp38m1_78 rfl (wd hw 257 rfl) (wd hw 258 rfl) (wd hw 256 rfl) (wd hw 259 rfl) (by decide) (lenOf pd_18 rfl) rfl 1 rfl rfl (by decide) (by decide) (by decide) (by decide) sl0 rfl (fun v_12 h_13 N_14 hQ_15 hle_16 => ?_)
  obtain ⟨rfl, rfl⟩ := hQ_15
  refine Go.rs [(.ref a_6)] rfl ?_
  refine Go.goto (pc' := 127) dp38m1_81 (by decide) (by decide) ?_
  refine Go.retA rfl rfl rfl [] sl0 dp38m1_127 (by decide) (by decide) ?_
  exact ⟨a_6, rfl, by omega, (Keep.ext (Keep.refl _ []) E_8), X_10⟩
theorem dp38m1_84 : decode prog_38_method_1_code 84 = .ok (.new 19, 3) := by decide +kernel
theorem dp38m1_87 : decode prog_38_method_1_code 87 = .ok (.dup, 1) := by decide +kernel
theorem dp38m1_88 : decode prog_38_method_1_code 88 = .ok (.ldc 31, 2) := by decide +kernel
theorem dp38m1_90 : decode prog_38_method_1_code 90 = .ok (.invokespecial 23, 3) := by decide +kernel
theorem dp38m1_93 : decode prog_38_method_1_code 93 = .ok (.goto 34, 3) := by decide +kernel
theorem ct_of2 (l : Launch) (Z : State) (a0 : Array Value) (hw : ∀ d ∈ tables_1, d.before a0 Z = true) (n0 : Nat) (h0 : Heap) (o : Addr) (X_o : Exa Z h0 o "dev/typewright/core/ScalarType") (F_o : Fld Z h0 o "java/lang/Enum" "ordinal" "I" (.int (2 : Int32))) (b1 : Addr) (cl : Cell) (S_B : Sta Z h0 "dev/typewright/dart/DartForm$1" "$SwitchMap$dev$typewright$core$ScalarType" "[I" (.ref b1)) (A_B : RoadKit.Arr Z h0 b1 cl .int) (hi_2 : ¬ ((2 : Int32) < 0 ∨ cl.slots.size ≤ (2 : Int32).toNatClampNeg)) (he_2 : cl.slots[(2 : Int32).toNatClampNeg]? = some (.int (3 : Int32))) (hn0 : n0 ≤ h0.size) :
    Ct l Z (⟨"dev/typewright/dart/DartForm", "of", "(Ldev/typewright/core/ScalarType;)Ldev/typewright/dart/DartForm;"⟩ : MethodName) prog_38_method_1_code 1 (some (.object "dev/typewright/dart/DartForm")) ({ frames := 3, cells := 3, slots := 29, locals := 38 } : Room) EL1 n0 true [] #[(.ref o)] h0 [] (fun v h N => ∃ f s b, v = some (.ref f) ∧ h0.size ≤ f ∧ Keep h0 h [] ∧ Exa Z h f "dev/typewright/dart/DartForm$PlainForm" ∧ Fld Z h f "dev/typewright/dart/DartForm$PlainForm" "name" "Ljava/lang/String;" (.ref s) ∧ Str Z h s b [83, 116, 114, 105, 110, 103]) := by
  refine Ct.of (a0 := a0) (plainFor_of_name pn_dev_typewright_dart_DartForm) (own_ew hw) (L0 := #[.val (.ref o)]) (fun _ => rfl) ?_
  have l0_X_o := nlt X_o.lt
  refine Go.getS (pc' := 3) (host := "") (a1 := a0) dp38m1_0 (Or.inl (wd hw 12 rfl)) Via.refl S_B rfl ?_
  refine Go.aloadN (pc' := 4) dp38m1_3 rfl rfl rfl ?_
  refine Go.callUp (a1 := a0) (pc' := 7) (argsL := []) (rest := [(.ref b1)]) (ct_ord l Z a0 hw n0 h0 o (2 : Int32) F_o) dp38m1_4 (wd hw 15 rfl) (wd hw 16 rfl) (wd hw 17 rfl) (wd hw 19 rfl) (wd hw 18 rfl) (wd hw 20 rfl) (wd hw 21 rfl) X_o (by decide) (lenOf pd_4 rfl) rfl 1 rfl rfl (by decide) (by decide) (by decide) (by decide) sl0 rfl (fun v_1 h_2 N_3 hQ_4 hle_5 => ?_)
  obtain ⟨rfl, rfl⟩ := hQ_4
  refine Go.rs [(.int (2 : Int32)), (.ref b1)] rfl ?_
  refine Go.iaload (pc' := 8) dp38m1_7 A_B hi_2 he_2 rfl ?_
  refine Go.tsw (pc' := 84) (o := 76) dp38m1_8 (by decide) (by decide) (by decide) (by decide) ?_
  refine Go.newO (pc' := 87) (a1 := a0) dp38m1_84 (wd hw 24 rfl) (wd hw 25 rfl) (wd hw 26 rfl) (by decide) (by decide) rfl (fun a_6 h_7 ha_9 E_8 X_10 Df_11 => ?_)
  have szh_7 := nle E_8.1
  have lta_6 := nlt X_10.lt
  have qa_6 := neq ha_9
  have F_12 : Fld Z h_7 a_6 "dev/typewright/dart/DartForm$PlainForm" "name" "Ljava/lang/String;" (.null) := Df_11 (Or.inr (wd hw 47 rfl)) (ty := (.object "java/lang/String")) (by decide)
  refine Go.dup (pc' := 88) dp38m1_87 rfl rfl ?_
  refine Go.ldcR (pc' := 90) (a1 := a0) 24 (vs := [.int 83, .int 116, .int 114, .int 105, .int 110, .int 103]) (z := 6) dp38m1_88 rfl (wd hw 387 rfl) (own_ws hw) (by decide) (by decide) (by decide) (by decide) rfl (own_ew hw) (List.mem_of_getElem? (i := 1) rfl) ⟨by decide, by decide⟩ (by decide) (by decide) (fun a_13 h_14 b_15 k_16 E_17 X_18 F_19 F_20 A_21 ne_22 => ?_)
  have szh_14 := nle E_17.1
  have lta_13 := nlt X_18.lt
  have ltb_15 := nlt A_21.lt
  have nx_23 := nne2 (ne_22 a_6 (by simp))
  have T_24 : Str Z h_14 a_13 b_15 [83, 116, 114, 105, 110, 103] := ⟨X_18, F_19, F_20, k_16, A_21⟩
  have F_27 := (Exa.ext E_17 X_10)
  have F_28 := (Fld.ext E_17 F_12)
  refine Go.callN (a1 := a0) (pc' := 93) (argsL := [(.ref a_13)]) (rest := [(.ref a_6)]) (ct_pi l Z a0 hw n0 h_14 a_6 a_13 (by omega) F_27 F_28) dp38m1_90 rfl (wd hw 35 rfl) (wd hw 36 rfl) (wd hw 26 rfl) (wd hw 37 rfl) (by decide) (lenOf pd_2 rfl) rfl 1 rfl rfl (by decide) (by decide) (by decide) (by decide) sl0 rfl (fun v_29 h_30 N_31 hQ_32 hle_33 => ?_)
  obtain ⟨rfl, K_25, F_26⟩ := hQ_32
  have szh_30 := nle K_25.1
  refine Go.rs [(.ref a_6)] rfl ?_
  refine Go.goto (pc' := 127) dp38m1_93 (by decide) (by decide) ?_
  have F_34 := (Exa.keep F_27 K_25)
  have F_35 := (Str.keep T_24 K_25 (ninS (nne (by omega)) nin0) (ninS (nne (by omega)) nin0))
  refine Go.retA rfl rfl rfl [] sl0 dp38m1_127 (by decide) (by decide) ?_
  exact ⟨a_6, a_13, b_15, rfl, by omega, (Keep.trans (Keep.ext (Keep.ext (Keep.refl _ []) E_8) E_17) K_25 (allS (Or.inr (by omega)) all0)), F_34, F_26, F_35⟩
theorem dp38m1_96 : decode prog_38_method_1_code 96 = .ok (.new 19, 3) := by decide +kernel
theorem dp38m1_99 : decode prog_38_method_1_code 99 = .ok (.dup, 1) := by decide +kernel
theorem dp38m1_100 : decode prog_38_method_1_code 100 = .ok (.ldc 33, 2) := by decide +kernel
theorem dp38m1_102 : decode prog_38_method_1_code 102 = .ok (.invokespecial 23, 3) := by decide +kernel
theorem dp38m1_105 : decode prog_38_method_1_code 105 = .ok (.goto 22, 3) := by decide +kernel
theorem ct_of3 (l : Launch) (Z : State) (a0 : Array Value) (hw : ∀ d ∈ tables_1, d.before a0 Z = true) (n0 : Nat) (h0 : Heap) (o : Addr) (X_o : Exa Z h0 o "dev/typewright/core/ScalarType") (F_o : Fld Z h0 o "java/lang/Enum" "ordinal" "I" (.int (3 : Int32))) (b1 : Addr) (cl : Cell) (S_B : Sta Z h0 "dev/typewright/dart/DartForm$1" "$SwitchMap$dev$typewright$core$ScalarType" "[I" (.ref b1)) (A_B : RoadKit.Arr Z h0 b1 cl .int) (hi_3 : ¬ ((3 : Int32) < 0 ∨ cl.slots.size ≤ (3 : Int32).toNatClampNeg)) (he_3 : cl.slots[(3 : Int32).toNatClampNeg]? = some (.int (5 : Int32))) (hn0 : n0 ≤ h0.size) :
    Ct l Z (⟨"dev/typewright/dart/DartForm", "of", "(Ldev/typewright/core/ScalarType;)Ldev/typewright/dart/DartForm;"⟩ : MethodName) prog_38_method_1_code 1 (some (.object "dev/typewright/dart/DartForm")) ({ frames := 3, cells := 3, slots := 21, locals := 38 } : Room) EL1 n0 true [] #[(.ref o)] h0 [] (fun v h N => ∃ f s b, v = some (.ref f) ∧ h0.size ≤ f ∧ Keep h0 h [] ∧ Exa Z h f "dev/typewright/dart/DartForm$PlainForm" ∧ Fld Z h f "dev/typewright/dart/DartForm$PlainForm" "name" "Ljava/lang/String;" (.ref s) ∧ Str Z h s b [98, 111, 111, 108]) := by
  refine Ct.of (a0 := a0) (plainFor_of_name pn_dev_typewright_dart_DartForm) (own_ew hw) (L0 := #[.val (.ref o)]) (fun _ => rfl) ?_
  have l0_X_o := nlt X_o.lt
  refine Go.getS (pc' := 3) (host := "") (a1 := a0) dp38m1_0 (Or.inl (wd hw 12 rfl)) Via.refl S_B rfl ?_
  refine Go.aloadN (pc' := 4) dp38m1_3 rfl rfl rfl ?_
  refine Go.callUp (a1 := a0) (pc' := 7) (argsL := []) (rest := [(.ref b1)]) (ct_ord l Z a0 hw n0 h0 o (3 : Int32) F_o) dp38m1_4 (wd hw 15 rfl) (wd hw 16 rfl) (wd hw 17 rfl) (wd hw 19 rfl) (wd hw 18 rfl) (wd hw 20 rfl) (wd hw 21 rfl) X_o (by decide) (lenOf pd_4 rfl) rfl 1 rfl rfl (by decide) (by decide) (by decide) (by decide) sl0 rfl (fun v_1 h_2 N_3 hQ_4 hle_5 => ?_)
  obtain ⟨rfl, rfl⟩ := hQ_4
  refine Go.rs [(.int (3 : Int32)), (.ref b1)] rfl ?_
  refine Go.iaload (pc' := 8) dp38m1_7 A_B hi_3 he_3 rfl ?_
  refine Go.tsw (pc' := 96) (o := 88) dp38m1_8 (by decide) (by decide) (by decide) (by decide) ?_
  refine Go.newO (pc' := 99) (a1 := a0) dp38m1_96 (wd hw 24 rfl) (wd hw 25 rfl) (wd hw 26 rfl) (by decide) (by decide) rfl (fun a_6 h_7 ha_9 E_8 X_10 Df_11 => ?_)
  have szh_7 := nle E_8.1
  have lta_6 := nlt X_10.lt
  have qa_6 := neq ha_9
  have F_12 : Fld Z h_7 a_6 "dev/typewright/dart/DartForm$PlainForm" "name" "Ljava/lang/String;" (.null) := Df_11 (Or.inr (wd hw 47 rfl)) (ty := (.object "java/lang/String")) (by decide)
  refine Go.dup (pc' := 100) dp38m1_99 rfl rfl ?_
  refine Go.ldcR (pc' := 102) (a1 := a0) 16 (vs := [.int 98, .int 111, .int 111, .int 108]) (z := 4) dp38m1_100 rfl (wd hw 248 rfl) (own_ws hw) (by decide) (by decide) (by decide) (by decide) rfl (own_ew hw) (List.mem_of_getElem? (i := 2) rfl) ⟨by decide, by decide⟩ (by decide) (by decide) (fun a_13 h_14 b_15 k_16 E_17 X_18 F_19 F_20 A_21 ne_22 => ?_)
  have szh_14 := nle E_17.1
  have lta_13 := nlt X_18.lt
  have ltb_15 := nlt A_21.lt
  have nx_23 := nne2 (ne_22 a_6 (by simp))
  have T_24 : Str Z h_14 a_13 b_15 [98, 111, 111, 108] := ⟨X_18, F_19, F_20, k_16, A_21⟩
  have F_27 := (Exa.ext E_17 X_10)
  have F_28 := (Fld.ext E_17 F_12)
  refine Go.callN (a1 := a0) (pc' := 105) (argsL := [(.ref a_13)]) (rest := [(.ref a_6)]) (ct_pi l Z a0 hw n0 h_14 a_6 a_13 (by omega) F_27 F_28) dp38m1_102 rfl (wd hw 35 rfl) (wd hw 36 rfl) (wd hw 26 rfl) (wd hw 37 rfl) (by decide) (lenOf pd_2 rfl) rfl 1 rfl rfl (by decide) (by decide) (by decide) (by decide) sl0 rfl (fun v_29 h_30 N_31 hQ_32 hle_33 => ?_)
  obtain ⟨rfl, K_25, F_26⟩ := hQ_32
  have szh_30 := nle K_25.1
  refine Go.rs [(.ref a_6)] rfl ?_
  refine Go.goto (pc' := 127) dp38m1_105 (by decide) (by decide) ?_
  have F_34 := (Exa.keep F_27 K_25)
  have F_35 := (Str.keep T_24 K_25 (ninS (nne (by omega)) nin0) (ninS (nne (by omega)) nin0))
  refine Go.retA rfl rfl rfl [] sl0 dp38m1_127 (by decide) (by decide) ?_
  exact ⟨a_6, a_13, b_15, rfl, by omega, (Keep.trans (Keep.ext (Keep.ext (Keep.refl _ []) E_8) E_17) K_25 (allS (Or.inr (by omega)) all0)), F_34, F_26, F_35⟩
theorem dp38m1_108 : decode prog_38_method_1_code 108 = .ok (.new 35, 3) := by decide +kernel
theorem dp38m1_111 : decode prog_38_method_1_code 111 = .ok (.dup, 1) := by decide +kernel
theorem dp38m1_112 : decode prog_38_method_1_code 112 = .ok (.iconst 1, 1) := by decide +kernel
theorem pd_21 : parseMethodDescriptor "(Z)V" = some ⟨[.boolean], none⟩ := by decide +kernel
theorem dp38m1_113 : decode prog_38_method_1_code 113 = .ok (.invokespecial 37, 3) := by decide +kernel
theorem dp38m1_116 : decode prog_38_method_1_code 116 = .ok (.goto 11, 3) := by decide +kernel
theorem ct_of4 (l : Launch) (Z : State) (a0 : Array Value) (hw : ∀ d ∈ tables_1, d.before a0 Z = true) (n0 : Nat) (h0 : Heap) (o : Addr) (X_o : Exa Z h0 o "dev/typewright/core/ScalarType") (F_o : Fld Z h0 o "java/lang/Enum" "ordinal" "I" (.int (4 : Int32))) (b1 : Addr) (cl : Cell) (S_B : Sta Z h0 "dev/typewright/dart/DartForm$1" "$SwitchMap$dev$typewright$core$ScalarType" "[I" (.ref b1)) (A_B : RoadKit.Arr Z h0 b1 cl .int) (hi_4 : ¬ ((4 : Int32) < 0 ∨ cl.slots.size ≤ (4 : Int32).toNatClampNeg)) (he_4 : cl.slots[(4 : Int32).toNatClampNeg]? = some (.int (6 : Int32))) (hn0 : n0 ≤ h0.size) :
    Ct l Z (⟨"dev/typewright/dart/DartForm", "of", "(Ldev/typewright/core/ScalarType;)Ldev/typewright/dart/DartForm;"⟩ : MethodName) prog_38_method_1_code 1 (some (.object "dev/typewright/dart/DartForm")) ({ frames := 3, cells := 1, slots := 1, locals := 38 } : Room) EL1 n0 true [] #[(.ref o)] h0 [] (fun v h N => ∃ f, v = some (.ref f) ∧ h0.size ≤ f ∧ Keep h0 h [] ∧ Exa Z h f "dev/typewright/dart/DartForm$DateTimeForm" ∧ Fld Z h f "dev/typewright/dart/DartForm$DateTimeForm" "dateOnly" "Z" (.int (1 : Int32))) := by
  refine Ct.of (a0 := a0) (plainFor_of_name pn_dev_typewright_dart_DartForm) (own_ew hw) (L0 := #[.val (.ref o)]) (fun _ => rfl) ?_
  have l0_X_o := nlt X_o.lt
  refine Go.getS (pc' := 3) (host := "") (a1 := a0) dp38m1_0 (Or.inl (wd hw 12 rfl)) Via.refl S_B rfl ?_
  refine Go.aloadN (pc' := 4) dp38m1_3 rfl rfl rfl ?_
  refine Go.callUp (a1 := a0) (pc' := 7) (argsL := []) (rest := [(.ref b1)]) (ct_ord l Z a0 hw n0 h0 o (4 : Int32) F_o) dp38m1_4 (wd hw 15 rfl) (wd hw 16 rfl) (wd hw 17 rfl) (wd hw 19 rfl) (wd hw 18 rfl) (wd hw 20 rfl) (wd hw 21 rfl) X_o (by decide) (lenOf pd_4 rfl) rfl 1 rfl rfl (by decide) (by decide) (by decide) (by decide) sl0 rfl (fun v_1 h_2 N_3 hQ_4 hle_5 => ?_)
  obtain ⟨rfl, rfl⟩ := hQ_4
  refine Go.rs [(.int (4 : Int32)), (.ref b1)] rfl ?_
  refine Go.iaload (pc' := 8) dp38m1_7 A_B hi_4 he_4 rfl ?_
  refine Go.tsw (pc' := 108) (o := 100) dp38m1_8 (by decide) (by decide) (by decide) (by decide) ?_
  refine Go.newO (pc' := 111) (a1 := a0) dp38m1_108 (wd hw 320 rfl) (wd hw 321 rfl) (wd hw 322 rfl) (by decide) (by decide) rfl (fun a_6 h_7 ha_9 E_8 X_10 Df_11 => ?_)
  have szh_7 := nle E_8.1
  have lta_6 := nlt X_10.lt
  have qa_6 := neq ha_9
  have F_12 : Fld Z h_7 a_6 "dev/typewright/dart/DartForm$DateTimeForm" "dateOnly" "Z" (.int (0 : Int32)) := Df_11 (Or.inr (wd hw 328 rfl)) (ty := .boolean) (by decide)
  refine Go.dup (pc' := 112) dp38m1_111 rfl rfl ?_
  refine Go.iconst (pc' := 113) 1 dp38m1_112 rfl rfl ?_
  refine Go.callN (a1 := a0) (pc' := 116) (argsL := [(.int (1 : Int32))]) (rest := [(.ref a_6)]) (ct_ti1 l Z a0 hw n0 h_7 a_6 (by omega) X_10 F_12) dp38m1_113 rfl (wd hw 323 rfl) (wd hw 324 rfl) (wd hw 322 rfl) (wd hw 325 rfl) (by decide) (lenOf pd_21 rfl) rfl 1 rfl rfl (by decide) (by decide) (by decide) (by decide) sl0 rfl (fun v_15 h_16 N_17 hQ_18 hle_19 => ?_)
  obtain ⟨rfl, K_13, F_14⟩ := hQ_18
  have szh_16 := nle K_13.1
  refine Go.rs [(.ref a_6)] rfl ?_
  refine Go.goto (pc' := 127) dp38m1_116 (by decide) (by decide) ?_
  have F_20 := (Exa.keep X_10 K_13)
  refine Go.retA rfl rfl rfl [] sl0 dp38m1_127 (by decide) (by decide) ?_
  exact ⟨a_6, rfl, by omega, (Keep.trans (Keep.ext (Keep.refl _ []) E_8) K_13 (allS (Or.inr (by omega)) all0)), F_20, F_14⟩
theorem dp38m1_119 : decode prog_38_method_1_code 119 = .ok (.new 35, 3) := by decide +kernel
theorem dp38m1_122 : decode prog_38_method_1_code 122 = .ok (.dup, 1) := by decide +kernel
theorem dp38m1_123 : decode prog_38_method_1_code 123 = .ok (.iconst 0, 1) := by decide +kernel
theorem dp38m1_124 : decode prog_38_method_1_code 124 = .ok (.invokespecial 37, 3) := by decide +kernel
theorem ct_of5 (l : Launch) (Z : State) (a0 : Array Value) (hw : ∀ d ∈ tables_1, d.before a0 Z = true) (n0 : Nat) (h0 : Heap) (o : Addr) (X_o : Exa Z h0 o "dev/typewright/core/ScalarType") (F_o : Fld Z h0 o "java/lang/Enum" "ordinal" "I" (.int (5 : Int32))) (b1 : Addr) (cl : Cell) (S_B : Sta Z h0 "dev/typewright/dart/DartForm$1" "$SwitchMap$dev$typewright$core$ScalarType" "[I" (.ref b1)) (A_B : RoadKit.Arr Z h0 b1 cl .int) (hi_5 : ¬ ((5 : Int32) < 0 ∨ cl.slots.size ≤ (5 : Int32).toNatClampNeg)) (he_5 : cl.slots[(5 : Int32).toNatClampNeg]? = some (.int (7 : Int32))) (hn0 : n0 ≤ h0.size) :
    Ct l Z (⟨"dev/typewright/dart/DartForm", "of", "(Ldev/typewright/core/ScalarType;)Ldev/typewright/dart/DartForm;"⟩ : MethodName) prog_38_method_1_code 1 (some (.object "dev/typewright/dart/DartForm")) ({ frames := 3, cells := 1, slots := 1, locals := 38 } : Room) EL1 n0 true [] #[(.ref o)] h0 [] (fun v h N => ∃ f, v = some (.ref f) ∧ h0.size ≤ f ∧ Keep h0 h [] ∧ Exa Z h f "dev/typewright/dart/DartForm$DateTimeForm" ∧ Fld Z h f "dev/typewright/dart/DartForm$DateTimeForm" "dateOnly" "Z" (.int (0 : Int32))) := by
  refine Ct.of (a0 := a0) (plainFor_of_name pn_dev_typewright_dart_DartForm) (own_ew hw) (L0 := #[.val (.ref o)]) (fun _ => rfl) ?_
  have l0_X_o := nlt X_o.lt
  refine Go.getS (pc' := 3) (host := "") (a1 := a0) dp38m1_0 (Or.inl (wd hw 12 rfl)) Via.refl S_B rfl ?_
  refine Go.aloadN (pc' := 4) dp38m1_3 rfl rfl rfl ?_
  refine Go.callUp (a1 := a0) (pc' := 7) (argsL := []) (rest := [(.ref b1)]) (ct_ord l Z a0 hw n0 h0 o (5 : Int32) F_o) dp38m1_4 (wd hw 15 rfl) (wd hw 16 rfl) (wd hw 17 rfl) (wd hw 19 rfl) (wd hw 18 rfl) (wd hw 20 rfl) (wd hw 21 rfl) X_o (by decide) (lenOf pd_4 rfl) rfl 1 rfl rfl (by decide) (by decide) (by decide) (by decide) sl0 rfl (fun v_1 h_2 N_3 hQ_4 hle_5 => ?_)
  obtain ⟨rfl, rfl⟩ := hQ_4
  refine Go.rs [(.int (5 : Int32)), (.ref b1)] rfl ?_
  refine Go.iaload (pc' := 8) dp38m1_7 A_B hi_5 he_5 rfl ?_
  refine Go.tsw (pc' := 119) (o := 111) dp38m1_8 (by decide) (by decide) (by decide) (by decide) ?_
  refine Go.newO (pc' := 122) (a1 := a0) dp38m1_119 (wd hw 320 rfl) (wd hw 321 rfl) (wd hw 322 rfl) (by decide) (by decide) rfl (fun a_6 h_7 ha_9 E_8 X_10 Df_11 => ?_)
  have szh_7 := nle E_8.1
  have lta_6 := nlt X_10.lt
  have qa_6 := neq ha_9
  have F_12 : Fld Z h_7 a_6 "dev/typewright/dart/DartForm$DateTimeForm" "dateOnly" "Z" (.int (0 : Int32)) := Df_11 (Or.inr (wd hw 328 rfl)) (ty := .boolean) (by decide)
  refine Go.dup (pc' := 123) dp38m1_122 rfl rfl ?_
  refine Go.iconst (pc' := 124) 0 dp38m1_123 rfl rfl ?_
  refine Go.callN (a1 := a0) (pc' := 127) (argsL := [(.int (0 : Int32))]) (rest := [(.ref a_6)]) (ct_ti0 l Z a0 hw n0 h_7 a_6 (by omega) X_10 F_12) dp38m1_124 rfl (wd hw 323 rfl) (wd hw 324 rfl) (wd hw 322 rfl) (wd hw 325 rfl) (by decide) (lenOf pd_21 rfl) rfl 1 rfl rfl (by decide) (by decide) (by decide) (by decide) sl0 rfl (fun v_15 h_16 N_17 hQ_18 hle_19 => ?_)
  obtain ⟨rfl, K_13, F_14⟩ := hQ_18
  have szh_16 := nle K_13.1
  refine Go.rs [(.ref a_6)] rfl ?_
  have F_20 := (Exa.keep X_10 K_13)
  refine Go.retA rfl rfl rfl [] sl0 dp38m1_127 (by decide) (by decide) ?_
  exact ⟨a_6, rfl, by omega, (Keep.trans (Keep.ext (Keep.refl _ []) E_8) K_13 (allS (Or.inr (by omega)) all0)), F_20, F_14⟩
theorem ct_of6 (l : Launch) (Z : State) (a0 : Array Value) (hw : ∀ d ∈ tables_1, d.before a0 Z = true) (n0 : Nat) (h0 : Heap) (o : Addr) (X_o : Exa Z h0 o "dev/typewright/core/ScalarType") (F_o : Fld Z h0 o "java/lang/Enum" "ordinal" "I" (.int (6 : Int32))) (b1 : Addr) (cl : Cell) (S_B : Sta Z h0 "dev/typewright/dart/DartForm$1" "$SwitchMap$dev$typewright$core$ScalarType" "[I" (.ref b1)) (A_B : RoadKit.Arr Z h0 b1 cl .int) (hi_6 : ¬ ((6 : Int32) < 0 ∨ cl.slots.size ≤ (6 : Int32).toNatClampNeg)) (he_6 : cl.slots[(6 : Int32).toNatClampNeg]? = some (.int (4 : Int32))) (hn0 : n0 ≤ h0.size) :
    Ct l Z (⟨"dev/typewright/dart/DartForm", "of", "(Ldev/typewright/core/ScalarType;)Ldev/typewright/dart/DartForm;"⟩ : MethodName) prog_38_method_1_code 1 (some (.object "dev/typewright/dart/DartForm")) ({ frames := 3, cells := 3, slots := 29, locals := 38 } : Room) EL1 n0 true [] #[(.ref o)] h0 [] (fun v h N => ∃ f s b, v = some (.ref f) ∧ h0.size ≤ f ∧ Keep h0 h [] ∧ Exa Z h f "dev/typewright/dart/DartForm$PlainForm" ∧ Fld Z h f "dev/typewright/dart/DartForm$PlainForm" "name" "Ljava/lang/String;" (.ref s) ∧ Str Z h s b [83, 116, 114, 105, 110, 103]) := by
  refine Ct.of (a0 := a0) (plainFor_of_name pn_dev_typewright_dart_DartForm) (own_ew hw) (L0 := #[.val (.ref o)]) (fun _ => rfl) ?_
  have l0_X_o := nlt X_o.lt
  refine Go.getS (pc' := 3) (host := "") (a1 := a0) dp38m1_0 (Or.inl (wd hw 12 rfl)) Via.refl S_B rfl ?_
  refine Go.aloadN (pc' := 4) dp38m1_3 rfl rfl rfl ?_
  refine Go.callUp (a1 := a0) (pc' := 7) (argsL := []) (rest := [(.ref b1)]) (ct_ord l Z a0 hw n0 h0 o (6 : Int32) F_o) dp38m1_4 (wd hw 15 rfl) (wd hw 16 rfl) (wd hw 17 rfl) (wd hw 19 rfl) (wd hw 18 rfl) (wd hw 20 rfl) (wd hw 21 rfl) X_o (by decide) (lenOf pd_4 rfl) rfl 1 rfl rfl (by decide) (by decide) (by decide) (by decide) sl0 rfl (fun v_1 h_2 N_3 hQ_4 hle_5 => ?_)
  obtain ⟨rfl, rfl⟩ := hQ_4
  refine Go.rs [(.int (6 : Int32)), (.ref b1)] rfl ?_
  refine Go.iaload (pc' := 8) dp38m1_7 A_B hi_6 he_6 rfl ?_
  refine Go.tsw (pc' := 84) (o := 76) dp38m1_8 (by decide) (by decide) (by decide) (by decide) ?_
  refine Go.newO (pc' := 87) (a1 := a0) dp38m1_84 (wd hw 24 rfl) (wd hw 25 rfl) (wd hw 26 rfl) (by decide) (by decide) rfl (fun a_6 h_7 ha_9 E_8 X_10 Df_11 => ?_)
  have szh_7 := nle E_8.1
  have lta_6 := nlt X_10.lt
  have qa_6 := neq ha_9
  have F_12 : Fld Z h_7 a_6 "dev/typewright/dart/DartForm$PlainForm" "name" "Ljava/lang/String;" (.null) := Df_11 (Or.inr (wd hw 47 rfl)) (ty := (.object "java/lang/String")) (by decide)
  refine Go.dup (pc' := 88) dp38m1_87 rfl rfl ?_
  refine Go.ldcR (pc' := 90) (a1 := a0) 24 (vs := [.int 83, .int 116, .int 114, .int 105, .int 110, .int 103]) (z := 6) dp38m1_88 rfl (wd hw 387 rfl) (own_ws hw) (by decide) (by decide) (by decide) (by decide) rfl (own_ew hw) (List.mem_of_getElem? (i := 1) rfl) ⟨by decide, by decide⟩ (by decide) (by decide) (fun a_13 h_14 b_15 k_16 E_17 X_18 F_19 F_20 A_21 ne_22 => ?_)
  have szh_14 := nle E_17.1
  have lta_13 := nlt X_18.lt
  have ltb_15 := nlt A_21.lt
  have nx_23 := nne2 (ne_22 a_6 (by simp))
  have T_24 : Str Z h_14 a_13 b_15 [83, 116, 114, 105, 110, 103] := ⟨X_18, F_19, F_20, k_16, A_21⟩
  have F_27 := (Exa.ext E_17 X_10)
  have F_28 := (Fld.ext E_17 F_12)
  refine Go.callN (a1 := a0) (pc' := 93) (argsL := [(.ref a_13)]) (rest := [(.ref a_6)]) (ct_pi l Z a0 hw n0 h_14 a_6 a_13 (by omega) F_27 F_28) dp38m1_90 rfl (wd hw 35 rfl) (wd hw 36 rfl) (wd hw 26 rfl) (wd hw 37 rfl) (by decide) (lenOf pd_2 rfl) rfl 1 rfl rfl (by decide) (by decide) (by decide) (by decide) sl0 rfl (fun v_29 h_30 N_31 hQ_32 hle_33 => ?_)
  obtain ⟨rfl, K_25, F_26⟩ := hQ_32
  have szh_30 := nle K_25.1
  refine Go.rs [(.ref a_6)] rfl ?_
  refine Go.goto (pc' := 127) dp38m1_93 (by decide) (by decide) ?_
  have F_34 := (Exa.keep F_27 K_25)
  have F_35 := (Str.keep T_24 K_25 (ninS (nne (by omega)) nin0) (ninS (nne (by omega)) nin0))
  refine Go.retA rfl rfl rfl [] sl0 dp38m1_127 (by decide) (by decide) ?_
  exact ⟨a_6, a_13, b_15, rfl, by omega, (Keep.trans (Keep.ext (Keep.ext (Keep.refl _ []) E_8) E_17) K_25 (allS (Or.inr (by omega)) all0)), F_34, F_26, F_35⟩
theorem dp47m2_0 : decode prog_47_method_2_code 0 = .ok (.aload_n 0, 1) := by decide +kernel
theorem dp47m2_1 : decode prog_47_method_2_code 1 = .ok (.getfield 7, 3) := by decide +kernel
theorem dp47m2_4 : decode prog_47_method_2_code 4 = .ok (.iload_n 1, 1) := by decide +kernel
theorem pd_22 : parseMethodDescriptor "(Ljava/lang/String;Z)Ljava/lang/String;" = some ⟨[(.object "java/lang/String"), .boolean], (some (.object "java/lang/String"))⟩ := by decide +kernel
theorem dp47m2_5 : decode prog_47_method_2_code 5 = .ok (.invokestatic 13, 3) := by decide +kernel
theorem dp47m2_8 : decode prog_47_method_2_code 8 = .ok (.areturn, 1) := by decide +kernel
theorem ct_pty0 (l : Launch) (Z : State) (a0 : Array Value) (hw : ∀ d ∈ tables_1, d.before a0 Z = true) (n0 : Nat) (h0 : Heap) (ll : List Int32) (a1 : Addr) (s1 b1 : Addr) (H1 : Str Z h0 s1 b1 ll) (FN : Fld Z h0 a1 "dev/typewright/dart/DartForm$PlainForm" "name" "Ljava/lang/String;" (.ref s1)) :
    Ct l Z (⟨"dev/typewright/dart/DartForm$PlainForm", "type", "(Z)Ljava/lang/String;"⟩ : MethodName) prog_47_method_2_code 2 (some (.object "java/lang/String")) ({ frames := 1, cells := 0, slots := 0, locals := 13 } : Room) EL1 n0 true [] #[(.ref a1), (.int (0 : Int32))] h0 [] (fun v h N => h0 = h ∧ v = some (.ref s1)) := by
  refine Ct.of (a0 := a0) (plainFor_of_name pn_dev_typewright_dart_DartForm_PlainForm) (own_ew hw) (L0 := #[.val (.ref a1), .val (.int (0 : Int32))]) (fun _ => rfl) ?_
  refine Go.aloadN (pc' := 1) dp47m2_0 rfl rfl rfl ?_
  refine Go.getF (pc' := 4) (host := "") (a1 := a0) dp47m2_1 (Or.inl (wd hw 46 rfl)) Via.refl FN rfl ?_
  refine Go.iloadN (pc' := 5) dp47m2_4 rfl rfl ?_
  refine Go.callSN (a1 := a0) (pc' := 8) (argsL := [(.ref s1), (.int (0 : Int32))]) (rest := []) (ct_nul0 l Z a0 hw n0 h0 s1) dp47m2_5 (wd hw 57 rfl) (wd hw 58 rfl) (wd hw 10 rfl) (wd hw 59 rfl) (by decide) (lenOf pd_22 rfl) rfl 0 rfl rfl (by decide) (by decide) (by decide) (by decide) sl0 rfl (fun v_1 h_2 N_3 hQ_4 hle_5 => ?_)
  obtain ⟨rfl, rfl⟩ := hQ_4
  refine Go.rs [(.ref s1)] rfl ?_
  refine Go.retA rfl rfl rfl [] sl0 dp47m2_8 (by decide) (by decide) ?_
  exact ⟨rfl, rfl⟩
theorem ct_pty1 (l : Launch) (Z : State) (a0 : Array Value) (hw : ∀ d ∈ tables_1, d.before a0 Z = true) (n0 : Nat) (h0 : Heap) (ll : List Int32) (a1 : Addr) (s1 b1 : Addr) (H1 : Str Z h0 s1 b1 ll) (FN : Fld Z h0 a1 "dev/typewright/dart/DartForm$PlainForm" "name" "Ljava/lang/String;" (.ref s1)) (hl : ll.length ≤ 6) (hn0 : n0 ≤ h0.size) (cs : Int32) (S_cs : Sta Z h0 "java/lang/String" "COMPACT_STRINGS" "Z" (.int cs)) (hcs : ¬ cs = 0) :
    Ct l Z (⟨"dev/typewright/dart/DartForm$PlainForm", "type", "(Z)Ljava/lang/String;"⟩ : MethodName) prog_47_method_2_code 2 (some (.object "java/lang/String")) ({ frames := 7, cells := 6, slots := 160, locals := 104 } : Room) EL1 n0 true [] #[(.ref a1), (.int (1 : Int32))] h0 [] (fun v h N => ∃ s b, v = some (.ref s) ∧ h0.size ≤ s ∧ h0.size ≤ b ∧ Keep h0 h [] ∧ Str Z h s b (ll ++ [63])) := by
  refine Ct.of (a0 := a0) (plainFor_of_name pn_dev_typewright_dart_DartForm_PlainForm) (own_ew hw) (L0 := #[.val (.ref a1), .val (.int (1 : Int32))]) (fun _ => rfl) ?_
  have lt_H1 := nlt H1.lt
  have ltb_H1 := nlt H1.ltb
  refine Go.aloadN (pc' := 1) dp47m2_0 rfl rfl rfl ?_
  refine Go.getF (pc' := 4) (host := "") (a1 := a0) dp47m2_1 (Or.inl (wd hw 46 rfl)) Via.refl FN rfl ?_
  refine Go.iloadN (pc' := 5) dp47m2_4 rfl rfl ?_
  refine Go.callSN (a1 := a0) (pc' := 8) (argsL := [(.ref s1), (.int (1 : Int32))]) (rest := []) (ct_nul1 l Z a0 hw n0 h0 ll s1 b1 H1 (by omega) (by omega) cs S_cs hcs) dp47m2_5 (wd hw 57 rfl) (wd hw 58 rfl) (wd hw 10 rfl) (wd hw 59 rfl) (by decide) (lenOf pd_22 rfl) rfl 0 rfl rfl (by decide) (by decide) (by decide) (by decide) sl0 rfl (fun v_7 h_8 N_9 hQ_10 hle_11 => ?_)
  obtain ⟨s_1, b_2, rfl, g_3, g_4, K_5, F_6⟩ := hQ_10
  have szh_8 := nle K_5.1
  have lts_1 := nlt F_6.lt
  have ltb_2 := nlt F_6.ltb
  have ges_1 := nle g_3
  have geb_2 := nle g_4
  refine Go.rs [(.ref s_1)] rfl ?_
  refine Go.retA rfl rfl rfl [] sl0 dp47m2_8 (by decide) (by decide) ?_
  exact ⟨s_1, b_2, rfl, by omega, by omega, (Keep.trans (Keep.refl _ []) K_5 all0), F_6⟩
theorem dp47m3_0 : decode prog_47_method_3_code 0 = .ok (.new 19, 3) := by decide +kernel
theorem dp47m3_3 : decode prog_47_method_3_code 3 = .ok (.dup, 1) := by decide +kernel
theorem dp47m3_4 : decode prog_47_method_3_code 4 = .ok (.invokespecial 21, 3) := by decide +kernel
theorem dp47m3_7 : decode prog_47_method_3_code 7 = .ok (.aload_n 1, 1) := by decide +kernel
theorem dp47m3_8 : decode prog_47_method_3_code 8 = .ok (.invokevirtual 22, 3) := by decide +kernel
theorem dp47m3_11 : decode prog_47_method_3_code 11 = .ok (.ldc 26, 2) := by decide +kernel
theorem dp47m3_13 : decode prog_47_method_3_code 13 = .ok (.invokevirtual 22, 3) := by decide +kernel
theorem dp47m3_16 : decode prog_47_method_3_code 16 = .ok (.aload_n 0, 1) := by decide +kernel
theorem dp47m3_17 : decode prog_47_method_3_code 17 = .ok (.iload_n 2, 1) := by decide +kernel
theorem pd_23 : parseMethodDescriptor "(Z)Ljava/lang/String;" = some ⟨[.boolean], (some (.object "java/lang/String"))⟩ := by decide +kernel
theorem dp47m3_18 : decode prog_47_method_3_code 18 = .ok (.invokevirtual 28, 3) := by decide +kernel
theorem dp47m3_21 : decode prog_47_method_3_code 21 = .ok (.invokevirtual 22, 3) := by decide +kernel
theorem dp47m3_24 : decode prog_47_method_3_code 24 = .ok (.invokevirtual 32, 3) := by decide +kernel
theorem dp47m3_27 : decode prog_47_method_3_code 27 = .ok (.areturn, 1) := by decide +kernel
theorem ct_pfj0 (l : Launch) (Z : State) (a0 : Array Value) (hw : ∀ d ∈ tables_1, d.before a0 Z = true) (n0 : Nat) (h0 : Heap) (ll : List Int32) (a1 : Addr) (s1 b1 : Addr) (H1 : Str Z h0 s1 b1 ll) (FN : Fld Z h0 a1 "dev/typewright/dart/DartForm$PlainForm" "name" "Ljava/lang/String;" (.ref s1)) (EX : Exa Z h0 a1 "dev/typewright/dart/DartForm$PlainForm") (hl : ll.length ≤ 6) (sj bj : Addr) (Hj : Str Z h0 sj bj [106]) (hn0 : n0 ≤ h0.size) (cs : Int32) (S_cs : Sta Z h0 "java/lang/String" "COMPACT_STRINGS" "Z" (.int cs)) (hcs : ¬ cs = 0) :
    Ct l Z (⟨"dev/typewright/dart/DartForm$PlainForm", "fromJson", "(Ljava/lang/String;Z)Ljava/lang/String;"⟩ : MethodName) prog_47_method_3_code 3 (some (.object "java/lang/String")) ({ frames := 6, cells := 6, slots := 172, locals := 91 } : Room) EL1 n0 true [] #[(.ref a1), (.ref sj), (.int (0 : Int32))] h0 [] (fun v h N => ∃ s b, v = some (.ref s) ∧ h0.size ≤ s ∧ h0.size ≤ b ∧ Keep h0 h [] ∧ Str Z h s b ([106, 32, 97, 115, 32] ++ ll)) := by
  refine Ct.of (a0 := a0) (plainFor_of_name pn_dev_typewright_dart_DartForm_PlainForm) (own_ew hw) (L0 := #[.val (.ref a1), .val (.ref sj), .val (.int (0 : Int32))]) (fun _ => rfl) ?_
  have lt_H1 := nlt H1.lt
  have ltb_H1 := nlt H1.ltb
  have lt_Hj := nlt Hj.lt
  have ltb_Hj := nlt Hj.ltb
  have l0_EX := nlt EX.lt
  refine Go.newO (pc' := 3) (a1 := a0) dp47m3_0 (wd hw 199 rfl) (wd hw 61 rfl) (wd hw 62 rfl) (by decide) (by decide) rfl (fun a_1 h_2 ha_4 E_3 X_5 Df_6 => ?_)
  have szh_2 := nle E_3.1
  have lta_1 := nlt X_5.lt
  have qa_1 := neq ha_4
  have F_7 : Fld Z h_2 a_1 "java/lang/AbstractStringBuilder" "value" "[B" (.null) := Df_6 (Or.inl (wd hw 75 rfl)) (ty := (.array .byte)) (by decide)
  have F_8 : Fld Z h_2 a_1 "java/lang/AbstractStringBuilder" "coder" "B" (.int (0 : Int32)) := Df_6 (Or.inl (wd hw 77 rfl)) (ty := .byte) (by decide)
  have F_9 : Fld Z h_2 a_1 "java/lang/AbstractStringBuilder" "count" "I" (.int (0 : Int32)) := Df_6 (Or.inl (wd hw 102 rfl)) (ty := .int) (by decide)
  refine Go.dup (pc' := 4) dp47m3_3 rfl rfl ?_
  have F_14 := (Sta.ext E_3 S_cs)
  refine Go.callN (a1 := a0) (pc' := 7) (argsL := []) (rest := [(.ref a_1)]) (ct_sbi0 l Z a0 hw n0 h_2 a_1 (by omega) X_5 F_9 F_8 F_7 cs F_14 hcs) dp47m3_4 rfl (wd hw 200 rfl) (wd hw 64 rfl) (wd hw 62 rfl) (wd hw 65 rfl) (by decide) (lenOf pd_18 rfl) rfl 1 rfl rfl (by decide) (by decide) (by decide) (by decide) sl0 rfl (fun v_15 h_16 N_17 hQ_18 hle_19 => ?_)
  obtain ⟨rfl, b_10, rfl, g_11, K_12, F_13⟩ := hQ_18
  have szh_16 := nle K_12.1
  have ltb_10 := nlt F_13.ltb
  have geb_10 := nle g_11
  refine Go.rs [(.ref a_1)] rfl ?_
  refine Go.aloadN (pc' := 8) dp47m3_7 rfl rfl rfl ?_
  have F_23 := (Str.keep (Str.ext Hj E_3) K_12 (ninS (nne (by omega)) nin0) (ninS (nne (by omega)) nin0))
  have F_24 := (sta_keep F_14 K_12 (nsS (Exa.nostat X_5) ns0))
  have F_30 := (Exa.keep X_5 K_12)
  refine Go.callV (a1 := a0) (pc' := 11) (argsL := [(.ref sj)]) (rest := []) (ct_app l Z a0 hw n0 h_16 a_1 sj bj b_10 [] [106] 16 F_13 F_23 (by decide) (by decide) (nne (by omega)) (by omega) (by omega) cs F_24 hcs) dp47m3_8 (wd hw 201 rfl) (wd hw 79 rfl) (wd hw 81 rfl) (wd hw 81 rfl) (wd hw 80 rfl) (wd hw 62 rfl) (wd hw 82 rfl) F_30 (by decide) (lenOf pd_19 rfl) rfl 0 rfl rfl (by decide) (by decide) (by decide) (by decide) (sl1 (by simp)) rfl (fun v_25 h_26 N_27 hQ_28 hle_29 => ?_)
  obtain ⟨rfl, K_20, F_21⟩ := hQ_28
  have szh_26 := nle K_20.1
  have F_22 : Sb Z h_26 a_1 b_10 16 [106] := F_21
  refine Go.rs [(.ref a_1)] rfl ?_
  refine Go.ldcR (pc' := 13) (a1 := a0) 16 (vs := [.int 32, .int 97, .int 115, .int 32]) (z := 4) dp47m3_11 rfl (wd hw 202 rfl) (own_ws hw) (by decide) (by decide) (by decide) (by decide) rfl (own_ew hw) (List.mem_of_getElem? (i := 18) rfl) ⟨by decide, by decide⟩ (by decide) (by decide) (fun a_31 h_32 b_33 k_34 E_35 X_36 F_37 F_38 A_39 ne_40 => ?_)
  have szh_32 := nle E_35.1
  have lta_31 := nlt X_36.lt
  have ltb_33 := nlt A_39.lt
  have nx_41 := nne2 (ne_40 b_10 (by simp))
  have nx_42 := nne2 (ne_40 a_1 (by simp))
  have T_43 : Str Z h_32 a_31 b_33 [32, 97, 115, 32] := ⟨X_36, F_37, F_38, k_34, A_39⟩
  have F_47 := (Sb.ext F_22 E_35)
  have F_48 := (Sta.ext E_35 (sta_keep F_24 K_20 (nsS (Exa.nostat F_30) (nsS (Sb.nsB F_13) ns0))))
  have F_54 := (Exa.ext E_35 (Exa.keep F_30 K_20))
  refine Go.callV (a1 := a0) (pc' := 16) (argsL := [(.ref a_31)]) (rest := []) (ct_app l Z a0 hw n0 h_32 a_1 a_31 b_33 b_10 [106] [32, 97, 115, 32] 16 F_47 T_43 (by decide) (by decide) (nne (by omega)) (by omega) (by omega) cs F_48 hcs) dp47m3_13 (wd hw 201 rfl) (wd hw 79 rfl) (wd hw 81 rfl) (wd hw 81 rfl) (wd hw 80 rfl) (wd hw 62 rfl) (wd hw 82 rfl) F_54 (by decide) (lenOf pd_19 rfl) rfl 0 rfl rfl (by decide) (by decide) (by decide) (by decide) (sl1 (by simp)) rfl (fun v_49 h_50 N_51 hQ_52 hle_53 => ?_)
  obtain ⟨rfl, K_44, F_45⟩ := hQ_52
  have szh_50 := nle K_44.1
  have F_46 : Sb Z h_50 a_1 b_10 16 [106, 32, 97, 115, 32] := F_45
  refine Go.rs [(.ref a_1)] rfl ?_
  refine Go.aloadN (pc' := 17) dp47m3_16 rfl rfl rfl ?_
  refine Go.iloadN (pc' := 18) dp47m3_17 rfl rfl ?_
  have F_55 := (Str.keep (Str.ext (Str.keep (Str.keep (Str.ext H1 E_3) K_12 (ninS (nne (by omega)) nin0) (ninS (nne (by omega)) nin0)) K_20 (ninS (nne (by omega)) (ninS (nne (by omega)) nin0)) (ninS (nne (by omega)) (ninS (nne (by omega)) nin0))) E_35) K_44 (ninS (nne (by omega)) (ninS (nne (by omega)) nin0)) (ninS (nne (by omega)) (ninS (nne (by omega)) nin0)))
  have F_56 := (Fld.keep (Fld.ext E_35 (Fld.keep (Fld.keep (Fld.ext E_3 FN) K_12 (ninS (nne (by omega)) nin0)) K_20 (ninS (nne (by omega)) (ninS (nne (by omega)) nin0)))) K_44 (ninS (nne (by omega)) (ninS (nne (by omega)) nin0)))
  have F_62 := (Exa.keep (Exa.ext E_35 (Exa.keep (Exa.keep (Exa.ext E_3 EX) K_12) K_20)) K_44)
  refine Go.callV (a1 := a0) (pc' := 21) (argsL := [(.int (0 : Int32))]) (rest := [(.ref a_1)]) (ct_pty0 l Z a0 hw n0 h_50 ll a1 s1 b1 F_55 F_56) dp47m3_18 (wd hw 203 rfl) (wd hw 204 rfl) (wd hw 205 rfl) (wd hw 205 rfl) (wd hw 52 rfl) (wd hw 26 rfl) (wd hw 56 rfl) F_62 (by decide) (lenOf pd_23 rfl) rfl 1 rfl rfl (by decide) (by decide) (by decide) (by decide) sl0 rfl (fun v_57 h_58 N_59 hQ_60 hle_61 => ?_)
  obtain ⟨rfl, rfl⟩ := hQ_60
  refine Go.rs [(.ref s1), (.ref a_1)] rfl ?_
  have F_66 := (sta_keep F_48 K_44 (nsS (Exa.nostat F_54) (nsS (Sb.nsB F_47) ns0)))
  have F_72 := (Exa.keep F_54 K_44)
  refine Go.callV (a1 := a0) (pc' := 24) (argsL := [(.ref s1)]) (rest := []) (ct_app l Z a0 hw n0 h_50 a_1 s1 b1 b_10 [106, 32, 97, 115, 32] ll 16 F_46 F_55 (by simp only [List.length_append, List.length_cons, List.length_nil]; omega) (by decide) (nne (by omega)) (by omega) (by omega) cs F_66 hcs) dp47m3_21 (wd hw 201 rfl) (wd hw 79 rfl) (wd hw 81 rfl) (wd hw 81 rfl) (wd hw 80 rfl) (wd hw 62 rfl) (wd hw 82 rfl) F_72 (by decide) (lenOf pd_19 rfl) rfl 0 rfl rfl (by decide) (by decide) (by decide) (by decide) (sl1 (by simp)) rfl (fun v_67 h_68 N_69 hQ_70 hle_71 => ?_)
  obtain ⟨rfl, K_63, F_64⟩ := hQ_70
  have szh_68 := nle K_63.1
  have F_65 : Sb Z h_68 a_1 b_10 16 ([106, 32, 97, 115, 32] ++ ll) := F_64
  refine Go.rs [(.ref a_1)] rfl ?_
  have F_73 := (sta_keep F_66 K_63 (nsS (Exa.nostat F_72) (nsS (Sb.nsB F_46) ns0)))
  have F_85 := (Exa.keep F_72 K_63)
  refine Go.callV (a1 := a0) (pc' := 27) (argsL := []) (rest := []) (ct_ts l Z a0 hw n0 h_68 a_1 b_10 ([106, 32, 97, 115, 32] ++ ll) 16 F_65 (by simp only [List.length_append, List.length_cons, List.length_nil]; omega) (by decide) (by simp only [List.length_append, List.length_cons, List.length_nil]; omega) (by omega) cs F_73 hcs) dp47m3_24 (wd hw 206 rfl) (wd hw 130 rfl) (wd hw 132 rfl) (wd hw 132 rfl) (wd hw 131 rfl) (wd hw 62 rfl) (wd hw 133 rfl) F_85 (by decide) (lenOf pd_20 rfl) rfl 0 rfl rfl (by decide) (by decide) (by decide) (by decide) sl0 rfl (fun v_80 h_81 N_82 hQ_83 hle_84 => ?_)
  obtain ⟨s_74, b_75, rfl, g_76, g_77, K_78, F_79⟩ := hQ_83
  have szh_81 := nle K_78.1
  have lts_74 := nlt F_79.lt
  have ltb_75 := nlt F_79.ltb
  have ges_74 := nle g_76
  have geb_75 := nle g_77
  refine Go.rs [(.ref s_74)] rfl ?_
  refine Go.retA rfl rfl rfl [] sl0 dp47m3_27 (by decide) (by decide) ?_
  exact ⟨s_74, b_75, rfl, by omega, by omega, (Keep.trans (Keep.trans (Keep.trans (Keep.ext (Keep.trans (Keep.trans (Keep.ext (Keep.refl _ []) E_3) K_12 (allS (Or.inr (by omega)) all0)) K_20 (allS (Or.inr (by omega)) (allS (Or.inr (by omega)) all0))) E_35) K_44 (allS (Or.inr (by omega)) (allS (Or.inr (by omega)) all0))) K_63 (allS (Or.inr (by omega)) (allS (Or.inr (by omega)) all0))) K_78 all0), F_79⟩
theorem ct_pfj1 (l : Launch) (Z : State) (a0 : Array Value) (hw : ∀ d ∈ tables_1, d.before a0 Z = true) (n0 : Nat) (h0 : Heap) (ll : List Int32) (a1 : Addr) (s1 b1 : Addr) (H1 : Str Z h0 s1 b1 ll) (FN : Fld Z h0 a1 "dev/typewright/dart/DartForm$PlainForm" "name" "Ljava/lang/String;" (.ref s1)) (EX : Exa Z h0 a1 "dev/typewright/dart/DartForm$PlainForm") (hl : ll.length ≤ 6) (sj bj : Addr) (Hj : Str Z h0 sj bj [106]) (hn0 : n0 ≤ h0.size) (cs : Int32) (S_cs : Sta Z h0 "java/lang/String" "COMPACT_STRINGS" "Z" (.int cs)) (hcs : ¬ cs = 0) :
    Ct l Z (⟨"dev/typewright/dart/DartForm$PlainForm", "fromJson", "(Ljava/lang/String;Z)Ljava/lang/String;"⟩ : MethodName) prog_47_method_3_code 3 (some (.object "java/lang/String")) ({ frames := 8, cells := 12, slots := 332, locals := 118 } : Room) EL1 n0 true [] #[(.ref a1), (.ref sj), (.int (1 : Int32))] h0 [] (fun v h N => ∃ s b, v = some (.ref s) ∧ h0.size ≤ s ∧ h0.size ≤ b ∧ Keep h0 h [] ∧ Str Z h s b ([106, 32, 97, 115, 32] ++ (ll ++ [63]))) := by
  refine Ct.of (a0 := a0) (plainFor_of_name pn_dev_typewright_dart_DartForm_PlainForm) (own_ew hw) (L0 := #[.val (.ref a1), .val (.ref sj), .val (.int (1 : Int32))]) (fun _ => rfl) ?_
  have lt_H1 := nlt H1.lt
  have ltb_H1 := nlt H1.ltb
  have lt_Hj := nlt Hj.lt
  have ltb_Hj := nlt Hj.ltb
  have l0_EX := nlt EX.lt
  refine Go.newO (pc' := 3) (a1 := a0) dp47m3_0 (wd hw 199 rfl) (wd hw 61 rfl) (wd hw 62 rfl) (by decide) (by decide) rfl (fun a_1 h_2 ha_4 E_3 X_5 Df_6 => ?_)
  have szh_2 := nle E_3.1
  have lta_1 := nlt X_5.lt
  have qa_1 := neq ha_4
  have F_7 : Fld Z h_2 a_1 "java/lang/AbstractStringBuilder" "value" "[B" (.null) := Df_6 (Or.inl (wd hw 75 rfl)) (ty := (.array .byte)) (by decide)
  have F_8 : Fld Z h_2 a_1 "java/lang/AbstractStringBuilder" "coder" "B" (.int (0 : Int32)) := Df_6 (Or.inl (wd hw 77 rfl)) (ty := .byte) (by decide)
  have F_9 : Fld Z h_2 a_1 "java/lang/AbstractStringBuilder" "count" "I" (.int (0 : Int32)) := Df_6 (Or.inl (wd hw 102 rfl)) (ty := .int) (by decide)
  refine Go.dup (pc' := 4) dp47m3_3 rfl rfl ?_
  have F_14 := (Sta.ext E_3 S_cs)
  refine Go.callN (a1 := a0) (pc' := 7) (argsL := []) (rest := [(.ref a_1)]) (ct_sbi0 l Z a0 hw n0 h_2 a_1 (by omega) X_5 F_9 F_8 F_7 cs F_14 hcs) dp47m3_4 rfl (wd hw 200 rfl) (wd hw 64 rfl) (wd hw 62 rfl) (wd hw 65 rfl) (by decide) (lenOf pd_18 rfl) rfl 1 rfl rfl (by decide) (by decide) (by decide) (by decide) sl0 rfl (fun v_15 h_16 N_17 hQ_18 hle_19 => ?_)
  obtain ⟨rfl, b_10, rfl, g_11, K_12, F_13⟩ := hQ_18
  have szh_16 := nle K_12.1
  have ltb_10 := nlt F_13.ltb
  have geb_10 := nle g_11
  refine Go.rs [(.ref a_1)] rfl ?_
  refine Go.aloadN (pc' := 8) dp47m3_7 rfl rfl rfl ?_
  have F_23 := (Str.keep (Str.ext Hj E_3) K_12 (ninS (nne (by omega)) nin0) (ninS (nne (by omega)) nin0))
  have F_24 := (sta_keep F_14 K_12 (nsS (Exa.nostat X_5) ns0))
  have F_30 := (Exa.keep X_5 K_12)
  refine Go.callV (a1 := a0) (pc' := 11) (argsL := [(.ref sj)]) (rest := []) (ct_app l Z a0 hw n0 h_16 a_1 sj bj b_10 [] [106] 16 F_13 F_23 (by decide) (by decide) (nne (by omega)) (by omega) (by omega) cs F_24 hcs) dp47m3_8 (wd hw 201 rfl) (wd hw 79 rfl) (wd hw 81 rfl) (wd hw 81 rfl) (wd hw 80 rfl) (wd hw 62 rfl) (wd hw 82 rfl) F_30 (by decide) (lenOf pd_19 rfl) rfl 0 rfl rfl (by decide) (by decide) (by decide) (by decide) (sl1 (by simp)) rfl (fun v_25 h_26 N_27 hQ_28 hle_29 => ?_)
  obtain ⟨rfl, K_20, F_21⟩ := hQ_28
  have szh_26 := nle K_20.1
  have F_22 : Sb Z h_26 a_1 b_10 16 [106] := F_21
  refine Go.rs [(.ref a_1)] rfl ?_
  refine Go.ldcR (pc' := 13) (a1 := a0) 16 (vs := [.int 32, .int 97, .int 115, .int 32]) (z := 4) dp47m3_11 rfl (wd hw 202 rfl) (own_ws hw) (by decide) (by decide) (by decide) (by decide) rfl (own_ew hw) (List.mem_of_getElem? (i := 18) rfl) ⟨by decide, by decide⟩ (by decide) (by decide) (fun a_31 h_32 b_33 k_34 E_35 X_36 F_37 F_38 A_39 ne_40 => ?_)
  have szh_32 := nle E_35.1
  have lta_31 := nlt X_36.lt
  have ltb_33 := nlt A_39.lt
  have nx_41 := nne2 (ne_40 b_10 (by simp))
  have nx_42 := nne2 (ne_40 a_1 (by simp))
  have T_43 : Str Z h_32 a_31 b_33 [32, 97, 115, 32] := ⟨X_36, F_37, F_38, k_34, A_39⟩
  have F_47 := (Sb.ext F_22 E_35)
  have F_48 := (Sta.ext E_35 (sta_keep F_24 K_20 (nsS (Exa.nostat F_30) (nsS (Sb.nsB F_13) ns0))))
  have F_54 := (Exa.ext E_35 (Exa.keep F_30 K_20))
  refine Go.callV (a1 := a0) (pc' := 16) (argsL := [(.ref a_31)]) (rest := []) (ct_app l Z a0 hw n0 h_32 a_1 a_31 b_33 b_10 [106] [32, 97, 115, 32] 16 F_47 T_43 (by decide) (by decide) (nne (by omega)) (by omega) (by omega) cs F_48 hcs) dp47m3_13 (wd hw 201 rfl) (wd hw 79 rfl) (wd hw 81 rfl) (wd hw 81 rfl) (wd hw 80 rfl) (wd hw 62 rfl) (wd hw 82 rfl) F_54 (by decide) (lenOf pd_19 rfl) rfl 0 rfl rfl (by decide) (by decide) (by decide) (by decide) (sl1 (by simp)) rfl (fun v_49 h_50 N_51 hQ_52 hle_53 => ?_)
  obtain ⟨rfl, K_44, F_45⟩ := hQ_52
  have szh_50 := nle K_44.1
  have F_46 : Sb Z h_50 a_1 b_10 16 [106, 32, 97, 115, 32] := F_45
  refine Go.rs [(.ref a_1)] rfl ?_
  refine Go.aloadN (pc' := 17) dp47m3_16 rfl rfl rfl ?_
  refine Go.iloadN (pc' := 18) dp47m3_17 rfl rfl ?_
  have F_55 := (Str.keep (Str.ext (Str.keep (Str.keep (Str.ext H1 E_3) K_12 (ninS (nne (by omega)) nin0) (ninS (nne (by omega)) nin0)) K_20 (ninS (nne (by omega)) (ninS (nne (by omega)) nin0)) (ninS (nne (by omega)) (ninS (nne (by omega)) nin0))) E_35) K_44 (ninS (nne (by omega)) (ninS (nne (by omega)) nin0)) (ninS (nne (by omega)) (ninS (nne (by omega)) nin0)))
  have F_56 := (Fld.keep (Fld.ext E_35 (Fld.keep (Fld.keep (Fld.ext E_3 FN) K_12 (ninS (nne (by omega)) nin0)) K_20 (ninS (nne (by omega)) (ninS (nne (by omega)) nin0)))) K_44 (ninS (nne (by omega)) (ninS (nne (by omega)) nin0)))
  have F_57 := (sta_keep F_48 K_44 (nsS (Exa.nostat F_54) (nsS (Sb.nsB F_47) ns0)))
  have F_69 := (Exa.keep (Exa.ext E_35 (Exa.keep (Exa.keep (Exa.ext E_3 EX) K_12) K_20)) K_44)
  refine Go.callV (a1 := a0) (pc' := 21) (argsL := [(.int (1 : Int32))]) (rest := [(.ref a_1)]) (ct_pty1 l Z a0 hw n0 h_50 ll a1 s1 b1 F_55 F_56 hl (by omega) cs F_57 hcs) dp47m3_18 (wd hw 203 rfl) (wd hw 204 rfl) (wd hw 205 rfl) (wd hw 205 rfl) (wd hw 52 rfl) (wd hw 26 rfl) (wd hw 56 rfl) F_69 (by decide) (lenOf pd_23 rfl) rfl 1 rfl rfl (by decide) (by decide) (by decide) (by decide) sl0 rfl (fun v_64 h_65 N_66 hQ_67 hle_68 => ?_)
  obtain ⟨s_58, b_59, rfl, g_60, g_61, K_62, F_63⟩ := hQ_67
  have szh_65 := nle K_62.1
  have lts_58 := nlt F_63.lt
  have ltb_59 := nlt F_63.ltb
  have ges_58 := nle g_60
  have geb_59 := nle g_61
  refine Go.rs [(.ref s_58), (.ref a_1)] rfl ?_
  have F_73 := (Sb.keep F_46 K_62 nin0 nin0)
  have F_74 := (sta_keep F_57 K_62 ns0)
  have F_80 := (Exa.keep (Exa.keep F_54 K_44) K_62)
  refine Go.callV (a1 := a0) (pc' := 24) (argsL := [(.ref s_58)]) (rest := []) (ct_app l Z a0 hw n0 h_65 a_1 s_58 b_59 b_10 [106, 32, 97, 115, 32] (ll ++ [63]) 16 F_73 F_63 (by simp only [List.length_append, List.length_cons, List.length_nil]; omega) (by decide) (nne (by omega)) (by omega) (by omega) cs F_74 hcs) dp47m3_21 (wd hw 201 rfl) (wd hw 79 rfl) (wd hw 81 rfl) (wd hw 81 rfl) (wd hw 80 rfl) (wd hw 62 rfl) (wd hw 82 rfl) F_80 (by decide) (lenOf pd_19 rfl) rfl 0 rfl rfl (by decide) (by decide) (by decide) (by decide) (sl1 (by simp)) rfl (fun v_75 h_76 N_77 hQ_78 hle_79 => ?_)
  obtain ⟨rfl, K_70, F_71⟩ := hQ_78
  have szh_76 := nle K_70.1
  have F_72 : Sb Z h_76 a_1 b_10 16 ([106, 32, 97, 115, 32] ++ (ll ++ [63])) := F_71
  refine Go.rs [(.ref a_1)] rfl ?_
  have F_81 := (sta_keep F_74 K_70 (nsS (Exa.nostat F_80) (nsS (Sb.nsB F_73) ns0)))
  have F_93 := (Exa.keep F_80 K_70)
  refine Go.callV (a1 := a0) (pc' := 27) (argsL := []) (rest := []) (ct_ts l Z a0 hw n0 h_76 a_1 b_10 ([106, 32, 97, 115, 32] ++ (ll ++ [63])) 16 F_72 (by simp only [List.length_append, List.length_cons, List.length_nil]; omega) (by decide) (by simp only [List.length_append, List.length_cons, List.length_nil]; omega) (by omega) cs F_81 hcs) dp47m3_24 (wd hw 206 rfl) (wd hw 130 rfl) (wd hw 132 rfl) (wd hw 132 rfl) (wd hw 131 rfl) (wd hw 62 rfl) (wd hw 133 rfl) F_93 (by decide) (lenOf pd_20 rfl) rfl 0 rfl rfl (by decide) (by decide) (by decide) (by decide) sl0 rfl (fun v_88 h_89 N_90 hQ_91 hle_92 => ?_)
  obtain ⟨s_82, b_83, rfl, g_84, g_85, K_86, F_87⟩ := hQ_91
  have szh_89 := nle K_86.1
  have lts_82 := nlt F_87.lt
  have ltb_83 := nlt F_87.ltb
  have ges_82 := nle g_84
  have geb_83 := nle g_85
  refine Go.rs [(.ref s_82)] rfl ?_
  refine Go.retA rfl rfl rfl [] sl0 dp47m3_27 (by decide) (by decide) ?_
  exact ⟨s_82, b_83, rfl, by omega, by omega, (Keep.trans (Keep.trans (Keep.trans (Keep.trans (Keep.ext (Keep.trans (Keep.trans (Keep.ext (Keep.refl _ []) E_3) K_12 (allS (Or.inr (by omega)) all0)) K_20 (allS (Or.inr (by omega)) (allS (Or.inr (by omega)) all0))) E_35) K_44 (allS (Or.inr (by omega)) (allS (Or.inr (by omega)) all0))) K_62 all0) K_70 (allS (Or.inr (by omega)) (allS (Or.inr (by omega)) all0))) K_86 all0), F_87⟩
theorem dp47m5_0 : decode prog_47_method_5_code 0 = .ok (.aload_n 0, 1) := by decide +kernel
theorem dp47m5_1 : decode prog_47_method_5_code 1 = .ok (.getfield 7, 3) := by decide +kernel
theorem dp47m5_4 : decode prog_47_method_5_code 4 = .ok (.areturn, 1) := by decide +kernel
theorem ct_pdt (l : Launch) (Z : State) (a0 : Array Value) (hw : ∀ d ∈ tables_1, d.before a0 Z = true) (n0 : Nat) (h0 : Heap) (ll : List Int32) (a1 : Addr) (s1 b1 : Addr) (H1 : Str Z h0 s1 b1 ll) (FN : Fld Z h0 a1 "dev/typewright/dart/DartForm$PlainForm" "name" "Ljava/lang/String;" (.ref s1)) :
    Ct l Z (⟨"dev/typewright/dart/DartForm$PlainForm", "decodedType", "()Ljava/lang/String;"⟩ : MethodName) prog_47_method_5_code 1 (some (.object "java/lang/String")) ({ frames := 0, cells := 0, slots := 0, locals := 0 } : Room) EL1 n0 true [] #[(.ref a1)] h0 [] (fun v h N => h0 = h ∧ v = some (.ref s1)) := by
  refine Ct.of (a0 := a0) (plainFor_of_name pn_dev_typewright_dart_DartForm_PlainForm) (own_ew hw) (L0 := #[.val (.ref a1)]) (fun _ => rfl) ?_
  refine Go.aloadN (pc' := 1) dp47m5_0 rfl rfl rfl ?_
  refine Go.getF (pc' := 4) (host := "") (a1 := a0) dp47m5_1 (Or.inl (wd hw 46 rfl)) Via.refl FN rfl ?_
  refine Go.retA rfl rfl rfl [] sl0 dp47m5_4 (by decide) (by decide) ?_
  exact ⟨rfl, rfl⟩
theorem dp47m4_0 : decode prog_47_method_4_code 0 = .ok (.aload_n 1, 1) := by decide +kernel
theorem dp47m4_1 : decode prog_47_method_4_code 1 = .ok (.areturn, 1) := by decide +kernel
theorem ct_ptj0 (l : Launch) (Z : State) (a0 : Array Value) (hw : ∀ d ∈ tables_1, d.before a0 Z = true) (n0 : Nat) (h0 : Heap) (a1 s1 : Addr) :
    Ct l Z (⟨"dev/typewright/dart/DartForm$PlainForm", "toJson", "(Ljava/lang/String;Z)Ljava/lang/String;"⟩ : MethodName) prog_47_method_4_code 3 (some (.object "java/lang/String")) ({ frames := 0, cells := 0, slots := 0, locals := 0 } : Room) EL1 n0 true [] #[(.ref a1), (.ref s1), (.int (0 : Int32))] h0 [] (fun v h N => h0 = h ∧ v = some (.ref s1)) := by
  refine Ct.of (a0 := a0) (plainFor_of_name pn_dev_typewright_dart_DartForm_PlainForm) (own_ew hw) (L0 := #[.val (.ref a1), .val (.ref s1), .val (.int (0 : Int32))]) (fun _ => rfl) ?_
  refine Go.aloadN (pc' := 1) dp47m4_0 rfl rfl rfl ?_
  refine Go.retA rfl rfl rfl [] sl0 dp47m4_1 (by decide) (by decide) ?_
  exact ⟨rfl, rfl⟩
theorem ct_ptj1 (l : Launch) (Z : State) (a0 : Array Value) (hw : ∀ d ∈ tables_1, d.before a0 Z = true) (n0 : Nat) (h0 : Heap) (a1 s1 : Addr) :
    Ct l Z (⟨"dev/typewright/dart/DartForm$PlainForm", "toJson", "(Ljava/lang/String;Z)Ljava/lang/String;"⟩ : MethodName) prog_47_method_4_code 3 (some (.object "java/lang/String")) ({ frames := 0, cells := 0, slots := 0, locals := 0 } : Room) EL1 n0 true [] #[(.ref a1), (.ref s1), (.int (1 : Int32))] h0 [] (fun v h N => h0 = h ∧ v = some (.ref s1)) := by
  refine Ct.of (a0 := a0) (plainFor_of_name pn_dev_typewright_dart_DartForm_PlainForm) (own_ew hw) (L0 := #[.val (.ref a1), .val (.ref s1), .val (.int (1 : Int32))]) (fun _ => rfl) ?_
  refine Go.aloadN (pc' := 1) dp47m4_0 rfl rfl rfl ?_
  refine Go.retA rfl rfl rfl [] sl0 dp47m4_1 (by decide) (by decide) ?_
  exact ⟨rfl, rfl⟩
theorem dp47m6_0 : decode prog_47_method_6_code 0 = .ok (.aload_n 1, 1) := by decide +kernel
theorem dp47m6_1 : decode prog_47_method_6_code 1 = .ok (.areturn, 1) := by decide +kernel
theorem ct_pfd (l : Launch) (Z : State) (a0 : Array Value) (hw : ∀ d ∈ tables_1, d.before a0 Z = true) (n0 : Nat) (h0 : Heap) (a1 s1 : Addr) :
    Ct l Z (⟨"dev/typewright/dart/DartForm$PlainForm", "fromDecoded", "(Ljava/lang/String;)Ljava/lang/String;"⟩ : MethodName) prog_47_method_6_code 2 (some (.object "java/lang/String")) ({ frames := 0, cells := 0, slots := 0, locals := 0 } : Room) EL1 n0 true [] #[(.ref a1), (.ref s1)] h0 [] (fun v h N => h0 = h ∧ v = some (.ref s1)) := by
  refine Ct.of (a0 := a0) (plainFor_of_name pn_dev_typewright_dart_DartForm_PlainForm) (own_ew hw) (L0 := #[.val (.ref a1), .val (.ref s1)]) (fun _ => rfl) ?_
  refine Go.aloadN (pc' := 1) dp47m6_0 rfl rfl rfl ?_
  refine Go.retA rfl rfl rfl [] sl0 dp47m6_1 (by decide) (by decide) ?_
  exact ⟨rfl, rfl⟩
theorem dp44m4_0 : decode prog_44_method_4_code 0 = .ok (.aload_n 1, 1) := by decide +kernel
theorem dp44m4_1 : decode prog_44_method_4_code 1 = .ok (.areturn, 1) := by decide +kernel
theorem ct_dtj0 (l : Launch) (Z : State) (a0 : Array Value) (hw : ∀ d ∈ tables_1, d.before a0 Z = true) (n0 : Nat) (h0 : Heap) (a1 s1 : Addr) :
    Ct l Z (⟨"dev/typewright/dart/DartForm$DoubleForm", "toJson", "(Ljava/lang/String;Z)Ljava/lang/String;"⟩ : MethodName) prog_44_method_4_code 3 (some (.object "java/lang/String")) ({ frames := 0, cells := 0, slots := 0, locals := 0 } : Room) EL1 n0 true [] #[(.ref a1), (.ref s1), (.int (0 : Int32))] h0 [] (fun v h N => h0 = h ∧ v = some (.ref s1)) := by
  refine Ct.of (a0 := a0) (plainFor_of_name pn_dev_typewright_dart_DartForm_DoubleForm) (own_ew hw) (L0 := #[.val (.ref a1), .val (.ref s1), .val (.int (0 : Int32))]) (fun _ => rfl) ?_
  refine Go.aloadN (pc' := 1) dp44m4_0 rfl rfl rfl ?_
  refine Go.retA rfl rfl rfl [] sl0 dp44m4_1 (by decide) (by decide) ?_
  exact ⟨rfl, rfl⟩
theorem ct_dtj1 (l : Launch) (Z : State) (a0 : Array Value) (hw : ∀ d ∈ tables_1, d.before a0 Z = true) (n0 : Nat) (h0 : Heap) (a1 s1 : Addr) :
    Ct l Z (⟨"dev/typewright/dart/DartForm$DoubleForm", "toJson", "(Ljava/lang/String;Z)Ljava/lang/String;"⟩ : MethodName) prog_44_method_4_code 3 (some (.object "java/lang/String")) ({ frames := 0, cells := 0, slots := 0, locals := 0 } : Room) EL1 n0 true [] #[(.ref a1), (.ref s1), (.int (1 : Int32))] h0 [] (fun v h N => h0 = h ∧ v = some (.ref s1)) := by
  refine Ct.of (a0 := a0) (plainFor_of_name pn_dev_typewright_dart_DartForm_DoubleForm) (own_ew hw) (L0 := #[.val (.ref a1), .val (.ref s1), .val (.int (1 : Int32))]) (fun _ => rfl) ?_
  refine Go.aloadN (pc' := 1) dp44m4_0 rfl rfl rfl ?_
  refine Go.retA rfl rfl rfl [] sl0 dp44m4_1 (by decide) (by decide) ?_
  exact ⟨rfl, rfl⟩
theorem dp44m2_0 : decode prog_44_method_2_code 0 = .ok (.ldc 7, 2) := by decide +kernel
theorem dp44m2_2 : decode prog_44_method_2_code 2 = .ok (.iload_n 1, 1) := by decide +kernel
theorem dp44m2_3 : decode prog_44_method_2_code 3 = .ok (.invokestatic 9, 3) := by decide +kernel
theorem dp44m2_6 : decode prog_44_method_2_code 6 = .ok (.areturn, 1) := by decide +kernel
theorem ct_dty_00 (l : Launch) (Z : State) (a0 : Array Value) (hw : ∀ d ∈ tables_1, d.before a0 Z = true) (n0 : Nat) (h0 : Heap) (a1 : Addr) (EX : Exa Z h0 a1 "dev/typewright/dart/DartForm$DoubleForm")  (hn0 : n0 ≤ h0.size) (cs : Int32) (S_cs : Sta Z h0 "java/lang/String" "COMPACT_STRINGS" "Z" (.int cs)) (hcs : ¬ cs = 0) :
    Ct l Z (⟨"dev/typewright/dart/DartForm$DoubleForm", "type", "(Z)Ljava/lang/String;"⟩ : MethodName) prog_44_method_2_code 2 (some (.object "java/lang/String")) ({ frames := 1, cells := 2, slots := 28, locals := 13 } : Room) EL1 n0 true [] #[(.ref a1), (.int (0 : Int32))] h0 [] (fun v h N => ∃ s b, v = some (.ref s) ∧ Keep h0 h [] ∧ Str Z h s b [100, 111, 117, 98, 108, 101]) := by
  refine Ct.of (a0 := a0) (plainFor_of_name pn_dev_typewright_dart_DartForm_DoubleForm) (own_ew hw) (L0 := #[.val (.ref a1), .val (.int (0 : Int32))]) (fun _ => rfl) ?_
  have l0_EX := nlt EX.lt
  refine Go.ldcR (pc' := 2) (a1 := a0) 24 (vs := [.int 100, .int 111, .int 117, .int 98, .int 108, .int 101]) (z := 6) dp44m2_0 rfl (wd hw 267 rfl) (own_ws hw) (by decide) (by decide) (by decide) (by decide) rfl (own_ew hw) (List.mem_of_getElem? (i := 12) rfl) ⟨by decide, by decide⟩ (by decide) (by decide) (fun a_1 h_2 b_3 k_4 E_5 X_6 F_7 F_8 A_9 ne_10 => ?_)
  have szh_2 := nle E_5.1
  have lta_1 := nlt X_6.lt
  have ltb_3 := nlt A_9.lt
  have T_11 : Str Z h_2 a_1 b_3 [100, 111, 117, 98, 108, 101] := ⟨X_6, F_7, F_8, k_4, A_9⟩
  refine Go.iloadN (pc' := 3) dp44m2_2 rfl rfl ?_
  refine Go.callSN (a1 := a0) (pc' := 6) (argsL := [(.ref a_1), (.int (0 : Int32))]) (rest := []) (ct_nul0 l Z a0 hw n0 h_2 a_1) dp44m2_3 (wd hw 268 rfl) (wd hw 58 rfl) (wd hw 10 rfl) (wd hw 59 rfl) (by decide) (lenOf pd_22 rfl) rfl 0 rfl rfl (by decide) (by decide) (by decide) (by decide) sl0 rfl (fun v_12 h_13 N_14 hQ_15 hle_16 => ?_)
  obtain ⟨rfl, rfl⟩ := hQ_15
  refine Go.rs [(.ref a_1)] rfl ?_
  refine Go.retA rfl rfl rfl [] sl0 dp44m2_6 (by decide) (by decide) ?_
  exact ⟨a_1, b_3, rfl, (Keep.ext (Keep.refl _ []) E_5), T_11⟩
theorem ct_dty_01 (l : Launch) (Z : State) (a0 : Array Value) (hw : ∀ d ∈ tables_1, d.before a0 Z = true) (n0 : Nat) (h0 : Heap) (a1 : Addr) (EX : Exa Z h0 a1 "dev/typewright/dart/DartForm$DoubleForm")  (hn0 : n0 ≤ h0.size) (cs : Int32) (S_cs : Sta Z h0 "java/lang/String" "COMPACT_STRINGS" "Z" (.int cs)) (hcs : ¬ cs = 0) :
    Ct l Z (⟨"dev/typewright/dart/DartForm$DoubleForm", "type", "(Z)Ljava/lang/String;"⟩ : MethodName) prog_44_method_2_code 2 (some (.object "java/lang/String")) ({ frames := 7, cells := 8, slots := 188, locals := 104 } : Room) EL1 n0 true [] #[(.ref a1), (.int (1 : Int32))] h0 [] (fun v h N => ∃ s b, v = some (.ref s) ∧ Keep h0 h [] ∧ Str Z h s b [100, 111, 117, 98, 108, 101, 63]) := by
  refine Ct.of (a0 := a0) (plainFor_of_name pn_dev_typewright_dart_DartForm_DoubleForm) (own_ew hw) (L0 := #[.val (.ref a1), .val (.int (1 : Int32))]) (fun _ => rfl) ?_
  have l0_EX := nlt EX.lt
  refine Go.ldcR (pc' := 2) (a1 := a0) 24 (vs := [.int 100, .int 111, .int 117, .int 98, .int 108, .int 101]) (z := 6) dp44m2_0 rfl (wd hw 267 rfl) (own_ws hw) (by decide) (by decide) (by decide) (by decide) rfl (own_ew hw) (List.mem_of_getElem? (i := 12) rfl) ⟨by decide, by decide⟩ (by decide) (by decide) (fun a_1 h_2 b_3 k_4 E_5 X_6 F_7 F_8 A_9 ne_10 => ?_)
  have szh_2 := nle E_5.1
  have lta_1 := nlt X_6.lt
  have ltb_3 := nlt A_9.lt
  have T_11 : Str Z h_2 a_1 b_3 [100, 111, 117, 98, 108, 101] := ⟨X_6, F_7, F_8, k_4, A_9⟩
  refine Go.iloadN (pc' := 3) dp44m2_2 rfl rfl ?_
  have F_12 := (Sta.ext E_5 S_cs)
  refine Go.callSN (a1 := a0) (pc' := 6) (argsL := [(.ref a_1), (.int (1 : Int32))]) (rest := []) (ct_nul1 l Z a0 hw n0 h_2 [100, 111, 117, 98, 108, 101] a_1 b_3 T_11 (by decide) (by omega) cs F_12 hcs) dp44m2_3 (wd hw 268 rfl) (wd hw 58 rfl) (wd hw 10 rfl) (wd hw 59 rfl) (by decide) (lenOf pd_22 rfl) rfl 0 rfl rfl (by decide) (by decide) (by decide) (by decide) sl0 rfl (fun v_19 h_20 N_21 hQ_22 hle_23 => ?_)
  obtain ⟨s_13, b_14, rfl, g_15, g_16, K_17, F_18⟩ := hQ_22
  have szh_20 := nle K_17.1
  have lts_13 := nlt F_18.lt
  have ltb_14 := nlt F_18.ltb
  have ges_13 := nle g_15
  have geb_14 := nle g_16
  refine Go.rs [(.ref s_13)] rfl ?_
  refine Go.retA rfl rfl rfl [] sl0 dp44m2_6 (by decide) (by decide) ?_
  exact ⟨s_13, b_14, rfl, (Keep.trans (Keep.ext (Keep.refl _ []) E_5) K_17 all0), F_18⟩
theorem dp44m3_0 : decode prog_44_method_3_code 0 = .ok (.iload_n 2, 1) := by decide +kernel
theorem dp44m3_1 : decode prog_44_method_3_code 1 = .ok (.ifCond .eq 30, 3) := by decide +kernel
theorem dp44m3_31 : decode prog_44_method_3_code 31 = .ok (.new 15, 3) := by decide +kernel
theorem dp44m3_34 : decode prog_44_method_3_code 34 = .ok (.dup, 1) := by decide +kernel
theorem dp44m3_35 : decode prog_44_method_3_code 35 = .ok (.invokespecial 17, 3) := by decide +kernel
theorem dp44m3_38 : decode prog_44_method_3_code 38 = .ok (.ldc 18, 2) := by decide +kernel
theorem dp44m3_40 : decode prog_44_method_3_code 40 = .ok (.invokevirtual 20, 3) := by decide +kernel
theorem dp44m3_43 : decode prog_44_method_3_code 43 = .ok (.aload_n 1, 1) := by decide +kernel
theorem dp44m3_44 : decode prog_44_method_3_code 44 = .ok (.invokevirtual 20, 3) := by decide +kernel
theorem dp44m3_47 : decode prog_44_method_3_code 47 = .ok (.ldc 30, 2) := by decide +kernel
theorem dp44m3_49 : decode prog_44_method_3_code 49 = .ok (.invokevirtual 20, 3) := by decide +kernel
theorem dp44m3_52 : decode prog_44_method_3_code 52 = .ok (.invokevirtual 26, 3) := by decide +kernel
theorem dp44m3_55 : decode prog_44_method_3_code 55 = .ok (.areturn, 1) := by decide +kernel
theorem ct_dfj_j10 (l : Launch) (Z : State) (a0 : Array Value) (hw : ∀ d ∈ tables_1, d.before a0 Z = true) (n0 : Nat) (h0 : Heap) (a1 : Addr) (EX : Exa Z h0 a1 "dev/typewright/dart/DartForm$DoubleForm") (sj bj : Addr) (Hj : Str Z h0 sj bj [106]) (hn0 : n0 ≤ h0.size) (cs : Int32) (S_cs : Sta Z h0 "java/lang/String" "COMPACT_STRINGS" "Z" (.int cs)) (hcs : ¬ cs = 0) :
    Ct l Z (⟨"dev/typewright/dart/DartForm$DoubleForm", "fromJson", "(Ljava/lang/String;Z)Ljava/lang/String;"⟩ : MethodName) prog_44_method_3_code 3 (some (.object "java/lang/String")) ({ frames := 6, cells := 9, slots := 368, locals := 91 } : Room) EL1 n0 true [] #[(.ref a1), (.ref sj), (.int (0 : Int32))] h0 [] (fun v h N => ∃ s b, v = some (.ref s) ∧ Keep h0 h [] ∧ Str Z h s b [40, 106, 32, 97, 115, 32, 110, 117, 109, 41, 46, 116, 111, 68, 111, 117, 98, 108, 101, 40, 41]) := by
  refine Ct.of (a0 := a0) (plainFor_of_name pn_dev_typewright_dart_DartForm_DoubleForm) (own_ew hw) (L0 := #[.val (.ref a1), .val (.ref sj), .val (.int (0 : Int32))]) (fun _ => rfl) ?_
  have lt_Hj := nlt Hj.lt
  have ltb_Hj := nlt Hj.ltb
  have l0_EX := nlt EX.lt
  refine Go.iloadN (pc' := 1) dp44m3_0 rfl rfl ?_
  refine Go.ifT (pc' := 31) dp44m3_1 (show (0 : Int32) = (0 : Int32) by decide) (by decide) (by decide) ?_
  refine Go.newO (pc' := 34) (a1 := a0) dp44m3_31 (wd hw 275 rfl) (wd hw 61 rfl) (wd hw 62 rfl) (by decide) (by decide) rfl (fun a_1 h_2 ha_4 E_3 X_5 Df_6 => ?_)
  have szh_2 := nle E_3.1
  have lta_1 := nlt X_5.lt
  have qa_1 := neq ha_4
  have F_7 : Fld Z h_2 a_1 "java/lang/AbstractStringBuilder" "value" "[B" (.null) := Df_6 (Or.inl (wd hw 75 rfl)) (ty := (.array .byte)) (by decide)
  have F_8 : Fld Z h_2 a_1 "java/lang/AbstractStringBuilder" "coder" "B" (.int (0 : Int32)) := Df_6 (Or.inl (wd hw 77 rfl)) (ty := .byte) (by decide)
  have F_9 : Fld Z h_2 a_1 "java/lang/AbstractStringBuilder" "count" "I" (.int (0 : Int32)) := Df_6 (Or.inl (wd hw 102 rfl)) (ty := .int) (by decide)
  refine Go.dup (pc' := 35) dp44m3_34 rfl rfl ?_
  have F_14 := (Sta.ext E_3 S_cs)
  refine Go.callN (a1 := a0) (pc' := 38) (argsL := []) (rest := [(.ref a_1)]) (ct_sbi0 l Z a0 hw n0 h_2 a_1 (by omega) X_5 F_9 F_8 F_7 cs F_14 hcs) dp44m3_35 rfl (wd hw 276 rfl) (wd hw 64 rfl) (wd hw 62 rfl) (wd hw 65 rfl) (by decide) (lenOf pd_18 rfl) rfl 1 rfl rfl (by decide) (by decide) (by decide) (by decide) sl0 rfl (fun v_15 h_16 N_17 hQ_18 hle_19 => ?_)
  obtain ⟨rfl, b_10, rfl, g_11, K_12, F_13⟩ := hQ_18
  have szh_16 := nle K_12.1
  have ltb_10 := nlt F_13.ltb
  have geb_10 := nle g_11
  refine Go.rs [(.ref a_1)] rfl ?_
  refine Go.ldcR (pc' := 40) (a1 := a0) 4 (vs := [.int 40]) (z := 1) dp44m3_38 rfl (wd hw 277 rfl) (own_ws hw) (by decide) (by decide) (by decide) (by decide) rfl (own_ew hw) (List.mem_of_getElem? (i := 13) rfl) ⟨by decide, by decide⟩ (by decide) (by decide) (fun a_20 h_21 b_22 k_23 E_24 X_25 F_26 F_27 A_28 ne_29 => ?_)
  have szh_21 := nle E_24.1
  have lta_20 := nlt X_25.lt
  have ltb_22 := nlt A_28.lt
  have nx_30 := nne2 (ne_29 b_10 (by simp))
  have nx_31 := nne2 (ne_29 a_1 (by simp))
  have T_32 : Str Z h_21 a_20 b_22 [40] := ⟨X_25, F_26, F_27, k_23, A_28⟩
  have F_36 := (Sb.ext F_13 E_24)
  have F_37 := (Sta.ext E_24 (sta_keep F_14 K_12 (nsS (Exa.nostat X_5) ns0)))
  have F_43 := (Exa.ext E_24 (Exa.keep X_5 K_12))
  refine Go.callV (a1 := a0) (pc' := 43) (argsL := [(.ref a_20)]) (rest := []) (ct_app l Z a0 hw n0 h_21 a_1 a_20 b_22 b_10 [] [40] 16 F_36 T_32 (by decide) (by decide) (nne (by omega)) (by omega) (by omega) cs F_37 hcs) dp44m3_40 (wd hw 278 rfl) (wd hw 79 rfl) (wd hw 81 rfl) (wd hw 81 rfl) (wd hw 80 rfl) (wd hw 62 rfl) (wd hw 82 rfl) F_43 (by decide) (lenOf pd_19 rfl) rfl 0 rfl rfl (by decide) (by decide) (by decide) (by decide) (sl1 (by simp)) rfl (fun v_38 h_39 N_40 hQ_41 hle_42 => ?_)
  obtain ⟨rfl, K_33, F_34⟩ := hQ_41
  have szh_39 := nle K_33.1
  have F_35 : Sb Z h_39 a_1 b_10 16 [40] := F_34
  refine Go.rs [(.ref a_1)] rfl ?_
  refine Go.aloadN (pc' := 44) dp44m3_43 rfl rfl rfl ?_
  have F_47 := (Str.keep (Str.ext (Str.keep (Str.ext Hj E_3) K_12 (ninS (nne (by omega)) nin0) (ninS (nne (by omega)) nin0)) E_24) K_33 (ninS (nne (by omega)) (ninS (nne (by omega)) nin0)) (ninS (nne (by omega)) (ninS (nne (by omega)) nin0)))
  have F_48 := (sta_keep F_37 K_33 (nsS (Exa.nostat F_43) (nsS (Sb.nsB F_36) ns0)))
  have F_54 := (Exa.keep F_43 K_33)
  refine Go.callV (a1 := a0) (pc' := 47) (argsL := [(.ref sj)]) (rest := []) (ct_app l Z a0 hw n0 h_39 a_1 sj bj b_10 [40] [106] 16 F_35 F_47 (by decide) (by decide) (nne (by omega)) (by omega) (by omega) cs F_48 hcs) dp44m3_44 (wd hw 278 rfl) (wd hw 79 rfl) (wd hw 81 rfl) (wd hw 81 rfl) (wd hw 80 rfl) (wd hw 62 rfl) (wd hw 82 rfl) F_54 (by decide) (lenOf pd_19 rfl) rfl 0 rfl rfl (by decide) (by decide) (by decide) (by decide) (sl1 (by simp)) rfl (fun v_49 h_50 N_51 hQ_52 hle_53 => ?_)
  obtain ⟨rfl, K_44, F_45⟩ := hQ_52
  have szh_50 := nle K_44.1
  have F_46 : Sb Z h_50 a_1 b_10 16 [40, 106] := F_45
  refine Go.rs [(.ref a_1)] rfl ?_
  refine Go.ldcR (pc' := 49) (a1 := a0) 76 (vs := [.int 32, .int 97, .int 115, .int 32, .int 110, .int 117, .int 109, .int 41, .int 46, .int 116, .int 111, .int 68, .int 111, .int 117, .int 98, .int 108, .int 101, .int 40, .int 41]) (z := 19) dp44m3_47 rfl (wd hw 279 rfl) (own_ws hw) (by decide) (by decide) (by decide) (by decide) rfl (own_ew hw) (List.mem_of_getElem? (i := 15) rfl) ⟨by decide, by decide⟩ (by decide) (by decide) (fun a_55 h_56 b_57 k_58 E_59 X_60 F_61 F_62 A_63 ne_64 => ?_)
  have szh_56 := nle E_59.1
  have lta_55 := nlt X_60.lt
  have ltb_57 := nlt A_63.lt
  have nx_65 := nne2 (ne_64 b_10 (by simp))
  have nx_66 := nne2 (ne_64 a_1 (by simp))
  have T_67 : Str Z h_56 a_55 b_57 [32, 97, 115, 32, 110, 117, 109, 41, 46, 116, 111, 68, 111, 117, 98, 108, 101, 40, 41] := ⟨X_60, F_61, F_62, k_58, A_63⟩
  have F_73 := (Sb.ext F_46 E_59)
  have F_74 := (Sta.ext E_59 (sta_keep F_48 K_44 (nsS (Exa.nostat F_54) (nsS (Sb.nsB F_35) ns0))))
  have F_80 := (Exa.ext E_59 (Exa.keep F_54 K_44))
  refine Go.callV (a1 := a0) (pc' := 52) (argsL := [(.ref a_55)]) (rest := []) (ct_appG l Z a0 hw n0 h_56 a_1 a_55 b_57 b_10 [40, 106] [32, 97, 115, 32, 110, 117, 109, 41, 46, 116, 111, 68, 111, 117, 98, 108, 101, 40, 41] 16 F_73 T_67 (by decide) (by decide) (by decide) (nne (by omega)) (by omega) cs F_74 hcs) dp44m3_49 (wd hw 278 rfl) (wd hw 79 rfl) (wd hw 81 rfl) (wd hw 81 rfl) (wd hw 80 rfl) (wd hw 62 rfl) (wd hw 82 rfl) F_80 (by decide) (lenOf pd_19 rfl) rfl 0 rfl rfl (by decide) (by decide) (by decide) (by decide) sl0 rfl (fun v_75 h_76 N_77 hQ_78 hle_79 => ?_)
  obtain ⟨rfl, d_71, rfl, g_72, K_68, F_69⟩ := hQ_78
  have ltd_71 := nlt F_69.ltb
  have ged_71 := nle g_72
  have szh_76 := nle K_68.1
  have F_70 : Sb Z h_76 a_1 d_71 34 [40, 106, 32, 97, 115, 32, 110, 117, 109, 41, 46, 116, 111, 68, 111, 117, 98, 108, 101, 40, 41] := F_69
  refine Go.rs [(.ref a_1)] rfl ?_
  have F_81 := (sta_keep F_74 K_68 (nsS (Exa.nostat F_80) ns0))
  have F_93 := (Exa.keep F_80 K_68)
  refine Go.callV (a1 := a0) (pc' := 55) (argsL := []) (rest := []) (ct_ts l Z a0 hw n0 h_76 a_1 d_71 [40, 106, 32, 97, 115, 32, 110, 117, 109, 41, 46, 116, 111, 68, 111, 117, 98, 108, 101, 40, 41] 34 F_70 (by decide) (by decide) (by decide) (by omega) cs F_81 hcs) dp44m3_52 (wd hw 297 rfl) (wd hw 130 rfl) (wd hw 132 rfl) (wd hw 132 rfl) (wd hw 131 rfl) (wd hw 62 rfl) (wd hw 133 rfl) F_93 (by decide) (lenOf pd_20 rfl) rfl 0 rfl rfl (by decide) (by decide) (by decide) (by decide) sl0 rfl (fun v_88 h_89 N_90 hQ_91 hle_92 => ?_)
  obtain ⟨s_82, b_83, rfl, g_84, g_85, K_86, F_87⟩ := hQ_91
  have szh_89 := nle K_86.1
  have lts_82 := nlt F_87.lt
  have ltb_83 := nlt F_87.ltb
  have ges_82 := nle g_84
  have geb_83 := nle g_85
  refine Go.rs [(.ref s_82)] rfl ?_
  refine Go.retA rfl rfl rfl [] sl0 dp44m3_55 (by decide) (by decide) ?_
  exact ⟨s_82, b_83, rfl, (Keep.trans (Keep.trans (Keep.ext (Keep.trans (Keep.trans (Keep.ext (Keep.trans (Keep.ext (Keep.refl _ []) E_3) K_12 (allS (Or.inr (by omega)) all0)) E_24) K_33 (allS (Or.inr (by omega)) (allS (Or.inr (by omega)) all0))) K_44 (allS (Or.inr (by omega)) (allS (Or.inr (by omega)) all0))) E_59) K_68 (allS (Or.inr (by omega)) all0)) K_86 all0), F_87⟩
theorem dp44m3_4 : decode prog_44_method_3_code 4 = .ok (.new 15, 3) := by decide +kernel
theorem dp44m3_7 : decode prog_44_method_3_code 7 = .ok (.dup, 1) := by decide +kernel
theorem dp44m3_8 : decode prog_44_method_3_code 8 = .ok (.invokespecial 17, 3) := by decide +kernel
theorem dp44m3_11 : decode prog_44_method_3_code 11 = .ok (.ldc 18, 2) := by decide +kernel
theorem dp44m3_13 : decode prog_44_method_3_code 13 = .ok (.invokevirtual 20, 3) := by decide +kernel
theorem dp44m3_16 : decode prog_44_method_3_code 16 = .ok (.aload_n 1, 1) := by decide +kernel
theorem dp44m3_17 : decode prog_44_method_3_code 17 = .ok (.invokevirtual 20, 3) := by decide +kernel
theorem dp44m3_20 : decode prog_44_method_3_code 20 = .ok (.ldc 24, 2) := by decide +kernel
theorem dp44m3_22 : decode prog_44_method_3_code 22 = .ok (.invokevirtual 20, 3) := by decide +kernel
theorem dp44m3_25 : decode prog_44_method_3_code 25 = .ok (.invokevirtual 26, 3) := by decide +kernel
theorem dp44m3_28 : decode prog_44_method_3_code 28 = .ok (.goto 27, 3) := by decide +kernel
theorem ct_dfj_j11 (l : Launch) (Z : State) (a0 : Array Value) (hw : ∀ d ∈ tables_1, d.before a0 Z = true) (n0 : Nat) (h0 : Heap) (a1 : Addr) (EX : Exa Z h0 a1 "dev/typewright/dart/DartForm$DoubleForm") (sj bj : Addr) (Hj : Str Z h0 sj bj [106]) (hn0 : n0 ≤ h0.size) (cs : Int32) (S_cs : Sta Z h0 "java/lang/String" "COMPACT_STRINGS" "Z" (.int cs)) (hcs : ¬ cs = 0) :
    Ct l Z (⟨"dev/typewright/dart/DartForm$DoubleForm", "fromJson", "(Ljava/lang/String;Z)Ljava/lang/String;"⟩ : MethodName) prog_44_method_3_code 3 (some (.object "java/lang/String")) ({ frames := 6, cells := 9, slots := 376, locals := 91 } : Room) EL1 n0 true [] #[(.ref a1), (.ref sj), (.int (1 : Int32))] h0 [] (fun v h N => ∃ s b, v = some (.ref s) ∧ Keep h0 h [] ∧ Str Z h s b [40, 106, 32, 97, 115, 32, 110, 117, 109, 63, 41, 63, 46, 116, 111, 68, 111, 117, 98, 108, 101, 40, 41]) := by
  refine Ct.of (a0 := a0) (plainFor_of_name pn_dev_typewright_dart_DartForm_DoubleForm) (own_ew hw) (L0 := #[.val (.ref a1), .val (.ref sj), .val (.int (1 : Int32))]) (fun _ => rfl) ?_
  have lt_Hj := nlt Hj.lt
  have ltb_Hj := nlt Hj.ltb
  have l0_EX := nlt EX.lt
  refine Go.iloadN (pc' := 1) dp44m3_0 rfl rfl ?_
  refine Go.ifF (pc' := 4) dp44m3_1 (show ¬ ((1 : Int32) = (0 : Int32)) by decide) rfl ?_
  refine Go.newO (pc' := 7) (a1 := a0) dp44m3_4 (wd hw 275 rfl) (wd hw 61 rfl) (wd hw 62 rfl) (by decide) (by decide) rfl (fun a_1 h_2 ha_4 E_3 X_5 Df_6 => ?_)
  have szh_2 := nle E_3.1
  have lta_1 := nlt X_5.lt
  have qa_1 := neq ha_4
  have F_7 : Fld Z h_2 a_1 "java/lang/AbstractStringBuilder" "value" "[B" (.null) := Df_6 (Or.inl (wd hw 75 rfl)) (ty := (.array .byte)) (by decide)
  have F_8 : Fld Z h_2 a_1 "java/lang/AbstractStringBuilder" "coder" "B" (.int (0 : Int32)) := Df_6 (Or.inl (wd hw 77 rfl)) (ty := .byte) (by decide)
  have F_9 : Fld Z h_2 a_1 "java/lang/AbstractStringBuilder" "count" "I" (.int (0 : Int32)) := Df_6 (Or.inl (wd hw 102 rfl)) (ty := .int) (by decide)
  refine Go.dup (pc' := 8) dp44m3_7 rfl rfl ?_
  have F_14 := (Sta.ext E_3 S_cs)
  refine Go.callN (a1 := a0) (pc' := 11) (argsL := []) (rest := [(.ref a_1)]) (ct_sbi0 l Z a0 hw n0 h_2 a_1 (by omega) X_5 F_9 F_8 F_7 cs F_14 hcs) dp44m3_8 rfl (wd hw 276 rfl) (wd hw 64 rfl) (wd hw 62 rfl) (wd hw 65 rfl) (by decide) (lenOf pd_18 rfl) rfl 1 rfl rfl (by decide) (by decide) (by decide) (by decide) sl0 rfl (fun v_15 h_16 N_17 hQ_18 hle_19 => ?_)
  obtain ⟨rfl, b_10, rfl, g_11, K_12, F_13⟩ := hQ_18
  have szh_16 := nle K_12.1
  have ltb_10 := nlt F_13.ltb
  have geb_10 := nle g_11
  refine Go.rs [(.ref a_1)] rfl ?_
  refine Go.ldcR (pc' := 13) (a1 := a0) 4 (vs := [.int 40]) (z := 1) dp44m3_11 rfl (wd hw 277 rfl) (own_ws hw) (by decide) (by decide) (by decide) (by decide) rfl (own_ew hw) (List.mem_of_getElem? (i := 13) rfl) ⟨by decide, by decide⟩ (by decide) (by decide) (fun a_20 h_21 b_22 k_23 E_24 X_25 F_26 F_27 A_28 ne_29 => ?_)
  have szh_21 := nle E_24.1
  have lta_20 := nlt X_25.lt
  have ltb_22 := nlt A_28.lt
  have nx_30 := nne2 (ne_29 b_10 (by simp))
  have nx_31 := nne2 (ne_29 a_1 (by simp))
  have T_32 : Str Z h_21 a_20 b_22 [40] := ⟨X_25, F_26, F_27, k_23, A_28⟩
  have F_36 := (Sb.ext F_13 E_24)
  have F_37 := (Sta.ext E_24 (sta_keep F_14 K_12 (nsS (Exa.nostat X_5) ns0)))
  have F_43 := (Exa.ext E_24 (Exa.keep X_5 K_12))
  refine Go.callV (a1 := a0) (pc' := 16) (argsL := [(.ref a_20)]) (rest := []) (ct_app l Z a0 hw n0 h_21 a_1 a_20 b_22 b_10 [] [40] 16 F_36 T_32 (by decide) (by decide) (nne (by omega)) (by omega) (by omega) cs F_37 hcs) dp44m3_13 (wd hw 278 rfl) (wd hw 79 rfl) (wd hw 81 rfl) (wd hw 81 rfl) (wd hw 80 rfl) (wd hw 62 rfl) (wd hw 82 rfl) F_43 (by decide) (lenOf pd_19 rfl) rfl 0 rfl rfl (by decide) (by decide) (by decide) (by decide) (sl1 (by simp)) rfl (fun v_38 h_39 N_40 hQ_41 hle_42 => ?_)
  obtain ⟨rfl, K_33, F_34⟩ := hQ_41
  have szh_39 := nle K_33.1
  have F_35 : Sb Z h_39 a_1 b_10 16 [40] := F_34
  refine Go.rs [(.ref a_1)] rfl ?_
  refine Go.aloadN (pc' := 17) dp44m3_16 rfl rfl rfl ?_
  have F_47 := (Str.keep (Str.ext (Str.keep (Str.ext Hj E_3) K_12 (ninS (nne (by omega)) nin0) (ninS (nne (by omega)) nin0)) E_24) K_33 (ninS (nne (by omega)) (ninS (nne (by omega)) nin0)) (ninS (nne (by omega)) (ninS (nne (by omega)) nin0)))
  have F_48 := (sta_keep F_37 K_33 (nsS (Exa.nostat F_43) (nsS (Sb.nsB F_36) ns0)))
  have F_54 := (Exa.keep F_43 K_33)
  refine Go.callV (a1 := a0) (pc' := 20) (argsL := [(.ref sj)]) (rest := []) (ct_app l Z a0 hw n0 h_39 a_1 sj bj b_10 [40] [106] 16 F_35 F_47 (by decide) (by decide) (nne (by omega)) (by omega) (by omega) cs F_48 hcs) dp44m3_17 (wd hw 278 rfl) (wd hw 79 rfl) (wd hw 81 rfl) (wd hw 81 rfl) (wd hw 80 rfl) (wd hw 62 rfl) (wd hw 82 rfl) F_54 (by decide) (lenOf pd_19 rfl) rfl 0 rfl rfl (by decide) (by decide) (by decide) (by decide) (sl1 (by simp)) rfl (fun v_49 h_50 N_51 hQ_52 hle_53 => ?_)
  obtain ⟨rfl, K_44, F_45⟩ := hQ_52
  have szh_50 := nle K_44.1
  have F_46 : Sb Z h_50 a_1 b_10 16 [40, 106] := F_45
  refine Go.rs [(.ref a_1)] rfl ?_
  refine Go.ldcR (pc' := 22) (a1 := a0) 84 (vs := [.int 32, .int 97, .int 115, .int 32, .int 110, .int 117, .int 109, .int 63, .int 41, .int 63, .int 46, .int 116, .int 111, .int 68, .int 111, .int 117, .int 98, .int 108, .int 101, .int 40, .int 41]) (z := 21) dp44m3_20 rfl (wd hw 390 rfl) (own_ws hw) (by decide) (by decide) (by decide) (by decide) rfl (own_ew hw) (List.mem_of_getElem? (i := 14) rfl) ⟨by decide, by decide⟩ (by decide) (by decide) (fun a_55 h_56 b_57 k_58 E_59 X_60 F_61 F_62 A_63 ne_64 => ?_)
  have szh_56 := nle E_59.1
  have lta_55 := nlt X_60.lt
  have ltb_57 := nlt A_63.lt
  have nx_65 := nne2 (ne_64 b_10 (by simp))
  have nx_66 := nne2 (ne_64 a_1 (by simp))
  have T_67 : Str Z h_56 a_55 b_57 [32, 97, 115, 32, 110, 117, 109, 63, 41, 63, 46, 116, 111, 68, 111, 117, 98, 108, 101, 40, 41] := ⟨X_60, F_61, F_62, k_58, A_63⟩
  have F_73 := (Sb.ext F_46 E_59)
  have F_74 := (Sta.ext E_59 (sta_keep F_48 K_44 (nsS (Exa.nostat F_54) (nsS (Sb.nsB F_35) ns0))))
  have F_80 := (Exa.ext E_59 (Exa.keep F_54 K_44))
  refine Go.callV (a1 := a0) (pc' := 25) (argsL := [(.ref a_55)]) (rest := []) (ct_appG l Z a0 hw n0 h_56 a_1 a_55 b_57 b_10 [40, 106] [32, 97, 115, 32, 110, 117, 109, 63, 41, 63, 46, 116, 111, 68, 111, 117, 98, 108, 101, 40, 41] 16 F_73 T_67 (by decide) (by decide) (by decide) (nne (by omega)) (by omega) cs F_74 hcs) dp44m3_22 (wd hw 278 rfl) (wd hw 79 rfl) (wd hw 81 rfl) (wd hw 81 rfl) (wd hw 80 rfl) (wd hw 62 rfl) (wd hw 82 rfl) F_80 (by decide) (lenOf pd_19 rfl) rfl 0 rfl rfl (by decide) (by decide) (by decide) (by decide) sl0 rfl (fun v_75 h_76 N_77 hQ_78 hle_79 => ?_)
  obtain ⟨rfl, d_71, rfl, g_72, K_68, F_69⟩ := hQ_78
  have ltd_71 := nlt F_69.ltb
  have ged_71 := nle g_72
  have szh_76 := nle K_68.1
  have F_70 : Sb Z h_76 a_1 d_71 34 [40, 106, 32, 97, 115, 32, 110, 117, 109, 63, 41, 63, 46, 116, 111, 68, 111, 117, 98, 108, 101, 40, 41] := F_69
  refine Go.rs [(.ref a_1)] rfl ?_
  have F_81 := (sta_keep F_74 K_68 (nsS (Exa.nostat F_80) ns0))
  have F_93 := (Exa.keep F_80 K_68)
  refine Go.callV (a1 := a0) (pc' := 28) (argsL := []) (rest := []) (ct_ts l Z a0 hw n0 h_76 a_1 d_71 [40, 106, 32, 97, 115, 32, 110, 117, 109, 63, 41, 63, 46, 116, 111, 68, 111, 117, 98, 108, 101, 40, 41] 34 F_70 (by decide) (by decide) (by decide) (by omega) cs F_81 hcs) dp44m3_25 (wd hw 297 rfl) (wd hw 130 rfl) (wd hw 132 rfl) (wd hw 132 rfl) (wd hw 131 rfl) (wd hw 62 rfl) (wd hw 133 rfl) F_93 (by decide) (lenOf pd_20 rfl) rfl 0 rfl rfl (by decide) (by decide) (by decide) (by decide) sl0 rfl (fun v_88 h_89 N_90 hQ_91 hle_92 => ?_)
  obtain ⟨s_82, b_83, rfl, g_84, g_85, K_86, F_87⟩ := hQ_91
  have szh_89 := nle K_86.1
  have lts_82 := nlt F_87.lt
  have ltb_83 := nlt F_87.ltb
  have ges_82 := nle g_84
  have geb_83 := nle g_85
  refine Go.rs [(.ref s_82)] rfl ?_
  refine Go.goto (pc' := 55) dp44m3_28 (by decide) (by decide) ?_
  refine Go.retA rfl rfl rfl [] sl0 dp44m3_55 (by decide) (by decide) ?_
  exact ⟨s_82, b_83, rfl, (Keep.trans (Keep.trans (Keep.ext (Keep.trans (Keep.trans (Keep.ext (Keep.trans (Keep.ext (Keep.refl _ []) E_3) K_12 (allS (Or.inr (by omega)) all0)) E_24) K_33 (allS (Or.inr (by omega)) (allS (Or.inr (by omega)) all0))) K_44 (allS (Or.inr (by omega)) (allS (Or.inr (by omega)) all0))) E_59) K_68 (allS (Or.inr (by omega)) all0)) K_86 all0), F_87⟩
theorem dp44m5_0 : decode prog_44_method_5_code 0 = .ok (.ldc 32, 2) := by decide +kernel
theorem dp44m5_2 : decode prog_44_method_5_code 2 = .ok (.areturn, 1) := by decide +kernel
theorem ct_ddt_0 (l : Launch) (Z : State) (a0 : Array Value) (hw : ∀ d ∈ tables_1, d.before a0 Z = true) (n0 : Nat) (h0 : Heap) (a1 : Addr) (EX : Exa Z h0 a1 "dev/typewright/dart/DartForm$DoubleForm")  (hn0 : n0 ≤ h0.size) (cs : Int32) (S_cs : Sta Z h0 "java/lang/String" "COMPACT_STRINGS" "Z" (.int cs)) (hcs : ¬ cs = 0) :
    Ct l Z (⟨"dev/typewright/dart/DartForm$DoubleForm", "decodedType", "()Ljava/lang/String;"⟩ : MethodName) prog_44_method_5_code 1 (some (.object "java/lang/String")) ({ frames := 0, cells := 2, slots := 16, locals := 0 } : Room) EL1 n0 true [] #[(.ref a1)] h0 [] (fun v h N => ∃ s b, v = some (.ref s) ∧ Keep h0 h [] ∧ Str Z h s b [110, 117, 109]) := by
  refine Ct.of (a0 := a0) (plainFor_of_name pn_dev_typewright_dart_DartForm_DoubleForm) (own_ew hw) (L0 := #[.val (.ref a1)]) (fun _ => rfl) ?_
  have l0_EX := nlt EX.lt
  refine Go.ldcR (pc' := 2) (a1 := a0) 12 (vs := [.int 110, .int 117, .int 109]) (z := 3) dp44m5_0 rfl (wd hw 309 rfl) (own_ws hw) (by decide) (by decide) (by decide) (by decide) rfl (own_ew hw) (List.mem_of_getElem? (i := 16) rfl) ⟨by decide, by decide⟩ (by decide) (by decide) (fun a_1 h_2 b_3 k_4 E_5 X_6 F_7 F_8 A_9 ne_10 => ?_)
  have szh_2 := nle E_5.1
  have lta_1 := nlt X_6.lt
  have ltb_3 := nlt A_9.lt
  have T_11 : Str Z h_2 a_1 b_3 [110, 117, 109] := ⟨X_6, F_7, F_8, k_4, A_9⟩
  refine Go.retA rfl rfl rfl [] sl0 dp44m5_2 (by decide) (by decide) ?_
  exact ⟨a_1, b_3, rfl, (Keep.ext (Keep.refl _ []) E_5), T_11⟩
theorem dp44m6_0 : decode prog_44_method_6_code 0 = .ok (.new 15, 3) := by decide +kernel
theorem dp44m6_3 : decode prog_44_method_6_code 3 = .ok (.dup, 1) := by decide +kernel
theorem dp44m6_4 : decode prog_44_method_6_code 4 = .ok (.invokespecial 17, 3) := by decide +kernel
theorem dp44m6_7 : decode prog_44_method_6_code 7 = .ok (.aload_n 1, 1) := by decide +kernel
theorem dp44m6_8 : decode prog_44_method_6_code 8 = .ok (.invokevirtual 20, 3) := by decide +kernel
theorem dp44m6_11 : decode prog_44_method_6_code 11 = .ok (.ldc 34, 2) := by decide +kernel
theorem dp44m6_13 : decode prog_44_method_6_code 13 = .ok (.invokevirtual 20, 3) := by decide +kernel
theorem dp44m6_16 : decode prog_44_method_6_code 16 = .ok (.invokevirtual 26, 3) := by decide +kernel
theorem dp44m6_19 : decode prog_44_method_6_code 19 = .ok (.areturn, 1) := by decide +kernel
theorem ct_dfd_j1 (l : Launch) (Z : State) (a0 : Array Value) (hw : ∀ d ∈ tables_1, d.before a0 Z = true) (n0 : Nat) (h0 : Heap) (a1 : Addr) (EX : Exa Z h0 a1 "dev/typewright/dart/DartForm$DoubleForm") (sj bj : Addr) (Hj : Str Z h0 sj bj [106]) (hn0 : n0 ≤ h0.size) (cs : Int32) (S_cs : Sta Z h0 "java/lang/String" "COMPACT_STRINGS" "Z" (.int cs)) (hcs : ¬ cs = 0) :
    Ct l Z (⟨"dev/typewright/dart/DartForm$DoubleForm", "fromDecoded", "(Ljava/lang/String;)Ljava/lang/String;"⟩ : MethodName) prog_44_method_6_code 2 (some (.object "java/lang/String")) ({ frames := 6, cells := 6, slots := 200, locals := 91 } : Room) EL1 n0 true [] #[(.ref a1), (.ref sj)] h0 [] (fun v h N => ∃ s b, v = some (.ref s) ∧ h0.size ≤ s ∧ h0.size ≤ b ∧ Keep h0 h [] ∧ Str Z h s b [106, 46, 116, 111, 68, 111, 117, 98, 108, 101, 40, 41]) := by
  refine Ct.of (a0 := a0) (plainFor_of_name pn_dev_typewright_dart_DartForm_DoubleForm) (own_ew hw) (L0 := #[.val (.ref a1), .val (.ref sj)]) (fun _ => rfl) ?_
  have lt_Hj := nlt Hj.lt
  have ltb_Hj := nlt Hj.ltb
  have l0_EX := nlt EX.lt
  refine Go.newO (pc' := 3) (a1 := a0) dp44m6_0 (wd hw 275 rfl) (wd hw 61 rfl) (wd hw 62 rfl) (by decide) (by decide) rfl (fun a_1 h_2 ha_4 E_3 X_5 Df_6 => ?_)
  have szh_2 := nle E_3.1
  have lta_1 := nlt X_5.lt
  have qa_1 := neq ha_4
  have F_7 : Fld Z h_2 a_1 "java/lang/AbstractStringBuilder" "value" "[B" (.null) := Df_6 (Or.inl (wd hw 75 rfl)) (ty := (.array .byte)) (by decide)
  have F_8 : Fld Z h_2 a_1 "java/lang/AbstractStringBuilder" "coder" "B" (.int (0 : Int32)) := Df_6 (Or.inl (wd hw 77 rfl)) (ty := .byte) (by decide)
  have F_9 : Fld Z h_2 a_1 "java/lang/AbstractStringBuilder" "count" "I" (.int (0 : Int32)) := Df_6 (Or.inl (wd hw 102 rfl)) (ty := .int) (by decide)
  refine Go.dup (pc' := 4) dp44m6_3 rfl rfl ?_
  have F_14 := (Sta.ext E_3 S_cs)
  refine Go.callN (a1 := a0) (pc' := 7) (argsL := []) (rest := [(.ref a_1)]) (ct_sbi0 l Z a0 hw n0 h_2 a_1 (by omega) X_5 F_9 F_8 F_7 cs F_14 hcs) dp44m6_4 rfl (wd hw 276 rfl) (wd hw 64 rfl) (wd hw 62 rfl) (wd hw 65 rfl) (by decide) (lenOf pd_18 rfl) rfl 1 rfl rfl (by decide) (by decide) (by decide) (by decide) sl0 rfl (fun v_15 h_16 N_17 hQ_18 hle_19 => ?_)
  obtain ⟨rfl, b_10, rfl, g_11, K_12, F_13⟩ := hQ_18
  have szh_16 := nle K_12.1
  have ltb_10 := nlt F_13.ltb
  have geb_10 := nle g_11
  refine Go.rs [(.ref a_1)] rfl ?_
  refine Go.aloadN (pc' := 8) dp44m6_7 rfl rfl rfl ?_
  have F_23 := (Str.keep (Str.ext Hj E_3) K_12 (ninS (nne (by omega)) nin0) (ninS (nne (by omega)) nin0))
  have F_24 := (sta_keep F_14 K_12 (nsS (Exa.nostat X_5) ns0))
  have F_30 := (Exa.keep X_5 K_12)
  refine Go.callV (a1 := a0) (pc' := 11) (argsL := [(.ref sj)]) (rest := []) (ct_app l Z a0 hw n0 h_16 a_1 sj bj b_10 [] [106] 16 F_13 F_23 (by decide) (by decide) (nne (by omega)) (by omega) (by omega) cs F_24 hcs) dp44m6_8 (wd hw 278 rfl) (wd hw 79 rfl) (wd hw 81 rfl) (wd hw 81 rfl) (wd hw 80 rfl) (wd hw 62 rfl) (wd hw 82 rfl) F_30 (by decide) (lenOf pd_19 rfl) rfl 0 rfl rfl (by decide) (by decide) (by decide) (by decide) (sl1 (by simp)) rfl (fun v_25 h_26 N_27 hQ_28 hle_29 => ?_)
  obtain ⟨rfl, K_20, F_21⟩ := hQ_28
  have szh_26 := nle K_20.1
  have F_22 : Sb Z h_26 a_1 b_10 16 [106] := F_21
  refine Go.rs [(.ref a_1)] rfl ?_
  refine Go.ldcR (pc' := 13) (a1 := a0) 44 (vs := [.int 46, .int 116, .int 111, .int 68, .int 111, .int 117, .int 98, .int 108, .int 101, .int 40, .int 41]) (z := 11) dp44m6_11 rfl (wd hw 316 rfl) (own_ws hw) (by decide) (by decide) (by decide) (by decide) rfl (own_ew hw) (List.mem_of_getElem? (i := 17) rfl) ⟨by decide, by decide⟩ (by decide) (by decide) (fun a_31 h_32 b_33 k_34 E_35 X_36 F_37 F_38 A_39 ne_40 => ?_)
  have szh_32 := nle E_35.1
  have lta_31 := nlt X_36.lt
  have ltb_33 := nlt A_39.lt
  have nx_41 := nne2 (ne_40 b_10 (by simp))
  have nx_42 := nne2 (ne_40 a_1 (by simp))
  have T_43 : Str Z h_32 a_31 b_33 [46, 116, 111, 68, 111, 117, 98, 108, 101, 40, 41] := ⟨X_36, F_37, F_38, k_34, A_39⟩
  have F_47 := (Sb.ext F_22 E_35)
  have F_48 := (Sta.ext E_35 (sta_keep F_24 K_20 (nsS (Exa.nostat F_30) (nsS (Sb.nsB F_13) ns0))))
  have F_54 := (Exa.ext E_35 (Exa.keep F_30 K_20))
  refine Go.callV (a1 := a0) (pc' := 16) (argsL := [(.ref a_31)]) (rest := []) (ct_app l Z a0 hw n0 h_32 a_1 a_31 b_33 b_10 [106] [46, 116, 111, 68, 111, 117, 98, 108, 101, 40, 41] 16 F_47 T_43 (by decide) (by decide) (nne (by omega)) (by omega) (by omega) cs F_48 hcs) dp44m6_13 (wd hw 278 rfl) (wd hw 79 rfl) (wd hw 81 rfl) (wd hw 81 rfl) (wd hw 80 rfl) (wd hw 62 rfl) (wd hw 82 rfl) F_54 (by decide) (lenOf pd_19 rfl) rfl 0 rfl rfl (by decide) (by decide) (by decide) (by decide) (sl1 (by simp)) rfl (fun v_49 h_50 N_51 hQ_52 hle_53 => ?_)
  obtain ⟨rfl, K_44, F_45⟩ := hQ_52
  have szh_50 := nle K_44.1
  have F_46 : Sb Z h_50 a_1 b_10 16 [106, 46, 116, 111, 68, 111, 117, 98, 108, 101, 40, 41] := F_45
  refine Go.rs [(.ref a_1)] rfl ?_
  have F_55 := (sta_keep F_48 K_44 (nsS (Exa.nostat F_54) (nsS (Sb.nsB F_47) ns0)))
  have F_67 := (Exa.keep F_54 K_44)
  refine Go.callV (a1 := a0) (pc' := 19) (argsL := []) (rest := []) (ct_ts l Z a0 hw n0 h_50 a_1 b_10 [106, 46, 116, 111, 68, 111, 117, 98, 108, 101, 40, 41] 16 F_46 (by decide) (by decide) (by decide) (by omega) cs F_55 hcs) dp44m6_16 (wd hw 297 rfl) (wd hw 130 rfl) (wd hw 132 rfl) (wd hw 132 rfl) (wd hw 131 rfl) (wd hw 62 rfl) (wd hw 133 rfl) F_67 (by decide) (lenOf pd_20 rfl) rfl 0 rfl rfl (by decide) (by decide) (by decide) (by decide) sl0 rfl (fun v_62 h_63 N_64 hQ_65 hle_66 => ?_)
  obtain ⟨s_56, b_57, rfl, g_58, g_59, K_60, F_61⟩ := hQ_65
  have szh_63 := nle K_60.1
  have lts_56 := nlt F_61.lt
  have ltb_57 := nlt F_61.ltb
  have ges_56 := nle g_58
  have geb_57 := nle g_59
  refine Go.rs [(.ref s_56)] rfl ?_
  refine Go.retA rfl rfl rfl [] sl0 dp44m6_19 (by decide) (by decide) ?_
  exact ⟨s_56, b_57, rfl, by omega, by omega, (Keep.trans (Keep.trans (Keep.ext (Keep.trans (Keep.trans (Keep.ext (Keep.refl _ []) E_3) K_12 (allS (Or.inr (by omega)) all0)) K_20 (allS (Or.inr (by omega)) (allS (Or.inr (by omega)) all0))) E_35) K_44 (allS (Or.inr (by omega)) (allS (Or.inr (by omega)) all0))) K_60 all0), F_61⟩
theorem dp42m2_0 : decode prog_42_method_2_code 0 = .ok (.ldc 13, 2) := by decide +kernel
theorem dp42m2_2 : decode prog_42_method_2_code 2 = .ok (.iload_n 1, 1) := by decide +kernel
theorem dp42m2_3 : decode prog_42_method_2_code 3 = .ok (.invokestatic 15, 3) := by decide +kernel
theorem dp42m2_6 : decode prog_42_method_2_code 6 = .ok (.areturn, 1) := by decide +kernel
theorem ct_tty_00 (l : Launch) (Z : State) (a0 : Array Value) (hw : ∀ d ∈ tables_1, d.before a0 Z = true) (n0 : Nat) (h0 : Heap) (a1 : Addr) (EX : Exa Z h0 a1 "dev/typewright/dart/DartForm$DateTimeForm")  (hn0 : n0 ≤ h0.size) (cs : Int32) (S_cs : Sta Z h0 "java/lang/String" "COMPACT_STRINGS" "Z" (.int cs)) (hcs : ¬ cs = 0) :
    Ct l Z (⟨"dev/typewright/dart/DartForm$DateTimeForm", "type", "(Z)Ljava/lang/String;"⟩ : MethodName) prog_42_method_2_code 2 (some (.object "java/lang/String")) ({ frames := 1, cells := 2, slots := 36, locals := 13 } : Room) EL1 n0 true [] #[(.ref a1), (.int (0 : Int32))] h0 [] (fun v h N => ∃ s b, v = some (.ref s) ∧ Keep h0 h [] ∧ Str Z h s b [68, 97, 116, 101, 84, 105, 109, 101]) := by
  refine Ct.of (a0 := a0) (plainFor_of_name pn_dev_typewright_dart_DartForm_DateTimeForm) (own_ew hw) (L0 := #[.val (.ref a1), .val (.int (0 : Int32))]) (fun _ => rfl) ?_
  have l0_EX := nlt EX.lt
  refine Go.ldcR (pc' := 2) (a1 := a0) 32 (vs := [.int 68, .int 97, .int 116, .int 101, .int 84, .int 105, .int 109, .int 101]) (z := 8) dp42m2_0 rfl (wd hw 335 rfl) (own_ws hw) (by decide) (by decide) (by decide) (by decide) rfl (own_ew hw) (List.mem_of_getElem? (i := 5) rfl) ⟨by decide, by decide⟩ (by decide) (by decide) (fun a_1 h_2 b_3 k_4 E_5 X_6 F_7 F_8 A_9 ne_10 => ?_)
  have szh_2 := nle E_5.1
  have lta_1 := nlt X_6.lt
  have ltb_3 := nlt A_9.lt
  have T_11 : Str Z h_2 a_1 b_3 [68, 97, 116, 101, 84, 105, 109, 101] := ⟨X_6, F_7, F_8, k_4, A_9⟩
  refine Go.iloadN (pc' := 3) dp42m2_2 rfl rfl ?_
  refine Go.callSN (a1 := a0) (pc' := 6) (argsL := [(.ref a_1), (.int (0 : Int32))]) (rest := []) (ct_nul0 l Z a0 hw n0 h_2 a_1) dp42m2_3 (wd hw 336 rfl) (wd hw 58 rfl) (wd hw 10 rfl) (wd hw 59 rfl) (by decide) (lenOf pd_22 rfl) rfl 0 rfl rfl (by decide) (by decide) (by decide) (by decide) sl0 rfl (fun v_12 h_13 N_14 hQ_15 hle_16 => ?_)
  obtain ⟨rfl, rfl⟩ := hQ_15
  refine Go.rs [(.ref a_1)] rfl ?_
  refine Go.retA rfl rfl rfl [] sl0 dp42m2_6 (by decide) (by decide) ?_
  exact ⟨a_1, b_3, rfl, (Keep.ext (Keep.refl _ []) E_5), T_11⟩
theorem ct_tty_01 (l : Launch) (Z : State) (a0 : Array Value) (hw : ∀ d ∈ tables_1, d.before a0 Z = true) (n0 : Nat) (h0 : Heap) (a1 : Addr) (EX : Exa Z h0 a1 "dev/typewright/dart/DartForm$DateTimeForm")  (hn0 : n0 ≤ h0.size) (cs : Int32) (S_cs : Sta Z h0 "java/lang/String" "COMPACT_STRINGS" "Z" (.int cs)) (hcs : ¬ cs = 0) :
    Ct l Z (⟨"dev/typewright/dart/DartForm$DateTimeForm", "type", "(Z)Ljava/lang/String;"⟩ : MethodName) prog_42_method_2_code 2 (some (.object "java/lang/String")) ({ frames := 7, cells := 8, slots := 196, locals := 104 } : Room) EL1 n0 true [] #[(.ref a1), (.int (1 : Int32))] h0 [] (fun v h N => ∃ s b, v = some (.ref s) ∧ Keep h0 h [] ∧ Str Z h s b [68, 97, 116, 101, 84, 105, 109, 101, 63]) := by
  refine Ct.of (a0 := a0) (plainFor_of_name pn_dev_typewright_dart_DartForm_DateTimeForm) (own_ew hw) (L0 := #[.val (.ref a1), .val (.int (1 : Int32))]) (fun _ => rfl) ?_
  have l0_EX := nlt EX.lt
  refine Go.ldcR (pc' := 2) (a1 := a0) 32 (vs := [.int 68, .int 97, .int 116, .int 101, .int 84, .int 105, .int 109, .int 101]) (z := 8) dp42m2_0 rfl (wd hw 335 rfl) (own_ws hw) (by decide) (by decide) (by decide) (by decide) rfl (own_ew hw) (List.mem_of_getElem? (i := 5) rfl) ⟨by decide, by decide⟩ (by decide) (by decide) (fun a_1 h_2 b_3 k_4 E_5 X_6 F_7 F_8 A_9 ne_10 => ?_)
  have szh_2 := nle E_5.1
  have lta_1 := nlt X_6.lt
  have ltb_3 := nlt A_9.lt
  have T_11 : Str Z h_2 a_1 b_3 [68, 97, 116, 101, 84, 105, 109, 101] := ⟨X_6, F_7, F_8, k_4, A_9⟩
  refine Go.iloadN (pc' := 3) dp42m2_2 rfl rfl ?_
  have F_12 := (Sta.ext E_5 S_cs)
  refine Go.callSN (a1 := a0) (pc' := 6) (argsL := [(.ref a_1), (.int (1 : Int32))]) (rest := []) (ct_nul1 l Z a0 hw n0 h_2 [68, 97, 116, 101, 84, 105, 109, 101] a_1 b_3 T_11 (by decide) (by omega) cs F_12 hcs) dp42m2_3 (wd hw 336 rfl) (wd hw 58 rfl) (wd hw 10 rfl) (wd hw 59 rfl) (by decide) (lenOf pd_22 rfl) rfl 0 rfl rfl (by decide) (by decide) (by decide) (by decide) sl0 rfl (fun v_19 h_20 N_21 hQ_22 hle_23 => ?_)
  obtain ⟨s_13, b_14, rfl, g_15, g_16, K_17, F_18⟩ := hQ_22
  have szh_20 := nle K_17.1
  have lts_13 := nlt F_18.lt
  have ltb_14 := nlt F_18.ltb
  have ges_13 := nle g_15
  have geb_14 := nle g_16
  refine Go.rs [(.ref s_13)] rfl ?_
  refine Go.retA rfl rfl rfl [] sl0 dp42m2_6 (by decide) (by decide) ?_
  exact ⟨s_13, b_14, rfl, (Keep.trans (Keep.ext (Keep.refl _ []) E_5) K_17 all0), F_18⟩
theorem dp42m5_0 : decode prog_42_method_5_code 0 = .ok (.ldc 49, 2) := by decide +kernel
theorem dp42m5_2 : decode prog_42_method_5_code 2 = .ok (.areturn, 1) := by decide +kernel
theorem ct_tdt_0 (l : Launch) (Z : State) (a0 : Array Value) (hw : ∀ d ∈ tables_1, d.before a0 Z = true) (n0 : Nat) (h0 : Heap) (a1 : Addr) (EX : Exa Z h0 a1 "dev/typewright/dart/DartForm$DateTimeForm")  (hn0 : n0 ≤ h0.size) (cs : Int32) (S_cs : Sta Z h0 "java/lang/String" "COMPACT_STRINGS" "Z" (.int cs)) (hcs : ¬ cs = 0) :
    Ct l Z (⟨"dev/typewright/dart/DartForm$DateTimeForm", "decodedType", "()Ljava/lang/String;"⟩ : MethodName) prog_42_method_5_code 1 (some (.object "java/lang/String")) ({ frames := 0, cells := 2, slots := 28, locals := 0 } : Room) EL1 n0 true [] #[(.ref a1)] h0 [] (fun v h N => ∃ s b, v = some (.ref s) ∧ Keep h0 h [] ∧ Str Z h s b [83, 116, 114, 105, 110, 103]) := by
  refine Ct.of (a0 := a0) (plainFor_of_name pn_dev_typewright_dart_DartForm_DateTimeForm) (own_ew hw) (L0 := #[.val (.ref a1)]) (fun _ => rfl) ?_
  have l0_EX := nlt EX.lt
  refine Go.ldcR (pc' := 2) (a1 := a0) 24 (vs := [.int 83, .int 116, .int 114, .int 105, .int 110, .int 103]) (z := 6) dp42m5_0 rfl (wd hw 375 rfl) (own_ws hw) (by decide) (by decide) (by decide) (by decide) rfl (own_ew hw) (List.mem_of_getElem? (i := 9) rfl) ⟨by decide, by decide⟩ (by decide) (by decide) (fun a_1 h_2 b_3 k_4 E_5 X_6 F_7 F_8 A_9 ne_10 => ?_)
  have szh_2 := nle E_5.1
  have lta_1 := nlt X_6.lt
  have ltb_3 := nlt A_9.lt
  have T_11 : Str Z h_2 a_1 b_3 [83, 116, 114, 105, 110, 103] := ⟨X_6, F_7, F_8, k_4, A_9⟩
  refine Go.retA rfl rfl rfl [] sl0 dp42m5_2 (by decide) (by decide) ?_
  exact ⟨a_1, b_3, rfl, (Keep.ext (Keep.refl _ []) E_5), T_11⟩
theorem dp42m6_0 : decode prog_42_method_6_code 0 = .ok (.new 21, 3) := by decide +kernel
theorem dp42m6_3 : decode prog_42_method_6_code 3 = .ok (.dup, 1) := by decide +kernel
theorem dp42m6_4 : decode prog_42_method_6_code 4 = .ok (.invokespecial 23, 3) := by decide +kernel
theorem dp42m6_7 : decode prog_42_method_6_code 7 = .ok (.ldc 51, 2) := by decide +kernel
theorem dp42m6_9 : decode prog_42_method_6_code 9 = .ok (.invokevirtual 24, 3) := by decide +kernel
theorem dp42m6_12 : decode prog_42_method_6_code 12 = .ok (.aload_n 1, 1) := by decide +kernel
theorem dp42m6_13 : decode prog_42_method_6_code 13 = .ok (.invokevirtual 24, 3) := by decide +kernel
theorem dp42m6_16 : decode prog_42_method_6_code 16 = .ok (.ldc 53, 2) := by decide +kernel
theorem dp42m6_18 : decode prog_42_method_6_code 18 = .ok (.invokevirtual 24, 3) := by decide +kernel
theorem dp42m6_21 : decode prog_42_method_6_code 21 = .ok (.invokevirtual 30, 3) := by decide +kernel
theorem dp42m6_24 : decode prog_42_method_6_code 24 = .ok (.areturn, 1) := by decide +kernel
theorem ct_tfd_j1 (l : Launch) (Z : State) (a0 : Array Value) (hw : ∀ d ∈ tables_1, d.before a0 Z = true) (n0 : Nat) (h0 : Heap) (a1 : Addr) (EX : Exa Z h0 a1 "dev/typewright/dart/DartForm$DateTimeForm") (sj bj : Addr) (Hj : Str Z h0 sj bj [106]) (hn0 : n0 ≤ h0.size) (cs : Int32) (S_cs : Sta Z h0 "java/lang/String" "COMPACT_STRINGS" "Z" (.int cs)) (hcs : ¬ cs = 0) :
    Ct l Z (⟨"dev/typewright/dart/DartForm$DateTimeForm", "fromDecoded", "(Ljava/lang/String;)Ljava/lang/String;"⟩ : MethodName) prog_42_method_6_code 2 (some (.object "java/lang/String")) ({ frames := 6, cells := 9, slots := 352, locals := 91 } : Room) EL1 n0 true [] #[(.ref a1), (.ref sj)] h0 [] (fun v h N => ∃ s b, v = some (.ref s) ∧ h0.size ≤ s ∧ h0.size ≤ b ∧ Keep h0 h [] ∧ Str Z h s b [68, 97, 116, 101, 84, 105, 109, 101, 46, 112, 97, 114, 115, 101, 40, 106, 41]) := by
  refine Ct.of (a0 := a0) (plainFor_of_name pn_dev_typewright_dart_DartForm_DateTimeForm) (own_ew hw) (L0 := #[.val (.ref a1), .val (.ref sj)]) (fun _ => rfl) ?_
  have lt_Hj := nlt Hj.lt
  have ltb_Hj := nlt Hj.ltb
  have l0_EX := nlt EX.lt
  refine Go.newO (pc' := 3) (a1 := a0) dp42m6_0 (wd hw 343 rfl) (wd hw 61 rfl) (wd hw 62 rfl) (by decide) (by decide) rfl (fun a_1 h_2 ha_4 E_3 X_5 Df_6 => ?_)
  have szh_2 := nle E_3.1
  have lta_1 := nlt X_5.lt
  have qa_1 := neq ha_4
  have F_7 : Fld Z h_2 a_1 "java/lang/AbstractStringBuilder" "value" "[B" (.null) := Df_6 (Or.inl (wd hw 75 rfl)) (ty := (.array .byte)) (by decide)
  have F_8 : Fld Z h_2 a_1 "java/lang/AbstractStringBuilder" "coder" "B" (.int (0 : Int32)) := Df_6 (Or.inl (wd hw 77 rfl)) (ty := .byte) (by decide)
  have F_9 : Fld Z h_2 a_1 "java/lang/AbstractStringBuilder" "count" "I" (.int (0 : Int32)) := Df_6 (Or.inl (wd hw 102 rfl)) (ty := .int) (by decide)
  refine Go.dup (pc' := 4) dp42m6_3 rfl rfl ?_
  have F_14 := (Sta.ext E_3 S_cs)
  refine Go.callN (a1 := a0) (pc' := 7) (argsL := []) (rest := [(.ref a_1)]) (ct_sbi0 l Z a0 hw n0 h_2 a_1 (by omega) X_5 F_9 F_8 F_7 cs F_14 hcs) dp42m6_4 rfl (wd hw 344 rfl) (wd hw 64 rfl) (wd hw 62 rfl) (wd hw 65 rfl) (by decide) (lenOf pd_18 rfl) rfl 1 rfl rfl (by decide) (by decide) (by decide) (by decide) sl0 rfl (fun v_15 h_16 N_17 hQ_18 hle_19 => ?_)
  obtain ⟨rfl, b_10, rfl, g_11, K_12, F_13⟩ := hQ_18
  have szh_16 := nle K_12.1
  have ltb_10 := nlt F_13.ltb
  have geb_10 := nle g_11
  refine Go.rs [(.ref a_1)] rfl ?_
  refine Go.ldcR (pc' := 9) (a1 := a0) 60 (vs := [.int 68, .int 97, .int 116, .int 101, .int 84, .int 105, .int 109, .int 101, .int 46, .int 112, .int 97, .int 114, .int 115, .int 101, .int 40]) (z := 15) dp42m6_7 rfl (wd hw 353 rfl) (own_ws hw) (by decide) (by decide) (by decide) (by decide) rfl (own_ew hw) (List.mem_of_getElem? (i := 10) rfl) ⟨by decide, by decide⟩ (by decide) (by decide) (fun a_20 h_21 b_22 k_23 E_24 X_25 F_26 F_27 A_28 ne_29 => ?_)
  have szh_21 := nle E_24.1
  have lta_20 := nlt X_25.lt
  have ltb_22 := nlt A_28.lt
  have nx_30 := nne2 (ne_29 b_10 (by simp))
  have nx_31 := nne2 (ne_29 a_1 (by simp))
  have T_32 : Str Z h_21 a_20 b_22 [68, 97, 116, 101, 84, 105, 109, 101, 46, 112, 97, 114, 115, 101, 40] := ⟨X_25, F_26, F_27, k_23, A_28⟩
  have F_36 := (Sb.ext F_13 E_24)
  have F_37 := (Sta.ext E_24 (sta_keep F_14 K_12 (nsS (Exa.nostat X_5) ns0)))
  have F_43 := (Exa.ext E_24 (Exa.keep X_5 K_12))
  refine Go.callV (a1 := a0) (pc' := 12) (argsL := [(.ref a_20)]) (rest := []) (ct_app l Z a0 hw n0 h_21 a_1 a_20 b_22 b_10 [] [68, 97, 116, 101, 84, 105, 109, 101, 46, 112, 97, 114, 115, 101, 40] 16 F_36 T_32 (by decide) (by decide) (nne (by omega)) (by omega) (by omega) cs F_37 hcs) dp42m6_9 (wd hw 345 rfl) (wd hw 79 rfl) (wd hw 81 rfl) (wd hw 81 rfl) (wd hw 80 rfl) (wd hw 62 rfl) (wd hw 82 rfl) F_43 (by decide) (lenOf pd_19 rfl) rfl 0 rfl rfl (by decide) (by decide) (by decide) (by decide) (sl1 (by simp)) rfl (fun v_38 h_39 N_40 hQ_41 hle_42 => ?_)
  obtain ⟨rfl, K_33, F_34⟩ := hQ_41
  have szh_39 := nle K_33.1
  have F_35 : Sb Z h_39 a_1 b_10 16 [68, 97, 116, 101, 84, 105, 109, 101, 46, 112, 97, 114, 115, 101, 40] := F_34
  refine Go.rs [(.ref a_1)] rfl ?_
  refine Go.aloadN (pc' := 13) dp42m6_12 rfl rfl rfl ?_
  have F_47 := (Str.keep (Str.ext (Str.keep (Str.ext Hj E_3) K_12 (ninS (nne (by omega)) nin0) (ninS (nne (by omega)) nin0)) E_24) K_33 (ninS (nne (by omega)) (ninS (nne (by omega)) nin0)) (ninS (nne (by omega)) (ninS (nne (by omega)) nin0)))
  have F_48 := (sta_keep F_37 K_33 (nsS (Exa.nostat F_43) (nsS (Sb.nsB F_36) ns0)))
  have F_54 := (Exa.keep F_43 K_33)
  refine Go.callV (a1 := a0) (pc' := 16) (argsL := [(.ref sj)]) (rest := []) (ct_app l Z a0 hw n0 h_39 a_1 sj bj b_10 [68, 97, 116, 101, 84, 105, 109, 101, 46, 112, 97, 114, 115, 101, 40] [106] 16 F_35 F_47 (by decide) (by decide) (nne (by omega)) (by omega) (by omega) cs F_48 hcs) dp42m6_13 (wd hw 345 rfl) (wd hw 79 rfl) (wd hw 81 rfl) (wd hw 81 rfl) (wd hw 80 rfl) (wd hw 62 rfl) (wd hw 82 rfl) F_54 (by decide) (lenOf pd_19 rfl) rfl 0 rfl rfl (by decide) (by decide) (by decide) (by decide) (sl1 (by simp)) rfl (fun v_49 h_50 N_51 hQ_52 hle_53 => ?_)
  obtain ⟨rfl, K_44, F_45⟩ := hQ_52
  have szh_50 := nle K_44.1
  have F_46 : Sb Z h_50 a_1 b_10 16 [68, 97, 116, 101, 84, 105, 109, 101, 46, 112, 97, 114, 115, 101, 40, 106] := F_45
  refine Go.rs [(.ref a_1)] rfl ?_
  refine Go.ldcR (pc' := 18) (a1 := a0) 4 (vs := [.int 41]) (z := 1) dp42m6_16 rfl (wd hw 354 rfl) (own_ws hw) (by decide) (by decide) (by decide) (by decide) rfl (own_ew hw) (List.mem_of_getElem? (i := 11) rfl) ⟨by decide, by decide⟩ (by decide) (by decide) (fun a_55 h_56 b_57 k_58 E_59 X_60 F_61 F_62 A_63 ne_64 => ?_)
  have szh_56 := nle E_59.1
  have lta_55 := nlt X_60.lt
  have ltb_57 := nlt A_63.lt
  have nx_65 := nne2 (ne_64 b_10 (by simp))
  have nx_66 := nne2 (ne_64 a_1 (by simp))
  have T_67 : Str Z h_56 a_55 b_57 [41] := ⟨X_60, F_61, F_62, k_58, A_63⟩
  have F_73 := (Sb.ext F_46 E_59)
  have F_74 := (Sta.ext E_59 (sta_keep F_48 K_44 (nsS (Exa.nostat F_54) (nsS (Sb.nsB F_35) ns0))))
  have F_80 := (Exa.ext E_59 (Exa.keep F_54 K_44))
  refine Go.callV (a1 := a0) (pc' := 21) (argsL := [(.ref a_55)]) (rest := []) (ct_appG l Z a0 hw n0 h_56 a_1 a_55 b_57 b_10 [68, 97, 116, 101, 84, 105, 109, 101, 46, 112, 97, 114, 115, 101, 40, 106] [41] 16 F_73 T_67 (by decide) (by decide) (by decide) (nne (by omega)) (by omega) cs F_74 hcs) dp42m6_18 (wd hw 345 rfl) (wd hw 79 rfl) (wd hw 81 rfl) (wd hw 81 rfl) (wd hw 80 rfl) (wd hw 62 rfl) (wd hw 82 rfl) F_80 (by decide) (lenOf pd_19 rfl) rfl 0 rfl rfl (by decide) (by decide) (by decide) (by decide) sl0 rfl (fun v_75 h_76 N_77 hQ_78 hle_79 => ?_)
  obtain ⟨rfl, d_71, rfl, g_72, K_68, F_69⟩ := hQ_78
  have ltd_71 := nlt F_69.ltb
  have ged_71 := nle g_72
  have szh_76 := nle K_68.1
  have F_70 : Sb Z h_76 a_1 d_71 34 [68, 97, 116, 101, 84, 105, 109, 101, 46, 112, 97, 114, 115, 101, 40, 106, 41] := F_69
  refine Go.rs [(.ref a_1)] rfl ?_
  have F_81 := (sta_keep F_74 K_68 (nsS (Exa.nostat F_80) ns0))
  have F_93 := (Exa.keep F_80 K_68)
  refine Go.callV (a1 := a0) (pc' := 24) (argsL := []) (rest := []) (ct_ts l Z a0 hw n0 h_76 a_1 d_71 [68, 97, 116, 101, 84, 105, 109, 101, 46, 112, 97, 114, 115, 101, 40, 106, 41] 34 F_70 (by decide) (by decide) (by decide) (by omega) cs F_81 hcs) dp42m6_21 (wd hw 347 rfl) (wd hw 130 rfl) (wd hw 132 rfl) (wd hw 132 rfl) (wd hw 131 rfl) (wd hw 62 rfl) (wd hw 133 rfl) F_93 (by decide) (lenOf pd_20 rfl) rfl 0 rfl rfl (by decide) (by decide) (by decide) (by decide) sl0 rfl (fun v_88 h_89 N_90 hQ_91 hle_92 => ?_)
  obtain ⟨s_82, b_83, rfl, g_84, g_85, K_86, F_87⟩ := hQ_91
  have szh_89 := nle K_86.1
  have lts_82 := nlt F_87.lt
  have ltb_83 := nlt F_87.ltb
  have ges_82 := nle g_84
  have geb_83 := nle g_85
  refine Go.rs [(.ref s_82)] rfl ?_
  refine Go.retA rfl rfl rfl [] sl0 dp42m6_24 (by decide) (by decide) ?_
  exact ⟨s_82, b_83, rfl, by omega, by omega, (Keep.trans (Keep.trans (Keep.ext (Keep.trans (Keep.trans (Keep.ext (Keep.trans (Keep.ext (Keep.refl _ []) E_3) K_12 (allS (Or.inr (by omega)) all0)) E_24) K_33 (allS (Or.inr (by omega)) (allS (Or.inr (by omega)) all0))) K_44 (allS (Or.inr (by omega)) (allS (Or.inr (by omega)) all0))) E_59) K_68 (allS (Or.inr (by omega)) all0)) K_86 all0), F_87⟩
theorem ct_tfd_j11 (l : Launch) (Z : State) (a0 : Array Value) (hw : ∀ d ∈ tables_1, d.before a0 Z = true) (n0 : Nat) (h0 : Heap) (a1 : Addr) (EX : Exa Z h0 a1 "dev/typewright/dart/DartForm$DateTimeForm") (sj bj : Addr) (Hj : Str Z h0 sj bj [106, 32, 97, 115, 32, 83, 116, 114, 105, 110, 103]) (hn0 : n0 ≤ h0.size) (cs : Int32) (S_cs : Sta Z h0 "java/lang/String" "COMPACT_STRINGS" "Z" (.int cs)) (hcs : ¬ cs = 0) :
    Ct l Z (⟨"dev/typewright/dart/DartForm$DateTimeForm", "fromDecoded", "(Ljava/lang/String;)Ljava/lang/String;"⟩ : MethodName) prog_42_method_6_code 2 (some (.object "java/lang/String")) ({ frames := 6, cells := 9, slots := 352, locals := 91 } : Room) EL1 n0 true [] #[(.ref a1), (.ref sj)] h0 [] (fun v h N => ∃ s b, v = some (.ref s) ∧ h0.size ≤ s ∧ h0.size ≤ b ∧ Keep h0 h [] ∧ Str Z h s b [68, 97, 116, 101, 84, 105, 109, 101, 46, 112, 97, 114, 115, 101, 40, 106, 32, 97, 115, 32, 83, 116, 114, 105, 110, 103, 41]) := by
  refine Ct.of (a0 := a0) (plainFor_of_name pn_dev_typewright_dart_DartForm_DateTimeForm) (own_ew hw) (L0 := #[.val (.ref a1), .val (.ref sj)]) (fun _ => rfl) ?_
  have lt_Hj := nlt Hj.lt
  have ltb_Hj := nlt Hj.ltb
  have l0_EX := nlt EX.lt
  refine Go.newO (pc' := 3) (a1 := a0) dp42m6_0 (wd hw 343 rfl) (wd hw 61 rfl) (wd hw 62 rfl) (by decide) (by decide) rfl (fun a_1 h_2 ha_4 E_3 X_5 Df_6 => ?_)
  have szh_2 := nle E_3.1
  have lta_1 := nlt X_5.lt
  have qa_1 := neq ha_4
  have F_7 : Fld Z h_2 a_1 "java/lang/AbstractStringBuilder" "value" "[B" (.null) := Df_6 (Or.inl (wd hw 75 rfl)) (ty := (.array .byte)) (by decide)
  have F_8 : Fld Z h_2 a_1 "java/lang/AbstractStringBuilder" "coder" "B" (.int (0 : Int32)) := Df_6 (Or.inl (wd hw 77 rfl)) (ty := .byte) (by decide)
  have F_9 : Fld Z h_2 a_1 "java/lang/AbstractStringBuilder" "count" "I" (.int (0 : Int32)) := Df_6 (Or.inl (wd hw 102 rfl)) (ty := .int) (by decide)
  refine Go.dup (pc' := 4) dp42m6_3 rfl rfl ?_
  have F_14 := (Sta.ext E_3 S_cs)
  refine Go.callN (a1 := a0) (pc' := 7) (argsL := []) (rest := [(.ref a_1)]) (ct_sbi0 l Z a0 hw n0 h_2 a_1 (by omega) X_5 F_9 F_8 F_7 cs F_14 hcs) dp42m6_4 rfl (wd hw 344 rfl) (wd hw 64 rfl) (wd hw 62 rfl) (wd hw 65 rfl) (by decide) (lenOf pd_18 rfl) rfl 1 rfl rfl (by decide) (by decide) (by decide) (by decide) sl0 rfl (fun v_15 h_16 N_17 hQ_18 hle_19 => ?_)
  obtain ⟨rfl, b_10, rfl, g_11, K_12, F_13⟩ := hQ_18
  have szh_16 := nle K_12.1
  have ltb_10 := nlt F_13.ltb
  have geb_10 := nle g_11
  refine Go.rs [(.ref a_1)] rfl ?_
  refine Go.ldcR (pc' := 9) (a1 := a0) 60 (vs := [.int 68, .int 97, .int 116, .int 101, .int 84, .int 105, .int 109, .int 101, .int 46, .int 112, .int 97, .int 114, .int 115, .int 101, .int 40]) (z := 15) dp42m6_7 rfl (wd hw 353 rfl) (own_ws hw) (by decide) (by decide) (by decide) (by decide) rfl (own_ew hw) (List.mem_of_getElem? (i := 10) rfl) ⟨by decide, by decide⟩ (by decide) (by decide) (fun a_20 h_21 b_22 k_23 E_24 X_25 F_26 F_27 A_28 ne_29 => ?_)
  have szh_21 := nle E_24.1
  have lta_20 := nlt X_25.lt
  have ltb_22 := nlt A_28.lt
  have nx_30 := nne2 (ne_29 b_10 (by simp))
  have nx_31 := nne2 (ne_29 a_1 (by simp))
  have T_32 : Str Z h_21 a_20 b_22 [68, 97, 116, 101, 84, 105, 109, 101, 46, 112, 97, 114, 115, 101, 40] := ⟨X_25, F_26, F_27, k_23, A_28⟩
  have F_36 := (Sb.ext F_13 E_24)
  have F_37 := (Sta.ext E_24 (sta_keep F_14 K_12 (nsS (Exa.nostat X_5) ns0)))
  have F_43 := (Exa.ext E_24 (Exa.keep X_5 K_12))
  refine Go.callV (a1 := a0) (pc' := 12) (argsL := [(.ref a_20)]) (rest := []) (ct_app l Z a0 hw n0 h_21 a_1 a_20 b_22 b_10 [] [68, 97, 116, 101, 84, 105, 109, 101, 46, 112, 97, 114, 115, 101, 40] 16 F_36 T_32 (by decide) (by decide) (nne (by omega)) (by omega) (by omega) cs F_37 hcs) dp42m6_9 (wd hw 345 rfl) (wd hw 79 rfl) (wd hw 81 rfl) (wd hw 81 rfl) (wd hw 80 rfl) (wd hw 62 rfl) (wd hw 82 rfl) F_43 (by decide) (lenOf pd_19 rfl) rfl 0 rfl rfl (by decide) (by decide) (by decide) (by decide) (sl1 (by simp)) rfl (fun v_38 h_39 N_40 hQ_41 hle_42 => ?_)
  obtain ⟨rfl, K_33, F_34⟩ := hQ_41
  have szh_39 := nle K_33.1
  have F_35 : Sb Z h_39 a_1 b_10 16 [68, 97, 116, 101, 84, 105, 109, 101, 46, 112, 97, 114, 115, 101, 40] := F_34
  refine Go.rs [(.ref a_1)] rfl ?_
  refine Go.aloadN (pc' := 13) dp42m6_12 rfl rfl rfl ?_
  have F_49 := (Str.keep (Str.ext (Str.keep (Str.ext Hj E_3) K_12 (ninS (nne (by omega)) nin0) (ninS (nne (by omega)) nin0)) E_24) K_33 (ninS (nne (by omega)) (ninS (nne (by omega)) nin0)) (ninS (nne (by omega)) (ninS (nne (by omega)) nin0)))
  have F_50 := (sta_keep F_37 K_33 (nsS (Exa.nostat F_43) (nsS (Sb.nsB F_36) ns0)))
  have F_56 := (Exa.keep F_43 K_33)
  refine Go.callV (a1 := a0) (pc' := 16) (argsL := [(.ref sj)]) (rest := []) (ct_appG l Z a0 hw n0 h_39 a_1 sj bj b_10 [68, 97, 116, 101, 84, 105, 109, 101, 46, 112, 97, 114, 115, 101, 40] [106, 32, 97, 115, 32, 83, 116, 114, 105, 110, 103] 16 F_35 F_49 (by decide) (by decide) (by decide) (nne (by omega)) (by omega) cs F_50 hcs) dp42m6_13 (wd hw 345 rfl) (wd hw 79 rfl) (wd hw 81 rfl) (wd hw 81 rfl) (wd hw 80 rfl) (wd hw 62 rfl) (wd hw 82 rfl) F_56 (by decide) (lenOf pd_19 rfl) rfl 0 rfl rfl (by decide) (by decide) (by decide) (by decide) sl0 rfl (fun v_51 h_52 N_53 hQ_54 hle_55 => ?_)
  obtain ⟨rfl, d_47, rfl, g_48, K_44, F_45⟩ := hQ_54
  have ltd_47 := nlt F_45.ltb
  have ged_47 := nle g_48
  have szh_52 := nle K_44.1
  have F_46 : Sb Z h_52 a_1 d_47 34 [68, 97, 116, 101, 84, 105, 109, 101, 46, 112, 97, 114, 115, 101, 40, 106, 32, 97, 115, 32, 83, 116, 114, 105, 110, 103] := F_45
  refine Go.rs [(.ref a_1)] rfl ?_
  refine Go.ldcR (pc' := 18) (a1 := a0) 4 (vs := [.int 41]) (z := 1) dp42m6_16 rfl (wd hw 354 rfl) (own_ws hw) (by decide) (by decide) (by decide) (by decide) rfl (own_ew hw) (List.mem_of_getElem? (i := 11) rfl) ⟨by decide, by decide⟩ (by decide) (by decide) (fun a_57 h_58 b_59 k_60 E_61 X_62 F_63 F_64 A_65 ne_66 => ?_)
  have szh_58 := nle E_61.1
  have lta_57 := nlt X_62.lt
  have ltb_59 := nlt A_65.lt
  have nx_67 := nne2 (ne_66 d_47 (by simp))
  have nx_68 := nne2 (ne_66 b_10 (by simp))
  have nx_69 := nne2 (ne_66 a_1 (by simp))
  have T_70 : Str Z h_58 a_57 b_59 [41] := ⟨X_62, F_63, F_64, k_60, A_65⟩
  have F_74 := (Sb.ext F_46 E_61)
  have F_75 := (Sta.ext E_61 (sta_keep F_50 K_44 (nsS (Exa.nostat F_56) ns0)))
  have F_81 := (Exa.ext E_61 (Exa.keep F_56 K_44))
  refine Go.callV (a1 := a0) (pc' := 21) (argsL := [(.ref a_57)]) (rest := []) (ct_app l Z a0 hw n0 h_58 a_1 a_57 b_59 d_47 [68, 97, 116, 101, 84, 105, 109, 101, 46, 112, 97, 114, 115, 101, 40, 106, 32, 97, 115, 32, 83, 116, 114, 105, 110, 103] [41] 34 F_74 T_70 (by decide) (by decide) (nne (by omega)) (by omega) (by omega) cs F_75 hcs) dp42m6_18 (wd hw 345 rfl) (wd hw 79 rfl) (wd hw 81 rfl) (wd hw 81 rfl) (wd hw 80 rfl) (wd hw 62 rfl) (wd hw 82 rfl) F_81 (by decide) (lenOf pd_19 rfl) rfl 0 rfl rfl (by decide) (by decide) (by decide) (by decide) (sl1 (by simp)) rfl (fun v_76 h_77 N_78 hQ_79 hle_80 => ?_)
  obtain ⟨rfl, K_71, F_72⟩ := hQ_79
  have szh_77 := nle K_71.1
  have F_73 : Sb Z h_77 a_1 d_47 34 [68, 97, 116, 101, 84, 105, 109, 101, 46, 112, 97, 114, 115, 101, 40, 106, 32, 97, 115, 32, 83, 116, 114, 105, 110, 103, 41] := F_72
  refine Go.rs [(.ref a_1)] rfl ?_
  have F_82 := (sta_keep F_75 K_71 (nsS (Exa.nostat F_81) (nsS (Sb.nsB F_74) ns0)))
  have F_94 := (Exa.keep F_81 K_71)
  refine Go.callV (a1 := a0) (pc' := 24) (argsL := []) (rest := []) (ct_ts l Z a0 hw n0 h_77 a_1 d_47 [68, 97, 116, 101, 84, 105, 109, 101, 46, 112, 97, 114, 115, 101, 40, 106, 32, 97, 115, 32, 83, 116, 114, 105, 110, 103, 41] 34 F_73 (by decide) (by decide) (by decide) (by omega) cs F_82 hcs) dp42m6_21 (wd hw 347 rfl) (wd hw 130 rfl) (wd hw 132 rfl) (wd hw 132 rfl) (wd hw 131 rfl) (wd hw 62 rfl) (wd hw 133 rfl) F_94 (by decide) (lenOf pd_20 rfl) rfl 0 rfl rfl (by decide) (by decide) (by decide) (by decide) sl0 rfl (fun v_89 h_90 N_91 hQ_92 hle_93 => ?_)
  obtain ⟨s_83, b_84, rfl, g_85, g_86, K_87, F_88⟩ := hQ_92
  have szh_90 := nle K_87.1
  have lts_83 := nlt F_88.lt
  have ltb_84 := nlt F_88.ltb
  have ges_83 := nle g_85
  have geb_84 := nle g_86
  refine Go.rs [(.ref s_83)] rfl ?_
  refine Go.retA rfl rfl rfl [] sl0 dp42m6_24 (by decide) (by decide) ?_
  exact ⟨s_83, b_84, rfl, by omega, by omega, (Keep.trans (Keep.trans (Keep.ext (Keep.trans (Keep.trans (Keep.ext (Keep.trans (Keep.ext (Keep.refl _ []) E_3) K_12 (allS (Or.inr (by omega)) all0)) E_24) K_33 (allS (Or.inr (by omega)) (allS (Or.inr (by omega)) all0))) K_44 (allS (Or.inr (by omega)) all0)) E_61) K_71 (allS (Or.inr (by omega)) (allS (Or.inr (by omega)) all0))) K_87 all0), F_88⟩
theorem dp38m10_0 : decode prog_38_method_10_code 0 = .ok (.iload_n 1, 1) := by decide +kernel
theorem dp38m10_1 : decode prog_38_method_10_code 1 = .ok (.ifCond .eq 29, 3) := by decide +kernel
theorem dp38m10_30 : decode prog_38_method_10_code 30 = .ok (.aload_n 2, 1) := by decide +kernel
theorem dp38m10_31 : decode prog_38_method_10_code 31 = .ok (.areturn, 1) := by decide +kernel
theorem ct_or0 (l : Launch) (Z : State) (a0 : Array Value) (hw : ∀ d ∈ tables_1, d.before a0 Z = true) (n0 : Nat) (h0 : Heap) (s1 s2 : Addr) :
    Ct l Z (⟨"dev/typewright/dart/DartForm", "orNull", "(Ljava/lang/String;ZLjava/lang/String;)Ljava/lang/String;"⟩ : MethodName) prog_38_method_10_code 3 (some (.object "java/lang/String")) ({ frames := 0, cells := 0, slots := 0, locals := 0 } : Room) EL1 n0 true [] #[(.ref s1), (.int (0 : Int32)), (.ref s2)] h0 [] (fun v h N => h0 = h ∧ v = some (.ref s2)) := by
  refine Ct.of (a0 := a0) (plainFor_of_name pn_dev_typewright_dart_DartForm) (own_ew hw) (L0 := #[.val (.ref s1), .val (.int (0 : Int32)), .val (.ref s2)]) (fun _ => rfl) ?_
  refine Go.iloadN (pc' := 1) dp38m10_0 rfl rfl ?_
  refine Go.ifT (pc' := 30) dp38m10_1 (show (0 : Int32) = (0 : Int32) by decide) (by decide) (by decide) ?_
  refine Go.aloadN (pc' := 31) dp38m10_30 rfl rfl rfl ?_
  refine Go.retA rfl rfl rfl [] sl0 dp38m10_31 (by decide) (by decide) ?_
  exact ⟨rfl, rfl⟩
theorem dp38m10_4 : decode prog_38_method_10_code 4 = .ok (.new 46, 3) := by decide +kernel
theorem dp38m10_7 : decode prog_38_method_10_code 7 = .ok (.dup, 1) := by decide +kernel
theorem dp38m10_8 : decode prog_38_method_10_code 8 = .ok (.invokespecial 48, 3) := by decide +kernel
theorem dp38m10_11 : decode prog_38_method_10_code 11 = .ok (.aload_n 0, 1) := by decide +kernel
theorem dp38m10_12 : decode prog_38_method_10_code 12 = .ok (.invokevirtual 49, 3) := by decide +kernel
theorem dp38m10_15 : decode prog_38_method_10_code 15 = .ok (.ldc 59, 2) := by decide +kernel
theorem dp38m10_17 : decode prog_38_method_10_code 17 = .ok (.invokevirtual 49, 3) := by decide +kernel
theorem dp38m10_20 : decode prog_38_method_10_code 20 = .ok (.aload_n 2, 1) := by decide +kernel
theorem dp38m10_21 : decode prog_38_method_10_code 21 = .ok (.invokevirtual 49, 3) := by decide +kernel
theorem dp38m10_24 : decode prog_38_method_10_code 24 = .ok (.invokevirtual 55, 3) := by decide +kernel
theorem dp38m10_27 : decode prog_38_method_10_code 27 = .ok (.goto 4, 3) := by decide +kernel
theorem ct_or1 (l : Launch) (Z : State) (a0 : Array Value) (hw : ∀ d ∈ tables_1, d.before a0 Z = true) (n0 : Nat) (h0 : Heap) (sj bj : Addr) (Hj : Str Z h0 sj bj [106]) (se be : Addr) (He : Str Z h0 se be [68, 97, 116, 101, 84, 105, 109, 101, 46, 112, 97, 114, 115, 101, 40, 106, 32, 97, 115, 32, 83, 116, 114, 105, 110, 103, 41]) (hn0 : n0 ≤ h0.size) (cs : Int32) (S_cs : Sta Z h0 "java/lang/String" "COMPACT_STRINGS" "Z" (.int cs)) (hcs : ¬ cs = 0) :
    Ct l Z (⟨"dev/typewright/dart/DartForm", "orNull", "(Ljava/lang/String;ZLjava/lang/String;)Ljava/lang/String;"⟩ : MethodName) prog_38_method_10_code 3 (some (.object "java/lang/String")) ({ frames := 6, cells := 8, slots := 484, locals := 91 } : Room) EL1 n0 true [] #[(.ref sj), (.int (1 : Int32)), (.ref se)] h0 [] (fun v h N => ∃ s b, v = some (.ref s) ∧ h0.size ≤ s ∧ h0.size ≤ b ∧ Keep h0 h [] ∧ Str Z h s b [106, 32, 61, 61, 32, 110, 117, 108, 108, 32, 63, 32, 110, 117, 108, 108, 32, 58, 32, 68, 97, 116, 101, 84, 105, 109, 101, 46, 112, 97, 114, 115, 101, 40, 106, 32, 97, 115, 32, 83, 116, 114, 105, 110, 103, 41]) := by
  refine Ct.of (a0 := a0) (plainFor_of_name pn_dev_typewright_dart_DartForm) (own_ew hw) (L0 := #[.val (.ref sj), .val (.int (1 : Int32)), .val (.ref se)]) (fun _ => rfl) ?_
  have lt_Hj := nlt Hj.lt
  have ltb_Hj := nlt Hj.ltb
  have lt_He := nlt He.lt
  have ltb_He := nlt He.ltb
  refine Go.iloadN (pc' := 1) dp38m10_0 rfl rfl ?_
  refine Go.ifF (pc' := 4) dp38m10_1 (show ¬ ((1 : Int32) = (0 : Int32)) by decide) rfl ?_
  refine Go.newO (pc' := 7) (a1 := a0) dp38m10_4 (wd hw 60 rfl) (wd hw 61 rfl) (wd hw 62 rfl) (by decide) (by decide) rfl (fun a_1 h_2 ha_4 E_3 X_5 Df_6 => ?_)
  have szh_2 := nle E_3.1
  have lta_1 := nlt X_5.lt
  have qa_1 := neq ha_4
  have F_7 : Fld Z h_2 a_1 "java/lang/AbstractStringBuilder" "value" "[B" (.null) := Df_6 (Or.inl (wd hw 75 rfl)) (ty := (.array .byte)) (by decide)
  have F_8 : Fld Z h_2 a_1 "java/lang/AbstractStringBuilder" "coder" "B" (.int (0 : Int32)) := Df_6 (Or.inl (wd hw 77 rfl)) (ty := .byte) (by decide)
  have F_9 : Fld Z h_2 a_1 "java/lang/AbstractStringBuilder" "count" "I" (.int (0 : Int32)) := Df_6 (Or.inl (wd hw 102 rfl)) (ty := .int) (by decide)
  refine Go.dup (pc' := 8) dp38m10_7 rfl rfl ?_
  have F_14 := (Sta.ext E_3 S_cs)
  refine Go.callN (a1 := a0) (pc' := 11) (argsL := []) (rest := [(.ref a_1)]) (ct_sbi0 l Z a0 hw n0 h_2 a_1 (by omega) X_5 F_9 F_8 F_7 cs F_14 hcs) dp38m10_8 rfl (wd hw 63 rfl) (wd hw 64 rfl) (wd hw 62 rfl) (wd hw 65 rfl) (by decide) (lenOf pd_18 rfl) rfl 1 rfl rfl (by decide) (by decide) (by decide) (by decide) sl0 rfl (fun v_15 h_16 N_17 hQ_18 hle_19 => ?_)
  obtain ⟨rfl, b_10, rfl, g_11, K_12, F_13⟩ := hQ_18
  have szh_16 := nle K_12.1
  have ltb_10 := nlt F_13.ltb
  have geb_10 := nle g_11
  refine Go.rs [(.ref a_1)] rfl ?_
  refine Go.aloadN (pc' := 12) dp38m10_11 rfl rfl rfl ?_
  have F_23 := (Str.keep (Str.ext Hj E_3) K_12 (ninS (nne (by omega)) nin0) (ninS (nne (by omega)) nin0))
  have F_24 := (sta_keep F_14 K_12 (nsS (Exa.nostat X_5) ns0))
  have F_30 := (Exa.keep X_5 K_12)
  refine Go.callV (a1 := a0) (pc' := 15) (argsL := [(.ref sj)]) (rest := []) (ct_app l Z a0 hw n0 h_16 a_1 sj bj b_10 [] [106] 16 F_13 F_23 (by decide) (by decide) (nne (by omega)) (by omega) (by omega) cs F_24 hcs) dp38m10_12 (wd hw 78 rfl) (wd hw 79 rfl) (wd hw 81 rfl) (wd hw 81 rfl) (wd hw 80 rfl) (wd hw 62 rfl) (wd hw 82 rfl) F_30 (by decide) (lenOf pd_19 rfl) rfl 0 rfl rfl (by decide) (by decide) (by decide) (by decide) (sl1 (by simp)) rfl (fun v_25 h_26 N_27 hQ_28 hle_29 => ?_)
  obtain ⟨rfl, K_20, F_21⟩ := hQ_28
  have szh_26 := nle K_20.1
  have F_22 : Sb Z h_26 a_1 b_10 16 [106] := F_21
  refine Go.rs [(.ref a_1)] rfl ?_
  refine Go.ldcR (pc' := 17) (a1 := a0) 72 (vs := [.int 32, .int 61, .int 61, .int 32, .int 110, .int 117, .int 108, .int 108, .int 32, .int 63, .int 32, .int 110, .int 117, .int 108, .int 108, .int 32, .int 58, .int 32]) (z := 18) dp38m10_15 rfl (wd hw 382 rfl) (own_ws hw) (by decide) (by decide) (by decide) (by decide) rfl (own_ew hw) (List.mem_of_getElem? (i := 4) rfl) ⟨by decide, by decide⟩ (by decide) (by decide) (fun a_31 h_32 b_33 k_34 E_35 X_36 F_37 F_38 A_39 ne_40 => ?_)
  have szh_32 := nle E_35.1
  have lta_31 := nlt X_36.lt
  have ltb_33 := nlt A_39.lt
  have nx_41 := nne2 (ne_40 b_10 (by simp))
  have nx_42 := nne2 (ne_40 a_1 (by simp))
  have T_43 : Str Z h_32 a_31 b_33 [32, 61, 61, 32, 110, 117, 108, 108, 32, 63, 32, 110, 117, 108, 108, 32, 58, 32] := ⟨X_36, F_37, F_38, k_34, A_39⟩
  have F_49 := (Sb.ext F_22 E_35)
  have F_50 := (Sta.ext E_35 (sta_keep F_24 K_20 (nsS (Exa.nostat F_30) (nsS (Sb.nsB F_13) ns0))))
  have F_56 := (Exa.ext E_35 (Exa.keep F_30 K_20))
  refine Go.callV (a1 := a0) (pc' := 20) (argsL := [(.ref a_31)]) (rest := []) (ct_appG l Z a0 hw n0 h_32 a_1 a_31 b_33 b_10 [106] [32, 61, 61, 32, 110, 117, 108, 108, 32, 63, 32, 110, 117, 108, 108, 32, 58, 32] 16 F_49 T_43 (by decide) (by decide) (by decide) (nne (by omega)) (by omega) cs F_50 hcs) dp38m10_17 (wd hw 78 rfl) (wd hw 79 rfl) (wd hw 81 rfl) (wd hw 81 rfl) (wd hw 80 rfl) (wd hw 62 rfl) (wd hw 82 rfl) F_56 (by decide) (lenOf pd_19 rfl) rfl 0 rfl rfl (by decide) (by decide) (by decide) (by decide) sl0 rfl (fun v_51 h_52 N_53 hQ_54 hle_55 => ?_)
  obtain ⟨rfl, d_47, rfl, g_48, K_44, F_45⟩ := hQ_54
  have ltd_47 := nlt F_45.ltb
  have ged_47 := nle g_48
  have szh_52 := nle K_44.1
  have F_46 : Sb Z h_52 a_1 d_47 34 [106, 32, 61, 61, 32, 110, 117, 108, 108, 32, 63, 32, 110, 117, 108, 108, 32, 58, 32] := F_45
  refine Go.rs [(.ref a_1)] rfl ?_
  refine Go.aloadN (pc' := 21) dp38m10_20 rfl rfl rfl ?_
  have F_62 := (Str.keep (Str.ext (Str.keep (Str.keep (Str.ext He E_3) K_12 (ninS (nne (by omega)) nin0) (ninS (nne (by omega)) nin0)) K_20 (ninS (nne (by omega)) (ninS (nne (by omega)) nin0)) (ninS (nne (by omega)) (ninS (nne (by omega)) nin0))) E_35) K_44 (ninS (nne (by omega)) nin0) (ninS (nne (by omega)) nin0))
  have F_63 := (sta_keep F_50 K_44 (nsS (Exa.nostat F_56) ns0))
  have F_69 := (Exa.keep F_56 K_44)
  refine Go.callV (a1 := a0) (pc' := 24) (argsL := [(.ref se)]) (rest := []) (ct_appG l Z a0 hw n0 h_52 a_1 se be d_47 [106, 32, 61, 61, 32, 110, 117, 108, 108, 32, 63, 32, 110, 117, 108, 108, 32, 58, 32] [68, 97, 116, 101, 84, 105, 109, 101, 46, 112, 97, 114, 115, 101, 40, 106, 32, 97, 115, 32, 83, 116, 114, 105, 110, 103, 41] 34 F_46 F_62 (by decide) (by decide) (by decide) (nne (by omega)) (by omega) cs F_63 hcs) dp38m10_21 (wd hw 78 rfl) (wd hw 79 rfl) (wd hw 81 rfl) (wd hw 81 rfl) (wd hw 80 rfl) (wd hw 62 rfl) (wd hw 82 rfl) F_69 (by decide) (lenOf pd_19 rfl) rfl 0 rfl rfl (by decide) (by decide) (by decide) (by decide) sl0 rfl (fun v_64 h_65 N_66 hQ_67 hle_68 => ?_)
  obtain ⟨rfl, d_60, rfl, g_61, K_57, F_58⟩ := hQ_67
  have ltd_60 := nlt F_58.ltb
  have ged_60 := nle g_61
  have szh_65 := nle K_57.1
  have F_59 : Sb Z h_65 a_1 d_60 70 [106, 32, 61, 61, 32, 110, 117, 108, 108, 32, 63, 32, 110, 117, 108, 108, 32, 58, 32, 68, 97, 116, 101, 84, 105, 109, 101, 46, 112, 97, 114, 115, 101, 40, 106, 32, 97, 115, 32, 83, 116, 114, 105, 110, 103, 41] := F_58
  refine Go.rs [(.ref a_1)] rfl ?_
  have F_70 := (sta_keep F_63 K_57 (nsS (Exa.nostat F_69) ns0))
  have F_82 := (Exa.keep F_69 K_57)
  refine Go.callV (a1 := a0) (pc' := 27) (argsL := []) (rest := []) (ct_ts l Z a0 hw n0 h_65 a_1 d_60 [106, 32, 61, 61, 32, 110, 117, 108, 108, 32, 63, 32, 110, 117, 108, 108, 32, 58, 32, 68, 97, 116, 101, 84, 105, 109, 101, 46, 112, 97, 114, 115, 101, 40, 106, 32, 97, 115, 32, 83, 116, 114, 105, 110, 103, 41] 70 F_59 (by decide) (by decide) (by decide) (by omega) cs F_70 hcs) dp38m10_24 (wd hw 129 rfl) (wd hw 130 rfl) (wd hw 132 rfl) (wd hw 132 rfl) (wd hw 131 rfl) (wd hw 62 rfl) (wd hw 133 rfl) F_82 (by decide) (lenOf pd_20 rfl) rfl 0 rfl rfl (by decide) (by decide) (by decide) (by decide) sl0 rfl (fun v_77 h_78 N_79 hQ_80 hle_81 => ?_)
  obtain ⟨s_71, b_72, rfl, g_73, g_74, K_75, F_76⟩ := hQ_80
  have szh_78 := nle K_75.1
  have lts_71 := nlt F_76.lt
  have ltb_72 := nlt F_76.ltb
  have ges_71 := nle g_73
  have geb_72 := nle g_74
  refine Go.rs [(.ref s_71)] rfl ?_
  refine Go.goto (pc' := 31) dp38m10_27 (by decide) (by decide) ?_
  refine Go.retA rfl rfl rfl [] sl0 dp38m10_31 (by decide) (by decide) ?_
  exact ⟨s_71, b_72, rfl, by omega, by omega, (Keep.trans (Keep.trans (Keep.trans (Keep.ext (Keep.trans (Keep.trans (Keep.ext (Keep.refl _ []) E_3) K_12 (allS (Or.inr (by omega)) all0)) K_20 (allS (Or.inr (by omega)) (allS (Or.inr (by omega)) all0))) E_35) K_44 (allS (Or.inr (by omega)) all0)) K_57 (allS (Or.inr (by omega)) all0)) K_75 all0), F_76⟩
theorem dp42m3_0 : decode prog_42_method_3_code 0 = .ok (.aload_n 1, 1) := by decide +kernel
theorem dp42m3_1 : decode prog_42_method_3_code 1 = .ok (.iload_n 2, 1) := by decide +kernel
theorem dp42m3_2 : decode prog_42_method_3_code 2 = .ok (.aload_n 0, 1) := by decide +kernel
theorem dp42m3_3 : decode prog_42_method_3_code 3 = .ok (.new 21, 3) := by decide +kernel
theorem dp42m3_6 : decode prog_42_method_3_code 6 = .ok (.dup, 1) := by decide +kernel
theorem dp42m3_7 : decode prog_42_method_3_code 7 = .ok (.invokespecial 23, 3) := by decide +kernel
theorem dp42m3_10 : decode prog_42_method_3_code 10 = .ok (.aload_n 1, 1) := by decide +kernel
theorem dp42m3_11 : decode prog_42_method_3_code 11 = .ok (.invokevirtual 24, 3) := by decide +kernel
theorem dp42m3_14 : decode prog_42_method_3_code 14 = .ok (.ldc 28, 2) := by decide +kernel
theorem dp42m3_16 : decode prog_42_method_3_code 16 = .ok (.invokevirtual 24, 3) := by decide +kernel
theorem dp42m3_19 : decode prog_42_method_3_code 19 = .ok (.invokevirtual 30, 3) := by decide +kernel
theorem pd_24 : parseMethodDescriptor "(Ljava/lang/String;)Ljava/lang/String;" = some ⟨[(.object "java/lang/String")], (some (.object "java/lang/String"))⟩ := by decide +kernel
theorem dp42m3_22 : decode prog_42_method_3_code 22 = .ok (.invokevirtual 34, 3) := by decide +kernel
theorem pd_25 : parseMethodDescriptor "(Ljava/lang/String;ZLjava/lang/String;)Ljava/lang/String;" = some ⟨[(.object "java/lang/String"), .boolean, (.object "java/lang/String")], (some (.object "java/lang/String"))⟩ := by decide +kernel
theorem dp42m3_25 : decode prog_42_method_3_code 25 = .ok (.invokestatic 38, 3) := by decide +kernel
theorem dp42m3_28 : decode prog_42_method_3_code 28 = .ok (.areturn, 1) := by decide +kernel
theorem ct_tfj_j10 (l : Launch) (Z : State) (a0 : Array Value) (hw : ∀ d ∈ tables_1, d.before a0 Z = true) (n0 : Nat) (h0 : Heap) (a1 : Addr) (EX : Exa Z h0 a1 "dev/typewright/dart/DartForm$DateTimeForm") (sj bj : Addr) (Hj : Str Z h0 sj bj [106]) (hn0 : n0 ≤ h0.size) (cs : Int32) (S_cs : Sta Z h0 "java/lang/String" "COMPACT_STRINGS" "Z" (.int cs)) (hcs : ¬ cs = 0) :
    Ct l Z (⟨"dev/typewright/dart/DartForm$DateTimeForm", "fromJson", "(Ljava/lang/String;Z)Ljava/lang/String;"⟩ : MethodName) prog_42_method_3_code 3 (some (.object "java/lang/String")) ({ frames := 7, cells := 15, slots := 548, locals := 106 } : Room) EL1 n0 true [] #[(.ref a1), (.ref sj), (.int (0 : Int32))] h0 [] (fun v h N => ∃ s b, v = some (.ref s) ∧ Keep h0 h [] ∧ Str Z h s b [68, 97, 116, 101, 84, 105, 109, 101, 46, 112, 97, 114, 115, 101, 40, 106, 32, 97, 115, 32, 83, 116, 114, 105, 110, 103, 41]) := by
  refine Ct.of (a0 := a0) (plainFor_of_name pn_dev_typewright_dart_DartForm_DateTimeForm) (own_ew hw) (L0 := #[.val (.ref a1), .val (.ref sj), .val (.int (0 : Int32))]) (fun _ => rfl) ?_
  have lt_Hj := nlt Hj.lt
  have ltb_Hj := nlt Hj.ltb
  have l0_EX := nlt EX.lt
  refine Go.aloadN (pc' := 1) dp42m3_0 rfl rfl rfl ?_
  refine Go.iloadN (pc' := 2) dp42m3_1 rfl rfl ?_
  refine Go.aloadN (pc' := 3) dp42m3_2 rfl rfl rfl ?_
  refine Go.newO (pc' := 6) (a1 := a0) dp42m3_3 (wd hw 343 rfl) (wd hw 61 rfl) (wd hw 62 rfl) (by decide) (by decide) rfl (fun a_1 h_2 ha_4 E_3 X_5 Df_6 => ?_)
  have szh_2 := nle E_3.1
  have lta_1 := nlt X_5.lt
  have qa_1 := neq ha_4
  have F_7 : Fld Z h_2 a_1 "java/lang/AbstractStringBuilder" "value" "[B" (.null) := Df_6 (Or.inl (wd hw 75 rfl)) (ty := (.array .byte)) (by decide)
  have F_8 : Fld Z h_2 a_1 "java/lang/AbstractStringBuilder" "coder" "B" (.int (0 : Int32)) := Df_6 (Or.inl (wd hw 77 rfl)) (ty := .byte) (by decide)
  have F_9 : Fld Z h_2 a_1 "java/lang/AbstractStringBuilder" "count" "I" (.int (0 : Int32)) := Df_6 (Or.inl (wd hw 102 rfl)) (ty := .int) (by decide)
  refine Go.dup (pc' := 7) dp42m3_6 rfl rfl ?_
  have F_14 := (Sta.ext E_3 S_cs)
  refine Go.callN (a1 := a0) (pc' := 10) (argsL := []) (rest := [(.ref a_1), (.ref a1), (.int (0 : Int32)), (.ref sj)]) (ct_sbi0 l Z a0 hw n0 h_2 a_1 (by omega) X_5 F_9 F_8 F_7 cs F_14 hcs) dp42m3_7 rfl (wd hw 344 rfl) (wd hw 64 rfl) (wd hw 62 rfl) (wd hw 65 rfl) (by decide) (lenOf pd_18 rfl) rfl 4 rfl rfl (by decide) (by decide) (by decide) (by decide) sl0 rfl (fun v_15 h_16 N_17 hQ_18 hle_19 => ?_)
  obtain ⟨rfl, b_10, rfl, g_11, K_12, F_13⟩ := hQ_18
  have szh_16 := nle K_12.1
  have ltb_10 := nlt F_13.ltb
  have geb_10 := nle g_11
  refine Go.rs [(.ref a_1), (.ref a1), (.int (0 : Int32)), (.ref sj)] rfl ?_
  refine Go.aloadN (pc' := 11) dp42m3_10 rfl rfl rfl ?_
  have F_23 := (Str.keep (Str.ext Hj E_3) K_12 (ninS (nne (by omega)) nin0) (ninS (nne (by omega)) nin0))
  have F_24 := (sta_keep F_14 K_12 (nsS (Exa.nostat X_5) ns0))
  have F_30 := (Exa.keep X_5 K_12)
  refine Go.callV (a1 := a0) (pc' := 14) (argsL := [(.ref sj)]) (rest := [(.ref a1), (.int (0 : Int32)), (.ref sj)]) (ct_app l Z a0 hw n0 h_16 a_1 sj bj b_10 [] [106] 16 F_13 F_23 (by decide) (by decide) (nne (by omega)) (by omega) (by omega) cs F_24 hcs) dp42m3_11 (wd hw 345 rfl) (wd hw 79 rfl) (wd hw 81 rfl) (wd hw 81 rfl) (wd hw 80 rfl) (wd hw 62 rfl) (wd hw 82 rfl) F_30 (by decide) (lenOf pd_19 rfl) rfl 3 rfl rfl (by decide) (by decide) (by decide) (by decide) (sl1 (by simp)) rfl (fun v_25 h_26 N_27 hQ_28 hle_29 => ?_)
  obtain ⟨rfl, K_20, F_21⟩ := hQ_28
  have szh_26 := nle K_20.1
  have F_22 : Sb Z h_26 a_1 b_10 16 [106] := F_21
  refine Go.rs [(.ref a_1), (.ref a1), (.int (0 : Int32)), (.ref sj)] rfl ?_
  refine Go.ldcR (pc' := 16) (a1 := a0) 40 (vs := [.int 32, .int 97, .int 115, .int 32, .int 83, .int 116, .int 114, .int 105, .int 110, .int 103]) (z := 10) dp42m3_14 rfl (wd hw 346 rfl) (own_ws hw) (by decide) (by decide) (by decide) (by decide) rfl (own_ew hw) (List.mem_of_getElem? (i := 6) rfl) ⟨by decide, by decide⟩ (by decide) (by decide) (fun a_31 h_32 b_33 k_34 E_35 X_36 F_37 F_38 A_39 ne_40 => ?_)
  have szh_32 := nle E_35.1
  have lta_31 := nlt X_36.lt
  have ltb_33 := nlt A_39.lt
  have nx_41 := nne2 (ne_40 b_10 (by simp))
  have nx_42 := nne2 (ne_40 a_1 (by simp))
  have T_43 : Str Z h_32 a_31 b_33 [32, 97, 115, 32, 83, 116, 114, 105, 110, 103] := ⟨X_36, F_37, F_38, k_34, A_39⟩
  have F_47 := (Sb.ext F_22 E_35)
  have F_48 := (Sta.ext E_35 (sta_keep F_24 K_20 (nsS (Exa.nostat F_30) (nsS (Sb.nsB F_13) ns0))))
  have F_54 := (Exa.ext E_35 (Exa.keep F_30 K_20))
  refine Go.callV (a1 := a0) (pc' := 19) (argsL := [(.ref a_31)]) (rest := [(.ref a1), (.int (0 : Int32)), (.ref sj)]) (ct_app l Z a0 hw n0 h_32 a_1 a_31 b_33 b_10 [106] [32, 97, 115, 32, 83, 116, 114, 105, 110, 103] 16 F_47 T_43 (by decide) (by decide) (nne (by omega)) (by omega) (by omega) cs F_48 hcs) dp42m3_16 (wd hw 345 rfl) (wd hw 79 rfl) (wd hw 81 rfl) (wd hw 81 rfl) (wd hw 80 rfl) (wd hw 62 rfl) (wd hw 82 rfl) F_54 (by decide) (lenOf pd_19 rfl) rfl 3 rfl rfl (by decide) (by decide) (by decide) (by decide) (sl1 (by simp)) rfl (fun v_49 h_50 N_51 hQ_52 hle_53 => ?_)
  obtain ⟨rfl, K_44, F_45⟩ := hQ_52
  have szh_50 := nle K_44.1
  have F_46 : Sb Z h_50 a_1 b_10 16 [106, 32, 97, 115, 32, 83, 116, 114, 105, 110, 103] := F_45
  refine Go.rs [(.ref a_1), (.ref a1), (.int (0 : Int32)), (.ref sj)] rfl ?_
  have F_55 := (sta_keep F_48 K_44 (nsS (Exa.nostat F_54) (nsS (Sb.nsB F_47) ns0)))
  have F_67 := (Exa.keep F_54 K_44)
  refine Go.callV (a1 := a0) (pc' := 22) (argsL := []) (rest := [(.ref a1), (.int (0 : Int32)), (.ref sj)]) (ct_ts l Z a0 hw n0 h_50 a_1 b_10 [106, 32, 97, 115, 32, 83, 116, 114, 105, 110, 103] 16 F_46 (by decide) (by decide) (by decide) (by omega) cs F_55 hcs) dp42m3_19 (wd hw 347 rfl) (wd hw 130 rfl) (wd hw 132 rfl) (wd hw 132 rfl) (wd hw 131 rfl) (wd hw 62 rfl) (wd hw 133 rfl) F_67 (by decide) (lenOf pd_20 rfl) rfl 3 rfl rfl (by decide) (by decide) (by decide) (by decide) sl0 rfl (fun v_62 h_63 N_64 hQ_65 hle_66 => ?_)
  obtain ⟨s_56, b_57, rfl, g_58, g_59, K_60, F_61⟩ := hQ_65
  have szh_63 := nle K_60.1
  have lts_56 := nlt F_61.lt
  have ltb_57 := nlt F_61.ltb
  have ges_56 := nle g_58
  have geb_57 := nle g_59
  refine Go.rs [(.ref s_56), (.ref a1), (.int (0 : Int32)), (.ref sj)] rfl ?_
  have F_68 := (Exa.keep (Exa.keep (Exa.ext E_35 (Exa.keep (Exa.keep (Exa.ext E_3 EX) K_12) K_20)) K_44) K_60)
  have F_69 := (sta_keep F_55 K_60 ns0)
  refine Go.callV (a1 := a0) (pc' := 25) (argsL := [(.ref s_56)]) (rest := [(.int (0 : Int32)), (.ref sj)]) (ct_tfd_j11 l Z a0 hw n0 h_63 a1 F_68  s_56 b_57 F_61 (by omega) cs F_69 hcs) dp42m3_22 (wd hw 348 rfl) (wd hw 349 rfl) (wd hw 351 rfl) (wd hw 351 rfl) (wd hw 350 rfl) (wd hw 322 rfl) (wd hw 352 rfl) F_68 (by decide) (lenOf pd_24 rfl) rfl 2 rfl rfl (by decide) (by decide) (by decide) (by decide) sl0 rfl (fun v_76 h_77 N_78 hQ_79 hle_80 => ?_)
  obtain ⟨s_70, b_71, rfl, g_72, g_73, K_74, F_75⟩ := hQ_79
  have szh_77 := nle K_74.1
  have lts_70 := nlt F_75.lt
  have ltb_71 := nlt F_75.ltb
  have ges_70 := nle g_72
  have geb_71 := nle g_73
  refine Go.rs [(.ref s_70), (.int (0 : Int32)), (.ref sj)] rfl ?_
  refine Go.callS (a1 := a0) (pc' := 28) (argsL := [(.ref sj), (.int (0 : Int32)), (.ref s_70)]) (rest := []) (ct_or0 l Z a0 hw n0 h_77 sj s_70) dp42m3_25 (wd hw 355 rfl) (wd hw 356 rfl) (wd hw 10 rfl) (wd hw 357 rfl) (by decide) (lenOf pd_25 rfl) rfl 0 rfl rfl (by decide) (by decide) (by decide) (by decide) sl0 rfl (fun v_81 h_82 N_83 hQ_84 hle_85 => ?_)
  obtain ⟨rfl, rfl⟩ := hQ_84
  refine Go.rs [(.ref s_70)] rfl ?_
  refine Go.retA rfl rfl rfl [] sl0 dp42m3_28 (by decide) (by decide) ?_
  exact ⟨s_70, b_71, rfl, (Keep.trans (Keep.trans (Keep.trans (Keep.ext (Keep.trans (Keep.trans (Keep.ext (Keep.refl _ []) E_3) K_12 (allS (Or.inr (by omega)) all0)) K_20 (allS (Or.inr (by omega)) (allS (Or.inr (by omega)) all0))) E_35) K_44 (allS (Or.inr (by omega)) (allS (Or.inr (by omega)) all0))) K_60 all0) K_74 all0), F_75⟩
theorem ct_tfj_j11 (l : Launch) (Z : State) (a0 : Array Value) (hw : ∀ d ∈ tables_1, d.before a0 Z = true) (n0 : Nat) (h0 : Heap) (a1 : Addr) (EX : Exa Z h0 a1 "dev/typewright/dart/DartForm$DateTimeForm") (sj bj : Addr) (Hj : Str Z h0 sj bj [106]) (hn0 : n0 ≤ h0.size) (cs : Int32) (S_cs : Sta Z h0 "java/lang/String" "COMPACT_STRINGS" "Z" (.int cs)) (hcs : ¬ cs = 0) :
    Ct l Z (⟨"dev/typewright/dart/DartForm$DateTimeForm", "fromJson", "(Ljava/lang/String;Z)Ljava/lang/String;"⟩ : MethodName) prog_42_method_3_code 3 (some (.object "java/lang/String")) ({ frames := 7, cells := 23, slots := 1032, locals := 106 } : Room) EL1 n0 true [] #[(.ref a1), (.ref sj), (.int (1 : Int32))] h0 [] (fun v h N => ∃ s b, v = some (.ref s) ∧ Keep h0 h [] ∧ Str Z h s b [106, 32, 61, 61, 32, 110, 117, 108, 108, 32, 63, 32, 110, 117, 108, 108, 32, 58, 32, 68, 97, 116, 101, 84, 105, 109, 101, 46, 112, 97, 114, 115, 101, 40, 106, 32, 97, 115, 32, 83, 116, 114, 105, 110, 103, 41]) := by
  refine Ct.of (a0 := a0) (plainFor_of_name pn_dev_typewright_dart_DartForm_DateTimeForm) (own_ew hw) (L0 := #[.val (.ref a1), .val (.ref sj), .val (.int (1 : Int32))]) (fun _ => rfl) ?_
  have lt_Hj := nlt Hj.lt
  have ltb_Hj := nlt Hj.ltb
  have l0_EX := nlt EX.lt
  refine Go.aloadN (pc' := 1) dp42m3_0 rfl rfl rfl ?_
  refine Go.iloadN (pc' := 2) dp42m3_1 rfl rfl ?_
  refine Go.aloadN (pc' := 3) dp42m3_2 rfl rfl rfl ?_
  refine Go.newO (pc' := 6) (a1 := a0) dp42m3_3 (wd hw 343 rfl) (wd hw 61 rfl) (wd hw 62 rfl) (by decide) (by decide) rfl (fun a_1 h_2 ha_4 E_3 X_5 Df_6 => ?_)
  have szh_2 := nle E_3.1
  have lta_1 := nlt X_5.lt
  have qa_1 := neq ha_4
  have F_7 : Fld Z h_2 a_1 "java/lang/AbstractStringBuilder" "value" "[B" (.null) := Df_6 (Or.inl (wd hw 75 rfl)) (ty := (.array .byte)) (by decide)
  have F_8 : Fld Z h_2 a_1 "java/lang/AbstractStringBuilder" "coder" "B" (.int (0 : Int32)) := Df_6 (Or.inl (wd hw 77 rfl)) (ty := .byte) (by decide)
  have F_9 : Fld Z h_2 a_1 "java/lang/AbstractStringBuilder" "count" "I" (.int (0 : Int32)) := Df_6 (Or.inl (wd hw 102 rfl)) (ty := .int) (by decide)
  refine Go.dup (pc' := 7) dp42m3_6 rfl rfl ?_
  have F_14 := (Sta.ext E_3 S_cs)
  refine Go.callN (a1 := a0) (pc' := 10) (argsL := []) (rest := [(.ref a_1), (.ref a1), (.int (1 : Int32)), (.ref sj)]) (ct_sbi0 l Z a0 hw n0 h_2 a_1 (by omega) X_5 F_9 F_8 F_7 cs F_14 hcs) dp42m3_7 rfl (wd hw 344 rfl) (wd hw 64 rfl) (wd hw 62 rfl) (wd hw 65 rfl) (by decide) (lenOf pd_18 rfl) rfl 4 rfl rfl (by decide) (by decide) (by decide) (by decide) sl0 rfl (fun v_15 h_16 N_17 hQ_18 hle_19 => ?_)
  obtain ⟨rfl, b_10, rfl, g_11, K_12, F_13⟩ := hQ_18
  have szh_16 := nle K_12.1
  have ltb_10 := nlt F_13.ltb
  have geb_10 := nle g_11
  refine Go.rs [(.ref a_1), (.ref a1), (.int (1 : Int32)), (.ref sj)] rfl ?_
  refine Go.aloadN (pc' := 11) dp42m3_10 rfl rfl rfl ?_
  have F_23 := (Str.keep (Str.ext Hj E_3) K_12 (ninS (nne (by omega)) nin0) (ninS (nne (by omega)) nin0))
  have F_24 := (sta_keep F_14 K_12 (nsS (Exa.nostat X_5) ns0))
  have F_30 := (Exa.keep X_5 K_12)
  refine Go.callV (a1 := a0) (pc' := 14) (argsL := [(.ref sj)]) (rest := [(.ref a1), (.int (1 : Int32)), (.ref sj)]) (ct_app l Z a0 hw n0 h_16 a_1 sj bj b_10 [] [106] 16 F_13 F_23 (by decide) (by decide) (nne (by omega)) (by omega) (by omega) cs F_24 hcs) dp42m3_11 (wd hw 345 rfl) (wd hw 79 rfl) (wd hw 81 rfl) (wd hw 81 rfl) (wd hw 80 rfl) (wd hw 62 rfl) (wd hw 82 rfl) F_30 (by decide) (lenOf pd_19 rfl) rfl 3 rfl rfl (by decide) (by decide) (by decide) (by decide) (sl1 (by simp)) rfl (fun v_25 h_26 N_27 hQ_28 hle_29 => ?_)
  obtain ⟨rfl, K_20, F_21⟩ := hQ_28
  have szh_26 := nle K_20.1
  have F_22 : Sb Z h_26 a_1 b_10 16 [106] := F_21
  refine Go.rs [(.ref a_1), (.ref a1), (.int (1 : Int32)), (.ref sj)] rfl ?_
  refine Go.ldcR (pc' := 16) (a1 := a0) 40 (vs := [.int 32, .int 97, .int 115, .int 32, .int 83, .int 116, .int 114, .int 105, .int 110, .int 103]) (z := 10) dp42m3_14 rfl (wd hw 346 rfl) (own_ws hw) (by decide) (by decide) (by decide) (by decide) rfl (own_ew hw) (List.mem_of_getElem? (i := 6) rfl) ⟨by decide, by decide⟩ (by decide) (by decide) (fun a_31 h_32 b_33 k_34 E_35 X_36 F_37 F_38 A_39 ne_40 => ?_)
  have szh_32 := nle E_35.1
  have lta_31 := nlt X_36.lt
  have ltb_33 := nlt A_39.lt
  have nx_41 := nne2 (ne_40 b_10 (by simp))
  have nx_42 := nne2 (ne_40 a_1 (by simp))
  have T_43 : Str Z h_32 a_31 b_33 [32, 97, 115, 32, 83, 116, 114, 105, 110, 103] := ⟨X_36, F_37, F_38, k_34, A_39⟩
  have F_47 := (Sb.ext F_22 E_35)
  have F_48 := (Sta.ext E_35 (sta_keep F_24 K_20 (nsS (Exa.nostat F_30) (nsS (Sb.nsB F_13) ns0))))
  have F_54 := (Exa.ext E_35 (Exa.keep F_30 K_20))
  refine Go.callV (a1 := a0) (pc' := 19) (argsL := [(.ref a_31)]) (rest := [(.ref a1), (.int (1 : Int32)), (.ref sj)]) (ct_app l Z a0 hw n0 h_32 a_1 a_31 b_33 b_10 [106] [32, 97, 115, 32, 83, 116, 114, 105, 110, 103] 16 F_47 T_43 (by decide) (by decide) (nne (by omega)) (by omega) (by omega) cs F_48 hcs) dp42m3_16 (wd hw 345 rfl) (wd hw 79 rfl) (wd hw 81 rfl) (wd hw 81 rfl) (wd hw 80 rfl) (wd hw 62 rfl) (wd hw 82 rfl) F_54 (by decide) (lenOf pd_19 rfl) rfl 3 rfl rfl (by decide) (by decide) (by decide) (by decide) (sl1 (by simp)) rfl (fun v_49 h_50 N_51 hQ_52 hle_53 => ?_)
  obtain ⟨rfl, K_44, F_45⟩ := hQ_52
  have szh_50 := nle K_44.1
  have F_46 : Sb Z h_50 a_1 b_10 16 [106, 32, 97, 115, 32, 83, 116, 114, 105, 110, 103] := F_45
  refine Go.rs [(.ref a_1), (.ref a1), (.int (1 : Int32)), (.ref sj)] rfl ?_
  have F_55 := (sta_keep F_48 K_44 (nsS (Exa.nostat F_54) (nsS (Sb.nsB F_47) ns0)))
  have F_67 := (Exa.keep F_54 K_44)
  refine Go.callV (a1 := a0) (pc' := 22) (argsL := []) (rest := [(.ref a1), (.int (1 : Int32)), (.ref sj)]) (ct_ts l Z a0 hw n0 h_50 a_1 b_10 [106, 32, 97, 115, 32, 83, 116, 114, 105, 110, 103] 16 F_46 (by decide) (by decide) (by decide) (by omega) cs F_55 hcs) dp42m3_19 (wd hw 347 rfl) (wd hw 130 rfl) (wd hw 132 rfl) (wd hw 132 rfl) (wd hw 131 rfl) (wd hw 62 rfl) (wd hw 133 rfl) F_67 (by decide) (lenOf pd_20 rfl) rfl 3 rfl rfl (by decide) (by decide) (by decide) (by decide) sl0 rfl (fun v_62 h_63 N_64 hQ_65 hle_66 => ?_)
  obtain ⟨s_56, b_57, rfl, g_58, g_59, K_60, F_61⟩ := hQ_65
  have szh_63 := nle K_60.1
  have lts_56 := nlt F_61.lt
  have ltb_57 := nlt F_61.ltb
  have ges_56 := nle g_58
  have geb_57 := nle g_59
  refine Go.rs [(.ref s_56), (.ref a1), (.int (1 : Int32)), (.ref sj)] rfl ?_
  have F_68 := (Exa.keep (Exa.keep (Exa.ext E_35 (Exa.keep (Exa.keep (Exa.ext E_3 EX) K_12) K_20)) K_44) K_60)
  have F_69 := (sta_keep F_55 K_60 ns0)
  refine Go.callV (a1 := a0) (pc' := 25) (argsL := [(.ref s_56)]) (rest := [(.int (1 : Int32)), (.ref sj)]) (ct_tfd_j11 l Z a0 hw n0 h_63 a1 F_68  s_56 b_57 F_61 (by omega) cs F_69 hcs) dp42m3_22 (wd hw 348 rfl) (wd hw 349 rfl) (wd hw 351 rfl) (wd hw 351 rfl) (wd hw 350 rfl) (wd hw 322 rfl) (wd hw 352 rfl) F_68 (by decide) (lenOf pd_24 rfl) rfl 2 rfl rfl (by decide) (by decide) (by decide) (by decide) sl0 rfl (fun v_76 h_77 N_78 hQ_79 hle_80 => ?_)
  obtain ⟨s_70, b_71, rfl, g_72, g_73, K_74, F_75⟩ := hQ_79
  have szh_77 := nle K_74.1
  have lts_70 := nlt F_75.lt
  have ltb_71 := nlt F_75.ltb
  have ges_70 := nle g_72
  have geb_71 := nle g_73
  refine Go.rs [(.ref s_70), (.int (1 : Int32)), (.ref sj)] rfl ?_
  have F_81 := (Str.keep (Str.keep (Str.keep (Str.ext (Str.keep F_23 K_20 (ninS (nne (by omega)) (ninS (nne (by omega)) nin0)) (ninS (nne (by omega)) (ninS (nne (by omega)) nin0))) E_35) K_44 (ninS (nne (by omega)) (ninS (nne (by omega)) nin0)) (ninS (nne (by omega)) (ninS (nne (by omega)) nin0))) K_60 nin0 nin0) K_74 nin0 nin0)
  have F_82 := (sta_keep F_69 K_74 ns0)
  refine Go.callS (a1 := a0) (pc' := 28) (argsL := [(.ref sj), (.int (1 : Int32)), (.ref s_70)]) (rest := []) (ct_or1 l Z a0 hw n0 h_77 sj bj F_81 s_70 b_71 F_75 (by omega) cs F_82 hcs) dp42m3_25 (wd hw 355 rfl) (wd hw 356 rfl) (wd hw 10 rfl) (wd hw 357 rfl) (by decide) (lenOf pd_25 rfl) rfl 0 rfl rfl (by decide) (by decide) (by decide) (by decide) sl0 rfl (fun v_89 h_90 N_91 hQ_92 hle_93 => ?_)
  obtain ⟨s_83, b_84, rfl, g_85, g_86, K_87, F_88⟩ := hQ_92
  have szh_90 := nle K_87.1
  have lts_83 := nlt F_88.lt
  have ltb_84 := nlt F_88.ltb
  have ges_83 := nle g_85
  have geb_84 := nle g_86
  refine Go.rs [(.ref s_83)] rfl ?_
  refine Go.retA rfl rfl rfl [] sl0 dp42m3_28 (by decide) (by decide) ?_
  exact ⟨s_83, b_84, rfl, (Keep.trans (Keep.trans (Keep.trans (Keep.trans (Keep.ext (Keep.trans (Keep.trans (Keep.ext (Keep.refl _ []) E_3) K_12 (allS (Or.inr (by omega)) all0)) K_20 (allS (Or.inr (by omega)) (allS (Or.inr (by omega)) all0))) E_35) K_44 (allS (Or.inr (by omega)) (allS (Or.inr (by omega)) all0))) K_60 all0) K_74 all0) K_87 all0), F_88⟩
theorem dp42m4_0 : decode prog_42_method_4_code 0 = .ok (.new 21, 3) := by decide +kernel
theorem dp42m4_3 : decode prog_42_method_4_code 3 = .ok (.dup, 1) := by decide +kernel
theorem dp42m4_4 : decode prog_42_method_4_code 4 = .ok (.invokespecial 23, 3) := by decide +kernel
theorem dp42m4_7 : decode prog_42_method_4_code 7 = .ok (.aload_n 1, 1) := by decide +kernel
theorem dp42m4_8 : decode prog_42_method_4_code 8 = .ok (.iload_n 2, 1) := by decide +kernel
theorem dp42m4_9 : decode prog_42_method_4_code 9 = .ok (.invokestatic 42, 3) := by decide +kernel
theorem dp42m4_12 : decode prog_42_method_4_code 12 = .ok (.invokevirtual 24, 3) := by decide +kernel
theorem dp42m4_15 : decode prog_42_method_4_code 15 = .ok (.ldc 45, 2) := by decide +kernel
theorem dp42m4_17 : decode prog_42_method_4_code 17 = .ok (.invokevirtual 24, 3) := by decide +kernel
theorem dp42m4_20 : decode prog_42_method_4_code 20 = .ok (.invokevirtual 30, 3) := by decide +kernel
theorem dp42m4_23 : decode prog_42_method_4_code 23 = .ok (.astore_n 3, 1) := by decide +kernel
theorem dp42m4_24 : decode prog_42_method_4_code 24 = .ok (.aload_n 0, 1) := by decide +kernel
theorem dp42m4_25 : decode prog_42_method_4_code 25 = .ok (.getfield 7, 3) := by decide +kernel
theorem dp42m4_28 : decode prog_42_method_4_code 28 = .ok (.ifCond .eq 25, 3) := by decide +kernel
theorem dp42m4_53 : decode prog_42_method_4_code 53 = .ok (.aload_n 3, 1) := by decide +kernel
theorem dp42m4_54 : decode prog_42_method_4_code 54 = .ok (.areturn, 1) := by decide +kernel
theorem ct_ttj_v10d0 (l : Launch) (Z : State) (a0 : Array Value) (hw : ∀ d ∈ tables_1, d.before a0 Z = true) (n0 : Nat) (h0 : Heap) (a1 : Addr) (EX : Exa Z h0 a1 "dev/typewright/dart/DartForm$DateTimeForm") (FD : Fld Z h0 a1 "dev/typewright/dart/DartForm$DateTimeForm" "dateOnly" "Z" (.int (0 : Int32))) (sv bv : Addr) (Hv : Str Z h0 sv bv [118]) (hn0 : n0 ≤ h0.size) (cs : Int32) (S_cs : Sta Z h0 "java/lang/String" "COMPACT_STRINGS" "Z" (.int cs)) (hcs : ¬ cs = 0) :
    Ct l Z (⟨"dev/typewright/dart/DartForm$DateTimeForm", "toJson", "(Ljava/lang/String;Z)Ljava/lang/String;"⟩ : MethodName) prog_42_method_4_code 4 (some (.object "java/lang/String")) ({ frames := 6, cells := 7, slots := 356, locals := 91 } : Room) EL1 n0 true [] #[(.ref a1), (.ref sv), (.int (0 : Int32))] h0 [] (fun v h N => ∃ s b, v = some (.ref s) ∧ Keep h0 h [] ∧ Str Z h s b [118, 46, 116, 111, 73, 115, 111, 56, 54, 48, 49, 83, 116, 114, 105, 110, 103, 40, 41]) := by
  refine Ct.of (a0 := a0) (plainFor_of_name pn_dev_typewright_dart_DartForm_DateTimeForm) (own_ew hw) (L0 := #[.val (.ref a1), .val (.ref sv), .val (.int (0 : Int32)), .unset]) (fun _ => rfl) ?_
  have lt_Hv := nlt Hv.lt
  have ltb_Hv := nlt Hv.ltb
  have l0_EX := nlt EX.lt
  refine Go.newO (pc' := 3) (a1 := a0) dp42m4_0 (wd hw 343 rfl) (wd hw 61 rfl) (wd hw 62 rfl) (by decide) (by decide) rfl (fun a_1 h_2 ha_4 E_3 X_5 Df_6 => ?_)
  have szh_2 := nle E_3.1
  have lta_1 := nlt X_5.lt
  have qa_1 := neq ha_4
  have F_7 : Fld Z h_2 a_1 "java/lang/AbstractStringBuilder" "value" "[B" (.null) := Df_6 (Or.inl (wd hw 75 rfl)) (ty := (.array .byte)) (by decide)
  have F_8 : Fld Z h_2 a_1 "java/lang/AbstractStringBuilder" "coder" "B" (.int (0 : Int32)) := Df_6 (Or.inl (wd hw 77 rfl)) (ty := .byte) (by decide)
  have F_9 : Fld Z h_2 a_1 "java/lang/AbstractStringBuilder" "count" "I" (.int (0 : Int32)) := Df_6 (Or.inl (wd hw 102 rfl)) (ty := .int) (by decide)
  refine Go.dup (pc' := 4) dp42m4_3 rfl rfl ?_
  have F_14 := (Sta.ext E_3 S_cs)
  refine Go.callN (a1 := a0) (pc' := 7) (argsL := []) (rest := [(.ref a_1)]) (ct_sbi0 l Z a0 hw n0 h_2 a_1 (by omega) X_5 F_9 F_8 F_7 cs F_14 hcs) dp42m4_4 rfl (wd hw 344 rfl) (wd hw 64 rfl) (wd hw 62 rfl) (wd hw 65 rfl) (by decide) (lenOf pd_18 rfl) rfl 1 rfl rfl (by decide) (by decide) (by decide) (by decide) sl0 rfl (fun v_15 h_16 N_17 hQ_18 hle_19 => ?_)
  obtain ⟨rfl, b_10, rfl, g_11, K_12, F_13⟩ := hQ_18
  have szh_16 := nle K_12.1
  have ltb_10 := nlt F_13.ltb
  have geb_10 := nle g_11
  refine Go.rs [(.ref a_1)] rfl ?_
  refine Go.aloadN (pc' := 8) dp42m4_7 rfl rfl rfl ?_
  refine Go.iloadN (pc' := 9) dp42m4_8 rfl rfl ?_
  refine Go.callSN (a1 := a0) (pc' := 12) (argsL := [(.ref sv), (.int (0 : Int32))]) (rest := [(.ref a_1)]) (ct_rec0 l Z a0 hw n0 h_16 sv) dp42m4_9 (wd hw 364 rfl) (wd hw 365 rfl) (wd hw 10 rfl) (wd hw 366 rfl) (by decide) (lenOf pd_22 rfl) rfl 1 rfl rfl (by decide) (by decide) (by decide) (by decide) sl0 rfl (fun v_20 h_21 N_22 hQ_23 hle_24 => ?_)
  obtain ⟨rfl, rfl⟩ := hQ_23
  refine Go.rs [(.ref sv), (.ref a_1)] rfl ?_
  have F_28 := (Str.keep (Str.ext Hv E_3) K_12 (ninS (nne (by omega)) nin0) (ninS (nne (by omega)) nin0))
  have F_29 := (sta_keep F_14 K_12 (nsS (Exa.nostat X_5) ns0))
  have F_35 := (Exa.keep X_5 K_12)
  refine Go.callV (a1 := a0) (pc' := 15) (argsL := [(.ref sv)]) (rest := []) (ct_app l Z a0 hw n0 h_16 a_1 sv bv b_10 [] [118] 16 F_13 F_28 (by decide) (by decide) (nne (by omega)) (by omega) (by omega) cs F_29 hcs) dp42m4_12 (wd hw 345 rfl) (wd hw 79 rfl) (wd hw 81 rfl) (wd hw 81 rfl) (wd hw 80 rfl) (wd hw 62 rfl) (wd hw 82 rfl) F_35 (by decide) (lenOf pd_19 rfl) rfl 0 rfl rfl (by decide) (by decide) (by decide) (by decide) (sl1 (by simp)) rfl (fun v_30 h_31 N_32 hQ_33 hle_34 => ?_)
  obtain ⟨rfl, K_25, F_26⟩ := hQ_33
  have szh_31 := nle K_25.1
  have F_27 : Sb Z h_31 a_1 b_10 16 [118] := F_26
  refine Go.rs [(.ref a_1)] rfl ?_
  refine Go.ldcR (pc' := 17) (a1 := a0) 72 (vs := [.int 46, .int 116, .int 111, .int 73, .int 115, .int 111, .int 56, .int 54, .int 48, .int 49, .int 83, .int 116, .int 114, .int 105, .int 110, .int 103, .int 40, .int 41]) (z := 18) dp42m4_15 rfl (wd hw 367 rfl) (own_ws hw) (by decide) (by decide) (by decide) (by decide) rfl (own_ew hw) (List.mem_of_getElem? (i := 7) rfl) ⟨by decide, by decide⟩ (by decide) (by decide) (fun a_36 h_37 b_38 k_39 E_40 X_41 F_42 F_43 A_44 ne_45 => ?_)
  have szh_37 := nle E_40.1
  have lta_36 := nlt X_41.lt
  have ltb_38 := nlt A_44.lt
  have nx_46 := nne2 (ne_45 b_10 (by simp))
  have nx_47 := nne2 (ne_45 a_1 (by simp))
  have T_48 : Str Z h_37 a_36 b_38 [46, 116, 111, 73, 115, 111, 56, 54, 48, 49, 83, 116, 114, 105, 110, 103, 40, 41] := ⟨X_41, F_42, F_43, k_39, A_44⟩
  have F_54 := (Sb.ext F_27 E_40)
  have F_55 := (Sta.ext E_40 (sta_keep F_29 K_25 (nsS (Exa.nostat F_35) (nsS (Sb.nsB F_13) ns0))))
  have F_61 := (Exa.ext E_40 (Exa.keep F_35 K_25))
  refine Go.callV (a1 := a0) (pc' := 20) (argsL := [(.ref a_36)]) (rest := []) (ct_appG l Z a0 hw n0 h_37 a_1 a_36 b_38 b_10 [118] [46, 116, 111, 73, 115, 111, 56, 54, 48, 49, 83, 116, 114, 105, 110, 103, 40, 41] 16 F_54 T_48 (by decide) (by decide) (by decide) (nne (by omega)) (by omega) cs F_55 hcs) dp42m4_17 (wd hw 345 rfl) (wd hw 79 rfl) (wd hw 81 rfl) (wd hw 81 rfl) (wd hw 80 rfl) (wd hw 62 rfl) (wd hw 82 rfl) F_61 (by decide) (lenOf pd_19 rfl) rfl 0 rfl rfl (by decide) (by decide) (by decide) (by decide) sl0 rfl (fun v_56 h_57 N_58 hQ_59 hle_60 => ?_)
  obtain ⟨rfl, d_52, rfl, g_53, K_49, F_50⟩ := hQ_59
  have ltd_52 := nlt F_50.ltb
  have ged_52 := nle g_53
  have szh_57 := nle K_49.1
  have F_51 : Sb Z h_57 a_1 d_52 34 [118, 46, 116, 111, 73, 115, 111, 56, 54, 48, 49, 83, 116, 114, 105, 110, 103, 40, 41] := F_50
  refine Go.rs [(.ref a_1)] rfl ?_
  have F_62 := (sta_keep F_55 K_49 (nsS (Exa.nostat F_61) ns0))
  have F_74 := (Exa.keep F_61 K_49)
  refine Go.callV (a1 := a0) (pc' := 23) (argsL := []) (rest := []) (ct_ts l Z a0 hw n0 h_57 a_1 d_52 [118, 46, 116, 111, 73, 115, 111, 56, 54, 48, 49, 83, 116, 114, 105, 110, 103, 40, 41] 34 F_51 (by decide) (by decide) (by decide) (by omega) cs F_62 hcs) dp42m4_20 (wd hw 347 rfl) (wd hw 130 rfl) (wd hw 132 rfl) (wd hw 132 rfl) (wd hw 131 rfl) (wd hw 62 rfl) (wd hw 133 rfl) F_74 (by decide) (lenOf pd_20 rfl) rfl 0 rfl rfl (by decide) (by decide) (by decide) (by decide) sl0 rfl (fun v_69 h_70 N_71 hQ_72 hle_73 => ?_)
  obtain ⟨s_63, b_64, rfl, g_65, g_66, K_67, F_68⟩ := hQ_72
  have szh_70 := nle K_67.1
  have lts_63 := nlt F_68.lt
  have ltb_64 := nlt F_68.ltb
  have ges_63 := nle g_65
  have geb_64 := nle g_66
  refine Go.rs [(.ref s_63)] rfl ?_
  refine Go.astoreN (pc' := 24) #[.val (.ref a1), .val (.ref sv), .val (.int (0 : Int32)), .val (.ref s_63)] dp42m4_23 rfl rfl rfl ?_
  refine Go.aloadN (pc' := 25) dp42m4_24 rfl rfl rfl ?_
  have F_75 := (Fld.keep (Fld.keep (Fld.ext E_40 (Fld.keep (Fld.keep (Fld.ext E_3 FD) K_12 (ninS (nne (by omega)) nin0)) K_25 (ninS (nne (by omega)) (ninS (nne (by omega)) nin0)))) K_49 (ninS (nne (by omega)) nin0)) K_67 nin0)
  refine Go.getF (pc' := 28) (host := "") (a1 := a0) dp42m4_25 (Or.inl (wd hw 327 rfl)) Via.refl F_75 rfl ?_
  refine Go.ifT (pc' := 53) dp42m4_28 (show (0 : Int32) = (0 : Int32) by decide) (by decide) (by decide) ?_
  refine Go.aloadN (pc' := 54) dp42m4_53 rfl rfl rfl ?_
  refine Go.retA rfl rfl rfl [] sl0 dp42m4_54 (by decide) (by decide) ?_
  exact ⟨s_63, b_64, rfl, (Keep.trans (Keep.trans (Keep.ext (Keep.trans (Keep.trans (Keep.ext (Keep.refl _ []) E_3) K_12 (allS (Or.inr (by omega)) all0)) K_25 (allS (Or.inr (by omega)) (allS (Or.inr (by omega)) all0))) E_40) K_49 (allS (Or.inr (by omega)) all0)) K_67 all0), F_68⟩
theorem dp42m4_31 : decode prog_42_method_4_code 31 = .ok (.new 21, 3) := by decide +kernel
theorem dp42m4_34 : decode prog_42_method_4_code 34 = .ok (.dup, 1) := by decide +kernel
theorem dp42m4_35 : decode prog_42_method_4_code 35 = .ok (.invokespecial 23, 3) := by decide +kernel
theorem dp42m4_38 : decode prog_42_method_4_code 38 = .ok (.aload_n 3, 1) := by decide +kernel
theorem dp42m4_39 : decode prog_42_method_4_code 39 = .ok (.invokevirtual 24, 3) := by decide +kernel
theorem dp42m4_42 : decode prog_42_method_4_code 42 = .ok (.ldc 47, 2) := by decide +kernel
theorem dp42m4_44 : decode prog_42_method_4_code 44 = .ok (.invokevirtual 24, 3) := by decide +kernel
theorem dp42m4_47 : decode prog_42_method_4_code 47 = .ok (.invokevirtual 30, 3) := by decide +kernel
theorem dp42m4_50 : decode prog_42_method_4_code 50 = .ok (.goto 4, 3) := by decide +kernel
theorem ct_ttj_v10d1 (l : Launch) (Z : State) (a0 : Array Value) (hw : ∀ d ∈ tables_1, d.before a0 Z = true) (n0 : Nat) (h0 : Heap) (a1 : Addr) (EX : Exa Z h0 a1 "dev/typewright/dart/DartForm$DateTimeForm") (FD : Fld Z h0 a1 "dev/typewright/dart/DartForm$DateTimeForm" "dateOnly" "Z" (.int (1 : Int32))) (sv bv : Addr) (Hv : Str Z h0 sv bv [118]) (hn0 : n0 ≤ h0.size) (cs : Int32) (S_cs : Sta Z h0 "java/lang/String" "COMPACT_STRINGS" "Z" (.int cs)) (hcs : ¬ cs = 0) :
    Ct l Z (⟨"dev/typewright/dart/DartForm$DateTimeForm", "toJson", "(Ljava/lang/String;Z)Ljava/lang/String;"⟩ : MethodName) prog_42_method_4_code 4 (some (.object "java/lang/String")) ({ frames := 6, cells := 15, slots := 836, locals := 91 } : Room) EL1 n0 true [] #[(.ref a1), (.ref sv), (.int (0 : Int32))] h0 [] (fun v h N => ∃ s b, v = some (.ref s) ∧ Keep h0 h [] ∧ Str Z h s b [118, 46, 116, 111, 73, 115, 111, 56, 54, 48, 49, 83, 116, 114, 105, 110, 103, 40, 41, 46, 115, 117, 98, 115, 116, 114, 105, 110, 103, 40, 48, 44, 32, 49, 48, 41]) := by
  refine Ct.of (a0 := a0) (plainFor_of_name pn_dev_typewright_dart_DartForm_DateTimeForm) (own_ew hw) (L0 := #[.val (.ref a1), .val (.ref sv), .val (.int (0 : Int32)), .unset]) (fun _ => rfl) ?_
  have lt_Hv := nlt Hv.lt
  have ltb_Hv := nlt Hv.ltb
  have l0_EX := nlt EX.lt
  refine Go.newO (pc' := 3) (a1 := a0) dp42m4_0 (wd hw 343 rfl) (wd hw 61 rfl) (wd hw 62 rfl) (by decide) (by decide) rfl (fun a_1 h_2 ha_4 E_3 X_5 Df_6 => ?_)
  have szh_2 := nle E_3.1
  have lta_1 := nlt X_5.lt
  have qa_1 := neq ha_4
  have F_7 : Fld Z h_2 a_1 "java/lang/AbstractStringBuilder" "value" "[B" (.null) := Df_6 (Or.inl (wd hw 75 rfl)) (ty := (.array .byte)) (by decide)
  have F_8 : Fld Z h_2 a_1 "java/lang/AbstractStringBuilder" "coder" "B" (.int (0 : Int32)) := Df_6 (Or.inl (wd hw 77 rfl)) (ty := .byte) (by decide)
  have F_9 : Fld Z h_2 a_1 "java/lang/AbstractStringBuilder" "count" "I" (.int (0 : Int32)) := Df_6 (Or.inl (wd hw 102 rfl)) (ty := .int) (by decide)
  refine Go.dup (pc' := 4) dp42m4_3 rfl rfl ?_
  have F_14 := (Sta.ext E_3 S_cs)
  refine Go.callN (a1 := a0) (pc' := 7) (argsL := []) (rest := [(.ref a_1)]) (ct_sbi0 l Z a0 hw n0 h_2 a_1 (by omega) X_5 F_9 F_8 F_7 cs F_14 hcs) dp42m4_4 rfl (wd hw 344 rfl) (wd hw 64 rfl) (wd hw 62 rfl) (wd hw 65 rfl) (by decide) (lenOf pd_18 rfl) rfl 1 rfl rfl (by decide) (by decide) (by decide) (by decide) sl0 rfl (fun v_15 h_16 N_17 hQ_18 hle_19 => ?_)
  obtain ⟨rfl, b_10, rfl, g_11, K_12, F_13⟩ := hQ_18
  have szh_16 := nle K_12.1
  have ltb_10 := nlt F_13.ltb
  have geb_10 := nle g_11
  refine Go.rs [(.ref a_1)] rfl ?_
  refine Go.aloadN (pc' := 8) dp42m4_7 rfl rfl rfl ?_
  refine Go.iloadN (pc' := 9) dp42m4_8 rfl rfl ?_
  refine Go.callSN (a1 := a0) (pc' := 12) (argsL := [(.ref sv), (.int (0 : Int32))]) (rest := [(.ref a_1)]) (ct_rec0 l Z a0 hw n0 h_16 sv) dp42m4_9 (wd hw 364 rfl) (wd hw 365 rfl) (wd hw 10 rfl) (wd hw 366 rfl) (by decide) (lenOf pd_22 rfl) rfl 1 rfl rfl (by decide) (by decide) (by decide) (by decide) sl0 rfl (fun v_20 h_21 N_22 hQ_23 hle_24 => ?_)
  obtain ⟨rfl, rfl⟩ := hQ_23
  refine Go.rs [(.ref sv), (.ref a_1)] rfl ?_
  have F_28 := (Str.keep (Str.ext Hv E_3) K_12 (ninS (nne (by omega)) nin0) (ninS (nne (by omega)) nin0))
  have F_29 := (sta_keep F_14 K_12 (nsS (Exa.nostat X_5) ns0))
  have F_35 := (Exa.keep X_5 K_12)
  refine Go.callV (a1 := a0) (pc' := 15) (argsL := [(.ref sv)]) (rest := []) (ct_app l Z a0 hw n0 h_16 a_1 sv bv b_10 [] [118] 16 F_13 F_28 (by decide) (by decide) (nne (by omega)) (by omega) (by omega) cs F_29 hcs) dp42m4_12 (wd hw 345 rfl) (wd hw 79 rfl) (wd hw 81 rfl) (wd hw 81 rfl) (wd hw 80 rfl) (wd hw 62 rfl) (wd hw 82 rfl) F_35 (by decide) (lenOf pd_19 rfl) rfl 0 rfl rfl (by decide) (by decide) (by decide) (by decide) (sl1 (by simp)) rfl (fun v_30 h_31 N_32 hQ_33 hle_34 => ?_)
  obtain ⟨rfl, K_25, F_26⟩ := hQ_33
  have szh_31 := nle K_25.1
  have F_27 : Sb Z h_31 a_1 b_10 16 [118] := F_26
  refine Go.rs [(.ref a_1)] rfl ?_
  refine Go.ldcR (pc' := 17) (a1 := a0) 72 (vs := [.int 46, .int 116, .int 111, .int 73, .int 115, .int 111, .int 56, .int 54, .int 48, .int 49, .int 83, .int 116, .int 114, .int 105, .int 110, .int 103, .int 40, .int 41]) (z := 18) dp42m4_15 rfl (wd hw 367 rfl) (own_ws hw) (by decide) (by decide) (by decide) (by decide) rfl (own_ew hw) (List.mem_of_getElem? (i := 7) rfl) ⟨by decide, by decide⟩ (by decide) (by decide) (fun a_36 h_37 b_38 k_39 E_40 X_41 F_42 F_43 A_44 ne_45 => ?_)
  have szh_37 := nle E_40.1
  have lta_36 := nlt X_41.lt
  have ltb_38 := nlt A_44.lt
  have nx_46 := nne2 (ne_45 b_10 (by simp))
  have nx_47 := nne2 (ne_45 a_1 (by simp))
  have T_48 : Str Z h_37 a_36 b_38 [46, 116, 111, 73, 115, 111, 56, 54, 48, 49, 83, 116, 114, 105, 110, 103, 40, 41] := ⟨X_41, F_42, F_43, k_39, A_44⟩
  have F_54 := (Sb.ext F_27 E_40)
  have F_55 := (Sta.ext E_40 (sta_keep F_29 K_25 (nsS (Exa.nostat F_35) (nsS (Sb.nsB F_13) ns0))))
  have F_61 := (Exa.ext E_40 (Exa.keep F_35 K_25))
  refine Go.callV (a1 := a0) (pc' := 20) (argsL := [(.ref a_36)]) (rest := []) (ct_appG l Z a0 hw n0 h_37 a_1 a_36 b_38 b_10 [118] [46, 116, 111, 73, 115, 111, 56, 54, 48, 49, 83, 116, 114, 105, 110, 103, 40, 41] 16 F_54 T_48 (by decide) (by decide) (by decide) (nne (by omega)) (by omega) cs F_55 hcs) dp42m4_17 (wd hw 345 rfl) (wd hw 79 rfl) (wd hw 81 rfl) (wd hw 81 rfl) (wd hw 80 rfl) (wd hw 62 rfl) (wd hw 82 rfl) F_61 (by decide) (lenOf pd_19 rfl) rfl 0 rfl rfl (by decide) (by decide) (by decide) (by decide) sl0 rfl (fun v_56 h_57 N_58 hQ_59 hle_60 => ?_)
  obtain ⟨rfl, d_52, rfl, g_53, K_49, F_50⟩ := hQ_59
  have ltd_52 := nlt F_50.ltb
  have ged_52 := nle g_53
  have szh_57 := nle K_49.1
  have F_51 : Sb Z h_57 a_1 d_52 34 [118, 46, 116, 111, 73, 115, 111, 56, 54, 48, 49, 83, 116, 114, 105, 110, 103, 40, 41] := F_50
  refine Go.rs [(.ref a_1)] rfl ?_
  have F_62 := (sta_keep F_55 K_49 (nsS (Exa.nostat F_61) ns0))
  have F_74 := (Exa.keep F_61 K_49)
  refine Go.callV (a1 := a0) (pc' := 23) (argsL := []) (rest := []) (ct_ts l Z a0 hw n0 h_57 a_1 d_52 [118, 46, 116, 111, 73, 115, 111, 56, 54, 48, 49, 83, 116, 114, 105, 110, 103, 40, 41] 34 F_51 (by decide) (by decide) (by decide) (by omega) cs F_62 hcs) dp42m4_20 (wd hw 347 rfl) (wd hw 130 rfl) (wd hw 132 rfl) (wd hw 132 rfl) (wd hw 131 rfl) (wd hw 62 rfl) (wd hw 133 rfl) F_74 (by decide) (lenOf pd_20 rfl) rfl 0 rfl rfl (by decide) (by decide) (by decide) (by decide) sl0 rfl (fun v_69 h_70 N_71 hQ_72 hle_73 => ?_)
  obtain ⟨s_63, b_64, rfl, g_65, g_66, K_67, F_68⟩ := hQ_72
  have szh_70 := nle K_67.1
  have lts_63 := nlt F_68.lt
  have ltb_64 := nlt F_68.ltb
  have ges_63 := nle g_65
  have geb_64 := nle g_66
  refine Go.rs [(.ref s_63)] rfl ?_
  refine Go.astoreN (pc' := 24) #[.val (.ref a1), .val (.ref sv), .val (.int (0 : Int32)), .val (.ref s_63)] dp42m4_23 rfl rfl rfl ?_
  refine Go.aloadN (pc' := 25) dp42m4_24 rfl rfl rfl ?_
  have F_75 := (Fld.keep (Fld.keep (Fld.ext E_40 (Fld.keep (Fld.keep (Fld.ext E_3 FD) K_12 (ninS (nne (by omega)) nin0)) K_25 (ninS (nne (by omega)) (ninS (nne (by omega)) nin0)))) K_49 (ninS (nne (by omega)) nin0)) K_67 nin0)
  refine Go.getF (pc' := 28) (host := "") (a1 := a0) dp42m4_25 (Or.inl (wd hw 327 rfl)) Via.refl F_75 rfl ?_
  refine Go.ifF (pc' := 31) dp42m4_28 (show ¬ ((1 : Int32) = (0 : Int32)) by decide) rfl ?_
  refine Go.newO (pc' := 34) (a1 := a0) dp42m4_31 (wd hw 343 rfl) (wd hw 61 rfl) (wd hw 62 rfl) (by decide) (by decide) rfl (fun a_76 h_77 ha_79 E_78 X_80 Df_81 => ?_)
  have szh_77 := nle E_78.1
  have lta_76 := nlt X_80.lt
  have qa_76 := neq ha_79
  have F_82 : Fld Z h_77 a_76 "java/lang/AbstractStringBuilder" "value" "[B" (.null) := Df_81 (Or.inl (wd hw 75 rfl)) (ty := (.array .byte)) (by decide)
  have F_83 : Fld Z h_77 a_76 "java/lang/AbstractStringBuilder" "coder" "B" (.int (0 : Int32)) := Df_81 (Or.inl (wd hw 77 rfl)) (ty := .byte) (by decide)
  have F_84 : Fld Z h_77 a_76 "java/lang/AbstractStringBuilder" "count" "I" (.int (0 : Int32)) := Df_81 (Or.inl (wd hw 102 rfl)) (ty := .int) (by decide)
  refine Go.dup (pc' := 35) dp42m4_34 rfl rfl ?_
  have F_89 := (Sta.ext E_78 (sta_keep F_62 K_67 ns0))
  refine Go.callN (a1 := a0) (pc' := 38) (argsL := []) (rest := [(.ref a_76)]) (ct_sbi0 l Z a0 hw n0 h_77 a_76 (by omega) X_80 F_84 F_83 F_82 cs F_89 hcs) dp42m4_35 rfl (wd hw 344 rfl) (wd hw 64 rfl) (wd hw 62 rfl) (wd hw 65 rfl) (by decide) (lenOf pd_18 rfl) rfl 1 rfl rfl (by decide) (by decide) (by decide) (by decide) sl0 rfl (fun v_90 h_91 N_92 hQ_93 hle_94 => ?_)
  obtain ⟨rfl, b_85, rfl, g_86, K_87, F_88⟩ := hQ_93
  have szh_91 := nle K_87.1
  have ltb_85 := nlt F_88.ltb
  have geb_85 := nle g_86
  refine Go.rs [(.ref a_76)] rfl ?_
  refine Go.aloadN (pc' := 39) dp42m4_38 rfl rfl rfl ?_
  have F_100 := (Str.keep (Str.ext F_68 E_78) K_87 (ninS (nne (by omega)) nin0) (ninS (nne (by omega)) nin0))
  have F_101 := (sta_keep F_89 K_87 (nsS (Exa.nostat X_80) ns0))
  have F_107 := (Exa.keep X_80 K_87)
  refine Go.callV (a1 := a0) (pc' := 42) (argsL := [(.ref s_63)]) (rest := []) (ct_appG l Z a0 hw n0 h_91 a_76 s_63 b_64 b_85 [] [118, 46, 116, 111, 73, 115, 111, 56, 54, 48, 49, 83, 116, 114, 105, 110, 103, 40, 41] 16 F_88 F_100 (by decide) (by decide) (by decide) (nne (by omega)) (by omega) cs F_101 hcs) dp42m4_39 (wd hw 345 rfl) (wd hw 79 rfl) (wd hw 81 rfl) (wd hw 81 rfl) (wd hw 80 rfl) (wd hw 62 rfl) (wd hw 82 rfl) F_107 (by decide) (lenOf pd_19 rfl) rfl 0 rfl rfl (by decide) (by decide) (by decide) (by decide) sl0 rfl (fun v_102 h_103 N_104 hQ_105 hle_106 => ?_)
  obtain ⟨rfl, d_98, rfl, g_99, K_95, F_96⟩ := hQ_105
  have ltd_98 := nlt F_96.ltb
  have ged_98 := nle g_99
  have szh_103 := nle K_95.1
  have F_97 : Sb Z h_103 a_76 d_98 34 [118, 46, 116, 111, 73, 115, 111, 56, 54, 48, 49, 83, 116, 114, 105, 110, 103, 40, 41] := F_96
  refine Go.rs [(.ref a_76)] rfl ?_
  refine Go.ldcR (pc' := 44) (a1 := a0) 68 (vs := [.int 46, .int 115, .int 117, .int 98, .int 115, .int 116, .int 114, .int 105, .int 110, .int 103, .int 40, .int 48, .int 44, .int 32, .int 49, .int 48, .int 41]) (z := 17) dp42m4_42 rfl (wd hw 368 rfl) (own_ws hw) (by decide) (by decide) (by decide) (by decide) rfl (own_ew hw) (List.mem_of_getElem? (i := 8) rfl) ⟨by decide, by decide⟩ (by decide) (by decide) (fun a_108 h_109 b_110 k_111 E_112 X_113 F_114 F_115 A_116 ne_117 => ?_)
  have szh_109 := nle E_112.1
  have lta_108 := nlt X_113.lt
  have ltb_110 := nlt A_116.lt
  have nx_118 := nne2 (ne_117 d_98 (by simp))
  have nx_119 := nne2 (ne_117 b_85 (by simp))
  have nx_120 := nne2 (ne_117 a_76 (by simp))
  have nx_121 := nne2 (ne_117 d_52 (by simp))
  have nx_122 := nne2 (ne_117 b_10 (by simp))
  have nx_123 := nne2 (ne_117 a_1 (by simp))
  have T_124 : Str Z h_109 a_108 b_110 [46, 115, 117, 98, 115, 116, 114, 105, 110, 103, 40, 48, 44, 32, 49, 48, 41] := ⟨X_113, F_114, F_115, k_111, A_116⟩
  have F_130 := (Sb.ext F_97 E_112)
  have F_131 := (Sta.ext E_112 (sta_keep F_101 K_95 (nsS (Exa.nostat F_107) ns0)))
  have F_137 := (Exa.ext E_112 (Exa.keep F_107 K_95))
  refine Go.callV (a1 := a0) (pc' := 47) (argsL := [(.ref a_108)]) (rest := []) (ct_appG l Z a0 hw n0 h_109 a_76 a_108 b_110 d_98 [118, 46, 116, 111, 73, 115, 111, 56, 54, 48, 49, 83, 116, 114, 105, 110, 103, 40, 41] [46, 115, 117, 98, 115, 116, 114, 105, 110, 103, 40, 48, 44, 32, 49, 48, 41] 34 F_130 T_124 (by decide) (by decide) (by decide) (nne (by omega)) (by omega) cs F_131 hcs) dp42m4_44 (wd hw 345 rfl) (wd hw 79 rfl) (wd hw 81 rfl) (wd hw 81 rfl) (wd hw 80 rfl) (wd hw 62 rfl) (wd hw 82 rfl) F_137 (by decide) (lenOf pd_19 rfl) rfl 0 rfl rfl (by decide) (by decide) (by decide) (by decide) sl0 rfl (fun v_132 h_133 N_134 hQ_135 hle_136 => ?_)
  obtain ⟨rfl, d_128, rfl, g_129, K_125, F_126⟩ := hQ_135
  have ltd_128 := nlt F_126.ltb
  have ged_128 := nle g_129
  have szh_133 := nle K_125.1
  have F_127 : Sb Z h_133 a_76 d_128 70 [118, 46, 116, 111, 73, 115, 111, 56, 54, 48, 49, 83, 116, 114, 105, 110, 103, 40, 41, 46, 115, 117, 98, 115, 116, 114, 105, 110, 103, 40, 48, 44, 32, 49, 48, 41] := F_126
  refine Go.rs [(.ref a_76)] rfl ?_
  have F_138 := (sta_keep F_131 K_125 (nsS (Exa.nostat F_137) ns0))
  have F_150 := (Exa.keep F_137 K_125)
  refine Go.callV (a1 := a0) (pc' := 50) (argsL := []) (rest := []) (ct_ts l Z a0 hw n0 h_133 a_76 d_128 [118, 46, 116, 111, 73, 115, 111, 56, 54, 48, 49, 83, 116, 114, 105, 110, 103, 40, 41, 46, 115, 117, 98, 115, 116, 114, 105, 110, 103, 40, 48, 44, 32, 49, 48, 41] 70 F_127 (by decide) (by decide) (by decide) (by omega) cs F_138 hcs) dp42m4_47 (wd hw 347 rfl) (wd hw 130 rfl) (wd hw 132 rfl) (wd hw 132 rfl) (wd hw 131 rfl) (wd hw 62 rfl) (wd hw 133 rfl) F_150 (by decide) (lenOf pd_20 rfl) rfl 0 rfl rfl (by decide) (by decide) (by decide) (by decide) sl0 rfl (fun v_145 h_146 N_147 hQ_148 hle_149 => ?_)
  obtain ⟨s_139, b_140, rfl, g_141, g_142, K_143, F_144⟩ := hQ_148
  have szh_146 := nle K_143.1
  have lts_139 := nlt F_144.lt
  have ltb_140 := nlt F_144.ltb
  have ges_139 := nle g_141
  have geb_140 := nle g_142
  refine Go.rs [(.ref s_139)] rfl ?_
  refine Go.goto (pc' := 54) dp42m4_50 (by decide) (by decide) ?_
  refine Go.retA rfl rfl rfl [] sl0 dp42m4_54 (by decide) (by decide) ?_
  exact ⟨s_139, b_140, rfl, (Keep.trans (Keep.trans (Keep.ext (Keep.trans (Keep.trans (Keep.ext (Keep.trans (Keep.trans (Keep.ext (Keep.trans (Keep.trans (Keep.ext (Keep.refl _ []) E_3) K_12 (allS (Or.inr (by omega)) all0)) K_25 (allS (Or.inr (by omega)) (allS (Or.inr (by omega)) all0))) E_40) K_49 (allS (Or.inr (by omega)) all0)) K_67 all0) E_78) K_87 (allS (Or.inr (by omega)) all0)) K_95 (allS (Or.inr (by omega)) all0)) E_112) K_125 (allS (Or.inr (by omega)) all0)) K_143 all0), F_144⟩
theorem ct_ttj_v11d0 (l : Launch) (Z : State) (a0 : Array Value) (hw : ∀ d ∈ tables_1, d.before a0 Z = true) (n0 : Nat) (h0 : Heap) (a1 : Addr) (EX : Exa Z h0 a1 "dev/typewright/dart/DartForm$DateTimeForm") (FD : Fld Z h0 a1 "dev/typewright/dart/DartForm$DateTimeForm" "dateOnly" "Z" (.int (0 : Int32))) (sv bv : Addr) (Hv : Str Z h0 sv bv [118]) (hn0 : n0 ≤ h0.size) (cs : Int32) (S_cs : Sta Z h0 "java/lang/String" "COMPACT_STRINGS" "Z" (.int cs)) (hcs : ¬ cs = 0) :
    Ct l Z (⟨"dev/typewright/dart/DartForm$DateTimeForm", "toJson", "(Ljava/lang/String;Z)Ljava/lang/String;"⟩ : MethodName) prog_42_method_4_code 4 (some (.object "java/lang/String")) ({ frames := 7, cells := 13, slots := 516, locals := 105 } : Room) EL1 n0 true [] #[(.ref a1), (.ref sv), (.int (1 : Int32))] h0 [] (fun v h N => ∃ s b, v = some (.ref s) ∧ Keep h0 h [] ∧ Str Z h s b [118, 63, 46, 116, 111, 73, 115, 111, 56, 54, 48, 49, 83, 116, 114, 105, 110, 103, 40, 41]) := by
  refine Ct.of (a0 := a0) (plainFor_of_name pn_dev_typewright_dart_DartForm_DateTimeForm) (own_ew hw) (L0 := #[.val (.ref a1), .val (.ref sv), .val (.int (1 : Int32)), .unset]) (fun _ => rfl) ?_
  have lt_Hv := nlt Hv.lt
  have ltb_Hv := nlt Hv.ltb
  have l0_EX := nlt EX.lt
  refine Go.newO (pc' := 3) (a1 := a0) dp42m4_0 (wd hw 343 rfl) (wd hw 61 rfl) (wd hw 62 rfl) (by decide) (by decide) rfl (fun a_1 h_2 ha_4 E_3 X_5 Df_6 => ?_)
  have szh_2 := nle E_3.1
  have lta_1 := nlt X_5.lt
  have qa_1 := neq ha_4
  have F_7 : Fld Z h_2 a_1 "java/lang/AbstractStringBuilder" "value" "[B" (.null) := Df_6 (Or.inl (wd hw 75 rfl)) (ty := (.array .byte)) (by decide)
  have F_8 : Fld Z h_2 a_1 "java/lang/AbstractStringBuilder" "coder" "B" (.int (0 : Int32)) := Df_6 (Or.inl (wd hw 77 rfl)) (ty := .byte) (by decide)
  have F_9 : Fld Z h_2 a_1 "java/lang/AbstractStringBuilder" "count" "I" (.int (0 : Int32)) := Df_6 (Or.inl (wd hw 102 rfl)) (ty := .int) (by decide)
  refine Go.dup (pc' := 4) dp42m4_3 rfl rfl ?_
  have F_14 := (Sta.ext E_3 S_cs)
  refine Go.callN (a1 := a0) (pc' := 7) (argsL := []) (rest := [(.ref a_1)]) (ct_sbi0 l Z a0 hw n0 h_2 a_1 (by omega) X_5 F_9 F_8 F_7 cs F_14 hcs) dp42m4_4 rfl (wd hw 344 rfl) (wd hw 64 rfl) (wd hw 62 rfl) (wd hw 65 rfl) (by decide) (lenOf pd_18 rfl) rfl 1 rfl rfl (by decide) (by decide) (by decide) (by decide) sl0 rfl (fun v_15 h_16 N_17 hQ_18 hle_19 => ?_)
  obtain ⟨rfl, b_10, rfl, g_11, K_12, F_13⟩ := hQ_18
  have szh_16 := nle K_12.1
  have ltb_10 := nlt F_13.ltb
  have geb_10 := nle g_11
  refine Go.rs [(.ref a_1)] rfl ?_
  refine Go.aloadN (pc' := 8) dp42m4_7 rfl rfl rfl ?_
  refine Go.iloadN (pc' := 9) dp42m4_8 rfl rfl ?_
  have F_20 := (Str.keep (Str.ext Hv E_3) K_12 (ninS (nne (by omega)) nin0) (ninS (nne (by omega)) nin0))
  have F_21 := (sta_keep F_14 K_12 (nsS (Exa.nostat X_5) ns0))
  refine Go.callSN (a1 := a0) (pc' := 12) (argsL := [(.ref sv), (.int (1 : Int32))]) (rest := [(.ref a_1)]) (ct_rec1 l Z a0 hw n0 h_16 [118] sv bv F_20 (by decide) (by omega) cs F_21 hcs) dp42m4_9 (wd hw 364 rfl) (wd hw 365 rfl) (wd hw 10 rfl) (wd hw 366 rfl) (by decide) (lenOf pd_22 rfl) rfl 1 rfl rfl (by decide) (by decide) (by decide) (by decide) sl0 rfl (fun v_28 h_29 N_30 hQ_31 hle_32 => ?_)
  obtain ⟨s_22, b_23, rfl, g_24, g_25, K_26, F_27⟩ := hQ_31
  have szh_29 := nle K_26.1
  have lts_22 := nlt F_27.lt
  have ltb_23 := nlt F_27.ltb
  have ges_22 := nle g_24
  have geb_23 := nle g_25
  refine Go.rs [(.ref s_22), (.ref a_1)] rfl ?_
  have F_36 := (Sb.keep F_13 K_26 nin0 nin0)
  have F_37 := (sta_keep F_21 K_26 ns0)
  have F_43 := (Exa.keep (Exa.keep X_5 K_12) K_26)
  refine Go.callV (a1 := a0) (pc' := 15) (argsL := [(.ref s_22)]) (rest := []) (ct_app l Z a0 hw n0 h_29 a_1 s_22 b_23 b_10 [] [118, 63] 16 F_36 F_27 (by decide) (by decide) (nne (by omega)) (by omega) (by omega) cs F_37 hcs) dp42m4_12 (wd hw 345 rfl) (wd hw 79 rfl) (wd hw 81 rfl) (wd hw 81 rfl) (wd hw 80 rfl) (wd hw 62 rfl) (wd hw 82 rfl) F_43 (by decide) (lenOf pd_19 rfl) rfl 0 rfl rfl (by decide) (by decide) (by decide) (by decide) (sl1 (by simp)) rfl (fun v_38 h_39 N_40 hQ_41 hle_42 => ?_)
  obtain ⟨rfl, K_33, F_34⟩ := hQ_41
  have szh_39 := nle K_33.1
  have F_35 : Sb Z h_39 a_1 b_10 16 [118, 63] := F_34
  refine Go.rs [(.ref a_1)] rfl ?_
  refine Go.ldcR (pc' := 17) (a1 := a0) 72 (vs := [.int 46, .int 116, .int 111, .int 73, .int 115, .int 111, .int 56, .int 54, .int 48, .int 49, .int 83, .int 116, .int 114, .int 105, .int 110, .int 103, .int 40, .int 41]) (z := 18) dp42m4_15 rfl (wd hw 367 rfl) (own_ws hw) (by decide) (by decide) (by decide) (by decide) rfl (own_ew hw) (List.mem_of_getElem? (i := 7) rfl) ⟨by decide, by decide⟩ (by decide) (by decide) (fun a_44 h_45 b_46 k_47 E_48 X_49 F_50 F_51 A_52 ne_53 => ?_)
  have szh_45 := nle E_48.1
  have lta_44 := nlt X_49.lt
  have ltb_46 := nlt A_52.lt
  have nx_54 := nne2 (ne_53 b_10 (by simp))
  have nx_55 := nne2 (ne_53 a_1 (by simp))
  have T_56 : Str Z h_45 a_44 b_46 [46, 116, 111, 73, 115, 111, 56, 54, 48, 49, 83, 116, 114, 105, 110, 103, 40, 41] := ⟨X_49, F_50, F_51, k_47, A_52⟩
  have F_62 := (Sb.ext F_35 E_48)
  have F_63 := (Sta.ext E_48 (sta_keep F_37 K_33 (nsS (Exa.nostat F_43) (nsS (Sb.nsB F_36) ns0))))
  have F_69 := (Exa.ext E_48 (Exa.keep F_43 K_33))
  refine Go.callV (a1 := a0) (pc' := 20) (argsL := [(.ref a_44)]) (rest := []) (ct_appG l Z a0 hw n0 h_45 a_1 a_44 b_46 b_10 [118, 63] [46, 116, 111, 73, 115, 111, 56, 54, 48, 49, 83, 116, 114, 105, 110, 103, 40, 41] 16 F_62 T_56 (by decide) (by decide) (by decide) (nne (by omega)) (by omega) cs F_63 hcs) dp42m4_17 (wd hw 345 rfl) (wd hw 79 rfl) (wd hw 81 rfl) (wd hw 81 rfl) (wd hw 80 rfl) (wd hw 62 rfl) (wd hw 82 rfl) F_69 (by decide) (lenOf pd_19 rfl) rfl 0 rfl rfl (by decide) (by decide) (by decide) (by decide) sl0 rfl (fun v_64 h_65 N_66 hQ_67 hle_68 => ?_)
  obtain ⟨rfl, d_60, rfl, g_61, K_57, F_58⟩ := hQ_67
  have ltd_60 := nlt F_58.ltb
  have ged_60 := nle g_61
  have szh_65 := nle K_57.1
  have F_59 : Sb Z h_65 a_1 d_60 34 [118, 63, 46, 116, 111, 73, 115, 111, 56, 54, 48, 49, 83, 116, 114, 105, 110, 103, 40, 41] := F_58
  refine Go.rs [(.ref a_1)] rfl ?_
  have F_70 := (sta_keep F_63 K_57 (nsS (Exa.nostat F_69) ns0))
  have F_82 := (Exa.keep F_69 K_57)
  refine Go.callV (a1 := a0) (pc' := 23) (argsL := []) (rest := []) (ct_ts l Z a0 hw n0 h_65 a_1 d_60 [118, 63, 46, 116, 111, 73, 115, 111, 56, 54, 48, 49, 83, 116, 114, 105, 110, 103, 40, 41] 34 F_59 (by decide) (by decide) (by decide) (by omega) cs F_70 hcs) dp42m4_20 (wd hw 347 rfl) (wd hw 130 rfl) (wd hw 132 rfl) (wd hw 132 rfl) (wd hw 131 rfl) (wd hw 62 rfl) (wd hw 133 rfl) F_82 (by decide) (lenOf pd_20 rfl) rfl 0 rfl rfl (by decide) (by decide) (by decide) (by decide) sl0 rfl (fun v_77 h_78 N_79 hQ_80 hle_81 => ?_)
  obtain ⟨s_71, b_72, rfl, g_73, g_74, K_75, F_76⟩ := hQ_80
  have szh_78 := nle K_75.1
  have lts_71 := nlt F_76.lt
  have ltb_72 := nlt F_76.ltb
  have ges_71 := nle g_73
  have geb_72 := nle g_74
  refine Go.rs [(.ref s_71)] rfl ?_
  refine Go.astoreN (pc' := 24) #[.val (.ref a1), .val (.ref sv), .val (.int (1 : Int32)), .val (.ref s_71)] dp42m4_23 rfl rfl rfl ?_
  refine Go.aloadN (pc' := 25) dp42m4_24 rfl rfl rfl ?_
  have F_83 := (Fld.keep (Fld.keep (Fld.ext E_48 (Fld.keep (Fld.keep (Fld.keep (Fld.ext E_3 FD) K_12 (ninS (nne (by omega)) nin0)) K_26 nin0) K_33 (ninS (nne (by omega)) (ninS (nne (by omega)) nin0)))) K_57 (ninS (nne (by omega)) nin0)) K_75 nin0)
  refine Go.getF (pc' := 28) (host := "") (a1 := a0) dp42m4_25 (Or.inl (wd hw 327 rfl)) Via.refl F_83 rfl ?_
  refine Go.ifT (pc' := 53) dp42m4_28 (show (0 : Int32) = (0 : Int32) by decide) (by decide) (by decide) ?_
  refine Go.aloadN (pc' := 54) dp42m4_53 rfl rfl rfl ?_
  refine Go.retA rfl rfl rfl [] sl0 dp42m4_54 (by decide) (by decide) ?_
  exact ⟨s_71, b_72, rfl, (Keep.trans (Keep.trans (Keep.ext (Keep.trans (Keep.trans (Keep.trans (Keep.ext (Keep.refl _ []) E_3) K_12 (allS (Or.inr (by omega)) all0)) K_26 all0) K_33 (allS (Or.inr (by omega)) (allS (Or.inr (by omega)) all0))) E_48) K_57 (allS (Or.inr (by omega)) all0)) K_75 all0), F_76⟩
theorem ct_ttj_v11d1 (l : Launch) (Z : State) (a0 : Array Value) (hw : ∀ d ∈ tables_1, d.before a0 Z = true) (n0 : Nat) (h0 : Heap) (a1 : Addr) (EX : Exa Z h0 a1 "dev/typewright/dart/DartForm$DateTimeForm") (FD : Fld Z h0 a1 "dev/typewright/dart/DartForm$DateTimeForm" "dateOnly" "Z" (.int (1 : Int32))) (sv bv : Addr) (Hv : Str Z h0 sv bv [118]) (hn0 : n0 ≤ h0.size) (cs : Int32) (S_cs : Sta Z h0 "java/lang/String" "COMPACT_STRINGS" "Z" (.int cs)) (hcs : ¬ cs = 0) :
    Ct l Z (⟨"dev/typewright/dart/DartForm$DateTimeForm", "toJson", "(Ljava/lang/String;Z)Ljava/lang/String;"⟩ : MethodName) prog_42_method_4_code 4 (some (.object "java/lang/String")) ({ frames := 7, cells := 21, slots := 996, locals := 105 } : Room) EL1 n0 true [] #[(.ref a1), (.ref sv), (.int (1 : Int32))] h0 [] (fun v h N => ∃ s b, v = some (.ref s) ∧ Keep h0 h [] ∧ Str Z h s b [118, 63, 46, 116, 111, 73, 115, 111, 56, 54, 48, 49, 83, 116, 114, 105, 110, 103, 40, 41, 46, 115, 117, 98, 115, 116, 114, 105, 110, 103, 40, 48, 44, 32, 49, 48, 41]) := by
  refine Ct.of (a0 := a0) (plainFor_of_name pn_dev_typewright_dart_DartForm_DateTimeForm) (own_ew hw) (L0 := #[.val (.ref a1), .val (.ref sv), .val (.int (1 : Int32)), .unset]) (fun _ => rfl) ?_
  have lt_Hv := nlt Hv.lt
  have ltb_Hv := nlt Hv.ltb
  have l0_EX := nlt EX.lt
  refine Go.newO (pc' := 3) (a1 := a0) dp42m4_0 (wd hw 343 rfl) (wd hw 61 rfl) (wd hw 62 rfl) (by decide) (by decide) rfl (fun a_1 h_2 ha_4 E_3 X_5 Df_6 => ?_)
  have szh_2 := nle E_3.1
  have lta_1 := nlt X_5.lt
  have qa_1 := neq ha_4
  have F_7 : Fld Z h_2 a_1 "java/lang/AbstractStringBuilder" "value" "[B" (.null) := Df_6 (Or.inl (wd hw 75 rfl)) (ty := (.array .byte)) (by decide)
  have F_8 : Fld Z h_2 a_1 "java/lang/AbstractStringBuilder" "coder" "B" (.int (0 : Int32)) := Df_6 (Or.inl (wd hw 77 rfl)) (ty := .byte) (by decide)
  have F_9 : Fld Z h_2 a_1 "java/lang/AbstractStringBuilder" "count" "I" (.int (0 : Int32)) := Df_6 (Or.inl (wd hw 102 rfl)) (ty := .int) (by decide)
  refine Go.dup (pc' := 4) dp42m4_3 rfl rfl ?_
  have F_14 := (Sta.ext E_3 S_cs)
  refine Go.callN (a1 := a0) (pc' := 7) (argsL := []) (rest := [(.ref a_1)]) (ct_sbi0 l Z a0 hw n0 h_2 a_1 (by omega) X_5 F_9 F_8 F_7 cs F_14 hcs) dp42m4_4 rfl (wd hw 344 rfl) (wd hw 64 rfl) (wd hw 62 rfl) (wd hw 65 rfl) (by decide) (lenOf pd_18 rfl) rfl 1 rfl rfl (by decide) (by decide) (by decide) (by decide) sl0 rfl (fun v_15 h_16 N_17 hQ_18 hle_19 => ?_)
  obtain ⟨rfl, b_10, rfl, g_11, K_12, F_13⟩ := hQ_18
  have szh_16 := nle K_12.1
  have ltb_10 := nlt F_13.ltb
  have geb_10 := nle g_11
  refine Go.rs [(.ref a_1)] rfl ?_
  refine Go.aloadN (pc' := 8) dp42m4_7 rfl rfl rfl ?_
  refine Go.iloadN (pc' := 9) dp42m4_8 rfl rfl ?_
  have F_20 := (Str.keep (Str.ext Hv E_3) K_12 (ninS (nne (by omega)) nin0) (ninS (nne (by omega)) nin0))
  have F_21 := (sta_keep F_14 K_12 (nsS (Exa.nostat X_5) ns0))
  refine Go.callSN (a1 := a0) (pc' := 12) (argsL := [(.ref sv), (.int (1 : Int32))]) (rest := [(.ref a_1)]) (ct_rec1 l Z a0 hw n0 h_16 [118] sv bv F_20 (by decide) (by omega) cs F_21 hcs) dp42m4_9 (wd hw 364 rfl) (wd hw 365 rfl) (wd hw 10 rfl) (wd hw 366 rfl) (by decide) (lenOf pd_22 rfl) rfl 1 rfl rfl (by decide) (by decide) (by decide) (by decide) sl0 rfl (fun v_28 h_29 N_30 hQ_31 hle_32 => ?_)
  obtain ⟨s_22, b_23, rfl, g_24, g_25, K_26, F_27⟩ := hQ_31
  have szh_29 := nle K_26.1
  have lts_22 := nlt F_27.lt
  have ltb_23 := nlt F_27.ltb
  have ges_22 := nle g_24
  have geb_23 := nle g_25
  refine Go.rs [(.ref s_22), (.ref a_1)] rfl ?_
  have F_36 := (Sb.keep F_13 K_26 nin0 nin0)
  have F_37 := (sta_keep F_21 K_26 ns0)
  have F_43 := (Exa.keep (Exa.keep X_5 K_12) K_26)
  refine Go.callV (a1 := a0) (pc' := 15) (argsL := [(.ref s_22)]) (rest := []) (ct_app l Z a0 hw n0 h_29 a_1 s_22 b_23 b_10 [] [118, 63] 16 F_36 F_27 (by decide) (by decide) (nne (by omega)) (by omega) (by omega) cs F_37 hcs) dp42m4_12 (wd hw 345 rfl) (wd hw 79 rfl) (wd hw 81 rfl) (wd hw 81 rfl) (wd hw 80 rfl) (wd hw 62 rfl) (wd hw 82 rfl) F_43 (by decide) (lenOf pd_19 rfl) rfl 0 rfl rfl (by decide) (by decide) (by decide) (by decide) (sl1 (by simp)) rfl (fun v_38 h_39 N_40 hQ_41 hle_42 => ?_)
  obtain ⟨rfl, K_33, F_34⟩ := hQ_41
  have szh_39 := nle K_33.1
  have F_35 : Sb Z h_39 a_1 b_10 16 [118, 63] := F_34
  refine Go.rs [(.ref a_1)] rfl ?_
  refine Go.ldcR (pc' := 17) (a1 := a0) 72 (vs := [.int 46, .int 116, .int 111, .int 73, .int 115, .int 111, .int 56, .int 54, .int 48, .int 49, .int 83, .int 116, .int 114, .int 105, .int 110, .int 103, .int 40, .int 41]) (z := 18) dp42m4_15 rfl (wd hw 367 rfl) (own_ws hw) (by decide) (by decide) (by decide) (by decide) rfl (own_ew hw) (List.mem_of_getElem? (i := 7) rfl) ⟨by decide, by decide⟩ (by decide) (by decide) (fun a_44 h_45 b_46 k_47 E_48 X_49 F_50 F_51 A_52 ne_53 => ?_)
  have szh_45 := nle E_48.1
  have lta_44 := nlt X_49.lt
  have ltb_46 := nlt A_52.lt
  have nx_54 := nne2 (ne_53 b_10 (by simp))
  have nx_55 := nne2 (ne_53 a_1 (by simp))
  have T_56 : Str Z h_45 a_44 b_46 [46, 116, 111, 73, 115, 111, 56, 54, 48, 49, 83, 116, 114, 105, 110, 103, 40, 41] := ⟨X_49, F_50, F_51, k_47, A_52⟩
  have F_62 := (Sb.ext F_35 E_48)
  have F_63 := (Sta.ext E_48 (sta_keep F_37 K_33 (nsS (Exa.nostat F_43) (nsS (Sb.nsB F_36) ns0))))
  have F_69 := (Exa.ext E_48 (Exa.keep F_43 K_33))
  refine Go.callV (a1 := a0) (pc' := 20) (argsL := [(.ref a_44)]) (rest := []) (ct_appG l Z a0 hw n0 h_45 a_1 a_44 b_46 b_10 [118, 63] [46, 116, 111, 73, 115, 111, 56, 54, 48, 49, 83, 116, 114, 105, 110, 103, 40, 41] 16 F_62 T_56 (by decide) (by decide) (by decide) (nne (by omega)) (by omega) cs F_63 hcs) dp42m4_17 (wd hw 345 rfl) (wd hw 79 rfl) (wd hw 81 rfl) (wd hw 81 rfl) (wd hw 80 rfl) (wd hw 62 rfl) (wd hw 82 rfl) F_69 (by decide) (lenOf pd_19 rfl) rfl 0 rfl rfl (by decide) (by decide) (by decide) (by decide) sl0 rfl (fun v_64 h_65 N_66 hQ_67 hle_68 => ?_)
  obtain ⟨rfl, d_60, rfl, g_61, K_57, F_58⟩ := hQ_67
  have ltd_60 := nlt F_58.ltb
  have ged_60 := nle g_61
  have szh_65 := nle K_57.1
  have F_59 : Sb Z h_65 a_1 d_60 34 [118, 63, 46, 116, 111, 73, 115, 111, 56, 54, 48, 49, 83, 116, 114, 105, 110, 103, 40, 41] := F_58
  refine Go.rs [(.ref a_1)] rfl ?_
  have F_70 := (sta_keep F_63 K_57 (nsS (Exa.nostat F_69) ns0))
  have F_82 := (Exa.keep F_69 K_57)
  refine Go.callV (a1 := a0) (pc' := 23) (argsL := []) (rest := []) (ct_ts l Z a0 hw n0 h_65 a_1 d_60 [118, 63, 46, 116, 111, 73, 115, 111, 56, 54, 48, 49, 83, 116, 114, 105, 110, 103, 40, 41] 34 F_59 (by decide) (by decide) (by decide) (by omega) cs F_70 hcs) dp42m4_20 (wd hw 347 rfl) (wd hw 130 rfl) (wd hw 132 rfl) (wd hw 132 rfl) (wd hw 131 rfl) (wd hw 62 rfl) (wd hw 133 rfl) F_82 (by decide) (lenOf pd_20 rfl) rfl 0 rfl rfl (by decide) (by decide) (by decide) (by decide) sl0 rfl (fun v_77 h_78 N_79 hQ_80 hle_81 => ?_)
  obtain ⟨s_71, b_72, rfl, g_73, g_74, K_75, F_76⟩ := hQ_80
  have szh_78 := nle K_75.1
  have lts_71 := nlt F_76.lt
  have ltb_72 := nlt F_76.ltb
  have ges_71 := nle g_73
  have geb_72 := nle g_74
  refine Go.rs [(.ref s_71)] rfl ?_
  refine Go.astoreN (pc' := 24) #[.val (.ref a1), .val (.ref sv), .val (.int (1 : Int32)), .val (.ref s_71)] dp42m4_23 rfl rfl rfl ?_
  refine Go.aloadN (pc' := 25) dp42m4_24 rfl rfl rfl ?_
  have F_83 := (Fld.keep (Fld.keep (Fld.ext E_48 (Fld.keep (Fld.keep (Fld.keep (Fld.ext E_3 FD) K_12 (ninS (nne (by omega)) nin0)) K_26 nin0) K_33 (ninS (nne (by omega)) (ninS (nne (by omega)) nin0)))) K_57 (ninS (nne (by omega)) nin0)) K_75 nin0)
  refine Go.getF (pc' := 28) (host := "") (a1 := a0) dp42m4_25 (Or.inl (wd hw 327 rfl)) Via.refl F_83 rfl ?_
  refine Go.ifF (pc' := 31) dp42m4_28 (show ¬ ((1 : Int32) = (0 : Int32)) by decide) rfl ?_
  refine Go.newO (pc' := 34) (a1 := a0) dp42m4_31 (wd hw 343 rfl) (wd hw 61 rfl) (wd hw 62 rfl) (by decide) (by decide) rfl (fun a_84 h_85 ha_87 E_86 X_88 Df_89 => ?_)
  have szh_85 := nle E_86.1
  have lta_84 := nlt X_88.lt
  have qa_84 := neq ha_87
  have F_90 : Fld Z h_85 a_84 "java/lang/AbstractStringBuilder" "value" "[B" (.null) := Df_89 (Or.inl (wd hw 75 rfl)) (ty := (.array .byte)) (by decide)
  have F_91 : Fld Z h_85 a_84 "java/lang/AbstractStringBuilder" "coder" "B" (.int (0 : Int32)) := Df_89 (Or.inl (wd hw 77 rfl)) (ty := .byte) (by decide)
  have F_92 : Fld Z h_85 a_84 "java/lang/AbstractStringBuilder" "count" "I" (.int (0 : Int32)) := Df_89 (Or.inl (wd hw 102 rfl)) (ty := .int) (by decide)
  refine Go.dup (pc' := 35) dp42m4_34 rfl rfl ?_
  have F_97 := (Sta.ext E_86 (sta_keep F_70 K_75 ns0))
  refine Go.callN (a1 := a0) (pc' := 38) (argsL := []) (rest := [(.ref a_84)]) (ct_sbi0 l Z a0 hw n0 h_85 a_84 (by omega) X_88 F_92 F_91 F_90 cs F_97 hcs) dp42m4_35 rfl (wd hw 344 rfl) (wd hw 64 rfl) (wd hw 62 rfl) (wd hw 65 rfl) (by decide) (lenOf pd_18 rfl) rfl 1 rfl rfl (by decide) (by decide) (by decide) (by decide) sl0 rfl (fun v_98 h_99 N_100 hQ_101 hle_102 => ?_)
  obtain ⟨rfl, b_93, rfl, g_94, K_95, F_96⟩ := hQ_101
  have szh_99 := nle K_95.1
  have ltb_93 := nlt F_96.ltb
  have geb_93 := nle g_94
  refine Go.rs [(.ref a_84)] rfl ?_
  refine Go.aloadN (pc' := 39) dp42m4_38 rfl rfl rfl ?_
  have F_108 := (Str.keep (Str.ext F_76 E_86) K_95 (ninS (nne (by omega)) nin0) (ninS (nne (by omega)) nin0))
  have F_109 := (sta_keep F_97 K_95 (nsS (Exa.nostat X_88) ns0))
  have F_115 := (Exa.keep X_88 K_95)
  refine Go.callV (a1 := a0) (pc' := 42) (argsL := [(.ref s_71)]) (rest := []) (ct_appG l Z a0 hw n0 h_99 a_84 s_71 b_72 b_93 [] [118, 63, 46, 116, 111, 73, 115, 111, 56, 54, 48, 49, 83, 116, 114, 105, 110, 103, 40, 41] 16 F_96 F_108 (by decide) (by decide) (by decide) (nne (by omega)) (by omega) cs F_109 hcs) dp42m4_39 (wd hw 345 rfl) (wd hw 79 rfl) (wd hw 81 rfl) (wd hw 81 rfl) (wd hw 80 rfl) (wd hw 62 rfl) (wd hw 82 rfl) F_115 (by decide) (lenOf pd_19 rfl) rfl 0 rfl rfl (by decide) (by decide) (by decide) (by decide) sl0 rfl (fun v_110 h_111 N_112 hQ_113 hle_114 => ?_)
  obtain ⟨rfl, d_106, rfl, g_107, K_103, F_104⟩ := hQ_113
  have ltd_106 := nlt F_104.ltb
  have ged_106 := nle g_107
  have szh_111 := nle K_103.1
  have F_105 : Sb Z h_111 a_84 d_106 34 [118, 63, 46, 116, 111, 73, 115, 111, 56, 54, 48, 49, 83, 116, 114, 105, 110, 103, 40, 41] := F_104
  refine Go.rs [(.ref a_84)] rfl ?_
  refine Go.ldcR (pc' := 44) (a1 := a0) 68 (vs := [.int 46, .int 115, .int 117, .int 98, .int 115, .int 116, .int 114, .int 105, .int 110, .int 103, .int 40, .int 48, .int 44, .int 32, .int 49, .int 48, .int 41]) (z := 17) dp42m4_42 rfl (wd hw 368 rfl) (own_ws hw) (by decide) (by decide) (by decide) (by decide) rfl (own_ew hw) (List.mem_of_getElem? (i := 8) rfl) ⟨by decide, by decide⟩ (by decide) (by decide) (fun a_116 h_117 b_118 k_119 E_120 X_121 F_122 F_123 A_124 ne_125 => ?_)
  have szh_117 := nle E_120.1
  have lta_116 := nlt X_121.lt
  have ltb_118 := nlt A_124.lt
  have nx_126 := nne2 (ne_125 d_106 (by simp))
  have nx_127 := nne2 (ne_125 b_93 (by simp))
  have nx_128 := nne2 (ne_125 a_84 (by simp))
  have nx_129 := nne2 (ne_125 d_60 (by simp))
  have nx_130 := nne2 (ne_125 b_10 (by simp))
  have nx_131 := nne2 (ne_125 a_1 (by simp))
  have T_132 : Str Z h_117 a_116 b_118 [46, 115, 117, 98, 115, 116, 114, 105, 110, 103, 40, 48, 44, 32, 49, 48, 41] := ⟨X_121, F_122, F_123, k_119, A_124⟩
  have F_138 := (Sb.ext F_105 E_120)
  have F_139 := (Sta.ext E_120 (sta_keep F_109 K_103 (nsS (Exa.nostat F_115) ns0)))
  have F_145 := (Exa.ext E_120 (Exa.keep F_115 K_103))
  refine Go.callV (a1 := a0) (pc' := 47) (argsL := [(.ref a_116)]) (rest := []) (ct_appG l Z a0 hw n0 h_117 a_84 a_116 b_118 d_106 [118, 63, 46, 116, 111, 73, 115, 111, 56, 54, 48, 49, 83, 116, 114, 105, 110, 103, 40, 41] [46, 115, 117, 98, 115, 116, 114, 105, 110, 103, 40, 48, 44, 32, 49, 48, 41] 34 F_138 T_132 (by decide) (by decide) (by decide) (nne (by omega)) (by omega) cs F_139 hcs) dp42m4_44 (wd hw 345 rfl) (wd hw 79 rfl) (wd hw 81 rfl) (wd hw 81 rfl) (wd hw 80 rfl) (wd hw 62 rfl) (wd hw 82 rfl) F_145 (by decide) (lenOf pd_19 rfl) rfl 0 rfl rfl (by decide) (by decide) (by decide) (by decide) sl0 rfl (fun v_140 h_141 N_142 hQ_143 hle_144 => ?_)
  obtain ⟨rfl, d_136, rfl, g_137, K_133, F_134⟩ := hQ_143
  have ltd_136 := nlt F_134.ltb
  have ged_136 := nle g_137
  have szh_141 := nle K_133.1
  have F_135 : Sb Z h_141 a_84 d_136 70 [118, 63, 46, 116, 111, 73, 115, 111, 56, 54, 48, 49, 83, 116, 114, 105, 110, 103, 40, 41, 46, 115, 117, 98, 115, 116, 114, 105, 110, 103, 40, 48, 44, 32, 49, 48, 41] := F_134
  refine Go.rs [(.ref a_84)] rfl ?_
  have F_146 := (sta_keep F_139 K_133 (nsS (Exa.nostat F_145) ns0))
  have F_158 := (Exa.keep F_145 K_133)
  refine Go.callV (a1 := a0) (pc' := 50) (argsL := []) (rest := []) (ct_ts l Z a0 hw n0 h_141 a_84 d_136 [118, 63, 46, 116, 111, 73, 115, 111, 56, 54, 48, 49, 83, 116, 114, 105, 110, 103, 40, 41, 46, 115, 117, 98, 115, 116, 114, 105, 110, 103, 40, 48, 44, 32, 49, 48, 41] 70 F_135 (by decide) (by decide) (by decide) (by omega) cs F_146 hcs) dp42m4_47 (wd hw 347 rfl) (wd hw 130 rfl) (wd hw 132 rfl) (wd hw 132 rfl) (wd hw 131 rfl) (wd hw 62 rfl) (wd hw 133 rfl) F_158 (by decide) (lenOf pd_20 rfl) rfl 0 rfl rfl (by decide) (by decide) (by decide) (by decide) sl0 rfl (fun v_153 h_154 N_155 hQ_156 hle_157 => ?_)
  obtain ⟨s_147, b_148, rfl, g_149, g_150, K_151, F_152⟩ := hQ_156
  have szh_154 := nle K_151.1
  have lts_147 := nlt F_152.lt
  have ltb_148 := nlt F_152.ltb
  have ges_147 := nle g_149
  have geb_148 := nle g_150
  refine Go.rs [(.ref s_147)] rfl ?_
  refine Go.goto (pc' := 54) dp42m4_50 (by decide) (by decide) ?_
  refine Go.retA rfl rfl rfl [] sl0 dp42m4_54 (by decide) (by decide) ?_
  exact ⟨s_147, b_148, rfl, (Keep.trans (Keep.trans (Keep.ext (Keep.trans (Keep.trans (Keep.ext (Keep.trans (Keep.trans (Keep.ext (Keep.trans (Keep.trans (Keep.trans (Keep.ext (Keep.refl _ []) E_3) K_12 (allS (Or.inr (by omega)) all0)) K_26 all0) K_33 (allS (Or.inr (by omega)) (allS (Or.inr (by omega)) all0))) E_48) K_57 (allS (Or.inr (by omega)) all0)) K_75 all0) E_86) K_95 (allS (Or.inr (by omega)) all0)) K_103 (allS (Or.inr (by omega)) all0)) E_120) K_133 (allS (Or.inr (by omega)) all0)) K_151 all0), F_152⟩
theorem dm4_0 : decode method_4_code 0 = .ok (.iload_n 0, 1) := by decide +kernel
theorem dm4_1 : decode method_4_code 1 = .ok (.ifCond .ne 15, 3) := by decide +kernel
theorem dm4_4 : decode method_4_code 4 = .ok (.iload_n 1, 1) := by decide +kernel
theorem dm4_5 : decode method_4_code 5 = .ok (.ifCond .eq 8, 3) := by decide +kernel
theorem dm4_13 : decode method_4_code 13 = .ok (.ldc 92, 2) := by decide +kernel
theorem dm4_15 : decode method_4_code 15 = .ok (.areturn, 1) := by decide +kernel
theorem ct_expType_0_0 (l : Launch) (Z : State) (a0 : Array Value) (hw : ∀ d ∈ tables_1, d.before a0 Z = true) (n0 : Nat) (h0 : Heap)  :
    Ct l Z (⟨"dev/typewright/dart/DartFormOfPinLaw", "expType", "(IZ)Ljava/lang/String;"⟩ : MethodName) method_4_code 2 (some (.object "java/lang/String")) ({ frames := 0, cells := 2, slots := 16, locals := 0 } : Room) EL1 n0 true [] #[(.int (0 : Int32)), (.int (0 : Int32))] h0 [] (fun v h N => ∃ s b, v = some (.ref s) ∧ Keep h0 h [] ∧ Str Z h s b [105, 110, 116]) := by
  refine Ct.of (a0 := a0) (plainFor_of_name pn_dev_typewright_dart_DartFormOfPinLaw) (own_ew hw) (L0 := #[.val (.int (0 : Int32)), .val (.int (0 : Int32))]) (fun _ => rfl) ?_
  refine Go.iloadN (pc' := 1) dm4_0 rfl rfl ?_
  refine Go.ifF (pc' := 4) dm4_1 (show (0 : Int32) = (0 : Int32) by decide) rfl ?_
  refine Go.iloadN (pc' := 5) dm4_4 rfl rfl ?_
  refine Go.ifT (pc' := 13) dm4_5 (show (0 : Int32) = (0 : Int32) by decide) (by decide) (by decide) ?_
  refine Go.ldcR (pc' := 15) (a1 := a0) 12 (vs := [.int 105, .int 110, .int 116]) (z := 3) dm4_13 rfl (wd hw 234 rfl) (own_ws hw) (by decide) (by decide) (by decide) (by decide) rfl (own_ew hw) (List.mem_of_getElem? (i := 22) rfl) ⟨by decide, by decide⟩ (by decide) (by decide) (fun a_1 h_2 b_3 k_4 E_5 X_6 F_7 F_8 A_9 ne_10 => ?_)
  have szh_2 := nle E_5.1
  have lta_1 := nlt X_6.lt
  have ltb_3 := nlt A_9.lt
  have T_11 : Str Z h_2 a_1 b_3 [105, 110, 116] := ⟨X_6, F_7, F_8, k_4, A_9⟩
  refine Go.retA rfl rfl rfl [] sl0 dm4_15 (by decide) (by decide) ?_
  exact ⟨a_1, b_3, rfl, (Keep.ext (Keep.refl _ []) E_5), T_11⟩
theorem dm4_8 : decode method_4_code 8 = .ok (.ldc 90, 2) := by decide +kernel
theorem dm4_10 : decode method_4_code 10 = .ok (.goto 5, 3) := by decide +kernel
theorem ct_expType_0_1 (l : Launch) (Z : State) (a0 : Array Value) (hw : ∀ d ∈ tables_1, d.before a0 Z = true) (n0 : Nat) (h0 : Heap)  :
    Ct l Z (⟨"dev/typewright/dart/DartFormOfPinLaw", "expType", "(IZ)Ljava/lang/String;"⟩ : MethodName) method_4_code 2 (some (.object "java/lang/String")) ({ frames := 0, cells := 2, slots := 20, locals := 0 } : Room) EL1 n0 true [] #[(.int (0 : Int32)), (.int (1 : Int32))] h0 [] (fun v h N => ∃ s b, v = some (.ref s) ∧ Keep h0 h [] ∧ Str Z h s b [105, 110, 116, 63]) := by
  refine Ct.of (a0 := a0) (plainFor_of_name pn_dev_typewright_dart_DartFormOfPinLaw) (own_ew hw) (L0 := #[.val (.int (0 : Int32)), .val (.int (1 : Int32))]) (fun _ => rfl) ?_
  refine Go.iloadN (pc' := 1) dm4_0 rfl rfl ?_
  refine Go.ifF (pc' := 4) dm4_1 (show (0 : Int32) = (0 : Int32) by decide) rfl ?_
  refine Go.iloadN (pc' := 5) dm4_4 rfl rfl ?_
  refine Go.ifF (pc' := 8) dm4_5 (show ¬ ((1 : Int32) = (0 : Int32)) by decide) rfl ?_
  refine Go.ldcR (pc' := 10) (a1 := a0) 16 (vs := [.int 105, .int 110, .int 116, .int 63]) (z := 4) dm4_8 rfl (wd hw 179 rfl) (own_ws hw) (by decide) (by decide) (by decide) (by decide) rfl (own_ew hw) (List.mem_of_getElem? (i := 21) rfl) ⟨by decide, by decide⟩ (by decide) (by decide) (fun a_1 h_2 b_3 k_4 E_5 X_6 F_7 F_8 A_9 ne_10 => ?_)
  have szh_2 := nle E_5.1
  have lta_1 := nlt X_6.lt
  have ltb_3 := nlt A_9.lt
  have T_11 : Str Z h_2 a_1 b_3 [105, 110, 116, 63] := ⟨X_6, F_7, F_8, k_4, A_9⟩
  refine Go.goto (pc' := 15) dm4_10 (by decide) (by decide) ?_
  refine Go.retA rfl rfl rfl [] sl0 dm4_15 (by decide) (by decide) ?_
  exact ⟨a_1, b_3, rfl, (Keep.ext (Keep.refl _ []) E_5), T_11⟩
theorem dm4_16 : decode method_4_code 16 = .ok (.iload_n 0, 1) := by decide +kernel
theorem dm4_17 : decode method_4_code 17 = .ok (.iconst 1, 1) := by decide +kernel
theorem dm4_18 : decode method_4_code 18 = .ok (.if_icmp .ne 15, 3) := by decide +kernel
theorem dm4_21 : decode method_4_code 21 = .ok (.iload_n 1, 1) := by decide +kernel
theorem dm4_22 : decode method_4_code 22 = .ok (.ifCond .eq 8, 3) := by decide +kernel
theorem dm4_30 : decode method_4_code 30 = .ok (.ldc 96, 2) := by decide +kernel
theorem dm4_32 : decode method_4_code 32 = .ok (.areturn, 1) := by decide +kernel
theorem ct_expType_1_0 (l : Launch) (Z : State) (a0 : Array Value) (hw : ∀ d ∈ tables_1, d.before a0 Z = true) (n0 : Nat) (h0 : Heap)  :
    Ct l Z (⟨"dev/typewright/dart/DartFormOfPinLaw", "expType", "(IZ)Ljava/lang/String;"⟩ : MethodName) method_4_code 2 (some (.object "java/lang/String")) ({ frames := 0, cells := 2, slots := 28, locals := 0 } : Room) EL1 n0 true [] #[(.int (1 : Int32)), (.int (0 : Int32))] h0 [] (fun v h N => ∃ s b, v = some (.ref s) ∧ Keep h0 h [] ∧ Str Z h s b [100, 111, 117, 98, 108, 101]) := by
  refine Ct.of (a0 := a0) (plainFor_of_name pn_dev_typewright_dart_DartFormOfPinLaw) (own_ew hw) (L0 := #[.val (.int (1 : Int32)), .val (.int (0 : Int32))]) (fun _ => rfl) ?_
  refine Go.iloadN (pc' := 1) dm4_0 rfl rfl ?_
  refine Go.ifT (pc' := 16) dm4_1 (show ¬ ((1 : Int32) = (0 : Int32)) by decide) (by decide) (by decide) ?_
  refine Go.iloadN (pc' := 17) dm4_16 rfl rfl ?_
  refine Go.iconst (pc' := 18) 1 dm4_17 rfl rfl ?_
  refine Go.icmpF (pc' := 21) dm4_18 (show (1 : Int32) = (1 : Int32) by decide) rfl ?_
  refine Go.iloadN (pc' := 22) dm4_21 rfl rfl ?_
  refine Go.ifT (pc' := 30) dm4_22 (show (0 : Int32) = (0 : Int32) by decide) (by decide) (by decide) ?_
  refine Go.ldcR (pc' := 32) (a1 := a0) 24 (vs := [.int 100, .int 111, .int 117, .int 98, .int 108, .int 101]) (z := 6) dm4_30 rfl (wd hw 269 rfl) (own_ws hw) (by decide) (by decide) (by decide) (by decide) rfl (own_ew hw) (List.mem_of_getElem? (i := 24) rfl) ⟨by decide, by decide⟩ (by decide) (by decide) (fun a_1 h_2 b_3 k_4 E_5 X_6 F_7 F_8 A_9 ne_10 => ?_)
  have szh_2 := nle E_5.1
  have lta_1 := nlt X_6.lt
  have ltb_3 := nlt A_9.lt
  have T_11 : Str Z h_2 a_1 b_3 [100, 111, 117, 98, 108, 101] := ⟨X_6, F_7, F_8, k_4, A_9⟩
  refine Go.retA rfl rfl rfl [] sl0 dm4_32 (by decide) (by decide) ?_
  exact ⟨a_1, b_3, rfl, (Keep.ext (Keep.refl _ []) E_5), T_11⟩
theorem dm4_25 : decode method_4_code 25 = .ok (.ldc 94, 2) := by decide +kernel
theorem dm4_27 : decode method_4_code 27 = .ok (.goto 5, 3) := by decide +kernel
theorem ct_expType_1_1 (l : Launch) (Z : State) (a0 : Array Value) (hw : ∀ d ∈ tables_1, d.before a0 Z = true) (n0 : Nat) (h0 : Heap)  :
    Ct l Z (⟨"dev/typewright/dart/DartFormOfPinLaw", "expType", "(IZ)Ljava/lang/String;"⟩ : MethodName) method_4_code 2 (some (.object "java/lang/String")) ({ frames := 0, cells := 2, slots := 32, locals := 0 } : Room) EL1 n0 true [] #[(.int (1 : Int32)), (.int (1 : Int32))] h0 [] (fun v h N => ∃ s b, v = some (.ref s) ∧ Keep h0 h [] ∧ Str Z h s b [100, 111, 117, 98, 108, 101, 63]) := by
  refine Ct.of (a0 := a0) (plainFor_of_name pn_dev_typewright_dart_DartFormOfPinLaw) (own_ew hw) (L0 := #[.val (.int (1 : Int32)), .val (.int (1 : Int32))]) (fun _ => rfl) ?_
  refine Go.iloadN (pc' := 1) dm4_0 rfl rfl ?_
  refine Go.ifT (pc' := 16) dm4_1 (show ¬ ((1 : Int32) = (0 : Int32)) by decide) (by decide) (by decide) ?_
  refine Go.iloadN (pc' := 17) dm4_16 rfl rfl ?_
  refine Go.iconst (pc' := 18) 1 dm4_17 rfl rfl ?_
  refine Go.icmpF (pc' := 21) dm4_18 (show (1 : Int32) = (1 : Int32) by decide) rfl ?_
  refine Go.iloadN (pc' := 22) dm4_21 rfl rfl ?_
  refine Go.ifF (pc' := 25) dm4_22 (show ¬ ((1 : Int32) = (0 : Int32)) by decide) rfl ?_
  refine Go.ldcR (pc' := 27) (a1 := a0) 28 (vs := [.int 100, .int 111, .int 117, .int 98, .int 108, .int 101, .int 63]) (z := 7) dm4_25 rfl (wd hw 389 rfl) (own_ws hw) (by decide) (by decide) (by decide) (by decide) rfl (own_ew hw) (List.mem_of_getElem? (i := 23) rfl) ⟨by decide, by decide⟩ (by decide) (by decide) (fun a_1 h_2 b_3 k_4 E_5 X_6 F_7 F_8 A_9 ne_10 => ?_)
  have szh_2 := nle E_5.1
  have lta_1 := nlt X_6.lt
  have ltb_3 := nlt A_9.lt
  have T_11 : Str Z h_2 a_1 b_3 [100, 111, 117, 98, 108, 101, 63] := ⟨X_6, F_7, F_8, k_4, A_9⟩
  refine Go.goto (pc' := 32) dm4_27 (by decide) (by decide) ?_
  refine Go.retA rfl rfl rfl [] sl0 dm4_32 (by decide) (by decide) ?_
  exact ⟨a_1, b_3, rfl, (Keep.ext (Keep.refl _ []) E_5), T_11⟩
theorem dm4_33 : decode method_4_code 33 = .ok (.iload_n 0, 1) := by decide +kernel
theorem dm4_34 : decode method_4_code 34 = .ok (.iconst 3, 1) := by decide +kernel
theorem dm4_35 : decode method_4_code 35 = .ok (.if_icmp .ne 15, 3) := by decide +kernel
theorem dm4_50 : decode method_4_code 50 = .ok (.iload_n 0, 1) := by decide +kernel
theorem dm4_51 : decode method_4_code 51 = .ok (.iconst 4, 1) := by decide +kernel
theorem dm4_52 : decode method_4_code 52 = .ok (.if_icmp .eq 8, 3) := by decide +kernel
theorem dm4_55 : decode method_4_code 55 = .ok (.iload_n 0, 1) := by decide +kernel
theorem dm4_56 : decode method_4_code 56 = .ok (.iconst 5, 1) := by decide +kernel
theorem dm4_57 : decode method_4_code 57 = .ok (.if_icmp .ne 15, 3) := by decide +kernel
theorem dm4_72 : decode method_4_code 72 = .ok (.iload_n 1, 1) := by decide +kernel
theorem dm4_73 : decode method_4_code 73 = .ok (.ifCond .eq 8, 3) := by decide +kernel
theorem dm4_81 : decode method_4_code 81 = .ok (.ldc 108, 2) := by decide +kernel
theorem dm4_83 : decode method_4_code 83 = .ok (.areturn, 1) := by decide +kernel
theorem ct_expType_2_0 (l : Launch) (Z : State) (a0 : Array Value) (hw : ∀ d ∈ tables_1, d.before a0 Z = true) (n0 : Nat) (h0 : Heap)  :
    Ct l Z (⟨"dev/typewright/dart/DartFormOfPinLaw", "expType", "(IZ)Ljava/lang/String;"⟩ : MethodName) method_4_code 2 (some (.object "java/lang/String")) ({ frames := 0, cells := 2, slots := 28, locals := 0 } : Room) EL1 n0 true [] #[(.int (2 : Int32)), (.int (0 : Int32))] h0 [] (fun v h N => ∃ s b, v = some (.ref s) ∧ Keep h0 h [] ∧ Str Z h s b [83, 116, 114, 105, 110, 103]) := by
  refine Ct.of (a0 := a0) (plainFor_of_name pn_dev_typewright_dart_DartFormOfPinLaw) (own_ew hw) (L0 := #[.val (.int (2 : Int32)), .val (.int (0 : Int32))]) (fun _ => rfl) ?_
  refine Go.iloadN (pc' := 1) dm4_0 rfl rfl ?_
  refine Go.ifT (pc' := 16) dm4_1 (show ¬ ((2 : Int32) = (0 : Int32)) by decide) (by decide) (by decide) ?_
  refine Go.iloadN (pc' := 17) dm4_16 rfl rfl ?_
  refine Go.iconst (pc' := 18) 1 dm4_17 rfl rfl ?_
  refine Go.icmpT (pc' := 33) dm4_18 (show ¬ ((2 : Int32) = (1 : Int32)) by decide) (by decide) (by decide) ?_
  refine Go.iloadN (pc' := 34) dm4_33 rfl rfl ?_
  refine Go.iconst (pc' := 35) 3 dm4_34 rfl rfl ?_
  refine Go.icmpT (pc' := 50) dm4_35 (show ¬ ((2 : Int32) = (3 : Int32)) by decide) (by decide) (by decide) ?_
  refine Go.iloadN (pc' := 51) dm4_50 rfl rfl ?_
  refine Go.iconst (pc' := 52) 4 dm4_51 rfl rfl ?_
  refine Go.icmpF (pc' := 55) dm4_52 (show ¬ ((2 : Int32) = (4 : Int32)) by decide) rfl ?_
  refine Go.iloadN (pc' := 56) dm4_55 rfl rfl ?_
  refine Go.iconst (pc' := 57) 5 dm4_56 rfl rfl ?_
  refine Go.icmpT (pc' := 72) dm4_57 (show ¬ ((2 : Int32) = (5 : Int32)) by decide) (by decide) (by decide) ?_
  refine Go.iloadN (pc' := 73) dm4_72 rfl rfl ?_
  refine Go.ifT (pc' := 81) dm4_73 (show (0 : Int32) = (0 : Int32) by decide) (by decide) (by decide) ?_
  refine Go.ldcR (pc' := 83) (a1 := a0) 24 (vs := [.int 83, .int 116, .int 114, .int 105, .int 110, .int 103]) (z := 6) dm4_81 rfl (wd hw 376 rfl) (own_ws hw) (by decide) (by decide) (by decide) (by decide) rfl (own_ew hw) (List.mem_of_getElem? (i := 30) rfl) ⟨by decide, by decide⟩ (by decide) (by decide) (fun a_1 h_2 b_3 k_4 E_5 X_6 F_7 F_8 A_9 ne_10 => ?_)
  have szh_2 := nle E_5.1
  have lta_1 := nlt X_6.lt
  have ltb_3 := nlt A_9.lt
  have T_11 : Str Z h_2 a_1 b_3 [83, 116, 114, 105, 110, 103] := ⟨X_6, F_7, F_8, k_4, A_9⟩
  refine Go.retA rfl rfl rfl [] sl0 dm4_83 (by decide) (by decide) ?_
  exact ⟨a_1, b_3, rfl, (Keep.ext (Keep.refl _ []) E_5), T_11⟩
theorem dm4_76 : decode method_4_code 76 = .ok (.ldc 106, 2) := by decide +kernel
theorem dm4_78 : decode method_4_code 78 = .ok (.goto 5, 3) := by decide +kernel
theorem ct_expType_2_1 (l : Launch) (Z : State) (a0 : Array Value) (hw : ∀ d ∈ tables_1, d.before a0 Z = true) (n0 : Nat) (h0 : Heap)  :
    Ct l Z (⟨"dev/typewright/dart/DartFormOfPinLaw", "expType", "(IZ)Ljava/lang/String;"⟩ : MethodName) method_4_code 2 (some (.object "java/lang/String")) ({ frames := 0, cells := 2, slots := 32, locals := 0 } : Room) EL1 n0 true [] #[(.int (2 : Int32)), (.int (1 : Int32))] h0 [] (fun v h N => ∃ s b, v = some (.ref s) ∧ Keep h0 h [] ∧ Str Z h s b [83, 116, 114, 105, 110, 103, 63]) := by
  refine Ct.of (a0 := a0) (plainFor_of_name pn_dev_typewright_dart_DartFormOfPinLaw) (own_ew hw) (L0 := #[.val (.int (2 : Int32)), .val (.int (1 : Int32))]) (fun _ => rfl) ?_
  refine Go.iloadN (pc' := 1) dm4_0 rfl rfl ?_
  refine Go.ifT (pc' := 16) dm4_1 (show ¬ ((2 : Int32) = (0 : Int32)) by decide) (by decide) (by decide) ?_
  refine Go.iloadN (pc' := 17) dm4_16 rfl rfl ?_
  refine Go.iconst (pc' := 18) 1 dm4_17 rfl rfl ?_
  refine Go.icmpT (pc' := 33) dm4_18 (show ¬ ((2 : Int32) = (1 : Int32)) by decide) (by decide) (by decide) ?_
  refine Go.iloadN (pc' := 34) dm4_33 rfl rfl ?_
  refine Go.iconst (pc' := 35) 3 dm4_34 rfl rfl ?_
  refine Go.icmpT (pc' := 50) dm4_35 (show ¬ ((2 : Int32) = (3 : Int32)) by decide) (by decide) (by decide) ?_
  refine Go.iloadN (pc' := 51) dm4_50 rfl rfl ?_
  refine Go.iconst (pc' := 52) 4 dm4_51 rfl rfl ?_
  refine Go.icmpF (pc' := 55) dm4_52 (show ¬ ((2 : Int32) = (4 : Int32)) by decide) rfl ?_
  refine Go.iloadN (pc' := 56) dm4_55 rfl rfl ?_
  refine Go.iconst (pc' := 57) 5 dm4_56 rfl rfl ?_
  refine Go.icmpT (pc' := 72) dm4_57 (show ¬ ((2 : Int32) = (5 : Int32)) by decide) (by decide) (by decide) ?_
  refine Go.iloadN (pc' := 73) dm4_72 rfl rfl ?_
  refine Go.ifF (pc' := 76) dm4_73 (show ¬ ((1 : Int32) = (0 : Int32)) by decide) rfl ?_
  refine Go.ldcR (pc' := 78) (a1 := a0) 28 (vs := [.int 83, .int 116, .int 114, .int 105, .int 110, .int 103, .int 63]) (z := 7) dm4_76 rfl (wd hw 400 rfl) (own_ws hw) (by decide) (by decide) (by decide) (by decide) rfl (own_ew hw) (List.mem_of_getElem? (i := 29) rfl) ⟨by decide, by decide⟩ (by decide) (by decide) (fun a_1 h_2 b_3 k_4 E_5 X_6 F_7 F_8 A_9 ne_10 => ?_)
  have szh_2 := nle E_5.1
  have lta_1 := nlt X_6.lt
  have ltb_3 := nlt A_9.lt
  have T_11 : Str Z h_2 a_1 b_3 [83, 116, 114, 105, 110, 103, 63] := ⟨X_6, F_7, F_8, k_4, A_9⟩
  refine Go.goto (pc' := 83) dm4_78 (by decide) (by decide) ?_
  refine Go.retA rfl rfl rfl [] sl0 dm4_83 (by decide) (by decide) ?_
  exact ⟨a_1, b_3, rfl, (Keep.ext (Keep.refl _ []) E_5), T_11⟩
theorem dm4_38 : decode method_4_code 38 = .ok (.iload_n 1, 1) := by decide +kernel
theorem dm4_39 : decode method_4_code 39 = .ok (.ifCond .eq 8, 3) := by decide +kernel
theorem dm4_47 : decode method_4_code 47 = .ok (.ldc 100, 2) := by decide +kernel
theorem dm4_49 : decode method_4_code 49 = .ok (.areturn, 1) := by decide +kernel
theorem ct_expType_3_0 (l : Launch) (Z : State) (a0 : Array Value) (hw : ∀ d ∈ tables_1, d.before a0 Z = true) (n0 : Nat) (h0 : Heap)  :
    Ct l Z (⟨"dev/typewright/dart/DartFormOfPinLaw", "expType", "(IZ)Ljava/lang/String;"⟩ : MethodName) method_4_code 2 (some (.object "java/lang/String")) ({ frames := 0, cells := 2, slots := 20, locals := 0 } : Room) EL1 n0 true [] #[(.int (3 : Int32)), (.int (0 : Int32))] h0 [] (fun v h N => ∃ s b, v = some (.ref s) ∧ Keep h0 h [] ∧ Str Z h s b [98, 111, 111, 108]) := by
  refine Ct.of (a0 := a0) (plainFor_of_name pn_dev_typewright_dart_DartFormOfPinLaw) (own_ew hw) (L0 := #[.val (.int (3 : Int32)), .val (.int (0 : Int32))]) (fun _ => rfl) ?_
  refine Go.iloadN (pc' := 1) dm4_0 rfl rfl ?_
  refine Go.ifT (pc' := 16) dm4_1 (show ¬ ((3 : Int32) = (0 : Int32)) by decide) (by decide) (by decide) ?_
  refine Go.iloadN (pc' := 17) dm4_16 rfl rfl ?_
  refine Go.iconst (pc' := 18) 1 dm4_17 rfl rfl ?_
  refine Go.icmpT (pc' := 33) dm4_18 (show ¬ ((3 : Int32) = (1 : Int32)) by decide) (by decide) (by decide) ?_
  refine Go.iloadN (pc' := 34) dm4_33 rfl rfl ?_
  refine Go.iconst (pc' := 35) 3 dm4_34 rfl rfl ?_
  refine Go.icmpF (pc' := 38) dm4_35 (show (3 : Int32) = (3 : Int32) by decide) rfl ?_
  refine Go.iloadN (pc' := 39) dm4_38 rfl rfl ?_
  refine Go.ifT (pc' := 47) dm4_39 (show (0 : Int32) = (0 : Int32) by decide) (by decide) (by decide) ?_
  refine Go.ldcR (pc' := 49) (a1 := a0) 16 (vs := [.int 98, .int 111, .int 111, .int 108]) (z := 4) dm4_47 rfl (wd hw 251 rfl) (own_ws hw) (by decide) (by decide) (by decide) (by decide) rfl (own_ew hw) (List.mem_of_getElem? (i := 26) rfl) ⟨by decide, by decide⟩ (by decide) (by decide) (fun a_1 h_2 b_3 k_4 E_5 X_6 F_7 F_8 A_9 ne_10 => ?_)
  have szh_2 := nle E_5.1
  have lta_1 := nlt X_6.lt
  have ltb_3 := nlt A_9.lt
  have T_11 : Str Z h_2 a_1 b_3 [98, 111, 111, 108] := ⟨X_6, F_7, F_8, k_4, A_9⟩
  refine Go.retA rfl rfl rfl [] sl0 dm4_49 (by decide) (by decide) ?_
  exact ⟨a_1, b_3, rfl, (Keep.ext (Keep.refl _ []) E_5), T_11⟩
theorem dm4_42 : decode method_4_code 42 = .ok (.ldc 98, 2) := by decide +kernel
theorem dm4_44 : decode method_4_code 44 = .ok (.goto 5, 3) := by decide +kernel
theorem ct_expType_3_1 (l : Launch) (Z : State) (a0 : Array Value) (hw : ∀ d ∈ tables_1, d.before a0 Z = true) (n0 : Nat) (h0 : Heap)  :
    Ct l Z (⟨"dev/typewright/dart/DartFormOfPinLaw", "expType", "(IZ)Ljava/lang/String;"⟩ : MethodName) method_4_code 2 (some (.object "java/lang/String")) ({ frames := 0, cells := 2, slots := 24, locals := 0 } : Room) EL1 n0 true [] #[(.int (3 : Int32)), (.int (1 : Int32))] h0 [] (fun v h N => ∃ s b, v = some (.ref s) ∧ Keep h0 h [] ∧ Str Z h s b [98, 111, 111, 108, 63]) := by
  refine Ct.of (a0 := a0) (plainFor_of_name pn_dev_typewright_dart_DartFormOfPinLaw) (own_ew hw) (L0 := #[.val (.int (3 : Int32)), .val (.int (1 : Int32))]) (fun _ => rfl) ?_
  refine Go.iloadN (pc' := 1) dm4_0 rfl rfl ?_
  refine Go.ifT (pc' := 16) dm4_1 (show ¬ ((3 : Int32) = (0 : Int32)) by decide) (by decide) (by decide) ?_
  refine Go.iloadN (pc' := 17) dm4_16 rfl rfl ?_
  refine Go.iconst (pc' := 18) 1 dm4_17 rfl rfl ?_
  refine Go.icmpT (pc' := 33) dm4_18 (show ¬ ((3 : Int32) = (1 : Int32)) by decide) (by decide) (by decide) ?_
  refine Go.iloadN (pc' := 34) dm4_33 rfl rfl ?_
  refine Go.iconst (pc' := 35) 3 dm4_34 rfl rfl ?_
  refine Go.icmpF (pc' := 38) dm4_35 (show (3 : Int32) = (3 : Int32) by decide) rfl ?_
  refine Go.iloadN (pc' := 39) dm4_38 rfl rfl ?_
  refine Go.ifF (pc' := 42) dm4_39 (show ¬ ((1 : Int32) = (0 : Int32)) by decide) rfl ?_
  refine Go.ldcR (pc' := 44) (a1 := a0) 20 (vs := [.int 98, .int 111, .int 111, .int 108, .int 63]) (z := 5) dm4_42 rfl (wd hw 249 rfl) (own_ws hw) (by decide) (by decide) (by decide) (by decide) rfl (own_ew hw) (List.mem_of_getElem? (i := 25) rfl) ⟨by decide, by decide⟩ (by decide) (by decide) (fun a_1 h_2 b_3 k_4 E_5 X_6 F_7 F_8 A_9 ne_10 => ?_)
  have szh_2 := nle E_5.1
  have lta_1 := nlt X_6.lt
  have ltb_3 := nlt A_9.lt
  have T_11 : Str Z h_2 a_1 b_3 [98, 111, 111, 108, 63] := ⟨X_6, F_7, F_8, k_4, A_9⟩
  refine Go.goto (pc' := 49) dm4_44 (by decide) (by decide) ?_
  refine Go.retA rfl rfl rfl [] sl0 dm4_49 (by decide) (by decide) ?_
  exact ⟨a_1, b_3, rfl, (Keep.ext (Keep.refl _ []) E_5), T_11⟩
theorem dm4_60 : decode method_4_code 60 = .ok (.iload_n 1, 1) := by decide +kernel
theorem dm4_61 : decode method_4_code 61 = .ok (.ifCond .eq 8, 3) := by decide +kernel
theorem dm4_69 : decode method_4_code 69 = .ok (.ldc 104, 2) := by decide +kernel
theorem dm4_71 : decode method_4_code 71 = .ok (.areturn, 1) := by decide +kernel
theorem ct_expType_4_0 (l : Launch) (Z : State) (a0 : Array Value) (hw : ∀ d ∈ tables_1, d.before a0 Z = true) (n0 : Nat) (h0 : Heap)  :
    Ct l Z (⟨"dev/typewright/dart/DartFormOfPinLaw", "expType", "(IZ)Ljava/lang/String;"⟩ : MethodName) method_4_code 2 (some (.object "java/lang/String")) ({ frames := 0, cells := 2, slots := 36, locals := 0 } : Room) EL1 n0 true [] #[(.int (4 : Int32)), (.int (0 : Int32))] h0 [] (fun v h N => ∃ s b, v = some (.ref s) ∧ Keep h0 h [] ∧ Str Z h s b [68, 97, 116, 101, 84, 105, 109, 101]) := by
  refine Ct.of (a0 := a0) (plainFor_of_name pn_dev_typewright_dart_DartFormOfPinLaw) (own_ew hw) (L0 := #[.val (.int (4 : Int32)), .val (.int (0 : Int32))]) (fun _ => rfl) ?_
  refine Go.iloadN (pc' := 1) dm4_0 rfl rfl ?_
  refine Go.ifT (pc' := 16) dm4_1 (show ¬ ((4 : Int32) = (0 : Int32)) by decide) (by decide) (by decide) ?_
  refine Go.iloadN (pc' := 17) dm4_16 rfl rfl ?_
  refine Go.iconst (pc' := 18) 1 dm4_17 rfl rfl ?_
  refine Go.icmpT (pc' := 33) dm4_18 (show ¬ ((4 : Int32) = (1 : Int32)) by decide) (by decide) (by decide) ?_
  refine Go.iloadN (pc' := 34) dm4_33 rfl rfl ?_
  refine Go.iconst (pc' := 35) 3 dm4_34 rfl rfl ?_
  refine Go.icmpT (pc' := 50) dm4_35 (show ¬ ((4 : Int32) = (3 : Int32)) by decide) (by decide) (by decide) ?_
  refine Go.iloadN (pc' := 51) dm4_50 rfl rfl ?_
  refine Go.iconst (pc' := 52) 4 dm4_51 rfl rfl ?_
  refine Go.icmpT (pc' := 60) dm4_52 (show (4 : Int32) = (4 : Int32) by decide) (by decide) (by decide) ?_
  refine Go.iloadN (pc' := 61) dm4_60 rfl rfl ?_
  refine Go.ifT (pc' := 69) dm4_61 (show (0 : Int32) = (0 : Int32) by decide) (by decide) (by decide) ?_
  refine Go.ldcR (pc' := 71) (a1 := a0) 32 (vs := [.int 68, .int 97, .int 116, .int 101, .int 84, .int 105, .int 109, .int 101]) (z := 8) dm4_69 rfl (wd hw 337 rfl) (own_ws hw) (by decide) (by decide) (by decide) (by decide) rfl (own_ew hw) (List.mem_of_getElem? (i := 28) rfl) ⟨by decide, by decide⟩ (by decide) (by decide) (fun a_1 h_2 b_3 k_4 E_5 X_6 F_7 F_8 A_9 ne_10 => ?_)
  have szh_2 := nle E_5.1
  have lta_1 := nlt X_6.lt
  have ltb_3 := nlt A_9.lt
  have T_11 : Str Z h_2 a_1 b_3 [68, 97, 116, 101, 84, 105, 109, 101] := ⟨X_6, F_7, F_8, k_4, A_9⟩
  refine Go.retA rfl rfl rfl [] sl0 dm4_71 (by decide) (by decide) ?_
  exact ⟨a_1, b_3, rfl, (Keep.ext (Keep.refl _ []) E_5), T_11⟩
theorem dm4_64 : decode method_4_code 64 = .ok (.ldc 102, 2) := by decide +kernel
theorem dm4_66 : decode method_4_code 66 = .ok (.goto 5, 3) := by decide +kernel
theorem ct_expType_4_1 (l : Launch) (Z : State) (a0 : Array Value) (hw : ∀ d ∈ tables_1, d.before a0 Z = true) (n0 : Nat) (h0 : Heap)  :
    Ct l Z (⟨"dev/typewright/dart/DartFormOfPinLaw", "expType", "(IZ)Ljava/lang/String;"⟩ : MethodName) method_4_code 2 (some (.object "java/lang/String")) ({ frames := 0, cells := 2, slots := 40, locals := 0 } : Room) EL1 n0 true [] #[(.int (4 : Int32)), (.int (1 : Int32))] h0 [] (fun v h N => ∃ s b, v = some (.ref s) ∧ Keep h0 h [] ∧ Str Z h s b [68, 97, 116, 101, 84, 105, 109, 101, 63]) := by
  refine Ct.of (a0 := a0) (plainFor_of_name pn_dev_typewright_dart_DartFormOfPinLaw) (own_ew hw) (L0 := #[.val (.int (4 : Int32)), .val (.int (1 : Int32))]) (fun _ => rfl) ?_
  refine Go.iloadN (pc' := 1) dm4_0 rfl rfl ?_
  refine Go.ifT (pc' := 16) dm4_1 (show ¬ ((4 : Int32) = (0 : Int32)) by decide) (by decide) (by decide) ?_
  refine Go.iloadN (pc' := 17) dm4_16 rfl rfl ?_
  refine Go.iconst (pc' := 18) 1 dm4_17 rfl rfl ?_
  refine Go.icmpT (pc' := 33) dm4_18 (show ¬ ((4 : Int32) = (1 : Int32)) by decide) (by decide) (by decide) ?_
  refine Go.iloadN (pc' := 34) dm4_33 rfl rfl ?_
  refine Go.iconst (pc' := 35) 3 dm4_34 rfl rfl ?_
  refine Go.icmpT (pc' := 50) dm4_35 (show ¬ ((4 : Int32) = (3 : Int32)) by decide) (by decide) (by decide) ?_
  refine Go.iloadN (pc' := 51) dm4_50 rfl rfl ?_
  refine Go.iconst (pc' := 52) 4 dm4_51 rfl rfl ?_
  refine Go.icmpT (pc' := 60) dm4_52 (show (4 : Int32) = (4 : Int32) by decide) (by decide) (by decide) ?_
  refine Go.iloadN (pc' := 61) dm4_60 rfl rfl ?_
  refine Go.ifF (pc' := 64) dm4_61 (show ¬ ((1 : Int32) = (0 : Int32)) by decide) rfl ?_
  refine Go.ldcR (pc' := 66) (a1 := a0) 36 (vs := [.int 68, .int 97, .int 116, .int 101, .int 84, .int 105, .int 109, .int 101, .int 63]) (z := 9) dm4_64 rfl (wd hw 381 rfl) (own_ws hw) (by decide) (by decide) (by decide) (by decide) rfl (own_ew hw) (List.mem_of_getElem? (i := 27) rfl) ⟨by decide, by decide⟩ (by decide) (by decide) (fun a_1 h_2 b_3 k_4 E_5 X_6 F_7 F_8 A_9 ne_10 => ?_)
  have szh_2 := nle E_5.1
  have lta_1 := nlt X_6.lt
  have ltb_3 := nlt A_9.lt
  have T_11 : Str Z h_2 a_1 b_3 [68, 97, 116, 101, 84, 105, 109, 101, 63] := ⟨X_6, F_7, F_8, k_4, A_9⟩
  refine Go.goto (pc' := 71) dm4_66 (by decide) (by decide) ?_
  refine Go.retA rfl rfl rfl [] sl0 dm4_71 (by decide) (by decide) ?_
  exact ⟨a_1, b_3, rfl, (Keep.ext (Keep.refl _ []) E_5), T_11⟩
theorem ct_expType_5_0 (l : Launch) (Z : State) (a0 : Array Value) (hw : ∀ d ∈ tables_1, d.before a0 Z = true) (n0 : Nat) (h0 : Heap)  :
    Ct l Z (⟨"dev/typewright/dart/DartFormOfPinLaw", "expType", "(IZ)Ljava/lang/String;"⟩ : MethodName) method_4_code 2 (some (.object "java/lang/String")) ({ frames := 0, cells := 2, slots := 36, locals := 0 } : Room) EL1 n0 true [] #[(.int (5 : Int32)), (.int (0 : Int32))] h0 [] (fun v h N => ∃ s b, v = some (.ref s) ∧ Keep h0 h [] ∧ Str Z h s b [68, 97, 116, 101, 84, 105, 109, 101]) := by
  refine Ct.of (a0 := a0) (plainFor_of_name pn_dev_typewright_dart_DartFormOfPinLaw) (own_ew hw) (L0 := #[.val (.int (5 : Int32)), .val (.int (0 : Int32))]) (fun _ => rfl) ?_
  refine Go.iloadN (pc' := 1) dm4_0 rfl rfl ?_
  refine Go.ifT (pc' := 16) dm4_1 (show ¬ ((5 : Int32) = (0 : Int32)) by decide) (by decide) (by decide) ?_
  refine Go.iloadN (pc' := 17) dm4_16 rfl rfl ?_
  refine Go.iconst (pc' := 18) 1 dm4_17 rfl rfl ?_
  refine Go.icmpT (pc' := 33) dm4_18 (show ¬ ((5 : Int32) = (1 : Int32)) by decide) (by decide) (by decide) ?_
  refine Go.iloadN (pc' := 34) dm4_33 rfl rfl ?_
  refine Go.iconst (pc' := 35) 3 dm4_34 rfl rfl ?_
  refine Go.icmpT (pc' := 50) dm4_35 (show ¬ ((5 : Int32) = (3 : Int32)) by decide) (by decide) (by decide) ?_
  refine Go.iloadN (pc' := 51) dm4_50 rfl rfl ?_
  refine Go.iconst (pc' := 52) 4 dm4_51 rfl rfl ?_
  refine Go.icmpF (pc' := 55) dm4_52 (show ¬ ((5 : Int32) = (4 : Int32)) by decide) rfl ?_
  refine Go.iloadN (pc' := 56) dm4_55 rfl rfl ?_
  refine Go.iconst (pc' := 57) 5 dm4_56 rfl rfl ?_
  refine Go.icmpF (pc' := 60) dm4_57 (show (5 : Int32) = (5 : Int32) by decide) rfl ?_
  refine Go.iloadN (pc' := 61) dm4_60 rfl rfl ?_
  refine Go.ifT (pc' := 69) dm4_61 (show (0 : Int32) = (0 : Int32) by decide) (by decide) (by decide) ?_
  refine Go.ldcR (pc' := 71) (a1 := a0) 32 (vs := [.int 68, .int 97, .int 116, .int 101, .int 84, .int 105, .int 109, .int 101]) (z := 8) dm4_69 rfl (wd hw 337 rfl) (own_ws hw) (by decide) (by decide) (by decide) (by decide) rfl (own_ew hw) (List.mem_of_getElem? (i := 28) rfl) ⟨by decide, by decide⟩ (by decide) (by decide) (fun a_1 h_2 b_3 k_4 E_5 X_6 F_7 F_8 A_9 ne_10 => ?_)
  have szh_2 := nle E_5.1
  have lta_1 := nlt X_6.lt
  have ltb_3 := nlt A_9.lt
  have T_11 : Str Z h_2 a_1 b_3 [68, 97, 116, 101, 84, 105, 109, 101] := ⟨X_6, F_7, F_8, k_4, A_9⟩
  refine Go.retA rfl rfl rfl [] sl0 dm4_71 (by decide) (by decide) ?_
  exact ⟨a_1, b_3, rfl, (Keep.ext (Keep.refl _ []) E_5), T_11⟩
theorem ct_expType_5_1 (l : Launch) (Z : State) (a0 : Array Value) (hw : ∀ d ∈ tables_1, d.before a0 Z = true) (n0 : Nat) (h0 : Heap)  :
    Ct l Z (⟨"dev/typewright/dart/DartFormOfPinLaw", "expType", "(IZ)Ljava/lang/String;"⟩ : MethodName) method_4_code 2 (some (.object "java/lang/String")) ({ frames := 0, cells := 2, slots := 40, locals := 0 } : Room) EL1 n0 true [] #[(.int (5 : Int32)), (.int (1 : Int32))] h0 [] (fun v h N => ∃ s b, v = some (.ref s) ∧ Keep h0 h [] ∧ Str Z h s b [68, 97, 116, 101, 84, 105, 109, 101, 63]) := by
  refine Ct.of (a0 := a0) (plainFor_of_name pn_dev_typewright_dart_DartFormOfPinLaw) (own_ew hw) (L0 := #[.val (.int (5 : Int32)), .val (.int (1 : Int32))]) (fun _ => rfl) ?_
  refine Go.iloadN (pc' := 1) dm4_0 rfl rfl ?_
  refine Go.ifT (pc' := 16) dm4_1 (show ¬ ((5 : Int32) = (0 : Int32)) by decide) (by decide) (by decide) ?_
  refine Go.iloadN (pc' := 17) dm4_16 rfl rfl ?_
  refine Go.iconst (pc' := 18) 1 dm4_17 rfl rfl ?_
  refine Go.icmpT (pc' := 33) dm4_18 (show ¬ ((5 : Int32) = (1 : Int32)) by decide) (by decide) (by decide) ?_
  refine Go.iloadN (pc' := 34) dm4_33 rfl rfl ?_
  refine Go.iconst (pc' := 35) 3 dm4_34 rfl rfl ?_
  refine Go.icmpT (pc' := 50) dm4_35 (show ¬ ((5 : Int32) = (3 : Int32)) by decide) (by decide) (by decide) ?_
  refine Go.iloadN (pc' := 51) dm4_50 rfl rfl ?_
  refine Go.iconst (pc' := 52) 4 dm4_51 rfl rfl ?_
  refine Go.icmpF (pc' := 55) dm4_52 (show ¬ ((5 : Int32) = (4 : Int32)) by decide) rfl ?_
  refine Go.iloadN (pc' := 56) dm4_55 rfl rfl ?_
  refine Go.iconst (pc' := 57) 5 dm4_56 rfl rfl ?_
  refine Go.icmpF (pc' := 60) dm4_57 (show (5 : Int32) = (5 : Int32) by decide) rfl ?_
  refine Go.iloadN (pc' := 61) dm4_60 rfl rfl ?_
  refine Go.ifF (pc' := 64) dm4_61 (show ¬ ((1 : Int32) = (0 : Int32)) by decide) rfl ?_
  refine Go.ldcR (pc' := 66) (a1 := a0) 36 (vs := [.int 68, .int 97, .int 116, .int 101, .int 84, .int 105, .int 109, .int 101, .int 63]) (z := 9) dm4_64 rfl (wd hw 381 rfl) (own_ws hw) (by decide) (by decide) (by decide) (by decide) rfl (own_ew hw) (List.mem_of_getElem? (i := 27) rfl) ⟨by decide, by decide⟩ (by decide) (by decide) (fun a_1 h_2 b_3 k_4 E_5 X_6 F_7 F_8 A_9 ne_10 => ?_)
  have szh_2 := nle E_5.1
  have lta_1 := nlt X_6.lt
  have ltb_3 := nlt A_9.lt
  have T_11 : Str Z h_2 a_1 b_3 [68, 97, 116, 101, 84, 105, 109, 101, 63] := ⟨X_6, F_7, F_8, k_4, A_9⟩
  refine Go.goto (pc' := 71) dm4_66 (by decide) (by decide) ?_
  refine Go.retA rfl rfl rfl [] sl0 dm4_71 (by decide) (by decide) ?_
  exact ⟨a_1, b_3, rfl, (Keep.ext (Keep.refl _ []) E_5), T_11⟩
theorem ct_expType_6_0 (l : Launch) (Z : State) (a0 : Array Value) (hw : ∀ d ∈ tables_1, d.before a0 Z = true) (n0 : Nat) (h0 : Heap)  :
    Ct l Z (⟨"dev/typewright/dart/DartFormOfPinLaw", "expType", "(IZ)Ljava/lang/String;"⟩ : MethodName) method_4_code 2 (some (.object "java/lang/String")) ({ frames := 0, cells := 2, slots := 28, locals := 0 } : Room) EL1 n0 true [] #[(.int (6 : Int32)), (.int (0 : Int32))] h0 [] (fun v h N => ∃ s b, v = some (.ref s) ∧ Keep h0 h [] ∧ Str Z h s b [83, 116, 114, 105, 110, 103]) := by
  refine Ct.of (a0 := a0) (plainFor_of_name pn_dev_typewright_dart_DartFormOfPinLaw) (own_ew hw) (L0 := #[.val (.int (6 : Int32)), .val (.int (0 : Int32))]) (fun _ => rfl) ?_
  refine Go.iloadN (pc' := 1) dm4_0 rfl rfl ?_
  refine Go.ifT (pc' := 16) dm4_1 (show ¬ ((6 : Int32) = (0 : Int32)) by decide) (by decide) (by decide) ?_
  refine Go.iloadN (pc' := 17) dm4_16 rfl rfl ?_
  refine Go.iconst (pc' := 18) 1 dm4_17 rfl rfl ?_
  refine Go.icmpT (pc' := 33) dm4_18 (show ¬ ((6 : Int32) = (1 : Int32)) by decide) (by decide) (by decide) ?_
  refine Go.iloadN (pc' := 34) dm4_33 rfl rfl ?_
  refine Go.iconst (pc' := 35) 3 dm4_34 rfl rfl ?_
  refine Go.icmpT (pc' := 50) dm4_35 (show ¬ ((6 : Int32) = (3 : Int32)) by decide) (by decide) (by decide) ?_
  refine Go.iloadN (pc' := 51) dm4_50 rfl rfl ?_
  refine Go.iconst (pc' := 52) 4 dm4_51 rfl rfl ?_
  refine Go.icmpF (pc' := 55) dm4_52 (show ¬ ((6 : Int32) = (4 : Int32)) by decide) rfl ?_
  refine Go.iloadN (pc' := 56) dm4_55 rfl rfl ?_
  refine Go.iconst (pc' := 57) 5 dm4_56 rfl rfl ?_
  refine Go.icmpT (pc' := 72) dm4_57 (show ¬ ((6 : Int32) = (5 : Int32)) by decide) (by decide) (by decide) ?_
  refine Go.iloadN (pc' := 73) dm4_72 rfl rfl ?_
  refine Go.ifT (pc' := 81) dm4_73 (show (0 : Int32) = (0 : Int32) by decide) (by decide) (by decide) ?_
  refine Go.ldcR (pc' := 83) (a1 := a0) 24 (vs := [.int 83, .int 116, .int 114, .int 105, .int 110, .int 103]) (z := 6) dm4_81 rfl (wd hw 376 rfl) (own_ws hw) (by decide) (by decide) (by decide) (by decide) rfl (own_ew hw) (List.mem_of_getElem? (i := 30) rfl) ⟨by decide, by decide⟩ (by decide) (by decide) (fun a_1 h_2 b_3 k_4 E_5 X_6 F_7 F_8 A_9 ne_10 => ?_)
  have szh_2 := nle E_5.1
  have lta_1 := nlt X_6.lt
  have ltb_3 := nlt A_9.lt
  have T_11 : Str Z h_2 a_1 b_3 [83, 116, 114, 105, 110, 103] := ⟨X_6, F_7, F_8, k_4, A_9⟩
  refine Go.retA rfl rfl rfl [] sl0 dm4_83 (by decide) (by decide) ?_
  exact ⟨a_1, b_3, rfl, (Keep.ext (Keep.refl _ []) E_5), T_11⟩
theorem ct_expType_6_1 (l : Launch) (Z : State) (a0 : Array Value) (hw : ∀ d ∈ tables_1, d.before a0 Z = true) (n0 : Nat) (h0 : Heap)  :
    Ct l Z (⟨"dev/typewright/dart/DartFormOfPinLaw", "expType", "(IZ)Ljava/lang/String;"⟩ : MethodName) method_4_code 2 (some (.object "java/lang/String")) ({ frames := 0, cells := 2, slots := 32, locals := 0 } : Room) EL1 n0 true [] #[(.int (6 : Int32)), (.int (1 : Int32))] h0 [] (fun v h N => ∃ s b, v = some (.ref s) ∧ Keep h0 h [] ∧ Str Z h s b [83, 116, 114, 105, 110, 103, 63]) := by
  refine Ct.of (a0 := a0) (plainFor_of_name pn_dev_typewright_dart_DartFormOfPinLaw) (own_ew hw) (L0 := #[.val (.int (6 : Int32)), .val (.int (1 : Int32))]) (fun _ => rfl) ?_
  refine Go.iloadN (pc' := 1) dm4_0 rfl rfl ?_
  refine Go.ifT (pc' := 16) dm4_1 (show ¬ ((6 : Int32) = (0 : Int32)) by decide) (by decide) (by decide) ?_
  refine Go.iloadN (pc' := 17) dm4_16 rfl rfl ?_
  refine Go.iconst (pc' := 18) 1 dm4_17 rfl rfl ?_
  refine Go.icmpT (pc' := 33) dm4_18 (show ¬ ((6 : Int32) = (1 : Int32)) by decide) (by decide) (by decide) ?_
  refine Go.iloadN (pc' := 34) dm4_33 rfl rfl ?_
  refine Go.iconst (pc' := 35) 3 dm4_34 rfl rfl ?_
  refine Go.icmpT (pc' := 50) dm4_35 (show ¬ ((6 : Int32) = (3 : Int32)) by decide) (by decide) (by decide) ?_
  refine Go.iloadN (pc' := 51) dm4_50 rfl rfl ?_
  refine Go.iconst (pc' := 52) 4 dm4_51 rfl rfl ?_
  refine Go.icmpF (pc' := 55) dm4_52 (show ¬ ((6 : Int32) = (4 : Int32)) by decide) rfl ?_
  refine Go.iloadN (pc' := 56) dm4_55 rfl rfl ?_
  refine Go.iconst (pc' := 57) 5 dm4_56 rfl rfl ?_
  refine Go.icmpT (pc' := 72) dm4_57 (show ¬ ((6 : Int32) = (5 : Int32)) by decide) (by decide) (by decide) ?_
  refine Go.iloadN (pc' := 73) dm4_72 rfl rfl ?_
  refine Go.ifF (pc' := 76) dm4_73 (show ¬ ((1 : Int32) = (0 : Int32)) by decide) rfl ?_
  refine Go.ldcR (pc' := 78) (a1 := a0) 28 (vs := [.int 83, .int 116, .int 114, .int 105, .int 110, .int 103, .int 63]) (z := 7) dm4_76 rfl (wd hw 400 rfl) (own_ws hw) (by decide) (by decide) (by decide) (by decide) rfl (own_ew hw) (List.mem_of_getElem? (i := 29) rfl) ⟨by decide, by decide⟩ (by decide) (by decide) (fun a_1 h_2 b_3 k_4 E_5 X_6 F_7 F_8 A_9 ne_10 => ?_)
  have szh_2 := nle E_5.1
  have lta_1 := nlt X_6.lt
  have ltb_3 := nlt A_9.lt
  have T_11 : Str Z h_2 a_1 b_3 [83, 116, 114, 105, 110, 103, 63] := ⟨X_6, F_7, F_8, k_4, A_9⟩
  refine Go.goto (pc' := 83) dm4_78 (by decide) (by decide) ?_
  refine Go.retA rfl rfl rfl [] sl0 dm4_83 (by decide) (by decide) ?_
  exact ⟨a_1, b_3, rfl, (Keep.ext (Keep.refl _ []) E_5), T_11⟩
theorem dm5_0 : decode method_5_code 0 = .ok (.iload_n 0, 1) := by decide +kernel
theorem dm5_1 : decode method_5_code 1 = .ok (.ifCond .ne 15, 3) := by decide +kernel
theorem dm5_4 : decode method_5_code 4 = .ok (.iload_n 1, 1) := by decide +kernel
theorem dm5_5 : decode method_5_code 5 = .ok (.ifCond .eq 8, 3) := by decide +kernel
theorem dm5_13 : decode method_5_code 13 = .ok (.ldc 112, 2) := by decide +kernel
theorem dm5_15 : decode method_5_code 15 = .ok (.areturn, 1) := by decide +kernel
theorem ct_expFromJson_0_0 (l : Launch) (Z : State) (a0 : Array Value) (hw : ∀ d ∈ tables_1, d.before a0 Z = true) (n0 : Nat) (h0 : Heap)  :
    Ct l Z (⟨"dev/typewright/dart/DartFormOfPinLaw", "expFromJson", "(IZ)Ljava/lang/String;"⟩ : MethodName) method_5_code 2 (some (.object "java/lang/String")) ({ frames := 0, cells := 2, slots := 36, locals := 0 } : Room) EL1 n0 true [] #[(.int (0 : Int32)), (.int (0 : Int32))] h0 [] (fun v h N => ∃ s b, v = some (.ref s) ∧ Keep h0 h [] ∧ Str Z h s b [106, 32, 97, 115, 32, 105, 110, 116]) := by
  refine Ct.of (a0 := a0) (plainFor_of_name pn_dev_typewright_dart_DartFormOfPinLaw) (own_ew hw) (L0 := #[.val (.int (0 : Int32)), .val (.int (0 : Int32))]) (fun _ => rfl) ?_
  refine Go.iloadN (pc' := 1) dm5_0 rfl rfl ?_
  refine Go.ifF (pc' := 4) dm5_1 (show (0 : Int32) = (0 : Int32) by decide) rfl ?_
  refine Go.iloadN (pc' := 5) dm5_4 rfl rfl ?_
  refine Go.ifT (pc' := 13) dm5_5 (show (0 : Int32) = (0 : Int32) by decide) (by decide) (by decide) ?_
  refine Go.ldcR (pc' := 15) (a1 := a0) 32 (vs := [.int 106, .int 32, .int 97, .int 115, .int 32, .int 105, .int 110, .int 116]) (z := 8) dm5_13 rfl (wd hw 395 rfl) (own_ws hw) (by decide) (by decide) (by decide) (by decide) rfl (own_ew hw) (List.mem_of_getElem? (i := 32) rfl) ⟨by decide, by decide⟩ (by decide) (by decide) (fun a_1 h_2 b_3 k_4 E_5 X_6 F_7 F_8 A_9 ne_10 => ?_)
  have szh_2 := nle E_5.1
  have lta_1 := nlt X_6.lt
  have ltb_3 := nlt A_9.lt
  have T_11 : Str Z h_2 a_1 b_3 [106, 32, 97, 115, 32, 105, 110, 116] := ⟨X_6, F_7, F_8, k_4, A_9⟩
  refine Go.retA rfl rfl rfl [] sl0 dm5_15 (by decide) (by decide) ?_
  exact ⟨a_1, b_3, rfl, (Keep.ext (Keep.refl _ []) E_5), T_11⟩
theorem dm5_8 : decode method_5_code 8 = .ok (.ldc 110, 2) := by decide +kernel
theorem dm5_10 : decode method_5_code 10 = .ok (.goto 5, 3) := by decide +kernel
theorem ct_expFromJson_0_1 (l : Launch) (Z : State) (a0 : Array Value) (hw : ∀ d ∈ tables_1, d.before a0 Z = true) (n0 : Nat) (h0 : Heap)  :
    Ct l Z (⟨"dev/typewright/dart/DartFormOfPinLaw", "expFromJson", "(IZ)Ljava/lang/String;"⟩ : MethodName) method_5_code 2 (some (.object "java/lang/String")) ({ frames := 0, cells := 2, slots := 40, locals := 0 } : Room) EL1 n0 true [] #[(.int (0 : Int32)), (.int (1 : Int32))] h0 [] (fun v h N => ∃ s b, v = some (.ref s) ∧ Keep h0 h [] ∧ Str Z h s b [106, 32, 97, 115, 32, 105, 110, 116, 63]) := by
  refine Ct.of (a0 := a0) (plainFor_of_name pn_dev_typewright_dart_DartFormOfPinLaw) (own_ew hw) (L0 := #[.val (.int (0 : Int32)), .val (.int (1 : Int32))]) (fun _ => rfl) ?_
  refine Go.iloadN (pc' := 1) dm5_0 rfl rfl ?_
  refine Go.ifF (pc' := 4) dm5_1 (show (0 : Int32) = (0 : Int32) by decide) rfl ?_
  refine Go.iloadN (pc' := 5) dm5_4 rfl rfl ?_
  refine Go.ifF (pc' := 8) dm5_5 (show ¬ ((1 : Int32) = (0 : Int32)) by decide) rfl ?_
  refine Go.ldcR (pc' := 10) (a1 := a0) 36 (vs := [.int 106, .int 32, .int 97, .int 115, .int 32, .int 105, .int 110, .int 116, .int 63]) (z := 9) dm5_8 rfl (wd hw 210 rfl) (own_ws hw) (by decide) (by decide) (by decide) (by decide) rfl (own_ew hw) (List.mem_of_getElem? (i := 31) rfl) ⟨by decide, by decide⟩ (by decide) (by decide) (fun a_1 h_2 b_3 k_4 E_5 X_6 F_7 F_8 A_9 ne_10 => ?_)
  have szh_2 := nle E_5.1
  have lta_1 := nlt X_6.lt
  have ltb_3 := nlt A_9.lt
  have T_11 : Str Z h_2 a_1 b_3 [106, 32, 97, 115, 32, 105, 110, 116, 63] := ⟨X_6, F_7, F_8, k_4, A_9⟩
  refine Go.goto (pc' := 15) dm5_10 (by decide) (by decide) ?_
  refine Go.retA rfl rfl rfl [] sl0 dm5_15 (by decide) (by decide) ?_
  exact ⟨a_1, b_3, rfl, (Keep.ext (Keep.refl _ []) E_5), T_11⟩
theorem dm5_16 : decode method_5_code 16 = .ok (.iload_n 0, 1) := by decide +kernel
theorem dm5_17 : decode method_5_code 17 = .ok (.iconst 1, 1) := by decide +kernel
theorem dm5_18 : decode method_5_code 18 = .ok (.if_icmp .ne 15, 3) := by decide +kernel
theorem dm5_21 : decode method_5_code 21 = .ok (.iload_n 1, 1) := by decide +kernel
theorem dm5_22 : decode method_5_code 22 = .ok (.ifCond .eq 8, 3) := by decide +kernel
theorem dm5_30 : decode method_5_code 30 = .ok (.ldc 116, 2) := by decide +kernel
theorem dm5_32 : decode method_5_code 32 = .ok (.areturn, 1) := by decide +kernel
theorem ct_expFromJson_1_0 (l : Launch) (Z : State) (a0 : Array Value) (hw : ∀ d ∈ tables_1, d.before a0 Z = true) (n0 : Nat) (h0 : Heap)  :
    Ct l Z (⟨"dev/typewright/dart/DartFormOfPinLaw", "expFromJson", "(IZ)Ljava/lang/String;"⟩ : MethodName) method_5_code 2 (some (.object "java/lang/String")) ({ frames := 0, cells := 2, slots := 88, locals := 0 } : Room) EL1 n0 true [] #[(.int (1 : Int32)), (.int (0 : Int32))] h0 [] (fun v h N => ∃ s b, v = some (.ref s) ∧ Keep h0 h [] ∧ Str Z h s b [40, 106, 32, 97, 115, 32, 110, 117, 109, 41, 46, 116, 111, 68, 111, 117, 98, 108, 101, 40, 41]) := by
  refine Ct.of (a0 := a0) (plainFor_of_name pn_dev_typewright_dart_DartFormOfPinLaw) (own_ew hw) (L0 := #[.val (.int (1 : Int32)), .val (.int (0 : Int32))]) (fun _ => rfl) ?_
  refine Go.iloadN (pc' := 1) dm5_0 rfl rfl ?_
  refine Go.ifT (pc' := 16) dm5_1 (show ¬ ((1 : Int32) = (0 : Int32)) by decide) (by decide) (by decide) ?_
  refine Go.iloadN (pc' := 17) dm5_16 rfl rfl ?_
  refine Go.iconst (pc' := 18) 1 dm5_17 rfl rfl ?_
  refine Go.icmpF (pc' := 21) dm5_18 (show (1 : Int32) = (1 : Int32) by decide) rfl ?_
  refine Go.iloadN (pc' := 22) dm5_21 rfl rfl ?_
  refine Go.ifT (pc' := 30) dm5_22 (show (0 : Int32) = (0 : Int32) by decide) (by decide) (by decide) ?_
  refine Go.ldcR (pc' := 32) (a1 := a0) 84 (vs := [.int 40, .int 106, .int 32, .int 97, .int 115, .int 32, .int 110, .int 117, .int 109, .int 41, .int 46, .int 116, .int 111, .int 68, .int 111, .int 117, .int 98, .int 108, .int 101, .int 40, .int 41]) (z := 21) dm5_30 rfl (wd hw 298 rfl) (own_ws hw) (by decide) (by decide) (by decide) (by decide) rfl (own_ew hw) (List.mem_of_getElem? (i := 34) rfl) ⟨by decide, by decide⟩ (by decide) (by decide) (fun a_1 h_2 b_3 k_4 E_5 X_6 F_7 F_8 A_9 ne_10 => ?_)
  have szh_2 := nle E_5.1
  have lta_1 := nlt X_6.lt
  have ltb_3 := nlt A_9.lt
  have T_11 : Str Z h_2 a_1 b_3 [40, 106, 32, 97, 115, 32, 110, 117, 109, 41, 46, 116, 111, 68, 111, 117, 98, 108, 101, 40, 41] := ⟨X_6, F_7, F_8, k_4, A_9⟩
  refine Go.retA rfl rfl rfl [] sl0 dm5_32 (by decide) (by decide) ?_
  exact ⟨a_1, b_3, rfl, (Keep.ext (Keep.refl _ []) E_5), T_11⟩
theorem dm5_25 : decode method_5_code 25 = .ok (.ldc 114, 2) := by decide +kernel
theorem dm5_27 : decode method_5_code 27 = .ok (.goto 5, 3) := by decide +kernel
theorem ct_expFromJson_1_1 (l : Launch) (Z : State) (a0 : Array Value) (hw : ∀ d ∈ tables_1, d.before a0 Z = true) (n0 : Nat) (h0 : Heap)  :
    Ct l Z (⟨"dev/typewright/dart/DartFormOfPinLaw", "expFromJson", "(IZ)Ljava/lang/String;"⟩ : MethodName) method_5_code 2 (some (.object "java/lang/String")) ({ frames := 0, cells := 2, slots := 96, locals := 0 } : Room) EL1 n0 true [] #[(.int (1 : Int32)), (.int (1 : Int32))] h0 [] (fun v h N => ∃ s b, v = some (.ref s) ∧ Keep h0 h [] ∧ Str Z h s b [40, 106, 32, 97, 115, 32, 110, 117, 109, 63, 41, 63, 46, 116, 111, 68, 111, 117, 98, 108, 101, 40, 41]) := by
  refine Ct.of (a0 := a0) (plainFor_of_name pn_dev_typewright_dart_DartFormOfPinLaw) (own_ew hw) (L0 := #[.val (.int (1 : Int32)), .val (.int (1 : Int32))]) (fun _ => rfl) ?_
  refine Go.iloadN (pc' := 1) dm5_0 rfl rfl ?_
  refine Go.ifT (pc' := 16) dm5_1 (show ¬ ((1 : Int32) = (0 : Int32)) by decide) (by decide) (by decide) ?_
  refine Go.iloadN (pc' := 17) dm5_16 rfl rfl ?_
  refine Go.iconst (pc' := 18) 1 dm5_17 rfl rfl ?_
  refine Go.icmpF (pc' := 21) dm5_18 (show (1 : Int32) = (1 : Int32) by decide) rfl ?_
  refine Go.iloadN (pc' := 22) dm5_21 rfl rfl ?_
  refine Go.ifF (pc' := 25) dm5_22 (show ¬ ((1 : Int32) = (0 : Int32)) by decide) rfl ?_
  refine Go.ldcR (pc' := 27) (a1 := a0) 92 (vs := [.int 40, .int 106, .int 32, .int 97, .int 115, .int 32, .int 110, .int 117, .int 109, .int 63, .int 41, .int 63, .int 46, .int 116, .int 111, .int 68, .int 111, .int 117, .int 98, .int 108, .int 101, .int 40, .int 41]) (z := 23) dm5_25 rfl (wd hw 391 rfl) (own_ws hw) (by decide) (by decide) (by decide) (by decide) rfl (own_ew hw) (List.mem_of_getElem? (i := 33) rfl) ⟨by decide, by decide⟩ (by decide) (by decide) (fun a_1 h_2 b_3 k_4 E_5 X_6 F_7 F_8 A_9 ne_10 => ?_)
  have szh_2 := nle E_5.1
  have lta_1 := nlt X_6.lt
  have ltb_3 := nlt A_9.lt
  have T_11 : Str Z h_2 a_1 b_3 [40, 106, 32, 97, 115, 32, 110, 117, 109, 63, 41, 63, 46, 116, 111, 68, 111, 117, 98, 108, 101, 40, 41] := ⟨X_6, F_7, F_8, k_4, A_9⟩
  refine Go.goto (pc' := 32) dm5_27 (by decide) (by decide) ?_
  refine Go.retA rfl rfl rfl [] sl0 dm5_32 (by decide) (by decide) ?_
  exact ⟨a_1, b_3, rfl, (Keep.ext (Keep.refl _ []) E_5), T_11⟩
theorem dm5_33 : decode method_5_code 33 = .ok (.iload_n 0, 1) := by decide +kernel
theorem dm5_34 : decode method_5_code 34 = .ok (.iconst 3, 1) := by decide +kernel
theorem dm5_35 : decode method_5_code 35 = .ok (.if_icmp .ne 15, 3) := by decide +kernel
theorem dm5_50 : decode method_5_code 50 = .ok (.iload_n 0, 1) := by decide +kernel
theorem dm5_51 : decode method_5_code 51 = .ok (.iconst 4, 1) := by decide +kernel
theorem dm5_52 : decode method_5_code 52 = .ok (.if_icmp .eq 8, 3) := by decide +kernel
theorem dm5_55 : decode method_5_code 55 = .ok (.iload_n 0, 1) := by decide +kernel
theorem dm5_56 : decode method_5_code 56 = .ok (.iconst 5, 1) := by decide +kernel
theorem dm5_57 : decode method_5_code 57 = .ok (.if_icmp .ne 15, 3) := by decide +kernel
theorem dm5_72 : decode method_5_code 72 = .ok (.iload_n 1, 1) := by decide +kernel
theorem dm5_73 : decode method_5_code 73 = .ok (.ifCond .eq 8, 3) := by decide +kernel
theorem dm5_81 : decode method_5_code 81 = .ok (.ldc 128, 2) := by decide +kernel
theorem dm5_83 : decode method_5_code 83 = .ok (.areturn, 1) := by decide +kernel
theorem ct_expFromJson_2_0 (l : Launch) (Z : State) (a0 : Array Value) (hw : ∀ d ∈ tables_1, d.before a0 Z = true) (n0 : Nat) (h0 : Heap)  :
    Ct l Z (⟨"dev/typewright/dart/DartFormOfPinLaw", "expFromJson", "(IZ)Ljava/lang/String;"⟩ : MethodName) method_5_code 2 (some (.object "java/lang/String")) ({ frames := 0, cells := 2, slots := 48, locals := 0 } : Room) EL1 n0 true [] #[(.int (2 : Int32)), (.int (0 : Int32))] h0 [] (fun v h N => ∃ s b, v = some (.ref s) ∧ Keep h0 h [] ∧ Str Z h s b [106, 32, 97, 115, 32, 83, 116, 114, 105, 110, 103]) := by
  refine Ct.of (a0 := a0) (plainFor_of_name pn_dev_typewright_dart_DartFormOfPinLaw) (own_ew hw) (L0 := #[.val (.int (2 : Int32)), .val (.int (0 : Int32))]) (fun _ => rfl) ?_
  refine Go.iloadN (pc' := 1) dm5_0 rfl rfl ?_
  refine Go.ifT (pc' := 16) dm5_1 (show ¬ ((2 : Int32) = (0 : Int32)) by decide) (by decide) (by decide) ?_
  refine Go.iloadN (pc' := 17) dm5_16 rfl rfl ?_
  refine Go.iconst (pc' := 18) 1 dm5_17 rfl rfl ?_
  refine Go.icmpT (pc' := 33) dm5_18 (show ¬ ((2 : Int32) = (1 : Int32)) by decide) (by decide) (by decide) ?_
  refine Go.iloadN (pc' := 34) dm5_33 rfl rfl ?_
  refine Go.iconst (pc' := 35) 3 dm5_34 rfl rfl ?_
  refine Go.icmpT (pc' := 50) dm5_35 (show ¬ ((2 : Int32) = (3 : Int32)) by decide) (by decide) (by decide) ?_
  refine Go.iloadN (pc' := 51) dm5_50 rfl rfl ?_
  refine Go.iconst (pc' := 52) 4 dm5_51 rfl rfl ?_
  refine Go.icmpF (pc' := 55) dm5_52 (show ¬ ((2 : Int32) = (4 : Int32)) by decide) rfl ?_
  refine Go.iloadN (pc' := 56) dm5_55 rfl rfl ?_
  refine Go.iconst (pc' := 57) 5 dm5_56 rfl rfl ?_
  refine Go.icmpT (pc' := 72) dm5_57 (show ¬ ((2 : Int32) = (5 : Int32)) by decide) (by decide) (by decide) ?_
  refine Go.iloadN (pc' := 73) dm5_72 rfl rfl ?_
  refine Go.ifT (pc' := 81) dm5_73 (show (0 : Int32) = (0 : Int32) by decide) (by decide) (by decide) ?_
  refine Go.ldcR (pc' := 83) (a1 := a0) 44 (vs := [.int 106, .int 32, .int 97, .int 115, .int 32, .int 83, .int 116, .int 114, .int 105, .int 110, .int 103]) (z := 11) dm5_81 rfl (wd hw 388 rfl) (own_ws hw) (by decide) (by decide) (by decide) (by decide) rfl (own_ew hw) (List.mem_of_getElem? (i := 40) rfl) ⟨by decide, by decide⟩ (by decide) (by decide) (fun a_1 h_2 b_3 k_4 E_5 X_6 F_7 F_8 A_9 ne_10 => ?_)
  have szh_2 := nle E_5.1
  have lta_1 := nlt X_6.lt
  have ltb_3 := nlt A_9.lt
  have T_11 : Str Z h_2 a_1 b_3 [106, 32, 97, 115, 32, 83, 116, 114, 105, 110, 103] := ⟨X_6, F_7, F_8, k_4, A_9⟩
  refine Go.retA rfl rfl rfl [] sl0 dm5_83 (by decide) (by decide) ?_
  exact ⟨a_1, b_3, rfl, (Keep.ext (Keep.refl _ []) E_5), T_11⟩
theorem dm5_76 : decode method_5_code 76 = .ok (.ldc 126, 2) := by decide +kernel
theorem dm5_78 : decode method_5_code 78 = .ok (.goto 5, 3) := by decide +kernel
theorem ct_expFromJson_2_1 (l : Launch) (Z : State) (a0 : Array Value) (hw : ∀ d ∈ tables_1, d.before a0 Z = true) (n0 : Nat) (h0 : Heap)  :
    Ct l Z (⟨"dev/typewright/dart/DartFormOfPinLaw", "expFromJson", "(IZ)Ljava/lang/String;"⟩ : MethodName) method_5_code 2 (some (.object "java/lang/String")) ({ frames := 0, cells := 2, slots := 52, locals := 0 } : Room) EL1 n0 true [] #[(.int (2 : Int32)), (.int (1 : Int32))] h0 [] (fun v h N => ∃ s b, v = some (.ref s) ∧ Keep h0 h [] ∧ Str Z h s b [106, 32, 97, 115, 32, 83, 116, 114, 105, 110, 103, 63]) := by
  refine Ct.of (a0 := a0) (plainFor_of_name pn_dev_typewright_dart_DartFormOfPinLaw) (own_ew hw) (L0 := #[.val (.int (2 : Int32)), .val (.int (1 : Int32))]) (fun _ => rfl) ?_
  refine Go.iloadN (pc' := 1) dm5_0 rfl rfl ?_
  refine Go.ifT (pc' := 16) dm5_1 (show ¬ ((2 : Int32) = (0 : Int32)) by decide) (by decide) (by decide) ?_
  refine Go.iloadN (pc' := 17) dm5_16 rfl rfl ?_
  refine Go.iconst (pc' := 18) 1 dm5_17 rfl rfl ?_
  refine Go.icmpT (pc' := 33) dm5_18 (show ¬ ((2 : Int32) = (1 : Int32)) by decide) (by decide) (by decide) ?_
  refine Go.iloadN (pc' := 34) dm5_33 rfl rfl ?_
  refine Go.iconst (pc' := 35) 3 dm5_34 rfl rfl ?_
  refine Go.icmpT (pc' := 50) dm5_35 (show ¬ ((2 : Int32) = (3 : Int32)) by decide) (by decide) (by decide) ?_
  refine Go.iloadN (pc' := 51) dm5_50 rfl rfl ?_
  refine Go.iconst (pc' := 52) 4 dm5_51 rfl rfl ?_
  refine Go.icmpF (pc' := 55) dm5_52 (show ¬ ((2 : Int32) = (4 : Int32)) by decide) rfl ?_
  refine Go.iloadN (pc' := 56) dm5_55 rfl rfl ?_
  refine Go.iconst (pc' := 57) 5 dm5_56 rfl rfl ?_
  refine Go.icmpT (pc' := 72) dm5_57 (show ¬ ((2 : Int32) = (5 : Int32)) by decide) (by decide) (by decide) ?_
  refine Go.iloadN (pc' := 73) dm5_72 rfl rfl ?_
  refine Go.ifF (pc' := 76) dm5_73 (show ¬ ((1 : Int32) = (0 : Int32)) by decide) rfl ?_
  refine Go.ldcR (pc' := 78) (a1 := a0) 48 (vs := [.int 106, .int 32, .int 97, .int 115, .int 32, .int 83, .int 116, .int 114, .int 105, .int 110, .int 103, .int 63]) (z := 12) dm5_76 rfl (wd hw 401 rfl) (own_ws hw) (by decide) (by decide) (by decide) (by decide) rfl (own_ew hw) (List.mem_of_getElem? (i := 39) rfl) ⟨by decide, by decide⟩ (by decide) (by decide) (fun a_1 h_2 b_3 k_4 E_5 X_6 F_7 F_8 A_9 ne_10 => ?_)
  have szh_2 := nle E_5.1
  have lta_1 := nlt X_6.lt
  have ltb_3 := nlt A_9.lt
  have T_11 : Str Z h_2 a_1 b_3 [106, 32, 97, 115, 32, 83, 116, 114, 105, 110, 103, 63] := ⟨X_6, F_7, F_8, k_4, A_9⟩
  refine Go.goto (pc' := 83) dm5_78 (by decide) (by decide) ?_
  refine Go.retA rfl rfl rfl [] sl0 dm5_83 (by decide) (by decide) ?_
  exact ⟨a_1, b_3, rfl, (Keep.ext (Keep.refl _ []) E_5), T_11⟩
theorem dm5_38 : decode method_5_code 38 = .ok (.iload_n 1, 1) := by decide +kernel
theorem dm5_39 : decode method_5_code 39 = .ok (.ifCond .eq 8, 3) := by decide +kernel
theorem dm5_47 : decode method_5_code 47 = .ok (.ldc 120, 2) := by decide +kernel
theorem dm5_49 : decode method_5_code 49 = .ok (.areturn, 1) := by decide +kernel
theorem ct_expFromJson_3_0 (l : Launch) (Z : State) (a0 : Array Value) (hw : ∀ d ∈ tables_1, d.before a0 Z = true) (n0 : Nat) (h0 : Heap)  :
    Ct l Z (⟨"dev/typewright/dart/DartFormOfPinLaw", "expFromJson", "(IZ)Ljava/lang/String;"⟩ : MethodName) method_5_code 2 (some (.object "java/lang/String")) ({ frames := 0, cells := 2, slots := 40, locals := 0 } : Room) EL1 n0 true [] #[(.int (3 : Int32)), (.int (0 : Int32))] h0 [] (fun v h N => ∃ s b, v = some (.ref s) ∧ Keep h0 h [] ∧ Str Z h s b [106, 32, 97, 115, 32, 98, 111, 111, 108]) := by
  refine Ct.of (a0 := a0) (plainFor_of_name pn_dev_typewright_dart_DartFormOfPinLaw) (own_ew hw) (L0 := #[.val (.int (3 : Int32)), .val (.int (0 : Int32))]) (fun _ => rfl) ?_
  refine Go.iloadN (pc' := 1) dm5_0 rfl rfl ?_
  refine Go.ifT (pc' := 16) dm5_1 (show ¬ ((3 : Int32) = (0 : Int32)) by decide) (by decide) (by decide) ?_
  refine Go.iloadN (pc' := 17) dm5_16 rfl rfl ?_
  refine Go.iconst (pc' := 18) 1 dm5_17 rfl rfl ?_
  refine Go.icmpT (pc' := 33) dm5_18 (show ¬ ((3 : Int32) = (1 : Int32)) by decide) (by decide) (by decide) ?_
  refine Go.iloadN (pc' := 34) dm5_33 rfl rfl ?_
  refine Go.iconst (pc' := 35) 3 dm5_34 rfl rfl ?_
  refine Go.icmpF (pc' := 38) dm5_35 (show (3 : Int32) = (3 : Int32) by decide) rfl ?_
  refine Go.iloadN (pc' := 39) dm5_38 rfl rfl ?_
  refine Go.ifT (pc' := 47) dm5_39 (show (0 : Int32) = (0 : Int32) by decide) (by decide) (by decide) ?_
  refine Go.ldcR (pc' := 49) (a1 := a0) 36 (vs := [.int 106, .int 32, .int 97, .int 115, .int 32, .int 98, .int 111, .int 111, .int 108]) (z := 9) dm5_47 rfl (wd hw 399 rfl) (own_ws hw) (by decide) (by decide) (by decide) (by decide) rfl (own_ew hw) (List.mem_of_getElem? (i := 36) rfl) ⟨by decide, by decide⟩ (by decide) (by decide) (fun a_1 h_2 b_3 k_4 E_5 X_6 F_7 F_8 A_9 ne_10 => ?_)
  have szh_2 := nle E_5.1
  have lta_1 := nlt X_6.lt
  have ltb_3 := nlt A_9.lt
  have T_11 : Str Z h_2 a_1 b_3 [106, 32, 97, 115, 32, 98, 111, 111, 108] := ⟨X_6, F_7, F_8, k_4, A_9⟩
  refine Go.retA rfl rfl rfl [] sl0 dm5_49 (by decide) (by decide) ?_
  exact ⟨a_1, b_3, rfl, (Keep.ext (Keep.refl _ []) E_5), T_11⟩
theorem dm5_42 : decode method_5_code 42 = .ok (.ldc 118, 2) := by decide +kernel
theorem dm5_44 : decode method_5_code 44 = .ok (.goto 5, 3) := by decide +kernel
theorem ct_expFromJson_3_1 (l : Launch) (Z : State) (a0 : Array Value) (hw : ∀ d ∈ tables_1, d.before a0 Z = true) (n0 : Nat) (h0 : Heap)  :
    Ct l Z (⟨"dev/typewright/dart/DartFormOfPinLaw", "expFromJson", "(IZ)Ljava/lang/String;"⟩ : MethodName) method_5_code 2 (some (.object "java/lang/String")) ({ frames := 0, cells := 2, slots := 44, locals := 0 } : Room) EL1 n0 true [] #[(.int (3 : Int32)), (.int (1 : Int32))] h0 [] (fun v h N => ∃ s b, v = some (.ref s) ∧ Keep h0 h [] ∧ Str Z h s b [106, 32, 97, 115, 32, 98, 111, 111, 108, 63]) := by
  refine Ct.of (a0 := a0) (plainFor_of_name pn_dev_typewright_dart_DartFormOfPinLaw) (own_ew hw) (L0 := #[.val (.int (3 : Int32)), .val (.int (1 : Int32))]) (fun _ => rfl) ?_
  refine Go.iloadN (pc' := 1) dm5_0 rfl rfl ?_
  refine Go.ifT (pc' := 16) dm5_1 (show ¬ ((3 : Int32) = (0 : Int32)) by decide) (by decide) (by decide) ?_
  refine Go.iloadN (pc' := 17) dm5_16 rfl rfl ?_
  refine Go.iconst (pc' := 18) 1 dm5_17 rfl rfl ?_
  refine Go.icmpT (pc' := 33) dm5_18 (show ¬ ((3 : Int32) = (1 : Int32)) by decide) (by decide) (by decide) ?_
  refine Go.iloadN (pc' := 34) dm5_33 rfl rfl ?_
  refine Go.iconst (pc' := 35) 3 dm5_34 rfl rfl ?_
  refine Go.icmpF (pc' := 38) dm5_35 (show (3 : Int32) = (3 : Int32) by decide) rfl ?_
  refine Go.iloadN (pc' := 39) dm5_38 rfl rfl ?_
  refine Go.ifF (pc' := 42) dm5_39 (show ¬ ((1 : Int32) = (0 : Int32)) by decide) rfl ?_
  refine Go.ldcR (pc' := 44) (a1 := a0) 40 (vs := [.int 106, .int 32, .int 97, .int 115, .int 32, .int 98, .int 111, .int 111, .int 108, .int 63]) (z := 10) dm5_42 rfl (wd hw 250 rfl) (own_ws hw) (by decide) (by decide) (by decide) (by decide) rfl (own_ew hw) (List.mem_of_getElem? (i := 35) rfl) ⟨by decide, by decide⟩ (by decide) (by decide) (fun a_1 h_2 b_3 k_4 E_5 X_6 F_7 F_8 A_9 ne_10 => ?_)
  have szh_2 := nle E_5.1
  have lta_1 := nlt X_6.lt
  have ltb_3 := nlt A_9.lt
  have T_11 : Str Z h_2 a_1 b_3 [106, 32, 97, 115, 32, 98, 111, 111, 108, 63] := ⟨X_6, F_7, F_8, k_4, A_9⟩
  refine Go.goto (pc' := 49) dm5_44 (by decide) (by decide) ?_
  refine Go.retA rfl rfl rfl [] sl0 dm5_49 (by decide) (by decide) ?_
  exact ⟨a_1, b_3, rfl, (Keep.ext (Keep.refl _ []) E_5), T_11⟩
theorem dm5_60 : decode method_5_code 60 = .ok (.iload_n 1, 1) := by decide +kernel
theorem dm5_61 : decode method_5_code 61 = .ok (.ifCond .eq 8, 3) := by decide +kernel
theorem dm5_69 : decode method_5_code 69 = .ok (.ldc 124, 2) := by decide +kernel
theorem dm5_71 : decode method_5_code 71 = .ok (.areturn, 1) := by decide +kernel
theorem ct_expFromJson_4_0 (l : Launch) (Z : State) (a0 : Array Value) (hw : ∀ d ∈ tables_1, d.before a0 Z = true) (n0 : Nat) (h0 : Heap)  :
    Ct l Z (⟨"dev/typewright/dart/DartFormOfPinLaw", "expFromJson", "(IZ)Ljava/lang/String;"⟩ : MethodName) method_5_code 2 (some (.object "java/lang/String")) ({ frames := 0, cells := 2, slots := 112, locals := 0 } : Room) EL1 n0 true [] #[(.int (4 : Int32)), (.int (0 : Int32))] h0 [] (fun v h N => ∃ s b, v = some (.ref s) ∧ Keep h0 h [] ∧ Str Z h s b [68, 97, 116, 101, 84, 105, 109, 101, 46, 112, 97, 114, 115, 101, 40, 106, 32, 97, 115, 32, 83, 116, 114, 105, 110, 103, 41]) := by
  refine Ct.of (a0 := a0) (plainFor_of_name pn_dev_typewright_dart_DartFormOfPinLaw) (own_ew hw) (L0 := #[.val (.int (4 : Int32)), .val (.int (0 : Int32))]) (fun _ => rfl) ?_
  refine Go.iloadN (pc' := 1) dm5_0 rfl rfl ?_
  refine Go.ifT (pc' := 16) dm5_1 (show ¬ ((4 : Int32) = (0 : Int32)) by decide) (by decide) (by decide) ?_
  refine Go.iloadN (pc' := 17) dm5_16 rfl rfl ?_
  refine Go.iconst (pc' := 18) 1 dm5_17 rfl rfl ?_
  refine Go.icmpT (pc' := 33) dm5_18 (show ¬ ((4 : Int32) = (1 : Int32)) by decide) (by decide) (by decide) ?_
  refine Go.iloadN (pc' := 34) dm5_33 rfl rfl ?_
  refine Go.iconst (pc' := 35) 3 dm5_34 rfl rfl ?_
  refine Go.icmpT (pc' := 50) dm5_35 (show ¬ ((4 : Int32) = (3 : Int32)) by decide) (by decide) (by decide) ?_
  refine Go.iloadN (pc' := 51) dm5_50 rfl rfl ?_
  refine Go.iconst (pc' := 52) 4 dm5_51 rfl rfl ?_
  refine Go.icmpT (pc' := 60) dm5_52 (show (4 : Int32) = (4 : Int32) by decide) (by decide) (by decide) ?_
  refine Go.iloadN (pc' := 61) dm5_60 rfl rfl ?_
  refine Go.ifT (pc' := 69) dm5_61 (show (0 : Int32) = (0 : Int32) by decide) (by decide) (by decide) ?_
  refine Go.ldcR (pc' := 71) (a1 := a0) 108 (vs := [.int 68, .int 97, .int 116, .int 101, .int 84, .int 105, .int 109, .int 101, .int 46, .int 112, .int 97, .int 114, .int 115, .int 101, .int 40, .int 106, .int 32, .int 97, .int 115, .int 32, .int 83, .int 116, .int 114, .int 105, .int 110, .int 103, .int 41]) (z := 27) dm5_69 rfl (wd hw 358 rfl) (own_ws hw) (by decide) (by decide) (by decide) (by decide) rfl (own_ew hw) (List.mem_of_getElem? (i := 38) rfl) ⟨by decide, by decide⟩ (by decide) (by decide) (fun a_1 h_2 b_3 k_4 E_5 X_6 F_7 F_8 A_9 ne_10 => ?_)
  have szh_2 := nle E_5.1
  have lta_1 := nlt X_6.lt
  have ltb_3 := nlt A_9.lt
  have T_11 : Str Z h_2 a_1 b_3 [68, 97, 116, 101, 84, 105, 109, 101, 46, 112, 97, 114, 115, 101, 40, 106, 32, 97, 115, 32, 83, 116, 114, 105, 110, 103, 41] := ⟨X_6, F_7, F_8, k_4, A_9⟩
  refine Go.retA rfl rfl rfl [] sl0 dm5_71 (by decide) (by decide) ?_
  exact ⟨a_1, b_3, rfl, (Keep.ext (Keep.refl _ []) E_5), T_11⟩
theorem dm5_64 : decode method_5_code 64 = .ok (.ldc 122, 2) := by decide +kernel
theorem dm5_66 : decode method_5_code 66 = .ok (.goto 5, 3) := by decide +kernel
theorem ct_expFromJson_4_1 (l : Launch) (Z : State) (a0 : Array Value) (hw : ∀ d ∈ tables_1, d.before a0 Z = true) (n0 : Nat) (h0 : Heap)  :
    Ct l Z (⟨"dev/typewright/dart/DartFormOfPinLaw", "expFromJson", "(IZ)Ljava/lang/String;"⟩ : MethodName) method_5_code 2 (some (.object "java/lang/String")) ({ frames := 0, cells := 2, slots := 188, locals := 0 } : Room) EL1 n0 true [] #[(.int (4 : Int32)), (.int (1 : Int32))] h0 [] (fun v h N => ∃ s b, v = some (.ref s) ∧ Keep h0 h [] ∧ Str Z h s b [106, 32, 61, 61, 32, 110, 117, 108, 108, 32, 63, 32, 110, 117, 108, 108, 32, 58, 32, 68, 97, 116, 101, 84, 105, 109, 101, 46, 112, 97, 114, 115, 101, 40, 106, 32, 97, 115, 32, 83, 116, 114, 105, 110, 103, 41]) := by
  refine Ct.of (a0 := a0) (plainFor_of_name pn_dev_typewright_dart_DartFormOfPinLaw) (own_ew hw) (L0 := #[.val (.int (4 : Int32)), .val (.int (1 : Int32))]) (fun _ => rfl) ?_
  refine Go.iloadN (pc' := 1) dm5_0 rfl rfl ?_
  refine Go.ifT (pc' := 16) dm5_1 (show ¬ ((4 : Int32) = (0 : Int32)) by decide) (by decide) (by decide) ?_
  refine Go.iloadN (pc' := 17) dm5_16 rfl rfl ?_
  refine Go.iconst (pc' := 18) 1 dm5_17 rfl rfl ?_
  refine Go.icmpT (pc' := 33) dm5_18 (show ¬ ((4 : Int32) = (1 : Int32)) by decide) (by decide) (by decide) ?_
  refine Go.iloadN (pc' := 34) dm5_33 rfl rfl ?_
  refine Go.iconst (pc' := 35) 3 dm5_34 rfl rfl ?_
  refine Go.icmpT (pc' := 50) dm5_35 (show ¬ ((4 : Int32) = (3 : Int32)) by decide) (by decide) (by decide) ?_
  refine Go.iloadN (pc' := 51) dm5_50 rfl rfl ?_
  refine Go.iconst (pc' := 52) 4 dm5_51 rfl rfl ?_
  refine Go.icmpT (pc' := 60) dm5_52 (show (4 : Int32) = (4 : Int32) by decide) (by decide) (by decide) ?_
  refine Go.iloadN (pc' := 61) dm5_60 rfl rfl ?_
  refine Go.ifF (pc' := 64) dm5_61 (show ¬ ((1 : Int32) = (0 : Int32)) by decide) rfl ?_
  refine Go.ldcR (pc' := 66) (a1 := a0) 184 (vs := [.int 106, .int 32, .int 61, .int 61, .int 32, .int 110, .int 117, .int 108, .int 108, .int 32, .int 63, .int 32, .int 110, .int 117, .int 108, .int 108, .int 32, .int 58, .int 32, .int 68, .int 97, .int 116, .int 101, .int 84, .int 105, .int 109, .int 101, .int 46, .int 112, .int 97, .int 114, .int 115, .int 101, .int 40, .int 106, .int 32, .int 97, .int 115, .int 32, .int 83, .int 116, .int 114, .int 105, .int 110, .int 103, .int 41]) (z := 46) dm5_64 rfl (wd hw 383 rfl) (own_ws hw) (by decide) (by decide) (by decide) (by decide) rfl (own_ew hw) (List.mem_of_getElem? (i := 37) rfl) ⟨by decide, by decide⟩ (by decide) (by decide) (fun a_1 h_2 b_3 k_4 E_5 X_6 F_7 F_8 A_9 ne_10 => ?_)
  have szh_2 := nle E_5.1
  have lta_1 := nlt X_6.lt
  have ltb_3 := nlt A_9.lt
  have T_11 : Str Z h_2 a_1 b_3 [106, 32, 61, 61, 32, 110, 117, 108, 108, 32, 63, 32, 110, 117, 108, 108, 32, 58, 32, 68, 97, 116, 101, 84, 105, 109, 101, 46, 112, 97, 114, 115, 101, 40, 106, 32, 97, 115, 32, 83, 116, 114, 105, 110, 103, 41] := ⟨X_6, F_7, F_8, k_4, A_9⟩
  refine Go.goto (pc' := 71) dm5_66 (by decide) (by decide) ?_
  refine Go.retA rfl rfl rfl [] sl0 dm5_71 (by decide) (by decide) ?_
  exact ⟨a_1, b_3, rfl, (Keep.ext (Keep.refl _ []) E_5), T_11⟩
theorem ct_expFromJson_5_0 (l : Launch) (Z : State) (a0 : Array Value) (hw : ∀ d ∈ tables_1, d.before a0 Z = true) (n0 : Nat) (h0 : Heap)  :
    Ct l Z (⟨"dev/typewright/dart/DartFormOfPinLaw", "expFromJson", "(IZ)Ljava/lang/String;"⟩ : MethodName) method_5_code 2 (some (.object "java/lang/String")) ({ frames := 0, cells := 2, slots := 112, locals := 0 } : Room) EL1 n0 true [] #[(.int (5 : Int32)), (.int (0 : Int32))] h0 [] (fun v h N => ∃ s b, v = some (.ref s) ∧ Keep h0 h [] ∧ Str Z h s b [68, 97, 116, 101, 84, 105, 109, 101, 46, 112, 97, 114, 115, 101, 40, 106, 32, 97, 115, 32, 83, 116, 114, 105, 110, 103, 41]) := by
  refine Ct.of (a0 := a0) (plainFor_of_name pn_dev_typewright_dart_DartFormOfPinLaw) (own_ew hw) (L0 := #[.val (.int (5 : Int32)), .val (.int (0 : Int32))]) (fun _ => rfl) ?_
  refine Go.iloadN (pc' := 1) dm5_0 rfl rfl ?_
  refine Go.ifT (pc' := 16) dm5_1 (show ¬ ((5 : Int32) = (0 : Int32)) by decide) (by decide) (by decide) ?_
  refine Go.iloadN (pc' := 17) dm5_16 rfl rfl ?_
  refine Go.iconst (pc' := 18) 1 dm5_17 rfl rfl ?_
  refine Go.icmpT (pc' := 33) dm5_18 (show ¬ ((5 : Int32) = (1 : Int32)) by decide) (by decide) (by decide) ?_
  refine Go.iloadN (pc' := 34) dm5_33 rfl rfl ?_
  refine Go.iconst (pc' := 35) 3 dm5_34 rfl rfl ?_
  refine Go.icmpT (pc' := 50) dm5_35 (show ¬ ((5 : Int32) = (3 : Int32)) by decide) (by decide) (by decide) ?_
  refine Go.iloadN (pc' := 51) dm5_50 rfl rfl ?_
  refine Go.iconst (pc' := 52) 4 dm5_51 rfl rfl ?_
  refine Go.icmpF (pc' := 55) dm5_52 (show ¬ ((5 : Int32) = (4 : Int32)) by decide) rfl ?_
  refine Go.iloadN (pc' := 56) dm5_55 rfl rfl ?_
  refine Go.iconst (pc' := 57) 5 dm5_56 rfl rfl ?_
  refine Go.icmpF (pc' := 60) dm5_57 (show (5 : Int32) = (5 : Int32) by decide) rfl ?_
  refine Go.iloadN (pc' := 61) dm5_60 rfl rfl ?_
  refine Go.ifT (pc' := 69) dm5_61 (show (0 : Int32) = (0 : Int32) by decide) (by decide) (by decide) ?_
  refine Go.ldcR (pc' := 71) (a1 := a0) 108 (vs := [.int 68, .int 97, .int 116, .int 101, .int 84, .int 105, .int 109, .int 101, .int 46, .int 112, .int 97, .int 114, .int 115, .int 101, .int 40, .int 106, .int 32, .int 97, .int 115, .int 32, .int 83, .int 116, .int 114, .int 105, .int 110, .int 103, .int 41]) (z := 27) dm5_69 rfl (wd hw 358 rfl) (own_ws hw) (by decide) (by decide) (by decide) (by decide) rfl (own_ew hw) (List.mem_of_getElem? (i := 38) rfl) ⟨by decide, by decide⟩ (by decide) (by decide) (fun a_1 h_2 b_3 k_4 E_5 X_6 F_7 F_8 A_9 ne_10 => ?_)
  have szh_2 := nle E_5.1
  have lta_1 := nlt X_6.lt
  have ltb_3 := nlt A_9.lt
  have T_11 : Str Z h_2 a_1 b_3 [68, 97, 116, 101, 84, 105, 109, 101, 46, 112, 97, 114, 115, 101, 40, 106, 32, 97, 115, 32, 83, 116, 114, 105, 110, 103, 41] := ⟨X_6, F_7, F_8, k_4, A_9⟩
  refine Go.retA rfl rfl rfl [] sl0 dm5_71 (by decide) (by decide) ?_
  exact ⟨a_1, b_3, rfl, (Keep.ext (Keep.refl _ []) E_5), T_11⟩
theorem ct_expFromJson_5_1 (l : Launch) (Z : State) (a0 : Array Value) (hw : ∀ d ∈ tables_1, d.before a0 Z = true) (n0 : Nat) (h0 : Heap)  :
    Ct l Z (⟨"dev/typewright/dart/DartFormOfPinLaw", "expFromJson", "(IZ)Ljava/lang/String;"⟩ : MethodName) method_5_code 2 (some (.object "java/lang/String")) ({ frames := 0, cells := 2, slots := 188, locals := 0 } : Room) EL1 n0 true [] #[(.int (5 : Int32)), (.int (1 : Int32))] h0 [] (fun v h N => ∃ s b, v = some (.ref s) ∧ Keep h0 h [] ∧ Str Z h s b [106, 32, 61, 61, 32, 110, 117, 108, 108, 32, 63, 32, 110, 117, 108, 108, 32, 58, 32, 68, 97, 116, 101, 84, 105, 109, 101, 46, 112, 97, 114, 115, 101, 40, 106, 32, 97, 115, 32, 83, 116, 114, 105, 110, 103, 41]) := by
  refine Ct.of (a0 := a0) (plainFor_of_name pn_dev_typewright_dart_DartFormOfPinLaw) (own_ew hw) (L0 := #[.val (.int (5 : Int32)), .val (.int (1 : Int32))]) (fun _ => rfl) ?_
  refine Go.iloadN (pc' := 1) dm5_0 rfl rfl ?_
  refine Go.ifT (pc' := 16) dm5_1 (show ¬ ((5 : Int32) = (0 : Int32)) by decide) (by decide) (by decide) ?_
  refine Go.iloadN (pc' := 17) dm5_16 rfl rfl ?_
  refine Go.iconst (pc' := 18) 1 dm5_17 rfl rfl ?_
  refine Go.icmpT (pc' := 33) dm5_18 (show ¬ ((5 : Int32) = (1 : Int32)) by decide) (by decide) (by decide) ?_
  refine Go.iloadN (pc' := 34) dm5_33 rfl rfl ?_
  refine Go.iconst (pc' := 35) 3 dm5_34 rfl rfl ?_
  refine Go.icmpT (pc' := 50) dm5_35 (show ¬ ((5 : Int32) = (3 : Int32)) by decide) (by decide) (by decide) ?_
  refine Go.iloadN (pc' := 51) dm5_50 rfl rfl ?_
  refine Go.iconst (pc' := 52) 4 dm5_51 rfl rfl ?_
  refine Go.icmpF (pc' := 55) dm5_52 (show ¬ ((5 : Int32) = (4 : Int32)) by decide) rfl ?_
  refine Go.iloadN (pc' := 56) dm5_55 rfl rfl ?_
  refine Go.iconst (pc' := 57) 5 dm5_56 rfl rfl ?_
  refine Go.icmpF (pc' := 60) dm5_57 (show (5 : Int32) = (5 : Int32) by decide) rfl ?_
  refine Go.iloadN (pc' := 61) dm5_60 rfl rfl ?_
  refine Go.ifF (pc' := 64) dm5_61 (show ¬ ((1 : Int32) = (0 : Int32)) by decide) rfl ?_
  refine Go.ldcR (pc' := 66) (a1 := a0) 184 (vs := [.int 106, .int 32, .int 61, .int 61, .int 32, .int 110, .int 117, .int 108, .int 108, .int 32, .int 63, .int 32, .int 110, .int 117, .int 108, .int 108, .int 32, .int 58, .int 32, .int 68, .int 97, .int 116, .int 101, .int 84, .int 105, .int 109, .int 101, .int 46, .int 112, .int 97, .int 114, .int 115, .int 101, .int 40, .int 106, .int 32, .int 97, .int 115, .int 32, .int 83, .int 116, .int 114, .int 105, .int 110, .int 103, .int 41]) (z := 46) dm5_64 rfl (wd hw 383 rfl) (own_ws hw) (by decide) (by decide) (by decide) (by decide) rfl (own_ew hw) (List.mem_of_getElem? (i := 37) rfl) ⟨by decide, by decide⟩ (by decide) (by decide) (fun a_1 h_2 b_3 k_4 E_5 X_6 F_7 F_8 A_9 ne_10 => ?_)
  have szh_2 := nle E_5.1
  have lta_1 := nlt X_6.lt
  have ltb_3 := nlt A_9.lt
  have T_11 : Str Z h_2 a_1 b_3 [106, 32, 61, 61, 32, 110, 117, 108, 108, 32, 63, 32, 110, 117, 108, 108, 32, 58, 32, 68, 97, 116, 101, 84, 105, 109, 101, 46, 112, 97, 114, 115, 101, 40, 106, 32, 97, 115, 32, 83, 116, 114, 105, 110, 103, 41] := ⟨X_6, F_7, F_8, k_4, A_9⟩
  refine Go.goto (pc' := 71) dm5_66 (by decide) (by decide) ?_
  refine Go.retA rfl rfl rfl [] sl0 dm5_71 (by decide) (by decide) ?_
  exact ⟨a_1, b_3, rfl, (Keep.ext (Keep.refl _ []) E_5), T_11⟩
theorem ct_expFromJson_6_0 (l : Launch) (Z : State) (a0 : Array Value) (hw : ∀ d ∈ tables_1, d.before a0 Z = true) (n0 : Nat) (h0 : Heap)  :
    Ct l Z (⟨"dev/typewright/dart/DartFormOfPinLaw", "expFromJson", "(IZ)Ljava/lang/String;"⟩ : MethodName) method_5_code 2 (some (.object "java/lang/String")) ({ frames := 0, cells := 2, slots := 48, locals := 0 } : Room) EL1 n0 true [] #[(.int (6 : Int32)), (.int (0 : Int32))] h0 [] (fun v h N => ∃ s b, v = some (.ref s) ∧ Keep h0 h [] ∧ Str Z h s b [106, 32, 97, 115, 32, 83, 116, 114, 105, 110, 103]) := by
  refine Ct.of (a0 := a0) (plainFor_of_name pn_dev_typewright_dart_DartFormOfPinLaw) (own_ew hw) (L0 := #[.val (.int (6 : Int32)), .val (.int (0 : Int32))]) (fun _ => rfl) ?_
  refine Go.iloadN (pc' := 1) dm5_0 rfl rfl ?_
  refine Go.ifT (pc' := 16) dm5_1 (show ¬ ((6 : Int32) = (0 : Int32)) by decide) (by decide) (by decide) ?_
  refine Go.iloadN (pc' := 17) dm5_16 rfl rfl ?_
  refine Go.iconst (pc' := 18) 1 dm5_17 rfl rfl ?_
  refine Go.icmpT (pc' := 33) dm5_18 (show ¬ ((6 : Int32) = (1 : Int32)) by decide) (by decide) (by decide) ?_
  refine Go.iloadN (pc' := 34) dm5_33 rfl rfl ?_
  refine Go.iconst (pc' := 35) 3 dm5_34 rfl rfl ?_
  refine Go.icmpT (pc' := 50) dm5_35 (show ¬ ((6 : Int32) = (3 : Int32)) by decide) (by decide) (by decide) ?_
  refine Go.iloadN (pc' := 51) dm5_50 rfl rfl ?_
  refine Go.iconst (pc' := 52) 4 dm5_51 rfl rfl ?_
  refine Go.icmpF (pc' := 55) dm5_52 (show ¬ ((6 : Int32) = (4 : Int32)) by decide) rfl ?_
  refine Go.iloadN (pc' := 56) dm5_55 rfl rfl ?_
  refine Go.iconst (pc' := 57) 5 dm5_56 rfl rfl ?_
  refine Go.icmpT (pc' := 72) dm5_57 (show ¬ ((6 : Int32) = (5 : Int32)) by decide) (by decide) (by decide) ?_
  refine Go.iloadN (pc' := 73) dm5_72 rfl rfl ?_
  refine Go.ifT (pc' := 81) dm5_73 (show (0 : Int32) = (0 : Int32) by decide) (by decide) (by decide) ?_
  refine Go.ldcR (pc' := 83) (a1 := a0) 44 (vs := [.int 106, .int 32, .int 97, .int 115, .int 32, .int 83, .int 116, .int 114, .int 105, .int 110, .int 103]) (z := 11) dm5_81 rfl (wd hw 388 rfl) (own_ws hw) (by decide) (by decide) (by decide) (by decide) rfl (own_ew hw) (List.mem_of_getElem? (i := 40) rfl) ⟨by decide, by decide⟩ (by decide) (by decide) (fun a_1 h_2 b_3 k_4 E_5 X_6 F_7 F_8 A_9 ne_10 => ?_)
  have szh_2 := nle E_5.1
  have lta_1 := nlt X_6.lt
  have ltb_3 := nlt A_9.lt
  have T_11 : Str Z h_2 a_1 b_3 [106, 32, 97, 115, 32, 83, 116, 114, 105, 110, 103] := ⟨X_6, F_7, F_8, k_4, A_9⟩
  refine Go.retA rfl rfl rfl [] sl0 dm5_83 (by decide) (by decide) ?_
  exact ⟨a_1, b_3, rfl, (Keep.ext (Keep.refl _ []) E_5), T_11⟩
theorem ct_expFromJson_6_1 (l : Launch) (Z : State) (a0 : Array Value) (hw : ∀ d ∈ tables_1, d.before a0 Z = true) (n0 : Nat) (h0 : Heap)  :
    Ct l Z (⟨"dev/typewright/dart/DartFormOfPinLaw", "expFromJson", "(IZ)Ljava/lang/String;"⟩ : MethodName) method_5_code 2 (some (.object "java/lang/String")) ({ frames := 0, cells := 2, slots := 52, locals := 0 } : Room) EL1 n0 true [] #[(.int (6 : Int32)), (.int (1 : Int32))] h0 [] (fun v h N => ∃ s b, v = some (.ref s) ∧ Keep h0 h [] ∧ Str Z h s b [106, 32, 97, 115, 32, 83, 116, 114, 105, 110, 103, 63]) := by
  refine Ct.of (a0 := a0) (plainFor_of_name pn_dev_typewright_dart_DartFormOfPinLaw) (own_ew hw) (L0 := #[.val (.int (6 : Int32)), .val (.int (1 : Int32))]) (fun _ => rfl) ?_
  refine Go.iloadN (pc' := 1) dm5_0 rfl rfl ?_
  refine Go.ifT (pc' := 16) dm5_1 (show ¬ ((6 : Int32) = (0 : Int32)) by decide) (by decide) (by decide) ?_
  refine Go.iloadN (pc' := 17) dm5_16 rfl rfl ?_
  refine Go.iconst (pc' := 18) 1 dm5_17 rfl rfl ?_
  refine Go.icmpT (pc' := 33) dm5_18 (show ¬ ((6 : Int32) = (1 : Int32)) by decide) (by decide) (by decide) ?_
  refine Go.iloadN (pc' := 34) dm5_33 rfl rfl ?_
  refine Go.iconst (pc' := 35) 3 dm5_34 rfl rfl ?_
  refine Go.icmpT (pc' := 50) dm5_35 (show ¬ ((6 : Int32) = (3 : Int32)) by decide) (by decide) (by decide) ?_
  refine Go.iloadN (pc' := 51) dm5_50 rfl rfl ?_
  refine Go.iconst (pc' := 52) 4 dm5_51 rfl rfl ?_
  refine Go.icmpF (pc' := 55) dm5_52 (show ¬ ((6 : Int32) = (4 : Int32)) by decide) rfl ?_
  refine Go.iloadN (pc' := 56) dm5_55 rfl rfl ?_
  refine Go.iconst (pc' := 57) 5 dm5_56 rfl rfl ?_
  refine Go.icmpT (pc' := 72) dm5_57 (show ¬ ((6 : Int32) = (5 : Int32)) by decide) (by decide) (by decide) ?_
  refine Go.iloadN (pc' := 73) dm5_72 rfl rfl ?_
  refine Go.ifF (pc' := 76) dm5_73 (show ¬ ((1 : Int32) = (0 : Int32)) by decide) rfl ?_
  refine Go.ldcR (pc' := 78) (a1 := a0) 48 (vs := [.int 106, .int 32, .int 97, .int 115, .int 32, .int 83, .int 116, .int 114, .int 105, .int 110, .int 103, .int 63]) (z := 12) dm5_76 rfl (wd hw 401 rfl) (own_ws hw) (by decide) (by decide) (by decide) (by decide) rfl (own_ew hw) (List.mem_of_getElem? (i := 39) rfl) ⟨by decide, by decide⟩ (by decide) (by decide) (fun a_1 h_2 b_3 k_4 E_5 X_6 F_7 F_8 A_9 ne_10 => ?_)
  have szh_2 := nle E_5.1
  have lta_1 := nlt X_6.lt
  have ltb_3 := nlt A_9.lt
  have T_11 : Str Z h_2 a_1 b_3 [106, 32, 97, 115, 32, 83, 116, 114, 105, 110, 103, 63] := ⟨X_6, F_7, F_8, k_4, A_9⟩
  refine Go.goto (pc' := 83) dm5_78 (by decide) (by decide) ?_
  refine Go.retA rfl rfl rfl [] sl0 dm5_83 (by decide) (by decide) ?_
  exact ⟨a_1, b_3, rfl, (Keep.ext (Keep.refl _ []) E_5), T_11⟩
theorem dm6_0 : decode method_6_code 0 = .ok (.iload_n 0, 1) := by decide +kernel
theorem dm6_1 : decode method_6_code 1 = .ok (.iconst 4, 1) := by decide +kernel
theorem dm6_2 : decode method_6_code 2 = .ok (.if_icmp .ne 15, 3) := by decide +kernel
theorem dm6_17 : decode method_6_code 17 = .ok (.iload_n 0, 1) := by decide +kernel
theorem dm6_18 : decode method_6_code 18 = .ok (.iconst 5, 1) := by decide +kernel
theorem dm6_19 : decode method_6_code 19 = .ok (.if_icmp .ne 15, 3) := by decide +kernel
theorem dm6_34 : decode method_6_code 34 = .ok (.ldc 43, 2) := by decide +kernel
theorem dm6_36 : decode method_6_code 36 = .ok (.areturn, 1) := by decide +kernel
theorem ct_expToJson_0_0 (l : Launch) (Z : State) (a0 : Array Value) (hw : ∀ d ∈ tables_1, d.before a0 Z = true) (n0 : Nat) (h0 : Heap)  :
    Ct l Z (⟨"dev/typewright/dart/DartFormOfPinLaw", "expToJson", "(IZ)Ljava/lang/String;"⟩ : MethodName) method_6_code 2 (some (.object "java/lang/String")) ({ frames := 0, cells := 2, slots := 8, locals := 0 } : Room) EL1 n0 true [] #[(.int (0 : Int32)), (.int (0 : Int32))] h0 [] (fun v h N => ∃ s b, v = some (.ref s) ∧ Keep h0 h [] ∧ Str Z h s b [118]) := by
  refine Ct.of (a0 := a0) (plainFor_of_name pn_dev_typewright_dart_DartFormOfPinLaw) (own_ew hw) (L0 := #[.val (.int (0 : Int32)), .val (.int (0 : Int32))]) (fun _ => rfl) ?_
  refine Go.iloadN (pc' := 1) dm6_0 rfl rfl ?_
  refine Go.iconst (pc' := 2) 4 dm6_1 rfl rfl ?_
  refine Go.icmpT (pc' := 17) dm6_2 (show ¬ ((0 : Int32) = (4 : Int32)) by decide) (by decide) (by decide) ?_
  refine Go.iloadN (pc' := 18) dm6_17 rfl rfl ?_
  refine Go.iconst (pc' := 19) 5 dm6_18 rfl rfl ?_
  refine Go.icmpT (pc' := 34) dm6_19 (show ¬ ((0 : Int32) = (5 : Int32)) by decide) (by decide) (by decide) ?_
  refine Go.ldcR (pc' := 36) (a1 := a0) 4 (vs := [.int 118]) (z := 1) dm6_34 rfl (wd hw 211 rfl) (own_ws hw) (by decide) (by decide) (by decide) (by decide) rfl (own_ew hw) (List.mem_of_getElem? (i := 20) rfl) ⟨by decide, by decide⟩ (by decide) (by decide) (fun a_1 h_2 b_3 k_4 E_5 X_6 F_7 F_8 A_9 ne_10 => ?_)
  have szh_2 := nle E_5.1
  have lta_1 := nlt X_6.lt
  have ltb_3 := nlt A_9.lt
  have T_11 : Str Z h_2 a_1 b_3 [118] := ⟨X_6, F_7, F_8, k_4, A_9⟩
  refine Go.retA rfl rfl rfl [] sl0 dm6_36 (by decide) (by decide) ?_
  exact ⟨a_1, b_3, rfl, (Keep.ext (Keep.refl _ []) E_5), T_11⟩
theorem ct_expToJson_0_1 (l : Launch) (Z : State) (a0 : Array Value) (hw : ∀ d ∈ tables_1, d.before a0 Z = true) (n0 : Nat) (h0 : Heap)  :
    Ct l Z (⟨"dev/typewright/dart/DartFormOfPinLaw", "expToJson", "(IZ)Ljava/lang/String;"⟩ : MethodName) method_6_code 2 (some (.object "java/lang/String")) ({ frames := 0, cells := 2, slots := 8, locals := 0 } : Room) EL1 n0 true [] #[(.int (0 : Int32)), (.int (1 : Int32))] h0 [] (fun v h N => ∃ s b, v = some (.ref s) ∧ Keep h0 h [] ∧ Str Z h s b [118]) := by
  refine Ct.of (a0 := a0) (plainFor_of_name pn_dev_typewright_dart_DartFormOfPinLaw) (own_ew hw) (L0 := #[.val (.int (0 : Int32)), .val (.int (1 : Int32))]) (fun _ => rfl) ?_
  refine Go.iloadN (pc' := 1) dm6_0 rfl rfl ?_
  refine Go.iconst (pc' := 2) 4 dm6_1 rfl rfl ?_
  refine Go.icmpT (pc' := 17) dm6_2 (show ¬ ((0 : Int32) = (4 : Int32)) by decide) (by decide) (by decide) ?_
  refine Go.iloadN (pc' := 18) dm6_17 rfl rfl ?_
  refine Go.iconst (pc' := 19) 5 dm6_18 rfl rfl ?_
  refine Go.icmpT (pc' := 34) dm6_19 (show ¬ ((0 : Int32) = (5 : Int32)) by decide) (by decide) (by decide) ?_
  refine Go.ldcR (pc' := 36) (a1 := a0) 4 (vs := [.int 118]) (z := 1) dm6_34 rfl (wd hw 211 rfl) (own_ws hw) (by decide) (by decide) (by decide) (by decide) rfl (own_ew hw) (List.mem_of_getElem? (i := 20) rfl) ⟨by decide, by decide⟩ (by decide) (by decide) (fun a_1 h_2 b_3 k_4 E_5 X_6 F_7 F_8 A_9 ne_10 => ?_)
  have szh_2 := nle E_5.1
  have lta_1 := nlt X_6.lt
  have ltb_3 := nlt A_9.lt
  have T_11 : Str Z h_2 a_1 b_3 [118] := ⟨X_6, F_7, F_8, k_4, A_9⟩
  refine Go.retA rfl rfl rfl [] sl0 dm6_36 (by decide) (by decide) ?_
  exact ⟨a_1, b_3, rfl, (Keep.ext (Keep.refl _ []) E_5), T_11⟩
theorem ct_expToJson_1_0 (l : Launch) (Z : State) (a0 : Array Value) (hw : ∀ d ∈ tables_1, d.before a0 Z = true) (n0 : Nat) (h0 : Heap)  :
    Ct l Z (⟨"dev/typewright/dart/DartFormOfPinLaw", "expToJson", "(IZ)Ljava/lang/String;"⟩ : MethodName) method_6_code 2 (some (.object "java/lang/String")) ({ frames := 0, cells := 2, slots := 8, locals := 0 } : Room) EL1 n0 true [] #[(.int (1 : Int32)), (.int (0 : Int32))] h0 [] (fun v h N => ∃ s b, v = some (.ref s) ∧ Keep h0 h [] ∧ Str Z h s b [118]) := by
  refine Ct.of (a0 := a0) (plainFor_of_name pn_dev_typewright_dart_DartFormOfPinLaw) (own_ew hw) (L0 := #[.val (.int (1 : Int32)), .val (.int (0 : Int32))]) (fun _ => rfl) ?_
  refine Go.iloadN (pc' := 1) dm6_0 rfl rfl ?_
  refine Go.iconst (pc' := 2) 4 dm6_1 rfl rfl ?_
  refine Go.icmpT (pc' := 17) dm6_2 (show ¬ ((1 : Int32) = (4 : Int32)) by decide) (by decide) (by decide) ?_
  refine Go.iloadN (pc' := 18) dm6_17 rfl rfl ?_
  refine Go.iconst (pc' := 19) 5 dm6_18 rfl rfl ?_
  refine Go.icmpT (pc' := 34) dm6_19 (show ¬ ((1 : Int32) = (5 : Int32)) by decide) (by decide) (by decide) ?_
  refine Go.ldcR (pc' := 36) (a1 := a0) 4 (vs := [.int 118]) (z := 1) dm6_34 rfl (wd hw 211 rfl) (own_ws hw) (by decide) (by decide) (by decide) (by decide) rfl (own_ew hw) (List.mem_of_getElem? (i := 20) rfl) ⟨by decide, by decide⟩ (by decide) (by decide) (fun a_1 h_2 b_3 k_4 E_5 X_6 F_7 F_8 A_9 ne_10 => ?_)
  have szh_2 := nle E_5.1
  have lta_1 := nlt X_6.lt
  have ltb_3 := nlt A_9.lt
  have T_11 : Str Z h_2 a_1 b_3 [118] := ⟨X_6, F_7, F_8, k_4, A_9⟩
  refine Go.retA rfl rfl rfl [] sl0 dm6_36 (by decide) (by decide) ?_
  exact ⟨a_1, b_3, rfl, (Keep.ext (Keep.refl _ []) E_5), T_11⟩
theorem ct_expToJson_1_1 (l : Launch) (Z : State) (a0 : Array Value) (hw : ∀ d ∈ tables_1, d.before a0 Z = true) (n0 : Nat) (h0 : Heap)  :
    Ct l Z (⟨"dev/typewright/dart/DartFormOfPinLaw", "expToJson", "(IZ)Ljava/lang/String;"⟩ : MethodName) method_6_code 2 (some (.object "java/lang/String")) ({ frames := 0, cells := 2, slots := 8, locals := 0 } : Room) EL1 n0 true [] #[(.int (1 : Int32)), (.int (1 : Int32))] h0 [] (fun v h N => ∃ s b, v = some (.ref s) ∧ Keep h0 h [] ∧ Str Z h s b [118]) := by
  refine Ct.of (a0 := a0) (plainFor_of_name pn_dev_typewright_dart_DartFormOfPinLaw) (own_ew hw) (L0 := #[.val (.int (1 : Int32)), .val (.int (1 : Int32))]) (fun _ => rfl) ?_
  refine Go.iloadN (pc' := 1) dm6_0 rfl rfl ?_
  refine Go.iconst (pc' := 2) 4 dm6_1 rfl rfl ?_
  refine Go.icmpT (pc' := 17) dm6_2 (show ¬ ((1 : Int32) = (4 : Int32)) by decide) (by decide) (by decide) ?_
  refine Go.iloadN (pc' := 18) dm6_17 rfl rfl ?_
  refine Go.iconst (pc' := 19) 5 dm6_18 rfl rfl ?_
  refine Go.icmpT (pc' := 34) dm6_19 (show ¬ ((1 : Int32) = (5 : Int32)) by decide) (by decide) (by decide) ?_
  refine Go.ldcR (pc' := 36) (a1 := a0) 4 (vs := [.int 118]) (z := 1) dm6_34 rfl (wd hw 211 rfl) (own_ws hw) (by decide) (by decide) (by decide) (by decide) rfl (own_ew hw) (List.mem_of_getElem? (i := 20) rfl) ⟨by decide, by decide⟩ (by decide) (by decide) (fun a_1 h_2 b_3 k_4 E_5 X_6 F_7 F_8 A_9 ne_10 => ?_)
  have szh_2 := nle E_5.1
  have lta_1 := nlt X_6.lt
  have ltb_3 := nlt A_9.lt
  have T_11 : Str Z h_2 a_1 b_3 [118] := ⟨X_6, F_7, F_8, k_4, A_9⟩
  refine Go.retA rfl rfl rfl [] sl0 dm6_36 (by decide) (by decide) ?_
  exact ⟨a_1, b_3, rfl, (Keep.ext (Keep.refl _ []) E_5), T_11⟩
theorem ct_expToJson_2_0 (l : Launch) (Z : State) (a0 : Array Value) (hw : ∀ d ∈ tables_1, d.before a0 Z = true) (n0 : Nat) (h0 : Heap)  :
    Ct l Z (⟨"dev/typewright/dart/DartFormOfPinLaw", "expToJson", "(IZ)Ljava/lang/String;"⟩ : MethodName) method_6_code 2 (some (.object "java/lang/String")) ({ frames := 0, cells := 2, slots := 8, locals := 0 } : Room) EL1 n0 true [] #[(.int (2 : Int32)), (.int (0 : Int32))] h0 [] (fun v h N => ∃ s b, v = some (.ref s) ∧ Keep h0 h [] ∧ Str Z h s b [118]) := by
  refine Ct.of (a0 := a0) (plainFor_of_name pn_dev_typewright_dart_DartFormOfPinLaw) (own_ew hw) (L0 := #[.val (.int (2 : Int32)), .val (.int (0 : Int32))]) (fun _ => rfl) ?_
  refine Go.iloadN (pc' := 1) dm6_0 rfl rfl ?_
  refine Go.iconst (pc' := 2) 4 dm6_1 rfl rfl ?_
  refine Go.icmpT (pc' := 17) dm6_2 (show ¬ ((2 : Int32) = (4 : Int32)) by decide) (by decide) (by decide) ?_
  refine Go.iloadN (pc' := 18) dm6_17 rfl rfl ?_
  refine Go.iconst (pc' := 19) 5 dm6_18 rfl rfl ?_
  refine Go.icmpT (pc' := 34) dm6_19 (show ¬ ((2 : Int32) = (5 : Int32)) by decide) (by decide) (by decide) ?_
  refine Go.ldcR (pc' := 36) (a1 := a0) 4 (vs := [.int 118]) (z := 1) dm6_34 rfl (wd hw 211 rfl) (own_ws hw) (by decide) (by decide) (by decide) (by decide) rfl (own_ew hw) (List.mem_of_getElem? (i := 20) rfl) ⟨by decide, by decide⟩ (by decide) (by decide) (fun a_1 h_2 b_3 k_4 E_5 X_6 F_7 F_8 A_9 ne_10 => ?_)
  have szh_2 := nle E_5.1
  have lta_1 := nlt X_6.lt
  have ltb_3 := nlt A_9.lt
  have T_11 : Str Z h_2 a_1 b_3 [118] := ⟨X_6, F_7, F_8, k_4, A_9⟩
  refine Go.retA rfl rfl rfl [] sl0 dm6_36 (by decide) (by decide) ?_
  exact ⟨a_1, b_3, rfl, (Keep.ext (Keep.refl _ []) E_5), T_11⟩
theorem ct_expToJson_2_1 (l : Launch) (Z : State) (a0 : Array Value) (hw : ∀ d ∈ tables_1, d.before a0 Z = true) (n0 : Nat) (h0 : Heap)  :
    Ct l Z (⟨"dev/typewright/dart/DartFormOfPinLaw", "expToJson", "(IZ)Ljava/lang/String;"⟩ : MethodName) method_6_code 2 (some (.object "java/lang/String")) ({ frames := 0, cells := 2, slots := 8, locals := 0 } : Room) EL1 n0 true [] #[(.int (2 : Int32)), (.int (1 : Int32))] h0 [] (fun v h N => ∃ s b, v = some (.ref s) ∧ Keep h0 h [] ∧ Str Z h s b [118]) := by
  refine Ct.of (a0 := a0) (plainFor_of_name pn_dev_typewright_dart_DartFormOfPinLaw) (own_ew hw) (L0 := #[.val (.int (2 : Int32)), .val (.int (1 : Int32))]) (fun _ => rfl) ?_
  refine Go.iloadN (pc' := 1) dm6_0 rfl rfl ?_
  refine Go.iconst (pc' := 2) 4 dm6_1 rfl rfl ?_
  refine Go.icmpT (pc' := 17) dm6_2 (show ¬ ((2 : Int32) = (4 : Int32)) by decide) (by decide) (by decide) ?_
  refine Go.iloadN (pc' := 18) dm6_17 rfl rfl ?_
  refine Go.iconst (pc' := 19) 5 dm6_18 rfl rfl ?_
  refine Go.icmpT (pc' := 34) dm6_19 (show ¬ ((2 : Int32) = (5 : Int32)) by decide) (by decide) (by decide) ?_
  refine Go.ldcR (pc' := 36) (a1 := a0) 4 (vs := [.int 118]) (z := 1) dm6_34 rfl (wd hw 211 rfl) (own_ws hw) (by decide) (by decide) (by decide) (by decide) rfl (own_ew hw) (List.mem_of_getElem? (i := 20) rfl) ⟨by decide, by decide⟩ (by decide) (by decide) (fun a_1 h_2 b_3 k_4 E_5 X_6 F_7 F_8 A_9 ne_10 => ?_)
  have szh_2 := nle E_5.1
  have lta_1 := nlt X_6.lt
  have ltb_3 := nlt A_9.lt
  have T_11 : Str Z h_2 a_1 b_3 [118] := ⟨X_6, F_7, F_8, k_4, A_9⟩
  refine Go.retA rfl rfl rfl [] sl0 dm6_36 (by decide) (by decide) ?_
  exact ⟨a_1, b_3, rfl, (Keep.ext (Keep.refl _ []) E_5), T_11⟩
theorem ct_expToJson_3_0 (l : Launch) (Z : State) (a0 : Array Value) (hw : ∀ d ∈ tables_1, d.before a0 Z = true) (n0 : Nat) (h0 : Heap)  :
    Ct l Z (⟨"dev/typewright/dart/DartFormOfPinLaw", "expToJson", "(IZ)Ljava/lang/String;"⟩ : MethodName) method_6_code 2 (some (.object "java/lang/String")) ({ frames := 0, cells := 2, slots := 8, locals := 0 } : Room) EL1 n0 true [] #[(.int (3 : Int32)), (.int (0 : Int32))] h0 [] (fun v h N => ∃ s b, v = some (.ref s) ∧ Keep h0 h [] ∧ Str Z h s b [118]) := by
  refine Ct.of (a0 := a0) (plainFor_of_name pn_dev_typewright_dart_DartFormOfPinLaw) (own_ew hw) (L0 := #[.val (.int (3 : Int32)), .val (.int (0 : Int32))]) (fun _ => rfl) ?_
  refine Go.iloadN (pc' := 1) dm6_0 rfl rfl ?_
  refine Go.iconst (pc' := 2) 4 dm6_1 rfl rfl ?_
  refine Go.icmpT (pc' := 17) dm6_2 (show ¬ ((3 : Int32) = (4 : Int32)) by decide) (by decide) (by decide) ?_
  refine Go.iloadN (pc' := 18) dm6_17 rfl rfl ?_
  refine Go.iconst (pc' := 19) 5 dm6_18 rfl rfl ?_
  refine Go.icmpT (pc' := 34) dm6_19 (show ¬ ((3 : Int32) = (5 : Int32)) by decide) (by decide) (by decide) ?_
  refine Go.ldcR (pc' := 36) (a1 := a0) 4 (vs := [.int 118]) (z := 1) dm6_34 rfl (wd hw 211 rfl) (own_ws hw) (by decide) (by decide) (by decide) (by decide) rfl (own_ew hw) (List.mem_of_getElem? (i := 20) rfl) ⟨by decide, by decide⟩ (by decide) (by decide) (fun a_1 h_2 b_3 k_4 E_5 X_6 F_7 F_8 A_9 ne_10 => ?_)
  have szh_2 := nle E_5.1
  have lta_1 := nlt X_6.lt
  have ltb_3 := nlt A_9.lt
  have T_11 : Str Z h_2 a_1 b_3 [118] := ⟨X_6, F_7, F_8, k_4, A_9⟩
  refine Go.retA rfl rfl rfl [] sl0 dm6_36 (by decide) (by decide) ?_
  exact ⟨a_1, b_3, rfl, (Keep.ext (Keep.refl _ []) E_5), T_11⟩
theorem ct_expToJson_3_1 (l : Launch) (Z : State) (a0 : Array Value) (hw : ∀ d ∈ tables_1, d.before a0 Z = true) (n0 : Nat) (h0 : Heap)  :
    Ct l Z (⟨"dev/typewright/dart/DartFormOfPinLaw", "expToJson", "(IZ)Ljava/lang/String;"⟩ : MethodName) method_6_code 2 (some (.object "java/lang/String")) ({ frames := 0, cells := 2, slots := 8, locals := 0 } : Room) EL1 n0 true [] #[(.int (3 : Int32)), (.int (1 : Int32))] h0 [] (fun v h N => ∃ s b, v = some (.ref s) ∧ Keep h0 h [] ∧ Str Z h s b [118]) := by
  refine Ct.of (a0 := a0) (plainFor_of_name pn_dev_typewright_dart_DartFormOfPinLaw) (own_ew hw) (L0 := #[.val (.int (3 : Int32)), .val (.int (1 : Int32))]) (fun _ => rfl) ?_
  refine Go.iloadN (pc' := 1) dm6_0 rfl rfl ?_
  refine Go.iconst (pc' := 2) 4 dm6_1 rfl rfl ?_
  refine Go.icmpT (pc' := 17) dm6_2 (show ¬ ((3 : Int32) = (4 : Int32)) by decide) (by decide) (by decide) ?_
  refine Go.iloadN (pc' := 18) dm6_17 rfl rfl ?_
  refine Go.iconst (pc' := 19) 5 dm6_18 rfl rfl ?_
  refine Go.icmpT (pc' := 34) dm6_19 (show ¬ ((3 : Int32) = (5 : Int32)) by decide) (by decide) (by decide) ?_
  refine Go.ldcR (pc' := 36) (a1 := a0) 4 (vs := [.int 118]) (z := 1) dm6_34 rfl (wd hw 211 rfl) (own_ws hw) (by decide) (by decide) (by decide) (by decide) rfl (own_ew hw) (List.mem_of_getElem? (i := 20) rfl) ⟨by decide, by decide⟩ (by decide) (by decide) (fun a_1 h_2 b_3 k_4 E_5 X_6 F_7 F_8 A_9 ne_10 => ?_)
  have szh_2 := nle E_5.1
  have lta_1 := nlt X_6.lt
  have ltb_3 := nlt A_9.lt
  have T_11 : Str Z h_2 a_1 b_3 [118] := ⟨X_6, F_7, F_8, k_4, A_9⟩
  refine Go.retA rfl rfl rfl [] sl0 dm6_36 (by decide) (by decide) ?_
  exact ⟨a_1, b_3, rfl, (Keep.ext (Keep.refl _ []) E_5), T_11⟩
theorem dm6_5 : decode method_6_code 5 = .ok (.iload_n 1, 1) := by decide +kernel
theorem dm6_6 : decode method_6_code 6 = .ok (.ifCond .eq 8, 3) := by decide +kernel
theorem dm6_14 : decode method_6_code 14 = .ok (.ldc 132, 2) := by decide +kernel
theorem dm6_16 : decode method_6_code 16 = .ok (.areturn, 1) := by decide +kernel
theorem ct_expToJson_4_0 (l : Launch) (Z : State) (a0 : Array Value) (hw : ∀ d ∈ tables_1, d.before a0 Z = true) (n0 : Nat) (h0 : Heap)  :
    Ct l Z (⟨"dev/typewright/dart/DartFormOfPinLaw", "expToJson", "(IZ)Ljava/lang/String;"⟩ : MethodName) method_6_code 2 (some (.object "java/lang/String")) ({ frames := 0, cells := 2, slots := 148, locals := 0 } : Room) EL1 n0 true [] #[(.int (4 : Int32)), (.int (0 : Int32))] h0 [] (fun v h N => ∃ s b, v = some (.ref s) ∧ Keep h0 h [] ∧ Str Z h s b [118, 46, 116, 111, 73, 115, 111, 56, 54, 48, 49, 83, 116, 114, 105, 110, 103, 40, 41, 46, 115, 117, 98, 115, 116, 114, 105, 110, 103, 40, 48, 44, 32, 49, 48, 41]) := by
  refine Ct.of (a0 := a0) (plainFor_of_name pn_dev_typewright_dart_DartFormOfPinLaw) (own_ew hw) (L0 := #[.val (.int (4 : Int32)), .val (.int (0 : Int32))]) (fun _ => rfl) ?_
  refine Go.iloadN (pc' := 1) dm6_0 rfl rfl ?_
  refine Go.iconst (pc' := 2) 4 dm6_1 rfl rfl ?_
  refine Go.icmpF (pc' := 5) dm6_2 (show (4 : Int32) = (4 : Int32) by decide) rfl ?_
  refine Go.iloadN (pc' := 6) dm6_5 rfl rfl ?_
  refine Go.ifT (pc' := 14) dm6_6 (show (0 : Int32) = (0 : Int32) by decide) (by decide) (by decide) ?_
  refine Go.ldcR (pc' := 16) (a1 := a0) 144 (vs := [.int 118, .int 46, .int 116, .int 111, .int 73, .int 115, .int 111, .int 56, .int 54, .int 48, .int 49, .int 83, .int 116, .int 114, .int 105, .int 110, .int 103, .int 40, .int 41, .int 46, .int 115, .int 117, .int 98, .int 115, .int 116, .int 114, .int 105, .int 110, .int 103, .int 40, .int 48, .int 44, .int 32, .int 49, .int 48, .int 41]) (z := 36) dm6_14 rfl (wd hw 369 rfl) (own_ws hw) (by decide) (by decide) (by decide) (by decide) rfl (own_ew hw) (List.mem_of_getElem? (i := 42) rfl) ⟨by decide, by decide⟩ (by decide) (by decide) (fun a_1 h_2 b_3 k_4 E_5 X_6 F_7 F_8 A_9 ne_10 => ?_)
  have szh_2 := nle E_5.1
  have lta_1 := nlt X_6.lt
  have ltb_3 := nlt A_9.lt
  have T_11 : Str Z h_2 a_1 b_3 [118, 46, 116, 111, 73, 115, 111, 56, 54, 48, 49, 83, 116, 114, 105, 110, 103, 40, 41, 46, 115, 117, 98, 115, 116, 114, 105, 110, 103, 40, 48, 44, 32, 49, 48, 41] := ⟨X_6, F_7, F_8, k_4, A_9⟩
  refine Go.retA rfl rfl rfl [] sl0 dm6_16 (by decide) (by decide) ?_
  exact ⟨a_1, b_3, rfl, (Keep.ext (Keep.refl _ []) E_5), T_11⟩
theorem dm6_9 : decode method_6_code 9 = .ok (.ldc 130, 2) := by decide +kernel
theorem dm6_11 : decode method_6_code 11 = .ok (.goto 5, 3) := by decide +kernel
theorem ct_expToJson_4_1 (l : Launch) (Z : State) (a0 : Array Value) (hw : ∀ d ∈ tables_1, d.before a0 Z = true) (n0 : Nat) (h0 : Heap)  :
    Ct l Z (⟨"dev/typewright/dart/DartFormOfPinLaw", "expToJson", "(IZ)Ljava/lang/String;"⟩ : MethodName) method_6_code 2 (some (.object "java/lang/String")) ({ frames := 0, cells := 2, slots := 152, locals := 0 } : Room) EL1 n0 true [] #[(.int (4 : Int32)), (.int (1 : Int32))] h0 [] (fun v h N => ∃ s b, v = some (.ref s) ∧ Keep h0 h [] ∧ Str Z h s b [118, 63, 46, 116, 111, 73, 115, 111, 56, 54, 48, 49, 83, 116, 114, 105, 110, 103, 40, 41, 46, 115, 117, 98, 115, 116, 114, 105, 110, 103, 40, 48, 44, 32, 49, 48, 41]) := by
  refine Ct.of (a0 := a0) (plainFor_of_name pn_dev_typewright_dart_DartFormOfPinLaw) (own_ew hw) (L0 := #[.val (.int (4 : Int32)), .val (.int (1 : Int32))]) (fun _ => rfl) ?_
  refine Go.iloadN (pc' := 1) dm6_0 rfl rfl ?_
  refine Go.iconst (pc' := 2) 4 dm6_1 rfl rfl ?_
  refine Go.icmpF (pc' := 5) dm6_2 (show (4 : Int32) = (4 : Int32) by decide) rfl ?_
  refine Go.iloadN (pc' := 6) dm6_5 rfl rfl ?_
  refine Go.ifF (pc' := 9) dm6_6 (show ¬ ((1 : Int32) = (0 : Int32)) by decide) rfl ?_
  refine Go.ldcR (pc' := 11) (a1 := a0) 148 (vs := [.int 118, .int 63, .int 46, .int 116, .int 111, .int 73, .int 115, .int 111, .int 56, .int 54, .int 48, .int 49, .int 83, .int 116, .int 114, .int 105, .int 110, .int 103, .int 40, .int 41, .int 46, .int 115, .int 117, .int 98, .int 115, .int 116, .int 114, .int 105, .int 110, .int 103, .int 40, .int 48, .int 44, .int 32, .int 49, .int 48, .int 41]) (z := 37) dm6_9 rfl (wd hw 384 rfl) (own_ws hw) (by decide) (by decide) (by decide) (by decide) rfl (own_ew hw) (List.mem_of_getElem? (i := 41) rfl) ⟨by decide, by decide⟩ (by decide) (by decide) (fun a_1 h_2 b_3 k_4 E_5 X_6 F_7 F_8 A_9 ne_10 => ?_)
  have szh_2 := nle E_5.1
  have lta_1 := nlt X_6.lt
  have ltb_3 := nlt A_9.lt
  have T_11 : Str Z h_2 a_1 b_3 [118, 63, 46, 116, 111, 73, 115, 111, 56, 54, 48, 49, 83, 116, 114, 105, 110, 103, 40, 41, 46, 115, 117, 98, 115, 116, 114, 105, 110, 103, 40, 48, 44, 32, 49, 48, 41] := ⟨X_6, F_7, F_8, k_4, A_9⟩
  refine Go.goto (pc' := 16) dm6_11 (by decide) (by decide) ?_
  refine Go.retA rfl rfl rfl [] sl0 dm6_16 (by decide) (by decide) ?_
  exact ⟨a_1, b_3, rfl, (Keep.ext (Keep.refl _ []) E_5), T_11⟩
theorem dm6_22 : decode method_6_code 22 = .ok (.iload_n 1, 1) := by decide +kernel
theorem dm6_23 : decode method_6_code 23 = .ok (.ifCond .eq 8, 3) := by decide +kernel
theorem dm6_31 : decode method_6_code 31 = .ok (.ldc 136, 2) := by decide +kernel
theorem dm6_33 : decode method_6_code 33 = .ok (.areturn, 1) := by decide +kernel
theorem ct_expToJson_5_0 (l : Launch) (Z : State) (a0 : Array Value) (hw : ∀ d ∈ tables_1, d.before a0 Z = true) (n0 : Nat) (h0 : Heap)  :
    Ct l Z (⟨"dev/typewright/dart/DartFormOfPinLaw", "expToJson", "(IZ)Ljava/lang/String;"⟩ : MethodName) method_6_code 2 (some (.object "java/lang/String")) ({ frames := 0, cells := 2, slots := 80, locals := 0 } : Room) EL1 n0 true [] #[(.int (5 : Int32)), (.int (0 : Int32))] h0 [] (fun v h N => ∃ s b, v = some (.ref s) ∧ Keep h0 h [] ∧ Str Z h s b [118, 46, 116, 111, 73, 115, 111, 56, 54, 48, 49, 83, 116, 114, 105, 110, 103, 40, 41]) := by
  refine Ct.of (a0 := a0) (plainFor_of_name pn_dev_typewright_dart_DartFormOfPinLaw) (own_ew hw) (L0 := #[.val (.int (5 : Int32)), .val (.int (0 : Int32))]) (fun _ => rfl) ?_
  refine Go.iloadN (pc' := 1) dm6_0 rfl rfl ?_
  refine Go.iconst (pc' := 2) 4 dm6_1 rfl rfl ?_
  refine Go.icmpT (pc' := 17) dm6_2 (show ¬ ((5 : Int32) = (4 : Int32)) by decide) (by decide) (by decide) ?_
  refine Go.iloadN (pc' := 18) dm6_17 rfl rfl ?_
  refine Go.iconst (pc' := 19) 5 dm6_18 rfl rfl ?_
  refine Go.icmpF (pc' := 22) dm6_19 (show (5 : Int32) = (5 : Int32) by decide) rfl ?_
  refine Go.iloadN (pc' := 23) dm6_22 rfl rfl ?_
  refine Go.ifT (pc' := 31) dm6_23 (show (0 : Int32) = (0 : Int32) by decide) (by decide) (by decide) ?_
  refine Go.ldcR (pc' := 33) (a1 := a0) 76 (vs := [.int 118, .int 46, .int 116, .int 111, .int 73, .int 115, .int 111, .int 56, .int 54, .int 48, .int 49, .int 83, .int 116, .int 114, .int 105, .int 110, .int 103, .int 40, .int 41]) (z := 19) dm6_31 rfl (wd hw 396 rfl) (own_ws hw) (by decide) (by decide) (by decide) (by decide) rfl (own_ew hw) (List.mem_of_getElem? (i := 44) rfl) ⟨by decide, by decide⟩ (by decide) (by decide) (fun a_1 h_2 b_3 k_4 E_5 X_6 F_7 F_8 A_9 ne_10 => ?_)
  have szh_2 := nle E_5.1
  have lta_1 := nlt X_6.lt
  have ltb_3 := nlt A_9.lt
  have T_11 : Str Z h_2 a_1 b_3 [118, 46, 116, 111, 73, 115, 111, 56, 54, 48, 49, 83, 116, 114, 105, 110, 103, 40, 41] := ⟨X_6, F_7, F_8, k_4, A_9⟩
  refine Go.retA rfl rfl rfl [] sl0 dm6_33 (by decide) (by decide) ?_
  exact ⟨a_1, b_3, rfl, (Keep.ext (Keep.refl _ []) E_5), T_11⟩
theorem dm6_26 : decode method_6_code 26 = .ok (.ldc 134, 2) := by decide +kernel
theorem dm6_28 : decode method_6_code 28 = .ok (.goto 5, 3) := by decide +kernel
theorem ct_expToJson_5_1 (l : Launch) (Z : State) (a0 : Array Value) (hw : ∀ d ∈ tables_1, d.before a0 Z = true) (n0 : Nat) (h0 : Heap)  :
    Ct l Z (⟨"dev/typewright/dart/DartFormOfPinLaw", "expToJson", "(IZ)Ljava/lang/String;"⟩ : MethodName) method_6_code 2 (some (.object "java/lang/String")) ({ frames := 0, cells := 2, slots := 84, locals := 0 } : Room) EL1 n0 true [] #[(.int (5 : Int32)), (.int (1 : Int32))] h0 [] (fun v h N => ∃ s b, v = some (.ref s) ∧ Keep h0 h [] ∧ Str Z h s b [118, 63, 46, 116, 111, 73, 115, 111, 56, 54, 48, 49, 83, 116, 114, 105, 110, 103, 40, 41]) := by
  refine Ct.of (a0 := a0) (plainFor_of_name pn_dev_typewright_dart_DartFormOfPinLaw) (own_ew hw) (L0 := #[.val (.int (5 : Int32)), .val (.int (1 : Int32))]) (fun _ => rfl) ?_
  refine Go.iloadN (pc' := 1) dm6_0 rfl rfl ?_
  refine Go.iconst (pc' := 2) 4 dm6_1 rfl rfl ?_
  refine Go.icmpT (pc' := 17) dm6_2 (show ¬ ((5 : Int32) = (4 : Int32)) by decide) (by decide) (by decide) ?_
  refine Go.iloadN (pc' := 18) dm6_17 rfl rfl ?_
  refine Go.iconst (pc' := 19) 5 dm6_18 rfl rfl ?_
  refine Go.icmpF (pc' := 22) dm6_19 (show (5 : Int32) = (5 : Int32) by decide) rfl ?_
  refine Go.iloadN (pc' := 23) dm6_22 rfl rfl ?_
  refine Go.ifF (pc' := 26) dm6_23 (show ¬ ((1 : Int32) = (0 : Int32)) by decide) rfl ?_
  refine Go.ldcR (pc' := 28) (a1 := a0) 80 (vs := [.int 118, .int 63, .int 46, .int 116, .int 111, .int 73, .int 115, .int 111, .int 56, .int 54, .int 48, .int 49, .int 83, .int 116, .int 114, .int 105, .int 110, .int 103, .int 40, .int 41]) (z := 20) dm6_26 rfl (wd hw 394 rfl) (own_ws hw) (by decide) (by decide) (by decide) (by decide) rfl (own_ew hw) (List.mem_of_getElem? (i := 43) rfl) ⟨by decide, by decide⟩ (by decide) (by decide) (fun a_1 h_2 b_3 k_4 E_5 X_6 F_7 F_8 A_9 ne_10 => ?_)
  have szh_2 := nle E_5.1
  have lta_1 := nlt X_6.lt
  have ltb_3 := nlt A_9.lt
  have T_11 : Str Z h_2 a_1 b_3 [118, 63, 46, 116, 111, 73, 115, 111, 56, 54, 48, 49, 83, 116, 114, 105, 110, 103, 40, 41] := ⟨X_6, F_7, F_8, k_4, A_9⟩
  refine Go.goto (pc' := 33) dm6_28 (by decide) (by decide) ?_
  refine Go.retA rfl rfl rfl [] sl0 dm6_33 (by decide) (by decide) ?_
  exact ⟨a_1, b_3, rfl, (Keep.ext (Keep.refl _ []) E_5), T_11⟩
theorem ct_expToJson_6_0 (l : Launch) (Z : State) (a0 : Array Value) (hw : ∀ d ∈ tables_1, d.before a0 Z = true) (n0 : Nat) (h0 : Heap)  :
    Ct l Z (⟨"dev/typewright/dart/DartFormOfPinLaw", "expToJson", "(IZ)Ljava/lang/String;"⟩ : MethodName) method_6_code 2 (some (.object "java/lang/String")) ({ frames := 0, cells := 2, slots := 8, locals := 0 } : Room) EL1 n0 true [] #[(.int (6 : Int32)), (.int (0 : Int32))] h0 [] (fun v h N => ∃ s b, v = some (.ref s) ∧ Keep h0 h [] ∧ Str Z h s b [118]) := by
  refine Ct.of (a0 := a0) (plainFor_of_name pn_dev_typewright_dart_DartFormOfPinLaw) (own_ew hw) (L0 := #[.val (.int (6 : Int32)), .val (.int (0 : Int32))]) (fun _ => rfl) ?_
  refine Go.iloadN (pc' := 1) dm6_0 rfl rfl ?_
  refine Go.iconst (pc' := 2) 4 dm6_1 rfl rfl ?_
  refine Go.icmpT (pc' := 17) dm6_2 (show ¬ ((6 : Int32) = (4 : Int32)) by decide) (by decide) (by decide) ?_
  refine Go.iloadN (pc' := 18) dm6_17 rfl rfl ?_
  refine Go.iconst (pc' := 19) 5 dm6_18 rfl rfl ?_
  refine Go.icmpT (pc' := 34) dm6_19 (show ¬ ((6 : Int32) = (5 : Int32)) by decide) (by decide) (by decide) ?_
  refine Go.ldcR (pc' := 36) (a1 := a0) 4 (vs := [.int 118]) (z := 1) dm6_34 rfl (wd hw 211 rfl) (own_ws hw) (by decide) (by decide) (by decide) (by decide) rfl (own_ew hw) (List.mem_of_getElem? (i := 20) rfl) ⟨by decide, by decide⟩ (by decide) (by decide) (fun a_1 h_2 b_3 k_4 E_5 X_6 F_7 F_8 A_9 ne_10 => ?_)
  have szh_2 := nle E_5.1
  have lta_1 := nlt X_6.lt
  have ltb_3 := nlt A_9.lt
  have T_11 : Str Z h_2 a_1 b_3 [118] := ⟨X_6, F_7, F_8, k_4, A_9⟩
  refine Go.retA rfl rfl rfl [] sl0 dm6_36 (by decide) (by decide) ?_
  exact ⟨a_1, b_3, rfl, (Keep.ext (Keep.refl _ []) E_5), T_11⟩
theorem ct_expToJson_6_1 (l : Launch) (Z : State) (a0 : Array Value) (hw : ∀ d ∈ tables_1, d.before a0 Z = true) (n0 : Nat) (h0 : Heap)  :
    Ct l Z (⟨"dev/typewright/dart/DartFormOfPinLaw", "expToJson", "(IZ)Ljava/lang/String;"⟩ : MethodName) method_6_code 2 (some (.object "java/lang/String")) ({ frames := 0, cells := 2, slots := 8, locals := 0 } : Room) EL1 n0 true [] #[(.int (6 : Int32)), (.int (1 : Int32))] h0 [] (fun v h N => ∃ s b, v = some (.ref s) ∧ Keep h0 h [] ∧ Str Z h s b [118]) := by
  refine Ct.of (a0 := a0) (plainFor_of_name pn_dev_typewright_dart_DartFormOfPinLaw) (own_ew hw) (L0 := #[.val (.int (6 : Int32)), .val (.int (1 : Int32))]) (fun _ => rfl) ?_
  refine Go.iloadN (pc' := 1) dm6_0 rfl rfl ?_
  refine Go.iconst (pc' := 2) 4 dm6_1 rfl rfl ?_
  refine Go.icmpT (pc' := 17) dm6_2 (show ¬ ((6 : Int32) = (4 : Int32)) by decide) (by decide) (by decide) ?_
  refine Go.iloadN (pc' := 18) dm6_17 rfl rfl ?_
  refine Go.iconst (pc' := 19) 5 dm6_18 rfl rfl ?_
  refine Go.icmpT (pc' := 34) dm6_19 (show ¬ ((6 : Int32) = (5 : Int32)) by decide) (by decide) (by decide) ?_
  refine Go.ldcR (pc' := 36) (a1 := a0) 4 (vs := [.int 118]) (z := 1) dm6_34 rfl (wd hw 211 rfl) (own_ws hw) (by decide) (by decide) (by decide) (by decide) rfl (own_ew hw) (List.mem_of_getElem? (i := 20) rfl) ⟨by decide, by decide⟩ (by decide) (by decide) (fun a_1 h_2 b_3 k_4 E_5 X_6 F_7 F_8 A_9 ne_10 => ?_)
  have szh_2 := nle E_5.1
  have lta_1 := nlt X_6.lt
  have ltb_3 := nlt A_9.lt
  have T_11 : Str Z h_2 a_1 b_3 [118] := ⟨X_6, F_7, F_8, k_4, A_9⟩
  refine Go.retA rfl rfl rfl [] sl0 dm6_36 (by decide) (by decide) ?_
  exact ⟨a_1, b_3, rfl, (Keep.ext (Keep.refl _ []) E_5), T_11⟩
theorem dm7_0 : decode method_7_code 0 = .ok (.iload_n 0, 1) := by decide +kernel
theorem dm7_1 : decode method_7_code 1 = .ok (.ifCond .ne 6, 3) := by decide +kernel
theorem dm7_4 : decode method_7_code 4 = .ok (.ldc 92, 2) := by decide +kernel
theorem dm7_6 : decode method_7_code 6 = .ok (.areturn, 1) := by decide +kernel
theorem ct_expDecoded_0 (l : Launch) (Z : State) (a0 : Array Value) (hw : ∀ d ∈ tables_1, d.before a0 Z = true) (n0 : Nat) (h0 : Heap)  :
    Ct l Z (⟨"dev/typewright/dart/DartFormOfPinLaw", "expDecoded", "(I)Ljava/lang/String;"⟩ : MethodName) method_7_code 1 (some (.object "java/lang/String")) ({ frames := 0, cells := 2, slots := 16, locals := 0 } : Room) EL1 n0 true [] #[(.int (0 : Int32))] h0 [] (fun v h N => ∃ s b, v = some (.ref s) ∧ Keep h0 h [] ∧ Str Z h s b [105, 110, 116]) := by
  refine Ct.of (a0 := a0) (plainFor_of_name pn_dev_typewright_dart_DartFormOfPinLaw) (own_ew hw) (L0 := #[.val (.int (0 : Int32))]) (fun _ => rfl) ?_
  refine Go.iloadN (pc' := 1) dm7_0 rfl rfl ?_
  refine Go.ifF (pc' := 4) dm7_1 (show (0 : Int32) = (0 : Int32) by decide) rfl ?_
  refine Go.ldcR (pc' := 6) (a1 := a0) 12 (vs := [.int 105, .int 110, .int 116]) (z := 3) dm7_4 rfl (wd hw 234 rfl) (own_ws hw) (by decide) (by decide) (by decide) (by decide) rfl (own_ew hw) (List.mem_of_getElem? (i := 22) rfl) ⟨by decide, by decide⟩ (by decide) (by decide) (fun a_1 h_2 b_3 k_4 E_5 X_6 F_7 F_8 A_9 ne_10 => ?_)
  have szh_2 := nle E_5.1
  have lta_1 := nlt X_6.lt
  have ltb_3 := nlt A_9.lt
  have T_11 : Str Z h_2 a_1 b_3 [105, 110, 116] := ⟨X_6, F_7, F_8, k_4, A_9⟩
  refine Go.retA rfl rfl rfl [] sl0 dm7_6 (by decide) (by decide) ?_
  exact ⟨a_1, b_3, rfl, (Keep.ext (Keep.refl _ []) E_5), T_11⟩
theorem dm7_7 : decode method_7_code 7 = .ok (.iload_n 0, 1) := by decide +kernel
theorem dm7_8 : decode method_7_code 8 = .ok (.iconst 1, 1) := by decide +kernel
theorem dm7_9 : decode method_7_code 9 = .ok (.if_icmp .ne 6, 3) := by decide +kernel
theorem dm7_12 : decode method_7_code 12 = .ok (.ldc 138, 2) := by decide +kernel
theorem dm7_14 : decode method_7_code 14 = .ok (.areturn, 1) := by decide +kernel
theorem ct_expDecoded_1 (l : Launch) (Z : State) (a0 : Array Value) (hw : ∀ d ∈ tables_1, d.before a0 Z = true) (n0 : Nat) (h0 : Heap)  :
    Ct l Z (⟨"dev/typewright/dart/DartFormOfPinLaw", "expDecoded", "(I)Ljava/lang/String;"⟩ : MethodName) method_7_code 1 (some (.object "java/lang/String")) ({ frames := 0, cells := 2, slots := 16, locals := 0 } : Room) EL1 n0 true [] #[(.int (1 : Int32))] h0 [] (fun v h N => ∃ s b, v = some (.ref s) ∧ Keep h0 h [] ∧ Str Z h s b [110, 117, 109]) := by
  refine Ct.of (a0 := a0) (plainFor_of_name pn_dev_typewright_dart_DartFormOfPinLaw) (own_ew hw) (L0 := #[.val (.int (1 : Int32))]) (fun _ => rfl) ?_
  refine Go.iloadN (pc' := 1) dm7_0 rfl rfl ?_
  refine Go.ifT (pc' := 7) dm7_1 (show ¬ ((1 : Int32) = (0 : Int32)) by decide) (by decide) (by decide) ?_
  refine Go.iloadN (pc' := 8) dm7_7 rfl rfl ?_
  refine Go.iconst (pc' := 9) 1 dm7_8 rfl rfl ?_
  refine Go.icmpF (pc' := 12) dm7_9 (show (1 : Int32) = (1 : Int32) by decide) rfl ?_
  refine Go.ldcR (pc' := 14) (a1 := a0) 12 (vs := [.int 110, .int 117, .int 109]) (z := 3) dm7_12 rfl (wd hw 310 rfl) (own_ws hw) (by decide) (by decide) (by decide) (by decide) rfl (own_ew hw) (List.mem_of_getElem? (i := 45) rfl) ⟨by decide, by decide⟩ (by decide) (by decide) (fun a_1 h_2 b_3 k_4 E_5 X_6 F_7 F_8 A_9 ne_10 => ?_)
  have szh_2 := nle E_5.1
  have lta_1 := nlt X_6.lt
  have ltb_3 := nlt A_9.lt
  have T_11 : Str Z h_2 a_1 b_3 [110, 117, 109] := ⟨X_6, F_7, F_8, k_4, A_9⟩
  refine Go.retA rfl rfl rfl [] sl0 dm7_14 (by decide) (by decide) ?_
  exact ⟨a_1, b_3, rfl, (Keep.ext (Keep.refl _ []) E_5), T_11⟩
theorem dm7_15 : decode method_7_code 15 = .ok (.iload_n 0, 1) := by decide +kernel
theorem dm7_16 : decode method_7_code 16 = .ok (.iconst 3, 1) := by decide +kernel
theorem dm7_17 : decode method_7_code 17 = .ok (.if_icmp .ne 6, 3) := by decide +kernel
theorem dm7_23 : decode method_7_code 23 = .ok (.ldc 108, 2) := by decide +kernel
theorem dm7_25 : decode method_7_code 25 = .ok (.areturn, 1) := by decide +kernel
theorem ct_expDecoded_2 (l : Launch) (Z : State) (a0 : Array Value) (hw : ∀ d ∈ tables_1, d.before a0 Z = true) (n0 : Nat) (h0 : Heap)  :
    Ct l Z (⟨"dev/typewright/dart/DartFormOfPinLaw", "expDecoded", "(I)Ljava/lang/String;"⟩ : MethodName) method_7_code 1 (some (.object "java/lang/String")) ({ frames := 0, cells := 2, slots := 28, locals := 0 } : Room) EL1 n0 true [] #[(.int (2 : Int32))] h0 [] (fun v h N => ∃ s b, v = some (.ref s) ∧ Keep h0 h [] ∧ Str Z h s b [83, 116, 114, 105, 110, 103]) := by
  refine Ct.of (a0 := a0) (plainFor_of_name pn_dev_typewright_dart_DartFormOfPinLaw) (own_ew hw) (L0 := #[.val (.int (2 : Int32))]) (fun _ => rfl) ?_
  refine Go.iloadN (pc' := 1) dm7_0 rfl rfl ?_
  refine Go.ifT (pc' := 7) dm7_1 (show ¬ ((2 : Int32) = (0 : Int32)) by decide) (by decide) (by decide) ?_
  refine Go.iloadN (pc' := 8) dm7_7 rfl rfl ?_
  refine Go.iconst (pc' := 9) 1 dm7_8 rfl rfl ?_
  refine Go.icmpT (pc' := 15) dm7_9 (show ¬ ((2 : Int32) = (1 : Int32)) by decide) (by decide) (by decide) ?_
  refine Go.iloadN (pc' := 16) dm7_15 rfl rfl ?_
  refine Go.iconst (pc' := 17) 3 dm7_16 rfl rfl ?_
  refine Go.icmpT (pc' := 23) dm7_17 (show ¬ ((2 : Int32) = (3 : Int32)) by decide) (by decide) (by decide) ?_
  refine Go.ldcR (pc' := 25) (a1 := a0) 24 (vs := [.int 83, .int 116, .int 114, .int 105, .int 110, .int 103]) (z := 6) dm7_23 rfl (wd hw 376 rfl) (own_ws hw) (by decide) (by decide) (by decide) (by decide) rfl (own_ew hw) (List.mem_of_getElem? (i := 30) rfl) ⟨by decide, by decide⟩ (by decide) (by decide) (fun a_1 h_2 b_3 k_4 E_5 X_6 F_7 F_8 A_9 ne_10 => ?_)
  have szh_2 := nle E_5.1
  have lta_1 := nlt X_6.lt
  have ltb_3 := nlt A_9.lt
  have T_11 : Str Z h_2 a_1 b_3 [83, 116, 114, 105, 110, 103] := ⟨X_6, F_7, F_8, k_4, A_9⟩
  refine Go.retA rfl rfl rfl [] sl0 dm7_25 (by decide) (by decide) ?_
  exact ⟨a_1, b_3, rfl, (Keep.ext (Keep.refl _ []) E_5), T_11⟩
theorem dm7_20 : decode method_7_code 20 = .ok (.ldc 100, 2) := by decide +kernel
theorem dm7_22 : decode method_7_code 22 = .ok (.areturn, 1) := by decide +kernel
theorem ct_expDecoded_3 (l : Launch) (Z : State) (a0 : Array Value) (hw : ∀ d ∈ tables_1, d.before a0 Z = true) (n0 : Nat) (h0 : Heap)  :
    Ct l Z (⟨"dev/typewright/dart/DartFormOfPinLaw", "expDecoded", "(I)Ljava/lang/String;"⟩ : MethodName) method_7_code 1 (some (.object "java/lang/String")) ({ frames := 0, cells := 2, slots := 20, locals := 0 } : Room) EL1 n0 true [] #[(.int (3 : Int32))] h0 [] (fun v h N => ∃ s b, v = some (.ref s) ∧ Keep h0 h [] ∧ Str Z h s b [98, 111, 111, 108]) := by
  refine Ct.of (a0 := a0) (plainFor_of_name pn_dev_typewright_dart_DartFormOfPinLaw) (own_ew hw) (L0 := #[.val (.int (3 : Int32))]) (fun _ => rfl) ?_
  refine Go.iloadN (pc' := 1) dm7_0 rfl rfl ?_
  refine Go.ifT (pc' := 7) dm7_1 (show ¬ ((3 : Int32) = (0 : Int32)) by decide) (by decide) (by decide) ?_
  refine Go.iloadN (pc' := 8) dm7_7 rfl rfl ?_
  refine Go.iconst (pc' := 9) 1 dm7_8 rfl rfl ?_
  refine Go.icmpT (pc' := 15) dm7_9 (show ¬ ((3 : Int32) = (1 : Int32)) by decide) (by decide) (by decide) ?_
  refine Go.iloadN (pc' := 16) dm7_15 rfl rfl ?_
  refine Go.iconst (pc' := 17) 3 dm7_16 rfl rfl ?_
  refine Go.icmpF (pc' := 20) dm7_17 (show (3 : Int32) = (3 : Int32) by decide) rfl ?_
  refine Go.ldcR (pc' := 22) (a1 := a0) 16 (vs := [.int 98, .int 111, .int 111, .int 108]) (z := 4) dm7_20 rfl (wd hw 251 rfl) (own_ws hw) (by decide) (by decide) (by decide) (by decide) rfl (own_ew hw) (List.mem_of_getElem? (i := 26) rfl) ⟨by decide, by decide⟩ (by decide) (by decide) (fun a_1 h_2 b_3 k_4 E_5 X_6 F_7 F_8 A_9 ne_10 => ?_)
  have szh_2 := nle E_5.1
  have lta_1 := nlt X_6.lt
  have ltb_3 := nlt A_9.lt
  have T_11 : Str Z h_2 a_1 b_3 [98, 111, 111, 108] := ⟨X_6, F_7, F_8, k_4, A_9⟩
  refine Go.retA rfl rfl rfl [] sl0 dm7_22 (by decide) (by decide) ?_
  exact ⟨a_1, b_3, rfl, (Keep.ext (Keep.refl _ []) E_5), T_11⟩
theorem ct_expDecoded_4 (l : Launch) (Z : State) (a0 : Array Value) (hw : ∀ d ∈ tables_1, d.before a0 Z = true) (n0 : Nat) (h0 : Heap)  :
    Ct l Z (⟨"dev/typewright/dart/DartFormOfPinLaw", "expDecoded", "(I)Ljava/lang/String;"⟩ : MethodName) method_7_code 1 (some (.object "java/lang/String")) ({ frames := 0, cells := 2, slots := 28, locals := 0 } : Room) EL1 n0 true [] #[(.int (4 : Int32))] h0 [] (fun v h N => ∃ s b, v = some (.ref s) ∧ Keep h0 h [] ∧ Str Z h s b [83, 116, 114, 105, 110, 103]) := by
  refine Ct.of (a0 := a0) (plainFor_of_name pn_dev_typewright_dart_DartFormOfPinLaw) (own_ew hw) (L0 := #[.val (.int (4 : Int32))]) (fun _ => rfl) ?_
  refine Go.iloadN (pc' := 1) dm7_0 rfl rfl ?_
  refine Go.ifT (pc' := 7) dm7_1 (show ¬ ((4 : Int32) = (0 : Int32)) by decide) (by decide) (by decide) ?_
  refine Go.iloadN (pc' := 8) dm7_7 rfl rfl ?_
  refine Go.iconst (pc' := 9) 1 dm7_8 rfl rfl ?_
  refine Go.icmpT (pc' := 15) dm7_9 (show ¬ ((4 : Int32) = (1 : Int32)) by decide) (by decide) (by decide) ?_
  refine Go.iloadN (pc' := 16) dm7_15 rfl rfl ?_
  refine Go.iconst (pc' := 17) 3 dm7_16 rfl rfl ?_
  refine Go.icmpT (pc' := 23) dm7_17 (show ¬ ((4 : Int32) = (3 : Int32)) by decide) (by decide) (by decide) ?_
  refine Go.ldcR (pc' := 25) (a1 := a0) 24 (vs := [.int 83, .int 116, .int 114, .int 105, .int 110, .int 103]) (z := 6) dm7_23 rfl (wd hw 376 rfl) (own_ws hw) (by decide) (by decide) (by decide) (by decide) rfl (own_ew hw) (List.mem_of_getElem? (i := 30) rfl) ⟨by decide, by decide⟩ (by decide) (by decide) (fun a_1 h_2 b_3 k_4 E_5 X_6 F_7 F_8 A_9 ne_10 => ?_)
  have szh_2 := nle E_5.1
  have lta_1 := nlt X_6.lt
  have ltb_3 := nlt A_9.lt
  have T_11 : Str Z h_2 a_1 b_3 [83, 116, 114, 105, 110, 103] := ⟨X_6, F_7, F_8, k_4, A_9⟩
  refine Go.retA rfl rfl rfl [] sl0 dm7_25 (by decide) (by decide) ?_
  exact ⟨a_1, b_3, rfl, (Keep.ext (Keep.refl _ []) E_5), T_11⟩
theorem ct_expDecoded_5 (l : Launch) (Z : State) (a0 : Array Value) (hw : ∀ d ∈ tables_1, d.before a0 Z = true) (n0 : Nat) (h0 : Heap)  :
    Ct l Z (⟨"dev/typewright/dart/DartFormOfPinLaw", "expDecoded", "(I)Ljava/lang/String;"⟩ : MethodName) method_7_code 1 (some (.object "java/lang/String")) ({ frames := 0, cells := 2, slots := 28, locals := 0 } : Room) EL1 n0 true [] #[(.int (5 : Int32))] h0 [] (fun v h N => ∃ s b, v = some (.ref s) ∧ Keep h0 h [] ∧ Str Z h s b [83, 116, 114, 105, 110, 103]) := by
  refine Ct.of (a0 := a0) (plainFor_of_name pn_dev_typewright_dart_DartFormOfPinLaw) (own_ew hw) (L0 := #[.val (.int (5 : Int32))]) (fun _ => rfl) ?_
  refine Go.iloadN (pc' := 1) dm7_0 rfl rfl ?_
  refine Go.ifT (pc' := 7) dm7_1 (show ¬ ((5 : Int32) = (0 : Int32)) by decide) (by decide) (by decide) ?_
  refine Go.iloadN (pc' := 8) dm7_7 rfl rfl ?_
  refine Go.iconst (pc' := 9) 1 dm7_8 rfl rfl ?_
  refine Go.icmpT (pc' := 15) dm7_9 (show ¬ ((5 : Int32) = (1 : Int32)) by decide) (by decide) (by decide) ?_
  refine Go.iloadN (pc' := 16) dm7_15 rfl rfl ?_
  refine Go.iconst (pc' := 17) 3 dm7_16 rfl rfl ?_
  refine Go.icmpT (pc' := 23) dm7_17 (show ¬ ((5 : Int32) = (3 : Int32)) by decide) (by decide) (by decide) ?_
  refine Go.ldcR (pc' := 25) (a1 := a0) 24 (vs := [.int 83, .int 116, .int 114, .int 105, .int 110, .int 103]) (z := 6) dm7_23 rfl (wd hw 376 rfl) (own_ws hw) (by decide) (by decide) (by decide) (by decide) rfl (own_ew hw) (List.mem_of_getElem? (i := 30) rfl) ⟨by decide, by decide⟩ (by decide) (by decide) (fun a_1 h_2 b_3 k_4 E_5 X_6 F_7 F_8 A_9 ne_10 => ?_)
  have szh_2 := nle E_5.1
  have lta_1 := nlt X_6.lt
  have ltb_3 := nlt A_9.lt
  have T_11 : Str Z h_2 a_1 b_3 [83, 116, 114, 105, 110, 103] := ⟨X_6, F_7, F_8, k_4, A_9⟩
  refine Go.retA rfl rfl rfl [] sl0 dm7_25 (by decide) (by decide) ?_
  exact ⟨a_1, b_3, rfl, (Keep.ext (Keep.refl _ []) E_5), T_11⟩
theorem ct_expDecoded_6 (l : Launch) (Z : State) (a0 : Array Value) (hw : ∀ d ∈ tables_1, d.before a0 Z = true) (n0 : Nat) (h0 : Heap)  :
    Ct l Z (⟨"dev/typewright/dart/DartFormOfPinLaw", "expDecoded", "(I)Ljava/lang/String;"⟩ : MethodName) method_7_code 1 (some (.object "java/lang/String")) ({ frames := 0, cells := 2, slots := 28, locals := 0 } : Room) EL1 n0 true [] #[(.int (6 : Int32))] h0 [] (fun v h N => ∃ s b, v = some (.ref s) ∧ Keep h0 h [] ∧ Str Z h s b [83, 116, 114, 105, 110, 103]) := by
  refine Ct.of (a0 := a0) (plainFor_of_name pn_dev_typewright_dart_DartFormOfPinLaw) (own_ew hw) (L0 := #[.val (.int (6 : Int32))]) (fun _ => rfl) ?_
  refine Go.iloadN (pc' := 1) dm7_0 rfl rfl ?_
  refine Go.ifT (pc' := 7) dm7_1 (show ¬ ((6 : Int32) = (0 : Int32)) by decide) (by decide) (by decide) ?_
  refine Go.iloadN (pc' := 8) dm7_7 rfl rfl ?_
  refine Go.iconst (pc' := 9) 1 dm7_8 rfl rfl ?_
  refine Go.icmpT (pc' := 15) dm7_9 (show ¬ ((6 : Int32) = (1 : Int32)) by decide) (by decide) (by decide) ?_
  refine Go.iloadN (pc' := 16) dm7_15 rfl rfl ?_
  refine Go.iconst (pc' := 17) 3 dm7_16 rfl rfl ?_
  refine Go.icmpT (pc' := 23) dm7_17 (show ¬ ((6 : Int32) = (3 : Int32)) by decide) (by decide) (by decide) ?_
  refine Go.ldcR (pc' := 25) (a1 := a0) 24 (vs := [.int 83, .int 116, .int 114, .int 105, .int 110, .int 103]) (z := 6) dm7_23 rfl (wd hw 376 rfl) (own_ws hw) (by decide) (by decide) (by decide) (by decide) rfl (own_ew hw) (List.mem_of_getElem? (i := 30) rfl) ⟨by decide, by decide⟩ (by decide) (by decide) (fun a_1 h_2 b_3 k_4 E_5 X_6 F_7 F_8 A_9 ne_10 => ?_)
  have szh_2 := nle E_5.1
  have lta_1 := nlt X_6.lt
  have ltb_3 := nlt A_9.lt
  have T_11 : Str Z h_2 a_1 b_3 [83, 116, 114, 105, 110, 103] := ⟨X_6, F_7, F_8, k_4, A_9⟩
  refine Go.retA rfl rfl rfl [] sl0 dm7_25 (by decide) (by decide) ?_
  exact ⟨a_1, b_3, rfl, (Keep.ext (Keep.refl _ []) E_5), T_11⟩
theorem dm8_0 : decode method_8_code 0 = .ok (.iload_n 0, 1) := by decide +kernel
theorem dm8_1 : decode method_8_code 1 = .ok (.iconst 1, 1) := by decide +kernel
theorem dm8_2 : decode method_8_code 2 = .ok (.if_icmp .ne 6, 3) := by decide +kernel
theorem dm8_8 : decode method_8_code 8 = .ok (.iload_n 0, 1) := by decide +kernel
theorem dm8_9 : decode method_8_code 9 = .ok (.iconst 4, 1) := by decide +kernel
theorem dm8_10 : decode method_8_code 10 = .ok (.if_icmp .eq 8, 3) := by decide +kernel
theorem dm8_13 : decode method_8_code 13 = .ok (.iload_n 0, 1) := by decide +kernel
theorem dm8_14 : decode method_8_code 14 = .ok (.iconst 5, 1) := by decide +kernel
theorem dm8_15 : decode method_8_code 15 = .ok (.if_icmp .ne 6, 3) := by decide +kernel
theorem dm8_21 : decode method_8_code 21 = .ok (.ldc 34, 2) := by decide +kernel
theorem dm8_23 : decode method_8_code 23 = .ok (.areturn, 1) := by decide +kernel
theorem ct_expFromDecoded_0 (l : Launch) (Z : State) (a0 : Array Value) (hw : ∀ d ∈ tables_1, d.before a0 Z = true) (n0 : Nat) (h0 : Heap)  :
    Ct l Z (⟨"dev/typewright/dart/DartFormOfPinLaw", "expFromDecoded", "(I)Ljava/lang/String;"⟩ : MethodName) method_8_code 1 (some (.object "java/lang/String")) ({ frames := 0, cells := 2, slots := 8, locals := 0 } : Room) EL1 n0 true [] #[(.int (0 : Int32))] h0 [] (fun v h N => ∃ s b, v = some (.ref s) ∧ Keep h0 h [] ∧ Str Z h s b [106]) := by
  refine Ct.of (a0 := a0) (plainFor_of_name pn_dev_typewright_dart_DartFormOfPinLaw) (own_ew hw) (L0 := #[.val (.int (0 : Int32))]) (fun _ => rfl) ?_
  refine Go.iloadN (pc' := 1) dm8_0 rfl rfl ?_
  refine Go.iconst (pc' := 2) 1 dm8_1 rfl rfl ?_
  refine Go.icmpT (pc' := 8) dm8_2 (show ¬ ((0 : Int32) = (1 : Int32)) by decide) (by decide) (by decide) ?_
  refine Go.iloadN (pc' := 9) dm8_8 rfl rfl ?_
  refine Go.iconst (pc' := 10) 4 dm8_9 rfl rfl ?_
  refine Go.icmpF (pc' := 13) dm8_10 (show ¬ ((0 : Int32) = (4 : Int32)) by decide) rfl ?_
  refine Go.iloadN (pc' := 14) dm8_13 rfl rfl ?_
  refine Go.iconst (pc' := 15) 5 dm8_14 rfl rfl ?_
  refine Go.icmpT (pc' := 21) dm8_15 (show ¬ ((0 : Int32) = (5 : Int32)) by decide) (by decide) (by decide) ?_
  refine Go.ldcR (pc' := 23) (a1 := a0) 4 (vs := [.int 106]) (z := 1) dm8_21 rfl (wd hw 190 rfl) (own_ws hw) (by decide) (by decide) (by decide) (by decide) rfl (own_ew hw) (List.mem_of_getElem? (i := 19) rfl) ⟨by decide, by decide⟩ (by decide) (by decide) (fun a_1 h_2 b_3 k_4 E_5 X_6 F_7 F_8 A_9 ne_10 => ?_)
  have szh_2 := nle E_5.1
  have lta_1 := nlt X_6.lt
  have ltb_3 := nlt A_9.lt
  have T_11 : Str Z h_2 a_1 b_3 [106] := ⟨X_6, F_7, F_8, k_4, A_9⟩
  refine Go.retA rfl rfl rfl [] sl0 dm8_23 (by decide) (by decide) ?_
  exact ⟨a_1, b_3, rfl, (Keep.ext (Keep.refl _ []) E_5), T_11⟩
theorem dm8_5 : decode method_8_code 5 = .ok (.ldc 140, 2) := by decide +kernel
theorem dm8_7 : decode method_8_code 7 = .ok (.areturn, 1) := by decide +kernel
theorem ct_expFromDecoded_1 (l : Launch) (Z : State) (a0 : Array Value) (hw : ∀ d ∈ tables_1, d.before a0 Z = true) (n0 : Nat) (h0 : Heap)  :
    Ct l Z (⟨"dev/typewright/dart/DartFormOfPinLaw", "expFromDecoded", "(I)Ljava/lang/String;"⟩ : MethodName) method_8_code 1 (some (.object "java/lang/String")) ({ frames := 0, cells := 2, slots := 52, locals := 0 } : Room) EL1 n0 true [] #[(.int (1 : Int32))] h0 [] (fun v h N => ∃ s b, v = some (.ref s) ∧ Keep h0 h [] ∧ Str Z h s b [106, 46, 116, 111, 68, 111, 117, 98, 108, 101, 40, 41]) := by
  refine Ct.of (a0 := a0) (plainFor_of_name pn_dev_typewright_dart_DartFormOfPinLaw) (own_ew hw) (L0 := #[.val (.int (1 : Int32))]) (fun _ => rfl) ?_
  refine Go.iloadN (pc' := 1) dm8_0 rfl rfl ?_
  refine Go.iconst (pc' := 2) 1 dm8_1 rfl rfl ?_
  refine Go.icmpF (pc' := 5) dm8_2 (show (1 : Int32) = (1 : Int32) by decide) rfl ?_
  refine Go.ldcR (pc' := 7) (a1 := a0) 48 (vs := [.int 106, .int 46, .int 116, .int 111, .int 68, .int 111, .int 117, .int 98, .int 108, .int 101, .int 40, .int 41]) (z := 12) dm8_5 rfl (wd hw 317 rfl) (own_ws hw) (by decide) (by decide) (by decide) (by decide) rfl (own_ew hw) (List.mem_of_getElem? (i := 46) rfl) ⟨by decide, by decide⟩ (by decide) (by decide) (fun a_1 h_2 b_3 k_4 E_5 X_6 F_7 F_8 A_9 ne_10 => ?_)
  have szh_2 := nle E_5.1
  have lta_1 := nlt X_6.lt
  have ltb_3 := nlt A_9.lt
  have T_11 : Str Z h_2 a_1 b_3 [106, 46, 116, 111, 68, 111, 117, 98, 108, 101, 40, 41] := ⟨X_6, F_7, F_8, k_4, A_9⟩
  refine Go.retA rfl rfl rfl [] sl0 dm8_7 (by decide) (by decide) ?_
  exact ⟨a_1, b_3, rfl, (Keep.ext (Keep.refl _ []) E_5), T_11⟩
theorem ct_expFromDecoded_2 (l : Launch) (Z : State) (a0 : Array Value) (hw : ∀ d ∈ tables_1, d.before a0 Z = true) (n0 : Nat) (h0 : Heap)  :
    Ct l Z (⟨"dev/typewright/dart/DartFormOfPinLaw", "expFromDecoded", "(I)Ljava/lang/String;"⟩ : MethodName) method_8_code 1 (some (.object "java/lang/String")) ({ frames := 0, cells := 2, slots := 8, locals := 0 } : Room) EL1 n0 true [] #[(.int (2 : Int32))] h0 [] (fun v h N => ∃ s b, v = some (.ref s) ∧ Keep h0 h [] ∧ Str Z h s b [106]) := by
  refine Ct.of (a0 := a0) (plainFor_of_name pn_dev_typewright_dart_DartFormOfPinLaw) (own_ew hw) (L0 := #[.val (.int (2 : Int32))]) (fun _ => rfl) ?_
  refine Go.iloadN (pc' := 1) dm8_0 rfl rfl ?_
  refine Go.iconst (pc' := 2) 1 dm8_1 rfl rfl ?_
  refine Go.icmpT (pc' := 8) dm8_2 (show ¬ ((2 : Int32) = (1 : Int32)) by decide) (by decide) (by decide) ?_
  refine Go.iloadN (pc' := 9) dm8_8 rfl rfl ?_
  refine Go.iconst (pc' := 10) 4 dm8_9 rfl rfl ?_
  refine Go.icmpF (pc' := 13) dm8_10 (show ¬ ((2 : Int32) = (4 : Int32)) by decide) rfl ?_
  refine Go.iloadN (pc' := 14) dm8_13 rfl rfl ?_
  refine Go.iconst (pc' := 15) 5 dm8_14 rfl rfl ?_
  refine Go.icmpT (pc' := 21) dm8_15 (show ¬ ((2 : Int32) = (5 : Int32)) by decide) (by decide) (by decide) ?_
  refine Go.ldcR (pc' := 23) (a1 := a0) 4 (vs := [.int 106]) (z := 1) dm8_21 rfl (wd hw 190 rfl) (own_ws hw) (by decide) (by decide) (by decide) (by decide) rfl (own_ew hw) (List.mem_of_getElem? (i := 19) rfl) ⟨by decide, by decide⟩ (by decide) (by decide) (fun a_1 h_2 b_3 k_4 E_5 X_6 F_7 F_8 A_9 ne_10 => ?_)
  have szh_2 := nle E_5.1
  have lta_1 := nlt X_6.lt
  have ltb_3 := nlt A_9.lt
  have T_11 : Str Z h_2 a_1 b_3 [106] := ⟨X_6, F_7, F_8, k_4, A_9⟩
  refine Go.retA rfl rfl rfl [] sl0 dm8_23 (by decide) (by decide) ?_
  exact ⟨a_1, b_3, rfl, (Keep.ext (Keep.refl _ []) E_5), T_11⟩
theorem ct_expFromDecoded_3 (l : Launch) (Z : State) (a0 : Array Value) (hw : ∀ d ∈ tables_1, d.before a0 Z = true) (n0 : Nat) (h0 : Heap)  :
    Ct l Z (⟨"dev/typewright/dart/DartFormOfPinLaw", "expFromDecoded", "(I)Ljava/lang/String;"⟩ : MethodName) method_8_code 1 (some (.object "java/lang/String")) ({ frames := 0, cells := 2, slots := 8, locals := 0 } : Room) EL1 n0 true [] #[(.int (3 : Int32))] h0 [] (fun v h N => ∃ s b, v = some (.ref s) ∧ Keep h0 h [] ∧ Str Z h s b [106]) := by
  refine Ct.of (a0 := a0) (plainFor_of_name pn_dev_typewright_dart_DartFormOfPinLaw) (own_ew hw) (L0 := #[.val (.int (3 : Int32))]) (fun _ => rfl) ?_
  refine Go.iloadN (pc' := 1) dm8_0 rfl rfl ?_
  refine Go.iconst (pc' := 2) 1 dm8_1 rfl rfl ?_
  refine Go.icmpT (pc' := 8) dm8_2 (show ¬ ((3 : Int32) = (1 : Int32)) by decide) (by decide) (by decide) ?_
  refine Go.iloadN (pc' := 9) dm8_8 rfl rfl ?_
  refine Go.iconst (pc' := 10) 4 dm8_9 rfl rfl ?_
  refine Go.icmpF (pc' := 13) dm8_10 (show ¬ ((3 : Int32) = (4 : Int32)) by decide) rfl ?_
  refine Go.iloadN (pc' := 14) dm8_13 rfl rfl ?_
  refine Go.iconst (pc' := 15) 5 dm8_14 rfl rfl ?_
  refine Go.icmpT (pc' := 21) dm8_15 (show ¬ ((3 : Int32) = (5 : Int32)) by decide) (by decide) (by decide) ?_
  refine Go.ldcR (pc' := 23) (a1 := a0) 4 (vs := [.int 106]) (z := 1) dm8_21 rfl (wd hw 190 rfl) (own_ws hw) (by decide) (by decide) (by decide) (by decide) rfl (own_ew hw) (List.mem_of_getElem? (i := 19) rfl) ⟨by decide, by decide⟩ (by decide) (by decide) (fun a_1 h_2 b_3 k_4 E_5 X_6 F_7 F_8 A_9 ne_10 => ?_)
  have szh_2 := nle E_5.1
  have lta_1 := nlt X_6.lt
  have ltb_3 := nlt A_9.lt
  have T_11 : Str Z h_2 a_1 b_3 [106] := ⟨X_6, F_7, F_8, k_4, A_9⟩
  refine Go.retA rfl rfl rfl [] sl0 dm8_23 (by decide) (by decide) ?_
  exact ⟨a_1, b_3, rfl, (Keep.ext (Keep.refl _ []) E_5), T_11⟩
theorem dm8_18 : decode method_8_code 18 = .ok (.ldc 142, 2) := by decide +kernel
theorem dm8_20 : decode method_8_code 20 = .ok (.areturn, 1) := by decide +kernel
theorem ct_expFromDecoded_4 (l : Launch) (Z : State) (a0 : Array Value) (hw : ∀ d ∈ tables_1, d.before a0 Z = true) (n0 : Nat) (h0 : Heap)  :
    Ct l Z (⟨"dev/typewright/dart/DartFormOfPinLaw", "expFromDecoded", "(I)Ljava/lang/String;"⟩ : MethodName) method_8_code 1 (some (.object "java/lang/String")) ({ frames := 0, cells := 2, slots := 72, locals := 0 } : Room) EL1 n0 true [] #[(.int (4 : Int32))] h0 [] (fun v h N => ∃ s b, v = some (.ref s) ∧ Keep h0 h [] ∧ Str Z h s b [68, 97, 116, 101, 84, 105, 109, 101, 46, 112, 97, 114, 115, 101, 40, 106, 41]) := by
  refine Ct.of (a0 := a0) (plainFor_of_name pn_dev_typewright_dart_DartFormOfPinLaw) (own_ew hw) (L0 := #[.val (.int (4 : Int32))]) (fun _ => rfl) ?_
  refine Go.iloadN (pc' := 1) dm8_0 rfl rfl ?_
  refine Go.iconst (pc' := 2) 1 dm8_1 rfl rfl ?_
  refine Go.icmpT (pc' := 8) dm8_2 (show ¬ ((4 : Int32) = (1 : Int32)) by decide) (by decide) (by decide) ?_
  refine Go.iloadN (pc' := 9) dm8_8 rfl rfl ?_
  refine Go.iconst (pc' := 10) 4 dm8_9 rfl rfl ?_
  refine Go.icmpT (pc' := 18) dm8_10 (show (4 : Int32) = (4 : Int32) by decide) (by decide) (by decide) ?_
  refine Go.ldcR (pc' := 20) (a1 := a0) 68 (vs := [.int 68, .int 97, .int 116, .int 101, .int 84, .int 105, .int 109, .int 101, .int 46, .int 112, .int 97, .int 114, .int 115, .int 101, .int 40, .int 106, .int 41]) (z := 17) dm8_18 rfl (wd hw 380 rfl) (own_ws hw) (by decide) (by decide) (by decide) (by decide) rfl (own_ew hw) (List.mem_of_getElem? (i := 47) rfl) ⟨by decide, by decide⟩ (by decide) (by decide) (fun a_1 h_2 b_3 k_4 E_5 X_6 F_7 F_8 A_9 ne_10 => ?_)
  have szh_2 := nle E_5.1
  have lta_1 := nlt X_6.lt
  have ltb_3 := nlt A_9.lt
  have T_11 : Str Z h_2 a_1 b_3 [68, 97, 116, 101, 84, 105, 109, 101, 46, 112, 97, 114, 115, 101, 40, 106, 41] := ⟨X_6, F_7, F_8, k_4, A_9⟩
  refine Go.retA rfl rfl rfl [] sl0 dm8_20 (by decide) (by decide) ?_
  exact ⟨a_1, b_3, rfl, (Keep.ext (Keep.refl _ []) E_5), T_11⟩
theorem ct_expFromDecoded_5 (l : Launch) (Z : State) (a0 : Array Value) (hw : ∀ d ∈ tables_1, d.before a0 Z = true) (n0 : Nat) (h0 : Heap)  :
    Ct l Z (⟨"dev/typewright/dart/DartFormOfPinLaw", "expFromDecoded", "(I)Ljava/lang/String;"⟩ : MethodName) method_8_code 1 (some (.object "java/lang/String")) ({ frames := 0, cells := 2, slots := 72, locals := 0 } : Room) EL1 n0 true [] #[(.int (5 : Int32))] h0 [] (fun v h N => ∃ s b, v = some (.ref s) ∧ Keep h0 h [] ∧ Str Z h s b [68, 97, 116, 101, 84, 105, 109, 101, 46, 112, 97, 114, 115, 101, 40, 106, 41]) := by
  refine Ct.of (a0 := a0) (plainFor_of_name pn_dev_typewright_dart_DartFormOfPinLaw) (own_ew hw) (L0 := #[.val (.int (5 : Int32))]) (fun _ => rfl) ?_
  refine Go.iloadN (pc' := 1) dm8_0 rfl rfl ?_
  refine Go.iconst (pc' := 2) 1 dm8_1 rfl rfl ?_
  refine Go.icmpT (pc' := 8) dm8_2 (show ¬ ((5 : Int32) = (1 : Int32)) by decide) (by decide) (by decide) ?_
  refine Go.iloadN (pc' := 9) dm8_8 rfl rfl ?_
  refine Go.iconst (pc' := 10) 4 dm8_9 rfl rfl ?_
  refine Go.icmpF (pc' := 13) dm8_10 (show ¬ ((5 : Int32) = (4 : Int32)) by decide) rfl ?_
  refine Go.iloadN (pc' := 14) dm8_13 rfl rfl ?_
  refine Go.iconst (pc' := 15) 5 dm8_14 rfl rfl ?_
  refine Go.icmpF (pc' := 18) dm8_15 (show (5 : Int32) = (5 : Int32) by decide) rfl ?_
  refine Go.ldcR (pc' := 20) (a1 := a0) 68 (vs := [.int 68, .int 97, .int 116, .int 101, .int 84, .int 105, .int 109, .int 101, .int 46, .int 112, .int 97, .int 114, .int 115, .int 101, .int 40, .int 106, .int 41]) (z := 17) dm8_18 rfl (wd hw 380 rfl) (own_ws hw) (by decide) (by decide) (by decide) (by decide) rfl (own_ew hw) (List.mem_of_getElem? (i := 47) rfl) ⟨by decide, by decide⟩ (by decide) (by decide) (fun a_1 h_2 b_3 k_4 E_5 X_6 F_7 F_8 A_9 ne_10 => ?_)
  have szh_2 := nle E_5.1
  have lta_1 := nlt X_6.lt
  have ltb_3 := nlt A_9.lt
  have T_11 : Str Z h_2 a_1 b_3 [68, 97, 116, 101, 84, 105, 109, 101, 46, 112, 97, 114, 115, 101, 40, 106, 41] := ⟨X_6, F_7, F_8, k_4, A_9⟩
  refine Go.retA rfl rfl rfl [] sl0 dm8_20 (by decide) (by decide) ?_
  exact ⟨a_1, b_3, rfl, (Keep.ext (Keep.refl _ []) E_5), T_11⟩
theorem ct_expFromDecoded_6 (l : Launch) (Z : State) (a0 : Array Value) (hw : ∀ d ∈ tables_1, d.before a0 Z = true) (n0 : Nat) (h0 : Heap)  :
    Ct l Z (⟨"dev/typewright/dart/DartFormOfPinLaw", "expFromDecoded", "(I)Ljava/lang/String;"⟩ : MethodName) method_8_code 1 (some (.object "java/lang/String")) ({ frames := 0, cells := 2, slots := 8, locals := 0 } : Room) EL1 n0 true [] #[(.int (6 : Int32))] h0 [] (fun v h N => ∃ s b, v = some (.ref s) ∧ Keep h0 h [] ∧ Str Z h s b [106]) := by
  refine Ct.of (a0 := a0) (plainFor_of_name pn_dev_typewright_dart_DartFormOfPinLaw) (own_ew hw) (L0 := #[.val (.int (6 : Int32))]) (fun _ => rfl) ?_
  refine Go.iloadN (pc' := 1) dm8_0 rfl rfl ?_
  refine Go.iconst (pc' := 2) 1 dm8_1 rfl rfl ?_
  refine Go.icmpT (pc' := 8) dm8_2 (show ¬ ((6 : Int32) = (1 : Int32)) by decide) (by decide) (by decide) ?_
  refine Go.iloadN (pc' := 9) dm8_8 rfl rfl ?_
  refine Go.iconst (pc' := 10) 4 dm8_9 rfl rfl ?_
  refine Go.icmpF (pc' := 13) dm8_10 (show ¬ ((6 : Int32) = (4 : Int32)) by decide) rfl ?_
  refine Go.iloadN (pc' := 14) dm8_13 rfl rfl ?_
  refine Go.iconst (pc' := 15) 5 dm8_14 rfl rfl ?_
  refine Go.icmpT (pc' := 21) dm8_15 (show ¬ ((6 : Int32) = (5 : Int32)) by decide) (by decide) (by decide) ?_
  refine Go.ldcR (pc' := 23) (a1 := a0) 4 (vs := [.int 106]) (z := 1) dm8_21 rfl (wd hw 190 rfl) (own_ws hw) (by decide) (by decide) (by decide) (by decide) rfl (own_ew hw) (List.mem_of_getElem? (i := 19) rfl) ⟨by decide, by decide⟩ (by decide) (by decide) (fun a_1 h_2 b_3 k_4 E_5 X_6 F_7 F_8 A_9 ne_10 => ?_)
  have szh_2 := nle E_5.1
  have lta_1 := nlt X_6.lt
  have ltb_3 := nlt A_9.lt
  have T_11 : Str Z h_2 a_1 b_3 [106] := ⟨X_6, F_7, F_8, k_4, A_9⟩
  refine Go.retA rfl rfl rfl [] sl0 dm8_23 (by decide) (by decide) ?_
  exact ⟨a_1, b_3, rfl, (Keep.ext (Keep.refl _ []) E_5), T_11⟩
theorem ct_equalsR (l : Launch) (Z : State) (a0 : Array Value) (hw : ∀ d ∈ tables_1, d.before a0 Z = true) (n0 : Nat) (h0 : Heap) (a1 : Addr) :
    Ct l Z (⟨"java/lang/String", "equals", "(Ljava/lang/Object;)Z"⟩ : MethodName) jdk_42_method_66_code 3 (some .boolean) ({ frames := 1, cells := 0, slots := 0, locals := 14 } : Room) EL1 n0 true [] #[(.ref a1), (.ref a1)] h0 [] (fun v h N => h0 = h ∧ v = some (.int 1)) := by
  refine Ct.of (a0 := a0) (plainFor_of_name pn_java_lang_String) (own_ew hw) (L0 := #[.val (.ref a1), .val (.ref a1), .unset]) (fun _ => rfl) ?_
  refine Go.aloadN (pc' := 1) dj42m66_0 rfl rfl rfl ?_
  refine Go.aloadN (pc' := 2) dj42m66_1 rfl rfl rfl ?_
  refine Go.acmp (pc' := 5) true dj42m66_2 rfl rfl (decide_eq_true rfl) (by decide) (by decide) ?_
  refine Go.iconst (pc' := 6) 1 dj42m66_5 rfl rfl ?_
  refine Go.retN (t := .boolean) (1 : Int32) rfl (by simp) rfl [] sl0 dj42m66_6 (by decide) (by decide) ?_
  exact ⟨rfl, rfl⟩
theorem ct_eqT (l : Launch) (Z : State) (a0 : Array Value) (hw : ∀ d ∈ tables_1, d.before a0 Z = true) (n0 : Nat) (h0 : Heap) (a1 a2 b1 b2 : Addr) (ll : List Int32) (H1 : Str Z h0 a1 b1 ll) (H2 : Str Z h0 a2 b2 ll) (hl : ll.length < 2 ^ 31) (cs : Int32) (S_cs : Sta Z h0 "java/lang/String" "COMPACT_STRINGS" "Z" (.int cs)) (hcs : ¬ cs = 0) :
    Ct l Z (⟨"java/lang/String", "equals", "(Ljava/lang/Object;)Z"⟩ : MethodName) jdk_42_method_66_code 3 (some .boolean) ({ frames := 1, cells := 0, slots := 0, locals := 14 } : Room) EL1 n0 true [] #[(.ref a1), (.ref a2)] h0 [] (fun v h N => h0 = h ∧ v = some (.int 1)) := by
  obtain ⟨E1, FC1, FV1, k1, AV1⟩ := H1
  obtain ⟨E2, FC2, FV2, k2, AV2⟩ := H2
  by_cases e : a1 = a2
  · subst e; exact ct_equalsR l Z a0 hw n0 h0 a1
  · exact Ct.post (fun v h N q => ⟨q.1, by rw [q.2, if_pos rfl]⟩) (ct_equals l Z a0 hw n0 h0 a1 a2 b1 b2 k1 k2 ll ll hl hl cs S_cs hcs E1 FC1 FV1 AV1 E2 FC2 FV2 AV2 e)
theorem own_m7 (x : Int32) : (x &&& 2147483647) % 7 = 0 ∨ (x &&& 2147483647) % 7 = 1 ∨ (x &&& 2147483647) % 7 = 2 ∨ (x &&& 2147483647) % 7 = 3 ∨ (x &&& 2147483647) % 7 = 4 ∨ (x &&& 2147483647) % 7 = 5 ∨ (x &&& 2147483647) % 7 = 6 := by
  have h1 : ¬ (x &&& 2147483647) < 0 := by
    intro z
    exact absurd ((XT.and_neg32 x 2147483647).mp z).2 (by decide)
  generalize (x &&& 2147483647) = y at *
  rw [Int32.lt_iff_toInt_lt] at h1
  have e0 : (0 : Int32).toInt = 0 := by decide
  have e3 : (7 : Int32).toInt = 7 := by decide
  have hm : (y % 7).toInt = y.toInt.tmod 7 := by rw [Int32.toInt_mod, e3]
  have hb : y.toInt.tmod 7 = y.toInt % 7 := Int.tmod_eq_emod_of_nonneg (by omega)
  have h3 : (y % 7).toInt = 0 ∨ (y % 7).toInt = 1 ∨ (y % 7).toInt = 2 ∨ (y % 7).toInt = 3 ∨ (y % 7).toInt = 4 ∨ (y % 7).toInt = 5 ∨ (y % 7).toInt = 6 := by omega
  rcases h3 with q | q | q | q | q | q | q
  · exact Or.inl (Int32.toInt_inj.mp (q.trans (by decide)))
  · exact Or.inr (Or.inl (Int32.toInt_inj.mp (q.trans (by decide))))
  · exact Or.inr (Or.inr (Or.inl (Int32.toInt_inj.mp (q.trans (by decide)))))
  · exact Or.inr (Or.inr (Or.inr (Or.inl (Int32.toInt_inj.mp (q.trans (by decide))))))
  · exact Or.inr (Or.inr (Or.inr (Or.inr (Or.inl (Int32.toInt_inj.mp (q.trans (by decide)))))))
  · exact Or.inr (Or.inr (Or.inr (Or.inr (Or.inr (Or.inl (Int32.toInt_inj.mp (q.trans (by decide))))))))
  · exact Or.inr (Or.inr (Or.inr (Or.inr (Or.inr (Or.inr (Int32.toInt_inj.mp (q.trans (by decide))))))))
theorem pd_26 : parseMethodDescriptor "(I)Ldev/typewright/core/ScalarType;" = some ⟨[.int], (some (.object "dev/typewright/core/ScalarType"))⟩ := by decide +kernel
theorem pd_27 : parseMethodDescriptor "(Ldev/typewright/core/ScalarType;)Ldev/typewright/dart/DartForm;" = some ⟨[(.object "dev/typewright/core/ScalarType")], (some (.object "dev/typewright/dart/DartForm"))⟩ := by decide +kernel
theorem pd_28 : parseMethodDescriptor "(IZ)Ljava/lang/String;" = some ⟨[.int, .boolean], (some (.object "java/lang/String"))⟩ := by decide +kernel
theorem pd_29 : parseMethodDescriptor "(Ljava/lang/Object;)Z" = some ⟨[(.object "java/lang/Object")], (some .boolean)⟩ := by decide +kernel
theorem pd_30 : parseMethodDescriptor "(I)Ljava/lang/String;" = some ⟨[.int], (some (.object "java/lang/String"))⟩ := by decide +kernel
theorem ct_law (l : Launch) (Z : State) (a0 : Array Value) (hw : ∀ d ∈ tables_1, d.before a0 Z = true) (n0 : Nat) (h0 : Heap) (p0 p1 : Int32) (o_INTEGER : Addr) (S_INTEGER : Sta Z h0 "dev/typewright/core/ScalarType" "INTEGER" "Ldev/typewright/core/ScalarType;" (.ref o_INTEGER)) (X_INTEGER : Exa Z h0 o_INTEGER "dev/typewright/core/ScalarType") (F_INTEGER_ordinal : Fld Z h0 o_INTEGER "java/lang/Enum" "ordinal" "I" (.int (0 : Int32))) (o_BOOLEAN : Addr) (S_BOOLEAN : Sta Z h0 "dev/typewright/core/ScalarType" "BOOLEAN" "Ldev/typewright/core/ScalarType;" (.ref o_BOOLEAN)) (X_BOOLEAN : Exa Z h0 o_BOOLEAN "dev/typewright/core/ScalarType") (F_BOOLEAN_ordinal : Fld Z h0 o_BOOLEAN "java/lang/Enum" "ordinal" "I" (.int (3 : Int32))) (o_NUMBER : Addr) (S_NUMBER : Sta Z h0 "dev/typewright/core/ScalarType" "NUMBER" "Ldev/typewright/core/ScalarType;" (.ref o_NUMBER)) (X_NUMBER : Exa Z h0 o_NUMBER "dev/typewright/core/ScalarType") (F_NUMBER_ordinal : Fld Z h0 o_NUMBER "java/lang/Enum" "ordinal" "I" (.int (1 : Int32))) (o_DATE : Addr) (S_DATE : Sta Z h0 "dev/typewright/core/ScalarType" "DATE" "Ldev/typewright/core/ScalarType;" (.ref o_DATE)) (X_DATE : Exa Z h0 o_DATE "dev/typewright/core/ScalarType") (F_DATE_ordinal : Fld Z h0 o_DATE "java/lang/Enum" "ordinal" "I" (.int (4 : Int32))) (o_BINARY : Addr) (S_BINARY : Sta Z h0 "dev/typewright/core/ScalarType" "BINARY" "Ldev/typewright/core/ScalarType;" (.ref o_BINARY)) (X_BINARY : Exa Z h0 o_BINARY "dev/typewright/core/ScalarType") (F_BINARY_ordinal : Fld Z h0 o_BINARY "java/lang/Enum" "ordinal" "I" (.int (6 : Int32))) (o_DATE_TIME : Addr) (S_DATE_TIME : Sta Z h0 "dev/typewright/core/ScalarType" "DATE_TIME" "Ldev/typewright/core/ScalarType;" (.ref o_DATE_TIME)) (X_DATE_TIME : Exa Z h0 o_DATE_TIME "dev/typewright/core/ScalarType") (F_DATE_TIME_ordinal : Fld Z h0 o_DATE_TIME "java/lang/Enum" "ordinal" "I" (.int (5 : Int32))) (o_STRING : Addr) (S_STRING : Sta Z h0 "dev/typewright/core/ScalarType" "STRING" "Ldev/typewright/core/ScalarType;" (.ref o_STRING)) (X_STRING : Exa Z h0 o_STRING "dev/typewright/core/ScalarType") (F_STRING_ordinal : Fld Z h0 o_STRING "java/lang/Enum" "ordinal" "I" (.int (2 : Int32))) (b1 : Addr) (cl : Cell) (S_B : Sta Z h0 "dev/typewright/dart/DartForm$1" "$SwitchMap$dev$typewright$core$ScalarType" "[I" (.ref b1)) (A_B : RoadKit.Arr Z h0 b1 cl .int) (hi_0 : ¬ ((0 : Int32) < 0 ∨ cl.slots.size ≤ (0 : Int32).toNatClampNeg)) (he_0 : cl.slots[(0 : Int32).toNatClampNeg]? = some (.int (1 : Int32))) (hi_1 : ¬ ((1 : Int32) < 0 ∨ cl.slots.size ≤ (1 : Int32).toNatClampNeg)) (he_1 : cl.slots[(1 : Int32).toNatClampNeg]? = some (.int (2 : Int32))) (hi_2 : ¬ ((2 : Int32) < 0 ∨ cl.slots.size ≤ (2 : Int32).toNatClampNeg)) (he_2 : cl.slots[(2 : Int32).toNatClampNeg]? = some (.int (3 : Int32))) (hi_3 : ¬ ((3 : Int32) < 0 ∨ cl.slots.size ≤ (3 : Int32).toNatClampNeg)) (he_3 : cl.slots[(3 : Int32).toNatClampNeg]? = some (.int (5 : Int32))) (hi_4 : ¬ ((4 : Int32) < 0 ∨ cl.slots.size ≤ (4 : Int32).toNatClampNeg)) (he_4 : cl.slots[(4 : Int32).toNatClampNeg]? = some (.int (6 : Int32))) (hi_5 : ¬ ((5 : Int32) < 0 ∨ cl.slots.size ≤ (5 : Int32).toNatClampNeg)) (he_5 : cl.slots[(5 : Int32).toNatClampNeg]? = some (.int (7 : Int32))) (hi_6 : ¬ ((6 : Int32) < 0 ∨ cl.slots.size ≤ (6 : Int32).toNatClampNeg)) (he_6 : cl.slots[(6 : Int32).toNatClampNeg]? = some (.int (4 : Int32))) (hn0 : n0 ≤ h0.size) (cs : Int32) (S_cs : Sta Z h0 "java/lang/String" "COMPACT_STRINGS" "Z" (.int cs)) (hcs : ¬ cs = 0) :
    Ct l Z x code maxLocals ret room_1 EL1 n0 true tables_1 #[(.int p0), (.int p1)] h0 [] (fun v h N => v = some (.int 1) ∧ Keep h0 h []) := by
  refine Ct.of (a0 := a0) (plainFor_of_name pn_dev_typewright_dart_DartFormOfPinLaw) (own_ew hw) (L0 := #[.val (.int p0), .val (.int p1), .unset, .unset, .unset, .unset]) (fun _ => rfl) ?_
  have l0_X_INTEGER := nlt X_INTEGER.lt
  have l0_X_BOOLEAN := nlt X_BOOLEAN.lt
  have l0_X_NUMBER := nlt X_NUMBER.lt
  have l0_X_DATE := nlt X_DATE.lt
  have l0_X_BINARY := nlt X_BINARY.lt
  have l0_X_DATE_TIME := nlt X_DATE_TIME.lt
  have l0_X_STRING := nlt X_STRING.lt
  refine Go.iloadN (pc' := 1) at_0 rfl rfl ?_
  refine Go.ldcI (pc' := 3) (a1 := a0) at_1 (wd hw 0 rfl) rfl ?_
  refine Go.iand (pc' := 4) at_3 rfl ?_
  refine Go.bipush (pc' := 6) 7 at_4 rfl rfl ?_
  refine Go.irem (pc' := 7) at_6 (by decide) rfl ?_
  refine Go.istoreN (pc' := 8) #[.val (.int p0), .val (.int p1), .val (.int ((p0 &&& (2147483647 : Int32)) % (7 : Int32))), .unset, .unset, .unset] at_7 rfl rfl ?_
  rcases own_m7 p0 with e7 | e7 | e7 | e7 | e7 | e7 | e7
  · refine Go.re (pc' := 8) (L' := #[.val (.int p0), .val (.int p1), .val (.int (0 : Int32)), .unset, .unset, .unset]) (S' := []) rfl (by rw [e7]) rfl ?_
    refine Go.iloadN (pc' := 9) at_8 rfl rfl ?_
    refine Go.iconst (pc' := 10) 1 at_9 rfl rfl ?_
    refine Go.iand (pc' := 11) at_10 rfl ?_
    refine Go.ifc (pc' := 18) (pc'' := 14) at_11 (by decide) (by decide) rfl (fun hc_1 => ?_) (fun hc_1 => ?_)
    · have hc_1 : (p1 &&& (1 : Int32)) = 0 := hc_1
      refine Go.iconst (pc' := 19) 0 at_18 rfl rfl ?_
      refine Go.istoreN (pc' := 20) #[.val (.int p0), .val (.int p1), .val (.int (0 : Int32)), .val (.int (0 : Int32)), .unset, .unset] at_19 rfl rfl ?_
      refine Go.iloadN (pc' := 21) at_20 rfl rfl ?_
      refine Go.callS (a1 := a0) (pc' := 24) (argsL := [(.int (0 : Int32))]) (rest := []) (ct_sc0 l Z a0 hw n0 h0 o_INTEGER S_INTEGER) at_21 (wd hw 1 rfl) (wd hw 2 rfl) (wd hw 3 rfl) (wd hw 4 rfl) (by decide) (lenOf pd_26 rfl) rfl 0 rfl rfl (by decide) (by decide) (by decide) (by decide) sl0 rfl (fun v_2 h_3 N_4 hQ_5 hle_6 => ?_)
      obtain ⟨rfl, rfl⟩ := hQ_5
      refine Go.rs [(.ref o_INTEGER)] rfl ?_
      refine Go.astore (pc' := 26) #[.val (.int p0), .val (.int p1), .val (.int (0 : Int32)), .val (.int (0 : Int32)), .val (.ref o_INTEGER), .unset] at_24 rfl rfl rfl ?_
      refine Go.aload (pc' := 28) at_26 rfl rfl rfl ?_
      refine Go.callS (a1 := a0) (pc' := 31) (argsL := [(.ref o_INTEGER)]) (rest := []) (ct_of0 l Z a0 hw n0 h0 o_INTEGER X_INTEGER F_INTEGER_ordinal b1 cl S_B A_B hi_0 he_0 (by omega)) at_28 (wd hw 8 rfl) (wd hw 9 rfl) (wd hw 10 rfl) (wd hw 11 rfl) (by decide) (lenOf pd_27 rfl) rfl 0 rfl rfl (by decide) (by decide) (by decide) (by decide) sl0 rfl (fun v_15 h_16 N_17 hQ_18 hle_19 => ?_)
      obtain ⟨f_7, s_8, b_9, rfl, g_10, K_11, X_12, F_13, F_14⟩ := hQ_18
      have szh_16 := nle K_11.1
      have ltf_7 := nlt X_12.lt
      have gef_7 := nle g_10
      have lts_8 := nlt F_14.lt
      have ltb_9 := nlt F_14.ltb
      refine Go.rs [(.ref f_7)] rfl ?_
      refine Go.astore (pc' := 33) #[.val (.int p0), .val (.int p1), .val (.int (0 : Int32)), .val (.int (0 : Int32)), .val (.ref o_INTEGER), .val (.ref f_7)] at_31 rfl rfl rfl ?_
      refine Go.aload (pc' := 35) at_33 rfl rfl rfl ?_
      refine Go.iloadN (pc' := 36) at_35 rfl rfl ?_
      refine Go.callI (a1 := a0) (pc' := 41) (argsL := [(.int (0 : Int32))]) (rest := []) (ct_pty0 l Z a0 hw n0 h_16 [105, 110, 116] f_7 s_8 b_9 F_14 F_13) at_36 (wd hw 48 rfl) (wd hw 49 rfl) (wd hw 50 rfl) (wd hw 51 rfl) (wd hw 52 rfl) (wd hw 53 rfl) (wd hw 54 rfl) (wd hw 55 rfl) (wd hw 26 rfl) (wd hw 56 rfl) X_12 (by decide) (lenOf pd_23 rfl) rfl 0 rfl rfl (by decide) (by decide) (by decide) (by decide) sl0 rfl (fun v_20 h_21 N_22 hQ_23 hle_24 => ?_)
      obtain ⟨rfl, rfl⟩ := hQ_23
      refine Go.rs [(.ref s_8)] rfl ?_
      refine Go.iloadN (pc' := 42) at_41 rfl rfl ?_
      refine Go.iloadN (pc' := 43) at_42 rfl rfl ?_
      refine Go.callS (a1 := a0) (pc' := 46) (argsL := [(.int (0 : Int32)), (.int (0 : Int32))]) (rest := [(.ref s_8)]) (ct_expType_0_0 l Z a0 hw n0 h_16) at_43 (wd hw 176 rfl) (wd hw 177 rfl) (wd hw 3 rfl) (wd hw 178 rfl) (by decide) (lenOf pd_28 rfl) rfl 1 rfl rfl (by decide) (by decide) (by decide) (by decide) sl0 rfl (fun v_31 h_32 N_33 hQ_34 hle_35 => ?_)
      obtain ⟨s_25, b_26, rfl, K_29, F_30⟩ := hQ_34
      have szh_32 := nle K_29.1
      have lts_25 := nlt F_30.lt
      have ltb_26 := nlt F_30.ltb
      refine Go.rs [(.ref s_25), (.ref s_8)] rfl ?_
      have F_36 := (Str.keep F_14 K_29 nin0 nin0)
      have F_37 := (sta_keep (sta_keep S_cs K_11 ns0) K_29 ns0)
      have X_43 : Exa Z h_32 s_8 "java/lang/String" := F_36.1
      refine Go.callV (a1 := a0) (pc' := 49) (argsL := [(.ref s_25)]) (rest := []) (ct_eqT l Z a0 hw n0 h_32 s_8 s_25 b_9 b_26 [105, 110, 116] F_36 F_30 (by decide) cs F_37 hcs) at_46 (wd hw 180 rfl) (wd hw 181 rfl) (wd hw 183 rfl) (wd hw 183 rfl) (wd hw 182 rfl) (wd hw 28 rfl) (wd hw 184 rfl) X_43 (by decide) (lenOf pd_29 rfl) rfl 0 rfl rfl (by decide) (by decide) (by decide) (by decide) sl0 rfl (fun v_38 h_39 N_40 hQ_41 hle_42 => ?_)
      obtain ⟨rfl, rfl⟩ := hQ_41
      refine Go.rs [(.int (1 : Int32))] rfl ?_
      refine Go.ifF (pc' := 52) at_49 (show ¬ ((1 : Int32) = (0 : Int32)) by decide) rfl ?_
      refine Go.aload (pc' := 54) at_52 rfl rfl rfl ?_
      refine Go.ldcR (pc' := 56) (a1 := a0) 4 (vs := [.int 106]) (z := 1) at_54 rfl (wd hw 190 rfl) (own_ws hw) (by decide) (by decide) (by decide) (by decide) rfl (own_ew hw) (List.mem_of_getElem? (i := 19) rfl) ⟨by decide, by decide⟩ (by decide) (by decide) (fun a_44 h_45 b_46 k_47 E_48 X_49 F_50 F_51 A_52 ne_53 => ?_)
      have szh_45 := nle E_48.1
      have lta_44 := nlt X_49.lt
      have ltb_46 := nlt A_52.lt
      have T_54 : Str Z h_45 a_44 b_46 [106] := ⟨X_49, F_50, F_51, k_47, A_52⟩
      refine Go.iloadN (pc' := 57) at_56 rfl rfl ?_
      have F_55 := (Str.ext F_36 E_48)
      have F_56 := (Fld.ext E_48 (Fld.keep F_13 K_29 nin0))
      have F_57 := (Exa.ext E_48 (Exa.keep X_12 K_29))
      have F_58 := (Sta.ext E_48 F_37)
      refine Go.callI (a1 := a0) (pc' := 62) (argsL := [(.ref a_44), (.int (0 : Int32))]) (rest := []) (ct_pfj0 l Z a0 hw n0 h_45 [105, 110, 116] f_7 s_8 b_9 F_55 F_56 F_57 (by decide) a_44 b_46 T_54 (by omega) cs F_58 hcs) at_57 (wd hw 191 rfl) (wd hw 192 rfl) (wd hw 193 rfl) (wd hw 194 rfl) (wd hw 195 rfl) (wd hw 196 rfl) (wd hw 197 rfl) (wd hw 55 rfl) (wd hw 26 rfl) (wd hw 198 rfl) F_57 (by decide) (lenOf pd_22 rfl) rfl 0 rfl rfl (by decide) (by decide) (by decide) (by decide) sl0 rfl (fun v_65 h_66 N_67 hQ_68 hle_69 => ?_)
      obtain ⟨s_59, b_60, rfl, g_61, g_62, K_63, F_64⟩ := hQ_68
      have szh_66 := nle K_63.1
      have lts_59 := nlt F_64.lt
      have ltb_60 := nlt F_64.ltb
      have ges_59 := nle g_61
      have geb_60 := nle g_62
      refine Go.rs [(.ref s_59)] rfl ?_
      refine Go.iloadN (pc' := 63) at_62 rfl rfl ?_
      refine Go.iloadN (pc' := 64) at_63 rfl rfl ?_
      refine Go.callS (a1 := a0) (pc' := 67) (argsL := [(.int (0 : Int32)), (.int (0 : Int32))]) (rest := [(.ref s_59)]) (ct_expFromJson_0_0 l Z a0 hw n0 h_66) at_64 (wd hw 207 rfl) (wd hw 208 rfl) (wd hw 3 rfl) (wd hw 209 rfl) (by decide) (lenOf pd_28 rfl) rfl 1 rfl rfl (by decide) (by decide) (by decide) (by decide) sl0 rfl (fun v_76 h_77 N_78 hQ_79 hle_80 => ?_)
      obtain ⟨s_70, b_71, rfl, K_74, F_75⟩ := hQ_79
      have szh_77 := nle K_74.1
      have lts_70 := nlt F_75.lt
      have ltb_71 := nlt F_75.ltb
      refine Go.rs [(.ref s_70), (.ref s_59)] rfl ?_
      have F_81 := (Str.keep F_64 K_74 nin0 nin0)
      have F_82 := (sta_keep (sta_keep F_58 K_63 ns0) K_74 ns0)
      have X_88 : Exa Z h_77 s_59 "java/lang/String" := F_81.1
      refine Go.callV (a1 := a0) (pc' := 70) (argsL := [(.ref s_70)]) (rest := []) (ct_eqT l Z a0 hw n0 h_77 s_59 s_70 b_60 b_71 [106, 32, 97, 115, 32, 105, 110, 116] F_81 F_75 (by decide) cs F_82 hcs) at_67 (wd hw 180 rfl) (wd hw 181 rfl) (wd hw 183 rfl) (wd hw 183 rfl) (wd hw 182 rfl) (wd hw 28 rfl) (wd hw 184 rfl) X_88 (by decide) (lenOf pd_29 rfl) rfl 0 rfl rfl (by decide) (by decide) (by decide) (by decide) sl0 rfl (fun v_83 h_84 N_85 hQ_86 hle_87 => ?_)
      obtain ⟨rfl, rfl⟩ := hQ_86
      refine Go.rs [(.int (1 : Int32))] rfl ?_
      refine Go.ifF (pc' := 73) at_70 (show ¬ ((1 : Int32) = (0 : Int32)) by decide) rfl ?_
      refine Go.aload (pc' := 75) at_73 rfl rfl rfl ?_
      refine Go.ldcR (pc' := 77) (a1 := a0) 4 (vs := [.int 118]) (z := 1) at_75 rfl (wd hw 211 rfl) (own_ws hw) (by decide) (by decide) (by decide) (by decide) rfl (own_ew hw) (List.mem_of_getElem? (i := 20) rfl) ⟨by decide, by decide⟩ (by decide) (by decide) (fun a_89 h_90 b_91 k_92 E_93 X_94 F_95 F_96 A_97 ne_98 => ?_)
      have szh_90 := nle E_93.1
      have lta_89 := nlt X_94.lt
      have ltb_91 := nlt A_97.lt
      have T_99 : Str Z h_90 a_89 b_91 [118] := ⟨X_94, F_95, F_96, k_92, A_97⟩
      refine Go.iloadN (pc' := 78) at_77 rfl rfl ?_
      have F_105 := (Exa.ext E_93 (Exa.keep (Exa.keep F_57 K_63) K_74))
      refine Go.callI (a1 := a0) (pc' := 83) (argsL := [(.ref a_89), (.int (0 : Int32))]) (rest := []) (ct_ptj0 l Z a0 hw n0 h_90 f_7 a_89) at_78 (wd hw 212 rfl) (wd hw 213 rfl) (wd hw 214 rfl) (wd hw 215 rfl) (wd hw 216 rfl) (wd hw 217 rfl) (wd hw 218 rfl) (wd hw 55 rfl) (wd hw 26 rfl) (wd hw 219 rfl) F_105 (by decide) (lenOf pd_22 rfl) rfl 0 rfl rfl (by decide) (by decide) (by decide) (by decide) sl0 rfl (fun v_100 h_101 N_102 hQ_103 hle_104 => ?_)
      obtain ⟨rfl, rfl⟩ := hQ_103
      refine Go.rs [(.ref a_89)] rfl ?_
      refine Go.iloadN (pc' := 84) at_83 rfl rfl ?_
      refine Go.iloadN (pc' := 85) at_84 rfl rfl ?_
      refine Go.callS (a1 := a0) (pc' := 88) (argsL := [(.int (0 : Int32)), (.int (0 : Int32))]) (rest := [(.ref a_89)]) (ct_expToJson_0_0 l Z a0 hw n0 h_90) at_85 (wd hw 220 rfl) (wd hw 221 rfl) (wd hw 3 rfl) (wd hw 222 rfl) (by decide) (lenOf pd_28 rfl) rfl 1 rfl rfl (by decide) (by decide) (by decide) (by decide) sl0 rfl (fun v_112 h_113 N_114 hQ_115 hle_116 => ?_)
      obtain ⟨s_106, b_107, rfl, K_110, F_111⟩ := hQ_115
      have szh_113 := nle K_110.1
      have lts_106 := nlt F_111.lt
      have ltb_107 := nlt F_111.ltb
      refine Go.rs [(.ref s_106), (.ref a_89)] rfl ?_
      have F_117 := (Str.keep T_99 K_110 nin0 nin0)
      have F_118 := (sta_keep (Sta.ext E_93 F_82) K_110 ns0)
      have X_124 : Exa Z h_113 a_89 "java/lang/String" := F_117.1
      refine Go.callV (a1 := a0) (pc' := 91) (argsL := [(.ref s_106)]) (rest := []) (ct_eqT l Z a0 hw n0 h_113 a_89 s_106 b_91 b_107 [118] F_117 F_111 (by decide) cs F_118 hcs) at_88 (wd hw 180 rfl) (wd hw 181 rfl) (wd hw 183 rfl) (wd hw 183 rfl) (wd hw 182 rfl) (wd hw 28 rfl) (wd hw 184 rfl) X_124 (by decide) (lenOf pd_29 rfl) rfl 0 rfl rfl (by decide) (by decide) (by decide) (by decide) sl0 rfl (fun v_119 h_120 N_121 hQ_122 hle_123 => ?_)
      obtain ⟨rfl, rfl⟩ := hQ_122
      refine Go.rs [(.int (1 : Int32))] rfl ?_
      refine Go.ifF (pc' := 94) at_91 (show ¬ ((1 : Int32) = (0 : Int32)) by decide) rfl ?_
      refine Go.aload (pc' := 96) at_94 rfl rfl rfl ?_
      have F_125 := (Str.keep (Str.ext (Str.keep (Str.keep F_55 K_63 nin0 nin0) K_74 nin0 nin0) E_93) K_110 nin0 nin0)
      have F_126 := (Fld.keep (Fld.ext E_93 (Fld.keep (Fld.keep F_56 K_63 nin0) K_74 nin0)) K_110 nin0)
      have F_132 := (Exa.keep F_105 K_110)
      refine Go.callI (a1 := a0) (pc' := 101) (argsL := []) (rest := []) (ct_pdt l Z a0 hw n0 h_113 [105, 110, 116] f_7 s_8 b_9 F_125 F_126) at_96 (wd hw 223 rfl) (wd hw 224 rfl) (wd hw 225 rfl) (wd hw 226 rfl) (wd hw 227 rfl) (wd hw 228 rfl) (wd hw 229 rfl) (wd hw 55 rfl) (wd hw 26 rfl) (wd hw 230 rfl) F_132 (by decide) (lenOf pd_20 rfl) rfl 0 rfl rfl (by decide) (by decide) (by decide) (by decide) sl0 rfl (fun v_127 h_128 N_129 hQ_130 hle_131 => ?_)
      obtain ⟨rfl, rfl⟩ := hQ_130
      refine Go.rs [(.ref s_8)] rfl ?_
      refine Go.iloadN (pc' := 102) at_101 rfl rfl ?_
      refine Go.callS (a1 := a0) (pc' := 105) (argsL := [(.int (0 : Int32))]) (rest := [(.ref s_8)]) (ct_expDecoded_0 l Z a0 hw n0 h_113) at_102 (wd hw 231 rfl) (wd hw 232 rfl) (wd hw 3 rfl) (wd hw 233 rfl) (by decide) (lenOf pd_30 rfl) rfl 1 rfl rfl (by decide) (by decide) (by decide) (by decide) sl0 rfl (fun v_139 h_140 N_141 hQ_142 hle_143 => ?_)
      obtain ⟨s_133, b_134, rfl, K_137, F_138⟩ := hQ_142
      have szh_140 := nle K_137.1
      have lts_133 := nlt F_138.lt
      have ltb_134 := nlt F_138.ltb
      refine Go.rs [(.ref s_133), (.ref s_8)] rfl ?_
      have F_144 := (Str.keep F_125 K_137 nin0 nin0)
      have F_145 := (sta_keep F_118 K_137 ns0)
      have F_151 := (Exa.keep (Exa.keep (Exa.ext E_93 (Exa.keep (Exa.keep (Exa.ext E_48 X_43) K_63) K_74)) K_110) K_137)
      refine Go.callV (a1 := a0) (pc' := 108) (argsL := [(.ref s_133)]) (rest := []) (ct_eqT l Z a0 hw n0 h_140 s_8 s_133 b_9 b_134 [105, 110, 116] F_144 F_138 (by decide) cs F_145 hcs) at_105 (wd hw 180 rfl) (wd hw 181 rfl) (wd hw 183 rfl) (wd hw 183 rfl) (wd hw 182 rfl) (wd hw 28 rfl) (wd hw 184 rfl) F_151 (by decide) (lenOf pd_29 rfl) rfl 0 rfl rfl (by decide) (by decide) (by decide) (by decide) sl0 rfl (fun v_146 h_147 N_148 hQ_149 hle_150 => ?_)
      obtain ⟨rfl, rfl⟩ := hQ_149
      refine Go.rs [(.int (1 : Int32))] rfl ?_
      refine Go.ifF (pc' := 111) at_108 (show ¬ ((1 : Int32) = (0 : Int32)) by decide) rfl ?_
      refine Go.aload (pc' := 113) at_111 rfl rfl rfl ?_
      refine Go.ldcR (pc' := 115) (a1 := a0) 4 (vs := [.int 106]) (z := 1) at_113 rfl (wd hw 190 rfl) (own_ws hw) (by decide) (by decide) (by decide) (by decide) rfl (own_ew hw) (List.mem_of_getElem? (i := 19) rfl) ⟨by decide, by decide⟩ (by decide) (by decide) (fun a_152 h_153 b_154 k_155 E_156 X_157 F_158 F_159 A_160 ne_161 => ?_)
      have szh_153 := nle E_156.1
      have lta_152 := nlt X_157.lt
      have ltb_154 := nlt A_160.lt
      have T_162 : Str Z h_153 a_152 b_154 [106] := ⟨X_157, F_158, F_159, k_155, A_160⟩
      have F_168 := (Exa.ext E_156 (Exa.keep F_132 K_137))
      refine Go.callI (a1 := a0) (pc' := 120) (argsL := [(.ref a_152)]) (rest := []) (ct_pfd l Z a0 hw n0 h_153 f_7 a_152) at_115 (wd hw 235 rfl) (wd hw 236 rfl) (wd hw 237 rfl) (wd hw 238 rfl) (wd hw 239 rfl) (wd hw 240 rfl) (wd hw 241 rfl) (wd hw 55 rfl) (wd hw 26 rfl) (wd hw 242 rfl) F_168 (by decide) (lenOf pd_24 rfl) rfl 0 rfl rfl (by decide) (by decide) (by decide) (by decide) sl0 rfl (fun v_163 h_164 N_165 hQ_166 hle_167 => ?_)
      obtain ⟨rfl, rfl⟩ := hQ_166
      refine Go.rs [(.ref a_152)] rfl ?_
      refine Go.iloadN (pc' := 121) at_120 rfl rfl ?_
      refine Go.callS (a1 := a0) (pc' := 124) (argsL := [(.int (0 : Int32))]) (rest := [(.ref a_152)]) (ct_expFromDecoded_0 l Z a0 hw n0 h_153) at_121 (wd hw 243 rfl) (wd hw 244 rfl) (wd hw 3 rfl) (wd hw 245 rfl) (by decide) (lenOf pd_30 rfl) rfl 1 rfl rfl (by decide) (by decide) (by decide) (by decide) sl0 rfl (fun v_175 h_176 N_177 hQ_178 hle_179 => ?_)
      obtain ⟨s_169, b_170, rfl, K_173, F_174⟩ := hQ_178
      have szh_176 := nle K_173.1
      have lts_169 := nlt F_174.lt
      have ltb_170 := nlt F_174.ltb
      refine Go.rs [(.ref s_169), (.ref a_152)] rfl ?_
      have F_180 := (Str.keep T_162 K_173 nin0 nin0)
      have F_181 := (sta_keep (Sta.ext E_156 F_145) K_173 ns0)
      have X_187 : Exa Z h_176 a_152 "java/lang/String" := F_180.1
      refine Go.callV (a1 := a0) (pc' := 127) (argsL := [(.ref s_169)]) (rest := []) (ct_eqT l Z a0 hw n0 h_176 a_152 s_169 b_154 b_170 [106] F_180 F_174 (by decide) cs F_181 hcs) at_124 (wd hw 180 rfl) (wd hw 181 rfl) (wd hw 183 rfl) (wd hw 183 rfl) (wd hw 182 rfl) (wd hw 28 rfl) (wd hw 184 rfl) X_187 (by decide) (lenOf pd_29 rfl) rfl 0 rfl rfl (by decide) (by decide) (by decide) (by decide) sl0 rfl (fun v_182 h_183 N_184 hQ_185 hle_186 => ?_)
      obtain ⟨rfl, rfl⟩ := hQ_185
      refine Go.rs [(.int (1 : Int32))] rfl ?_
      refine Go.ifF (pc' := 130) at_127 (show ¬ ((1 : Int32) = (0 : Int32)) by decide) rfl ?_
      refine Go.iconst (pc' := 131) 1 at_130 rfl rfl ?_
      refine Go.goto (pc' := 135) at_131 (by decide) (by decide) ?_
      refine Go.retN (t := .boolean) (1 : Int32) rfl (by simp) rfl [] sl0 at_135 (by decide) (by decide) ?_
      exact ⟨rfl, (Keep.trans (Keep.ext (Keep.trans (Keep.trans (Keep.ext (Keep.trans (Keep.trans (Keep.ext (Keep.trans (Keep.trans (Keep.refl _ []) K_11 all0) K_29 all0) E_48) K_63 all0) K_74 all0) E_93) K_110 all0) K_137 all0) E_156) K_173 all0)⟩
    · have hc_1 : ¬ ((p1 &&& (1 : Int32)) = 0) := hc_1
      refine Go.iconst (pc' := 15) 1 at_14 rfl rfl ?_
      refine Go.goto (pc' := 19) at_15 (by decide) (by decide) ?_
      refine Go.istoreN (pc' := 20) #[.val (.int p0), .val (.int p1), .val (.int (0 : Int32)), .val (.int (1 : Int32)), .unset, .unset] at_19 rfl rfl ?_
      refine Go.iloadN (pc' := 21) at_20 rfl rfl ?_
      refine Go.callS (a1 := a0) (pc' := 24) (argsL := [(.int (0 : Int32))]) (rest := []) (ct_sc0 l Z a0 hw n0 h0 o_INTEGER S_INTEGER) at_21 (wd hw 1 rfl) (wd hw 2 rfl) (wd hw 3 rfl) (wd hw 4 rfl) (by decide) (lenOf pd_26 rfl) rfl 0 rfl rfl (by decide) (by decide) (by decide) (by decide) sl0 rfl (fun v_188 h_189 N_190 hQ_191 hle_192 => ?_)
      obtain ⟨rfl, rfl⟩ := hQ_191
      refine Go.rs [(.ref o_INTEGER)] rfl ?_
      refine Go.astore (pc' := 26) #[.val (.int p0), .val (.int p1), .val (.int (0 : Int32)), .val (.int (1 : Int32)), .val (.ref o_INTEGER), .unset] at_24 rfl rfl rfl ?_
      refine Go.aload (pc' := 28) at_26 rfl rfl rfl ?_
      refine Go.callS (a1 := a0) (pc' := 31) (argsL := [(.ref o_INTEGER)]) (rest := []) (ct_of0 l Z a0 hw n0 h0 o_INTEGER X_INTEGER F_INTEGER_ordinal b1 cl S_B A_B hi_0 he_0 (by omega)) at_28 (wd hw 8 rfl) (wd hw 9 rfl) (wd hw 10 rfl) (wd hw 11 rfl) (by decide) (lenOf pd_27 rfl) rfl 0 rfl rfl (by decide) (by decide) (by decide) (by decide) sl0 rfl (fun v_201 h_202 N_203 hQ_204 hle_205 => ?_)
      obtain ⟨f_193, s_194, b_195, rfl, g_196, K_197, X_198, F_199, F_200⟩ := hQ_204
      have szh_202 := nle K_197.1
      have ltf_193 := nlt X_198.lt
      have gef_193 := nle g_196
      have lts_194 := nlt F_200.lt
      have ltb_195 := nlt F_200.ltb
      refine Go.rs [(.ref f_193)] rfl ?_
      refine Go.astore (pc' := 33) #[.val (.int p0), .val (.int p1), .val (.int (0 : Int32)), .val (.int (1 : Int32)), .val (.ref o_INTEGER), .val (.ref f_193)] at_31 rfl rfl rfl ?_
      refine Go.aload (pc' := 35) at_33 rfl rfl rfl ?_
      refine Go.iloadN (pc' := 36) at_35 rfl rfl ?_
      have F_206 := (sta_keep S_cs K_197 ns0)
      refine Go.callI (a1 := a0) (pc' := 41) (argsL := [(.int (1 : Int32))]) (rest := []) (ct_pty1 l Z a0 hw n0 h_202 [105, 110, 116] f_193 s_194 b_195 F_200 F_199 (by decide) (by omega) cs F_206 hcs) at_36 (wd hw 48 rfl) (wd hw 49 rfl) (wd hw 50 rfl) (wd hw 51 rfl) (wd hw 52 rfl) (wd hw 53 rfl) (wd hw 54 rfl) (wd hw 55 rfl) (wd hw 26 rfl) (wd hw 56 rfl) X_198 (by decide) (lenOf pd_23 rfl) rfl 0 rfl rfl (by decide) (by decide) (by decide) (by decide) sl0 rfl (fun v_213 h_214 N_215 hQ_216 hle_217 => ?_)
      obtain ⟨s_207, b_208, rfl, g_209, g_210, K_211, F_212⟩ := hQ_216
      have szh_214 := nle K_211.1
      have lts_207 := nlt F_212.lt
      have ltb_208 := nlt F_212.ltb
      have ges_207 := nle g_209
      have geb_208 := nle g_210
      refine Go.rs [(.ref s_207)] rfl ?_
      refine Go.iloadN (pc' := 42) at_41 rfl rfl ?_
      refine Go.iloadN (pc' := 43) at_42 rfl rfl ?_
      refine Go.callS (a1 := a0) (pc' := 46) (argsL := [(.int (0 : Int32)), (.int (1 : Int32))]) (rest := [(.ref s_207)]) (ct_expType_0_1 l Z a0 hw n0 h_214) at_43 (wd hw 176 rfl) (wd hw 177 rfl) (wd hw 3 rfl) (wd hw 178 rfl) (by decide) (lenOf pd_28 rfl) rfl 1 rfl rfl (by decide) (by decide) (by decide) (by decide) sl0 rfl (fun v_224 h_225 N_226 hQ_227 hle_228 => ?_)
      obtain ⟨s_218, b_219, rfl, K_222, F_223⟩ := hQ_227
      have szh_225 := nle K_222.1
      have lts_218 := nlt F_223.lt
      have ltb_219 := nlt F_223.ltb
      refine Go.rs [(.ref s_218), (.ref s_207)] rfl ?_
      have F_229 := (Str.keep F_212 K_222 nin0 nin0)
      have F_230 := (sta_keep (sta_keep F_206 K_211 ns0) K_222 ns0)
      have X_236 : Exa Z h_225 s_207 "java/lang/String" := F_229.1
      refine Go.callV (a1 := a0) (pc' := 49) (argsL := [(.ref s_218)]) (rest := []) (ct_eqT l Z a0 hw n0 h_225 s_207 s_218 b_208 b_219 [105, 110, 116, 63] F_229 F_223 (by decide) cs F_230 hcs) at_46 (wd hw 180 rfl) (wd hw 181 rfl) (wd hw 183 rfl) (wd hw 183 rfl) (wd hw 182 rfl) (wd hw 28 rfl) (wd hw 184 rfl) X_236 (by decide) (lenOf pd_29 rfl) rfl 0 rfl rfl (by decide) (by decide) (by decide) (by decide) sl0 rfl (fun v_231 h_232 N_233 hQ_234 hle_235 => ?_)
      obtain ⟨rfl, rfl⟩ := hQ_234
      refine Go.rs [(.int (1 : Int32))] rfl ?_
      refine Go.ifF (pc' := 52) at_49 (show ¬ ((1 : Int32) = (0 : Int32)) by decide) rfl ?_
      refine Go.aload (pc' := 54) at_52 rfl rfl rfl ?_
      refine Go.ldcR (pc' := 56) (a1 := a0) 4 (vs := [.int 106]) (z := 1) at_54 rfl (wd hw 190 rfl) (own_ws hw) (by decide) (by decide) (by decide) (by decide) rfl (own_ew hw) (List.mem_of_getElem? (i := 19) rfl) ⟨by decide, by decide⟩ (by decide) (by decide) (fun a_237 h_238 b_239 k_240 E_241 X_242 F_243 F_244 A_245 ne_246 => ?_)
      have szh_238 := nle E_241.1
      have lta_237 := nlt X_242.lt
      have ltb_239 := nlt A_245.lt
      have T_247 : Str Z h_238 a_237 b_239 [106] := ⟨X_242, F_243, F_244, k_240, A_245⟩
      refine Go.iloadN (pc' := 57) at_56 rfl rfl ?_
      have F_248 := (Str.ext (Str.keep (Str.keep F_200 K_211 nin0 nin0) K_222 nin0 nin0) E_241)
      have F_249 := (Fld.ext E_241 (Fld.keep (Fld.keep F_199 K_211 nin0) K_222 nin0))
      have F_250 := (Exa.ext E_241 (Exa.keep (Exa.keep X_198 K_211) K_222))
      have F_251 := (Sta.ext E_241 F_230)
      refine Go.callI (a1 := a0) (pc' := 62) (argsL := [(.ref a_237), (.int (1 : Int32))]) (rest := []) (ct_pfj1 l Z a0 hw n0 h_238 [105, 110, 116] f_193 s_194 b_195 F_248 F_249 F_250 (by decide) a_237 b_239 T_247 (by omega) cs F_251 hcs) at_57 (wd hw 191 rfl) (wd hw 192 rfl) (wd hw 193 rfl) (wd hw 194 rfl) (wd hw 195 rfl) (wd hw 196 rfl) (wd hw 197 rfl) (wd hw 55 rfl) (wd hw 26 rfl) (wd hw 198 rfl) F_250 (by decide) (lenOf pd_22 rfl) rfl 0 rfl rfl (by decide) (by decide) (by decide) (by decide) sl0 rfl (fun v_258 h_259 N_260 hQ_261 hle_262 => ?_)
      obtain ⟨s_252, b_253, rfl, g_254, g_255, K_256, F_257⟩ := hQ_261
      have szh_259 := nle K_256.1
      have lts_252 := nlt F_257.lt
      have ltb_253 := nlt F_257.ltb
      have ges_252 := nle g_254
      have geb_253 := nle g_255
      refine Go.rs [(.ref s_252)] rfl ?_
      refine Go.iloadN (pc' := 63) at_62 rfl rfl ?_
      refine Go.iloadN (pc' := 64) at_63 rfl rfl ?_
      refine Go.callS (a1 := a0) (pc' := 67) (argsL := [(.int (0 : Int32)), (.int (1 : Int32))]) (rest := [(.ref s_252)]) (ct_expFromJson_0_1 l Z a0 hw n0 h_259) at_64 (wd hw 207 rfl) (wd hw 208 rfl) (wd hw 3 rfl) (wd hw 209 rfl) (by decide) (lenOf pd_28 rfl) rfl 1 rfl rfl (by decide) (by decide) (by decide) (by decide) sl0 rfl (fun v_269 h_270 N_271 hQ_272 hle_273 => ?_)
      obtain ⟨s_263, b_264, rfl, K_267, F_268⟩ := hQ_272
      have szh_270 := nle K_267.1
      have lts_263 := nlt F_268.lt
      have ltb_264 := nlt F_268.ltb
      refine Go.rs [(.ref s_263), (.ref s_252)] rfl ?_
      have F_274 := (Str.keep F_257 K_267 nin0 nin0)
      have F_275 := (sta_keep (sta_keep F_251 K_256 ns0) K_267 ns0)
      have X_281 : Exa Z h_270 s_252 "java/lang/String" := F_274.1
      refine Go.callV (a1 := a0) (pc' := 70) (argsL := [(.ref s_263)]) (rest := []) (ct_eqT l Z a0 hw n0 h_270 s_252 s_263 b_253 b_264 [106, 32, 97, 115, 32, 105, 110, 116, 63] F_274 F_268 (by decide) cs F_275 hcs) at_67 (wd hw 180 rfl) (wd hw 181 rfl) (wd hw 183 rfl) (wd hw 183 rfl) (wd hw 182 rfl) (wd hw 28 rfl) (wd hw 184 rfl) X_281 (by decide) (lenOf pd_29 rfl) rfl 0 rfl rfl (by decide) (by decide) (by decide) (by decide) sl0 rfl (fun v_276 h_277 N_278 hQ_279 hle_280 => ?_)
      obtain ⟨rfl, rfl⟩ := hQ_279
      refine Go.rs [(.int (1 : Int32))] rfl ?_
      refine Go.ifF (pc' := 73) at_70 (show ¬ ((1 : Int32) = (0 : Int32)) by decide) rfl ?_
      refine Go.aload (pc' := 75) at_73 rfl rfl rfl ?_
      refine Go.ldcR (pc' := 77) (a1 := a0) 4 (vs := [.int 118]) (z := 1) at_75 rfl (wd hw 211 rfl) (own_ws hw) (by decide) (by decide) (by decide) (by decide) rfl (own_ew hw) (List.mem_of_getElem? (i := 20) rfl) ⟨by decide, by decide⟩ (by decide) (by decide) (fun a_282 h_283 b_284 k_285 E_286 X_287 F_288 F_289 A_290 ne_291 => ?_)
      have szh_283 := nle E_286.1
      have lta_282 := nlt X_287.lt
      have ltb_284 := nlt A_290.lt
      have T_292 : Str Z h_283 a_282 b_284 [118] := ⟨X_287, F_288, F_289, k_285, A_290⟩
      refine Go.iloadN (pc' := 78) at_77 rfl rfl ?_
      have F_298 := (Exa.ext E_286 (Exa.keep (Exa.keep F_250 K_256) K_267))
      refine Go.callI (a1 := a0) (pc' := 83) (argsL := [(.ref a_282), (.int (1 : Int32))]) (rest := []) (ct_ptj1 l Z a0 hw n0 h_283 f_193 a_282) at_78 (wd hw 212 rfl) (wd hw 213 rfl) (wd hw 214 rfl) (wd hw 215 rfl) (wd hw 216 rfl) (wd hw 217 rfl) (wd hw 218 rfl) (wd hw 55 rfl) (wd hw 26 rfl) (wd hw 219 rfl) F_298 (by decide) (lenOf pd_22 rfl) rfl 0 rfl rfl (by decide) (by decide) (by decide) (by decide) sl0 rfl (fun v_293 h_294 N_295 hQ_296 hle_297 => ?_)
      obtain ⟨rfl, rfl⟩ := hQ_296
      refine Go.rs [(.ref a_282)] rfl ?_
      refine Go.iloadN (pc' := 84) at_83 rfl rfl ?_
      refine Go.iloadN (pc' := 85) at_84 rfl rfl ?_
      refine Go.callS (a1 := a0) (pc' := 88) (argsL := [(.int (0 : Int32)), (.int (1 : Int32))]) (rest := [(.ref a_282)]) (ct_expToJson_0_1 l Z a0 hw n0 h_283) at_85 (wd hw 220 rfl) (wd hw 221 rfl) (wd hw 3 rfl) (wd hw 222 rfl) (by decide) (lenOf pd_28 rfl) rfl 1 rfl rfl (by decide) (by decide) (by decide) (by decide) sl0 rfl (fun v_305 h_306 N_307 hQ_308 hle_309 => ?_)
      obtain ⟨s_299, b_300, rfl, K_303, F_304⟩ := hQ_308
      have szh_306 := nle K_303.1
      have lts_299 := nlt F_304.lt
      have ltb_300 := nlt F_304.ltb
      refine Go.rs [(.ref s_299), (.ref a_282)] rfl ?_
      have F_310 := (Str.keep T_292 K_303 nin0 nin0)
      have F_311 := (sta_keep (Sta.ext E_286 F_275) K_303 ns0)
      have X_317 : Exa Z h_306 a_282 "java/lang/String" := F_310.1
      refine Go.callV (a1 := a0) (pc' := 91) (argsL := [(.ref s_299)]) (rest := []) (ct_eqT l Z a0 hw n0 h_306 a_282 s_299 b_284 b_300 [118] F_310 F_304 (by decide) cs F_311 hcs) at_88 (wd hw 180 rfl) (wd hw 181 rfl) (wd hw 183 rfl) (wd hw 183 rfl) (wd hw 182 rfl) (wd hw 28 rfl) (wd hw 184 rfl) X_317 (by decide) (lenOf pd_29 rfl) rfl 0 rfl rfl (by decide) (by decide) (by decide) (by decide) sl0 rfl (fun v_312 h_313 N_314 hQ_315 hle_316 => ?_)
      obtain ⟨rfl, rfl⟩ := hQ_315
      refine Go.rs [(.int (1 : Int32))] rfl ?_
      refine Go.ifF (pc' := 94) at_91 (show ¬ ((1 : Int32) = (0 : Int32)) by decide) rfl ?_
      refine Go.aload (pc' := 96) at_94 rfl rfl rfl ?_
      have F_318 := (Str.keep (Str.ext (Str.keep (Str.keep F_248 K_256 nin0 nin0) K_267 nin0 nin0) E_286) K_303 nin0 nin0)
      have F_319 := (Fld.keep (Fld.ext E_286 (Fld.keep (Fld.keep F_249 K_256 nin0) K_267 nin0)) K_303 nin0)
      have F_325 := (Exa.keep F_298 K_303)
      refine Go.callI (a1 := a0) (pc' := 101) (argsL := []) (rest := []) (ct_pdt l Z a0 hw n0 h_306 [105, 110, 116] f_193 s_194 b_195 F_318 F_319) at_96 (wd hw 223 rfl) (wd hw 224 rfl) (wd hw 225 rfl) (wd hw 226 rfl) (wd hw 227 rfl) (wd hw 228 rfl) (wd hw 229 rfl) (wd hw 55 rfl) (wd hw 26 rfl) (wd hw 230 rfl) F_325 (by decide) (lenOf pd_20 rfl) rfl 0 rfl rfl (by decide) (by decide) (by decide) (by decide) sl0 rfl (fun v_320 h_321 N_322 hQ_323 hle_324 => ?_)
      obtain ⟨rfl, rfl⟩ := hQ_323
      refine Go.rs [(.ref s_194)] rfl ?_
      refine Go.iloadN (pc' := 102) at_101 rfl rfl ?_
      refine Go.callS (a1 := a0) (pc' := 105) (argsL := [(.int (0 : Int32))]) (rest := [(.ref s_194)]) (ct_expDecoded_0 l Z a0 hw n0 h_306) at_102 (wd hw 231 rfl) (wd hw 232 rfl) (wd hw 3 rfl) (wd hw 233 rfl) (by decide) (lenOf pd_30 rfl) rfl 1 rfl rfl (by decide) (by decide) (by decide) (by decide) sl0 rfl (fun v_332 h_333 N_334 hQ_335 hle_336 => ?_)
      obtain ⟨s_326, b_327, rfl, K_330, F_331⟩ := hQ_335
      have szh_333 := nle K_330.1
      have lts_326 := nlt F_331.lt
      have ltb_327 := nlt F_331.ltb
      refine Go.rs [(.ref s_326), (.ref s_194)] rfl ?_
      have F_337 := (Str.keep F_318 K_330 nin0 nin0)
      have F_338 := (sta_keep F_311 K_330 ns0)
      have X_344 : Exa Z h_333 s_194 "java/lang/String" := F_337.1
      refine Go.callV (a1 := a0) (pc' := 108) (argsL := [(.ref s_326)]) (rest := []) (ct_eqT l Z a0 hw n0 h_333 s_194 s_326 b_195 b_327 [105, 110, 116] F_337 F_331 (by decide) cs F_338 hcs) at_105 (wd hw 180 rfl) (wd hw 181 rfl) (wd hw 183 rfl) (wd hw 183 rfl) (wd hw 182 rfl) (wd hw 28 rfl) (wd hw 184 rfl) X_344 (by decide) (lenOf pd_29 rfl) rfl 0 rfl rfl (by decide) (by decide) (by decide) (by decide) sl0 rfl (fun v_339 h_340 N_341 hQ_342 hle_343 => ?_)
      obtain ⟨rfl, rfl⟩ := hQ_342
      refine Go.rs [(.int (1 : Int32))] rfl ?_
      refine Go.ifF (pc' := 111) at_108 (show ¬ ((1 : Int32) = (0 : Int32)) by decide) rfl ?_
      refine Go.aload (pc' := 113) at_111 rfl rfl rfl ?_
      refine Go.ldcR (pc' := 115) (a1 := a0) 4 (vs := [.int 106]) (z := 1) at_113 rfl (wd hw 190 rfl) (own_ws hw) (by decide) (by decide) (by decide) (by decide) rfl (own_ew hw) (List.mem_of_getElem? (i := 19) rfl) ⟨by decide, by decide⟩ (by decide) (by decide) (fun a_345 h_346 b_347 k_348 E_349 X_350 F_351 F_352 A_353 ne_354 => ?_)
      have szh_346 := nle E_349.1
      have lta_345 := nlt X_350.lt
      have ltb_347 := nlt A_353.lt
      have T_355 : Str Z h_346 a_345 b_347 [106] := ⟨X_350, F_351, F_352, k_348, A_353⟩
      have F_361 := (Exa.ext E_349 (Exa.keep F_325 K_330))
      refine Go.callI (a1 := a0) (pc' := 120) (argsL := [(.ref a_345)]) (rest := []) (ct_pfd l Z a0 hw n0 h_346 f_193 a_345) at_115 (wd hw 235 rfl) (wd hw 236 rfl) (wd hw 237 rfl) (wd hw 238 rfl) (wd hw 239 rfl) (wd hw 240 rfl) (wd hw 241 rfl) (wd hw 55 rfl) (wd hw 26 rfl) (wd hw 242 rfl) F_361 (by decide) (lenOf pd_24 rfl) rfl 0 rfl rfl (by decide) (by decide) (by decide) (by decide) sl0 rfl (fun v_356 h_357 N_358 hQ_359 hle_360 => ?_)
      obtain ⟨rfl, rfl⟩ := hQ_359
      refine Go.rs [(.ref a_345)] rfl ?_
      refine Go.iloadN (pc' := 121) at_120 rfl rfl ?_
      refine Go.callS (a1 := a0) (pc' := 124) (argsL := [(.int (0 : Int32))]) (rest := [(.ref a_345)]) (ct_expFromDecoded_0 l Z a0 hw n0 h_346) at_121 (wd hw 243 rfl) (wd hw 244 rfl) (wd hw 3 rfl) (wd hw 245 rfl) (by decide) (lenOf pd_30 rfl) rfl 1 rfl rfl (by decide) (by decide) (by decide) (by decide) sl0 rfl (fun v_368 h_369 N_370 hQ_371 hle_372 => ?_)
      obtain ⟨s_362, b_363, rfl, K_366, F_367⟩ := hQ_371
      have szh_369 := nle K_366.1
      have lts_362 := nlt F_367.lt
      have ltb_363 := nlt F_367.ltb
      refine Go.rs [(.ref s_362), (.ref a_345)] rfl ?_
      have F_373 := (Str.keep T_355 K_366 nin0 nin0)
      have F_374 := (sta_keep (Sta.ext E_349 F_338) K_366 ns0)
      have X_380 : Exa Z h_369 a_345 "java/lang/String" := F_373.1
      refine Go.callV (a1 := a0) (pc' := 127) (argsL := [(.ref s_362)]) (rest := []) (ct_eqT l Z a0 hw n0 h_369 a_345 s_362 b_347 b_363 [106] F_373 F_367 (by decide) cs F_374 hcs) at_124 (wd hw 180 rfl) (wd hw 181 rfl) (wd hw 183 rfl) (wd hw 183 rfl) (wd hw 182 rfl) (wd hw 28 rfl) (wd hw 184 rfl) X_380 (by decide) (lenOf pd_29 rfl) rfl 0 rfl rfl (by decide) (by decide) (by decide) (by decide) sl0 rfl (fun v_375 h_376 N_377 hQ_378 hle_379 => ?_)
      obtain ⟨rfl, rfl⟩ := hQ_378
      refine Go.rs [(.int (1 : Int32))] rfl ?_
      refine Go.ifF (pc' := 130) at_127 (show ¬ ((1 : Int32) = (0 : Int32)) by decide) rfl ?_
      refine Go.iconst (pc' := 131) 1 at_130 rfl rfl ?_
      refine Go.goto (pc' := 135) at_131 (by decide) (by decide) ?_
      refine Go.retN (t := .boolean) (1 : Int32) rfl (by simp) rfl [] sl0 at_135 (by decide) (by decide) ?_
      exact ⟨rfl, (Keep.trans (Keep.ext (Keep.trans (Keep.trans (Keep.ext (Keep.trans (Keep.trans (Keep.ext (Keep.trans (Keep.trans (Keep.trans (Keep.refl _ []) K_197 all0) K_211 all0) K_222 all0) E_241) K_256 all0) K_267 all0) E_286) K_303 all0) K_330 all0) E_349) K_366 all0)⟩
  · refine Go.re (pc' := 8) (L' := #[.val (.int p0), .val (.int p1), .val (.int (1 : Int32)), .unset, .unset, .unset]) (S' := []) rfl (by rw [e7]) rfl ?_
    refine Go.iloadN (pc' := 9) at_8 rfl rfl ?_
    refine Go.iconst (pc' := 10) 1 at_9 rfl rfl ?_
    refine Go.iand (pc' := 11) at_10 rfl ?_
    refine Go.ifc (pc' := 18) (pc'' := 14) at_11 (by decide) (by decide) rfl (fun hc_381 => ?_) (fun hc_381 => ?_)
    · have hc_381 : (p1 &&& (1 : Int32)) = 0 := hc_381
      refine Go.iconst (pc' := 19) 0 at_18 rfl rfl ?_
      refine Go.istoreN (pc' := 20) #[.val (.int p0), .val (.int p1), .val (.int (1 : Int32)), .val (.int (0 : Int32)), .unset, .unset] at_19 rfl rfl ?_
      refine Go.iloadN (pc' := 21) at_20 rfl rfl ?_
      refine Go.callS (a1 := a0) (pc' := 24) (argsL := [(.int (1 : Int32))]) (rest := []) (ct_sc1 l Z a0 hw n0 h0 o_NUMBER S_NUMBER) at_21 (wd hw 1 rfl) (wd hw 2 rfl) (wd hw 3 rfl) (wd hw 4 rfl) (by decide) (lenOf pd_26 rfl) rfl 0 rfl rfl (by decide) (by decide) (by decide) (by decide) sl0 rfl (fun v_382 h_383 N_384 hQ_385 hle_386 => ?_)
      obtain ⟨rfl, rfl⟩ := hQ_385
      refine Go.rs [(.ref o_NUMBER)] rfl ?_
      refine Go.astore (pc' := 26) #[.val (.int p0), .val (.int p1), .val (.int (1 : Int32)), .val (.int (0 : Int32)), .val (.ref o_NUMBER), .unset] at_24 rfl rfl rfl ?_
      refine Go.aload (pc' := 28) at_26 rfl rfl rfl ?_
      refine Go.callS (a1 := a0) (pc' := 31) (argsL := [(.ref o_NUMBER)]) (rest := []) (ct_of1 l Z a0 hw n0 h0 o_NUMBER X_NUMBER F_NUMBER_ordinal b1 cl S_B A_B hi_1 he_1 (by omega)) at_28 (wd hw 8 rfl) (wd hw 9 rfl) (wd hw 10 rfl) (wd hw 11 rfl) (by decide) (lenOf pd_27 rfl) rfl 0 rfl rfl (by decide) (by decide) (by decide) (by decide) sl0 rfl (fun v_395 h_396 N_397 hQ_398 hle_399 => ?_)
      obtain ⟨f_387, rfl, g_390, K_391, X_392⟩ := hQ_398
      have szh_396 := nle K_391.1
      have ltf_387 := nlt X_392.lt
      have gef_387 := nle g_390
      refine Go.rs [(.ref f_387)] rfl ?_
      refine Go.astore (pc' := 33) #[.val (.int p0), .val (.int p1), .val (.int (1 : Int32)), .val (.int (0 : Int32)), .val (.ref o_NUMBER), .val (.ref f_387)] at_31 rfl rfl rfl ?_
      refine Go.aload (pc' := 35) at_33 rfl rfl rfl ?_
      refine Go.iloadN (pc' := 36) at_35 rfl rfl ?_
      have F_400 := (sta_keep S_cs K_391 ns0)
      refine Go.callI (a1 := a0) (pc' := 41) (argsL := [(.int (0 : Int32))]) (rest := []) (ct_dty_00 l Z a0 hw n0 h_396 f_387 X_392   (by omega) cs F_400 hcs) at_36 (wd hw 48 rfl) (wd hw 49 rfl) (wd hw 50 rfl) (wd hw 261 rfl) (wd hw 262 rfl) (wd hw 263 rfl) (wd hw 264 rfl) (wd hw 265 rfl) (wd hw 256 rfl) (wd hw 266 rfl) X_392 (by decide) (lenOf pd_23 rfl) rfl 0 rfl rfl (by decide) (by decide) (by decide) (by decide) sl0 rfl (fun v_407 h_408 N_409 hQ_410 hle_411 => ?_)
      obtain ⟨s_401, b_402, rfl, K_405, F_406⟩ := hQ_410
      have szh_408 := nle K_405.1
      have lts_401 := nlt F_406.lt
      have ltb_402 := nlt F_406.ltb
      refine Go.rs [(.ref s_401)] rfl ?_
      refine Go.iloadN (pc' := 42) at_41 rfl rfl ?_
      refine Go.iloadN (pc' := 43) at_42 rfl rfl ?_
      refine Go.callS (a1 := a0) (pc' := 46) (argsL := [(.int (1 : Int32)), (.int (0 : Int32))]) (rest := [(.ref s_401)]) (ct_expType_1_0 l Z a0 hw n0 h_408) at_43 (wd hw 176 rfl) (wd hw 177 rfl) (wd hw 3 rfl) (wd hw 178 rfl) (by decide) (lenOf pd_28 rfl) rfl 1 rfl rfl (by decide) (by decide) (by decide) (by decide) sl0 rfl (fun v_418 h_419 N_420 hQ_421 hle_422 => ?_)
      obtain ⟨s_412, b_413, rfl, K_416, F_417⟩ := hQ_421
      have szh_419 := nle K_416.1
      have lts_412 := nlt F_417.lt
      have ltb_413 := nlt F_417.ltb
      refine Go.rs [(.ref s_412), (.ref s_401)] rfl ?_
      have F_423 := (Str.keep F_406 K_416 nin0 nin0)
      have F_424 := (sta_keep (sta_keep F_400 K_405 ns0) K_416 ns0)
      have X_430 : Exa Z h_419 s_401 "java/lang/String" := F_423.1
      refine Go.callV (a1 := a0) (pc' := 49) (argsL := [(.ref s_412)]) (rest := []) (ct_eqT l Z a0 hw n0 h_419 s_401 s_412 b_402 b_413 [100, 111, 117, 98, 108, 101] F_423 F_417 (by decide) cs F_424 hcs) at_46 (wd hw 180 rfl) (wd hw 181 rfl) (wd hw 183 rfl) (wd hw 183 rfl) (wd hw 182 rfl) (wd hw 28 rfl) (wd hw 184 rfl) X_430 (by decide) (lenOf pd_29 rfl) rfl 0 rfl rfl (by decide) (by decide) (by decide) (by decide) sl0 rfl (fun v_425 h_426 N_427 hQ_428 hle_429 => ?_)
      obtain ⟨rfl, rfl⟩ := hQ_428
      refine Go.rs [(.int (1 : Int32))] rfl ?_
      refine Go.ifF (pc' := 52) at_49 (show ¬ ((1 : Int32) = (0 : Int32)) by decide) rfl ?_
      refine Go.aload (pc' := 54) at_52 rfl rfl rfl ?_
      refine Go.ldcR (pc' := 56) (a1 := a0) 4 (vs := [.int 106]) (z := 1) at_54 rfl (wd hw 190 rfl) (own_ws hw) (by decide) (by decide) (by decide) (by decide) rfl (own_ew hw) (List.mem_of_getElem? (i := 19) rfl) ⟨by decide, by decide⟩ (by decide) (by decide) (fun a_431 h_432 b_433 k_434 E_435 X_436 F_437 F_438 A_439 ne_440 => ?_)
      have szh_432 := nle E_435.1
      have lta_431 := nlt X_436.lt
      have ltb_433 := nlt A_439.lt
      have T_441 : Str Z h_432 a_431 b_433 [106] := ⟨X_436, F_437, F_438, k_434, A_439⟩
      refine Go.iloadN (pc' := 57) at_56 rfl rfl ?_
      have F_442 := (Exa.ext E_435 (Exa.keep (Exa.keep X_392 K_405) K_416))
      have F_443 := (Sta.ext E_435 F_424)
      refine Go.callI (a1 := a0) (pc' := 62) (argsL := [(.ref a_431), (.int (0 : Int32))]) (rest := []) (ct_dfj_j10 l Z a0 hw n0 h_432 f_387 F_442  a_431 b_433 T_441 (by omega) cs F_443 hcs) at_57 (wd hw 191 rfl) (wd hw 192 rfl) (wd hw 193 rfl) (wd hw 270 rfl) (wd hw 271 rfl) (wd hw 272 rfl) (wd hw 273 rfl) (wd hw 265 rfl) (wd hw 256 rfl) (wd hw 274 rfl) F_442 (by decide) (lenOf pd_22 rfl) rfl 0 rfl rfl (by decide) (by decide) (by decide) (by decide) sl0 rfl (fun v_450 h_451 N_452 hQ_453 hle_454 => ?_)
      obtain ⟨s_444, b_445, rfl, K_448, F_449⟩ := hQ_453
      have szh_451 := nle K_448.1
      have lts_444 := nlt F_449.lt
      have ltb_445 := nlt F_449.ltb
      refine Go.rs [(.ref s_444)] rfl ?_
      refine Go.iloadN (pc' := 63) at_62 rfl rfl ?_
      refine Go.iloadN (pc' := 64) at_63 rfl rfl ?_
      refine Go.callS (a1 := a0) (pc' := 67) (argsL := [(.int (1 : Int32)), (.int (0 : Int32))]) (rest := [(.ref s_444)]) (ct_expFromJson_1_0 l Z a0 hw n0 h_451) at_64 (wd hw 207 rfl) (wd hw 208 rfl) (wd hw 3 rfl) (wd hw 209 rfl) (by decide) (lenOf pd_28 rfl) rfl 1 rfl rfl (by decide) (by decide) (by decide) (by decide) sl0 rfl (fun v_461 h_462 N_463 hQ_464 hle_465 => ?_)
      obtain ⟨s_455, b_456, rfl, K_459, F_460⟩ := hQ_464
      have szh_462 := nle K_459.1
      have lts_455 := nlt F_460.lt
      have ltb_456 := nlt F_460.ltb
      refine Go.rs [(.ref s_455), (.ref s_444)] rfl ?_
      have F_466 := (Str.keep F_449 K_459 nin0 nin0)
      have F_467 := (sta_keep (sta_keep F_443 K_448 ns0) K_459 ns0)
      have X_473 : Exa Z h_462 s_444 "java/lang/String" := F_466.1
      refine Go.callV (a1 := a0) (pc' := 70) (argsL := [(.ref s_455)]) (rest := []) (ct_eqT l Z a0 hw n0 h_462 s_444 s_455 b_445 b_456 [40, 106, 32, 97, 115, 32, 110, 117, 109, 41, 46, 116, 111, 68, 111, 117, 98, 108, 101, 40, 41] F_466 F_460 (by decide) cs F_467 hcs) at_67 (wd hw 180 rfl) (wd hw 181 rfl) (wd hw 183 rfl) (wd hw 183 rfl) (wd hw 182 rfl) (wd hw 28 rfl) (wd hw 184 rfl) X_473 (by decide) (lenOf pd_29 rfl) rfl 0 rfl rfl (by decide) (by decide) (by decide) (by decide) sl0 rfl (fun v_468 h_469 N_470 hQ_471 hle_472 => ?_)
      obtain ⟨rfl, rfl⟩ := hQ_471
      refine Go.rs [(.int (1 : Int32))] rfl ?_
      refine Go.ifF (pc' := 73) at_70 (show ¬ ((1 : Int32) = (0 : Int32)) by decide) rfl ?_
      refine Go.aload (pc' := 75) at_73 rfl rfl rfl ?_
      refine Go.ldcR (pc' := 77) (a1 := a0) 4 (vs := [.int 118]) (z := 1) at_75 rfl (wd hw 211 rfl) (own_ws hw) (by decide) (by decide) (by decide) (by decide) rfl (own_ew hw) (List.mem_of_getElem? (i := 20) rfl) ⟨by decide, by decide⟩ (by decide) (by decide) (fun a_474 h_475 b_476 k_477 E_478 X_479 F_480 F_481 A_482 ne_483 => ?_)
      have szh_475 := nle E_478.1
      have lta_474 := nlt X_479.lt
      have ltb_476 := nlt A_482.lt
      have T_484 : Str Z h_475 a_474 b_476 [118] := ⟨X_479, F_480, F_481, k_477, A_482⟩
      refine Go.iloadN (pc' := 78) at_77 rfl rfl ?_
      have F_490 := (Exa.ext E_478 (Exa.keep (Exa.keep F_442 K_448) K_459))
      refine Go.callI (a1 := a0) (pc' := 83) (argsL := [(.ref a_474), (.int (0 : Int32))]) (rest := []) (ct_dtj0 l Z a0 hw n0 h_475 f_387 a_474) at_78 (wd hw 212 rfl) (wd hw 213 rfl) (wd hw 214 rfl) (wd hw 299 rfl) (wd hw 300 rfl) (wd hw 301 rfl) (wd hw 302 rfl) (wd hw 265 rfl) (wd hw 256 rfl) (wd hw 303 rfl) F_490 (by decide) (lenOf pd_22 rfl) rfl 0 rfl rfl (by decide) (by decide) (by decide) (by decide) sl0 rfl (fun v_485 h_486 N_487 hQ_488 hle_489 => ?_)
      obtain ⟨rfl, rfl⟩ := hQ_488
      refine Go.rs [(.ref a_474)] rfl ?_
      refine Go.iloadN (pc' := 84) at_83 rfl rfl ?_
      refine Go.iloadN (pc' := 85) at_84 rfl rfl ?_
      refine Go.callS (a1 := a0) (pc' := 88) (argsL := [(.int (1 : Int32)), (.int (0 : Int32))]) (rest := [(.ref a_474)]) (ct_expToJson_1_0 l Z a0 hw n0 h_475) at_85 (wd hw 220 rfl) (wd hw 221 rfl) (wd hw 3 rfl) (wd hw 222 rfl) (by decide) (lenOf pd_28 rfl) rfl 1 rfl rfl (by decide) (by decide) (by decide) (by decide) sl0 rfl (fun v_497 h_498 N_499 hQ_500 hle_501 => ?_)
      obtain ⟨s_491, b_492, rfl, K_495, F_496⟩ := hQ_500
      have szh_498 := nle K_495.1
      have lts_491 := nlt F_496.lt
      have ltb_492 := nlt F_496.ltb
      refine Go.rs [(.ref s_491), (.ref a_474)] rfl ?_
      have F_502 := (Str.keep T_484 K_495 nin0 nin0)
      have F_503 := (sta_keep (Sta.ext E_478 F_467) K_495 ns0)
      have X_509 : Exa Z h_498 a_474 "java/lang/String" := F_502.1
      refine Go.callV (a1 := a0) (pc' := 91) (argsL := [(.ref s_491)]) (rest := []) (ct_eqT l Z a0 hw n0 h_498 a_474 s_491 b_476 b_492 [118] F_502 F_496 (by decide) cs F_503 hcs) at_88 (wd hw 180 rfl) (wd hw 181 rfl) (wd hw 183 rfl) (wd hw 183 rfl) (wd hw 182 rfl) (wd hw 28 rfl) (wd hw 184 rfl) X_509 (by decide) (lenOf pd_29 rfl) rfl 0 rfl rfl (by decide) (by decide) (by decide) (by decide) sl0 rfl (fun v_504 h_505 N_506 hQ_507 hle_508 => ?_)
      obtain ⟨rfl, rfl⟩ := hQ_507
      refine Go.rs [(.int (1 : Int32))] rfl ?_
      refine Go.ifF (pc' := 94) at_91 (show ¬ ((1 : Int32) = (0 : Int32)) by decide) rfl ?_
      refine Go.aload (pc' := 96) at_94 rfl rfl rfl ?_
      have F_510 := (Exa.keep F_490 K_495)
      refine Go.callI (a1 := a0) (pc' := 101) (argsL := []) (rest := []) (ct_ddt_0 l Z a0 hw n0 h_498 f_387 F_510   (by omega) cs F_503 hcs) at_96 (wd hw 223 rfl) (wd hw 224 rfl) (wd hw 225 rfl) (wd hw 304 rfl) (wd hw 305 rfl) (wd hw 306 rfl) (wd hw 307 rfl) (wd hw 265 rfl) (wd hw 256 rfl) (wd hw 308 rfl) F_510 (by decide) (lenOf pd_20 rfl) rfl 0 rfl rfl (by decide) (by decide) (by decide) (by decide) sl0 rfl (fun v_517 h_518 N_519 hQ_520 hle_521 => ?_)
      obtain ⟨s_511, b_512, rfl, K_515, F_516⟩ := hQ_520
      have szh_518 := nle K_515.1
      have lts_511 := nlt F_516.lt
      have ltb_512 := nlt F_516.ltb
      refine Go.rs [(.ref s_511)] rfl ?_
      refine Go.iloadN (pc' := 102) at_101 rfl rfl ?_
      refine Go.callS (a1 := a0) (pc' := 105) (argsL := [(.int (1 : Int32))]) (rest := [(.ref s_511)]) (ct_expDecoded_1 l Z a0 hw n0 h_518) at_102 (wd hw 231 rfl) (wd hw 232 rfl) (wd hw 3 rfl) (wd hw 233 rfl) (by decide) (lenOf pd_30 rfl) rfl 1 rfl rfl (by decide) (by decide) (by decide) (by decide) sl0 rfl (fun v_528 h_529 N_530 hQ_531 hle_532 => ?_)
      obtain ⟨s_522, b_523, rfl, K_526, F_527⟩ := hQ_531
      have szh_529 := nle K_526.1
      have lts_522 := nlt F_527.lt
      have ltb_523 := nlt F_527.ltb
      refine Go.rs [(.ref s_522), (.ref s_511)] rfl ?_
      have F_533 := (Str.keep F_516 K_526 nin0 nin0)
      have F_534 := (sta_keep (sta_keep F_503 K_515 ns0) K_526 ns0)
      have X_540 : Exa Z h_529 s_511 "java/lang/String" := F_533.1
      refine Go.callV (a1 := a0) (pc' := 108) (argsL := [(.ref s_522)]) (rest := []) (ct_eqT l Z a0 hw n0 h_529 s_511 s_522 b_512 b_523 [110, 117, 109] F_533 F_527 (by decide) cs F_534 hcs) at_105 (wd hw 180 rfl) (wd hw 181 rfl) (wd hw 183 rfl) (wd hw 183 rfl) (wd hw 182 rfl) (wd hw 28 rfl) (wd hw 184 rfl) X_540 (by decide) (lenOf pd_29 rfl) rfl 0 rfl rfl (by decide) (by decide) (by decide) (by decide) sl0 rfl (fun v_535 h_536 N_537 hQ_538 hle_539 => ?_)
      obtain ⟨rfl, rfl⟩ := hQ_538
      refine Go.rs [(.int (1 : Int32))] rfl ?_
      refine Go.ifF (pc' := 111) at_108 (show ¬ ((1 : Int32) = (0 : Int32)) by decide) rfl ?_
      refine Go.aload (pc' := 113) at_111 rfl rfl rfl ?_
      refine Go.ldcR (pc' := 115) (a1 := a0) 4 (vs := [.int 106]) (z := 1) at_113 rfl (wd hw 190 rfl) (own_ws hw) (by decide) (by decide) (by decide) (by decide) rfl (own_ew hw) (List.mem_of_getElem? (i := 19) rfl) ⟨by decide, by decide⟩ (by decide) (by decide) (fun a_541 h_542 b_543 k_544 E_545 X_546 F_547 F_548 A_549 ne_550 => ?_)
      have szh_542 := nle E_545.1
      have lta_541 := nlt X_546.lt
      have ltb_543 := nlt A_549.lt
      have T_551 : Str Z h_542 a_541 b_543 [106] := ⟨X_546, F_547, F_548, k_544, A_549⟩
      have F_552 := (Exa.ext E_545 (Exa.keep (Exa.keep F_510 K_515) K_526))
      have F_553 := (Sta.ext E_545 F_534)
      refine Go.callI (a1 := a0) (pc' := 120) (argsL := [(.ref a_541)]) (rest := []) (ct_dfd_j1 l Z a0 hw n0 h_542 f_387 F_552  a_541 b_543 T_551 (by omega) cs F_553 hcs) at_115 (wd hw 235 rfl) (wd hw 236 rfl) (wd hw 237 rfl) (wd hw 311 rfl) (wd hw 312 rfl) (wd hw 313 rfl) (wd hw 314 rfl) (wd hw 265 rfl) (wd hw 256 rfl) (wd hw 315 rfl) F_552 (by decide) (lenOf pd_24 rfl) rfl 0 rfl rfl (by decide) (by decide) (by decide) (by decide) sl0 rfl (fun v_560 h_561 N_562 hQ_563 hle_564 => ?_)
      obtain ⟨s_554, b_555, rfl, g_556, g_557, K_558, F_559⟩ := hQ_563
      have szh_561 := nle K_558.1
      have lts_554 := nlt F_559.lt
      have ltb_555 := nlt F_559.ltb
      have ges_554 := nle g_556
      have geb_555 := nle g_557
      refine Go.rs [(.ref s_554)] rfl ?_
      refine Go.iloadN (pc' := 121) at_120 rfl rfl ?_
      refine Go.callS (a1 := a0) (pc' := 124) (argsL := [(.int (1 : Int32))]) (rest := [(.ref s_554)]) (ct_expFromDecoded_1 l Z a0 hw n0 h_561) at_121 (wd hw 243 rfl) (wd hw 244 rfl) (wd hw 3 rfl) (wd hw 245 rfl) (by decide) (lenOf pd_30 rfl) rfl 1 rfl rfl (by decide) (by decide) (by decide) (by decide) sl0 rfl (fun v_571 h_572 N_573 hQ_574 hle_575 => ?_)
      obtain ⟨s_565, b_566, rfl, K_569, F_570⟩ := hQ_574
      have szh_572 := nle K_569.1
      have lts_565 := nlt F_570.lt
      have ltb_566 := nlt F_570.ltb
      refine Go.rs [(.ref s_565), (.ref s_554)] rfl ?_
      have F_576 := (Str.keep F_559 K_569 nin0 nin0)
      have F_577 := (sta_keep (sta_keep F_553 K_558 ns0) K_569 ns0)
      have X_583 : Exa Z h_572 s_554 "java/lang/String" := F_576.1
      refine Go.callV (a1 := a0) (pc' := 127) (argsL := [(.ref s_565)]) (rest := []) (ct_eqT l Z a0 hw n0 h_572 s_554 s_565 b_555 b_566 [106, 46, 116, 111, 68, 111, 117, 98, 108, 101, 40, 41] F_576 F_570 (by decide) cs F_577 hcs) at_124 (wd hw 180 rfl) (wd hw 181 rfl) (wd hw 183 rfl) (wd hw 183 rfl) (wd hw 182 rfl) (wd hw 28 rfl) (wd hw 184 rfl) X_583 (by decide) (lenOf pd_29 rfl) rfl 0 rfl rfl (by decide) (by decide) (by decide) (by decide) sl0 rfl (fun v_578 h_579 N_580 hQ_581 hle_582 => ?_)
      obtain ⟨rfl, rfl⟩ := hQ_581
      refine Go.rs [(.int (1 : Int32))] rfl ?_
      refine Go.ifF (pc' := 130) at_127 (show ¬ ((1 : Int32) = (0 : Int32)) by decide) rfl ?_
      refine Go.iconst (pc' := 131) 1 at_130 rfl rfl ?_
      refine Go.goto (pc' := 135) at_131 (by decide) (by decide) ?_
      refine Go.retN (t := .boolean) (1 : Int32) rfl (by simp) rfl [] sl0 at_135 (by decide) (by decide) ?_
      exact ⟨rfl, (Keep.trans (Keep.trans (Keep.ext (Keep.trans (Keep.trans (Keep.trans (Keep.ext (Keep.trans (Keep.trans (Keep.ext (Keep.trans (Keep.trans (Keep.trans (Keep.refl _ []) K_391 all0) K_405 all0) K_416 all0) E_435) K_448 all0) K_459 all0) E_478) K_495 all0) K_515 all0) K_526 all0) E_545) K_558 all0) K_569 all0)⟩
    · have hc_381 : ¬ ((p1 &&& (1 : Int32)) = 0) := hc_381
      refine Go.iconst (pc' := 15) 1 at_14 rfl rfl ?_
      refine Go.goto (pc' := 19) at_15 (by decide) (by decide) ?_
      refine Go.istoreN (pc' := 20) #[.val (.int p0), .val (.int p1), .val (.int (1 : Int32)), .val (.int (1 : Int32)), .unset, .unset] at_19 rfl rfl ?_
      refine Go.iloadN (pc' := 21) at_20 rfl rfl ?_
      refine Go.callS (a1 := a0) (pc' := 24) (argsL := [(.int (1 : Int32))]) (rest := []) (ct_sc1 l Z a0 hw n0 h0 o_NUMBER S_NUMBER) at_21 (wd hw 1 rfl) (wd hw 2 rfl) (wd hw 3 rfl) (wd hw 4 rfl) (by decide) (lenOf pd_26 rfl) rfl 0 rfl rfl (by decide) (by decide) (by decide) (by decide) sl0 rfl (fun v_584 h_585 N_586 hQ_587 hle_588 => ?_)
      obtain ⟨rfl, rfl⟩ := hQ_587
      refine Go.rs [(.ref o_NUMBER)] rfl ?_
      refine Go.astore (pc' := 26) #[.val (.int p0), .val (.int p1), .val (.int (1 : Int32)), .val (.int (1 : Int32)), .val (.ref o_NUMBER), .unset] at_24 rfl rfl rfl ?_
      refine Go.aload (pc' := 28) at_26 rfl rfl rfl ?_
      refine Go.callS (a1 := a0) (pc' := 31) (argsL := [(.ref o_NUMBER)]) (rest := []) (ct_of1 l Z a0 hw n0 h0 o_NUMBER X_NUMBER F_NUMBER_ordinal b1 cl S_B A_B hi_1 he_1 (by omega)) at_28 (wd hw 8 rfl) (wd hw 9 rfl) (wd hw 10 rfl) (wd hw 11 rfl) (by decide) (lenOf pd_27 rfl) rfl 0 rfl rfl (by decide) (by decide) (by decide) (by decide) sl0 rfl (fun v_597 h_598 N_599 hQ_600 hle_601 => ?_)
      obtain ⟨f_589, rfl, g_592, K_593, X_594⟩ := hQ_600
      have szh_598 := nle K_593.1
      have ltf_589 := nlt X_594.lt
      have gef_589 := nle g_592
      refine Go.rs [(.ref f_589)] rfl ?_
      refine Go.astore (pc' := 33) #[.val (.int p0), .val (.int p1), .val (.int (1 : Int32)), .val (.int (1 : Int32)), .val (.ref o_NUMBER), .val (.ref f_589)] at_31 rfl rfl rfl ?_
      refine Go.aload (pc' := 35) at_33 rfl rfl rfl ?_
      refine Go.iloadN (pc' := 36) at_35 rfl rfl ?_
      have F_602 := (sta_keep S_cs K_593 ns0)
      refine Go.callI (a1 := a0) (pc' := 41) (argsL := [(.int (1 : Int32))]) (rest := []) (ct_dty_01 l Z a0 hw n0 h_598 f_589 X_594   (by omega) cs F_602 hcs) at_36 (wd hw 48 rfl) (wd hw 49 rfl) (wd hw 50 rfl) (wd hw 261 rfl) (wd hw 262 rfl) (wd hw 263 rfl) (wd hw 264 rfl) (wd hw 265 rfl) (wd hw 256 rfl) (wd hw 266 rfl) X_594 (by decide) (lenOf pd_23 rfl) rfl 0 rfl rfl (by decide) (by decide) (by decide) (by decide) sl0 rfl (fun v_609 h_610 N_611 hQ_612 hle_613 => ?_)
      obtain ⟨s_603, b_604, rfl, K_607, F_608⟩ := hQ_612
      have szh_610 := nle K_607.1
      have lts_603 := nlt F_608.lt
      have ltb_604 := nlt F_608.ltb
      refine Go.rs [(.ref s_603)] rfl ?_
      refine Go.iloadN (pc' := 42) at_41 rfl rfl ?_
      refine Go.iloadN (pc' := 43) at_42 rfl rfl ?_
      refine Go.callS (a1 := a0) (pc' := 46) (argsL := [(.int (1 : Int32)), (.int (1 : Int32))]) (rest := [(.ref s_603)]) (ct_expType_1_1 l Z a0 hw n0 h_610) at_43 (wd hw 176 rfl) (wd hw 177 rfl) (wd hw 3 rfl) (wd hw 178 rfl) (by decide) (lenOf pd_28 rfl) rfl 1 rfl rfl (by decide) (by decide) (by decide) (by decide) sl0 rfl (fun v_620 h_621 N_622 hQ_623 hle_624 => ?_)
      obtain ⟨s_614, b_615, rfl, K_618, F_619⟩ := hQ_623
      have szh_621 := nle K_618.1
      have lts_614 := nlt F_619.lt
      have ltb_615 := nlt F_619.ltb
      refine Go.rs [(.ref s_614), (.ref s_603)] rfl ?_
      have F_625 := (Str.keep F_608 K_618 nin0 nin0)
      have F_626 := (sta_keep (sta_keep F_602 K_607 ns0) K_618 ns0)
      have X_632 : Exa Z h_621 s_603 "java/lang/String" := F_625.1
      refine Go.callV (a1 := a0) (pc' := 49) (argsL := [(.ref s_614)]) (rest := []) (ct_eqT l Z a0 hw n0 h_621 s_603 s_614 b_604 b_615 [100, 111, 117, 98, 108, 101, 63] F_625 F_619 (by decide) cs F_626 hcs) at_46 (wd hw 180 rfl) (wd hw 181 rfl) (wd hw 183 rfl) (wd hw 183 rfl) (wd hw 182 rfl) (wd hw 28 rfl) (wd hw 184 rfl) X_632 (by decide) (lenOf pd_29 rfl) rfl 0 rfl rfl (by decide) (by decide) (by decide) (by decide) sl0 rfl (fun v_627 h_628 N_629 hQ_630 hle_631 => ?_)
      obtain ⟨rfl, rfl⟩ := hQ_630
      refine Go.rs [(.int (1 : Int32))] rfl ?_
      refine Go.ifF (pc' := 52) at_49 (show ¬ ((1 : Int32) = (0 : Int32)) by decide) rfl ?_
      refine Go.aload (pc' := 54) at_52 rfl rfl rfl ?_
      refine Go.ldcR (pc' := 56) (a1 := a0) 4 (vs := [.int 106]) (z := 1) at_54 rfl (wd hw 190 rfl) (own_ws hw) (by decide) (by decide) (by decide) (by decide) rfl (own_ew hw) (List.mem_of_getElem? (i := 19) rfl) ⟨by decide, by decide⟩ (by decide) (by decide) (fun a_633 h_634 b_635 k_636 E_637 X_638 F_639 F_640 A_641 ne_642 => ?_)
      have szh_634 := nle E_637.1
      have lta_633 := nlt X_638.lt
      have ltb_635 := nlt A_641.lt
      have T_643 : Str Z h_634 a_633 b_635 [106] := ⟨X_638, F_639, F_640, k_636, A_641⟩
      refine Go.iloadN (pc' := 57) at_56 rfl rfl ?_
      have F_644 := (Exa.ext E_637 (Exa.keep (Exa.keep X_594 K_607) K_618))
      have F_645 := (Sta.ext E_637 F_626)
      refine Go.callI (a1 := a0) (pc' := 62) (argsL := [(.ref a_633), (.int (1 : Int32))]) (rest := []) (ct_dfj_j11 l Z a0 hw n0 h_634 f_589 F_644  a_633 b_635 T_643 (by omega) cs F_645 hcs) at_57 (wd hw 191 rfl) (wd hw 192 rfl) (wd hw 193 rfl) (wd hw 270 rfl) (wd hw 271 rfl) (wd hw 272 rfl) (wd hw 273 rfl) (wd hw 265 rfl) (wd hw 256 rfl) (wd hw 274 rfl) F_644 (by decide) (lenOf pd_22 rfl) rfl 0 rfl rfl (by decide) (by decide) (by decide) (by decide) sl0 rfl (fun v_652 h_653 N_654 hQ_655 hle_656 => ?_)
      obtain ⟨s_646, b_647, rfl, K_650, F_651⟩ := hQ_655
      have szh_653 := nle K_650.1
      have lts_646 := nlt F_651.lt
      have ltb_647 := nlt F_651.ltb
      refine Go.rs [(.ref s_646)] rfl ?_
      refine Go.iloadN (pc' := 63) at_62 rfl rfl ?_
      refine Go.iloadN (pc' := 64) at_63 rfl rfl ?_
      refine Go.callS (a1 := a0) (pc' := 67) (argsL := [(.int (1 : Int32)), (.int (1 : Int32))]) (rest := [(.ref s_646)]) (ct_expFromJson_1_1 l Z a0 hw n0 h_653) at_64 (wd hw 207 rfl) (wd hw 208 rfl) (wd hw 3 rfl) (wd hw 209 rfl) (by decide) (lenOf pd_28 rfl) rfl 1 rfl rfl (by decide) (by decide) (by decide) (by decide) sl0 rfl (fun v_663 h_664 N_665 hQ_666 hle_667 => ?_)
      obtain ⟨s_657, b_658, rfl, K_661, F_662⟩ := hQ_666
      have szh_664 := nle K_661.1
      have lts_657 := nlt F_662.lt
      have ltb_658 := nlt F_662.ltb
      refine Go.rs [(.ref s_657), (.ref s_646)] rfl ?_
      have F_668 := (Str.keep F_651 K_661 nin0 nin0)
      have F_669 := (sta_keep (sta_keep F_645 K_650 ns0) K_661 ns0)
      have X_675 : Exa Z h_664 s_646 "java/lang/String" := F_668.1
      refine Go.callV (a1 := a0) (pc' := 70) (argsL := [(.ref s_657)]) (rest := []) (ct_eqT l Z a0 hw n0 h_664 s_646 s_657 b_647 b_658 [40, 106, 32, 97, 115, 32, 110, 117, 109, 63, 41, 63, 46, 116, 111, 68, 111, 117, 98, 108, 101, 40, 41] F_668 F_662 (by decide) cs F_669 hcs) at_67 (wd hw 180 rfl) (wd hw 181 rfl) (wd hw 183 rfl) (wd hw 183 rfl) (wd hw 182 rfl) (wd hw 28 rfl) (wd hw 184 rfl) X_675 (by decide) (lenOf pd_29 rfl) rfl 0 rfl rfl (by decide) (by decide) (by decide) (by decide) sl0 rfl (fun v_670 h_671 N_672 hQ_673 hle_674 => ?_)
      obtain ⟨rfl, rfl⟩ := hQ_673
      refine Go.rs [(.int (1 : Int32))] rfl ?_
      refine Go.ifF (pc' := 73) at_70 (show ¬ ((1 : Int32) = (0 : Int32)) by decide) rfl ?_
      refine Go.aload (pc' := 75) at_73 rfl rfl rfl ?_
      refine Go.ldcR (pc' := 77) (a1 := a0) 4 (vs := [.int 118]) (z := 1) at_75 rfl (wd hw 211 rfl) (own_ws hw) (by decide) (by decide) (by decide) (by decide) rfl (own_ew hw) (List.mem_of_getElem? (i := 20) rfl) ⟨by decide, by decide⟩ (by decide) (by decide) (fun a_676 h_677 b_678 k_679 E_680 X_681 F_682 F_683 A_684 ne_685 => ?_)
      have szh_677 := nle E_680.1
      have lta_676 := nlt X_681.lt
      have ltb_678 := nlt A_684.lt
      have T_686 : Str Z h_677 a_676 b_678 [118] := ⟨X_681, F_682, F_683, k_679, A_684⟩
      refine Go.iloadN (pc' := 78) at_77 rfl rfl ?_
      have F_692 := (Exa.ext E_680 (Exa.keep (Exa.keep F_644 K_650) K_661))
      refine Go.callI (a1 := a0) (pc' := 83) (argsL := [(.ref a_676), (.int (1 : Int32))]) (rest := []) (ct_dtj1 l Z a0 hw n0 h_677 f_589 a_676) at_78 (wd hw 212 rfl) (wd hw 213 rfl) (wd hw 214 rfl) (wd hw 299 rfl) (wd hw 300 rfl) (wd hw 301 rfl) (wd hw 302 rfl) (wd hw 265 rfl) (wd hw 256 rfl) (wd hw 303 rfl) F_692 (by decide) (lenOf pd_22 rfl) rfl 0 rfl rfl (by decide) (by decide) (by decide) (by decide) sl0 rfl (fun v_687 h_688 N_689 hQ_690 hle_691 => ?_)
      obtain ⟨rfl, rfl⟩ := hQ_690
      refine Go.rs [(.ref a_676)] rfl ?_
      refine Go.iloadN (pc' := 84) at_83 rfl rfl ?_
      refine Go.iloadN (pc' := 85) at_84 rfl rfl ?_
      refine Go.callS (a1 := a0) (pc' := 88) (argsL := [(.int (1 : Int32)), (.int (1 : Int32))]) (rest := [(.ref a_676)]) (ct_expToJson_1_1 l Z a0 hw n0 h_677) at_85 (wd hw 220 rfl) (wd hw 221 rfl) (wd hw 3 rfl) (wd hw 222 rfl) (by decide) (lenOf pd_28 rfl) rfl 1 rfl rfl (by decide) (by decide) (by decide) (by decide) sl0 rfl (fun v_699 h_700 N_701 hQ_702 hle_703 => ?_)
      obtain ⟨s_693, b_694, rfl, K_697, F_698⟩ := hQ_702
      have szh_700 := nle K_697.1
      have lts_693 := nlt F_698.lt
      have ltb_694 := nlt F_698.ltb
      refine Go.rs [(.ref s_693), (.ref a_676)] rfl ?_
      have F_704 := (Str.keep T_686 K_697 nin0 nin0)
      have F_705 := (sta_keep (Sta.ext E_680 F_669) K_697 ns0)
      have X_711 : Exa Z h_700 a_676 "java/lang/String" := F_704.1
      refine Go.callV (a1 := a0) (pc' := 91) (argsL := [(.ref s_693)]) (rest := []) (ct_eqT l Z a0 hw n0 h_700 a_676 s_693 b_678 b_694 [118] F_704 F_698 (by decide) cs F_705 hcs) at_88 (wd hw 180 rfl) (wd hw 181 rfl) (wd hw 183 rfl) (wd hw 183 rfl) (wd hw 182 rfl) (wd hw 28 rfl) (wd hw 184 rfl) X_711 (by decide) (lenOf pd_29 rfl) rfl 0 rfl rfl (by decide) (by decide) (by decide) (by decide) sl0 rfl (fun v_706 h_707 N_708 hQ_709 hle_710 => ?_)
      obtain ⟨rfl, rfl⟩ := hQ_709
      refine Go.rs [(.int (1 : Int32))] rfl ?_
      refine Go.ifF (pc' := 94) at_91 (show ¬ ((1 : Int32) = (0 : Int32)) by decide) rfl ?_
      refine Go.aload (pc' := 96) at_94 rfl rfl rfl ?_
      have F_712 := (Exa.keep F_692 K_697)
      refine Go.callI (a1 := a0) (pc' := 101) (argsL := []) (rest := []) (ct_ddt_0 l Z a0 hw n0 h_700 f_589 F_712   (by omega) cs F_705 hcs) at_96 (wd hw 223 rfl) (wd hw 224 rfl) (wd hw 225 rfl) (wd hw 304 rfl) (wd hw 305 rfl) (wd hw 306 rfl) (wd hw 307 rfl) (wd hw 265 rfl) (wd hw 256 rfl) (wd hw 308 rfl) F_712 (by decide) (lenOf pd_20 rfl) rfl 0 rfl rfl (by decide) (by decide) (by decide) (by decide) sl0 rfl (fun v_719 h_720 N_721 hQ_722 hle_723 => ?_)
      obtain ⟨s_713, b_714, rfl, K_717, F_718⟩ := hQ_722
      have szh_720 := nle K_717.1
      have lts_713 := nlt F_718.lt
      have ltb_714 := nlt F_718.ltb
      refine Go.rs [(.ref s_713)] rfl ?_
      refine Go.iloadN (pc' := 102) at_101 rfl rfl ?_
      refine Go.callS (a1 := a0) (pc' := 105) (argsL := [(.int (1 : Int32))]) (rest := [(.ref s_713)]) (ct_expDecoded_1 l Z a0 hw n0 h_720) at_102 (wd hw 231 rfl) (wd hw 232 rfl) (wd hw 3 rfl) (wd hw 233 rfl) (by decide) (lenOf pd_30 rfl) rfl 1 rfl rfl (by decide) (by decide) (by decide) (by decide) sl0 rfl (fun v_730 h_731 N_732 hQ_733 hle_734 => ?_)
      obtain ⟨s_724, b_725, rfl, K_728, F_729⟩ := hQ_733
      have szh_731 := nle K_728.1
      have lts_724 := nlt F_729.lt
      have ltb_725 := nlt F_729.ltb
      refine Go.rs [(.ref s_724), (.ref s_713)] rfl ?_
      have F_735 := (Str.keep F_718 K_728 nin0 nin0)
      have F_736 := (sta_keep (sta_keep F_705 K_717 ns0) K_728 ns0)
      have X_742 : Exa Z h_731 s_713 "java/lang/String" := F_735.1
      refine Go.callV (a1 := a0) (pc' := 108) (argsL := [(.ref s_724)]) (rest := []) (ct_eqT l Z a0 hw n0 h_731 s_713 s_724 b_714 b_725 [110, 117, 109] F_735 F_729 (by decide) cs F_736 hcs) at_105 (wd hw 180 rfl) (wd hw 181 rfl) (wd hw 183 rfl) (wd hw 183 rfl) (wd hw 182 rfl) (wd hw 28 rfl) (wd hw 184 rfl) X_742 (by decide) (lenOf pd_29 rfl) rfl 0 rfl rfl (by decide) (by decide) (by decide) (by decide) sl0 rfl (fun v_737 h_738 N_739 hQ_740 hle_741 => ?_)
      obtain ⟨rfl, rfl⟩ := hQ_740
      refine Go.rs [(.int (1 : Int32))] rfl ?_
      refine Go.ifF (pc' := 111) at_108 (show ¬ ((1 : Int32) = (0 : Int32)) by decide) rfl ?_
      refine Go.aload (pc' := 113) at_111 rfl rfl rfl ?_
      refine Go.ldcR (pc' := 115) (a1 := a0) 4 (vs := [.int 106]) (z := 1) at_113 rfl (wd hw 190 rfl) (own_ws hw) (by decide) (by decide) (by decide) (by decide) rfl (own_ew hw) (List.mem_of_getElem? (i := 19) rfl) ⟨by decide, by decide⟩ (by decide) (by decide) (fun a_743 h_744 b_745 k_746 E_747 X_748 F_749 F_750 A_751 ne_752 => ?_)
      have szh_744 := nle E_747.1
      have lta_743 := nlt X_748.lt
      have ltb_745 := nlt A_751.lt
      have T_753 : Str Z h_744 a_743 b_745 [106] := ⟨X_748, F_749, F_750, k_746, A_751⟩
      have F_754 := (Exa.ext E_747 (Exa.keep (Exa.keep F_712 K_717) K_728))
      have F_755 := (Sta.ext E_747 F_736)
      refine Go.callI (a1 := a0) (pc' := 120) (argsL := [(.ref a_743)]) (rest := []) (ct_dfd_j1 l Z a0 hw n0 h_744 f_589 F_754  a_743 b_745 T_753 (by omega) cs F_755 hcs) at_115 (wd hw 235 rfl) (wd hw 236 rfl) (wd hw 237 rfl) (wd hw 311 rfl) (wd hw 312 rfl) (wd hw 313 rfl) (wd hw 314 rfl) (wd hw 265 rfl) (wd hw 256 rfl) (wd hw 315 rfl) F_754 (by decide) (lenOf pd_24 rfl) rfl 0 rfl rfl (by decide) (by decide) (by decide) (by decide) sl0 rfl (fun v_762 h_763 N_764 hQ_765 hle_766 => ?_)
      obtain ⟨s_756, b_757, rfl, g_758, g_759, K_760, F_761⟩ := hQ_765
      have szh_763 := nle K_760.1
      have lts_756 := nlt F_761.lt
      have ltb_757 := nlt F_761.ltb
      have ges_756 := nle g_758
      have geb_757 := nle g_759
      refine Go.rs [(.ref s_756)] rfl ?_
      refine Go.iloadN (pc' := 121) at_120 rfl rfl ?_
      refine Go.callS (a1 := a0) (pc' := 124) (argsL := [(.int (1 : Int32))]) (rest := [(.ref s_756)]) (ct_expFromDecoded_1 l Z a0 hw n0 h_763) at_121 (wd hw 243 rfl) (wd hw 244 rfl) (wd hw 3 rfl) (wd hw 245 rfl) (by decide) (lenOf pd_30 rfl) rfl 1 rfl rfl (by decide) (by decide) (by decide) (by decide) sl0 rfl (fun v_773 h_774 N_775 hQ_776 hle_777 => ?_)
      obtain ⟨s_767, b_768, rfl, K_771, F_772⟩ := hQ_776
      have szh_774 := nle K_771.1
      have lts_767 := nlt F_772.lt
      have ltb_768 := nlt F_772.ltb
      refine Go.rs [(.ref s_767), (.ref s_756)] rfl ?_
      have F_778 := (Str.keep F_761 K_771 nin0 nin0)
      have F_779 := (sta_keep (sta_keep F_755 K_760 ns0) K_771 ns0)
      have X_785 : Exa Z h_774 s_756 "java/lang/String" := F_778.1
      refine Go.callV (a1 := a0) (pc' := 127) (argsL := [(.ref s_767)]) (rest := []) (ct_eqT l Z a0 hw n0 h_774 s_756 s_767 b_757 b_768 [106, 46, 116, 111, 68, 111, 117, 98, 108, 101, 40, 41] F_778 F_772 (by decide) cs F_779 hcs) at_124 (wd hw 180 rfl) (wd hw 181 rfl) (wd hw 183 rfl) (wd hw 183 rfl) (wd hw 182 rfl) (wd hw 28 rfl) (wd hw 184 rfl) X_785 (by decide) (lenOf pd_29 rfl) rfl 0 rfl rfl (by decide) (by decide) (by decide) (by decide) sl0 rfl (fun v_780 h_781 N_782 hQ_783 hle_784 => ?_)
      obtain ⟨rfl, rfl⟩ := hQ_783
      refine Go.rs [(.int (1 : Int32))] rfl ?_
      refine Go.ifF (pc' := 130) at_127 (show ¬ ((1 : Int32) = (0 : Int32)) by decide) rfl ?_
      refine Go.iconst (pc' := 131) 1 at_130 rfl rfl ?_
      refine Go.goto (pc' := 135) at_131 (by decide) (by decide) ?_
      refine Go.retN (t := .boolean) (1 : Int32) rfl (by simp) rfl [] sl0 at_135 (by decide) (by decide) ?_
      exact ⟨rfl, (Keep.trans (Keep.trans (Keep.ext (Keep.trans (Keep.trans (Keep.trans (Keep.ext (Keep.trans (Keep.trans (Keep.ext (Keep.trans (Keep.trans (Keep.trans (Keep.refl _ []) K_593 all0) K_607 all0) K_618 all0) E_637) K_650 all0) K_661 all0) E_680) K_697 all0) K_717 all0) K_728 all0) E_747) K_760 all0) K_771 all0)⟩
  · refine Go.re (pc' := 8) (L' := #[.val (.int p0), .val (.int p1), .val (.int (2 : Int32)), .unset, .unset, .unset]) (S' := []) rfl (by rw [e7]) rfl ?_
    refine Go.iloadN (pc' := 9) at_8 rfl rfl ?_
    refine Go.iconst (pc' := 10) 1 at_9 rfl rfl ?_
    refine Go.iand (pc' := 11) at_10 rfl ?_
    refine Go.ifc (pc' := 18) (pc'' := 14) at_11 (by decide) (by decide) rfl (fun hc_786 => ?_) (fun hc_786 => ?_)
    · have hc_786 : (p1 &&& (1 : Int32)) = 0 := hc_786
      refine Go.iconst (pc' := 19) 0 at_18 rfl rfl ?_
      refine Go.istoreN (pc' := 20) #[.val (.int p0), .val (.int p1), .val (.int (2 : Int32)), .val (.int (0 : Int32)), .unset, .unset] at_19 rfl rfl ?_
      refine Go.iloadN (pc' := 21) at_20 rfl rfl ?_
      refine Go.callS (a1 := a0) (pc' := 24) (argsL := [(.int (2 : Int32))]) (rest := []) (ct_sc2 l Z a0 hw n0 h0 o_STRING S_STRING) at_21 (wd hw 1 rfl) (wd hw 2 rfl) (wd hw 3 rfl) (wd hw 4 rfl) (by decide) (lenOf pd_26 rfl) rfl 0 rfl rfl (by decide) (by decide) (by decide) (by decide) sl0 rfl (fun v_787 h_788 N_789 hQ_790 hle_791 => ?_)
      obtain ⟨rfl, rfl⟩ := hQ_790
      refine Go.rs [(.ref o_STRING)] rfl ?_
      refine Go.astore (pc' := 26) #[.val (.int p0), .val (.int p1), .val (.int (2 : Int32)), .val (.int (0 : Int32)), .val (.ref o_STRING), .unset] at_24 rfl rfl rfl ?_
      refine Go.aload (pc' := 28) at_26 rfl rfl rfl ?_
      refine Go.callS (a1 := a0) (pc' := 31) (argsL := [(.ref o_STRING)]) (rest := []) (ct_of2 l Z a0 hw n0 h0 o_STRING X_STRING F_STRING_ordinal b1 cl S_B A_B hi_2 he_2 (by omega)) at_28 (wd hw 8 rfl) (wd hw 9 rfl) (wd hw 10 rfl) (wd hw 11 rfl) (by decide) (lenOf pd_27 rfl) rfl 0 rfl rfl (by decide) (by decide) (by decide) (by decide) sl0 rfl (fun v_800 h_801 N_802 hQ_803 hle_804 => ?_)
      obtain ⟨f_792, s_793, b_794, rfl, g_795, K_796, X_797, F_798, F_799⟩ := hQ_803
      have szh_801 := nle K_796.1
      have ltf_792 := nlt X_797.lt
      have gef_792 := nle g_795
      have lts_793 := nlt F_799.lt
      have ltb_794 := nlt F_799.ltb
      refine Go.rs [(.ref f_792)] rfl ?_
      refine Go.astore (pc' := 33) #[.val (.int p0), .val (.int p1), .val (.int (2 : Int32)), .val (.int (0 : Int32)), .val (.ref o_STRING), .val (.ref f_792)] at_31 rfl rfl rfl ?_
      refine Go.aload (pc' := 35) at_33 rfl rfl rfl ?_
      refine Go.iloadN (pc' := 36) at_35 rfl rfl ?_
      refine Go.callI (a1 := a0) (pc' := 41) (argsL := [(.int (0 : Int32))]) (rest := []) (ct_pty0 l Z a0 hw n0 h_801 [83, 116, 114, 105, 110, 103] f_792 s_793 b_794 F_799 F_798) at_36 (wd hw 48 rfl) (wd hw 49 rfl) (wd hw 50 rfl) (wd hw 51 rfl) (wd hw 52 rfl) (wd hw 53 rfl) (wd hw 54 rfl) (wd hw 55 rfl) (wd hw 26 rfl) (wd hw 56 rfl) X_797 (by decide) (lenOf pd_23 rfl) rfl 0 rfl rfl (by decide) (by decide) (by decide) (by decide) sl0 rfl (fun v_805 h_806 N_807 hQ_808 hle_809 => ?_)
      obtain ⟨rfl, rfl⟩ := hQ_808
      refine Go.rs [(.ref s_793)] rfl ?_
      refine Go.iloadN (pc' := 42) at_41 rfl rfl ?_
      refine Go.iloadN (pc' := 43) at_42 rfl rfl ?_
      refine Go.callS (a1 := a0) (pc' := 46) (argsL := [(.int (2 : Int32)), (.int (0 : Int32))]) (rest := [(.ref s_793)]) (ct_expType_2_0 l Z a0 hw n0 h_801) at_43 (wd hw 176 rfl) (wd hw 177 rfl) (wd hw 3 rfl) (wd hw 178 rfl) (by decide) (lenOf pd_28 rfl) rfl 1 rfl rfl (by decide) (by decide) (by decide) (by decide) sl0 rfl (fun v_816 h_817 N_818 hQ_819 hle_820 => ?_)
      obtain ⟨s_810, b_811, rfl, K_814, F_815⟩ := hQ_819
      have szh_817 := nle K_814.1
      have lts_810 := nlt F_815.lt
      have ltb_811 := nlt F_815.ltb
      refine Go.rs [(.ref s_810), (.ref s_793)] rfl ?_
      have F_821 := (Str.keep F_799 K_814 nin0 nin0)
      have F_822 := (sta_keep (sta_keep S_cs K_796 ns0) K_814 ns0)
      have X_828 : Exa Z h_817 s_793 "java/lang/String" := F_821.1
      refine Go.callV (a1 := a0) (pc' := 49) (argsL := [(.ref s_810)]) (rest := []) (ct_eqT l Z a0 hw n0 h_817 s_793 s_810 b_794 b_811 [83, 116, 114, 105, 110, 103] F_821 F_815 (by decide) cs F_822 hcs) at_46 (wd hw 180 rfl) (wd hw 181 rfl) (wd hw 183 rfl) (wd hw 183 rfl) (wd hw 182 rfl) (wd hw 28 rfl) (wd hw 184 rfl) X_828 (by decide) (lenOf pd_29 rfl) rfl 0 rfl rfl (by decide) (by decide) (by decide) (by decide) sl0 rfl (fun v_823 h_824 N_825 hQ_826 hle_827 => ?_)
      obtain ⟨rfl, rfl⟩ := hQ_826
      refine Go.rs [(.int (1 : Int32))] rfl ?_
      refine Go.ifF (pc' := 52) at_49 (show ¬ ((1 : Int32) = (0 : Int32)) by decide) rfl ?_
      refine Go.aload (pc' := 54) at_52 rfl rfl rfl ?_
      refine Go.ldcR (pc' := 56) (a1 := a0) 4 (vs := [.int 106]) (z := 1) at_54 rfl (wd hw 190 rfl) (own_ws hw) (by decide) (by decide) (by decide) (by decide) rfl (own_ew hw) (List.mem_of_getElem? (i := 19) rfl) ⟨by decide, by decide⟩ (by decide) (by decide) (fun a_829 h_830 b_831 k_832 E_833 X_834 F_835 F_836 A_837 ne_838 => ?_)
      have szh_830 := nle E_833.1
      have lta_829 := nlt X_834.lt
      have ltb_831 := nlt A_837.lt
      have T_839 : Str Z h_830 a_829 b_831 [106] := ⟨X_834, F_835, F_836, k_832, A_837⟩
      refine Go.iloadN (pc' := 57) at_56 rfl rfl ?_
      have F_840 := (Str.ext F_821 E_833)
      have F_841 := (Fld.ext E_833 (Fld.keep F_798 K_814 nin0))
      have F_842 := (Exa.ext E_833 (Exa.keep X_797 K_814))
      have F_843 := (Sta.ext E_833 F_822)
      refine Go.callI (a1 := a0) (pc' := 62) (argsL := [(.ref a_829), (.int (0 : Int32))]) (rest := []) (ct_pfj0 l Z a0 hw n0 h_830 [83, 116, 114, 105, 110, 103] f_792 s_793 b_794 F_840 F_841 F_842 (by decide) a_829 b_831 T_839 (by omega) cs F_843 hcs) at_57 (wd hw 191 rfl) (wd hw 192 rfl) (wd hw 193 rfl) (wd hw 194 rfl) (wd hw 195 rfl) (wd hw 196 rfl) (wd hw 197 rfl) (wd hw 55 rfl) (wd hw 26 rfl) (wd hw 198 rfl) F_842 (by decide) (lenOf pd_22 rfl) rfl 0 rfl rfl (by decide) (by decide) (by decide) (by decide) sl0 rfl (fun v_850 h_851 N_852 hQ_853 hle_854 => ?_)
      obtain ⟨s_844, b_845, rfl, g_846, g_847, K_848, F_849⟩ := hQ_853
      have szh_851 := nle K_848.1
      have lts_844 := nlt F_849.lt
      have ltb_845 := nlt F_849.ltb
      have ges_844 := nle g_846
      have geb_845 := nle g_847
      refine Go.rs [(.ref s_844)] rfl ?_
      refine Go.iloadN (pc' := 63) at_62 rfl rfl ?_
      refine Go.iloadN (pc' := 64) at_63 rfl rfl ?_
      refine Go.callS (a1 := a0) (pc' := 67) (argsL := [(.int (2 : Int32)), (.int (0 : Int32))]) (rest := [(.ref s_844)]) (ct_expFromJson_2_0 l Z a0 hw n0 h_851) at_64 (wd hw 207 rfl) (wd hw 208 rfl) (wd hw 3 rfl) (wd hw 209 rfl) (by decide) (lenOf pd_28 rfl) rfl 1 rfl rfl (by decide) (by decide) (by decide) (by decide) sl0 rfl (fun v_861 h_862 N_863 hQ_864 hle_865 => ?_)
      obtain ⟨s_855, b_856, rfl, K_859, F_860⟩ := hQ_864
      have szh_862 := nle K_859.1
      have lts_855 := nlt F_860.lt
      have ltb_856 := nlt F_860.ltb
      refine Go.rs [(.ref s_855), (.ref s_844)] rfl ?_
      have F_866 := (Str.keep F_849 K_859 nin0 nin0)
      have F_867 := (sta_keep (sta_keep F_843 K_848 ns0) K_859 ns0)
      have X_873 : Exa Z h_862 s_844 "java/lang/String" := F_866.1
      refine Go.callV (a1 := a0) (pc' := 70) (argsL := [(.ref s_855)]) (rest := []) (ct_eqT l Z a0 hw n0 h_862 s_844 s_855 b_845 b_856 [106, 32, 97, 115, 32, 83, 116, 114, 105, 110, 103] F_866 F_860 (by decide) cs F_867 hcs) at_67 (wd hw 180 rfl) (wd hw 181 rfl) (wd hw 183 rfl) (wd hw 183 rfl) (wd hw 182 rfl) (wd hw 28 rfl) (wd hw 184 rfl) X_873 (by decide) (lenOf pd_29 rfl) rfl 0 rfl rfl (by decide) (by decide) (by decide) (by decide) sl0 rfl (fun v_868 h_869 N_870 hQ_871 hle_872 => ?_)
      obtain ⟨rfl, rfl⟩ := hQ_871
      refine Go.rs [(.int (1 : Int32))] rfl ?_
      refine Go.ifF (pc' := 73) at_70 (show ¬ ((1 : Int32) = (0 : Int32)) by decide) rfl ?_
      refine Go.aload (pc' := 75) at_73 rfl rfl rfl ?_
      refine Go.ldcR (pc' := 77) (a1 := a0) 4 (vs := [.int 118]) (z := 1) at_75 rfl (wd hw 211 rfl) (own_ws hw) (by decide) (by decide) (by decide) (by decide) rfl (own_ew hw) (List.mem_of_getElem? (i := 20) rfl) ⟨by decide, by decide⟩ (by decide) (by decide) (fun a_874 h_875 b_876 k_877 E_878 X_879 F_880 F_881 A_882 ne_883 => ?_)
      have szh_875 := nle E_878.1
      have lta_874 := nlt X_879.lt
      have ltb_876 := nlt A_882.lt
      have T_884 : Str Z h_875 a_874 b_876 [118] := ⟨X_879, F_880, F_881, k_877, A_882⟩
      refine Go.iloadN (pc' := 78) at_77 rfl rfl ?_
      have F_890 := (Exa.ext E_878 (Exa.keep (Exa.keep F_842 K_848) K_859))
      refine Go.callI (a1 := a0) (pc' := 83) (argsL := [(.ref a_874), (.int (0 : Int32))]) (rest := []) (ct_ptj0 l Z a0 hw n0 h_875 f_792 a_874) at_78 (wd hw 212 rfl) (wd hw 213 rfl) (wd hw 214 rfl) (wd hw 215 rfl) (wd hw 216 rfl) (wd hw 217 rfl) (wd hw 218 rfl) (wd hw 55 rfl) (wd hw 26 rfl) (wd hw 219 rfl) F_890 (by decide) (lenOf pd_22 rfl) rfl 0 rfl rfl (by decide) (by decide) (by decide) (by decide) sl0 rfl (fun v_885 h_886 N_887 hQ_888 hle_889 => ?_)
      obtain ⟨rfl, rfl⟩ := hQ_888
      refine Go.rs [(.ref a_874)] rfl ?_
      refine Go.iloadN (pc' := 84) at_83 rfl rfl ?_
      refine Go.iloadN (pc' := 85) at_84 rfl rfl ?_
      refine Go.callS (a1 := a0) (pc' := 88) (argsL := [(.int (2 : Int32)), (.int (0 : Int32))]) (rest := [(.ref a_874)]) (ct_expToJson_2_0 l Z a0 hw n0 h_875) at_85 (wd hw 220 rfl) (wd hw 221 rfl) (wd hw 3 rfl) (wd hw 222 rfl) (by decide) (lenOf pd_28 rfl) rfl 1 rfl rfl (by decide) (by decide) (by decide) (by decide) sl0 rfl (fun v_897 h_898 N_899 hQ_900 hle_901 => ?_)
      obtain ⟨s_891, b_892, rfl, K_895, F_896⟩ := hQ_900
      have szh_898 := nle K_895.1
      have lts_891 := nlt F_896.lt
      have ltb_892 := nlt F_896.ltb
      refine Go.rs [(.ref s_891), (.ref a_874)] rfl ?_
      have F_902 := (Str.keep T_884 K_895 nin0 nin0)
      have F_903 := (sta_keep (Sta.ext E_878 F_867) K_895 ns0)
      have X_909 : Exa Z h_898 a_874 "java/lang/String" := F_902.1
      refine Go.callV (a1 := a0) (pc' := 91) (argsL := [(.ref s_891)]) (rest := []) (ct_eqT l Z a0 hw n0 h_898 a_874 s_891 b_876 b_892 [118] F_902 F_896 (by decide) cs F_903 hcs) at_88 (wd hw 180 rfl) (wd hw 181 rfl) (wd hw 183 rfl) (wd hw 183 rfl) (wd hw 182 rfl) (wd hw 28 rfl) (wd hw 184 rfl) X_909 (by decide) (lenOf pd_29 rfl) rfl 0 rfl rfl (by decide) (by decide) (by decide) (by decide) sl0 rfl (fun v_904 h_905 N_906 hQ_907 hle_908 => ?_)
      obtain ⟨rfl, rfl⟩ := hQ_907
      refine Go.rs [(.int (1 : Int32))] rfl ?_
      refine Go.ifF (pc' := 94) at_91 (show ¬ ((1 : Int32) = (0 : Int32)) by decide) rfl ?_
      refine Go.aload (pc' := 96) at_94 rfl rfl rfl ?_
      have F_910 := (Str.keep (Str.ext (Str.keep (Str.keep F_840 K_848 nin0 nin0) K_859 nin0 nin0) E_878) K_895 nin0 nin0)
      have F_911 := (Fld.keep (Fld.ext E_878 (Fld.keep (Fld.keep F_841 K_848 nin0) K_859 nin0)) K_895 nin0)
      have F_917 := (Exa.keep F_890 K_895)
      refine Go.callI (a1 := a0) (pc' := 101) (argsL := []) (rest := []) (ct_pdt l Z a0 hw n0 h_898 [83, 116, 114, 105, 110, 103] f_792 s_793 b_794 F_910 F_911) at_96 (wd hw 223 rfl) (wd hw 224 rfl) (wd hw 225 rfl) (wd hw 226 rfl) (wd hw 227 rfl) (wd hw 228 rfl) (wd hw 229 rfl) (wd hw 55 rfl) (wd hw 26 rfl) (wd hw 230 rfl) F_917 (by decide) (lenOf pd_20 rfl) rfl 0 rfl rfl (by decide) (by decide) (by decide) (by decide) sl0 rfl (fun v_912 h_913 N_914 hQ_915 hle_916 => ?_)
      obtain ⟨rfl, rfl⟩ := hQ_915
      refine Go.rs [(.ref s_793)] rfl ?_
      refine Go.iloadN (pc' := 102) at_101 rfl rfl ?_
      refine Go.callS (a1 := a0) (pc' := 105) (argsL := [(.int (2 : Int32))]) (rest := [(.ref s_793)]) (ct_expDecoded_2 l Z a0 hw n0 h_898) at_102 (wd hw 231 rfl) (wd hw 232 rfl) (wd hw 3 rfl) (wd hw 233 rfl) (by decide) (lenOf pd_30 rfl) rfl 1 rfl rfl (by decide) (by decide) (by decide) (by decide) sl0 rfl (fun v_924 h_925 N_926 hQ_927 hle_928 => ?_)
      obtain ⟨s_918, b_919, rfl, K_922, F_923⟩ := hQ_927
      have szh_925 := nle K_922.1
      have lts_918 := nlt F_923.lt
      have ltb_919 := nlt F_923.ltb
      refine Go.rs [(.ref s_918), (.ref s_793)] rfl ?_
      have F_929 := (Str.keep F_910 K_922 nin0 nin0)
      have F_930 := (sta_keep F_903 K_922 ns0)
      have F_936 := (Exa.keep (Exa.keep (Exa.ext E_878 (Exa.keep (Exa.keep (Exa.ext E_833 X_828) K_848) K_859)) K_895) K_922)
      refine Go.callV (a1 := a0) (pc' := 108) (argsL := [(.ref s_918)]) (rest := []) (ct_eqT l Z a0 hw n0 h_925 s_793 s_918 b_794 b_919 [83, 116, 114, 105, 110, 103] F_929 F_923 (by decide) cs F_930 hcs) at_105 (wd hw 180 rfl) (wd hw 181 rfl) (wd hw 183 rfl) (wd hw 183 rfl) (wd hw 182 rfl) (wd hw 28 rfl) (wd hw 184 rfl) F_936 (by decide) (lenOf pd_29 rfl) rfl 0 rfl rfl (by decide) (by decide) (by decide) (by decide) sl0 rfl (fun v_931 h_932 N_933 hQ_934 hle_935 => ?_)
      obtain ⟨rfl, rfl⟩ := hQ_934
      refine Go.rs [(.int (1 : Int32))] rfl ?_
      refine Go.ifF (pc' := 111) at_108 (show ¬ ((1 : Int32) = (0 : Int32)) by decide) rfl ?_
      refine Go.aload (pc' := 113) at_111 rfl rfl rfl ?_
      refine Go.ldcR (pc' := 115) (a1 := a0) 4 (vs := [.int 106]) (z := 1) at_113 rfl (wd hw 190 rfl) (own_ws hw) (by decide) (by decide) (by decide) (by decide) rfl (own_ew hw) (List.mem_of_getElem? (i := 19) rfl) ⟨by decide, by decide⟩ (by decide) (by decide) (fun a_937 h_938 b_939 k_940 E_941 X_942 F_943 F_944 A_945 ne_946 => ?_)
      have szh_938 := nle E_941.1
      have lta_937 := nlt X_942.lt
      have ltb_939 := nlt A_945.lt
      have T_947 : Str Z h_938 a_937 b_939 [106] := ⟨X_942, F_943, F_944, k_940, A_945⟩
      have F_953 := (Exa.ext E_941 (Exa.keep F_917 K_922))
      refine Go.callI (a1 := a0) (pc' := 120) (argsL := [(.ref a_937)]) (rest := []) (ct_pfd l Z a0 hw n0 h_938 f_792 a_937) at_115 (wd hw 235 rfl) (wd hw 236 rfl) (wd hw 237 rfl) (wd hw 238 rfl) (wd hw 239 rfl) (wd hw 240 rfl) (wd hw 241 rfl) (wd hw 55 rfl) (wd hw 26 rfl) (wd hw 242 rfl) F_953 (by decide) (lenOf pd_24 rfl) rfl 0 rfl rfl (by decide) (by decide) (by decide) (by decide) sl0 rfl (fun v_948 h_949 N_950 hQ_951 hle_952 => ?_)
      obtain ⟨rfl, rfl⟩ := hQ_951
      refine Go.rs [(.ref a_937)] rfl ?_
      refine Go.iloadN (pc' := 121) at_120 rfl rfl ?_
      refine Go.callS (a1 := a0) (pc' := 124) (argsL := [(.int (2 : Int32))]) (rest := [(.ref a_937)]) (ct_expFromDecoded_2 l Z a0 hw n0 h_938) at_121 (wd hw 243 rfl) (wd hw 244 rfl) (wd hw 3 rfl) (wd hw 245 rfl) (by decide) (lenOf pd_30 rfl) rfl 1 rfl rfl (by decide) (by decide) (by decide) (by decide) sl0 rfl (fun v_960 h_961 N_962 hQ_963 hle_964 => ?_)
      obtain ⟨s_954, b_955, rfl, K_958, F_959⟩ := hQ_963
      have szh_961 := nle K_958.1
      have lts_954 := nlt F_959.lt
      have ltb_955 := nlt F_959.ltb
      refine Go.rs [(.ref s_954), (.ref a_937)] rfl ?_
      have F_965 := (Str.keep T_947 K_958 nin0 nin0)
      have F_966 := (sta_keep (Sta.ext E_941 F_930) K_958 ns0)
      have X_972 : Exa Z h_961 a_937 "java/lang/String" := F_965.1
      refine Go.callV (a1 := a0) (pc' := 127) (argsL := [(.ref s_954)]) (rest := []) (ct_eqT l Z a0 hw n0 h_961 a_937 s_954 b_939 b_955 [106] F_965 F_959 (by decide) cs F_966 hcs) at_124 (wd hw 180 rfl) (wd hw 181 rfl) (wd hw 183 rfl) (wd hw 183 rfl) (wd hw 182 rfl) (wd hw 28 rfl) (wd hw 184 rfl) X_972 (by decide) (lenOf pd_29 rfl) rfl 0 rfl rfl (by decide) (by decide) (by decide) (by decide) sl0 rfl (fun v_967 h_968 N_969 hQ_970 hle_971 => ?_)
      obtain ⟨rfl, rfl⟩ := hQ_970
      refine Go.rs [(.int (1 : Int32))] rfl ?_
      refine Go.ifF (pc' := 130) at_127 (show ¬ ((1 : Int32) = (0 : Int32)) by decide) rfl ?_
      refine Go.iconst (pc' := 131) 1 at_130 rfl rfl ?_
      refine Go.goto (pc' := 135) at_131 (by decide) (by decide) ?_
      refine Go.retN (t := .boolean) (1 : Int32) rfl (by simp) rfl [] sl0 at_135 (by decide) (by decide) ?_
      exact ⟨rfl, (Keep.trans (Keep.ext (Keep.trans (Keep.trans (Keep.ext (Keep.trans (Keep.trans (Keep.ext (Keep.trans (Keep.trans (Keep.refl _ []) K_796 all0) K_814 all0) E_833) K_848 all0) K_859 all0) E_878) K_895 all0) K_922 all0) E_941) K_958 all0)⟩
    · have hc_786 : ¬ ((p1 &&& (1 : Int32)) = 0) := hc_786
      refine Go.iconst (pc' := 15) 1 at_14 rfl rfl ?_
      refine Go.goto (pc' := 19) at_15 (by decide) (by decide) ?_
      refine Go.istoreN (pc' := 20) #[.val (.int p0), .val (.int p1), .val (.int (2 : Int32)), .val (.int (1 : Int32)), .unset, .unset] at_19 rfl rfl ?_
      refine Go.iloadN (pc' := 21) at_20 rfl rfl ?_
      refine Go.callS (a1 := a0) (pc' := 24) (argsL := [(.int (2 : Int32))]) (rest := []) (ct_sc2 l Z a0 hw n0 h0 o_STRING S_STRING) at_21 (wd hw 1 rfl) (wd hw 2 rfl) (wd hw 3 rfl) (wd hw 4 rfl) (by decide) (lenOf pd_26 rfl) rfl 0 rfl rfl (by decide) (by decide) (by decide) (by decide) sl0 rfl (fun v_973 h_974 N_975 hQ_976 hle_977 => ?_)
      obtain ⟨rfl, rfl⟩ := hQ_976
      refine Go.rs [(.ref o_STRING)] rfl ?_
      refine Go.astore (pc' := 26) #[.val (.int p0), .val (.int p1), .val (.int (2 : Int32)), .val (.int (1 : Int32)), .val (.ref o_STRING), .unset] at_24 rfl rfl rfl ?_
      refine Go.aload (pc' := 28) at_26 rfl rfl rfl ?_
      refine Go.callS (a1 := a0) (pc' := 31) (argsL := [(.ref o_STRING)]) (rest := []) (ct_of2 l Z a0 hw n0 h0 o_STRING X_STRING F_STRING_ordinal b1 cl S_B A_B hi_2 he_2 (by omega)) at_28 (wd hw 8 rfl) (wd hw 9 rfl) (wd hw 10 rfl) (wd hw 11 rfl) (by decide) (lenOf pd_27 rfl) rfl 0 rfl rfl (by decide) (by decide) (by decide) (by decide) sl0 rfl (fun v_986 h_987 N_988 hQ_989 hle_990 => ?_)
      obtain ⟨f_978, s_979, b_980, rfl, g_981, K_982, X_983, F_984, F_985⟩ := hQ_989
      have szh_987 := nle K_982.1
      have ltf_978 := nlt X_983.lt
      have gef_978 := nle g_981
      have lts_979 := nlt F_985.lt
      have ltb_980 := nlt F_985.ltb
      refine Go.rs [(.ref f_978)] rfl ?_
      refine Go.astore (pc' := 33) #[.val (.int p0), .val (.int p1), .val (.int (2 : Int32)), .val (.int (1 : Int32)), .val (.ref o_STRING), .val (.ref f_978)] at_31 rfl rfl rfl ?_
      refine Go.aload (pc' := 35) at_33 rfl rfl rfl ?_
      refine Go.iloadN (pc' := 36) at_35 rfl rfl ?_
      have F_991 := (sta_keep S_cs K_982 ns0)
      refine Go.callI (a1 := a0) (pc' := 41) (argsL := [(.int (1 : Int32))]) (rest := []) (ct_pty1 l Z a0 hw n0 h_987 [83, 116, 114, 105, 110, 103] f_978 s_979 b_980 F_985 F_984 (by decide) (by omega) cs F_991 hcs) at_36 (wd hw 48 rfl) (wd hw 49 rfl) (wd hw 50 rfl) (wd hw 51 rfl) (wd hw 52 rfl) (wd hw 53 rfl) (wd hw 54 rfl) (wd hw 55 rfl) (wd hw 26 rfl) (wd hw 56 rfl) X_983 (by decide) (lenOf pd_23 rfl) rfl 0 rfl rfl (by decide) (by decide) (by decide) (by decide) sl0 rfl (fun v_998 h_999 N_1000 hQ_1001 hle_1002 => ?_)
      obtain ⟨s_992, b_993, rfl, g_994, g_995, K_996, F_997⟩ := hQ_1001
      have szh_999 := nle K_996.1
      have lts_992 := nlt F_997.lt
      have ltb_993 := nlt F_997.ltb
      have ges_992 := nle g_994
      have geb_993 := nle g_995
      refine Go.rs [(.ref s_992)] rfl ?_
      refine Go.iloadN (pc' := 42) at_41 rfl rfl ?_
      refine Go.iloadN (pc' := 43) at_42 rfl rfl ?_
      refine Go.callS (a1 := a0) (pc' := 46) (argsL := [(.int (2 : Int32)), (.int (1 : Int32))]) (rest := [(.ref s_992)]) (ct_expType_2_1 l Z a0 hw n0 h_999) at_43 (wd hw 176 rfl) (wd hw 177 rfl) (wd hw 3 rfl) (wd hw 178 rfl) (by decide) (lenOf pd_28 rfl) rfl 1 rfl rfl (by decide) (by decide) (by decide) (by decide) sl0 rfl (fun v_1009 h_1010 N_1011 hQ_1012 hle_1013 => ?_)
      obtain ⟨s_1003, b_1004, rfl, K_1007, F_1008⟩ := hQ_1012
      have szh_1010 := nle K_1007.1
      have lts_1003 := nlt F_1008.lt
      have ltb_1004 := nlt F_1008.ltb
      refine Go.rs [(.ref s_1003), (.ref s_992)] rfl ?_
      have F_1014 := (Str.keep F_997 K_1007 nin0 nin0)
      have F_1015 := (sta_keep (sta_keep F_991 K_996 ns0) K_1007 ns0)
      have X_1021 : Exa Z h_1010 s_992 "java/lang/String" := F_1014.1
      refine Go.callV (a1 := a0) (pc' := 49) (argsL := [(.ref s_1003)]) (rest := []) (ct_eqT l Z a0 hw n0 h_1010 s_992 s_1003 b_993 b_1004 [83, 116, 114, 105, 110, 103, 63] F_1014 F_1008 (by decide) cs F_1015 hcs) at_46 (wd hw 180 rfl) (wd hw 181 rfl) (wd hw 183 rfl) (wd hw 183 rfl) (wd hw 182 rfl) (wd hw 28 rfl) (wd hw 184 rfl) X_1021 (by decide) (lenOf pd_29 rfl) rfl 0 rfl rfl (by decide) (by decide) (by decide) (by decide) sl0 rfl (fun v_1016 h_1017 N_1018 hQ_1019 hle_1020 => ?_)
      obtain ⟨rfl, rfl⟩ := hQ_1019
      refine Go.rs [(.int (1 : Int32))] rfl ?_
      refine Go.ifF (pc' := 52) at_49 (show ¬ ((1 : Int32) = (0 : Int32)) by decide) rfl ?_
      refine Go.aload (pc' := 54) at_52 rfl rfl rfl ?_
      refine Go.ldcR (pc' := 56) (a1 := a0) 4 (vs := [.int 106]) (z := 1) at_54 rfl (wd hw 190 rfl) (own_ws hw) (by decide) (by decide) (by decide) (by decide) rfl (own_ew hw) (List.mem_of_getElem? (i := 19) rfl) ⟨by decide, by decide⟩ (by decide) (by decide) (fun a_1022 h_1023 b_1024 k_1025 E_1026 X_1027 F_1028 F_1029 A_1030 ne_1031 => ?_)
      have szh_1023 := nle E_1026.1
      have lta_1022 := nlt X_1027.lt
      have ltb_1024 := nlt A_1030.lt
      have T_1032 : Str Z h_1023 a_1022 b_1024 [106] := ⟨X_1027, F_1028, F_1029, k_1025, A_1030⟩
      refine Go.iloadN (pc' := 57) at_56 rfl rfl ?_
      have F_1033 := (Str.ext (Str.keep (Str.keep F_985 K_996 nin0 nin0) K_1007 nin0 nin0) E_1026)
      have F_1034 := (Fld.ext E_1026 (Fld.keep (Fld.keep F_984 K_996 nin0) K_1007 nin0))
      have F_1035 := (Exa.ext E_1026 (Exa.keep (Exa.keep X_983 K_996) K_1007))
      have F_1036 := (Sta.ext E_1026 F_1015)
      refine Go.callI (a1 := a0) (pc' := 62) (argsL := [(.ref a_1022), (.int (1 : Int32))]) (rest := []) (ct_pfj1 l Z a0 hw n0 h_1023 [83, 116, 114, 105, 110, 103] f_978 s_979 b_980 F_1033 F_1034 F_1035 (by decide) a_1022 b_1024 T_1032 (by omega) cs F_1036 hcs) at_57 (wd hw 191 rfl) (wd hw 192 rfl) (wd hw 193 rfl) (wd hw 194 rfl) (wd hw 195 rfl) (wd hw 196 rfl) (wd hw 197 rfl) (wd hw 55 rfl) (wd hw 26 rfl) (wd hw 198 rfl) F_1035 (by decide) (lenOf pd_22 rfl) rfl 0 rfl rfl (by decide) (by decide) (by decide) (by decide) sl0 rfl (fun v_1043 h_1044 N_1045 hQ_1046 hle_1047 => ?_)
      obtain ⟨s_1037, b_1038, rfl, g_1039, g_1040, K_1041, F_1042⟩ := hQ_1046
      have szh_1044 := nle K_1041.1
      have lts_1037 := nlt F_1042.lt
      have ltb_1038 := nlt F_1042.ltb
      have ges_1037 := nle g_1039
      have geb_1038 := nle g_1040
      refine Go.rs [(.ref s_1037)] rfl ?_
      refine Go.iloadN (pc' := 63) at_62 rfl rfl ?_
      refine Go.iloadN (pc' := 64) at_63 rfl rfl ?_
      refine Go.callS (a1 := a0) (pc' := 67) (argsL := [(.int (2 : Int32)), (.int (1 : Int32))]) (rest := [(.ref s_1037)]) (ct_expFromJson_2_1 l Z a0 hw n0 h_1044) at_64 (wd hw 207 rfl) (wd hw 208 rfl) (wd hw 3 rfl) (wd hw 209 rfl) (by decide) (lenOf pd_28 rfl) rfl 1 rfl rfl (by decide) (by decide) (by decide) (by decide) sl0 rfl (fun v_1054 h_1055 N_1056 hQ_1057 hle_1058 => ?_)
      obtain ⟨s_1048, b_1049, rfl, K_1052, F_1053⟩ := hQ_1057
      have szh_1055 := nle K_1052.1
      have lts_1048 := nlt F_1053.lt
      have ltb_1049 := nlt F_1053.ltb
      refine Go.rs [(.ref s_1048), (.ref s_1037)] rfl ?_
      have F_1059 := (Str.keep F_1042 K_1052 nin0 nin0)
      have F_1060 := (sta_keep (sta_keep F_1036 K_1041 ns0) K_1052 ns0)
      have X_1066 : Exa Z h_1055 s_1037 "java/lang/String" := F_1059.1
      refine Go.callV (a1 := a0) (pc' := 70) (argsL := [(.ref s_1048)]) (rest := []) (ct_eqT l Z a0 hw n0 h_1055 s_1037 s_1048 b_1038 b_1049 [106, 32, 97, 115, 32, 83, 116, 114, 105, 110, 103, 63] F_1059 F_1053 (by decide) cs F_1060 hcs) at_67 (wd hw 180 rfl) (wd hw 181 rfl) (wd hw 183 rfl) (wd hw 183 rfl) (wd hw 182 rfl) (wd hw 28 rfl) (wd hw 184 rfl) X_1066 (by decide) (lenOf pd_29 rfl) rfl 0 rfl rfl (by decide) (by decide) (by decide) (by decide) sl0 rfl (fun v_1061 h_1062 N_1063 hQ_1064 hle_1065 => ?_)
      obtain ⟨rfl, rfl⟩ := hQ_1064
      refine Go.rs [(.int (1 : Int32))] rfl ?_
      refine Go.ifF (pc' := 73) at_70 (show ¬ ((1 : Int32) = (0 : Int32)) by decide) rfl ?_
      refine Go.aload (pc' := 75) at_73 rfl rfl rfl ?_
      refine Go.ldcR (pc' := 77) (a1 := a0) 4 (vs := [.int 118]) (z := 1) at_75 rfl (wd hw 211 rfl) (own_ws hw) (by decide) (by decide) (by decide) (by decide) rfl (own_ew hw) (List.mem_of_getElem? (i := 20) rfl) ⟨by decide, by decide⟩ (by decide) (by decide) (fun a_1067 h_1068 b_1069 k_1070 E_1071 X_1072 F_1073 F_1074 A_1075 ne_1076 => ?_)
      have szh_1068 := nle E_1071.1
      have lta_1067 := nlt X_1072.lt
      have ltb_1069 := nlt A_1075.lt
      have T_1077 : Str Z h_1068 a_1067 b_1069 [118] := ⟨X_1072, F_1073, F_1074, k_1070, A_1075⟩
      refine Go.iloadN (pc' := 78) at_77 rfl rfl ?_
      have F_1083 := (Exa.ext E_1071 (Exa.keep (Exa.keep F_1035 K_1041) K_1052))
      refine Go.callI (a1 := a0) (pc' := 83) (argsL := [(.ref a_1067), (.int (1 : Int32))]) (rest := []) (ct_ptj1 l Z a0 hw n0 h_1068 f_978 a_1067) at_78 (wd hw 212 rfl) (wd hw 213 rfl) (wd hw 214 rfl) (wd hw 215 rfl) (wd hw 216 rfl) (wd hw 217 rfl) (wd hw 218 rfl) (wd hw 55 rfl) (wd hw 26 rfl) (wd hw 219 rfl) F_1083 (by decide) (lenOf pd_22 rfl) rfl 0 rfl rfl (by decide) (by decide) (by decide) (by decide) sl0 rfl (fun v_1078 h_1079 N_1080 hQ_1081 hle_1082 => ?_)
      obtain ⟨rfl, rfl⟩ := hQ_1081
      refine Go.rs [(.ref a_1067)] rfl ?_
      refine Go.iloadN (pc' := 84) at_83 rfl rfl ?_
      refine Go.iloadN (pc' := 85) at_84 rfl rfl ?_
      refine Go.callS (a1 := a0) (pc' := 88) (argsL := [(.int (2 : Int32)), (.int (1 : Int32))]) (rest := [(.ref a_1067)]) (ct_expToJson_2_1 l Z a0 hw n0 h_1068) at_85 (wd hw 220 rfl) (wd hw 221 rfl) (wd hw 3 rfl) (wd hw 222 rfl) (by decide) (lenOf pd_28 rfl) rfl 1 rfl rfl (by decide) (by decide) (by decide) (by decide) sl0 rfl (fun v_1090 h_1091 N_1092 hQ_1093 hle_1094 => ?_)
      obtain ⟨s_1084, b_1085, rfl, K_1088, F_1089⟩ := hQ_1093
      have szh_1091 := nle K_1088.1
      have lts_1084 := nlt F_1089.lt
      have ltb_1085 := nlt F_1089.ltb
      refine Go.rs [(.ref s_1084), (.ref a_1067)] rfl ?_
      have F_1095 := (Str.keep T_1077 K_1088 nin0 nin0)
      have F_1096 := (sta_keep (Sta.ext E_1071 F_1060) K_1088 ns0)
      have X_1102 : Exa Z h_1091 a_1067 "java/lang/String" := F_1095.1
      refine Go.callV (a1 := a0) (pc' := 91) (argsL := [(.ref s_1084)]) (rest := []) (ct_eqT l Z a0 hw n0 h_1091 a_1067 s_1084 b_1069 b_1085 [118] F_1095 F_1089 (by decide) cs F_1096 hcs) at_88 (wd hw 180 rfl) (wd hw 181 rfl) (wd hw 183 rfl) (wd hw 183 rfl) (wd hw 182 rfl) (wd hw 28 rfl) (wd hw 184 rfl) X_1102 (by decide) (lenOf pd_29 rfl) rfl 0 rfl rfl (by decide) (by decide) (by decide) (by decide) sl0 rfl (fun v_1097 h_1098 N_1099 hQ_1100 hle_1101 => ?_)
      obtain ⟨rfl, rfl⟩ := hQ_1100
      refine Go.rs [(.int (1 : Int32))] rfl ?_
      refine Go.ifF (pc' := 94) at_91 (show ¬ ((1 : Int32) = (0 : Int32)) by decide) rfl ?_
      refine Go.aload (pc' := 96) at_94 rfl rfl rfl ?_
      have F_1103 := (Str.keep (Str.ext (Str.keep (Str.keep F_1033 K_1041 nin0 nin0) K_1052 nin0 nin0) E_1071) K_1088 nin0 nin0)
      have F_1104 := (Fld.keep (Fld.ext E_1071 (Fld.keep (Fld.keep F_1034 K_1041 nin0) K_1052 nin0)) K_1088 nin0)
      have F_1110 := (Exa.keep F_1083 K_1088)
      refine Go.callI (a1 := a0) (pc' := 101) (argsL := []) (rest := []) (ct_pdt l Z a0 hw n0 h_1091 [83, 116, 114, 105, 110, 103] f_978 s_979 b_980 F_1103 F_1104) at_96 (wd hw 223 rfl) (wd hw 224 rfl) (wd hw 225 rfl) (wd hw 226 rfl) (wd hw 227 rfl) (wd hw 228 rfl) (wd hw 229 rfl) (wd hw 55 rfl) (wd hw 26 rfl) (wd hw 230 rfl) F_1110 (by decide) (lenOf pd_20 rfl) rfl 0 rfl rfl (by decide) (by decide) (by decide) (by decide) sl0 rfl (fun v_1105 h_1106 N_1107 hQ_1108 hle_1109 => ?_)
      obtain ⟨rfl, rfl⟩ := hQ_1108
      refine Go.rs [(.ref s_979)] rfl ?_
      refine Go.iloadN (pc' := 102) at_101 rfl rfl ?_
      refine Go.callS (a1 := a0) (pc' := 105) (argsL := [(.int (2 : Int32))]) (rest := [(.ref s_979)]) (ct_expDecoded_2 l Z a0 hw n0 h_1091) at_102 (wd hw 231 rfl) (wd hw 232 rfl) (wd hw 3 rfl) (wd hw 233 rfl) (by decide) (lenOf pd_30 rfl) rfl 1 rfl rfl (by decide) (by decide) (by decide) (by decide) sl0 rfl (fun v_1117 h_1118 N_1119 hQ_1120 hle_1121 => ?_)
      obtain ⟨s_1111, b_1112, rfl, K_1115, F_1116⟩ := hQ_1120
      have szh_1118 := nle K_1115.1
      have lts_1111 := nlt F_1116.lt
      have ltb_1112 := nlt F_1116.ltb
      refine Go.rs [(.ref s_1111), (.ref s_979)] rfl ?_
      have F_1122 := (Str.keep F_1103 K_1115 nin0 nin0)
      have F_1123 := (sta_keep F_1096 K_1115 ns0)
      have X_1129 : Exa Z h_1118 s_979 "java/lang/String" := F_1122.1
      refine Go.callV (a1 := a0) (pc' := 108) (argsL := [(.ref s_1111)]) (rest := []) (ct_eqT l Z a0 hw n0 h_1118 s_979 s_1111 b_980 b_1112 [83, 116, 114, 105, 110, 103] F_1122 F_1116 (by decide) cs F_1123 hcs) at_105 (wd hw 180 rfl) (wd hw 181 rfl) (wd hw 183 rfl) (wd hw 183 rfl) (wd hw 182 rfl) (wd hw 28 rfl) (wd hw 184 rfl) X_1129 (by decide) (lenOf pd_29 rfl) rfl 0 rfl rfl (by decide) (by decide) (by decide) (by decide) sl0 rfl (fun v_1124 h_1125 N_1126 hQ_1127 hle_1128 => ?_)
      obtain ⟨rfl, rfl⟩ := hQ_1127
      refine Go.rs [(.int (1 : Int32))] rfl ?_
      refine Go.ifF (pc' := 111) at_108 (show ¬ ((1 : Int32) = (0 : Int32)) by decide) rfl ?_
      refine Go.aload (pc' := 113) at_111 rfl rfl rfl ?_
      refine Go.ldcR (pc' := 115) (a1 := a0) 4 (vs := [.int 106]) (z := 1) at_113 rfl (wd hw 190 rfl) (own_ws hw) (by decide) (by decide) (by decide) (by decide) rfl (own_ew hw) (List.mem_of_getElem? (i := 19) rfl) ⟨by decide, by decide⟩ (by decide) (by decide) (fun a_1130 h_1131 b_1132 k_1133 E_1134 X_1135 F_1136 F_1137 A_1138 ne_1139 => ?_)
      have szh_1131 := nle E_1134.1
      have lta_1130 := nlt X_1135.lt
      have ltb_1132 := nlt A_1138.lt
      have T_1140 : Str Z h_1131 a_1130 b_1132 [106] := ⟨X_1135, F_1136, F_1137, k_1133, A_1138⟩
      have F_1146 := (Exa.ext E_1134 (Exa.keep F_1110 K_1115))
      refine Go.callI (a1 := a0) (pc' := 120) (argsL := [(.ref a_1130)]) (rest := []) (ct_pfd l Z a0 hw n0 h_1131 f_978 a_1130) at_115 (wd hw 235 rfl) (wd hw 236 rfl) (wd hw 237 rfl) (wd hw 238 rfl) (wd hw 239 rfl) (wd hw 240 rfl) (wd hw 241 rfl) (wd hw 55 rfl) (wd hw 26 rfl) (wd hw 242 rfl) F_1146 (by decide) (lenOf pd_24 rfl) rfl 0 rfl rfl (by decide) (by decide) (by decide) (by decide) sl0 rfl (fun v_1141 h_1142 N_1143 hQ_1144 hle_1145 => ?_)
      obtain ⟨rfl, rfl⟩ := hQ_1144
      refine Go.rs [(.ref a_1130)] rfl ?_
      refine Go.iloadN (pc' := 121) at_120 rfl rfl ?_
      refine Go.callS (a1 := a0) (pc' := 124) (argsL := [(.int (2 : Int32))]) (rest := [(.ref a_1130)]) (ct_expFromDecoded_2 l Z a0 hw n0 h_1131) at_121 (wd hw 243 rfl) (wd hw 244 rfl) (wd hw 3 rfl) (wd hw 245 rfl) (by decide) (lenOf pd_30 rfl) rfl 1 rfl rfl (by decide) (by decide) (by decide) (by decide) sl0 rfl (fun v_1153 h_1154 N_1155 hQ_1156 hle_1157 => ?_)
      obtain ⟨s_1147, b_1148, rfl, K_1151, F_1152⟩ := hQ_1156
      have szh_1154 := nle K_1151.1
      have lts_1147 := nlt F_1152.lt
      have ltb_1148 := nlt F_1152.ltb
      refine Go.rs [(.ref s_1147), (.ref a_1130)] rfl ?_
      have F_1158 := (Str.keep T_1140 K_1151 nin0 nin0)
      have F_1159 := (sta_keep (Sta.ext E_1134 F_1123) K_1151 ns0)
      have X_1165 : Exa Z h_1154 a_1130 "java/lang/String" := F_1158.1
      refine Go.callV (a1 := a0) (pc' := 127) (argsL := [(.ref s_1147)]) (rest := []) (ct_eqT l Z a0 hw n0 h_1154 a_1130 s_1147 b_1132 b_1148 [106] F_1158 F_1152 (by decide) cs F_1159 hcs) at_124 (wd hw 180 rfl) (wd hw 181 rfl) (wd hw 183 rfl) (wd hw 183 rfl) (wd hw 182 rfl) (wd hw 28 rfl) (wd hw 184 rfl) X_1165 (by decide) (lenOf pd_29 rfl) rfl 0 rfl rfl (by decide) (by decide) (by decide) (by decide) sl0 rfl (fun v_1160 h_1161 N_1162 hQ_1163 hle_1164 => ?_)
      obtain ⟨rfl, rfl⟩ := hQ_1163
      refine Go.rs [(.int (1 : Int32))] rfl ?_
      refine Go.ifF (pc' := 130) at_127 (show ¬ ((1 : Int32) = (0 : Int32)) by decide) rfl ?_
      refine Go.iconst (pc' := 131) 1 at_130 rfl rfl ?_
      refine Go.goto (pc' := 135) at_131 (by decide) (by decide) ?_
      refine Go.retN (t := .boolean) (1 : Int32) rfl (by simp) rfl [] sl0 at_135 (by decide) (by decide) ?_
      exact ⟨rfl, (Keep.trans (Keep.ext (Keep.trans (Keep.trans (Keep.ext (Keep.trans (Keep.trans (Keep.ext (Keep.trans (Keep.trans (Keep.trans (Keep.refl _ []) K_982 all0) K_996 all0) K_1007 all0) E_1026) K_1041 all0) K_1052 all0) E_1071) K_1088 all0) K_1115 all0) E_1134) K_1151 all0)⟩
  · refine Go.re (pc' := 8) (L' := #[.val (.int p0), .val (.int p1), .val (.int (3 : Int32)), .unset, .unset, .unset]) (S' := []) rfl (by rw [e7]) rfl ?_
    refine Go.iloadN (pc' := 9) at_8 rfl rfl ?_
    refine Go.iconst (pc' := 10) 1 at_9 rfl rfl ?_
    refine Go.iand (pc' := 11) at_10 rfl ?_
    refine Go.ifc (pc' := 18) (pc'' := 14) at_11 (by decide) (by decide) rfl (fun hc_1166 => ?_) (fun hc_1166 => ?_)
    · have hc_1166 : (p1 &&& (1 : Int32)) = 0 := hc_1166
      refine Go.iconst (pc' := 19) 0 at_18 rfl rfl ?_
      refine Go.istoreN (pc' := 20) #[.val (.int p0), .val (.int p1), .val (.int (3 : Int32)), .val (.int (0 : Int32)), .unset, .unset] at_19 rfl rfl ?_
      refine Go.iloadN (pc' := 21) at_20 rfl rfl ?_
      refine Go.callS (a1 := a0) (pc' := 24) (argsL := [(.int (3 : Int32))]) (rest := []) (ct_sc3 l Z a0 hw n0 h0 o_BOOLEAN S_BOOLEAN) at_21 (wd hw 1 rfl) (wd hw 2 rfl) (wd hw 3 rfl) (wd hw 4 rfl) (by decide) (lenOf pd_26 rfl) rfl 0 rfl rfl (by decide) (by decide) (by decide) (by decide) sl0 rfl (fun v_1167 h_1168 N_1169 hQ_1170 hle_1171 => ?_)
      obtain ⟨rfl, rfl⟩ := hQ_1170
      refine Go.rs [(.ref o_BOOLEAN)] rfl ?_
      refine Go.astore (pc' := 26) #[.val (.int p0), .val (.int p1), .val (.int (3 : Int32)), .val (.int (0 : Int32)), .val (.ref o_BOOLEAN), .unset] at_24 rfl rfl rfl ?_
      refine Go.aload (pc' := 28) at_26 rfl rfl rfl ?_
      refine Go.callS (a1 := a0) (pc' := 31) (argsL := [(.ref o_BOOLEAN)]) (rest := []) (ct_of3 l Z a0 hw n0 h0 o_BOOLEAN X_BOOLEAN F_BOOLEAN_ordinal b1 cl S_B A_B hi_3 he_3 (by omega)) at_28 (wd hw 8 rfl) (wd hw 9 rfl) (wd hw 10 rfl) (wd hw 11 rfl) (by decide) (lenOf pd_27 rfl) rfl 0 rfl rfl (by decide) (by decide) (by decide) (by decide) sl0 rfl (fun v_1180 h_1181 N_1182 hQ_1183 hle_1184 => ?_)
      obtain ⟨f_1172, s_1173, b_1174, rfl, g_1175, K_1176, X_1177, F_1178, F_1179⟩ := hQ_1183
      have szh_1181 := nle K_1176.1
      have ltf_1172 := nlt X_1177.lt
      have gef_1172 := nle g_1175
      have lts_1173 := nlt F_1179.lt
      have ltb_1174 := nlt F_1179.ltb
      refine Go.rs [(.ref f_1172)] rfl ?_
      refine Go.astore (pc' := 33) #[.val (.int p0), .val (.int p1), .val (.int (3 : Int32)), .val (.int (0 : Int32)), .val (.ref o_BOOLEAN), .val (.ref f_1172)] at_31 rfl rfl rfl ?_
      refine Go.aload (pc' := 35) at_33 rfl rfl rfl ?_
      refine Go.iloadN (pc' := 36) at_35 rfl rfl ?_
      refine Go.callI (a1 := a0) (pc' := 41) (argsL := [(.int (0 : Int32))]) (rest := []) (ct_pty0 l Z a0 hw n0 h_1181 [98, 111, 111, 108] f_1172 s_1173 b_1174 F_1179 F_1178) at_36 (wd hw 48 rfl) (wd hw 49 rfl) (wd hw 50 rfl) (wd hw 51 rfl) (wd hw 52 rfl) (wd hw 53 rfl) (wd hw 54 rfl) (wd hw 55 rfl) (wd hw 26 rfl) (wd hw 56 rfl) X_1177 (by decide) (lenOf pd_23 rfl) rfl 0 rfl rfl (by decide) (by decide) (by decide) (by decide) sl0 rfl (fun v_1185 h_1186 N_1187 hQ_1188 hle_1189 => ?_)
      obtain ⟨rfl, rfl⟩ := hQ_1188
      refine Go.rs [(.ref s_1173)] rfl ?_
      refine Go.iloadN (pc' := 42) at_41 rfl rfl ?_
      refine Go.iloadN (pc' := 43) at_42 rfl rfl ?_
      refine Go.callS (a1 := a0) (pc' := 46) (argsL := [(.int (3 : Int32)), (.int (0 : Int32))]) (rest := [(.ref s_1173)]) (ct_expType_3_0 l Z a0 hw n0 h_1181) at_43 (wd hw 176 rfl) (wd hw 177 rfl) (wd hw 3 rfl) (wd hw 178 rfl) (by decide) (lenOf pd_28 rfl) rfl 1 rfl rfl (by decide) (by decide) (by decide) (by decide) sl0 rfl (fun v_1196 h_1197 N_1198 hQ_1199 hle_1200 => ?_)
      obtain ⟨s_1190, b_1191, rfl, K_1194, F_1195⟩ := hQ_1199
      have szh_1197 := nle K_1194.1
      have lts_1190 := nlt F_1195.lt
      have ltb_1191 := nlt F_1195.ltb
      refine Go.rs [(.ref s_1190), (.ref s_1173)] rfl ?_
      have F_1201 := (Str.keep F_1179 K_1194 nin0 nin0)
      have F_1202 := (sta_keep (sta_keep S_cs K_1176 ns0) K_1194 ns0)
      have X_1208 : Exa Z h_1197 s_1173 "java/lang/String" := F_1201.1
      refine Go.callV (a1 := a0) (pc' := 49) (argsL := [(.ref s_1190)]) (rest := []) (ct_eqT l Z a0 hw n0 h_1197 s_1173 s_1190 b_1174 b_1191 [98, 111, 111, 108] F_1201 F_1195 (by decide) cs F_1202 hcs) at_46 (wd hw 180 rfl) (wd hw 181 rfl) (wd hw 183 rfl) (wd hw 183 rfl) (wd hw 182 rfl) (wd hw 28 rfl) (wd hw 184 rfl) X_1208 (by decide) (lenOf pd_29 rfl) rfl 0 rfl rfl (by decide) (by decide) (by decide) (by decide) sl0 rfl (fun v_1203 h_1204 N_1205 hQ_1206 hle_1207 => ?_)
      obtain ⟨rfl, rfl⟩ := hQ_1206
      refine Go.rs [(.int (1 : Int32))] rfl ?_
      refine Go.ifF (pc' := 52) at_49 (show ¬ ((1 : Int32) = (0 : Int32)) by decide) rfl ?_
      refine Go.aload (pc' := 54) at_52 rfl rfl rfl ?_
      refine Go.ldcR (pc' := 56) (a1 := a0) 4 (vs := [.int 106]) (z := 1) at_54 rfl (wd hw 190 rfl) (own_ws hw) (by decide) (by decide) (by decide) (by decide) rfl (own_ew hw) (List.mem_of_getElem? (i := 19) rfl) ⟨by decide, by decide⟩ (by decide) (by decide) (fun a_1209 h_1210 b_1211 k_1212 E_1213 X_1214 F_1215 F_1216 A_1217 ne_1218 => ?_)
      have szh_1210 := nle E_1213.1
      have lta_1209 := nlt X_1214.lt
      have ltb_1211 := nlt A_1217.lt
      have T_1219 : Str Z h_1210 a_1209 b_1211 [106] := ⟨X_1214, F_1215, F_1216, k_1212, A_1217⟩
      refine Go.iloadN (pc' := 57) at_56 rfl rfl ?_
      have F_1220 := (Str.ext F_1201 E_1213)
      have F_1221 := (Fld.ext E_1213 (Fld.keep F_1178 K_1194 nin0))
      have F_1222 := (Exa.ext E_1213 (Exa.keep X_1177 K_1194))
      have F_1223 := (Sta.ext E_1213 F_1202)
      refine Go.callI (a1 := a0) (pc' := 62) (argsL := [(.ref a_1209), (.int (0 : Int32))]) (rest := []) (ct_pfj0 l Z a0 hw n0 h_1210 [98, 111, 111, 108] f_1172 s_1173 b_1174 F_1220 F_1221 F_1222 (by decide) a_1209 b_1211 T_1219 (by omega) cs F_1223 hcs) at_57 (wd hw 191 rfl) (wd hw 192 rfl) (wd hw 193 rfl) (wd hw 194 rfl) (wd hw 195 rfl) (wd hw 196 rfl) (wd hw 197 rfl) (wd hw 55 rfl) (wd hw 26 rfl) (wd hw 198 rfl) F_1222 (by decide) (lenOf pd_22 rfl) rfl 0 rfl rfl (by decide) (by decide) (by decide) (by decide) sl0 rfl (fun v_1230 h_1231 N_1232 hQ_1233 hle_1234 => ?_)
      obtain ⟨s_1224, b_1225, rfl, g_1226, g_1227, K_1228, F_1229⟩ := hQ_1233
      have szh_1231 := nle K_1228.1
      have lts_1224 := nlt F_1229.lt
      have ltb_1225 := nlt F_1229.ltb
      have ges_1224 := nle g_1226
      have geb_1225 := nle g_1227
      refine Go.rs [(.ref s_1224)] rfl ?_
      refine Go.iloadN (pc' := 63) at_62 rfl rfl ?_
      refine Go.iloadN (pc' := 64) at_63 rfl rfl ?_
      refine Go.callS (a1 := a0) (pc' := 67) (argsL := [(.int (3 : Int32)), (.int (0 : Int32))]) (rest := [(.ref s_1224)]) (ct_expFromJson_3_0 l Z a0 hw n0 h_1231) at_64 (wd hw 207 rfl) (wd hw 208 rfl) (wd hw 3 rfl) (wd hw 209 rfl) (by decide) (lenOf pd_28 rfl) rfl 1 rfl rfl (by decide) (by decide) (by decide) (by decide) sl0 rfl (fun v_1241 h_1242 N_1243 hQ_1244 hle_1245 => ?_)
      obtain ⟨s_1235, b_1236, rfl, K_1239, F_1240⟩ := hQ_1244
      have szh_1242 := nle K_1239.1
      have lts_1235 := nlt F_1240.lt
      have ltb_1236 := nlt F_1240.ltb
      refine Go.rs [(.ref s_1235), (.ref s_1224)] rfl ?_
      have F_1246 := (Str.keep F_1229 K_1239 nin0 nin0)
      have F_1247 := (sta_keep (sta_keep F_1223 K_1228 ns0) K_1239 ns0)
      have X_1253 : Exa Z h_1242 s_1224 "java/lang/String" := F_1246.1
      refine Go.callV (a1 := a0) (pc' := 70) (argsL := [(.ref s_1235)]) (rest := []) (ct_eqT l Z a0 hw n0 h_1242 s_1224 s_1235 b_1225 b_1236 [106, 32, 97, 115, 32, 98, 111, 111, 108] F_1246 F_1240 (by decide) cs F_1247 hcs) at_67 (wd hw 180 rfl) (wd hw 181 rfl) (wd hw 183 rfl) (wd hw 183 rfl) (wd hw 182 rfl) (wd hw 28 rfl) (wd hw 184 rfl) X_1253 (by decide) (lenOf pd_29 rfl) rfl 0 rfl rfl (by decide) (by decide) (by decide) (by decide) sl0 rfl (fun v_1248 h_1249 N_1250 hQ_1251 hle_1252 => ?_)
      obtain ⟨rfl, rfl⟩ := hQ_1251
      refine Go.rs [(.int (1 : Int32))] rfl ?_
      refine Go.ifF (pc' := 73) at_70 (show ¬ ((1 : Int32) = (0 : Int32)) by decide) rfl ?_
      refine Go.aload (pc' := 75) at_73 rfl rfl rfl ?_
      refine Go.ldcR (pc' := 77) (a1 := a0) 4 (vs := [.int 118]) (z := 1) at_75 rfl (wd hw 211 rfl) (own_ws hw) (by decide) (by decide) (by decide) (by decide) rfl (own_ew hw) (List.mem_of_getElem? (i := 20) rfl) ⟨by decide, by decide⟩ (by decide) (by decide) (fun a_1254 h_1255 b_1256 k_1257 E_1258 X_1259 F_1260 F_1261 A_1262 ne_1263 => ?_)
      have szh_1255 := nle E_1258.1
      have lta_1254 := nlt X_1259.lt
      have ltb_1256 := nlt A_1262.lt
      have T_1264 : Str Z h_1255 a_1254 b_1256 [118] := ⟨X_1259, F_1260, F_1261, k_1257, A_1262⟩
      refine Go.iloadN (pc' := 78) at_77 rfl rfl ?_
      have F_1270 := (Exa.ext E_1258 (Exa.keep (Exa.keep F_1222 K_1228) K_1239))
      refine Go.callI (a1 := a0) (pc' := 83) (argsL := [(.ref a_1254), (.int (0 : Int32))]) (rest := []) (ct_ptj0 l Z a0 hw n0 h_1255 f_1172 a_1254) at_78 (wd hw 212 rfl) (wd hw 213 rfl) (wd hw 214 rfl) (wd hw 215 rfl) (wd hw 216 rfl) (wd hw 217 rfl) (wd hw 218 rfl) (wd hw 55 rfl) (wd hw 26 rfl) (wd hw 219 rfl) F_1270 (by decide) (lenOf pd_22 rfl) rfl 0 rfl rfl (by decide) (by decide) (by decide) (by decide) sl0 rfl (fun v_1265 h_1266 N_1267 hQ_1268 hle_1269 => ?_)
      obtain ⟨rfl, rfl⟩ := hQ_1268
      refine Go.rs [(.ref a_1254)] rfl ?_
      refine Go.iloadN (pc' := 84) at_83 rfl rfl ?_
      refine Go.iloadN (pc' := 85) at_84 rfl rfl ?_
      refine Go.callS (a1 := a0) (pc' := 88) (argsL := [(.int (3 : Int32)), (.int (0 : Int32))]) (rest := [(.ref a_1254)]) (ct_expToJson_3_0 l Z a0 hw n0 h_1255) at_85 (wd hw 220 rfl) (wd hw 221 rfl) (wd hw 3 rfl) (wd hw 222 rfl) (by decide) (lenOf pd_28 rfl) rfl 1 rfl rfl (by decide) (by decide) (by decide) (by decide) sl0 rfl (fun v_1277 h_1278 N_1279 hQ_1280 hle_1281 => ?_)
      obtain ⟨s_1271, b_1272, rfl, K_1275, F_1276⟩ := hQ_1280
      have szh_1278 := nle K_1275.1
      have lts_1271 := nlt F_1276.lt
      have ltb_1272 := nlt F_1276.ltb
      refine Go.rs [(.ref s_1271), (.ref a_1254)] rfl ?_
      have F_1282 := (Str.keep T_1264 K_1275 nin0 nin0)
      have F_1283 := (sta_keep (Sta.ext E_1258 F_1247) K_1275 ns0)
      have X_1289 : Exa Z h_1278 a_1254 "java/lang/String" := F_1282.1
      refine Go.callV (a1 := a0) (pc' := 91) (argsL := [(.ref s_1271)]) (rest := []) (ct_eqT l Z a0 hw n0 h_1278 a_1254 s_1271 b_1256 b_1272 [118] F_1282 F_1276 (by decide) cs F_1283 hcs) at_88 (wd hw 180 rfl) (wd hw 181 rfl) (wd hw 183 rfl) (wd hw 183 rfl) (wd hw 182 rfl) (wd hw 28 rfl) (wd hw 184 rfl) X_1289 (by decide) (lenOf pd_29 rfl) rfl 0 rfl rfl (by decide) (by decide) (by decide) (by decide) sl0 rfl (fun v_1284 h_1285 N_1286 hQ_1287 hle_1288 => ?_)
      obtain ⟨rfl, rfl⟩ := hQ_1287
      refine Go.rs [(.int (1 : Int32))] rfl ?_
      refine Go.ifF (pc' := 94) at_91 (show ¬ ((1 : Int32) = (0 : Int32)) by decide) rfl ?_
      refine Go.aload (pc' := 96) at_94 rfl rfl rfl ?_
      have F_1290 := (Str.keep (Str.ext (Str.keep (Str.keep F_1220 K_1228 nin0 nin0) K_1239 nin0 nin0) E_1258) K_1275 nin0 nin0)
      have F_1291 := (Fld.keep (Fld.ext E_1258 (Fld.keep (Fld.keep F_1221 K_1228 nin0) K_1239 nin0)) K_1275 nin0)
      have F_1297 := (Exa.keep F_1270 K_1275)
      refine Go.callI (a1 := a0) (pc' := 101) (argsL := []) (rest := []) (ct_pdt l Z a0 hw n0 h_1278 [98, 111, 111, 108] f_1172 s_1173 b_1174 F_1290 F_1291) at_96 (wd hw 223 rfl) (wd hw 224 rfl) (wd hw 225 rfl) (wd hw 226 rfl) (wd hw 227 rfl) (wd hw 228 rfl) (wd hw 229 rfl) (wd hw 55 rfl) (wd hw 26 rfl) (wd hw 230 rfl) F_1297 (by decide) (lenOf pd_20 rfl) rfl 0 rfl rfl (by decide) (by decide) (by decide) (by decide) sl0 rfl (fun v_1292 h_1293 N_1294 hQ_1295 hle_1296 => ?_)
      obtain ⟨rfl, rfl⟩ := hQ_1295
      refine Go.rs [(.ref s_1173)] rfl ?_
      refine Go.iloadN (pc' := 102) at_101 rfl rfl ?_
      refine Go.callS (a1 := a0) (pc' := 105) (argsL := [(.int (3 : Int32))]) (rest := [(.ref s_1173)]) (ct_expDecoded_3 l Z a0 hw n0 h_1278) at_102 (wd hw 231 rfl) (wd hw 232 rfl) (wd hw 3 rfl) (wd hw 233 rfl) (by decide) (lenOf pd_30 rfl) rfl 1 rfl rfl (by decide) (by decide) (by decide) (by decide) sl0 rfl (fun v_1304 h_1305 N_1306 hQ_1307 hle_1308 => ?_)
      obtain ⟨s_1298, b_1299, rfl, K_1302, F_1303⟩ := hQ_1307
      have szh_1305 := nle K_1302.1
      have lts_1298 := nlt F_1303.lt
      have ltb_1299 := nlt F_1303.ltb
      refine Go.rs [(.ref s_1298), (.ref s_1173)] rfl ?_
      have F_1309 := (Str.keep F_1290 K_1302 nin0 nin0)
      have F_1310 := (sta_keep F_1283 K_1302 ns0)
      have F_1316 := (Exa.keep (Exa.keep (Exa.ext E_1258 (Exa.keep (Exa.keep (Exa.ext E_1213 X_1208) K_1228) K_1239)) K_1275) K_1302)
      refine Go.callV (a1 := a0) (pc' := 108) (argsL := [(.ref s_1298)]) (rest := []) (ct_eqT l Z a0 hw n0 h_1305 s_1173 s_1298 b_1174 b_1299 [98, 111, 111, 108] F_1309 F_1303 (by decide) cs F_1310 hcs) at_105 (wd hw 180 rfl) (wd hw 181 rfl) (wd hw 183 rfl) (wd hw 183 rfl) (wd hw 182 rfl) (wd hw 28 rfl) (wd hw 184 rfl) F_1316 (by decide) (lenOf pd_29 rfl) rfl 0 rfl rfl (by decide) (by decide) (by decide) (by decide) sl0 rfl (fun v_1311 h_1312 N_1313 hQ_1314 hle_1315 => ?_)
      obtain ⟨rfl, rfl⟩ := hQ_1314
      refine Go.rs [(.int (1 : Int32))] rfl ?_
      refine Go.ifF (pc' := 111) at_108 (show ¬ ((1 : Int32) = (0 : Int32)) by decide) rfl ?_
      refine Go.aload (pc' := 113) at_111 rfl rfl rfl ?_
      refine Go.ldcR (pc' := 115) (a1 := a0) 4 (vs := [.int 106]) (z := 1) at_113 rfl (wd hw 190 rfl) (own_ws hw) (by decide) (by decide) (by decide) (by decide) rfl (own_ew hw) (List.mem_of_getElem? (i := 19) rfl) ⟨by decide, by decide⟩ (by decide) (by decide) (fun a_1317 h_1318 b_1319 k_1320 E_1321 X_1322 F_1323 F_1324 A_1325 ne_1326 => ?_)
      have szh_1318 := nle E_1321.1
      have lta_1317 := nlt X_1322.lt
      have ltb_1319 := nlt A_1325.lt
      have T_1327 : Str Z h_1318 a_1317 b_1319 [106] := ⟨X_1322, F_1323, F_1324, k_1320, A_1325⟩
      have F_1333 := (Exa.ext E_1321 (Exa.keep F_1297 K_1302))
      refine Go.callI (a1 := a0) (pc' := 120) (argsL := [(.ref a_1317)]) (rest := []) (ct_pfd l Z a0 hw n0 h_1318 f_1172 a_1317) at_115 (wd hw 235 rfl) (wd hw 236 rfl) (wd hw 237 rfl) (wd hw 238 rfl) (wd hw 239 rfl) (wd hw 240 rfl) (wd hw 241 rfl) (wd hw 55 rfl) (wd hw 26 rfl) (wd hw 242 rfl) F_1333 (by decide) (lenOf pd_24 rfl) rfl 0 rfl rfl (by decide) (by decide) (by decide) (by decide) sl0 rfl (fun v_1328 h_1329 N_1330 hQ_1331 hle_1332 => ?_)
      obtain ⟨rfl, rfl⟩ := hQ_1331
      refine Go.rs [(.ref a_1317)] rfl ?_
      refine Go.iloadN (pc' := 121) at_120 rfl rfl ?_
      refine Go.callS (a1 := a0) (pc' := 124) (argsL := [(.int (3 : Int32))]) (rest := [(.ref a_1317)]) (ct_expFromDecoded_3 l Z a0 hw n0 h_1318) at_121 (wd hw 243 rfl) (wd hw 244 rfl) (wd hw 3 rfl) (wd hw 245 rfl) (by decide) (lenOf pd_30 rfl) rfl 1 rfl rfl (by decide) (by decide) (by decide) (by decide) sl0 rfl (fun v_1340 h_1341 N_1342 hQ_1343 hle_1344 => ?_)
      obtain ⟨s_1334, b_1335, rfl, K_1338, F_1339⟩ := hQ_1343
      have szh_1341 := nle K_1338.1
      have lts_1334 := nlt F_1339.lt
      have ltb_1335 := nlt F_1339.ltb
      refine Go.rs [(.ref s_1334), (.ref a_1317)] rfl ?_
      have F_1345 := (Str.keep T_1327 K_1338 nin0 nin0)
      have F_1346 := (sta_keep (Sta.ext E_1321 F_1310) K_1338 ns0)
      have X_1352 : Exa Z h_1341 a_1317 "java/lang/String" := F_1345.1
      refine Go.callV (a1 := a0) (pc' := 127) (argsL := [(.ref s_1334)]) (rest := []) (ct_eqT l Z a0 hw n0 h_1341 a_1317 s_1334 b_1319 b_1335 [106] F_1345 F_1339 (by decide) cs F_1346 hcs) at_124 (wd hw 180 rfl) (wd hw 181 rfl) (wd hw 183 rfl) (wd hw 183 rfl) (wd hw 182 rfl) (wd hw 28 rfl) (wd hw 184 rfl) X_1352 (by decide) (lenOf pd_29 rfl) rfl 0 rfl rfl (by decide) (by decide) (by decide) (by decide) sl0 rfl (fun v_1347 h_1348 N_1349 hQ_1350 hle_1351 => ?_)
      obtain ⟨rfl, rfl⟩ := hQ_1350
      refine Go.rs [(.int (1 : Int32))] rfl ?_
      refine Go.ifF (pc' := 130) at_127 (show ¬ ((1 : Int32) = (0 : Int32)) by decide) rfl ?_
      refine Go.iconst (pc' := 131) 1 at_130 rfl rfl ?_
      refine Go.goto (pc' := 135) at_131 (by decide) (by decide) ?_
      refine Go.retN (t := .boolean) (1 : Int32) rfl (by simp) rfl [] sl0 at_135 (by decide) (by decide) ?_
      exact ⟨rfl, (Keep.trans (Keep.ext (Keep.trans (Keep.trans (Keep.ext (Keep.trans (Keep.trans (Keep.ext (Keep.trans (Keep.trans (Keep.refl _ []) K_1176 all0) K_1194 all0) E_1213) K_1228 all0) K_1239 all0) E_1258) K_1275 all0) K_1302 all0) E_1321) K_1338 all0)⟩
    · have hc_1166 : ¬ ((p1 &&& (1 : Int32)) = 0) := hc_1166
      refine Go.iconst (pc' := 15) 1 at_14 rfl rfl ?_
      refine Go.goto (pc' := 19) at_15 (by decide) (by decide) ?_
      refine Go.istoreN (pc' := 20) #[.val (.int p0), .val (.int p1), .val (.int (3 : Int32)), .val (.int (1 : Int32)), .unset, .unset] at_19 rfl rfl ?_
      refine Go.iloadN (pc' := 21) at_20 rfl rfl ?_
      refine Go.callS (a1 := a0) (pc' := 24) (argsL := [(.int (3 : Int32))]) (rest := []) (ct_sc3 l Z a0 hw n0 h0 o_BOOLEAN S_BOOLEAN) at_21 (wd hw 1 rfl) (wd hw 2 rfl) (wd hw 3 rfl) (wd hw 4 rfl) (by decide) (lenOf pd_26 rfl) rfl 0 rfl rfl (by decide) (by decide) (by decide) (by decide) sl0 rfl (fun v_1353 h_1354 N_1355 hQ_1356 hle_1357 => ?_)
      obtain ⟨rfl, rfl⟩ := hQ_1356
      refine Go.rs [(.ref o_BOOLEAN)] rfl ?_
      refine Go.astore (pc' := 26) #[.val (.int p0), .val (.int p1), .val (.int (3 : Int32)), .val (.int (1 : Int32)), .val (.ref o_BOOLEAN), .unset] at_24 rfl rfl rfl ?_
      refine Go.aload (pc' := 28) at_26 rfl rfl rfl ?_
      refine Go.callS (a1 := a0) (pc' := 31) (argsL := [(.ref o_BOOLEAN)]) (rest := []) (ct_of3 l Z a0 hw n0 h0 o_BOOLEAN X_BOOLEAN F_BOOLEAN_ordinal b1 cl S_B A_B hi_3 he_3 (by omega)) at_28 (wd hw 8 rfl) (wd hw 9 rfl) (wd hw 10 rfl) (wd hw 11 rfl) (by decide) (lenOf pd_27 rfl) rfl 0 rfl rfl (by decide) (by decide) (by decide) (by decide) sl0 rfl (fun v_1366 h_1367 N_1368 hQ_1369 hle_1370 => ?_)
      obtain ⟨f_1358, s_1359, b_1360, rfl, g_1361, K_1362, X_1363, F_1364, F_1365⟩ := hQ_1369
      have szh_1367 := nle K_1362.1
      have ltf_1358 := nlt X_1363.lt
      have gef_1358 := nle g_1361
      have lts_1359 := nlt F_1365.lt
      have ltb_1360 := nlt F_1365.ltb
      refine Go.rs [(.ref f_1358)] rfl ?_
      refine Go.astore (pc' := 33) #[.val (.int p0), .val (.int p1), .val (.int (3 : Int32)), .val (.int (1 : Int32)), .val (.ref o_BOOLEAN), .val (.ref f_1358)] at_31 rfl rfl rfl ?_
      refine Go.aload (pc' := 35) at_33 rfl rfl rfl ?_
      refine Go.iloadN (pc' := 36) at_35 rfl rfl ?_
      have F_1371 := (sta_keep S_cs K_1362 ns0)
      refine Go.callI (a1 := a0) (pc' := 41) (argsL := [(.int (1 : Int32))]) (rest := []) (ct_pty1 l Z a0 hw n0 h_1367 [98, 111, 111, 108] f_1358 s_1359 b_1360 F_1365 F_1364 (by decide) (by omega) cs F_1371 hcs) at_36 (wd hw 48 rfl) (wd hw 49 rfl) (wd hw 50 rfl) (wd hw 51 rfl) (wd hw 52 rfl) (wd hw 53 rfl) (wd hw 54 rfl) (wd hw 55 rfl) (wd hw 26 rfl) (wd hw 56 rfl) X_1363 (by decide) (lenOf pd_23 rfl) rfl 0 rfl rfl (by decide) (by decide) (by decide) (by decide) sl0 rfl (fun v_1378 h_1379 N_1380 hQ_1381 hle_1382 => ?_)
      obtain ⟨s_1372, b_1373, rfl, g_1374, g_1375, K_1376, F_1377⟩ := hQ_1381
      have szh_1379 := nle K_1376.1
      have lts_1372 := nlt F_1377.lt
      have ltb_1373 := nlt F_1377.ltb
      have ges_1372 := nle g_1374
      have geb_1373 := nle g_1375
      refine Go.rs [(.ref s_1372)] rfl ?_
      refine Go.iloadN (pc' := 42) at_41 rfl rfl ?_
      refine Go.iloadN (pc' := 43) at_42 rfl rfl ?_
      refine Go.callS (a1 := a0) (pc' := 46) (argsL := [(.int (3 : Int32)), (.int (1 : Int32))]) (rest := [(.ref s_1372)]) (ct_expType_3_1 l Z a0 hw n0 h_1379) at_43 (wd hw 176 rfl) (wd hw 177 rfl) (wd hw 3 rfl) (wd hw 178 rfl) (by decide) (lenOf pd_28 rfl) rfl 1 rfl rfl (by decide) (by decide) (by decide) (by decide) sl0 rfl (fun v_1389 h_1390 N_1391 hQ_1392 hle_1393 => ?_)
      obtain ⟨s_1383, b_1384, rfl, K_1387, F_1388⟩ := hQ_1392
      have szh_1390 := nle K_1387.1
      have lts_1383 := nlt F_1388.lt
      have ltb_1384 := nlt F_1388.ltb
      refine Go.rs [(.ref s_1383), (.ref s_1372)] rfl ?_
      have F_1394 := (Str.keep F_1377 K_1387 nin0 nin0)
      have F_1395 := (sta_keep (sta_keep F_1371 K_1376 ns0) K_1387 ns0)
      have X_1401 : Exa Z h_1390 s_1372 "java/lang/String" := F_1394.1
      refine Go.callV (a1 := a0) (pc' := 49) (argsL := [(.ref s_1383)]) (rest := []) (ct_eqT l Z a0 hw n0 h_1390 s_1372 s_1383 b_1373 b_1384 [98, 111, 111, 108, 63] F_1394 F_1388 (by decide) cs F_1395 hcs) at_46 (wd hw 180 rfl) (wd hw 181 rfl) (wd hw 183 rfl) (wd hw 183 rfl) (wd hw 182 rfl) (wd hw 28 rfl) (wd hw 184 rfl) X_1401 (by decide) (lenOf pd_29 rfl) rfl 0 rfl rfl (by decide) (by decide) (by decide) (by decide) sl0 rfl (fun v_1396 h_1397 N_1398 hQ_1399 hle_1400 => ?_)
      obtain ⟨rfl, rfl⟩ := hQ_1399
      refine Go.rs [(.int (1 : Int32))] rfl ?_
      refine Go.ifF (pc' := 52) at_49 (show ¬ ((1 : Int32) = (0 : Int32)) by decide) rfl ?_
      refine Go.aload (pc' := 54) at_52 rfl rfl rfl ?_
      refine Go.ldcR (pc' := 56) (a1 := a0) 4 (vs := [.int 106]) (z := 1) at_54 rfl (wd hw 190 rfl) (own_ws hw) (by decide) (by decide) (by decide) (by decide) rfl (own_ew hw) (List.mem_of_getElem? (i := 19) rfl) ⟨by decide, by decide⟩ (by decide) (by decide) (fun a_1402 h_1403 b_1404 k_1405 E_1406 X_1407 F_1408 F_1409 A_1410 ne_1411 => ?_)
      have szh_1403 := nle E_1406.1
      have lta_1402 := nlt X_1407.lt
      have ltb_1404 := nlt A_1410.lt
      have T_1412 : Str Z h_1403 a_1402 b_1404 [106] := ⟨X_1407, F_1408, F_1409, k_1405, A_1410⟩
      refine Go.iloadN (pc' := 57) at_56 rfl rfl ?_
      have F_1413 := (Str.ext (Str.keep (Str.keep F_1365 K_1376 nin0 nin0) K_1387 nin0 nin0) E_1406)
      have F_1414 := (Fld.ext E_1406 (Fld.keep (Fld.keep F_1364 K_1376 nin0) K_1387 nin0))
      have F_1415 := (Exa.ext E_1406 (Exa.keep (Exa.keep X_1363 K_1376) K_1387))
      have F_1416 := (Sta.ext E_1406 F_1395)
      refine Go.callI (a1 := a0) (pc' := 62) (argsL := [(.ref a_1402), (.int (1 : Int32))]) (rest := []) (ct_pfj1 l Z a0 hw n0 h_1403 [98, 111, 111, 108] f_1358 s_1359 b_1360 F_1413 F_1414 F_1415 (by decide) a_1402 b_1404 T_1412 (by omega) cs F_1416 hcs) at_57 (wd hw 191 rfl) (wd hw 192 rfl) (wd hw 193 rfl) (wd hw 194 rfl) (wd hw 195 rfl) (wd hw 196 rfl) (wd hw 197 rfl) (wd hw 55 rfl) (wd hw 26 rfl) (wd hw 198 rfl) F_1415 (by decide) (lenOf pd_22 rfl) rfl 0 rfl rfl (by decide) (by decide) (by decide) (by decide) sl0 rfl (fun v_1423 h_1424 N_1425 hQ_1426 hle_1427 => ?_)
      obtain ⟨s_1417, b_1418, rfl, g_1419, g_1420, K_1421, F_1422⟩ := hQ_1426
      have szh_1424 := nle K_1421.1
      have lts_1417 := nlt F_1422.lt
      have ltb_1418 := nlt F_1422.ltb
      have ges_1417 := nle g_1419
      have geb_1418 := nle g_1420
      refine Go.rs [(.ref s_1417)] rfl ?_
      refine Go.iloadN (pc' := 63) at_62 rfl rfl ?_
      refine Go.iloadN (pc' := 64) at_63 rfl rfl ?_
      refine Go.callS (a1 := a0) (pc' := 67) (argsL := [(.int (3 : Int32)), (.int (1 : Int32))]) (rest := [(.ref s_1417)]) (ct_expFromJson_3_1 l Z a0 hw n0 h_1424) at_64 (wd hw 207 rfl) (wd hw 208 rfl) (wd hw 3 rfl) (wd hw 209 rfl) (by decide) (lenOf pd_28 rfl) rfl 1 rfl rfl (by decide) (by decide) (by decide) (by decide) sl0 rfl (fun v_1434 h_1435 N_1436 hQ_1437 hle_1438 => ?_)
      obtain ⟨s_1428, b_1429, rfl, K_1432, F_1433⟩ := hQ_1437
      have szh_1435 := nle K_1432.1
      have lts_1428 := nlt F_1433.lt
      have ltb_1429 := nlt F_1433.ltb
      refine Go.rs [(.ref s_1428), (.ref s_1417)] rfl ?_
      have F_1439 := (Str.keep F_1422 K_1432 nin0 nin0)
      have F_1440 := (sta_keep (sta_keep F_1416 K_1421 ns0) K_1432 ns0)
      have X_1446 : Exa Z h_1435 s_1417 "java/lang/String" := F_1439.1
      refine Go.callV (a1 := a0) (pc' := 70) (argsL := [(.ref s_1428)]) (rest := []) (ct_eqT l Z a0 hw n0 h_1435 s_1417 s_1428 b_1418 b_1429 [106, 32, 97, 115, 32, 98, 111, 111, 108, 63] F_1439 F_1433 (by decide) cs F_1440 hcs) at_67 (wd hw 180 rfl) (wd hw 181 rfl) (wd hw 183 rfl) (wd hw 183 rfl) (wd hw 182 rfl) (wd hw 28 rfl) (wd hw 184 rfl) X_1446 (by decide) (lenOf pd_29 rfl) rfl 0 rfl rfl (by decide) (by decide) (by decide) (by decide) sl0 rfl (fun v_1441 h_1442 N_1443 hQ_1444 hle_1445 => ?_)
      obtain ⟨rfl, rfl⟩ := hQ_1444
      refine Go.rs [(.int (1 : Int32))] rfl ?_
      refine Go.ifF (pc' := 73) at_70 (show ¬ ((1 : Int32) = (0 : Int32)) by decide) rfl ?_
      refine Go.aload (pc' := 75) at_73 rfl rfl rfl ?_
      refine Go.ldcR (pc' := 77) (a1 := a0) 4 (vs := [.int 118]) (z := 1) at_75 rfl (wd hw 211 rfl) (own_ws hw) (by decide) (by decide) (by decide) (by decide) rfl (own_ew hw) (List.mem_of_getElem? (i := 20) rfl) ⟨by decide, by decide⟩ (by decide) (by decide) (fun a_1447 h_1448 b_1449 k_1450 E_1451 X_1452 F_1453 F_1454 A_1455 ne_1456 => ?_)
      have szh_1448 := nle E_1451.1
      have lta_1447 := nlt X_1452.lt
      have ltb_1449 := nlt A_1455.lt
      have T_1457 : Str Z h_1448 a_1447 b_1449 [118] := ⟨X_1452, F_1453, F_1454, k_1450, A_1455⟩
      refine Go.iloadN (pc' := 78) at_77 rfl rfl ?_
      have F_1463 := (Exa.ext E_1451 (Exa.keep (Exa.keep F_1415 K_1421) K_1432))
      refine Go.callI (a1 := a0) (pc' := 83) (argsL := [(.ref a_1447), (.int (1 : Int32))]) (rest := []) (ct_ptj1 l Z a0 hw n0 h_1448 f_1358 a_1447) at_78 (wd hw 212 rfl) (wd hw 213 rfl) (wd hw 214 rfl) (wd hw 215 rfl) (wd hw 216 rfl) (wd hw 217 rfl) (wd hw 218 rfl) (wd hw 55 rfl) (wd hw 26 rfl) (wd hw 219 rfl) F_1463 (by decide) (lenOf pd_22 rfl) rfl 0 rfl rfl (by decide) (by decide) (by decide) (by decide) sl0 rfl (fun v_1458 h_1459 N_1460 hQ_1461 hle_1462 => ?_)
      obtain ⟨rfl, rfl⟩ := hQ_1461
      refine Go.rs [(.ref a_1447)] rfl ?_
      refine Go.iloadN (pc' := 84) at_83 rfl rfl ?_
      refine Go.iloadN (pc' := 85) at_84 rfl rfl ?_
      refine Go.callS (a1 := a0) (pc' := 88) (argsL := [(.int (3 : Int32)), (.int (1 : Int32))]) (rest := [(.ref a_1447)]) (ct_expToJson_3_1 l Z a0 hw n0 h_1448) at_85 (wd hw 220 rfl) (wd hw 221 rfl) (wd hw 3 rfl) (wd hw 222 rfl) (by decide) (lenOf pd_28 rfl) rfl 1 rfl rfl (by decide) (by decide) (by decide) (by decide) sl0 rfl (fun v_1470 h_1471 N_1472 hQ_1473 hle_1474 => ?_)
      obtain ⟨s_1464, b_1465, rfl, K_1468, F_1469⟩ := hQ_1473
      have szh_1471 := nle K_1468.1
      have lts_1464 := nlt F_1469.lt
      have ltb_1465 := nlt F_1469.ltb
      refine Go.rs [(.ref s_1464), (.ref a_1447)] rfl ?_
      have F_1475 := (Str.keep T_1457 K_1468 nin0 nin0)
      have F_1476 := (sta_keep (Sta.ext E_1451 F_1440) K_1468 ns0)
      have X_1482 : Exa Z h_1471 a_1447 "java/lang/String" := F_1475.1
      refine Go.callV (a1 := a0) (pc' := 91) (argsL := [(.ref s_1464)]) (rest := []) (ct_eqT l Z a0 hw n0 h_1471 a_1447 s_1464 b_1449 b_1465 [118] F_1475 F_1469 (by decide) cs F_1476 hcs) at_88 (wd hw 180 rfl) (wd hw 181 rfl) (wd hw 183 rfl) (wd hw 183 rfl) (wd hw 182 rfl) (wd hw 28 rfl) (wd hw 184 rfl) X_1482 (by decide) (lenOf pd_29 rfl) rfl 0 rfl rfl (by decide) (by decide) (by decide) (by decide) sl0 rfl (fun v_1477 h_1478 N_1479 hQ_1480 hle_1481 => ?_)
      obtain ⟨rfl, rfl⟩ := hQ_1480
      refine Go.rs [(.int (1 : Int32))] rfl ?_
      refine Go.ifF (pc' := 94) at_91 (show ¬ ((1 : Int32) = (0 : Int32)) by decide) rfl ?_
      refine Go.aload (pc' := 96) at_94 rfl rfl rfl ?_
      have F_1483 := (Str.keep (Str.ext (Str.keep (Str.keep F_1413 K_1421 nin0 nin0) K_1432 nin0 nin0) E_1451) K_1468 nin0 nin0)
      have F_1484 := (Fld.keep (Fld.ext E_1451 (Fld.keep (Fld.keep F_1414 K_1421 nin0) K_1432 nin0)) K_1468 nin0)
      have F_1490 := (Exa.keep F_1463 K_1468)
      refine Go.callI (a1 := a0) (pc' := 101) (argsL := []) (rest := []) (ct_pdt l Z a0 hw n0 h_1471 [98, 111, 111, 108] f_1358 s_1359 b_1360 F_1483 F_1484) at_96 (wd hw 223 rfl) (wd hw 224 rfl) (wd hw 225 rfl) (wd hw 226 rfl) (wd hw 227 rfl) (wd hw 228 rfl) (wd hw 229 rfl) (wd hw 55 rfl) (wd hw 26 rfl) (wd hw 230 rfl) F_1490 (by decide) (lenOf pd_20 rfl) rfl 0 rfl rfl (by decide) (by decide) (by decide) (by decide) sl0 rfl (fun v_1485 h_1486 N_1487 hQ_1488 hle_1489 => ?_)
      obtain ⟨rfl, rfl⟩ := hQ_1488
      refine Go.rs [(.ref s_1359)] rfl ?_
      refine Go.iloadN (pc' := 102) at_101 rfl rfl ?_
      refine Go.callS (a1 := a0) (pc' := 105) (argsL := [(.int (3 : Int32))]) (rest := [(.ref s_1359)]) (ct_expDecoded_3 l Z a0 hw n0 h_1471) at_102 (wd hw 231 rfl) (wd hw 232 rfl) (wd hw 3 rfl) (wd hw 233 rfl) (by decide) (lenOf pd_30 rfl) rfl 1 rfl rfl (by decide) (by decide) (by decide) (by decide) sl0 rfl (fun v_1497 h_1498 N_1499 hQ_1500 hle_1501 => ?_)
      obtain ⟨s_1491, b_1492, rfl, K_1495, F_1496⟩ := hQ_1500
      have szh_1498 := nle K_1495.1
      have lts_1491 := nlt F_1496.lt
      have ltb_1492 := nlt F_1496.ltb
      refine Go.rs [(.ref s_1491), (.ref s_1359)] rfl ?_
      have F_1502 := (Str.keep F_1483 K_1495 nin0 nin0)
      have F_1503 := (sta_keep F_1476 K_1495 ns0)
      have X_1509 : Exa Z h_1498 s_1359 "java/lang/String" := F_1502.1
      refine Go.callV (a1 := a0) (pc' := 108) (argsL := [(.ref s_1491)]) (rest := []) (ct_eqT l Z a0 hw n0 h_1498 s_1359 s_1491 b_1360 b_1492 [98, 111, 111, 108] F_1502 F_1496 (by decide) cs F_1503 hcs) at_105 (wd hw 180 rfl) (wd hw 181 rfl) (wd hw 183 rfl) (wd hw 183 rfl) (wd hw 182 rfl) (wd hw 28 rfl) (wd hw 184 rfl) X_1509 (by decide) (lenOf pd_29 rfl) rfl 0 rfl rfl (by decide) (by decide) (by decide) (by decide) sl0 rfl (fun v_1504 h_1505 N_1506 hQ_1507 hle_1508 => ?_)
      obtain ⟨rfl, rfl⟩ := hQ_1507
      refine Go.rs [(.int (1 : Int32))] rfl ?_
      refine Go.ifF (pc' := 111) at_108 (show ¬ ((1 : Int32) = (0 : Int32)) by decide) rfl ?_
      refine Go.aload (pc' := 113) at_111 rfl rfl rfl ?_
      refine Go.ldcR (pc' := 115) (a1 := a0) 4 (vs := [.int 106]) (z := 1) at_113 rfl (wd hw 190 rfl) (own_ws hw) (by decide) (by decide) (by decide) (by decide) rfl (own_ew hw) (List.mem_of_getElem? (i := 19) rfl) ⟨by decide, by decide⟩ (by decide) (by decide) (fun a_1510 h_1511 b_1512 k_1513 E_1514 X_1515 F_1516 F_1517 A_1518 ne_1519 => ?_)
      have szh_1511 := nle E_1514.1
      have lta_1510 := nlt X_1515.lt
      have ltb_1512 := nlt A_1518.lt
      have T_1520 : Str Z h_1511 a_1510 b_1512 [106] := ⟨X_1515, F_1516, F_1517, k_1513, A_1518⟩
      have F_1526 := (Exa.ext E_1514 (Exa.keep F_1490 K_1495))
      refine Go.callI (a1 := a0) (pc' := 120) (argsL := [(.ref a_1510)]) (rest := []) (ct_pfd l Z a0 hw n0 h_1511 f_1358 a_1510) at_115 (wd hw 235 rfl) (wd hw 236 rfl) (wd hw 237 rfl) (wd hw 238 rfl) (wd hw 239 rfl) (wd hw 240 rfl) (wd hw 241 rfl) (wd hw 55 rfl) (wd hw 26 rfl) (wd hw 242 rfl) F_1526 (by decide) (lenOf pd_24 rfl) rfl 0 rfl rfl (by decide) (by decide) (by decide) (by decide) sl0 rfl (fun v_1521 h_1522 N_1523 hQ_1524 hle_1525 => ?_)
      obtain ⟨rfl, rfl⟩ := hQ_1524
      refine Go.rs [(.ref a_1510)] rfl ?_
      refine Go.iloadN (pc' := 121) at_120 rfl rfl ?_
      refine Go.callS (a1 := a0) (pc' := 124) (argsL := [(.int (3 : Int32))]) (rest := [(.ref a_1510)]) (ct_expFromDecoded_3 l Z a0 hw n0 h_1511) at_121 (wd hw 243 rfl) (wd hw 244 rfl) (wd hw 3 rfl) (wd hw 245 rfl) (by decide) (lenOf pd_30 rfl) rfl 1 rfl rfl (by decide) (by decide) (by decide) (by decide) sl0 rfl (fun v_1533 h_1534 N_1535 hQ_1536 hle_1537 => ?_)
      obtain ⟨s_1527, b_1528, rfl, K_1531, F_1532⟩ := hQ_1536
      have szh_1534 := nle K_1531.1
      have lts_1527 := nlt F_1532.lt
      have ltb_1528 := nlt F_1532.ltb
      refine Go.rs [(.ref s_1527), (.ref a_1510)] rfl ?_
      have F_1538 := (Str.keep T_1520 K_1531 nin0 nin0)
      have F_1539 := (sta_keep (Sta.ext E_1514 F_1503) K_1531 ns0)
      have X_1545 : Exa Z h_1534 a_1510 "java/lang/String" := F_1538.1
      refine Go.callV (a1 := a0) (pc' := 127) (argsL := [(.ref s_1527)]) (rest := []) (ct_eqT l Z a0 hw n0 h_1534 a_1510 s_1527 b_1512 b_1528 [106] F_1538 F_1532 (by decide) cs F_1539 hcs) at_124 (wd hw 180 rfl) (wd hw 181 rfl) (wd hw 183 rfl) (wd hw 183 rfl) (wd hw 182 rfl) (wd hw 28 rfl) (wd hw 184 rfl) X_1545 (by decide) (lenOf pd_29 rfl) rfl 0 rfl rfl (by decide) (by decide) (by decide) (by decide) sl0 rfl (fun v_1540 h_1541 N_1542 hQ_1543 hle_1544 => ?_)
      obtain ⟨rfl, rfl⟩ := hQ_1543
      refine Go.rs [(.int (1 : Int32))] rfl ?_
      refine Go.ifF (pc' := 130) at_127 (show ¬ ((1 : Int32) = (0 : Int32)) by decide) rfl ?_
      refine Go.iconst (pc' := 131) 1 at_130 rfl rfl ?_
      refine Go.goto (pc' := 135) at_131 (by decide) (by decide) ?_
      refine Go.retN (t := .boolean) (1 : Int32) rfl (by simp) rfl [] sl0 at_135 (by decide) (by decide) ?_
      exact ⟨rfl, (Keep.trans (Keep.ext (Keep.trans (Keep.trans (Keep.ext (Keep.trans (Keep.trans (Keep.ext (Keep.trans (Keep.trans (Keep.trans (Keep.refl _ []) K_1362 all0) K_1376 all0) K_1387 all0) E_1406) K_1421 all0) K_1432 all0) E_1451) K_1468 all0) K_1495 all0) E_1514) K_1531 all0)⟩
  · refine Go.re (pc' := 8) (L' := #[.val (.int p0), .val (.int p1), .val (.int (4 : Int32)), .unset, .unset, .unset]) (S' := []) rfl (by rw [e7]) rfl ?_
    refine Go.iloadN (pc' := 9) at_8 rfl rfl ?_
    refine Go.iconst (pc' := 10) 1 at_9 rfl rfl ?_
    refine Go.iand (pc' := 11) at_10 rfl ?_
    refine Go.ifc (pc' := 18) (pc'' := 14) at_11 (by decide) (by decide) rfl (fun hc_1546 => ?_) (fun hc_1546 => ?_)
    · have hc_1546 : (p1 &&& (1 : Int32)) = 0 := hc_1546
      refine Go.iconst (pc' := 19) 0 at_18 rfl rfl ?_
      refine Go.istoreN (pc' := 20) #[.val (.int p0), .val (.int p1), .val (.int (4 : Int32)), .val (.int (0 : Int32)), .unset, .unset] at_19 rfl rfl ?_
      refine Go.iloadN (pc' := 21) at_20 rfl rfl ?_
      refine Go.callS (a1 := a0) (pc' := 24) (argsL := [(.int (4 : Int32))]) (rest := []) (ct_sc4 l Z a0 hw n0 h0 o_DATE S_DATE) at_21 (wd hw 1 rfl) (wd hw 2 rfl) (wd hw 3 rfl) (wd hw 4 rfl) (by decide) (lenOf pd_26 rfl) rfl 0 rfl rfl (by decide) (by decide) (by decide) (by decide) sl0 rfl (fun v_1547 h_1548 N_1549 hQ_1550 hle_1551 => ?_)
      obtain ⟨rfl, rfl⟩ := hQ_1550
      refine Go.rs [(.ref o_DATE)] rfl ?_
      refine Go.astore (pc' := 26) #[.val (.int p0), .val (.int p1), .val (.int (4 : Int32)), .val (.int (0 : Int32)), .val (.ref o_DATE), .unset] at_24 rfl rfl rfl ?_
      refine Go.aload (pc' := 28) at_26 rfl rfl rfl ?_
      refine Go.callS (a1 := a0) (pc' := 31) (argsL := [(.ref o_DATE)]) (rest := []) (ct_of4 l Z a0 hw n0 h0 o_DATE X_DATE F_DATE_ordinal b1 cl S_B A_B hi_4 he_4 (by omega)) at_28 (wd hw 8 rfl) (wd hw 9 rfl) (wd hw 10 rfl) (wd hw 11 rfl) (by decide) (lenOf pd_27 rfl) rfl 0 rfl rfl (by decide) (by decide) (by decide) (by decide) sl0 rfl (fun v_1560 h_1561 N_1562 hQ_1563 hle_1564 => ?_)
      obtain ⟨f_1552, rfl, g_1555, K_1556, X_1557, F_1558⟩ := hQ_1563
      have szh_1561 := nle K_1556.1
      have ltf_1552 := nlt X_1557.lt
      have gef_1552 := nle g_1555
      refine Go.rs [(.ref f_1552)] rfl ?_
      refine Go.astore (pc' := 33) #[.val (.int p0), .val (.int p1), .val (.int (4 : Int32)), .val (.int (0 : Int32)), .val (.ref o_DATE), .val (.ref f_1552)] at_31 rfl rfl rfl ?_
      refine Go.aload (pc' := 35) at_33 rfl rfl rfl ?_
      refine Go.iloadN (pc' := 36) at_35 rfl rfl ?_
      have F_1565 := (sta_keep S_cs K_1556 ns0)
      refine Go.callI (a1 := a0) (pc' := 41) (argsL := [(.int (0 : Int32))]) (rest := []) (ct_tty_00 l Z a0 hw n0 h_1561 f_1552 X_1557   (by omega) cs F_1565 hcs) at_36 (wd hw 48 rfl) (wd hw 49 rfl) (wd hw 50 rfl) (wd hw 329 rfl) (wd hw 330 rfl) (wd hw 331 rfl) (wd hw 332 rfl) (wd hw 333 rfl) (wd hw 322 rfl) (wd hw 334 rfl) X_1557 (by decide) (lenOf pd_23 rfl) rfl 0 rfl rfl (by decide) (by decide) (by decide) (by decide) sl0 rfl (fun v_1572 h_1573 N_1574 hQ_1575 hle_1576 => ?_)
      obtain ⟨s_1566, b_1567, rfl, K_1570, F_1571⟩ := hQ_1575
      have szh_1573 := nle K_1570.1
      have lts_1566 := nlt F_1571.lt
      have ltb_1567 := nlt F_1571.ltb
      refine Go.rs [(.ref s_1566)] rfl ?_
      refine Go.iloadN (pc' := 42) at_41 rfl rfl ?_
      refine Go.iloadN (pc' := 43) at_42 rfl rfl ?_
      refine Go.callS (a1 := a0) (pc' := 46) (argsL := [(.int (4 : Int32)), (.int (0 : Int32))]) (rest := [(.ref s_1566)]) (ct_expType_4_0 l Z a0 hw n0 h_1573) at_43 (wd hw 176 rfl) (wd hw 177 rfl) (wd hw 3 rfl) (wd hw 178 rfl) (by decide) (lenOf pd_28 rfl) rfl 1 rfl rfl (by decide) (by decide) (by decide) (by decide) sl0 rfl (fun v_1583 h_1584 N_1585 hQ_1586 hle_1587 => ?_)
      obtain ⟨s_1577, b_1578, rfl, K_1581, F_1582⟩ := hQ_1586
      have szh_1584 := nle K_1581.1
      have lts_1577 := nlt F_1582.lt
      have ltb_1578 := nlt F_1582.ltb
      refine Go.rs [(.ref s_1577), (.ref s_1566)] rfl ?_
      have F_1588 := (Str.keep F_1571 K_1581 nin0 nin0)
      have F_1589 := (sta_keep (sta_keep F_1565 K_1570 ns0) K_1581 ns0)
      have X_1595 : Exa Z h_1584 s_1566 "java/lang/String" := F_1588.1
      refine Go.callV (a1 := a0) (pc' := 49) (argsL := [(.ref s_1577)]) (rest := []) (ct_eqT l Z a0 hw n0 h_1584 s_1566 s_1577 b_1567 b_1578 [68, 97, 116, 101, 84, 105, 109, 101] F_1588 F_1582 (by decide) cs F_1589 hcs) at_46 (wd hw 180 rfl) (wd hw 181 rfl) (wd hw 183 rfl) (wd hw 183 rfl) (wd hw 182 rfl) (wd hw 28 rfl) (wd hw 184 rfl) X_1595 (by decide) (lenOf pd_29 rfl) rfl 0 rfl rfl (by decide) (by decide) (by decide) (by decide) sl0 rfl (fun v_1590 h_1591 N_1592 hQ_1593 hle_1594 => ?_)
      obtain ⟨rfl, rfl⟩ := hQ_1593
      refine Go.rs [(.int (1 : Int32))] rfl ?_
      refine Go.ifF (pc' := 52) at_49 (show ¬ ((1 : Int32) = (0 : Int32)) by decide) rfl ?_
      refine Go.aload (pc' := 54) at_52 rfl rfl rfl ?_
      refine Go.ldcR (pc' := 56) (a1 := a0) 4 (vs := [.int 106]) (z := 1) at_54 rfl (wd hw 190 rfl) (own_ws hw) (by decide) (by decide) (by decide) (by decide) rfl (own_ew hw) (List.mem_of_getElem? (i := 19) rfl) ⟨by decide, by decide⟩ (by decide) (by decide) (fun a_1596 h_1597 b_1598 k_1599 E_1600 X_1601 F_1602 F_1603 A_1604 ne_1605 => ?_)
      have szh_1597 := nle E_1600.1
      have lta_1596 := nlt X_1601.lt
      have ltb_1598 := nlt A_1604.lt
      have T_1606 : Str Z h_1597 a_1596 b_1598 [106] := ⟨X_1601, F_1602, F_1603, k_1599, A_1604⟩
      refine Go.iloadN (pc' := 57) at_56 rfl rfl ?_
      have F_1607 := (Exa.ext E_1600 (Exa.keep (Exa.keep X_1557 K_1570) K_1581))
      have F_1608 := (Sta.ext E_1600 F_1589)
      refine Go.callI (a1 := a0) (pc' := 62) (argsL := [(.ref a_1596), (.int (0 : Int32))]) (rest := []) (ct_tfj_j10 l Z a0 hw n0 h_1597 f_1552 F_1607  a_1596 b_1598 T_1606 (by omega) cs F_1608 hcs) at_57 (wd hw 191 rfl) (wd hw 192 rfl) (wd hw 193 rfl) (wd hw 338 rfl) (wd hw 339 rfl) (wd hw 340 rfl) (wd hw 341 rfl) (wd hw 333 rfl) (wd hw 322 rfl) (wd hw 342 rfl) F_1607 (by decide) (lenOf pd_22 rfl) rfl 0 rfl rfl (by decide) (by decide) (by decide) (by decide) sl0 rfl (fun v_1615 h_1616 N_1617 hQ_1618 hle_1619 => ?_)
      obtain ⟨s_1609, b_1610, rfl, K_1613, F_1614⟩ := hQ_1618
      have szh_1616 := nle K_1613.1
      have lts_1609 := nlt F_1614.lt
      have ltb_1610 := nlt F_1614.ltb
      refine Go.rs [(.ref s_1609)] rfl ?_
      refine Go.iloadN (pc' := 63) at_62 rfl rfl ?_
      refine Go.iloadN (pc' := 64) at_63 rfl rfl ?_
      refine Go.callS (a1 := a0) (pc' := 67) (argsL := [(.int (4 : Int32)), (.int (0 : Int32))]) (rest := [(.ref s_1609)]) (ct_expFromJson_4_0 l Z a0 hw n0 h_1616) at_64 (wd hw 207 rfl) (wd hw 208 rfl) (wd hw 3 rfl) (wd hw 209 rfl) (by decide) (lenOf pd_28 rfl) rfl 1 rfl rfl (by decide) (by decide) (by decide) (by decide) sl0 rfl (fun v_1626 h_1627 N_1628 hQ_1629 hle_1630 => ?_)
      obtain ⟨s_1620, b_1621, rfl, K_1624, F_1625⟩ := hQ_1629
      have szh_1627 := nle K_1624.1
      have lts_1620 := nlt F_1625.lt
      have ltb_1621 := nlt F_1625.ltb
      refine Go.rs [(.ref s_1620), (.ref s_1609)] rfl ?_
      have F_1631 := (Str.keep F_1614 K_1624 nin0 nin0)
      have F_1632 := (sta_keep (sta_keep F_1608 K_1613 ns0) K_1624 ns0)
      have X_1638 : Exa Z h_1627 s_1609 "java/lang/String" := F_1631.1
      refine Go.callV (a1 := a0) (pc' := 70) (argsL := [(.ref s_1620)]) (rest := []) (ct_eqT l Z a0 hw n0 h_1627 s_1609 s_1620 b_1610 b_1621 [68, 97, 116, 101, 84, 105, 109, 101, 46, 112, 97, 114, 115, 101, 40, 106, 32, 97, 115, 32, 83, 116, 114, 105, 110, 103, 41] F_1631 F_1625 (by decide) cs F_1632 hcs) at_67 (wd hw 180 rfl) (wd hw 181 rfl) (wd hw 183 rfl) (wd hw 183 rfl) (wd hw 182 rfl) (wd hw 28 rfl) (wd hw 184 rfl) X_1638 (by decide) (lenOf pd_29 rfl) rfl 0 rfl rfl (by decide) (by decide) (by decide) (by decide) sl0 rfl (fun v_1633 h_1634 N_1635 hQ_1636 hle_1637 => ?_)
      obtain ⟨rfl, rfl⟩ := hQ_1636
      refine Go.rs [(.int (1 : Int32))] rfl ?_
      refine Go.ifF (pc' := 73) at_70 (show ¬ ((1 : Int32) = (0 : Int32)) by decide) rfl ?_
      refine Go.aload (pc' := 75) at_73 rfl rfl rfl ?_
      refine Go.ldcR (pc' := 77) (a1 := a0) 4 (vs := [.int 118]) (z := 1) at_75 rfl (wd hw 211 rfl) (own_ws hw) (by decide) (by decide) (by decide) (by decide) rfl (own_ew hw) (List.mem_of_getElem? (i := 20) rfl) ⟨by decide, by decide⟩ (by decide) (by decide) (fun a_1639 h_1640 b_1641 k_1642 E_1643 X_1644 F_1645 F_1646 A_1647 ne_1648 => ?_)
      have szh_1640 := nle E_1643.1
      have lta_1639 := nlt X_1644.lt
      have ltb_1641 := nlt A_1647.lt
      have T_1649 : Str Z h_1640 a_1639 b_1641 [118] := ⟨X_1644, F_1645, F_1646, k_1642, A_1647⟩
      refine Go.iloadN (pc' := 78) at_77 rfl rfl ?_
      have F_1650 := (Exa.ext E_1643 (Exa.keep (Exa.keep F_1607 K_1613) K_1624))
      have F_1651 := (Fld.ext E_1643 (Fld.keep (Fld.keep (Fld.ext E_1600 (Fld.keep (Fld.keep F_1558 K_1570 nin0) K_1581 nin0)) K_1613 nin0) K_1624 nin0))
      have F_1652 := (Sta.ext E_1643 F_1632)
      refine Go.callI (a1 := a0) (pc' := 83) (argsL := [(.ref a_1639), (.int (0 : Int32))]) (rest := []) (ct_ttj_v10d1 l Z a0 hw n0 h_1640 f_1552 F_1650 F_1651 a_1639 b_1641 T_1649 (by omega) cs F_1652 hcs) at_78 (wd hw 212 rfl) (wd hw 213 rfl) (wd hw 214 rfl) (wd hw 359 rfl) (wd hw 360 rfl) (wd hw 361 rfl) (wd hw 362 rfl) (wd hw 333 rfl) (wd hw 322 rfl) (wd hw 363 rfl) F_1650 (by decide) (lenOf pd_22 rfl) rfl 0 rfl rfl (by decide) (by decide) (by decide) (by decide) sl0 rfl (fun v_1659 h_1660 N_1661 hQ_1662 hle_1663 => ?_)
      obtain ⟨s_1653, b_1654, rfl, K_1657, F_1658⟩ := hQ_1662
      have szh_1660 := nle K_1657.1
      have lts_1653 := nlt F_1658.lt
      have ltb_1654 := nlt F_1658.ltb
      refine Go.rs [(.ref s_1653)] rfl ?_
      refine Go.iloadN (pc' := 84) at_83 rfl rfl ?_
      refine Go.iloadN (pc' := 85) at_84 rfl rfl ?_
      refine Go.callS (a1 := a0) (pc' := 88) (argsL := [(.int (4 : Int32)), (.int (0 : Int32))]) (rest := [(.ref s_1653)]) (ct_expToJson_4_0 l Z a0 hw n0 h_1660) at_85 (wd hw 220 rfl) (wd hw 221 rfl) (wd hw 3 rfl) (wd hw 222 rfl) (by decide) (lenOf pd_28 rfl) rfl 1 rfl rfl (by decide) (by decide) (by decide) (by decide) sl0 rfl (fun v_1670 h_1671 N_1672 hQ_1673 hle_1674 => ?_)
      obtain ⟨s_1664, b_1665, rfl, K_1668, F_1669⟩ := hQ_1673
      have szh_1671 := nle K_1668.1
      have lts_1664 := nlt F_1669.lt
      have ltb_1665 := nlt F_1669.ltb
      refine Go.rs [(.ref s_1664), (.ref s_1653)] rfl ?_
      have F_1675 := (Str.keep F_1658 K_1668 nin0 nin0)
      have F_1676 := (sta_keep (sta_keep F_1652 K_1657 ns0) K_1668 ns0)
      have X_1682 : Exa Z h_1671 s_1653 "java/lang/String" := F_1675.1
      refine Go.callV (a1 := a0) (pc' := 91) (argsL := [(.ref s_1664)]) (rest := []) (ct_eqT l Z a0 hw n0 h_1671 s_1653 s_1664 b_1654 b_1665 [118, 46, 116, 111, 73, 115, 111, 56, 54, 48, 49, 83, 116, 114, 105, 110, 103, 40, 41, 46, 115, 117, 98, 115, 116, 114, 105, 110, 103, 40, 48, 44, 32, 49, 48, 41] F_1675 F_1669 (by decide) cs F_1676 hcs) at_88 (wd hw 180 rfl) (wd hw 181 rfl) (wd hw 183 rfl) (wd hw 183 rfl) (wd hw 182 rfl) (wd hw 28 rfl) (wd hw 184 rfl) X_1682 (by decide) (lenOf pd_29 rfl) rfl 0 rfl rfl (by decide) (by decide) (by decide) (by decide) sl0 rfl (fun v_1677 h_1678 N_1679 hQ_1680 hle_1681 => ?_)
      obtain ⟨rfl, rfl⟩ := hQ_1680
      refine Go.rs [(.int (1 : Int32))] rfl ?_
      refine Go.ifF (pc' := 94) at_91 (show ¬ ((1 : Int32) = (0 : Int32)) by decide) rfl ?_
      refine Go.aload (pc' := 96) at_94 rfl rfl rfl ?_
      have F_1683 := (Exa.keep (Exa.keep F_1650 K_1657) K_1668)
      refine Go.callI (a1 := a0) (pc' := 101) (argsL := []) (rest := []) (ct_tdt_0 l Z a0 hw n0 h_1671 f_1552 F_1683   (by omega) cs F_1676 hcs) at_96 (wd hw 223 rfl) (wd hw 224 rfl) (wd hw 225 rfl) (wd hw 370 rfl) (wd hw 371 rfl) (wd hw 372 rfl) (wd hw 373 rfl) (wd hw 333 rfl) (wd hw 322 rfl) (wd hw 374 rfl) F_1683 (by decide) (lenOf pd_20 rfl) rfl 0 rfl rfl (by decide) (by decide) (by decide) (by decide) sl0 rfl (fun v_1690 h_1691 N_1692 hQ_1693 hle_1694 => ?_)
      obtain ⟨s_1684, b_1685, rfl, K_1688, F_1689⟩ := hQ_1693
      have szh_1691 := nle K_1688.1
      have lts_1684 := nlt F_1689.lt
      have ltb_1685 := nlt F_1689.ltb
      refine Go.rs [(.ref s_1684)] rfl ?_
      refine Go.iloadN (pc' := 102) at_101 rfl rfl ?_
      refine Go.callS (a1 := a0) (pc' := 105) (argsL := [(.int (4 : Int32))]) (rest := [(.ref s_1684)]) (ct_expDecoded_4 l Z a0 hw n0 h_1691) at_102 (wd hw 231 rfl) (wd hw 232 rfl) (wd hw 3 rfl) (wd hw 233 rfl) (by decide) (lenOf pd_30 rfl) rfl 1 rfl rfl (by decide) (by decide) (by decide) (by decide) sl0 rfl (fun v_1701 h_1702 N_1703 hQ_1704 hle_1705 => ?_)
      obtain ⟨s_1695, b_1696, rfl, K_1699, F_1700⟩ := hQ_1704
      have szh_1702 := nle K_1699.1
      have lts_1695 := nlt F_1700.lt
      have ltb_1696 := nlt F_1700.ltb
      refine Go.rs [(.ref s_1695), (.ref s_1684)] rfl ?_
      have F_1706 := (Str.keep F_1689 K_1699 nin0 nin0)
      have F_1707 := (sta_keep (sta_keep F_1676 K_1688 ns0) K_1699 ns0)
      have X_1713 : Exa Z h_1702 s_1684 "java/lang/String" := F_1706.1
      refine Go.callV (a1 := a0) (pc' := 108) (argsL := [(.ref s_1695)]) (rest := []) (ct_eqT l Z a0 hw n0 h_1702 s_1684 s_1695 b_1685 b_1696 [83, 116, 114, 105, 110, 103] F_1706 F_1700 (by decide) cs F_1707 hcs) at_105 (wd hw 180 rfl) (wd hw 181 rfl) (wd hw 183 rfl) (wd hw 183 rfl) (wd hw 182 rfl) (wd hw 28 rfl) (wd hw 184 rfl) X_1713 (by decide) (lenOf pd_29 rfl) rfl 0 rfl rfl (by decide) (by decide) (by decide) (by decide) sl0 rfl (fun v_1708 h_1709 N_1710 hQ_1711 hle_1712 => ?_)
      obtain ⟨rfl, rfl⟩ := hQ_1711
      refine Go.rs [(.int (1 : Int32))] rfl ?_
      refine Go.ifF (pc' := 111) at_108 (show ¬ ((1 : Int32) = (0 : Int32)) by decide) rfl ?_
      refine Go.aload (pc' := 113) at_111 rfl rfl rfl ?_
      refine Go.ldcR (pc' := 115) (a1 := a0) 4 (vs := [.int 106]) (z := 1) at_113 rfl (wd hw 190 rfl) (own_ws hw) (by decide) (by decide) (by decide) (by decide) rfl (own_ew hw) (List.mem_of_getElem? (i := 19) rfl) ⟨by decide, by decide⟩ (by decide) (by decide) (fun a_1714 h_1715 b_1716 k_1717 E_1718 X_1719 F_1720 F_1721 A_1722 ne_1723 => ?_)
      have szh_1715 := nle E_1718.1
      have lta_1714 := nlt X_1719.lt
      have ltb_1716 := nlt A_1722.lt
      have T_1724 : Str Z h_1715 a_1714 b_1716 [106] := ⟨X_1719, F_1720, F_1721, k_1717, A_1722⟩
      have F_1725 := (Exa.ext E_1718 (Exa.keep (Exa.keep F_1683 K_1688) K_1699))
      have F_1726 := (Sta.ext E_1718 F_1707)
      refine Go.callI (a1 := a0) (pc' := 120) (argsL := [(.ref a_1714)]) (rest := []) (ct_tfd_j1 l Z a0 hw n0 h_1715 f_1552 F_1725  a_1714 b_1716 T_1724 (by omega) cs F_1726 hcs) at_115 (wd hw 235 rfl) (wd hw 236 rfl) (wd hw 237 rfl) (wd hw 377 rfl) (wd hw 350 rfl) (wd hw 378 rfl) (wd hw 379 rfl) (wd hw 333 rfl) (wd hw 322 rfl) (wd hw 352 rfl) F_1725 (by decide) (lenOf pd_24 rfl) rfl 0 rfl rfl (by decide) (by decide) (by decide) (by decide) sl0 rfl (fun v_1733 h_1734 N_1735 hQ_1736 hle_1737 => ?_)
      obtain ⟨s_1727, b_1728, rfl, g_1729, g_1730, K_1731, F_1732⟩ := hQ_1736
      have szh_1734 := nle K_1731.1
      have lts_1727 := nlt F_1732.lt
      have ltb_1728 := nlt F_1732.ltb
      have ges_1727 := nle g_1729
      have geb_1728 := nle g_1730
      refine Go.rs [(.ref s_1727)] rfl ?_
      refine Go.iloadN (pc' := 121) at_120 rfl rfl ?_
      refine Go.callS (a1 := a0) (pc' := 124) (argsL := [(.int (4 : Int32))]) (rest := [(.ref s_1727)]) (ct_expFromDecoded_4 l Z a0 hw n0 h_1734) at_121 (wd hw 243 rfl) (wd hw 244 rfl) (wd hw 3 rfl) (wd hw 245 rfl) (by decide) (lenOf pd_30 rfl) rfl 1 rfl rfl (by decide) (by decide) (by decide) (by decide) sl0 rfl (fun v_1744 h_1745 N_1746 hQ_1747 hle_1748 => ?_)
      obtain ⟨s_1738, b_1739, rfl, K_1742, F_1743⟩ := hQ_1747
      have szh_1745 := nle K_1742.1
      have lts_1738 := nlt F_1743.lt
      have ltb_1739 := nlt F_1743.ltb
      refine Go.rs [(.ref s_1738), (.ref s_1727)] rfl ?_
      have F_1749 := (Str.keep F_1732 K_1742 nin0 nin0)
      have F_1750 := (sta_keep (sta_keep F_1726 K_1731 ns0) K_1742 ns0)
      have X_1756 : Exa Z h_1745 s_1727 "java/lang/String" := F_1749.1
      refine Go.callV (a1 := a0) (pc' := 127) (argsL := [(.ref s_1738)]) (rest := []) (ct_eqT l Z a0 hw n0 h_1745 s_1727 s_1738 b_1728 b_1739 [68, 97, 116, 101, 84, 105, 109, 101, 46, 112, 97, 114, 115, 101, 40, 106, 41] F_1749 F_1743 (by decide) cs F_1750 hcs) at_124 (wd hw 180 rfl) (wd hw 181 rfl) (wd hw 183 rfl) (wd hw 183 rfl) (wd hw 182 rfl) (wd hw 28 rfl) (wd hw 184 rfl) X_1756 (by decide) (lenOf pd_29 rfl) rfl 0 rfl rfl (by decide) (by decide) (by decide) (by decide) sl0 rfl (fun v_1751 h_1752 N_1753 hQ_1754 hle_1755 => ?_)
      obtain ⟨rfl, rfl⟩ := hQ_1754
      refine Go.rs [(.int (1 : Int32))] rfl ?_
      refine Go.ifF (pc' := 130) at_127 (show ¬ ((1 : Int32) = (0 : Int32)) by decide) rfl ?_
      refine Go.iconst (pc' := 131) 1 at_130 rfl rfl ?_
      refine Go.goto (pc' := 135) at_131 (by decide) (by decide) ?_
      refine Go.retN (t := .boolean) (1 : Int32) rfl (by simp) rfl [] sl0 at_135 (by decide) (by decide) ?_
      exact ⟨rfl, (Keep.trans (Keep.trans (Keep.ext (Keep.trans (Keep.trans (Keep.trans (Keep.trans (Keep.ext (Keep.trans (Keep.trans (Keep.ext (Keep.trans (Keep.trans (Keep.trans (Keep.refl _ []) K_1556 all0) K_1570 all0) K_1581 all0) E_1600) K_1613 all0) K_1624 all0) E_1643) K_1657 all0) K_1668 all0) K_1688 all0) K_1699 all0) E_1718) K_1731 all0) K_1742 all0)⟩
    · have hc_1546 : ¬ ((p1 &&& (1 : Int32)) = 0) := hc_1546
      refine Go.iconst (pc' := 15) 1 at_14 rfl rfl ?_
      refine Go.goto (pc' := 19) at_15 (by decide) (by decide) ?_
      refine Go.istoreN (pc' := 20) #[.val (.int p0), .val (.int p1), .val (.int (4 : Int32)), .val (.int (1 : Int32)), .unset, .unset] at_19 rfl rfl ?_
      refine Go.iloadN (pc' := 21) at_20 rfl rfl ?_
      refine Go.callS (a1 := a0) (pc' := 24) (argsL := [(.int (4 : Int32))]) (rest := []) (ct_sc4 l Z a0 hw n0 h0 o_DATE S_DATE) at_21 (wd hw 1 rfl) (wd hw 2 rfl) (wd hw 3 rfl) (wd hw 4 rfl) (by decide) (lenOf pd_26 rfl) rfl 0 rfl rfl (by decide) (by decide) (by decide) (by decide) sl0 rfl (fun v_1757 h_1758 N_1759 hQ_1760 hle_1761 => ?_)
      obtain ⟨rfl, rfl⟩ := hQ_1760
      refine Go.rs [(.ref o_DATE)] rfl ?_
      refine Go.astore (pc' := 26) #[.val (.int p0), .val (.int p1), .val (.int (4 : Int32)), .val (.int (1 : Int32)), .val (.ref o_DATE), .unset] at_24 rfl rfl rfl ?_
      refine Go.aload (pc' := 28) at_26 rfl rfl rfl ?_
      refine Go.callS (a1 := a0) (pc' := 31) (argsL := [(.ref o_DATE)]) (rest := []) (ct_of4 l Z a0 hw n0 h0 o_DATE X_DATE F_DATE_ordinal b1 cl S_B A_B hi_4 he_4 (by omega)) at_28 (wd hw 8 rfl) (wd hw 9 rfl) (wd hw 10 rfl) (wd hw 11 rfl) (by decide) (lenOf pd_27 rfl) rfl 0 rfl rfl (by decide) (by decide) (by decide) (by decide) sl0 rfl (fun v_1770 h_1771 N_1772 hQ_1773 hle_1774 => ?_)
      obtain ⟨f_1762, rfl, g_1765, K_1766, X_1767, F_1768⟩ := hQ_1773
      have szh_1771 := nle K_1766.1
      have ltf_1762 := nlt X_1767.lt
      have gef_1762 := nle g_1765
      refine Go.rs [(.ref f_1762)] rfl ?_
      refine Go.astore (pc' := 33) #[.val (.int p0), .val (.int p1), .val (.int (4 : Int32)), .val (.int (1 : Int32)), .val (.ref o_DATE), .val (.ref f_1762)] at_31 rfl rfl rfl ?_
      refine Go.aload (pc' := 35) at_33 rfl rfl rfl ?_
      refine Go.iloadN (pc' := 36) at_35 rfl rfl ?_
      have F_1775 := (sta_keep S_cs K_1766 ns0)
      refine Go.callI (a1 := a0) (pc' := 41) (argsL := [(.int (1 : Int32))]) (rest := []) (ct_tty_01 l Z a0 hw n0 h_1771 f_1762 X_1767   (by omega) cs F_1775 hcs) at_36 (wd hw 48 rfl) (wd hw 49 rfl) (wd hw 50 rfl) (wd hw 329 rfl) (wd hw 330 rfl) (wd hw 331 rfl) (wd hw 332 rfl) (wd hw 333 rfl) (wd hw 322 rfl) (wd hw 334 rfl) X_1767 (by decide) (lenOf pd_23 rfl) rfl 0 rfl rfl (by decide) (by decide) (by decide) (by decide) sl0 rfl (fun v_1782 h_1783 N_1784 hQ_1785 hle_1786 => ?_)
      obtain ⟨s_1776, b_1777, rfl, K_1780, F_1781⟩ := hQ_1785
      have szh_1783 := nle K_1780.1
      have lts_1776 := nlt F_1781.lt
      have ltb_1777 := nlt F_1781.ltb
      refine Go.rs [(.ref s_1776)] rfl ?_
      refine Go.iloadN (pc' := 42) at_41 rfl rfl ?_
      refine Go.iloadN (pc' := 43) at_42 rfl rfl ?_
      refine Go.callS (a1 := a0) (pc' := 46) (argsL := [(.int (4 : Int32)), (.int (1 : Int32))]) (rest := [(.ref s_1776)]) (ct_expType_4_1 l Z a0 hw n0 h_1783) at_43 (wd hw 176 rfl) (wd hw 177 rfl) (wd hw 3 rfl) (wd hw 178 rfl) (by decide) (lenOf pd_28 rfl) rfl 1 rfl rfl (by decide) (by decide) (by decide) (by decide) sl0 rfl (fun v_1793 h_1794 N_1795 hQ_1796 hle_1797 => ?_)
      obtain ⟨s_1787, b_1788, rfl, K_1791, F_1792⟩ := hQ_1796
      have szh_1794 := nle K_1791.1
      have lts_1787 := nlt F_1792.lt
      have ltb_1788 := nlt F_1792.ltb
      refine Go.rs [(.ref s_1787), (.ref s_1776)] rfl ?_
      have F_1798 := (Str.keep F_1781 K_1791 nin0 nin0)
      have F_1799 := (sta_keep (sta_keep F_1775 K_1780 ns0) K_1791 ns0)
      have X_1805 : Exa Z h_1794 s_1776 "java/lang/String" := F_1798.1
      refine Go.callV (a1 := a0) (pc' := 49) (argsL := [(.ref s_1787)]) (rest := []) (ct_eqT l Z a0 hw n0 h_1794 s_1776 s_1787 b_1777 b_1788 [68, 97, 116, 101, 84, 105, 109, 101, 63] F_1798 F_1792 (by decide) cs F_1799 hcs) at_46 (wd hw 180 rfl) (wd hw 181 rfl) (wd hw 183 rfl) (wd hw 183 rfl) (wd hw 182 rfl) (wd hw 28 rfl) (wd hw 184 rfl) X_1805 (by decide) (lenOf pd_29 rfl) rfl 0 rfl rfl (by decide) (by decide) (by decide) (by decide) sl0 rfl (fun v_1800 h_1801 N_1802 hQ_1803 hle_1804 => ?_)
      obtain ⟨rfl, rfl⟩ := hQ_1803
      refine Go.rs [(.int (1 : Int32))] rfl ?_
      refine Go.ifF (pc' := 52) at_49 (show ¬ ((1 : Int32) = (0 : Int32)) by decide) rfl ?_
      refine Go.aload (pc' := 54) at_52 rfl rfl rfl ?_
      refine Go.ldcR (pc' := 56) (a1 := a0) 4 (vs := [.int 106]) (z := 1) at_54 rfl (wd hw 190 rfl) (own_ws hw) (by decide) (by decide) (by decide) (by decide) rfl (own_ew hw) (List.mem_of_getElem? (i := 19) rfl) ⟨by decide, by decide⟩ (by decide) (by decide) (fun a_1806 h_1807 b_1808 k_1809 E_1810 X_1811 F_1812 F_1813 A_1814 ne_1815 => ?_)
      have szh_1807 := nle E_1810.1
      have lta_1806 := nlt X_1811.lt
      have ltb_1808 := nlt A_1814.lt
      have T_1816 : Str Z h_1807 a_1806 b_1808 [106] := ⟨X_1811, F_1812, F_1813, k_1809, A_1814⟩
      refine Go.iloadN (pc' := 57) at_56 rfl rfl ?_
      have F_1817 := (Exa.ext E_1810 (Exa.keep (Exa.keep X_1767 K_1780) K_1791))
      have F_1818 := (Sta.ext E_1810 F_1799)
      refine Go.callI (a1 := a0) (pc' := 62) (argsL := [(.ref a_1806), (.int (1 : Int32))]) (rest := []) (ct_tfj_j11 l Z a0 hw n0 h_1807 f_1762 F_1817  a_1806 b_1808 T_1816 (by omega) cs F_1818 hcs) at_57 (wd hw 191 rfl) (wd hw 192 rfl) (wd hw 193 rfl) (wd hw 338 rfl) (wd hw 339 rfl) (wd hw 340 rfl) (wd hw 341 rfl) (wd hw 333 rfl) (wd hw 322 rfl) (wd hw 342 rfl) F_1817 (by decide) (lenOf pd_22 rfl) rfl 0 rfl rfl (by decide) (by decide) (by decide) (by decide) sl0 rfl (fun v_1825 h_1826 N_1827 hQ_1828 hle_1829 => ?_)
      obtain ⟨s_1819, b_1820, rfl, K_1823, F_1824⟩ := hQ_1828
      have szh_1826 := nle K_1823.1
      have lts_1819 := nlt F_1824.lt
      have ltb_1820 := nlt F_1824.ltb
      refine Go.rs [(.ref s_1819)] rfl ?_
      refine Go.iloadN (pc' := 63) at_62 rfl rfl ?_
      refine Go.iloadN (pc' := 64) at_63 rfl rfl ?_
      refine Go.callS (a1 := a0) (pc' := 67) (argsL := [(.int (4 : Int32)), (.int (1 : Int32))]) (rest := [(.ref s_1819)]) (ct_expFromJson_4_1 l Z a0 hw n0 h_1826) at_64 (wd hw 207 rfl) (wd hw 208 rfl) (wd hw 3 rfl) (wd hw 209 rfl) (by decide) (lenOf pd_28 rfl) rfl 1 rfl rfl (by decide) (by decide) (by decide) (by decide) sl0 rfl (fun v_1836 h_1837 N_1838 hQ_1839 hle_1840 => ?_)
      obtain ⟨s_1830, b_1831, rfl, K_1834, F_1835⟩ := hQ_1839
      have szh_1837 := nle K_1834.1
      have lts_1830 := nlt F_1835.lt
      have ltb_1831 := nlt F_1835.ltb
      refine Go.rs [(.ref s_1830), (.ref s_1819)] rfl ?_
      have F_1841 := (Str.keep F_1824 K_1834 nin0 nin0)
      have F_1842 := (sta_keep (sta_keep F_1818 K_1823 ns0) K_1834 ns0)
      have X_1848 : Exa Z h_1837 s_1819 "java/lang/String" := F_1841.1
      refine Go.callV (a1 := a0) (pc' := 70) (argsL := [(.ref s_1830)]) (rest := []) (ct_eqT l Z a0 hw n0 h_1837 s_1819 s_1830 b_1820 b_1831 [106, 32, 61, 61, 32, 110, 117, 108, 108, 32, 63, 32, 110, 117, 108, 108, 32, 58, 32, 68, 97, 116, 101, 84, 105, 109, 101, 46, 112, 97, 114, 115, 101, 40, 106, 32, 97, 115, 32, 83, 116, 114, 105, 110, 103, 41] F_1841 F_1835 (by decide) cs F_1842 hcs) at_67 (wd hw 180 rfl) (wd hw 181 rfl) (wd hw 183 rfl) (wd hw 183 rfl) (wd hw 182 rfl) (wd hw 28 rfl) (wd hw 184 rfl) X_1848 (by decide) (lenOf pd_29 rfl) rfl 0 rfl rfl (by decide) (by decide) (by decide) (by decide) sl0 rfl (fun v_1843 h_1844 N_1845 hQ_1846 hle_1847 => ?_)
      obtain ⟨rfl, rfl⟩ := hQ_1846
      refine Go.rs [(.int (1 : Int32))] rfl ?_
      refine Go.ifF (pc' := 73) at_70 (show ¬ ((1 : Int32) = (0 : Int32)) by decide) rfl ?_
      refine Go.aload (pc' := 75) at_73 rfl rfl rfl ?_
      refine Go.ldcR (pc' := 77) (a1 := a0) 4 (vs := [.int 118]) (z := 1) at_75 rfl (wd hw 211 rfl) (own_ws hw) (by decide) (by decide) (by decide) (by decide) rfl (own_ew hw) (List.mem_of_getElem? (i := 20) rfl) ⟨by decide, by decide⟩ (by decide) (by decide) (fun a_1849 h_1850 b_1851 k_1852 E_1853 X_1854 F_1855 F_1856 A_1857 ne_1858 => ?_)
      have szh_1850 := nle E_1853.1
      have lta_1849 := nlt X_1854.lt
      have ltb_1851 := nlt A_1857.lt
      have T_1859 : Str Z h_1850 a_1849 b_1851 [118] := ⟨X_1854, F_1855, F_1856, k_1852, A_1857⟩
      refine Go.iloadN (pc' := 78) at_77 rfl rfl ?_
      have F_1860 := (Exa.ext E_1853 (Exa.keep (Exa.keep F_1817 K_1823) K_1834))
      have F_1861 := (Fld.ext E_1853 (Fld.keep (Fld.keep (Fld.ext E_1810 (Fld.keep (Fld.keep F_1768 K_1780 nin0) K_1791 nin0)) K_1823 nin0) K_1834 nin0))
      have F_1862 := (Sta.ext E_1853 F_1842)
      refine Go.callI (a1 := a0) (pc' := 83) (argsL := [(.ref a_1849), (.int (1 : Int32))]) (rest := []) (ct_ttj_v11d1 l Z a0 hw n0 h_1850 f_1762 F_1860 F_1861 a_1849 b_1851 T_1859 (by omega) cs F_1862 hcs) at_78 (wd hw 212 rfl) (wd hw 213 rfl) (wd hw 214 rfl) (wd hw 359 rfl) (wd hw 360 rfl) (wd hw 361 rfl) (wd hw 362 rfl) (wd hw 333 rfl) (wd hw 322 rfl) (wd hw 363 rfl) F_1860 (by decide) (lenOf pd_22 rfl) rfl 0 rfl rfl (by decide) (by decide) (by decide) (by decide) sl0 rfl (fun v_1869 h_1870 N_1871 hQ_1872 hle_1873 => ?_)
      obtain ⟨s_1863, b_1864, rfl, K_1867, F_1868⟩ := hQ_1872
      have szh_1870 := nle K_1867.1
      have lts_1863 := nlt F_1868.lt
      have ltb_1864 := nlt F_1868.ltb
      refine Go.rs [(.ref s_1863)] rfl ?_
      refine Go.iloadN (pc' := 84) at_83 rfl rfl ?_
      refine Go.iloadN (pc' := 85) at_84 rfl rfl ?_
      refine Go.callS (a1 := a0) (pc' := 88) (argsL := [(.int (4 : Int32)), (.int (1 : Int32))]) (rest := [(.ref s_1863)]) (ct_expToJson_4_1 l Z a0 hw n0 h_1870) at_85 (wd hw 220 rfl) (wd hw 221 rfl) (wd hw 3 rfl) (wd hw 222 rfl) (by decide) (lenOf pd_28 rfl) rfl 1 rfl rfl (by decide) (by decide) (by decide) (by decide) sl0 rfl (fun v_1880 h_1881 N_1882 hQ_1883 hle_1884 => ?_)
      obtain ⟨s_1874, b_1875, rfl, K_1878, F_1879⟩ := hQ_1883
      have szh_1881 := nle K_1878.1
      have lts_1874 := nlt F_1879.lt
      have ltb_1875 := nlt F_1879.ltb
      refine Go.rs [(.ref s_1874), (.ref s_1863)] rfl ?_
      have F_1885 := (Str.keep F_1868 K_1878 nin0 nin0)
      have F_1886 := (sta_keep (sta_keep F_1862 K_1867 ns0) K_1878 ns0)
      have X_1892 : Exa Z h_1881 s_1863 "java/lang/String" := F_1885.1
      refine Go.callV (a1 := a0) (pc' := 91) (argsL := [(.ref s_1874)]) (rest := []) (ct_eqT l Z a0 hw n0 h_1881 s_1863 s_1874 b_1864 b_1875 [118, 63, 46, 116, 111, 73, 115, 111, 56, 54, 48, 49, 83, 116, 114, 105, 110, 103, 40, 41, 46, 115, 117, 98, 115, 116, 114, 105, 110, 103, 40, 48, 44, 32, 49, 48, 41] F_1885 F_1879 (by decide) cs F_1886 hcs) at_88 (wd hw 180 rfl) (wd hw 181 rfl) (wd hw 183 rfl) (wd hw 183 rfl) (wd hw 182 rfl) (wd hw 28 rfl) (wd hw 184 rfl) X_1892 (by decide) (lenOf pd_29 rfl) rfl 0 rfl rfl (by decide) (by decide) (by decide) (by decide) sl0 rfl (fun v_1887 h_1888 N_1889 hQ_1890 hle_1891 => ?_)
      obtain ⟨rfl, rfl⟩ := hQ_1890
      refine Go.rs [(.int (1 : Int32))] rfl ?_
      refine Go.ifF (pc' := 94) at_91 (show ¬ ((1 : Int32) = (0 : Int32)) by decide) rfl ?_
      refine Go.aload (pc' := 96) at_94 rfl rfl rfl ?_
      have F_1893 := (Exa.keep (Exa.keep F_1860 K_1867) K_1878)
      refine Go.callI (a1 := a0) (pc' := 101) (argsL := []) (rest := []) (ct_tdt_0 l Z a0 hw n0 h_1881 f_1762 F_1893   (by omega) cs F_1886 hcs) at_96 (wd hw 223 rfl) (wd hw 224 rfl) (wd hw 225 rfl) (wd hw 370 rfl) (wd hw 371 rfl) (wd hw 372 rfl) (wd hw 373 rfl) (wd hw 333 rfl) (wd hw 322 rfl) (wd hw 374 rfl) F_1893 (by decide) (lenOf pd_20 rfl) rfl 0 rfl rfl (by decide) (by decide) (by decide) (by decide) sl0 rfl (fun v_1900 h_1901 N_1902 hQ_1903 hle_1904 => ?_)
      obtain ⟨s_1894, b_1895, rfl, K_1898, F_1899⟩ := hQ_1903
      have szh_1901 := nle K_1898.1
      have lts_1894 := nlt F_1899.lt
      have ltb_1895 := nlt F_1899.ltb
      refine Go.rs [(.ref s_1894)] rfl ?_
      refine Go.iloadN (pc' := 102) at_101 rfl rfl ?_
      refine Go.callS (a1 := a0) (pc' := 105) (argsL := [(.int (4 : Int32))]) (rest := [(.ref s_1894)]) (ct_expDecoded_4 l Z a0 hw n0 h_1901) at_102 (wd hw 231 rfl) (wd hw 232 rfl) (wd hw 3 rfl) (wd hw 233 rfl) (by decide) (lenOf pd_30 rfl) rfl 1 rfl rfl (by decide) (by decide) (by decide) (by decide) sl0 rfl (fun v_1911 h_1912 N_1913 hQ_1914 hle_1915 => ?_)
      obtain ⟨s_1905, b_1906, rfl, K_1909, F_1910⟩ := hQ_1914
      have szh_1912 := nle K_1909.1
      have lts_1905 := nlt F_1910.lt
      have ltb_1906 := nlt F_1910.ltb
      refine Go.rs [(.ref s_1905), (.ref s_1894)] rfl ?_
      have F_1916 := (Str.keep F_1899 K_1909 nin0 nin0)
      have F_1917 := (sta_keep (sta_keep F_1886 K_1898 ns0) K_1909 ns0)
      have X_1923 : Exa Z h_1912 s_1894 "java/lang/String" := F_1916.1
      refine Go.callV (a1 := a0) (pc' := 108) (argsL := [(.ref s_1905)]) (rest := []) (ct_eqT l Z a0 hw n0 h_1912 s_1894 s_1905 b_1895 b_1906 [83, 116, 114, 105, 110, 103] F_1916 F_1910 (by decide) cs F_1917 hcs) at_105 (wd hw 180 rfl) (wd hw 181 rfl) (wd hw 183 rfl) (wd hw 183 rfl) (wd hw 182 rfl) (wd hw 28 rfl) (wd hw 184 rfl) X_1923 (by decide) (lenOf pd_29 rfl) rfl 0 rfl rfl (by decide) (by decide) (by decide) (by decide) sl0 rfl (fun v_1918 h_1919 N_1920 hQ_1921 hle_1922 => ?_)
      obtain ⟨rfl, rfl⟩ := hQ_1921
      refine Go.rs [(.int (1 : Int32))] rfl ?_
      refine Go.ifF (pc' := 111) at_108 (show ¬ ((1 : Int32) = (0 : Int32)) by decide) rfl ?_
      refine Go.aload (pc' := 113) at_111 rfl rfl rfl ?_
      refine Go.ldcR (pc' := 115) (a1 := a0) 4 (vs := [.int 106]) (z := 1) at_113 rfl (wd hw 190 rfl) (own_ws hw) (by decide) (by decide) (by decide) (by decide) rfl (own_ew hw) (List.mem_of_getElem? (i := 19) rfl) ⟨by decide, by decide⟩ (by decide) (by decide) (fun a_1924 h_1925 b_1926 k_1927 E_1928 X_1929 F_1930 F_1931 A_1932 ne_1933 => ?_)
      have szh_1925 := nle E_1928.1
      have lta_1924 := nlt X_1929.lt
      have ltb_1926 := nlt A_1932.lt
      have T_1934 : Str Z h_1925 a_1924 b_1926 [106] := ⟨X_1929, F_1930, F_1931, k_1927, A_1932⟩
      have F_1935 := (Exa.ext E_1928 (Exa.keep (Exa.keep F_1893 K_1898) K_1909))
      have F_1936 := (Sta.ext E_1928 F_1917)
      refine Go.callI (a1 := a0) (pc' := 120) (argsL := [(.ref a_1924)]) (rest := []) (ct_tfd_j1 l Z a0 hw n0 h_1925 f_1762 F_1935  a_1924 b_1926 T_1934 (by omega) cs F_1936 hcs) at_115 (wd hw 235 rfl) (wd hw 236 rfl) (wd hw 237 rfl) (wd hw 377 rfl) (wd hw 350 rfl) (wd hw 378 rfl) (wd hw 379 rfl) (wd hw 333 rfl) (wd hw 322 rfl) (wd hw 352 rfl) F_1935 (by decide) (lenOf pd_24 rfl) rfl 0 rfl rfl (by decide) (by decide) (by decide) (by decide) sl0 rfl (fun v_1943 h_1944 N_1945 hQ_1946 hle_1947 => ?_)
      obtain ⟨s_1937, b_1938, rfl, g_1939, g_1940, K_1941, F_1942⟩ := hQ_1946
      have szh_1944 := nle K_1941.1
      have lts_1937 := nlt F_1942.lt
      have ltb_1938 := nlt F_1942.ltb
      have ges_1937 := nle g_1939
      have geb_1938 := nle g_1940
      refine Go.rs [(.ref s_1937)] rfl ?_
      refine Go.iloadN (pc' := 121) at_120 rfl rfl ?_
      refine Go.callS (a1 := a0) (pc' := 124) (argsL := [(.int (4 : Int32))]) (rest := [(.ref s_1937)]) (ct_expFromDecoded_4 l Z a0 hw n0 h_1944) at_121 (wd hw 243 rfl) (wd hw 244 rfl) (wd hw 3 rfl) (wd hw 245 rfl) (by decide) (lenOf pd_30 rfl) rfl 1 rfl rfl (by decide) (by decide) (by decide) (by decide) sl0 rfl (fun v_1954 h_1955 N_1956 hQ_1957 hle_1958 => ?_)
      obtain ⟨s_1948, b_1949, rfl, K_1952, F_1953⟩ := hQ_1957
      have szh_1955 := nle K_1952.1
      have lts_1948 := nlt F_1953.lt
      have ltb_1949 := nlt F_1953.ltb
      refine Go.rs [(.ref s_1948), (.ref s_1937)] rfl ?_
      have F_1959 := (Str.keep F_1942 K_1952 nin0 nin0)
      have F_1960 := (sta_keep (sta_keep F_1936 K_1941 ns0) K_1952 ns0)
      have X_1966 : Exa Z h_1955 s_1937 "java/lang/String" := F_1959.1
      refine Go.callV (a1 := a0) (pc' := 127) (argsL := [(.ref s_1948)]) (rest := []) (ct_eqT l Z a0 hw n0 h_1955 s_1937 s_1948 b_1938 b_1949 [68, 97, 116, 101, 84, 105, 109, 101, 46, 112, 97, 114, 115, 101, 40, 106, 41] F_1959 F_1953 (by decide) cs F_1960 hcs) at_124 (wd hw 180 rfl) (wd hw 181 rfl) (wd hw 183 rfl) (wd hw 183 rfl) (wd hw 182 rfl) (wd hw 28 rfl) (wd hw 184 rfl) X_1966 (by decide) (lenOf pd_29 rfl) rfl 0 rfl rfl (by decide) (by decide) (by decide) (by decide) sl0 rfl (fun v_1961 h_1962 N_1963 hQ_1964 hle_1965 => ?_)
      obtain ⟨rfl, rfl⟩ := hQ_1964
      refine Go.rs [(.int (1 : Int32))] rfl ?_
      refine Go.ifF (pc' := 130) at_127 (show ¬ ((1 : Int32) = (0 : Int32)) by decide) rfl ?_
      refine Go.iconst (pc' := 131) 1 at_130 rfl rfl ?_
      refine Go.goto (pc' := 135) at_131 (by decide) (by decide) ?_
      refine Go.retN (t := .boolean) (1 : Int32) rfl (by simp) rfl [] sl0 at_135 (by decide) (by decide) ?_
      exact ⟨rfl, (Keep.trans (Keep.trans (Keep.ext (Keep.trans (Keep.trans (Keep.trans (Keep.trans (Keep.ext (Keep.trans (Keep.trans (Keep.ext (Keep.trans (Keep.trans (Keep.trans (Keep.refl _ []) K_1766 all0) K_1780 all0) K_1791 all0) E_1810) K_1823 all0) K_1834 all0) E_1853) K_1867 all0) K_1878 all0) K_1898 all0) K_1909 all0) E_1928) K_1941 all0) K_1952 all0)⟩
  · refine Go.re (pc' := 8) (L' := #[.val (.int p0), .val (.int p1), .val (.int (5 : Int32)), .unset, .unset, .unset]) (S' := []) rfl (by rw [e7]) rfl ?_
    refine Go.iloadN (pc' := 9) at_8 rfl rfl ?_
    refine Go.iconst (pc' := 10) 1 at_9 rfl rfl ?_
    refine Go.iand (pc' := 11) at_10 rfl ?_
    refine Go.ifc (pc' := 18) (pc'' := 14) at_11 (by decide) (by decide) rfl (fun hc_1967 => ?_) (fun hc_1967 => ?_)
    · have hc_1967 : (p1 &&& (1 : Int32)) = 0 := hc_1967
      refine Go.iconst (pc' := 19) 0 at_18 rfl rfl ?_
      refine Go.istoreN (pc' := 20) #[.val (.int p0), .val (.int p1), .val (.int (5 : Int32)), .val (.int (0 : Int32)), .unset, .unset] at_19 rfl rfl ?_
      refine Go.iloadN (pc' := 21) at_20 rfl rfl ?_
      refine Go.callS (a1 := a0) (pc' := 24) (argsL := [(.int (5 : Int32))]) (rest := []) (ct_sc5 l Z a0 hw n0 h0 o_DATE_TIME S_DATE_TIME) at_21 (wd hw 1 rfl) (wd hw 2 rfl) (wd hw 3 rfl) (wd hw 4 rfl) (by decide) (lenOf pd_26 rfl) rfl 0 rfl rfl (by decide) (by decide) (by decide) (by decide) sl0 rfl (fun v_1968 h_1969 N_1970 hQ_1971 hle_1972 => ?_)
      obtain ⟨rfl, rfl⟩ := hQ_1971
      refine Go.rs [(.ref o_DATE_TIME)] rfl ?_
      refine Go.astore (pc' := 26) #[.val (.int p0), .val (.int p1), .val (.int (5 : Int32)), .val (.int (0 : Int32)), .val (.ref o_DATE_TIME), .unset] at_24 rfl rfl rfl ?_
      refine Go.aload (pc' := 28) at_26 rfl rfl rfl ?_
      refine Go.callS (a1 := a0) (pc' := 31) (argsL := [(.ref o_DATE_TIME)]) (rest := []) (ct_of5 l Z a0 hw n0 h0 o_DATE_TIME X_DATE_TIME F_DATE_TIME_ordinal b1 cl S_B A_B hi_5 he_5 (by omega)) at_28 (wd hw 8 rfl) (wd hw 9 rfl) (wd hw 10 rfl) (wd hw 11 rfl) (by decide) (lenOf pd_27 rfl) rfl 0 rfl rfl (by decide) (by decide) (by decide) (by decide) sl0 rfl (fun v_1981 h_1982 N_1983 hQ_1984 hle_1985 => ?_)
      obtain ⟨f_1973, rfl, g_1976, K_1977, X_1978, F_1979⟩ := hQ_1984
      have szh_1982 := nle K_1977.1
      have ltf_1973 := nlt X_1978.lt
      have gef_1973 := nle g_1976
      refine Go.rs [(.ref f_1973)] rfl ?_
      refine Go.astore (pc' := 33) #[.val (.int p0), .val (.int p1), .val (.int (5 : Int32)), .val (.int (0 : Int32)), .val (.ref o_DATE_TIME), .val (.ref f_1973)] at_31 rfl rfl rfl ?_
      refine Go.aload (pc' := 35) at_33 rfl rfl rfl ?_
      refine Go.iloadN (pc' := 36) at_35 rfl rfl ?_
      have F_1986 := (sta_keep S_cs K_1977 ns0)
      refine Go.callI (a1 := a0) (pc' := 41) (argsL := [(.int (0 : Int32))]) (rest := []) (ct_tty_00 l Z a0 hw n0 h_1982 f_1973 X_1978   (by omega) cs F_1986 hcs) at_36 (wd hw 48 rfl) (wd hw 49 rfl) (wd hw 50 rfl) (wd hw 329 rfl) (wd hw 330 rfl) (wd hw 331 rfl) (wd hw 332 rfl) (wd hw 333 rfl) (wd hw 322 rfl) (wd hw 334 rfl) X_1978 (by decide) (lenOf pd_23 rfl) rfl 0 rfl rfl (by decide) (by decide) (by decide) (by decide) sl0 rfl (fun v_1993 h_1994 N_1995 hQ_1996 hle_1997 => ?_)
      obtain ⟨s_1987, b_1988, rfl, K_1991, F_1992⟩ := hQ_1996
      have szh_1994 := nle K_1991.1
      have lts_1987 := nlt F_1992.lt
      have ltb_1988 := nlt F_1992.ltb
      refine Go.rs [(.ref s_1987)] rfl ?_
      refine Go.iloadN (pc' := 42) at_41 rfl rfl ?_
      refine Go.iloadN (pc' := 43) at_42 rfl rfl ?_
      refine Go.callS (a1 := a0) (pc' := 46) (argsL := [(.int (5 : Int32)), (.int (0 : Int32))]) (rest := [(.ref s_1987)]) (ct_expType_5_0 l Z a0 hw n0 h_1994) at_43 (wd hw 176 rfl) (wd hw 177 rfl) (wd hw 3 rfl) (wd hw 178 rfl) (by decide) (lenOf pd_28 rfl) rfl 1 rfl rfl (by decide) (by decide) (by decide) (by decide) sl0 rfl (fun v_2004 h_2005 N_2006 hQ_2007 hle_2008 => ?_)
      obtain ⟨s_1998, b_1999, rfl, K_2002, F_2003⟩ := hQ_2007
      have szh_2005 := nle K_2002.1
      have lts_1998 := nlt F_2003.lt
      have ltb_1999 := nlt F_2003.ltb
      refine Go.rs [(.ref s_1998), (.ref s_1987)] rfl ?_
      have F_2009 := (Str.keep F_1992 K_2002 nin0 nin0)
      have F_2010 := (sta_keep (sta_keep F_1986 K_1991 ns0) K_2002 ns0)
      have X_2016 : Exa Z h_2005 s_1987 "java/lang/String" := F_2009.1
      refine Go.callV (a1 := a0) (pc' := 49) (argsL := [(.ref s_1998)]) (rest := []) (ct_eqT l Z a0 hw n0 h_2005 s_1987 s_1998 b_1988 b_1999 [68, 97, 116, 101, 84, 105, 109, 101] F_2009 F_2003 (by decide) cs F_2010 hcs) at_46 (wd hw 180 rfl) (wd hw 181 rfl) (wd hw 183 rfl) (wd hw 183 rfl) (wd hw 182 rfl) (wd hw 28 rfl) (wd hw 184 rfl) X_2016 (by decide) (lenOf pd_29 rfl) rfl 0 rfl rfl (by decide) (by decide) (by decide) (by decide) sl0 rfl (fun v_2011 h_2012 N_2013 hQ_2014 hle_2015 => ?_)
      obtain ⟨rfl, rfl⟩ := hQ_2014
      refine Go.rs [(.int (1 : Int32))] rfl ?_
      refine Go.ifF (pc' := 52) at_49 (show ¬ ((1 : Int32) = (0 : Int32)) by decide) rfl ?_
      refine Go.aload (pc' := 54) at_52 rfl rfl rfl ?_
      refine Go.ldcR (pc' := 56) (a1 := a0) 4 (vs := [.int 106]) (z := 1) at_54 rfl (wd hw 190 rfl) (own_ws hw) (by decide) (by decide) (by decide) (by decide) rfl (own_ew hw) (List.mem_of_getElem? (i := 19) rfl) ⟨by decide, by decide⟩ (by decide) (by decide) (fun a_2017 h_2018 b_2019 k_2020 E_2021 X_2022 F_2023 F_2024 A_2025 ne_2026 => ?_)
      have szh_2018 := nle E_2021.1
      have lta_2017 := nlt X_2022.lt
      have ltb_2019 := nlt A_2025.lt
      have T_2027 : Str Z h_2018 a_2017 b_2019 [106] := ⟨X_2022, F_2023, F_2024, k_2020, A_2025⟩
      refine Go.iloadN (pc' := 57) at_56 rfl rfl ?_
      have F_2028 := (Exa.ext E_2021 (Exa.keep (Exa.keep X_1978 K_1991) K_2002))
      have F_2029 := (Sta.ext E_2021 F_2010)
      refine Go.callI (a1 := a0) (pc' := 62) (argsL := [(.ref a_2017), (.int (0 : Int32))]) (rest := []) (ct_tfj_j10 l Z a0 hw n0 h_2018 f_1973 F_2028  a_2017 b_2019 T_2027 (by omega) cs F_2029 hcs) at_57 (wd hw 191 rfl) (wd hw 192 rfl) (wd hw 193 rfl) (wd hw 338 rfl) (wd hw 339 rfl) (wd hw 340 rfl) (wd hw 341 rfl) (wd hw 333 rfl) (wd hw 322 rfl) (wd hw 342 rfl) F_2028 (by decide) (lenOf pd_22 rfl) rfl 0 rfl rfl (by decide) (by decide) (by decide) (by decide) sl0 rfl (fun v_2036 h_2037 N_2038 hQ_2039 hle_2040 => ?_)
      obtain ⟨s_2030, b_2031, rfl, K_2034, F_2035⟩ := hQ_2039
      have szh_2037 := nle K_2034.1
      have lts_2030 := nlt F_2035.lt
      have ltb_2031 := nlt F_2035.ltb
      refine Go.rs [(.ref s_2030)] rfl ?_
      refine Go.iloadN (pc' := 63) at_62 rfl rfl ?_
      refine Go.iloadN (pc' := 64) at_63 rfl rfl ?_
      refine Go.callS (a1 := a0) (pc' := 67) (argsL := [(.int (5 : Int32)), (.int (0 : Int32))]) (rest := [(.ref s_2030)]) (ct_expFromJson_5_0 l Z a0 hw n0 h_2037) at_64 (wd hw 207 rfl) (wd hw 208 rfl) (wd hw 3 rfl) (wd hw 209 rfl) (by decide) (lenOf pd_28 rfl) rfl 1 rfl rfl (by decide) (by decide) (by decide) (by decide) sl0 rfl (fun v_2047 h_2048 N_2049 hQ_2050 hle_2051 => ?_)
      obtain ⟨s_2041, b_2042, rfl, K_2045, F_2046⟩ := hQ_2050
      have szh_2048 := nle K_2045.1
      have lts_2041 := nlt F_2046.lt
      have ltb_2042 := nlt F_2046.ltb
      refine Go.rs [(.ref s_2041), (.ref s_2030)] rfl ?_
      have F_2052 := (Str.keep F_2035 K_2045 nin0 nin0)
      have F_2053 := (sta_keep (sta_keep F_2029 K_2034 ns0) K_2045 ns0)
      have X_2059 : Exa Z h_2048 s_2030 "java/lang/String" := F_2052.1
      refine Go.callV (a1 := a0) (pc' := 70) (argsL := [(.ref s_2041)]) (rest := []) (ct_eqT l Z a0 hw n0 h_2048 s_2030 s_2041 b_2031 b_2042 [68, 97, 116, 101, 84, 105, 109, 101, 46, 112, 97, 114, 115, 101, 40, 106, 32, 97, 115, 32, 83, 116, 114, 105, 110, 103, 41] F_2052 F_2046 (by decide) cs F_2053 hcs) at_67 (wd hw 180 rfl) (wd hw 181 rfl) (wd hw 183 rfl) (wd hw 183 rfl) (wd hw 182 rfl) (wd hw 28 rfl) (wd hw 184 rfl) X_2059 (by decide) (lenOf pd_29 rfl) rfl 0 rfl rfl (by decide) (by decide) (by decide) (by decide) sl0 rfl (fun v_2054 h_2055 N_2056 hQ_2057 hle_2058 => ?_)
      obtain ⟨rfl, rfl⟩ := hQ_2057
      refine Go.rs [(.int (1 : Int32))] rfl ?_
      refine Go.ifF (pc' := 73) at_70 (show ¬ ((1 : Int32) = (0 : Int32)) by decide) rfl ?_
      refine Go.aload (pc' := 75) at_73 rfl rfl rfl ?_
      refine Go.ldcR (pc' := 77) (a1 := a0) 4 (vs := [.int 118]) (z := 1) at_75 rfl (wd hw 211 rfl) (own_ws hw) (by decide) (by decide) (by decide) (by decide) rfl (own_ew hw) (List.mem_of_getElem? (i := 20) rfl) ⟨by decide, by decide⟩ (by decide) (by decide) (fun a_2060 h_2061 b_2062 k_2063 E_2064 X_2065 F_2066 F_2067 A_2068 ne_2069 => ?_)
      have szh_2061 := nle E_2064.1
      have lta_2060 := nlt X_2065.lt
      have ltb_2062 := nlt A_2068.lt
      have T_2070 : Str Z h_2061 a_2060 b_2062 [118] := ⟨X_2065, F_2066, F_2067, k_2063, A_2068⟩
      refine Go.iloadN (pc' := 78) at_77 rfl rfl ?_
      have F_2071 := (Exa.ext E_2064 (Exa.keep (Exa.keep F_2028 K_2034) K_2045))
      have F_2072 := (Fld.ext E_2064 (Fld.keep (Fld.keep (Fld.ext E_2021 (Fld.keep (Fld.keep F_1979 K_1991 nin0) K_2002 nin0)) K_2034 nin0) K_2045 nin0))
      have F_2073 := (Sta.ext E_2064 F_2053)
      refine Go.callI (a1 := a0) (pc' := 83) (argsL := [(.ref a_2060), (.int (0 : Int32))]) (rest := []) (ct_ttj_v10d0 l Z a0 hw n0 h_2061 f_1973 F_2071 F_2072 a_2060 b_2062 T_2070 (by omega) cs F_2073 hcs) at_78 (wd hw 212 rfl) (wd hw 213 rfl) (wd hw 214 rfl) (wd hw 359 rfl) (wd hw 360 rfl) (wd hw 361 rfl) (wd hw 362 rfl) (wd hw 333 rfl) (wd hw 322 rfl) (wd hw 363 rfl) F_2071 (by decide) (lenOf pd_22 rfl) rfl 0 rfl rfl (by decide) (by decide) (by decide) (by decide) sl0 rfl (fun v_2080 h_2081 N_2082 hQ_2083 hle_2084 => ?_)
      obtain ⟨s_2074, b_2075, rfl, K_2078, F_2079⟩ := hQ_2083
      have szh_2081 := nle K_2078.1
      have lts_2074 := nlt F_2079.lt
      have ltb_2075 := nlt F_2079.ltb
      refine Go.rs [(.ref s_2074)] rfl ?_
      refine Go.iloadN (pc' := 84) at_83 rfl rfl ?_
      refine Go.iloadN (pc' := 85) at_84 rfl rfl ?_
      refine Go.callS (a1 := a0) (pc' := 88) (argsL := [(.int (5 : Int32)), (.int (0 : Int32))]) (rest := [(.ref s_2074)]) (ct_expToJson_5_0 l Z a0 hw n0 h_2081) at_85 (wd hw 220 rfl) (wd hw 221 rfl) (wd hw 3 rfl) (wd hw 222 rfl) (by decide) (lenOf pd_28 rfl) rfl 1 rfl rfl (by decide) (by decide) (by decide) (by decide) sl0 rfl (fun v_2091 h_2092 N_2093 hQ_2094 hle_2095 => ?_)
      obtain ⟨s_2085, b_2086, rfl, K_2089, F_2090⟩ := hQ_2094
      have szh_2092 := nle K_2089.1
      have lts_2085 := nlt F_2090.lt
      have ltb_2086 := nlt F_2090.ltb
      refine Go.rs [(.ref s_2085), (.ref s_2074)] rfl ?_
      have F_2096 := (Str.keep F_2079 K_2089 nin0 nin0)
      have F_2097 := (sta_keep (sta_keep F_2073 K_2078 ns0) K_2089 ns0)
      have X_2103 : Exa Z h_2092 s_2074 "java/lang/String" := F_2096.1
      refine Go.callV (a1 := a0) (pc' := 91) (argsL := [(.ref s_2085)]) (rest := []) (ct_eqT l Z a0 hw n0 h_2092 s_2074 s_2085 b_2075 b_2086 [118, 46, 116, 111, 73, 115, 111, 56, 54, 48, 49, 83, 116, 114, 105, 110, 103, 40, 41] F_2096 F_2090 (by decide) cs F_2097 hcs) at_88 (wd hw 180 rfl) (wd hw 181 rfl) (wd hw 183 rfl) (wd hw 183 rfl) (wd hw 182 rfl) (wd hw 28 rfl) (wd hw 184 rfl) X_2103 (by decide) (lenOf pd_29 rfl) rfl 0 rfl rfl (by decide) (by decide) (by decide) (by decide) sl0 rfl (fun v_2098 h_2099 N_2100 hQ_2101 hle_2102 => ?_)
      obtain ⟨rfl, rfl⟩ := hQ_2101
      refine Go.rs [(.int (1 : Int32))] rfl ?_
      refine Go.ifF (pc' := 94) at_91 (show ¬ ((1 : Int32) = (0 : Int32)) by decide) rfl ?_
      refine Go.aload (pc' := 96) at_94 rfl rfl rfl ?_
      have F_2104 := (Exa.keep (Exa.keep F_2071 K_2078) K_2089)
      refine Go.callI (a1 := a0) (pc' := 101) (argsL := []) (rest := []) (ct_tdt_0 l Z a0 hw n0 h_2092 f_1973 F_2104   (by omega) cs F_2097 hcs) at_96 (wd hw 223 rfl) (wd hw 224 rfl) (wd hw 225 rfl) (wd hw 370 rfl) (wd hw 371 rfl) (wd hw 372 rfl) (wd hw 373 rfl) (wd hw 333 rfl) (wd hw 322 rfl) (wd hw 374 rfl) F_2104 (by decide) (lenOf pd_20 rfl) rfl 0 rfl rfl (by decide) (by decide) (by decide) (by decide) sl0 rfl (fun v_2111 h_2112 N_2113 hQ_2114 hle_2115 => ?_)
      obtain ⟨s_2105, b_2106, rfl, K_2109, F_2110⟩ := hQ_2114
      have szh_2112 := nle K_2109.1
      have lts_2105 := nlt F_2110.lt
      have ltb_2106 := nlt F_2110.ltb
      refine Go.rs [(.ref s_2105)] rfl ?_
      refine Go.iloadN (pc' := 102) at_101 rfl rfl ?_
      refine Go.callS (a1 := a0) (pc' := 105) (argsL := [(.int (5 : Int32))]) (rest := [(.ref s_2105)]) (ct_expDecoded_5 l Z a0 hw n0 h_2112) at_102 (wd hw 231 rfl) (wd hw 232 rfl) (wd hw 3 rfl) (wd hw 233 rfl) (by decide) (lenOf pd_30 rfl) rfl 1 rfl rfl (by decide) (by decide) (by decide) (by decide) sl0 rfl (fun v_2122 h_2123 N_2124 hQ_2125 hle_2126 => ?_)
      obtain ⟨s_2116, b_2117, rfl, K_2120, F_2121⟩ := hQ_2125
      have szh_2123 := nle K_2120.1
      have lts_2116 := nlt F_2121.lt
      have ltb_2117 := nlt F_2121.ltb
      refine Go.rs [(.ref s_2116), (.ref s_2105)] rfl ?_
      have F_2127 := (Str.keep F_2110 K_2120 nin0 nin0)
      have F_2128 := (sta_keep (sta_keep F_2097 K_2109 ns0) K_2120 ns0)
      have X_2134 : Exa Z h_2123 s_2105 "java/lang/String" := F_2127.1
      refine Go.callV (a1 := a0) (pc' := 108) (argsL := [(.ref s_2116)]) (rest := []) (ct_eqT l Z a0 hw n0 h_2123 s_2105 s_2116 b_2106 b_2117 [83, 116, 114, 105, 110, 103] F_2127 F_2121 (by decide) cs F_2128 hcs) at_105 (wd hw 180 rfl) (wd hw 181 rfl) (wd hw 183 rfl) (wd hw 183 rfl) (wd hw 182 rfl) (wd hw 28 rfl) (wd hw 184 rfl) X_2134 (by decide) (lenOf pd_29 rfl) rfl 0 rfl rfl (by decide) (by decide) (by decide) (by decide) sl0 rfl (fun v_2129 h_2130 N_2131 hQ_2132 hle_2133 => ?_)
      obtain ⟨rfl, rfl⟩ := hQ_2132
      refine Go.rs [(.int (1 : Int32))] rfl ?_
      refine Go.ifF (pc' := 111) at_108 (show ¬ ((1 : Int32) = (0 : Int32)) by decide) rfl ?_
      refine Go.aload (pc' := 113) at_111 rfl rfl rfl ?_
      refine Go.ldcR (pc' := 115) (a1 := a0) 4 (vs := [.int 106]) (z := 1) at_113 rfl (wd hw 190 rfl) (own_ws hw) (by decide) (by decide) (by decide) (by decide) rfl (own_ew hw) (List.mem_of_getElem? (i := 19) rfl) ⟨by decide, by decide⟩ (by decide) (by decide) (fun a_2135 h_2136 b_2137 k_2138 E_2139 X_2140 F_2141 F_2142 A_2143 ne_2144 => ?_)
      have szh_2136 := nle E_2139.1
      have lta_2135 := nlt X_2140.lt
      have ltb_2137 := nlt A_2143.lt
      have T_2145 : Str Z h_2136 a_2135 b_2137 [106] := ⟨X_2140, F_2141, F_2142, k_2138, A_2143⟩
      have F_2146 := (Exa.ext E_2139 (Exa.keep (Exa.keep F_2104 K_2109) K_2120))
      have F_2147 := (Sta.ext E_2139 F_2128)
      refine Go.callI (a1 := a0) (pc' := 120) (argsL := [(.ref a_2135)]) (rest := []) (ct_tfd_j1 l Z a0 hw n0 h_2136 f_1973 F_2146  a_2135 b_2137 T_2145 (by omega) cs F_2147 hcs) at_115 (wd hw 235 rfl) (wd hw 236 rfl) (wd hw 237 rfl) (wd hw 377 rfl) (wd hw 350 rfl) (wd hw 378 rfl) (wd hw 379 rfl) (wd hw 333 rfl) (wd hw 322 rfl) (wd hw 352 rfl) F_2146 (by decide) (lenOf pd_24 rfl) rfl 0 rfl rfl (by decide) (by decide) (by decide) (by decide) sl0 rfl (fun v_2154 h_2155 N_2156 hQ_2157 hle_2158 => ?_)
      obtain ⟨s_2148, b_2149, rfl, g_2150, g_2151, K_2152, F_2153⟩ := hQ_2157
      have szh_2155 := nle K_2152.1
      have lts_2148 := nlt F_2153.lt
      have ltb_2149 := nlt F_2153.ltb
      have ges_2148 := nle g_2150
      have geb_2149 := nle g_2151
      refine Go.rs [(.ref s_2148)] rfl ?_
      refine Go.iloadN (pc' := 121) at_120 rfl rfl ?_
      refine Go.callS (a1 := a0) (pc' := 124) (argsL := [(.int (5 : Int32))]) (rest := [(.ref s_2148)]) (ct_expFromDecoded_5 l Z a0 hw n0 h_2155) at_121 (wd hw 243 rfl) (wd hw 244 rfl) (wd hw 3 rfl) (wd hw 245 rfl) (by decide) (lenOf pd_30 rfl) rfl 1 rfl rfl (by decide) (by decide) (by decide) (by decide) sl0 rfl (fun v_2165 h_2166 N_2167 hQ_2168 hle_2169 => ?_)
      obtain ⟨s_2159, b_2160, rfl, K_2163, F_2164⟩ := hQ_2168
      have szh_2166 := nle K_2163.1
      have lts_2159 := nlt F_2164.lt
      have ltb_2160 := nlt F_2164.ltb
      refine Go.rs [(.ref s_2159), (.ref s_2148)] rfl ?_
      have F_2170 := (Str.keep F_2153 K_2163 nin0 nin0)
      have F_2171 := (sta_keep (sta_keep F_2147 K_2152 ns0) K_2163 ns0)
      have X_2177 : Exa Z h_2166 s_2148 "java/lang/String" := F_2170.1
      refine Go.callV (a1 := a0) (pc' := 127) (argsL := [(.ref s_2159)]) (rest := []) (ct_eqT l Z a0 hw n0 h_2166 s_2148 s_2159 b_2149 b_2160 [68, 97, 116, 101, 84, 105, 109, 101, 46, 112, 97, 114, 115, 101, 40, 106, 41] F_2170 F_2164 (by decide) cs F_2171 hcs) at_124 (wd hw 180 rfl) (wd hw 181 rfl) (wd hw 183 rfl) (wd hw 183 rfl) (wd hw 182 rfl) (wd hw 28 rfl) (wd hw 184 rfl) X_2177 (by decide) (lenOf pd_29 rfl) rfl 0 rfl rfl (by decide) (by decide) (by decide) (by decide) sl0 rfl (fun v_2172 h_2173 N_2174 hQ_2175 hle_2176 => ?_)
      obtain ⟨rfl, rfl⟩ := hQ_2175
      refine Go.rs [(.int (1 : Int32))] rfl ?_
      refine Go.ifF (pc' := 130) at_127 (show ¬ ((1 : Int32) = (0 : Int32)) by decide) rfl ?_
      refine Go.iconst (pc' := 131) 1 at_130 rfl rfl ?_
      refine Go.goto (pc' := 135) at_131 (by decide) (by decide) ?_
      refine Go.retN (t := .boolean) (1 : Int32) rfl (by simp) rfl [] sl0 at_135 (by decide) (by decide) ?_
      exact ⟨rfl, (Keep.trans (Keep.trans (Keep.ext (Keep.trans (Keep.trans (Keep.trans (Keep.trans (Keep.ext (Keep.trans (Keep.trans (Keep.ext (Keep.trans (Keep.trans (Keep.trans (Keep.refl _ []) K_1977 all0) K_1991 all0) K_2002 all0) E_2021) K_2034 all0) K_2045 all0) E_2064) K_2078 all0) K_2089 all0) K_2109 all0) K_2120 all0) E_2139) K_2152 all0) K_2163 all0)⟩
    · have hc_1967 : ¬ ((p1 &&& (1 : Int32)) = 0) := hc_1967
      refine Go.iconst (pc' := 15) 1 at_14 rfl rfl ?_
      refine Go.goto (pc' := 19) at_15 (by decide) (by decide) ?_
      refine Go.istoreN (pc' := 20) #[.val (.int p0), .val (.int p1), .val (.int (5 : Int32)), .val (.int (1 : Int32)), .unset, .unset] at_19 rfl rfl ?_
      refine Go.iloadN (pc' := 21) at_20 rfl rfl ?_
      refine Go.callS (a1 := a0) (pc' := 24) (argsL := [(.int (5 : Int32))]) (rest := []) (ct_sc5 l Z a0 hw n0 h0 o_DATE_TIME S_DATE_TIME) at_21 (wd hw 1 rfl) (wd hw 2 rfl) (wd hw 3 rfl) (wd hw 4 rfl) (by decide) (lenOf pd_26 rfl) rfl 0 rfl rfl (by decide) (by decide) (by decide) (by decide) sl0 rfl (fun v_2178 h_2179 N_2180 hQ_2181 hle_2182 => ?_)
      obtain ⟨rfl, rfl⟩ := hQ_2181
      refine Go.rs [(.ref o_DATE_TIME)] rfl ?_
      refine Go.astore (pc' := 26) #[.val (.int p0), .val (.int p1), .val (.int (5 : Int32)), .val (.int (1 : Int32)), .val (.ref o_DATE_TIME), .unset] at_24 rfl rfl rfl ?_
      refine Go.aload (pc' := 28) at_26 rfl rfl rfl ?_
      refine Go.callS (a1 := a0) (pc' := 31) (argsL := [(.ref o_DATE_TIME)]) (rest := []) (ct_of5 l Z a0 hw n0 h0 o_DATE_TIME X_DATE_TIME F_DATE_TIME_ordinal b1 cl S_B A_B hi_5 he_5 (by omega)) at_28 (wd hw 8 rfl) (wd hw 9 rfl) (wd hw 10 rfl) (wd hw 11 rfl) (by decide) (lenOf pd_27 rfl) rfl 0 rfl rfl (by decide) (by decide) (by decide) (by decide) sl0 rfl (fun v_2191 h_2192 N_2193 hQ_2194 hle_2195 => ?_)
      obtain ⟨f_2183, rfl, g_2186, K_2187, X_2188, F_2189⟩ := hQ_2194
      have szh_2192 := nle K_2187.1
      have ltf_2183 := nlt X_2188.lt
      have gef_2183 := nle g_2186
      refine Go.rs [(.ref f_2183)] rfl ?_
      refine Go.astore (pc' := 33) #[.val (.int p0), .val (.int p1), .val (.int (5 : Int32)), .val (.int (1 : Int32)), .val (.ref o_DATE_TIME), .val (.ref f_2183)] at_31 rfl rfl rfl ?_
      refine Go.aload (pc' := 35) at_33 rfl rfl rfl ?_
      refine Go.iloadN (pc' := 36) at_35 rfl rfl ?_
      have F_2196 := (sta_keep S_cs K_2187 ns0)
      refine Go.callI (a1 := a0) (pc' := 41) (argsL := [(.int (1 : Int32))]) (rest := []) (ct_tty_01 l Z a0 hw n0 h_2192 f_2183 X_2188   (by omega) cs F_2196 hcs) at_36 (wd hw 48 rfl) (wd hw 49 rfl) (wd hw 50 rfl) (wd hw 329 rfl) (wd hw 330 rfl) (wd hw 331 rfl) (wd hw 332 rfl) (wd hw 333 rfl) (wd hw 322 rfl) (wd hw 334 rfl) X_2188 (by decide) (lenOf pd_23 rfl) rfl 0 rfl rfl (by decide) (by decide) (by decide) (by decide) sl0 rfl (fun v_2203 h_2204 N_2205 hQ_2206 hle_2207 => ?_)
      obtain ⟨s_2197, b_2198, rfl, K_2201, F_2202⟩ := hQ_2206
      have szh_2204 := nle K_2201.1
      have lts_2197 := nlt F_2202.lt
      have ltb_2198 := nlt F_2202.ltb
      refine Go.rs [(.ref s_2197)] rfl ?_
      refine Go.iloadN (pc' := 42) at_41 rfl rfl ?_
      refine Go.iloadN (pc' := 43) at_42 rfl rfl ?_
      refine Go.callS (a1 := a0) (pc' := 46) (argsL := [(.int (5 : Int32)), (.int (1 : Int32))]) (rest := [(.ref s_2197)]) (ct_expType_5_1 l Z a0 hw n0 h_2204) at_43 (wd hw 176 rfl) (wd hw 177 rfl) (wd hw 3 rfl) (wd hw 178 rfl) (by decide) (lenOf pd_28 rfl) rfl 1 rfl rfl (by decide) (by decide) (by decide) (by decide) sl0 rfl (fun v_2214 h_2215 N_2216 hQ_2217 hle_2218 => ?_)
      obtain ⟨s_2208, b_2209, rfl, K_2212, F_2213⟩ := hQ_2217
      have szh_2215 := nle K_2212.1
      have lts_2208 := nlt F_2213.lt
      have ltb_2209 := nlt F_2213.ltb
      refine Go.rs [(.ref s_2208), (.ref s_2197)] rfl ?_
      have F_2219 := (Str.keep F_2202 K_2212 nin0 nin0)
      have F_2220 := (sta_keep (sta_keep F_2196 K_2201 ns0) K_2212 ns0)
      have X_2226 : Exa Z h_2215 s_2197 "java/lang/String" := F_2219.1
      refine Go.callV (a1 := a0) (pc' := 49) (argsL := [(.ref s_2208)]) (rest := []) (ct_eqT l Z a0 hw n0 h_2215 s_2197 s_2208 b_2198 b_2209 [68, 97, 116, 101, 84, 105, 109, 101, 63] F_2219 F_2213 (by decide) cs F_2220 hcs) at_46 (wd hw 180 rfl) (wd hw 181 rfl) (wd hw 183 rfl) (wd hw 183 rfl) (wd hw 182 rfl) (wd hw 28 rfl) (wd hw 184 rfl) X_2226 (by decide) (lenOf pd_29 rfl) rfl 0 rfl rfl (by decide) (by decide) (by decide) (by decide) sl0 rfl (fun v_2221 h_2222 N_2223 hQ_2224 hle_2225 => ?_)
      obtain ⟨rfl, rfl⟩ := hQ_2224
      refine Go.rs [(.int (1 : Int32))] rfl ?_
      refine Go.ifF (pc' := 52) at_49 (show ¬ ((1 : Int32) = (0 : Int32)) by decide) rfl ?_
      refine Go.aload (pc' := 54) at_52 rfl rfl rfl ?_
      refine Go.ldcR (pc' := 56) (a1 := a0) 4 (vs := [.int 106]) (z := 1) at_54 rfl (wd hw 190 rfl) (own_ws hw) (by decide) (by decide) (by decide) (by decide) rfl (own_ew hw) (List.mem_of_getElem? (i := 19) rfl) ⟨by decide, by decide⟩ (by decide) (by decide) (fun a_2227 h_2228 b_2229 k_2230 E_2231 X_2232 F_2233 F_2234 A_2235 ne_2236 => ?_)
      have szh_2228 := nle E_2231.1
      have lta_2227 := nlt X_2232.lt
      have ltb_2229 := nlt A_2235.lt
      have T_2237 : Str Z h_2228 a_2227 b_2229 [106] := ⟨X_2232, F_2233, F_2234, k_2230, A_2235⟩
      refine Go.iloadN (pc' := 57) at_56 rfl rfl ?_
      have F_2238 := (Exa.ext E_2231 (Exa.keep (Exa.keep X_2188 K_2201) K_2212))
      have F_2239 := (Sta.ext E_2231 F_2220)
      refine Go.callI (a1 := a0) (pc' := 62) (argsL := [(.ref a_2227), (.int (1 : Int32))]) (rest := []) (ct_tfj_j11 l Z a0 hw n0 h_2228 f_2183 F_2238  a_2227 b_2229 T_2237 (by omega) cs F_2239 hcs) at_57 (wd hw 191 rfl) (wd hw 192 rfl) (wd hw 193 rfl) (wd hw 338 rfl) (wd hw 339 rfl) (wd hw 340 rfl) (wd hw 341 rfl) (wd hw 333 rfl) (wd hw 322 rfl) (wd hw 342 rfl) F_2238 (by decide) (lenOf pd_22 rfl) rfl 0 rfl rfl (by decide) (by decide) (by decide) (by decide) sl0 rfl (fun v_2246 h_2247 N_2248 hQ_2249 hle_2250 => ?_)
      obtain ⟨s_2240, b_2241, rfl, K_2244, F_2245⟩ := hQ_2249
      have szh_2247 := nle K_2244.1
      have lts_2240 := nlt F_2245.lt
      have ltb_2241 := nlt F_2245.ltb
      refine Go.rs [(.ref s_2240)] rfl ?_
      refine Go.iloadN (pc' := 63) at_62 rfl rfl ?_
      refine Go.iloadN (pc' := 64) at_63 rfl rfl ?_
      refine Go.callS (a1 := a0) (pc' := 67) (argsL := [(.int (5 : Int32)), (.int (1 : Int32))]) (rest := [(.ref s_2240)]) (ct_expFromJson_5_1 l Z a0 hw n0 h_2247) at_64 (wd hw 207 rfl) (wd hw 208 rfl) (wd hw 3 rfl) (wd hw 209 rfl) (by decide) (lenOf pd_28 rfl) rfl 1 rfl rfl (by decide) (by decide) (by decide) (by decide) sl0 rfl (fun v_2257 h_2258 N_2259 hQ_2260 hle_2261 => ?_)
      obtain ⟨s_2251, b_2252, rfl, K_2255, F_2256⟩ := hQ_2260
      have szh_2258 := nle K_2255.1
      have lts_2251 := nlt F_2256.lt
      have ltb_2252 := nlt F_2256.ltb
      refine Go.rs [(.ref s_2251), (.ref s_2240)] rfl ?_
      have F_2262 := (Str.keep F_2245 K_2255 nin0 nin0)
      have F_2263 := (sta_keep (sta_keep F_2239 K_2244 ns0) K_2255 ns0)
      have X_2269 : Exa Z h_2258 s_2240 "java/lang/String" := F_2262.1
      refine Go.callV (a1 := a0) (pc' := 70) (argsL := [(.ref s_2251)]) (rest := []) (ct_eqT l Z a0 hw n0 h_2258 s_2240 s_2251 b_2241 b_2252 [106, 32, 61, 61, 32, 110, 117, 108, 108, 32, 63, 32, 110, 117, 108, 108, 32, 58, 32, 68, 97, 116, 101, 84, 105, 109, 101, 46, 112, 97, 114, 115, 101, 40, 106, 32, 97, 115, 32, 83, 116, 114, 105, 110, 103, 41] F_2262 F_2256 (by decide) cs F_2263 hcs) at_67 (wd hw 180 rfl) (wd hw 181 rfl) (wd hw 183 rfl) (wd hw 183 rfl) (wd hw 182 rfl) (wd hw 28 rfl) (wd hw 184 rfl) X_2269 (by decide) (lenOf pd_29 rfl) rfl 0 rfl rfl (by decide) (by decide) (by decide) (by decide) sl0 rfl (fun v_2264 h_2265 N_2266 hQ_2267 hle_2268 => ?_)
      obtain ⟨rfl, rfl⟩ := hQ_2267
      refine Go.rs [(.int (1 : Int32))] rfl ?_
      refine Go.ifF (pc' := 73) at_70 (show ¬ ((1 : Int32) = (0 : Int32)) by decide) rfl ?_
      refine Go.aload (pc' := 75) at_73 rfl rfl rfl ?_
      refine Go.ldcR (pc' := 77) (a1 := a0) 4 (vs := [.int 118]) (z := 1) at_75 rfl (wd hw 211 rfl) (own_ws hw) (by decide) (by decide) (by decide) (by decide) rfl (own_ew hw) (List.mem_of_getElem? (i := 20) rfl) ⟨by decide, by decide⟩ (by decide) (by decide) (fun a_2270 h_2271 b_2272 k_2273 E_2274 X_2275 F_2276 F_2277 A_2278 ne_2279 => ?_)
      have szh_2271 := nle E_2274.1
      have lta_2270 := nlt X_2275.lt
      have ltb_2272 := nlt A_2278.lt
      have T_2280 : Str Z h_2271 a_2270 b_2272 [118] := ⟨X_2275, F_2276, F_2277, k_2273, A_2278⟩
      refine Go.iloadN (pc' := 78) at_77 rfl rfl ?_
      have F_2281 := (Exa.ext E_2274 (Exa.keep (Exa.keep F_2238 K_2244) K_2255))
      have F_2282 := (Fld.ext E_2274 (Fld.keep (Fld.keep (Fld.ext E_2231 (Fld.keep (Fld.keep F_2189 K_2201 nin0) K_2212 nin0)) K_2244 nin0) K_2255 nin0))
      have F_2283 := (Sta.ext E_2274 F_2263)
      refine Go.callI (a1 := a0) (pc' := 83) (argsL := [(.ref a_2270), (.int (1 : Int32))]) (rest := []) (ct_ttj_v11d0 l Z a0 hw n0 h_2271 f_2183 F_2281 F_2282 a_2270 b_2272 T_2280 (by omega) cs F_2283 hcs) at_78 (wd hw 212 rfl) (wd hw 213 rfl) (wd hw 214 rfl) (wd hw 359 rfl) (wd hw 360 rfl) (wd hw 361 rfl) (wd hw 362 rfl) (wd hw 333 rfl) (wd hw 322 rfl) (wd hw 363 rfl) F_2281 (by decide) (lenOf pd_22 rfl) rfl 0 rfl rfl (by decide) (by decide) (by decide) (by decide) sl0 rfl (fun v_2290 h_2291 N_2292 hQ_2293 hle_2294 => ?_)
      obtain ⟨s_2284, b_2285, rfl, K_2288, F_2289⟩ := hQ_2293
      have szh_2291 := nle K_2288.1
      have lts_2284 := nlt F_2289.lt
      have ltb_2285 := nlt F_2289.ltb
      refine Go.rs [(.ref s_2284)] rfl ?_
      refine Go.iloadN (pc' := 84) at_83 rfl rfl ?_
      refine Go.iloadN (pc' := 85) at_84 rfl rfl ?_
      refine Go.callS (a1 := a0) (pc' := 88) (argsL := [(.int (5 : Int32)), (.int (1 : Int32))]) (rest := [(.ref s_2284)]) (ct_expToJson_5_1 l Z a0 hw n0 h_2291) at_85 (wd hw 220 rfl) (wd hw 221 rfl) (wd hw 3 rfl) (wd hw 222 rfl) (by decide) (lenOf pd_28 rfl) rfl 1 rfl rfl (by decide) (by decide) (by decide) (by decide) sl0 rfl (fun v_2301 h_2302 N_2303 hQ_2304 hle_2305 => ?_)
      obtain ⟨s_2295, b_2296, rfl, K_2299, F_2300⟩ := hQ_2304
      have szh_2302 := nle K_2299.1
      have lts_2295 := nlt F_2300.lt
      have ltb_2296 := nlt F_2300.ltb
      refine Go.rs [(.ref s_2295), (.ref s_2284)] rfl ?_
      have F_2306 := (Str.keep F_2289 K_2299 nin0 nin0)
      have F_2307 := (sta_keep (sta_keep F_2283 K_2288 ns0) K_2299 ns0)
      have X_2313 : Exa Z h_2302 s_2284 "java/lang/String" := F_2306.1
      refine Go.callV (a1 := a0) (pc' := 91) (argsL := [(.ref s_2295)]) (rest := []) (ct_eqT l Z a0 hw n0 h_2302 s_2284 s_2295 b_2285 b_2296 [118, 63, 46, 116, 111, 73, 115, 111, 56, 54, 48, 49, 83, 116, 114, 105, 110, 103, 40, 41] F_2306 F_2300 (by decide) cs F_2307 hcs) at_88 (wd hw 180 rfl) (wd hw 181 rfl) (wd hw 183 rfl) (wd hw 183 rfl) (wd hw 182 rfl) (wd hw 28 rfl) (wd hw 184 rfl) X_2313 (by decide) (lenOf pd_29 rfl) rfl 0 rfl rfl (by decide) (by decide) (by decide) (by decide) sl0 rfl (fun v_2308 h_2309 N_2310 hQ_2311 hle_2312 => ?_)
      obtain ⟨rfl, rfl⟩ := hQ_2311
      refine Go.rs [(.int (1 : Int32))] rfl ?_
      refine Go.ifF (pc' := 94) at_91 (show ¬ ((1 : Int32) = (0 : Int32)) by decide) rfl ?_
      refine Go.aload (pc' := 96) at_94 rfl rfl rfl ?_
      have F_2314 := (Exa.keep (Exa.keep F_2281 K_2288) K_2299)
      refine Go.callI (a1 := a0) (pc' := 101) (argsL := []) (rest := []) (ct_tdt_0 l Z a0 hw n0 h_2302 f_2183 F_2314   (by omega) cs F_2307 hcs) at_96 (wd hw 223 rfl) (wd hw 224 rfl) (wd hw 225 rfl) (wd hw 370 rfl) (wd hw 371 rfl) (wd hw 372 rfl) (wd hw 373 rfl) (wd hw 333 rfl) (wd hw 322 rfl) (wd hw 374 rfl) F_2314 (by decide) (lenOf pd_20 rfl) rfl 0 rfl rfl (by decide) (by decide) (by decide) (by decide) sl0 rfl (fun v_2321 h_2322 N_2323 hQ_2324 hle_2325 => ?_)
      obtain ⟨s_2315, b_2316, rfl, K_2319, F_2320⟩ := hQ_2324
      have szh_2322 := nle K_2319.1
      have lts_2315 := nlt F_2320.lt
      have ltb_2316 := nlt F_2320.ltb
      refine Go.rs [(.ref s_2315)] rfl ?_
      refine Go.iloadN (pc' := 102) at_101 rfl rfl ?_
      refine Go.callS (a1 := a0) (pc' := 105) (argsL := [(.int (5 : Int32))]) (rest := [(.ref s_2315)]) (ct_expDecoded_5 l Z a0 hw n0 h_2322) at_102 (wd hw 231 rfl) (wd hw 232 rfl) (wd hw 3 rfl) (wd hw 233 rfl) (by decide) (lenOf pd_30 rfl) rfl 1 rfl rfl (by decide) (by decide) (by decide) (by decide) sl0 rfl (fun v_2332 h_2333 N_2334 hQ_2335 hle_2336 => ?_)
      obtain ⟨s_2326, b_2327, rfl, K_2330, F_2331⟩ := hQ_2335
      have szh_2333 := nle K_2330.1
      have lts_2326 := nlt F_2331.lt
      have ltb_2327 := nlt F_2331.ltb
      refine Go.rs [(.ref s_2326), (.ref s_2315)] rfl ?_
      have F_2337 := (Str.keep F_2320 K_2330 nin0 nin0)
      have F_2338 := (sta_keep (sta_keep F_2307 K_2319 ns0) K_2330 ns0)
      have X_2344 : Exa Z h_2333 s_2315 "java/lang/String" := F_2337.1
      refine Go.callV (a1 := a0) (pc' := 108) (argsL := [(.ref s_2326)]) (rest := []) (ct_eqT l Z a0 hw n0 h_2333 s_2315 s_2326 b_2316 b_2327 [83, 116, 114, 105, 110, 103] F_2337 F_2331 (by decide) cs F_2338 hcs) at_105 (wd hw 180 rfl) (wd hw 181 rfl) (wd hw 183 rfl) (wd hw 183 rfl) (wd hw 182 rfl) (wd hw 28 rfl) (wd hw 184 rfl) X_2344 (by decide) (lenOf pd_29 rfl) rfl 0 rfl rfl (by decide) (by decide) (by decide) (by decide) sl0 rfl (fun v_2339 h_2340 N_2341 hQ_2342 hle_2343 => ?_)
      obtain ⟨rfl, rfl⟩ := hQ_2342
      refine Go.rs [(.int (1 : Int32))] rfl ?_
      refine Go.ifF (pc' := 111) at_108 (show ¬ ((1 : Int32) = (0 : Int32)) by decide) rfl ?_
      refine Go.aload (pc' := 113) at_111 rfl rfl rfl ?_
      refine Go.ldcR (pc' := 115) (a1 := a0) 4 (vs := [.int 106]) (z := 1) at_113 rfl (wd hw 190 rfl) (own_ws hw) (by decide) (by decide) (by decide) (by decide) rfl (own_ew hw) (List.mem_of_getElem? (i := 19) rfl) ⟨by decide, by decide⟩ (by decide) (by decide) (fun a_2345 h_2346 b_2347 k_2348 E_2349 X_2350 F_2351 F_2352 A_2353 ne_2354 => ?_)
      have szh_2346 := nle E_2349.1
      have lta_2345 := nlt X_2350.lt
      have ltb_2347 := nlt A_2353.lt
      have T_2355 : Str Z h_2346 a_2345 b_2347 [106] := ⟨X_2350, F_2351, F_2352, k_2348, A_2353⟩
      have F_2356 := (Exa.ext E_2349 (Exa.keep (Exa.keep F_2314 K_2319) K_2330))
      have F_2357 := (Sta.ext E_2349 F_2338)
      refine Go.callI (a1 := a0) (pc' := 120) (argsL := [(.ref a_2345)]) (rest := []) (ct_tfd_j1 l Z a0 hw n0 h_2346 f_2183 F_2356  a_2345 b_2347 T_2355 (by omega) cs F_2357 hcs) at_115 (wd hw 235 rfl) (wd hw 236 rfl) (wd hw 237 rfl) (wd hw 377 rfl) (wd hw 350 rfl) (wd hw 378 rfl) (wd hw 379 rfl) (wd hw 333 rfl) (wd hw 322 rfl) (wd hw 352 rfl) F_2356 (by decide) (lenOf pd_24 rfl) rfl 0 rfl rfl (by decide) (by decide) (by decide) (by decide) sl0 rfl (fun v_2364 h_2365 N_2366 hQ_2367 hle_2368 => ?_)
      obtain ⟨s_2358, b_2359, rfl, g_2360, g_2361, K_2362, F_2363⟩ := hQ_2367
      have szh_2365 := nle K_2362.1
      have lts_2358 := nlt F_2363.lt
      have ltb_2359 := nlt F_2363.ltb
      have ges_2358 := nle g_2360
      have geb_2359 := nle g_2361
      refine Go.rs [(.ref s_2358)] rfl ?_
      refine Go.iloadN (pc' := 121) at_120 rfl rfl ?_
      refine Go.callS (a1 := a0) (pc' := 124) (argsL := [(.int (5 : Int32))]) (rest := [(.ref s_2358)]) (ct_expFromDecoded_5 l Z a0 hw n0 h_2365) at_121 (wd hw 243 rfl) (wd hw 244 rfl) (wd hw 3 rfl) (wd hw 245 rfl) (by decide) (lenOf pd_30 rfl) rfl 1 rfl rfl (by decide) (by decide) (by decide) (by decide) sl0 rfl (fun v_2375 h_2376 N_2377 hQ_2378 hle_2379 => ?_)
      obtain ⟨s_2369, b_2370, rfl, K_2373, F_2374⟩ := hQ_2378
      have szh_2376 := nle K_2373.1
      have lts_2369 := nlt F_2374.lt
      have ltb_2370 := nlt F_2374.ltb
      refine Go.rs [(.ref s_2369), (.ref s_2358)] rfl ?_
      have F_2380 := (Str.keep F_2363 K_2373 nin0 nin0)
      have F_2381 := (sta_keep (sta_keep F_2357 K_2362 ns0) K_2373 ns0)
      have X_2387 : Exa Z h_2376 s_2358 "java/lang/String" := F_2380.1
      refine Go.callV (a1 := a0) (pc' := 127) (argsL := [(.ref s_2369)]) (rest := []) (ct_eqT l Z a0 hw n0 h_2376 s_2358 s_2369 b_2359 b_2370 [68, 97, 116, 101, 84, 105, 109, 101, 46, 112, 97, 114, 115, 101, 40, 106, 41] F_2380 F_2374 (by decide) cs F_2381 hcs) at_124 (wd hw 180 rfl) (wd hw 181 rfl) (wd hw 183 rfl) (wd hw 183 rfl) (wd hw 182 rfl) (wd hw 28 rfl) (wd hw 184 rfl) X_2387 (by decide) (lenOf pd_29 rfl) rfl 0 rfl rfl (by decide) (by decide) (by decide) (by decide) sl0 rfl (fun v_2382 h_2383 N_2384 hQ_2385 hle_2386 => ?_)
      obtain ⟨rfl, rfl⟩ := hQ_2385
      refine Go.rs [(.int (1 : Int32))] rfl ?_
      refine Go.ifF (pc' := 130) at_127 (show ¬ ((1 : Int32) = (0 : Int32)) by decide) rfl ?_
      refine Go.iconst (pc' := 131) 1 at_130 rfl rfl ?_
      refine Go.goto (pc' := 135) at_131 (by decide) (by decide) ?_
      refine Go.retN (t := .boolean) (1 : Int32) rfl (by simp) rfl [] sl0 at_135 (by decide) (by decide) ?_
      exact ⟨rfl, (Keep.trans (Keep.trans (Keep.ext (Keep.trans (Keep.trans (Keep.trans (Keep.trans (Keep.ext (Keep.trans (Keep.trans (Keep.ext (Keep.trans (Keep.trans (Keep.trans (Keep.refl _ []) K_2187 all0) K_2201 all0) K_2212 all0) E_2231) K_2244 all0) K_2255 all0) E_2274) K_2288 all0) K_2299 all0) K_2319 all0) K_2330 all0) E_2349) K_2362 all0) K_2373 all0)⟩
  · refine Go.re (pc' := 8) (L' := #[.val (.int p0), .val (.int p1), .val (.int (6 : Int32)), .unset, .unset, .unset]) (S' := []) rfl (by rw [e7]) rfl ?_
    refine Go.iloadN (pc' := 9) at_8 rfl rfl ?_
    refine Go.iconst (pc' := 10) 1 at_9 rfl rfl ?_
    refine Go.iand (pc' := 11) at_10 rfl ?_
    refine Go.ifc (pc' := 18) (pc'' := 14) at_11 (by decide) (by decide) rfl (fun hc_2388 => ?_) (fun hc_2388 => ?_)
    · have hc_2388 : (p1 &&& (1 : Int32)) = 0 := hc_2388
      refine Go.iconst (pc' := 19) 0 at_18 rfl rfl ?_
      refine Go.istoreN (pc' := 20) #[.val (.int p0), .val (.int p1), .val (.int (6 : Int32)), .val (.int (0 : Int32)), .unset, .unset] at_19 rfl rfl ?_
      refine Go.iloadN (pc' := 21) at_20 rfl rfl ?_
      refine Go.callS (a1 := a0) (pc' := 24) (argsL := [(.int (6 : Int32))]) (rest := []) (ct_sc6 l Z a0 hw n0 h0 o_BINARY S_BINARY) at_21 (wd hw 1 rfl) (wd hw 2 rfl) (wd hw 3 rfl) (wd hw 4 rfl) (by decide) (lenOf pd_26 rfl) rfl 0 rfl rfl (by decide) (by decide) (by decide) (by decide) sl0 rfl (fun v_2389 h_2390 N_2391 hQ_2392 hle_2393 => ?_)
      obtain ⟨rfl, rfl⟩ := hQ_2392
      refine Go.rs [(.ref o_BINARY)] rfl ?_
      refine Go.astore (pc' := 26) #[.val (.int p0), .val (.int p1), .val (.int (6 : Int32)), .val (.int (0 : Int32)), .val (.ref o_BINARY), .unset] at_24 rfl rfl rfl ?_
      refine Go.aload (pc' := 28) at_26 rfl rfl rfl ?_
      refine Go.callS (a1 := a0) (pc' := 31) (argsL := [(.ref o_BINARY)]) (rest := []) (ct_of6 l Z a0 hw n0 h0 o_BINARY X_BINARY F_BINARY_ordinal b1 cl S_B A_B hi_6 he_6 (by omega)) at_28 (wd hw 8 rfl) (wd hw 9 rfl) (wd hw 10 rfl) (wd hw 11 rfl) (by decide) (lenOf pd_27 rfl) rfl 0 rfl rfl (by decide) (by decide) (by decide) (by decide) sl0 rfl (fun v_2402 h_2403 N_2404 hQ_2405 hle_2406 => ?_)
      obtain ⟨f_2394, s_2395, b_2396, rfl, g_2397, K_2398, X_2399, F_2400, F_2401⟩ := hQ_2405
      have szh_2403 := nle K_2398.1
      have ltf_2394 := nlt X_2399.lt
      have gef_2394 := nle g_2397
      have lts_2395 := nlt F_2401.lt
      have ltb_2396 := nlt F_2401.ltb
      refine Go.rs [(.ref f_2394)] rfl ?_
      refine Go.astore (pc' := 33) #[.val (.int p0), .val (.int p1), .val (.int (6 : Int32)), .val (.int (0 : Int32)), .val (.ref o_BINARY), .val (.ref f_2394)] at_31 rfl rfl rfl ?_
      refine Go.aload (pc' := 35) at_33 rfl rfl rfl ?_
      refine Go.iloadN (pc' := 36) at_35 rfl rfl ?_
      refine Go.callI (a1 := a0) (pc' := 41) (argsL := [(.int (0 : Int32))]) (rest := []) (ct_pty0 l Z a0 hw n0 h_2403 [83, 116, 114, 105, 110, 103] f_2394 s_2395 b_2396 F_2401 F_2400) at_36 (wd hw 48 rfl) (wd hw 49 rfl) (wd hw 50 rfl) (wd hw 51 rfl) (wd hw 52 rfl) (wd hw 53 rfl) (wd hw 54 rfl) (wd hw 55 rfl) (wd hw 26 rfl) (wd hw 56 rfl) X_2399 (by decide) (lenOf pd_23 rfl) rfl 0 rfl rfl (by decide) (by decide) (by decide) (by decide) sl0 rfl (fun v_2407 h_2408 N_2409 hQ_2410 hle_2411 => ?_)
      obtain ⟨rfl, rfl⟩ := hQ_2410
      refine Go.rs [(.ref s_2395)] rfl ?_
      refine Go.iloadN (pc' := 42) at_41 rfl rfl ?_
      refine Go.iloadN (pc' := 43) at_42 rfl rfl ?_
      refine Go.callS (a1 := a0) (pc' := 46) (argsL := [(.int (6 : Int32)), (.int (0 : Int32))]) (rest := [(.ref s_2395)]) (ct_expType_6_0 l Z a0 hw n0 h_2403) at_43 (wd hw 176 rfl) (wd hw 177 rfl) (wd hw 3 rfl) (wd hw 178 rfl) (by decide) (lenOf pd_28 rfl) rfl 1 rfl rfl (by decide) (by decide) (by decide) (by decide) sl0 rfl (fun v_2418 h_2419 N_2420 hQ_2421 hle_2422 => ?_)
      obtain ⟨s_2412, b_2413, rfl, K_2416, F_2417⟩ := hQ_2421
      have szh_2419 := nle K_2416.1
      have lts_2412 := nlt F_2417.lt
      have ltb_2413 := nlt F_2417.ltb
      refine Go.rs [(.ref s_2412), (.ref s_2395)] rfl ?_
      have F_2423 := (Str.keep F_2401 K_2416 nin0 nin0)
      have F_2424 := (sta_keep (sta_keep S_cs K_2398 ns0) K_2416 ns0)
      have X_2430 : Exa Z h_2419 s_2395 "java/lang/String" := F_2423.1
      refine Go.callV (a1 := a0) (pc' := 49) (argsL := [(.ref s_2412)]) (rest := []) (ct_eqT l Z a0 hw n0 h_2419 s_2395 s_2412 b_2396 b_2413 [83, 116, 114, 105, 110, 103] F_2423 F_2417 (by decide) cs F_2424 hcs) at_46 (wd hw 180 rfl) (wd hw 181 rfl) (wd hw 183 rfl) (wd hw 183 rfl) (wd hw 182 rfl) (wd hw 28 rfl) (wd hw 184 rfl) X_2430 (by decide) (lenOf pd_29 rfl) rfl 0 rfl rfl (by decide) (by decide) (by decide) (by decide) sl0 rfl (fun v_2425 h_2426 N_2427 hQ_2428 hle_2429 => ?_)
      obtain ⟨rfl, rfl⟩ := hQ_2428
      refine Go.rs [(.int (1 : Int32))] rfl ?_
      refine Go.ifF (pc' := 52) at_49 (show ¬ ((1 : Int32) = (0 : Int32)) by decide) rfl ?_
      refine Go.aload (pc' := 54) at_52 rfl rfl rfl ?_
      refine Go.ldcR (pc' := 56) (a1 := a0) 4 (vs := [.int 106]) (z := 1) at_54 rfl (wd hw 190 rfl) (own_ws hw) (by decide) (by decide) (by decide) (by decide) rfl (own_ew hw) (List.mem_of_getElem? (i := 19) rfl) ⟨by decide, by decide⟩ (by decide) (by decide) (fun a_2431 h_2432 b_2433 k_2434 E_2435 X_2436 F_2437 F_2438 A_2439 ne_2440 => ?_)
      have szh_2432 := nle E_2435.1
      have lta_2431 := nlt X_2436.lt
      have ltb_2433 := nlt A_2439.lt
      have T_2441 : Str Z h_2432 a_2431 b_2433 [106] := ⟨X_2436, F_2437, F_2438, k_2434, A_2439⟩
      refine Go.iloadN (pc' := 57) at_56 rfl rfl ?_
      have F_2442 := (Str.ext F_2423 E_2435)
      have F_2443 := (Fld.ext E_2435 (Fld.keep F_2400 K_2416 nin0))
      have F_2444 := (Exa.ext E_2435 (Exa.keep X_2399 K_2416))
      have F_2445 := (Sta.ext E_2435 F_2424)
      refine Go.callI (a1 := a0) (pc' := 62) (argsL := [(.ref a_2431), (.int (0 : Int32))]) (rest := []) (ct_pfj0 l Z a0 hw n0 h_2432 [83, 116, 114, 105, 110, 103] f_2394 s_2395 b_2396 F_2442 F_2443 F_2444 (by decide) a_2431 b_2433 T_2441 (by omega) cs F_2445 hcs) at_57 (wd hw 191 rfl) (wd hw 192 rfl) (wd hw 193 rfl) (wd hw 194 rfl) (wd hw 195 rfl) (wd hw 196 rfl) (wd hw 197 rfl) (wd hw 55 rfl) (wd hw 26 rfl) (wd hw 198 rfl) F_2444 (by decide) (lenOf pd_22 rfl) rfl 0 rfl rfl (by decide) (by decide) (by decide) (by decide) sl0 rfl (fun v_2452 h_2453 N_2454 hQ_2455 hle_2456 => ?_)
      obtain ⟨s_2446, b_2447, rfl, g_2448, g_2449, K_2450, F_2451⟩ := hQ_2455
      have szh_2453 := nle K_2450.1
      have lts_2446 := nlt F_2451.lt
      have ltb_2447 := nlt F_2451.ltb
      have ges_2446 := nle g_2448
      have geb_2447 := nle g_2449
      refine Go.rs [(.ref s_2446)] rfl ?_
      refine Go.iloadN (pc' := 63) at_62 rfl rfl ?_
      refine Go.iloadN (pc' := 64) at_63 rfl rfl ?_
      refine Go.callS (a1 := a0) (pc' := 67) (argsL := [(.int (6 : Int32)), (.int (0 : Int32))]) (rest := [(.ref s_2446)]) (ct_expFromJson_6_0 l Z a0 hw n0 h_2453) at_64 (wd hw 207 rfl) (wd hw 208 rfl) (wd hw 3 rfl) (wd hw 209 rfl) (by decide) (lenOf pd_28 rfl) rfl 1 rfl rfl (by decide) (by decide) (by decide) (by decide) sl0 rfl (fun v_2463 h_2464 N_2465 hQ_2466 hle_2467 => ?_)
      obtain ⟨s_2457, b_2458, rfl, K_2461, F_2462⟩ := hQ_2466
      have szh_2464 := nle K_2461.1
      have lts_2457 := nlt F_2462.lt
      have ltb_2458 := nlt F_2462.ltb
      refine Go.rs [(.ref s_2457), (.ref s_2446)] rfl ?_
      have F_2468 := (Str.keep F_2451 K_2461 nin0 nin0)
      have F_2469 := (sta_keep (sta_keep F_2445 K_2450 ns0) K_2461 ns0)
      have X_2475 : Exa Z h_2464 s_2446 "java/lang/String" := F_2468.1
      refine Go.callV (a1 := a0) (pc' := 70) (argsL := [(.ref s_2457)]) (rest := []) (ct_eqT l Z a0 hw n0 h_2464 s_2446 s_2457 b_2447 b_2458 [106, 32, 97, 115, 32, 83, 116, 114, 105, 110, 103] F_2468 F_2462 (by decide) cs F_2469 hcs) at_67 (wd hw 180 rfl) (wd hw 181 rfl) (wd hw 183 rfl) (wd hw 183 rfl) (wd hw 182 rfl) (wd hw 28 rfl) (wd hw 184 rfl) X_2475 (by decide) (lenOf pd_29 rfl) rfl 0 rfl rfl (by decide) (by decide) (by decide) (by decide) sl0 rfl (fun v_2470 h_2471 N_2472 hQ_2473 hle_2474 => ?_)
      obtain ⟨rfl, rfl⟩ := hQ_2473
      refine Go.rs [(.int (1 : Int32))] rfl ?_
      refine Go.ifF (pc' := 73) at_70 (show ¬ ((1 : Int32) = (0 : Int32)) by decide) rfl ?_
      refine Go.aload (pc' := 75) at_73 rfl rfl rfl ?_
      refine Go.ldcR (pc' := 77) (a1 := a0) 4 (vs := [.int 118]) (z := 1) at_75 rfl (wd hw 211 rfl) (own_ws hw) (by decide) (by decide) (by decide) (by decide) rfl (own_ew hw) (List.mem_of_getElem? (i := 20) rfl) ⟨by decide, by decide⟩ (by decide) (by decide) (fun a_2476 h_2477 b_2478 k_2479 E_2480 X_2481 F_2482 F_2483 A_2484 ne_2485 => ?_)
      have szh_2477 := nle E_2480.1
      have lta_2476 := nlt X_2481.lt
      have ltb_2478 := nlt A_2484.lt
      have T_2486 : Str Z h_2477 a_2476 b_2478 [118] := ⟨X_2481, F_2482, F_2483, k_2479, A_2484⟩
      refine Go.iloadN (pc' := 78) at_77 rfl rfl ?_
      have F_2492 := (Exa.ext E_2480 (Exa.keep (Exa.keep F_2444 K_2450) K_2461))
      refine Go.callI (a1 := a0) (pc' := 83) (argsL := [(.ref a_2476), (.int (0 : Int32))]) (rest := []) (ct_ptj0 l Z a0 hw n0 h_2477 f_2394 a_2476) at_78 (wd hw 212 rfl) (wd hw 213 rfl) (wd hw 214 rfl) (wd hw 215 rfl) (wd hw 216 rfl) (wd hw 217 rfl) (wd hw 218 rfl) (wd hw 55 rfl) (wd hw 26 rfl) (wd hw 219 rfl) F_2492 (by decide) (lenOf pd_22 rfl) rfl 0 rfl rfl (by decide) (by decide) (by decide) (by decide) sl0 rfl (fun v_2487 h_2488 N_2489 hQ_2490 hle_2491 => ?_)
      obtain ⟨rfl, rfl⟩ := hQ_2490
      refine Go.rs [(.ref a_2476)] rfl ?_
      refine Go.iloadN (pc' := 84) at_83 rfl rfl ?_
      refine Go.iloadN (pc' := 85) at_84 rfl rfl ?_
      refine Go.callS (a1 := a0) (pc' := 88) (argsL := [(.int (6 : Int32)), (.int (0 : Int32))]) (rest := [(.ref a_2476)]) (ct_expToJson_6_0 l Z a0 hw n0 h_2477) at_85 (wd hw 220 rfl) (wd hw 221 rfl) (wd hw 3 rfl) (wd hw 222 rfl) (by decide) (lenOf pd_28 rfl) rfl 1 rfl rfl (by decide) (by decide) (by decide) (by decide) sl0 rfl (fun v_2499 h_2500 N_2501 hQ_2502 hle_2503 => ?_)
      obtain ⟨s_2493, b_2494, rfl, K_2497, F_2498⟩ := hQ_2502
      have szh_2500 := nle K_2497.1
      have lts_2493 := nlt F_2498.lt
      have ltb_2494 := nlt F_2498.ltb
      refine Go.rs [(.ref s_2493), (.ref a_2476)] rfl ?_
      have F_2504 := (Str.keep T_2486 K_2497 nin0 nin0)
      have F_2505 := (sta_keep (Sta.ext E_2480 F_2469) K_2497 ns0)
      have X_2511 : Exa Z h_2500 a_2476 "java/lang/String" := F_2504.1
      refine Go.callV (a1 := a0) (pc' := 91) (argsL := [(.ref s_2493)]) (rest := []) (ct_eqT l Z a0 hw n0 h_2500 a_2476 s_2493 b_2478 b_2494 [118] F_2504 F_2498 (by decide) cs F_2505 hcs) at_88 (wd hw 180 rfl) (wd hw 181 rfl) (wd hw 183 rfl) (wd hw 183 rfl) (wd hw 182 rfl) (wd hw 28 rfl) (wd hw 184 rfl) X_2511 (by decide) (lenOf pd_29 rfl) rfl 0 rfl rfl (by decide) (by decide) (by decide) (by decide) sl0 rfl (fun v_2506 h_2507 N_2508 hQ_2509 hle_2510 => ?_)
      obtain ⟨rfl, rfl⟩ := hQ_2509
      refine Go.rs [(.int (1 : Int32))] rfl ?_
      refine Go.ifF (pc' := 94) at_91 (show ¬ ((1 : Int32) = (0 : Int32)) by decide) rfl ?_
      refine Go.aload (pc' := 96) at_94 rfl rfl rfl ?_
      have F_2512 := (Str.keep (Str.ext (Str.keep (Str.keep F_2442 K_2450 nin0 nin0) K_2461 nin0 nin0) E_2480) K_2497 nin0 nin0)
      have F_2513 := (Fld.keep (Fld.ext E_2480 (Fld.keep (Fld.keep F_2443 K_2450 nin0) K_2461 nin0)) K_2497 nin0)
      have F_2519 := (Exa.keep F_2492 K_2497)
      refine Go.callI (a1 := a0) (pc' := 101) (argsL := []) (rest := []) (ct_pdt l Z a0 hw n0 h_2500 [83, 116, 114, 105, 110, 103] f_2394 s_2395 b_2396 F_2512 F_2513) at_96 (wd hw 223 rfl) (wd hw 224 rfl) (wd hw 225 rfl) (wd hw 226 rfl) (wd hw 227 rfl) (wd hw 228 rfl) (wd hw 229 rfl) (wd hw 55 rfl) (wd hw 26 rfl) (wd hw 230 rfl) F_2519 (by decide) (lenOf pd_20 rfl) rfl 0 rfl rfl (by decide) (by decide) (by decide) (by decide) sl0 rfl (fun v_2514 h_2515 N_2516 hQ_2517 hle_2518 => ?_)
      obtain ⟨rfl, rfl⟩ := hQ_2517
      refine Go.rs [(.ref s_2395)] rfl ?_
      refine Go.iloadN (pc' := 102) at_101 rfl rfl ?_
      refine Go.callS (a1 := a0) (pc' := 105) (argsL := [(.int (6 : Int32))]) (rest := [(.ref s_2395)]) (ct_expDecoded_6 l Z a0 hw n0 h_2500) at_102 (wd hw 231 rfl) (wd hw 232 rfl) (wd hw 3 rfl) (wd hw 233 rfl) (by decide) (lenOf pd_30 rfl) rfl 1 rfl rfl (by decide) (by decide) (by decide) (by decide) sl0 rfl (fun v_2526 h_2527 N_2528 hQ_2529 hle_2530 => ?_)
      obtain ⟨s_2520, b_2521, rfl, K_2524, F_2525⟩ := hQ_2529
      have szh_2527 := nle K_2524.1
      have lts_2520 := nlt F_2525.lt
      have ltb_2521 := nlt F_2525.ltb
      refine Go.rs [(.ref s_2520), (.ref s_2395)] rfl ?_
      have F_2531 := (Str.keep F_2512 K_2524 nin0 nin0)
      have F_2532 := (sta_keep F_2505 K_2524 ns0)
      have F_2538 := (Exa.keep (Exa.keep (Exa.ext E_2480 (Exa.keep (Exa.keep (Exa.ext E_2435 X_2430) K_2450) K_2461)) K_2497) K_2524)
      refine Go.callV (a1 := a0) (pc' := 108) (argsL := [(.ref s_2520)]) (rest := []) (ct_eqT l Z a0 hw n0 h_2527 s_2395 s_2520 b_2396 b_2521 [83, 116, 114, 105, 110, 103] F_2531 F_2525 (by decide) cs F_2532 hcs) at_105 (wd hw 180 rfl) (wd hw 181 rfl) (wd hw 183 rfl) (wd hw 183 rfl) (wd hw 182 rfl) (wd hw 28 rfl) (wd hw 184 rfl) F_2538 (by decide) (lenOf pd_29 rfl) rfl 0 rfl rfl (by decide) (by decide) (by decide) (by decide) sl0 rfl (fun v_2533 h_2534 N_2535 hQ_2536 hle_2537 => ?_)
      obtain ⟨rfl, rfl⟩ := hQ_2536
      refine Go.rs [(.int (1 : Int32))] rfl ?_
      refine Go.ifF (pc' := 111) at_108 (show ¬ ((1 : Int32) = (0 : Int32)) by decide) rfl ?_
      refine Go.aload (pc' := 113) at_111 rfl rfl rfl ?_
      refine Go.ldcR (pc' := 115) (a1 := a0) 4 (vs := [.int 106]) (z := 1) at_113 rfl (wd hw 190 rfl) (own_ws hw) (by decide) (by decide) (by decide) (by decide) rfl (own_ew hw) (List.mem_of_getElem? (i := 19) rfl) ⟨by decide, by decide⟩ (by decide) (by decide) (fun a_2539 h_2540 b_2541 k_2542 E_2543 X_2544 F_2545 F_2546 A_2547 ne_2548 => ?_)
      have szh_2540 := nle E_2543.1
      have lta_2539 := nlt X_2544.lt
      have ltb_2541 := nlt A_2547.lt
      have T_2549 : Str Z h_2540 a_2539 b_2541 [106] := ⟨X_2544, F_2545, F_2546, k_2542, A_2547⟩
      have F_2555 := (Exa.ext E_2543 (Exa.keep F_2519 K_2524))
      refine Go.callI (a1 := a0) (pc' := 120) (argsL := [(.ref a_2539)]) (rest := []) (ct_pfd l Z a0 hw n0 h_2540 f_2394 a_2539) at_115 (wd hw 235 rfl) (wd hw 236 rfl) (wd hw 237 rfl) (wd hw 238 rfl) (wd hw 239 rfl) (wd hw 240 rfl) (wd hw 241 rfl) (wd hw 55 rfl) (wd hw 26 rfl) (wd hw 242 rfl) F_2555 (by decide) (lenOf pd_24 rfl) rfl 0 rfl rfl (by decide) (by decide) (by decide) (by decide) sl0 rfl (fun v_2550 h_2551 N_2552 hQ_2553 hle_2554 => ?_)
      obtain ⟨rfl, rfl⟩ := hQ_2553
      refine Go.rs [(.ref a_2539)] rfl ?_
      refine Go.iloadN (pc' := 121) at_120 rfl rfl ?_
      refine Go.callS (a1 := a0) (pc' := 124) (argsL := [(.int (6 : Int32))]) (rest := [(.ref a_2539)]) (ct_expFromDecoded_6 l Z a0 hw n0 h_2540) at_121 (wd hw 243 rfl) (wd hw 244 rfl) (wd hw 3 rfl) (wd hw 245 rfl) (by decide) (lenOf pd_30 rfl) rfl 1 rfl rfl (by decide) (by decide) (by decide) (by decide) sl0 rfl (fun v_2562 h_2563 N_2564 hQ_2565 hle_2566 => ?_)
      obtain ⟨s_2556, b_2557, rfl, K_2560, F_2561⟩ := hQ_2565
      have szh_2563 := nle K_2560.1
      have lts_2556 := nlt F_2561.lt
      have ltb_2557 := nlt F_2561.ltb
      refine Go.rs [(.ref s_2556), (.ref a_2539)] rfl ?_
      have F_2567 := (Str.keep T_2549 K_2560 nin0 nin0)
      have F_2568 := (sta_keep (Sta.ext E_2543 F_2532) K_2560 ns0)
      have X_2574 : Exa Z h_2563 a_2539 "java/lang/String" := F_2567.1
      refine Go.callV (a1 := a0) (pc' := 127) (argsL := [(.ref s_2556)]) (rest := []) (ct_eqT l Z a0 hw n0 h_2563 a_2539 s_2556 b_2541 b_2557 [106] F_2567 F_2561 (by decide) cs F_2568 hcs) at_124 (wd hw 180 rfl) (wd hw 181 rfl) (wd hw 183 rfl) (wd hw 183 rfl) (wd hw 182 rfl) (wd hw 28 rfl) (wd hw 184 rfl) X_2574 (by decide) (lenOf pd_29 rfl) rfl 0 rfl rfl (by decide) (by decide) (by decide) (by decide) sl0 rfl (fun v_2569 h_2570 N_2571 hQ_2572 hle_2573 => ?_)
      obtain ⟨rfl, rfl⟩ := hQ_2572
      refine Go.rs [(.int (1 : Int32))] rfl ?_
      refine Go.ifF (pc' := 130) at_127 (show ¬ ((1 : Int32) = (0 : Int32)) by decide) rfl ?_
      refine Go.iconst (pc' := 131) 1 at_130 rfl rfl ?_
      refine Go.goto (pc' := 135) at_131 (by decide) (by decide) ?_
      refine Go.retN (t := .boolean) (1 : Int32) rfl (by simp) rfl [] sl0 at_135 (by decide) (by decide) ?_
      exact ⟨rfl, (Keep.trans (Keep.ext (Keep.trans (Keep.trans (Keep.ext (Keep.trans (Keep.trans (Keep.ext (Keep.trans (Keep.trans (Keep.refl _ []) K_2398 all0) K_2416 all0) E_2435) K_2450 all0) K_2461 all0) E_2480) K_2497 all0) K_2524 all0) E_2543) K_2560 all0)⟩
    · have hc_2388 : ¬ ((p1 &&& (1 : Int32)) = 0) := hc_2388
      refine Go.iconst (pc' := 15) 1 at_14 rfl rfl ?_
      refine Go.goto (pc' := 19) at_15 (by decide) (by decide) ?_
      refine Go.istoreN (pc' := 20) #[.val (.int p0), .val (.int p1), .val (.int (6 : Int32)), .val (.int (1 : Int32)), .unset, .unset] at_19 rfl rfl ?_
      refine Go.iloadN (pc' := 21) at_20 rfl rfl ?_
      refine Go.callS (a1 := a0) (pc' := 24) (argsL := [(.int (6 : Int32))]) (rest := []) (ct_sc6 l Z a0 hw n0 h0 o_BINARY S_BINARY) at_21 (wd hw 1 rfl) (wd hw 2 rfl) (wd hw 3 rfl) (wd hw 4 rfl) (by decide) (lenOf pd_26 rfl) rfl 0 rfl rfl (by decide) (by decide) (by decide) (by decide) sl0 rfl (fun v_2575 h_2576 N_2577 hQ_2578 hle_2579 => ?_)
      obtain ⟨rfl, rfl⟩ := hQ_2578
      refine Go.rs [(.ref o_BINARY)] rfl ?_
      refine Go.astore (pc' := 26) #[.val (.int p0), .val (.int p1), .val (.int (6 : Int32)), .val (.int (1 : Int32)), .val (.ref o_BINARY), .unset] at_24 rfl rfl rfl ?_
      refine Go.aload (pc' := 28) at_26 rfl rfl rfl ?_
      refine Go.callS (a1 := a0) (pc' := 31) (argsL := [(.ref o_BINARY)]) (rest := []) (ct_of6 l Z a0 hw n0 h0 o_BINARY X_BINARY F_BINARY_ordinal b1 cl S_B A_B hi_6 he_6 (by omega)) at_28 (wd hw 8 rfl) (wd hw 9 rfl) (wd hw 10 rfl) (wd hw 11 rfl) (by decide) (lenOf pd_27 rfl) rfl 0 rfl rfl (by decide) (by decide) (by decide) (by decide) sl0 rfl (fun v_2588 h_2589 N_2590 hQ_2591 hle_2592 => ?_)
      obtain ⟨f_2580, s_2581, b_2582, rfl, g_2583, K_2584, X_2585, F_2586, F_2587⟩ := hQ_2591
      have szh_2589 := nle K_2584.1
      have ltf_2580 := nlt X_2585.lt
      have gef_2580 := nle g_2583
      have lts_2581 := nlt F_2587.lt
      have ltb_2582 := nlt F_2587.ltb
      refine Go.rs [(.ref f_2580)] rfl ?_
      refine Go.astore (pc' := 33) #[.val (.int p0), .val (.int p1), .val (.int (6 : Int32)), .val (.int (1 : Int32)), .val (.ref o_BINARY), .val (.ref f_2580)] at_31 rfl rfl rfl ?_
      refine Go.aload (pc' := 35) at_33 rfl rfl rfl ?_
      refine Go.iloadN (pc' := 36) at_35 rfl rfl ?_
      have F_2593 := (sta_keep S_cs K_2584 ns0)
      refine Go.callI (a1 := a0) (pc' := 41) (argsL := [(.int (1 : Int32))]) (rest := []) (ct_pty1 l Z a0 hw n0 h_2589 [83, 116, 114, 105, 110, 103] f_2580 s_2581 b_2582 F_2587 F_2586 (by decide) (by omega) cs F_2593 hcs) at_36 (wd hw 48 rfl) (wd hw 49 rfl) (wd hw 50 rfl) (wd hw 51 rfl) (wd hw 52 rfl) (wd hw 53 rfl) (wd hw 54 rfl) (wd hw 55 rfl) (wd hw 26 rfl) (wd hw 56 rfl) X_2585 (by decide) (lenOf pd_23 rfl) rfl 0 rfl rfl (by decide) (by decide) (by decide) (by decide) sl0 rfl (fun v_2600 h_2601 N_2602 hQ_2603 hle_2604 => ?_)
      obtain ⟨s_2594, b_2595, rfl, g_2596, g_2597, K_2598, F_2599⟩ := hQ_2603
      have szh_2601 := nle K_2598.1
      have lts_2594 := nlt F_2599.lt
      have ltb_2595 := nlt F_2599.ltb
      have ges_2594 := nle g_2596
      have geb_2595 := nle g_2597
      refine Go.rs [(.ref s_2594)] rfl ?_
      refine Go.iloadN (pc' := 42) at_41 rfl rfl ?_
      refine Go.iloadN (pc' := 43) at_42 rfl rfl ?_
      refine Go.callS (a1 := a0) (pc' := 46) (argsL := [(.int (6 : Int32)), (.int (1 : Int32))]) (rest := [(.ref s_2594)]) (ct_expType_6_1 l Z a0 hw n0 h_2601) at_43 (wd hw 176 rfl) (wd hw 177 rfl) (wd hw 3 rfl) (wd hw 178 rfl) (by decide) (lenOf pd_28 rfl) rfl 1 rfl rfl (by decide) (by decide) (by decide) (by decide) sl0 rfl (fun v_2611 h_2612 N_2613 hQ_2614 hle_2615 => ?_)
      obtain ⟨s_2605, b_2606, rfl, K_2609, F_2610⟩ := hQ_2614
      have szh_2612 := nle K_2609.1
      have lts_2605 := nlt F_2610.lt
      have ltb_2606 := nlt F_2610.ltb
      refine Go.rs [(.ref s_2605), (.ref s_2594)] rfl ?_
      have F_2616 := (Str.keep F_2599 K_2609 nin0 nin0)
      have F_2617 := (sta_keep (sta_keep F_2593 K_2598 ns0) K_2609 ns0)
      have X_2623 : Exa Z h_2612 s_2594 "java/lang/String" := F_2616.1
      refine Go.callV (a1 := a0) (pc' := 49) (argsL := [(.ref s_2605)]) (rest := []) (ct_eqT l Z a0 hw n0 h_2612 s_2594 s_2605 b_2595 b_2606 [83, 116, 114, 105, 110, 103, 63] F_2616 F_2610 (by decide) cs F_2617 hcs) at_46 (wd hw 180 rfl) (wd hw 181 rfl) (wd hw 183 rfl) (wd hw 183 rfl) (wd hw 182 rfl) (wd hw 28 rfl) (wd hw 184 rfl) X_2623 (by decide) (lenOf pd_29 rfl) rfl 0 rfl rfl (by decide) (by decide) (by decide) (by decide) sl0 rfl (fun v_2618 h_2619 N_2620 hQ_2621 hle_2622 => ?_)
      obtain ⟨rfl, rfl⟩ := hQ_2621
      refine Go.rs [(.int (1 : Int32))] rfl ?_
      refine Go.ifF (pc' := 52) at_49 (show ¬ ((1 : Int32) = (0 : Int32)) by decide) rfl ?_
      refine Go.aload (pc' := 54) at_52 rfl rfl rfl ?_
      refine Go.ldcR (pc' := 56) (a1 := a0) 4 (vs := [.int 106]) (z := 1) at_54 rfl (wd hw 190 rfl) (own_ws hw) (by decide) (by decide) (by decide) (by decide) rfl (own_ew hw) (List.mem_of_getElem? (i := 19) rfl) ⟨by decide, by decide⟩ (by decide) (by decide) (fun a_2624 h_2625 b_2626 k_2627 E_2628 X_2629 F_2630 F_2631 A_2632 ne_2633 => ?_)
      have szh_2625 := nle E_2628.1
      have lta_2624 := nlt X_2629.lt
      have ltb_2626 := nlt A_2632.lt
      have T_2634 : Str Z h_2625 a_2624 b_2626 [106] := ⟨X_2629, F_2630, F_2631, k_2627, A_2632⟩
      refine Go.iloadN (pc' := 57) at_56 rfl rfl ?_
      have F_2635 := (Str.ext (Str.keep (Str.keep F_2587 K_2598 nin0 nin0) K_2609 nin0 nin0) E_2628)
      have F_2636 := (Fld.ext E_2628 (Fld.keep (Fld.keep F_2586 K_2598 nin0) K_2609 nin0))
      have F_2637 := (Exa.ext E_2628 (Exa.keep (Exa.keep X_2585 K_2598) K_2609))
      have F_2638 := (Sta.ext E_2628 F_2617)
      refine Go.callI (a1 := a0) (pc' := 62) (argsL := [(.ref a_2624), (.int (1 : Int32))]) (rest := []) (ct_pfj1 l Z a0 hw n0 h_2625 [83, 116, 114, 105, 110, 103] f_2580 s_2581 b_2582 F_2635 F_2636 F_2637 (by decide) a_2624 b_2626 T_2634 (by omega) cs F_2638 hcs) at_57 (wd hw 191 rfl) (wd hw 192 rfl) (wd hw 193 rfl) (wd hw 194 rfl) (wd hw 195 rfl) (wd hw 196 rfl) (wd hw 197 rfl) (wd hw 55 rfl) (wd hw 26 rfl) (wd hw 198 rfl) F_2637 (by decide) (lenOf pd_22 rfl) rfl 0 rfl rfl (by decide) (by decide) (by decide) (by decide) sl0 rfl (fun v_2645 h_2646 N_2647 hQ_2648 hle_2649 => ?_)
      obtain ⟨s_2639, b_2640, rfl, g_2641, g_2642, K_2643, F_2644⟩ := hQ_2648
      have szh_2646 := nle K_2643.1
      have lts_2639 := nlt F_2644.lt
      have ltb_2640 := nlt F_2644.ltb
      have ges_2639 := nle g_2641
      have geb_2640 := nle g_2642
      refine Go.rs [(.ref s_2639)] rfl ?_
      refine Go.iloadN (pc' := 63) at_62 rfl rfl ?_
      refine Go.iloadN (pc' := 64) at_63 rfl rfl ?_
      refine Go.callS (a1 := a0) (pc' := 67) (argsL := [(.int (6 : Int32)), (.int (1 : Int32))]) (rest := [(.ref s_2639)]) (ct_expFromJson_6_1 l Z a0 hw n0 h_2646) at_64 (wd hw 207 rfl) (wd hw 208 rfl) (wd hw 3 rfl) (wd hw 209 rfl) (by decide) (lenOf pd_28 rfl) rfl 1 rfl rfl (by decide) (by decide) (by decide) (by decide) sl0 rfl (fun v_2656 h_2657 N_2658 hQ_2659 hle_2660 => ?_)
      obtain ⟨s_2650, b_2651, rfl, K_2654, F_2655⟩ := hQ_2659
      have szh_2657 := nle K_2654.1
      have lts_2650 := nlt F_2655.lt
      have ltb_2651 := nlt F_2655.ltb
      refine Go.rs [(.ref s_2650), (.ref s_2639)] rfl ?_
      have F_2661 := (Str.keep F_2644 K_2654 nin0 nin0)
      have F_2662 := (sta_keep (sta_keep F_2638 K_2643 ns0) K_2654 ns0)
      have X_2668 : Exa Z h_2657 s_2639 "java/lang/String" := F_2661.1
      refine Go.callV (a1 := a0) (pc' := 70) (argsL := [(.ref s_2650)]) (rest := []) (ct_eqT l Z a0 hw n0 h_2657 s_2639 s_2650 b_2640 b_2651 [106, 32, 97, 115, 32, 83, 116, 114, 105, 110, 103, 63] F_2661 F_2655 (by decide) cs F_2662 hcs) at_67 (wd hw 180 rfl) (wd hw 181 rfl) (wd hw 183 rfl) (wd hw 183 rfl) (wd hw 182 rfl) (wd hw 28 rfl) (wd hw 184 rfl) X_2668 (by decide) (lenOf pd_29 rfl) rfl 0 rfl rfl (by decide) (by decide) (by decide) (by decide) sl0 rfl (fun v_2663 h_2664 N_2665 hQ_2666 hle_2667 => ?_)
      obtain ⟨rfl, rfl⟩ := hQ_2666
      refine Go.rs [(.int (1 : Int32))] rfl ?_
      refine Go.ifF (pc' := 73) at_70 (show ¬ ((1 : Int32) = (0 : Int32)) by decide) rfl ?_
      refine Go.aload (pc' := 75) at_73 rfl rfl rfl ?_
      refine Go.ldcR (pc' := 77) (a1 := a0) 4 (vs := [.int 118]) (z := 1) at_75 rfl (wd hw 211 rfl) (own_ws hw) (by decide) (by decide) (by decide) (by decide) rfl (own_ew hw) (List.mem_of_getElem? (i := 20) rfl) ⟨by decide, by decide⟩ (by decide) (by decide) (fun a_2669 h_2670 b_2671 k_2672 E_2673 X_2674 F_2675 F_2676 A_2677 ne_2678 => ?_)
      have szh_2670 := nle E_2673.1
      have lta_2669 := nlt X_2674.lt
      have ltb_2671 := nlt A_2677.lt
      have T_2679 : Str Z h_2670 a_2669 b_2671 [118] := ⟨X_2674, F_2675, F_2676, k_2672, A_2677⟩
      refine Go.iloadN (pc' := 78) at_77 rfl rfl ?_
      have F_2685 := (Exa.ext E_2673 (Exa.keep (Exa.keep F_2637 K_2643) K_2654))
      refine Go.callI (a1 := a0) (pc' := 83) (argsL := [(.ref a_2669), (.int (1 : Int32))]) (rest := []) (ct_ptj1 l Z a0 hw n0 h_2670 f_2580 a_2669) at_78 (wd hw 212 rfl) (wd hw 213 rfl) (wd hw 214 rfl) (wd hw 215 rfl) (wd hw 216 rfl) (wd hw 217 rfl) (wd hw 218 rfl) (wd hw 55 rfl) (wd hw 26 rfl) (wd hw 219 rfl) F_2685 (by decide) (lenOf pd_22 rfl) rfl 0 rfl rfl (by decide) (by decide) (by decide) (by decide) sl0 rfl (fun v_2680 h_2681 N_2682 hQ_2683 hle_2684 => ?_)
      obtain ⟨rfl, rfl⟩ := hQ_2683
      refine Go.rs [(.ref a_2669)] rfl ?_
      refine Go.iloadN (pc' := 84) at_83 rfl rfl ?_
      refine Go.iloadN (pc' := 85) at_84 rfl rfl ?_
      refine Go.callS (a1 := a0) (pc' := 88) (argsL := [(.int (6 : Int32)), (.int (1 : Int32))]) (rest := [(.ref a_2669)]) (ct_expToJson_6_1 l Z a0 hw n0 h_2670) at_85 (wd hw 220 rfl) (wd hw 221 rfl) (wd hw 3 rfl) (wd hw 222 rfl) (by decide) (lenOf pd_28 rfl) rfl 1 rfl rfl (by decide) (by decide) (by decide) (by decide) sl0 rfl (fun v_2692 h_2693 N_2694 hQ_2695 hle_2696 => ?_)
      obtain ⟨s_2686, b_2687, rfl, K_2690, F_2691⟩ := hQ_2695
      have szh_2693 := nle K_2690.1
      have lts_2686 := nlt F_2691.lt
      have ltb_2687 := nlt F_2691.ltb
      refine Go.rs [(.ref s_2686), (.ref a_2669)] rfl ?_
      have F_2697 := (Str.keep T_2679 K_2690 nin0 nin0)
      have F_2698 := (sta_keep (Sta.ext E_2673 F_2662) K_2690 ns0)
      have X_2704 : Exa Z h_2693 a_2669 "java/lang/String" := F_2697.1
      refine Go.callV (a1 := a0) (pc' := 91) (argsL := [(.ref s_2686)]) (rest := []) (ct_eqT l Z a0 hw n0 h_2693 a_2669 s_2686 b_2671 b_2687 [118] F_2697 F_2691 (by decide) cs F_2698 hcs) at_88 (wd hw 180 rfl) (wd hw 181 rfl) (wd hw 183 rfl) (wd hw 183 rfl) (wd hw 182 rfl) (wd hw 28 rfl) (wd hw 184 rfl) X_2704 (by decide) (lenOf pd_29 rfl) rfl 0 rfl rfl (by decide) (by decide) (by decide) (by decide) sl0 rfl (fun v_2699 h_2700 N_2701 hQ_2702 hle_2703 => ?_)
      obtain ⟨rfl, rfl⟩ := hQ_2702
      refine Go.rs [(.int (1 : Int32))] rfl ?_
      refine Go.ifF (pc' := 94) at_91 (show ¬ ((1 : Int32) = (0 : Int32)) by decide) rfl ?_
      refine Go.aload (pc' := 96) at_94 rfl rfl rfl ?_
      have F_2705 := (Str.keep (Str.ext (Str.keep (Str.keep F_2635 K_2643 nin0 nin0) K_2654 nin0 nin0) E_2673) K_2690 nin0 nin0)
      have F_2706 := (Fld.keep (Fld.ext E_2673 (Fld.keep (Fld.keep F_2636 K_2643 nin0) K_2654 nin0)) K_2690 nin0)
      have F_2712 := (Exa.keep F_2685 K_2690)
      refine Go.callI (a1 := a0) (pc' := 101) (argsL := []) (rest := []) (ct_pdt l Z a0 hw n0 h_2693 [83, 116, 114, 105, 110, 103] f_2580 s_2581 b_2582 F_2705 F_2706) at_96 (wd hw 223 rfl) (wd hw 224 rfl) (wd hw 225 rfl) (wd hw 226 rfl) (wd hw 227 rfl) (wd hw 228 rfl) (wd hw 229 rfl) (wd hw 55 rfl) (wd hw 26 rfl) (wd hw 230 rfl) F_2712 (by decide) (lenOf pd_20 rfl) rfl 0 rfl rfl (by decide) (by decide) (by decide) (by decide) sl0 rfl (fun v_2707 h_2708 N_2709 hQ_2710 hle_2711 => ?_)
      obtain ⟨rfl, rfl⟩ := hQ_2710
      refine Go.rs [(.ref s_2581)] rfl ?_
      refine Go.iloadN (pc' := 102) at_101 rfl rfl ?_
      refine Go.callS (a1 := a0) (pc' := 105) (argsL := [(.int (6 : Int32))]) (rest := [(.ref s_2581)]) (ct_expDecoded_6 l Z a0 hw n0 h_2693) at_102 (wd hw 231 rfl) (wd hw 232 rfl) (wd hw 3 rfl) (wd hw 233 rfl) (by decide) (lenOf pd_30 rfl) rfl 1 rfl rfl (by decide) (by decide) (by decide) (by decide) sl0 rfl (fun v_2719 h_2720 N_2721 hQ_2722 hle_2723 => ?_)
      obtain ⟨s_2713, b_2714, rfl, K_2717, F_2718⟩ := hQ_2722
      have szh_2720 := nle K_2717.1
      have lts_2713 := nlt F_2718.lt
      have ltb_2714 := nlt F_2718.ltb
      refine Go.rs [(.ref s_2713), (.ref s_2581)] rfl ?_
      have F_2724 := (Str.keep F_2705 K_2717 nin0 nin0)
      have F_2725 := (sta_keep F_2698 K_2717 ns0)
      have X_2731 : Exa Z h_2720 s_2581 "java/lang/String" := F_2724.1
      refine Go.callV (a1 := a0) (pc' := 108) (argsL := [(.ref s_2713)]) (rest := []) (ct_eqT l Z a0 hw n0 h_2720 s_2581 s_2713 b_2582 b_2714 [83, 116, 114, 105, 110, 103] F_2724 F_2718 (by decide) cs F_2725 hcs) at_105 (wd hw 180 rfl) (wd hw 181 rfl) (wd hw 183 rfl) (wd hw 183 rfl) (wd hw 182 rfl) (wd hw 28 rfl) (wd hw 184 rfl) X_2731 (by decide) (lenOf pd_29 rfl) rfl 0 rfl rfl (by decide) (by decide) (by decide) (by decide) sl0 rfl (fun v_2726 h_2727 N_2728 hQ_2729 hle_2730 => ?_)
      obtain ⟨rfl, rfl⟩ := hQ_2729
      refine Go.rs [(.int (1 : Int32))] rfl ?_
      refine Go.ifF (pc' := 111) at_108 (show ¬ ((1 : Int32) = (0 : Int32)) by decide) rfl ?_
      refine Go.aload (pc' := 113) at_111 rfl rfl rfl ?_
      refine Go.ldcR (pc' := 115) (a1 := a0) 4 (vs := [.int 106]) (z := 1) at_113 rfl (wd hw 190 rfl) (own_ws hw) (by decide) (by decide) (by decide) (by decide) rfl (own_ew hw) (List.mem_of_getElem? (i := 19) rfl) ⟨by decide, by decide⟩ (by decide) (by decide) (fun a_2732 h_2733 b_2734 k_2735 E_2736 X_2737 F_2738 F_2739 A_2740 ne_2741 => ?_)
      have szh_2733 := nle E_2736.1
      have lta_2732 := nlt X_2737.lt
      have ltb_2734 := nlt A_2740.lt
      have T_2742 : Str Z h_2733 a_2732 b_2734 [106] := ⟨X_2737, F_2738, F_2739, k_2735, A_2740⟩
      have F_2748 := (Exa.ext E_2736 (Exa.keep F_2712 K_2717))
      refine Go.callI (a1 := a0) (pc' := 120) (argsL := [(.ref a_2732)]) (rest := []) (ct_pfd l Z a0 hw n0 h_2733 f_2580 a_2732) at_115 (wd hw 235 rfl) (wd hw 236 rfl) (wd hw 237 rfl) (wd hw 238 rfl) (wd hw 239 rfl) (wd hw 240 rfl) (wd hw 241 rfl) (wd hw 55 rfl) (wd hw 26 rfl) (wd hw 242 rfl) F_2748 (by decide) (lenOf pd_24 rfl) rfl 0 rfl rfl (by decide) (by decide) (by decide) (by decide) sl0 rfl (fun v_2743 h_2744 N_2745 hQ_2746 hle_2747 => ?_)
      obtain ⟨rfl, rfl⟩ := hQ_2746
      refine Go.rs [(.ref a_2732)] rfl ?_
      refine Go.iloadN (pc' := 121) at_120 rfl rfl ?_
      refine Go.callS (a1 := a0) (pc' := 124) (argsL := [(.int (6 : Int32))]) (rest := [(.ref a_2732)]) (ct_expFromDecoded_6 l Z a0 hw n0 h_2733) at_121 (wd hw 243 rfl) (wd hw 244 rfl) (wd hw 3 rfl) (wd hw 245 rfl) (by decide) (lenOf pd_30 rfl) rfl 1 rfl rfl (by decide) (by decide) (by decide) (by decide) sl0 rfl (fun v_2755 h_2756 N_2757 hQ_2758 hle_2759 => ?_)
      obtain ⟨s_2749, b_2750, rfl, K_2753, F_2754⟩ := hQ_2758
      have szh_2756 := nle K_2753.1
      have lts_2749 := nlt F_2754.lt
      have ltb_2750 := nlt F_2754.ltb
      refine Go.rs [(.ref s_2749), (.ref a_2732)] rfl ?_
      have F_2760 := (Str.keep T_2742 K_2753 nin0 nin0)
      have F_2761 := (sta_keep (Sta.ext E_2736 F_2725) K_2753 ns0)
      have X_2767 : Exa Z h_2756 a_2732 "java/lang/String" := F_2760.1
      refine Go.callV (a1 := a0) (pc' := 127) (argsL := [(.ref s_2749)]) (rest := []) (ct_eqT l Z a0 hw n0 h_2756 a_2732 s_2749 b_2734 b_2750 [106] F_2760 F_2754 (by decide) cs F_2761 hcs) at_124 (wd hw 180 rfl) (wd hw 181 rfl) (wd hw 183 rfl) (wd hw 183 rfl) (wd hw 182 rfl) (wd hw 28 rfl) (wd hw 184 rfl) X_2767 (by decide) (lenOf pd_29 rfl) rfl 0 rfl rfl (by decide) (by decide) (by decide) (by decide) sl0 rfl (fun v_2762 h_2763 N_2764 hQ_2765 hle_2766 => ?_)
      obtain ⟨rfl, rfl⟩ := hQ_2765
      refine Go.rs [(.int (1 : Int32))] rfl ?_
      refine Go.ifF (pc' := 130) at_127 (show ¬ ((1 : Int32) = (0 : Int32)) by decide) rfl ?_
      refine Go.iconst (pc' := 131) 1 at_130 rfl rfl ?_
      refine Go.goto (pc' := 135) at_131 (by decide) (by decide) ?_
      refine Go.retN (t := .boolean) (1 : Int32) rfl (by simp) rfl [] sl0 at_135 (by decide) (by decide) ?_
      exact ⟨rfl, (Keep.trans (Keep.ext (Keep.trans (Keep.trans (Keep.ext (Keep.trans (Keep.trans (Keep.ext (Keep.trans (Keep.trans (Keep.trans (Keep.refl _ []) K_2584 all0) K_2598 all0) K_2609 all0) E_2628) K_2643 all0) K_2654 all0) E_2673) K_2690 all0) K_2717 all0) E_2736) K_2753 all0)⟩
set_option maxRecDepth 65536 in
set_option maxHeartbeats 40000000 in
theorem comes_1 {Post : Tables → Env → Array Value → State → Outcome → State → Prop} (hpost : ∀ tb e args s v u, (limb_1_1.after args s (.returned v) u = true ∧ limb_1_2.after args s (.returned v) u = true ∧ True) → ReturnedEndW s (.returned v) u (Jvm.fieldLocs frame_1_writes args s ++ Jvm.arrayLocs frame_1_arrays args s ++ Jvm.staticLocs frame_1_statics s) 184 50752 → Post tb e args s (.returned v) u) :
    ArmFor flags0 classFile x code maxLocals ret World_1 tables_1 room_1 Calls_1 rest_1 Pre_1 Post := by
  intro l hfl _ _ p e ha hc hk s m args below hf hA hF happ hP
  obtain ⟨hcalls, hrest, hpre⟩ := hP
  obtain ⟨-, -, -, hnamed, -, -, -, hat⟩ := (Spec.applies_iff hf).mp happ
  obtain ⟨hg, hn⟩ := and_e (Cond.before_iff.mp (show (Jvm.Cond.and given_1 narrow_1).before args s = true from hpre))
  obtain ⟨g0, hg⟩ := and_e hg
  obtain ⟨w0, w1, rfl⟩ : ∃ w0 w1 : Value, args = #[w0, w1] := by
    have hs : args.size = 2 := by simpa [Cond.value, given_1] using g0
    obtain ⟨L⟩ := args
    match L, hs with
    | [w0, w1], _ => exact ⟨w0, w1, rfl⟩
  have hw := fun d (hd : d ∈ tables_1) => atoms_spec (ws := Jvm.Cond.code x code maxLocals ret :: tables_1) hat d (List.mem_cons_of_mem _ hd)
  have hfit : Fit s := fun {y c} hc i hi => by
    obtain ⟨ha, rfl⟩ := Array.getElem?_eq_some_iff.mp hc
    have q := List.all_eq_true.mp ((Array.all_eq_true_iff_forall_mem.mp hF) _ (Array.getElem_mem ha)) i (List.mem_range.mpr hi)
    simpa [Array.getElem?_eq_getElem hi] using q
  obtain ⟨g1, hg⟩ := and_e hg
  have g2 := hg
  obtain ⟨p0, e0⟩ := is_v g1
  obtain rfl : w0 = (.int p0) := Option.some.inj e0
  obtain ⟨p1, e1⟩ := is_v g2
  obtain rfl : w1 = (.int p1) := Option.some.inj e1
  obtain ⟨c0, hn⟩ := and_e hn
  obtain ⟨c1, hn⟩ := and_e hn
  obtain ⟨c2, hn⟩ := and_e hn
  obtain ⟨c3, hn⟩ := and_e hn
  obtain ⟨c4, hn⟩ := and_e hn
  obtain ⟨c5, hn⟩ := and_e hn
  obtain ⟨c6, hn⟩ := and_e hn
  obtain ⟨c7, hn⟩ := and_e hn
  obtain ⟨c8, hn⟩ := and_e hn
  obtain ⟨c9, hn⟩ := and_e hn
  obtain ⟨c10, hn⟩ := and_e hn
  obtain ⟨c11, hn⟩ := and_e hn
  obtain ⟨c12, hn⟩ := and_e hn
  obtain ⟨c13, hn⟩ := and_e hn
  obtain ⟨c14, hn⟩ := and_e hn
  obtain ⟨c15, hn⟩ := and_e hn
  obtain ⟨c16, hn⟩ := and_e hn
  obtain ⟨c17, hn⟩ := and_e hn
  obtain ⟨c18, hn⟩ := and_e hn
  obtain ⟨c19, hn⟩ := and_e hn
  obtain ⟨c20, hn⟩ := and_e hn
  obtain ⟨c21, hn⟩ := and_e hn
  have c22 := hn
  obtain ⟨o_INTEGER, ev_INTEGER⟩ := exa_v c0
  have S_INTEGER := Sta.start ev_INTEGER (Or.inr ⟨(wd hw 6 rfl), (wd hw 7 rfl)⟩)
  have X_INTEGER := Exa.start ev_INTEGER c0
  have F_INTEGER_ordinal := Fld.start ((fld_at ev_INTEGER).symm.trans (eqv_i (Term.int_eval (0)) c3))
  obtain ⟨o_BOOLEAN, ev_BOOLEAN⟩ := exa_v c4
  have S_BOOLEAN := Sta.start ev_BOOLEAN (Or.inr ⟨(wd hw 6 rfl), (wd hw 247 rfl)⟩)
  have X_BOOLEAN := Exa.start ev_BOOLEAN c4
  have F_BOOLEAN_ordinal := Fld.start ((fld_at ev_BOOLEAN).symm.trans (eqv_i (Term.int_eval (3)) c5))
  obtain ⟨o_NUMBER, ev_NUMBER⟩ := exa_v c6
  have S_NUMBER := Sta.start ev_NUMBER (Or.inr ⟨(wd hw 6 rfl), (wd hw 253 rfl)⟩)
  have X_NUMBER := Exa.start ev_NUMBER c6
  have F_NUMBER_ordinal := Fld.start ((fld_at ev_NUMBER).symm.trans (eqv_i (Term.int_eval (1)) c7))
  obtain ⟨o_DATE, ev_DATE⟩ := exa_v c8
  have S_DATE := Sta.start ev_DATE (Or.inr ⟨(wd hw 6 rfl), (wd hw 319 rfl)⟩)
  have X_DATE := Exa.start ev_DATE c8
  have F_DATE_ordinal := Fld.start ((fld_at ev_DATE).symm.trans (eqv_i (Term.int_eval (4)) c9))
  obtain ⟨o_BINARY, ev_BINARY⟩ := exa_v c10
  have S_BINARY := Sta.start ev_BINARY (Or.inr ⟨(wd hw 6 rfl), (wd hw 386 rfl)⟩)
  have X_BINARY := Exa.start ev_BINARY c10
  have F_BINARY_ordinal := Fld.start ((fld_at ev_BINARY).symm.trans (eqv_i (Term.int_eval (6)) c11))
  obtain ⟨o_DATE_TIME, ev_DATE_TIME⟩ := exa_v c12
  have S_DATE_TIME := Sta.start ev_DATE_TIME (Or.inr ⟨(wd hw 6 rfl), (wd hw 393 rfl)⟩)
  have X_DATE_TIME := Exa.start ev_DATE_TIME c12
  have F_DATE_TIME_ordinal := Fld.start ((fld_at ev_DATE_TIME).symm.trans (eqv_i (Term.int_eval (5)) c13))
  obtain ⟨o_STRING, ev_STRING⟩ := exa_v c14
  have S_STRING := Sta.start ev_STRING (Or.inr ⟨(wd hw 6 rfl), (wd hw 398 rfl)⟩)
  have X_STRING := Exa.start ev_STRING c14
  have F_STRING_ordinal := Fld.start ((fld_at ev_STRING).symm.trans (eqv_i (Term.int_eval (2)) c15))
  obtain ⟨hsets, hown0⟩ := atoms_of _ (rest_1_c_eq ▸ (show rest_1_c.before _ s = true from hrest))
  have ncs := not_v (Cond.before_iff.mp (hsets _ (List.mem_of_getElem? (i := 2) rfl)))
  obtain ⟨cs, ecs⟩ := is_v (Cond.before_iff.mp (hsets _ (List.mem_of_getElem? (i := 1) rfl)))
  have S_cs : Sta s s.heap "java/lang/String" "COMPACT_STRINGS" "Z" (.int cs) := Sta.start ecs (Or.inl (hsets _ (List.mem_of_getElem? (i := 0) rfl)))
  have hcs : ¬ (cs = (0 : Int32)) := gotF (Cond.eq_ints ecs (Term.int_eval (0))) ncs
  obtain ⟨b1, ev_B⟩ := len_v (eqv_i (Term.int_eval (7)) c2)
  have S_B := Sta.start ev_B (Or.inr ⟨(wd hw 13 rfl), (wd hw 14 rfl)⟩)
  obtain ⟨cl, A_B⟩ := Arr.start ev_B c1
  have z_0 := elem_in (eqv_i (Term.int_eval (1)) c16) ev_B (Term.int_eval (0)) A_B.1
  have z_1 := elem_in (eqv_i (Term.int_eval (2)) c17) ev_B (Term.int_eval (1)) A_B.1
  have z_2 := elem_in (eqv_i (Term.int_eval (3)) c18) ev_B (Term.int_eval (2)) A_B.1
  have z_3 := elem_in (eqv_i (Term.int_eval (5)) c19) ev_B (Term.int_eval (3)) A_B.1
  have z_4 := elem_in (eqv_i (Term.int_eval (6)) c20) ev_B (Term.int_eval (4)) A_B.1
  have z_5 := elem_in (eqv_i (Term.int_eval (7)) c21) ev_B (Term.int_eval (5)) A_B.1
  have z_6 := elem_in (eqv_i (Term.int_eval (4)) c22) ev_B (Term.int_eval (6)) A_B.1
  obtain ⟨n, o, h1, h2, h3, v, Ls, N, rfl, ⟨rfl, hh⟩, hFr, -, -, hEn⟩ := ct_law l s _ hw s.heap.size s.heap p0 p1 o_INTEGER S_INTEGER X_INTEGER F_INTEGER_ordinal o_BOOLEAN S_BOOLEAN X_BOOLEAN F_BOOLEAN_ordinal o_NUMBER S_NUMBER X_NUMBER F_NUMBER_ordinal o_DATE S_DATE X_DATE F_DATE_ordinal o_BINARY S_BINARY X_BINARY F_BINARY_ordinal o_DATE_TIME S_DATE_TIME X_DATE_TIME F_DATE_TIME_ordinal o_STRING S_STRING X_STRING F_STRING_ordinal b1 cl S_B A_B z_0.1 z_0.2 z_1.1 z_1.2 z_2.1 z_2.2 z_3.1 z_3.2 z_4.1 z_4.2 z_5.1 z_5.2 z_6.1 z_6.2 (Nat.le_refl _) cs S_cs hcs p e ha hc hk s m _ below hf ((Spec.applies_iff_loose hf).mp happ).1 ⟨rfl, State.Warmed39.refl s, rfl, (CHv.start (own_ew hw) (fun p hp => hcalls.1 p hp) (hsets _ (List.mem_of_getElem? (i := 2) rfl)) (wd hw 30 rfl) (wd hw 29 rfl)), (fun x q => nomatch q)⟩ trivial
  refine ⟨n, _, h1, h2, h3, hpost _ _ _ _ _ _ ⟨Cond.after_iff.mpr rfl, Cond.after_iff.mpr (eq_i res_at (Term.int_eval (1)) rfl), trivial⟩ ⟨⟨_, rfl⟩, hEn.1.2.1, hEn.1.2.2.1, (hEn.1.2.2.2.sift fun y hy => Or.inr (hFr y hy)).mono (by decide) (by decide)⟩⟩
theorem main_1_1 : Claimed_1_1 := comes_1 fun _ _ _ _ _ _ h hF => ⟨h.1, hF⟩
theorem main_1_2 : Claimed_1_2 := comes_1 fun _ _ _ _ _ _ h hF => ⟨h.2.1, hF⟩
end Jvm.Pilot.@@N@@
namespace Jvm.Pilot.@@N@@
open Jvm Jvm.ClassFile Sem Op Lib Jvm.Free Jvm.Stand Jvm.Pilot.@@N@@.Jvm.D
/-! MADE BY PROGRAM (witnessworld.py) out of the Statement's table words and the real class files: 31 classes; the members and pool entries that the words name. The judged class is class 1, her method 1. -/
namespace start1
open Jvm.ClassFile
def u (s : String) : CpInfo := .utf8 (stringToUtf16 s)
/-- a pool by its gaps: so many unusable entries, then the entry; so many at the end -/
def gap : Nat → List CpInfo → List CpInfo
  | 0, r => r
  | n + 1, r => .unusable :: gap n r
def poolList (es : List (Nat × CpInfo)) (last : Nat) : List CpInfo := es.foldr (fun e r => gap e.1 (e.2 :: r)) (gap last [])
def pool (es : List (Nat × CpInfo)) (last : Nat) : Array CpInfo := ⟨poolList es last⟩
def fileOf (pool : Array CpInfo) (this : Nat) (attrs : Array Attribute := #[]) (ms : Array MethodInfo := #[]) (fl : Nat := 33) (sup : Nat := 0) (ifs : Array Nat := #[]) (fds : Array FieldInfo := #[]) : ClassFile where
  minorVersion := 0
  majorVersion := 65
  constantPool := pool
  accessFlags := fl
  thisClass := this
  superClass := sup
  interfaces := ifs
  fields := fds
  methods := ms
  attributes := attrs
def plain (name : String) (sup : Option ClassId) : Class where
  name := name
  kind := .ordinary
  loader := none
  accessFlags := 33
  super := sup
  interfaces := #[]
  cf := none
  fields := #[]
  methods := #[]
  instanceTypes := #[]
  staticTypes := #[]
  resolved := #[]
  callSites := []
  init := .initialized
  statics := none
  mirror := none

def pool0 : Array CpInfo := pool [(5, u "<init>"), (0, u "()V"), (1, .class_ 10), (1, u "java/lang/Object")] 113

def k0c0 : Code := { maxStack := 0, maxLocals := 1, code := object_method_1_code, exceptionTable := #[], attributes := #[] }
def k0m0 : Method := { name := "<init>", desc := "()V", sig := { parameters := [], returnType := none }, accessFlags := 1, code := some k0c0 }
/-- java/lang/Object -/
def k0 : Class := { plain "java/lang/Object" none with
  accessFlags := 33
  interfaces := #[]
  cf := some (fileOf pool0 8 #[] #[{ accessFlags := 1, nameIndex := 5, descriptorIndex := 6, attributes := #[] }] 33 0 #[] #[])
  fields := #[]
  methods := #[k0m0]
  instanceTypes := #[]
  staticTypes := #[]
  resolved := Array.replicate 124 none
  statics := none }

def pool1 : Array CpInfo := pool [(2, .class_ 4), (1, u "java/lang/Object"), (0, u "<init>"), (0, u "()V"), (0, .integer 2147483647), (0, .methodref 9 10), (0, .class_ 11), (0, .nameAndType 12 13), (0, u "dev/typewright/dart/DartFormOfPinLaw"), (0, u "scalar"), (0, u "(I)Ldev/typewright/core/ScalarType;"), (0, .interfaceMethodref 15 16), (0, .class_ 17), (0, .nameAndType 18 19), (0, u "dev/typewright/dart/DartForm"), (0, u "of"), (0, u "(Ldev/typewright/core/ScalarType;)Ldev/typewright/dart/DartForm;"), (0, .interfaceMethodref 15 21), (0, .nameAndType 22 23), (0, u "type"), (0, u "(Z)Ljava/lang/String;"), (0, .methodref 9 25), (0, .nameAndType 26 27), (0, u "expType"), (0, u "(IZ)Ljava/lang/String;"), (0, .methodref 29 30), (0, .class_ 31), (0, .nameAndType 32 33), (0, u "java/lang/String"), (0, u "equals"), (0, u "(Ljava/lang/Object;)Z"), (0, .string 35), (0, u "j"), (0, .interfaceMethodref 15 37), (0, .nameAndType 38 39), (0, u "fromJson"), (0, u "(Ljava/lang/String;Z)Ljava/lang/String;"), (0, .methodref 9 41), (0, .nameAndType 42 27), (0, u "expFromJson"), (0, .string 44), (0, u "v"), (0, .interfaceMethodref 15 46), (0, .nameAndType 47 39), (0, u "toJson"), (0, .methodref 9 49), (0, .nameAndType 50 27), (0, u "expToJson"), (0, .interfaceMethodref 15 52), (0, .nameAndType 53 54), (0, u "decodedType"), (0, u "()Ljava/lang/String;"), (0, .methodref 9 56), (0, .nameAndType 57 58), (0, u "expDecoded"), (0, u "(I)Ljava/lang/String;"), (0, .interfaceMethodref 15 60), (0, .nameAndType 61 62), (0, u "fromDecoded"), (0, u "(Ljava/lang/String;)Ljava/lang/String;"), (0, .methodref 9 64), (0, .nameAndType 65 58), (0, u "expFromDecoded"), (0, .fieldref 67 68), (0, .class_ 69), (0, .nameAndType 70 71), (0, u "dev/typewright/core/ScalarType"), (0, u "INTEGER"), (0, u "Ldev/typewright/core/ScalarType;"), (0, .fieldref 67 73), (0, .nameAndType 74 71), (0, u "NUMBER"), (0, .fieldref 67 76), (0, .nameAndType 77 71), (0, u "STRING"), (0, .fieldref 67 79), (0, .nameAndType 80 71), (0, u "BOOLEAN"), (0, .fieldref 67 82), (0, .nameAndType 83 71), (0, u "DATE"), (0, .fieldref 67 85), (0, .nameAndType 86 71), (0, u "DATE_TIME"), (0, .fieldref 67 88), (0, .nameAndType 89 71), (0, u "BINARY"), (0, .string 91), (0, u "int?"), (0, .string 93), (0, u "int"), (0, .string 95), (0, u "double?"), (0, .string 97), (0, u "double"), (0, .string 99), (0, u "bool?"), (0, .string 101), (0, u "bool"), (0, .string 103), (0, u "DateTime?"), (0, .string 105), (0, u "DateTime"), (0, .string 107), (0, u "String?"), (0, .string 109), (0, u "String"), (0, .string 111), (0, u "j as int?"), (0, .string 113), (0, u "j as int"), (0, .string 115), (0, u "(j as num?)?.toDouble()"), (0, .string 117), (0, u "(j as num).toDouble()"), (0, .string 119), (0, u "j as bool?"), (0, .string 121), (0, u "j as bool"), (0, .string 123), (0, u "j == null ? null : DateTime.parse(j as String)"), (0, .string 125), (0, u "DateTime.parse(j as String)"), (0, .string 127), (0, u "j as String?"), (0, .string 129), (0, u "j as String"), (0, .string 131), (0, u "v?.toIso8601String().substring(0, 10)"), (0, .string 133), (0, u "v.toIso8601String().substring(0, 10)"), (0, .string 135), (0, u "v?.toIso8601String()"), (0, .string 137), (0, u "v.toIso8601String()"), (0, .string 139), (0, u "num"), (0, .string 141), (0, u "j.toDouble()"), (0, .string 143), (0, u "DateTime.parse(j)"), (2, u "law"), (0, u "(II)Z")] 3

def k1m0 : Method := { name := "<init>", desc := "()V", sig := { parameters := [], returnType := none }, accessFlags := 2, code := none }
def k1c1 : Code := { maxStack := 3, maxLocals := 6, code := code, exceptionTable := #[], attributes := #[] }
def k1m1 : Method := { name := "law", desc := "(II)Z", sig := { parameters := [.int, .int], returnType := some .boolean }, accessFlags := 9, code := some k1c1 }
def k1c2 : Code := { maxStack := 2, maxLocals := 1, code := method_3_code, exceptionTable := #[], attributes := #[] }
def k1m2 : Method := { name := "scalar", desc := "(I)Ldev/typewright/core/ScalarType;", sig := { parameters := [.int], returnType := some (.object "dev/typewright/core/ScalarType") }, accessFlags := 10, code := some k1c2 }
def k1c3 : Code := { maxStack := 2, maxLocals := 2, code := method_4_code, exceptionTable := #[], attributes := #[] }
def k1m3 : Method := { name := "expType", desc := "(IZ)Ljava/lang/String;", sig := { parameters := [.int, .boolean], returnType := some (.object "java/lang/String") }, accessFlags := 10, code := some k1c3 }
def k1c4 : Code := { maxStack := 2, maxLocals := 2, code := method_5_code, exceptionTable := #[], attributes := #[] }
def k1m4 : Method := { name := "expFromJson", desc := "(IZ)Ljava/lang/String;", sig := { parameters := [.int, .boolean], returnType := some (.object "java/lang/String") }, accessFlags := 10, code := some k1c4 }
def k1c5 : Code := { maxStack := 2, maxLocals := 2, code := method_6_code, exceptionTable := #[], attributes := #[] }
def k1m5 : Method := { name := "expToJson", desc := "(IZ)Ljava/lang/String;", sig := { parameters := [.int, .boolean], returnType := some (.object "java/lang/String") }, accessFlags := 10, code := some k1c5 }
def k1c6 : Code := { maxStack := 2, maxLocals := 1, code := method_7_code, exceptionTable := #[], attributes := #[] }
def k1m6 : Method := { name := "expDecoded", desc := "(I)Ljava/lang/String;", sig := { parameters := [.int], returnType := some (.object "java/lang/String") }, accessFlags := 10, code := some k1c6 }
def k1c7 : Code := { maxStack := 2, maxLocals := 1, code := method_8_code, exceptionTable := #[], attributes := #[] }
def k1m7 : Method := { name := "expFromDecoded", desc := "(I)Ljava/lang/String;", sig := { parameters := [.int], returnType := some (.object "java/lang/String") }, accessFlags := 10, code := some k1c7 }
/-- dev/typewright/dart/DartFormOfPinLaw -/
def k1 : Class := { plain "dev/typewright/dart/DartFormOfPinLaw" (some 0) with
  accessFlags := 49
  interfaces := #[]
  cf := some (fileOf pool1 9 #[] #[{ accessFlags := 2, nameIndex := 5, descriptorIndex := 6, attributes := #[] }, { accessFlags := 9, nameIndex := 146, descriptorIndex := 147, attributes := #[] }, { accessFlags := 10, nameIndex := 12, descriptorIndex := 13, attributes := #[] }, { accessFlags := 10, nameIndex := 26, descriptorIndex := 27, attributes := #[] }, { accessFlags := 10, nameIndex := 42, descriptorIndex := 27, attributes := #[] }, { accessFlags := 10, nameIndex := 50, descriptorIndex := 27, attributes := #[] }, { accessFlags := 10, nameIndex := 57, descriptorIndex := 58, attributes := #[] }, { accessFlags := 10, nameIndex := 65, descriptorIndex := 58, attributes := #[] }] 49 2 #[] #[])
  fields := #[]
  methods := #[k1m0, k1m1, k1m2, k1m3, k1m4, k1m5, k1m6, k1m7]
  instanceTypes := #[]
  staticTypes := #[]
  resolved := Array.replicate 151 none
  statics := none }

def pool2 : Array CpInfo := pool [(1, .class_ 2), (0, u "java/lang/constant/Constable"), (0, .class_ 4), (0, u "java/lang/Object")] 6

/-- java/lang/constant/Constable -/
def k2 : Class := { plain "java/lang/constant/Constable" (some 0) with
  accessFlags := 1537
  interfaces := #[]
  cf := some (fileOf pool2 1 #[] #[] 1537 3 #[] #[])
  fields := #[]
  methods := #[]
  instanceTypes := #[]
  staticTypes := #[]
  resolved := Array.replicate 11 none
  statics := none }

def pool3 : Array CpInfo := pool [(1, .class_ 2), (0, u "java/lang/Comparable"), (0, .class_ 4), (0, u "java/lang/Object")] 7

/-- java/lang/Comparable -/
def k3 : Class := { plain "java/lang/Comparable" (some 0) with
  accessFlags := 1537
  interfaces := #[]
  cf := some (fileOf pool3 1 #[] #[] 1537 3 #[] #[])
  fields := #[]
  methods := #[]
  instanceTypes := #[]
  staticTypes := #[]
  resolved := Array.replicate 12 none
  statics := none }

def pool4 : Array CpInfo := pool [(1, .class_ 2), (0, u "java/io/Serializable"), (0, .class_ 4), (0, u "java/lang/Object")] 2

/-- java/io/Serializable -/
def k4 : Class := { plain "java/io/Serializable" (some 0) with
  accessFlags := 1537
  interfaces := #[]
  cf := some (fileOf pool4 1 #[] #[] 1537 3 #[] #[])
  fields := #[]
  methods := #[]
  instanceTypes := #[]
  staticTypes := #[]
  resolved := Array.replicate 7 none
  statics := none }

def pool5 : Array CpInfo := pool [(2, .class_ 4), (1, u "java/lang/Enum"), (0, u "name"), (0, u "Ljava/lang/String;"), (0, .fieldref 2 8), (0, .nameAndType 9 10), (0, u "ordinal"), (0, u "I"), (1, .class_ 14), (1, u "java/lang/Object"), (4, u "hash"), (86, .class_ 108), (1, u "java/lang/Enum$EnumDesc"), (2, .class_ 112), (0, u "java/lang/constant/Constable"), (0, .class_ 114), (0, u "java/lang/Comparable"), (0, .class_ 116), (0, u "java/io/Serializable"), (9, u "()I")] 77

def k5c0 : Code := { maxStack := 1, maxLocals := 1, code := jdk_37_method_2_code, exceptionTable := #[], attributes := #[] }
def k5m0 : Method := { name := "ordinal", desc := "()I", sig := { parameters := [], returnType := some .int }, accessFlags := 17, code := some k5c0 }
/-- java/lang/Enum -/
def k5 : Class := { plain "java/lang/Enum" (some 0) with
  accessFlags := 1057
  interfaces := #[2, 3, 4]
  cf := some (fileOf pool5 2 #[.nestMembers #[106]] #[{ accessFlags := 17, nameIndex := 9, descriptorIndex := 126, attributes := #[] }] 1057 12 #[111, 113, 115] #[{ accessFlags := 18, nameIndex := 5, descriptorIndex := 6, attributes := #[] }, { accessFlags := 18, nameIndex := 9, descriptorIndex := 10, attributes := #[] }, { accessFlags := 2, nameIndex := 19, descriptorIndex := 10, attributes := #[] }])
  fields := #[{ name := "name", type := (.object "java/lang/String"), accessFlags := 18, slot := 0, constantValue := 0 }, { name := "ordinal", type := .int, accessFlags := 18, slot := 1, constantValue := 0 }, { name := "hash", type := .int, accessFlags := 2, slot := 2, constantValue := 0 }]
  methods := #[k5m0]
  instanceTypes := #[(.object "java/lang/String"), .int, .int]
  staticTypes := #[]
  resolved := Array.replicate 204 none
  statics := none }

def pool6 : Array CpInfo := pool [(1, .class_ 2), (0, u "dev/typewright/core/ValueType"), (0, .class_ 4), (0, u "java/lang/Object")] 15

/-- dev/typewright/core/ValueType -/
def k6 : Class := { plain "dev/typewright/core/ValueType" (some 0) with
  accessFlags := 1537
  interfaces := #[]
  cf := some (fileOf pool6 1 #[] #[] 1537 3 #[] #[])
  fields := #[]
  methods := #[]
  instanceTypes := #[]
  staticTypes := #[]
  resolved := Array.replicate 20 none
  statics := none }

def pool7 : Array CpInfo := pool [(1, .class_ 2), (0, u "dev/typewright/core/ScalarType"), (2, u "INTEGER"), (0, u "Ldev/typewright/core/ScalarType;"), (2, u "NUMBER"), (2, u "STRING"), (2, u "BOOLEAN"), (2, u "DATE"), (2, u "DATE_TIME"), (2, u "BINARY"), (2, u "$VALUES"), (0, u "[Ldev/typewright/core/ScalarType;"), (6, .class_ 37), (1, u "java/lang/Enum"), (8, u "keyword"), (0, u "Ljava/lang/String;"), (2, u "format"), (47, .class_ 99), (0, u "dev/typewright/core/ValueType")] 14

/-- dev/typewright/core/ScalarType -/
def k7 : Class := { plain "dev/typewright/core/ScalarType" (some 5) with
  accessFlags := 16433
  interfaces := #[6]
  cf := some (fileOf pool7 1 #[] #[] 16433 35 #[98] #[{ accessFlags := 16409, nameIndex := 5, descriptorIndex := 6, attributes := #[] }, { accessFlags := 16409, nameIndex := 9, descriptorIndex := 6, attributes := #[] }, { accessFlags := 16409, nameIndex := 12, descriptorIndex := 6, attributes := #[] }, { accessFlags := 16409, nameIndex := 15, descriptorIndex := 6, attributes := #[] }, { accessFlags := 16409, nameIndex := 18, descriptorIndex := 6, attributes := #[] }, { accessFlags := 16409, nameIndex := 21, descriptorIndex := 6, attributes := #[] }, { accessFlags := 16409, nameIndex := 24, descriptorIndex := 6, attributes := #[] }, { accessFlags := 18, nameIndex := 46, descriptorIndex := 47, attributes := #[] }, { accessFlags := 18, nameIndex := 50, descriptorIndex := 47, attributes := #[] }, { accessFlags := 4122, nameIndex := 27, descriptorIndex := 28, attributes := #[] }])
  fields := #[{ name := "INTEGER", type := (.object "dev/typewright/core/ScalarType"), accessFlags := 16409, slot := 0, constantValue := 0 }, { name := "NUMBER", type := (.object "dev/typewright/core/ScalarType"), accessFlags := 16409, slot := 1, constantValue := 0 }, { name := "STRING", type := (.object "dev/typewright/core/ScalarType"), accessFlags := 16409, slot := 2, constantValue := 0 }, { name := "BOOLEAN", type := (.object "dev/typewright/core/ScalarType"), accessFlags := 16409, slot := 3, constantValue := 0 }, { name := "DATE", type := (.object "dev/typewright/core/ScalarType"), accessFlags := 16409, slot := 4, constantValue := 0 }, { name := "DATE_TIME", type := (.object "dev/typewright/core/ScalarType"), accessFlags := 16409, slot := 5, constantValue := 0 }, { name := "BINARY", type := (.object "dev/typewright/core/ScalarType"), accessFlags := 16409, slot := 6, constantValue := 0 }, { name := "keyword", type := (.object "java/lang/String"), accessFlags := 18, slot := 3, constantValue := 0 }, { name := "format", type := (.object "java/lang/String"), accessFlags := 18, slot := 4, constantValue := 0 }, { name := "$VALUES", type := (.array (.object "dev/typewright/core/ScalarType")), accessFlags := 4122, slot := 7, constantValue := 0 }]
  methods := #[]
  instanceTypes := #[(.object "java/lang/String"), .int, .int, (.object "java/lang/String"), (.object "java/lang/String")]
  staticTypes := #[(.object "dev/typewright/core/ScalarType"), (.object "dev/typewright/core/ScalarType"), (.object "dev/typewright/core/ScalarType"), (.object "dev/typewright/core/ScalarType"), (.object "dev/typewright/core/ScalarType"), (.object "dev/typewright/core/ScalarType"), (.object "dev/typewright/core/ScalarType"), (.array (.object "dev/typewright/core/ScalarType"))]
  resolved := Array.replicate 114 none
  statics := some 0 }

def pool8 : Array CpInfo := pool [(1, .fieldref 2 3), (0, .class_ 4), (0, .nameAndType 5 6), (0, u "dev/typewright/dart/DartForm$1"), (0, u "$SwitchMap$dev$typewright$core$ScalarType"), (0, u "[I"), (0, .methodref 8 9), (0, .class_ 10), (0, .nameAndType 11 12), (0, u "dev/typewright/core/ScalarType"), (0, u "ordinal"), (0, u "()I"), (4, u "<init>"), (1, .class_ 20), (0, u "dev/typewright/dart/DartForm$PlainForm"), (0, .string 22), (0, u "int"), (0, .methodref 19 24), (0, .nameAndType 17 25), (0, u "(Ljava/lang/String;)V"), (0, .class_ 27), (0, u "dev/typewright/dart/DartForm$DoubleForm"), (0, .methodref 26 29), (0, .nameAndType 17 30), (0, u "()V"), (0, .string 32), (0, u "String"), (0, .string 34), (0, u "bool"), (0, .class_ 36), (0, u "dev/typewright/dart/DartForm$DateTimeForm"), (0, .methodref 35 38), (0, .nameAndType 17 39), (0, u "(Z)V"), (1, .class_ 43), (1, u "dev/typewright/dart/DartForm"), (0, u "type"), (0, u "(Z)Ljava/lang/String;"), (0, .class_ 47), (0, u "java/lang/StringBuilder"), (0, .methodref 46 29), (0, .methodref 46 50), (0, .nameAndType 51 52), (0, u "append"), (0, u "(Ljava/lang/String;)Ljava/lang/StringBuilder;"), (0, .string 54), (0, u "?"), (0, .methodref 46 56), (0, .nameAndType 57 58), (0, u "toString"), (0, u "()Ljava/lang/String;"), (0, .string 60), (0, u " == null ? null : "), (4, u "nullable"), (0, u "(Ljava/lang/String;Z)Ljava/lang/String;"), (14, u "receiver"), (5, u "decodedType"), (30, .class_ 119), (0, u "java/lang/Object"), (0, u "DECODED_OBJECT"), (0, u "Ljava/lang/String;"), (3, u "DECODED_ANY"), (0, u "of"), (0, u "(Ldev/typewright/core/ScalarType;)Ldev/typewright/dart/DartForm;"), (3, u "fromJson"), (0, u "toJson"), (0, u "fromDecoded"), (0, u "(Ljava/lang/String;)Ljava/lang/String;"), (3, u "orNull"), (0, u "(Ljava/lang/String;ZLjava/lang/String;)Ljava/lang/String;"), (10, .class_ 151), (0, u "dev/typewright/dart/DartForm$AnyForm"), (0, .class_ 153), (0, u "dev/typewright/dart/DartForm$MapForm"), (0, .class_ 155), (0, u "dev/typewright/dart/DartForm$ListForm"), (0, .class_ 157), (0, u "dev/typewright/dart/DartForm$AliasForm"), (0, .class_ 159), (0, u "dev/typewright/dart/DartForm$DeclaredForm")] 10

def k8c0 : Code := { maxStack := 4, maxLocals := 1, code := prog_38_method_1_code, exceptionTable := #[], attributes := #[] }
def k8m0 : Method := { name := "of", desc := "(Ldev/typewright/core/ScalarType;)Ldev/typewright/dart/DartForm;", sig := { parameters := [(.object "dev/typewright/core/ScalarType")], returnType := some (.object "dev/typewright/dart/DartForm") }, accessFlags := 9, code := some k8c0 }
def k8m1 : Method := { name := "type", desc := "(Z)Ljava/lang/String;", sig := { parameters := [.boolean], returnType := some (.object "java/lang/String") }, accessFlags := 1025, code := none }
def k8m2 : Method := { name := "fromJson", desc := "(Ljava/lang/String;Z)Ljava/lang/String;", sig := { parameters := [(.object "java/lang/String"), .boolean], returnType := some (.object "java/lang/String") }, accessFlags := 1025, code := none }
def k8m3 : Method := { name := "toJson", desc := "(Ljava/lang/String;Z)Ljava/lang/String;", sig := { parameters := [(.object "java/lang/String"), .boolean], returnType := some (.object "java/lang/String") }, accessFlags := 1025, code := none }
def k8m4 : Method := { name := "decodedType", desc := "()Ljava/lang/String;", sig := { parameters := [], returnType := some (.object "java/lang/String") }, accessFlags := 1025, code := none }
def k8m5 : Method := { name := "fromDecoded", desc := "(Ljava/lang/String;)Ljava/lang/String;", sig := { parameters := [(.object "java/lang/String")], returnType := some (.object "java/lang/String") }, accessFlags := 1025, code := none }
def k8c6 : Code := { maxStack := 2, maxLocals := 2, code := prog_38_method_9_code, exceptionTable := #[], attributes := #[] }
def k8m6 : Method := { name := "nullable", desc := "(Ljava/lang/String;Z)Ljava/lang/String;", sig := { parameters := [(.object "java/lang/String"), .boolean], returnType := some (.object "java/lang/String") }, accessFlags := 10, code := some k8c6 }
def k8c7 : Code := { maxStack := 2, maxLocals := 3, code := prog_38_method_10_code, exceptionTable := #[], attributes := #[] }
def k8m7 : Method := { name := "orNull", desc := "(Ljava/lang/String;ZLjava/lang/String;)Ljava/lang/String;", sig := { parameters := [(.object "java/lang/String"), .boolean, (.object "java/lang/String")], returnType := some (.object "java/lang/String") }, accessFlags := 9, code := some k8c7 }
def k8c8 : Code := { maxStack := 2, maxLocals := 2, code := prog_38_method_11_code, exceptionTable := #[], attributes := #[] }
def k8m8 : Method := { name := "receiver", desc := "(Ljava/lang/String;Z)Ljava/lang/String;", sig := { parameters := [(.object "java/lang/String"), .boolean], returnType := some (.object "java/lang/String") }, accessFlags := 10, code := some k8c8 }
/-- dev/typewright/dart/DartForm -/
def k8 : Class := { plain "dev/typewright/dart/DartForm" (some 0) with
  accessFlags := 1536
  interfaces := #[]
  cf := some (fileOf pool8 41 #[.nestMembers #[2, 150, 152, 154, 156, 35, 158, 26, 19]] #[{ accessFlags := 9, nameIndex := 126, descriptorIndex := 127, attributes := #[] }, { accessFlags := 1025, nameIndex := 44, descriptorIndex := 45, attributes := #[] }, { accessFlags := 1025, nameIndex := 131, descriptorIndex := 66, attributes := #[] }, { accessFlags := 1025, nameIndex := 132, descriptorIndex := 66, attributes := #[] }, { accessFlags := 1025, nameIndex := 87, descriptorIndex := 58, attributes := #[] }, { accessFlags := 1025, nameIndex := 133, descriptorIndex := 134, attributes := #[] }, { accessFlags := 10, nameIndex := 65, descriptorIndex := 66, attributes := #[] }, { accessFlags := 9, nameIndex := 138, descriptorIndex := 139, attributes := #[] }, { accessFlags := 10, nameIndex := 81, descriptorIndex := 66, attributes := #[] }] 1536 118 #[] #[{ accessFlags := 25, nameIndex := 120, descriptorIndex := 121, attributes := #[] }, { accessFlags := 25, nameIndex := 125, descriptorIndex := 121, attributes := #[] }])
  fields := #[{ name := "DECODED_OBJECT", type := (.object "java/lang/String"), accessFlags := 25, slot := 0, constantValue := 0 }, { name := "DECODED_ANY", type := (.object "java/lang/String"), accessFlags := 25, slot := 1, constantValue := 0 }]
  methods := #[k8m0, k8m1, k8m2, k8m3, k8m4, k8m5, k8m6, k8m7, k8m8]
  instanceTypes := #[]
  staticTypes := #[(.object "java/lang/String"), (.object "java/lang/String")]
  resolved := Array.replicate 170 none
  statics := none }

def pool9 : Array CpInfo := pool [(8, .class_ 10), (1, u "dev/typewright/dart/DartForm$1"), (0, u "$SwitchMap$dev$typewright$core$ScalarType"), (0, u "[I"), (28, .class_ 42), (0, u "java/lang/Object"), (8, .class_ 52), (0, u "dev/typewright/dart/DartForm")] 2

/-- dev/typewright/dart/DartForm$1 -/
def k9 : Class := { plain "dev/typewright/dart/DartForm$1" (some 0) with
  accessFlags := 4128
  interfaces := #[]
  cf := some (fileOf pool9 8 #[.nestHost 51] #[] 4128 41 #[] #[{ accessFlags := 4120, nameIndex := 11, descriptorIndex := 12, attributes := #[] }])
  fields := #[{ name := "$SwitchMap$dev$typewright$core$ScalarType", type := (.array .int), accessFlags := 4120, slot := 0, constantValue := 0 }]
  methods := #[]
  instanceTypes := #[]
  staticTypes := #[(.array .int)]
  resolved := Array.replicate 55 none
  statics := some 1 }

def pool10 : Array CpInfo := pool [(1, .methodref 2 3), (0, .class_ 4), (0, .nameAndType 5 6), (0, u "java/lang/Object"), (0, u "<init>"), (0, u "()V"), (0, .class_ 8), (0, u "java/lang/Record")] 13

def k10c0 : Code := { maxStack := 1, maxLocals := 1, code := jdk_30_method_1_code, exceptionTable := #[], attributes := #[] }
def k10m0 : Method := { name := "<init>", desc := "()V", sig := { parameters := [], returnType := none }, accessFlags := 4, code := some k10c0 }
/-- java/lang/Record -/
def k10 : Class := { plain "java/lang/Record" (some 0) with
  accessFlags := 1057
  interfaces := #[]
  cf := some (fileOf pool10 7 #[] #[{ accessFlags := 4, nameIndex := 5, descriptorIndex := 6, attributes := #[] }] 1057 2 #[] #[])
  fields := #[]
  methods := #[k10m0]
  instanceTypes := #[]
  staticTypes := #[]
  resolved := Array.replicate 22 none
  statics := none }

def pool11 : Array CpInfo := pool [(1, .methodref 2 3), (0, .class_ 4), (0, .nameAndType 5 6), (0, u "java/lang/Record"), (0, u "<init>"), (0, u "()V"), (0, .fieldref 8 9), (0, .class_ 10), (0, .nameAndType 11 12), (0, u "dev/typewright/dart/DartForm$PlainForm"), (0, u "name"), (0, u "Ljava/lang/String;"), (0, .interfaceMethodref 14 15), (0, .class_ 16), (0, .nameAndType 17 18), (0, u "dev/typewright/dart/DartForm"), (0, u "nullable"), (0, u "(Ljava/lang/String;Z)Ljava/lang/String;"), (0, .class_ 20), (0, u "java/lang/StringBuilder"), (0, .methodref 19 3), (0, .methodref 19 23), (0, .nameAndType 24 25), (0, u "append"), (0, u "(Ljava/lang/String;)Ljava/lang/StringBuilder;"), (0, .string 27), (0, u " as "), (0, .methodref 8 29), (0, .nameAndType 30 31), (0, u "type"), (0, u "(Z)Ljava/lang/String;"), (0, .methodref 19 33), (0, .nameAndType 34 35), (0, u "toString"), (0, u "()Ljava/lang/String;"), (17, u "(Ljava/lang/String;)V"), (3, u "fromJson"), (0, u "toJson"), (0, u "decodedType"), (0, u "fromDecoded"), (0, u "(Ljava/lang/String;)Ljava/lang/String;")] 26

def k11c0 : Code := { maxStack := 2, maxLocals := 2, code := prog_47_method_1_code, exceptionTable := #[], attributes := #[] }
def k11m0 : Method := { name := "<init>", desc := "(Ljava/lang/String;)V", sig := { parameters := [(.object "java/lang/String")], returnType := none }, accessFlags := 1, code := some k11c0 }
def k11c1 : Code := { maxStack := 2, maxLocals := 2, code := prog_47_method_2_code, exceptionTable := #[], attributes := #[] }
def k11m1 : Method := { name := "type", desc := "(Z)Ljava/lang/String;", sig := { parameters := [.boolean], returnType := some (.object "java/lang/String") }, accessFlags := 1, code := some k11c1 }
def k11c2 : Code := { maxStack := 3, maxLocals := 3, code := prog_47_method_3_code, exceptionTable := #[], attributes := #[] }
def k11m2 : Method := { name := "fromJson", desc := "(Ljava/lang/String;Z)Ljava/lang/String;", sig := { parameters := [(.object "java/lang/String"), .boolean], returnType := some (.object "java/lang/String") }, accessFlags := 1, code := some k11c2 }
def k11c3 : Code := { maxStack := 1, maxLocals := 3, code := prog_47_method_4_code, exceptionTable := #[], attributes := #[] }
def k11m3 : Method := { name := "toJson", desc := "(Ljava/lang/String;Z)Ljava/lang/String;", sig := { parameters := [(.object "java/lang/String"), .boolean], returnType := some (.object "java/lang/String") }, accessFlags := 1, code := some k11c3 }
def k11c4 : Code := { maxStack := 1, maxLocals := 1, code := prog_47_method_5_code, exceptionTable := #[], attributes := #[] }
def k11m4 : Method := { name := "decodedType", desc := "()Ljava/lang/String;", sig := { parameters := [], returnType := some (.object "java/lang/String") }, accessFlags := 1, code := some k11c4 }
def k11c5 : Code := { maxStack := 1, maxLocals := 2, code := prog_47_method_6_code, exceptionTable := #[], attributes := #[] }
def k11m5 : Method := { name := "fromDecoded", desc := "(Ljava/lang/String;)Ljava/lang/String;", sig := { parameters := [(.object "java/lang/String")], returnType := some (.object "java/lang/String") }, accessFlags := 1, code := some k11c5 }
/-- dev/typewright/dart/DartForm$PlainForm -/
def k11 : Class := { plain "dev/typewright/dart/DartForm$PlainForm" (some 10) with
  accessFlags := 49
  interfaces := #[8]
  cf := some (fileOf pool11 8 #[.nestHost 14] #[{ accessFlags := 1, nameIndex := 5, descriptorIndex := 53, attributes := #[] }, { accessFlags := 1, nameIndex := 30, descriptorIndex := 31, attributes := #[] }, { accessFlags := 1, nameIndex := 57, descriptorIndex := 18, attributes := #[] }, { accessFlags := 1, nameIndex := 58, descriptorIndex := 18, attributes := #[] }, { accessFlags := 1, nameIndex := 59, descriptorIndex := 35, attributes := #[] }, { accessFlags := 1, nameIndex := 60, descriptorIndex := 61, attributes := #[] }] 49 2 #[14] #[{ accessFlags := 18, nameIndex := 11, descriptorIndex := 12, attributes := #[] }])
  fields := #[{ name := "name", type := (.object "java/lang/String"), accessFlags := 18, slot := 0, constantValue := 0 }]
  methods := #[k11m0, k11m1, k11m2, k11m3, k11m4, k11m5]
  instanceTypes := #[(.object "java/lang/String")]
  staticTypes := #[]
  resolved := Array.replicate 88 none
  statics := none }

def pool12 : Array CpInfo := pool [(2, .class_ 4), (1, u "java/lang/CharSequence"), (42, .class_ 48), (0, u "java/lang/CharSequence$1CodePointIterator"), (10, .class_ 60), (0, u "java/lang/CharSequence$1CharIterator"), (5, .class_ 67), (0, u "java/lang/Object")] 63

/-- java/lang/CharSequence -/
def k12 : Class := { plain "java/lang/CharSequence" (some 0) with
  accessFlags := 1537
  interfaces := #[]
  cf := some (fileOf pool12 2 #[.nestMembers #[47, 59]] #[] 1537 66 #[] #[])
  fields := #[]
  methods := #[]
  instanceTypes := #[]
  staticTypes := #[]
  resolved := Array.replicate 131 none
  statics := none }

def pool13 : Array CpInfo := pool [(1, .class_ 2), (0, u "java/lang/constant/ConstantDesc"), (0, .class_ 4), (0, u "java/lang/Object")] 32

/-- java/lang/constant/ConstantDesc -/
def k13 : Class := { plain "java/lang/constant/ConstantDesc" (some 0) with
  accessFlags := 1537
  interfaces := #[]
  cf := some (fileOf pool13 1 #[] #[] 1537 3 #[] #[])
  fields := #[]
  methods := #[]
  instanceTypes := #[]
  staticTypes := #[]
  resolved := Array.replicate 37 none
  statics := none }

def pool14 : Array CpInfo := pool [(1, .methodref 2 3), (0, .class_ 4), (0, .nameAndType 5 6), (0, u "java/lang/Object"), (0, u "<init>"), (0, u "()V"), (2, .fieldref 10 11), (0, .class_ 12), (0, .nameAndType 13 14), (0, u "java/lang/String"), (0, u "value"), (0, u "[B"), (0, .fieldref 10 16), (0, .nameAndType 17 18), (0, u "coder"), (0, u "B"), (2, u "hash"), (0, u "I"), (2, u "hashIsZero"), (0, u "Z"), (11, .fieldref 10 39), (0, .nameAndType 40 26), (0, u "COMPACT_STRINGS"), (13, .methodref 55 56), (0, .class_ 57), (0, .nameAndType 58 59), (0, u "java/util/Arrays"), (0, u "copyOfRange"), (0, u "([BII)[B"), (47, .class_ 109), (1, u "java/lang/StringLatin1"), (32, u "()Z"), (50, .class_ 195), (1, u "java/lang/System"), (16, .methodref 193 213), (0, .nameAndType 214 215), (0, u "arraycopy"), (0, u "(Ljava/lang/Object;ILjava/lang/Object;II)V"), (118, u "()I"), (0, .methodref 10 336), (0, .nameAndType 17 337), (0, u "()B"), (2, u "()[B"), (148, .methodref 10 490), (0, .nameAndType 5 491), (0, u "(Ljava/lang/AbstractStringBuilder;Ljava/lang/Void;)V"), (1, .nameAndType 494 142), (0, u "isLatin1"), (11, .nameAndType 507 334), (0, u "length"), (24, u "getBytes"), (8, .methodref 107 542), (0, .nameAndType 543 544), (0, u "equals"), (0, u "([B[B)Z"), (4, .methodref 550 506), (0, .class_ 551), (0, u "java/lang/AbstractStringBuilder"), (0, .methodref 550 553), (0, .nameAndType 554 340), (0, u "getValue"), (18, u "(Ljava/lang/Object;)Z"), (1, .class_ 576), (0, u "java/lang/CharSequence"), (22, u "CASE_INSENSITIVE_ORDER"), (0, u "Ljava/util/Comparator;"), (220, u "([BIB)V"), (225, .methodref 550 493), (53, u "serialPersistentFields"), (0, u "[Ljava/io/ObjectStreamField;"), (0, .class_ 1104), (0, u "java/lang/String$CaseInsensitiveComparator"), (1, .class_ 1107), (0, u "java/io/Serializable"), (0, .class_ 1109), (0, u "java/lang/Comparable"), (0, .class_ 1111), (0, u "java/lang/constant/Constable"), (0, .class_ 1113), (0, u "java/lang/constant/ConstantDesc"), (2, u "serialVersionUID"), (0, u "J"), (3, u "REPL"), (0, u "C"), (2, u "LATIN1"), (1, u "UTF16"), (105, u "(Ljava/lang/StringBuilder;)V")] 217

def k14m0 : Method := { name := "<init>", desc := "()V", sig := { parameters := [], returnType := none }, accessFlags := 1, code := none }
def k14c1 : Code := { maxStack := 3, maxLocals := 2, code := jdk_42_method_53_code, exceptionTable := #[], attributes := #[] }
def k14m1 : Method := { name := "<init>", desc := "(Ljava/lang/StringBuilder;)V", sig := { parameters := [(.object "java/lang/StringBuilder")], returnType := none }, accessFlags := 1, code := some k14c1 }
def k14c2 : Code := { maxStack := 2, maxLocals := 1, code := jdk_42_method_54_code, exceptionTable := #[], attributes := #[] }
def k14m2 : Method := { name := "length", desc := "()I", sig := { parameters := [], returnType := some .int }, accessFlags := 1, code := some k14c2 }
def k14c3 : Code := { maxStack := 2, maxLocals := 3, code := jdk_42_method_66_code, exceptionTable := #[], attributes := #[] }
def k14m3 : Method := { name := "equals", desc := "(Ljava/lang/Object;)Z", sig := { parameters := [(.object "java/lang/Object")], returnType := some .boolean }, accessFlags := 1, code := some k14c3 }
def k14c4 : Code := { maxStack := 5, maxLocals := 4, code := jdk_42_method_147_code, exceptionTable := #[], attributes := #[] }
def k14m4 : Method := { name := "getBytes", desc := "([BIB)V", sig := { parameters := [(.array .byte), .int, .byte], returnType := none }, accessFlags := 0, code := some k14c4 }
def k14c5 : Code := { maxStack := 5, maxLocals := 5, code := jdk_42_method_150_code, exceptionTable := #[], attributes := #[] }
def k14m5 : Method := { name := "<init>", desc := "(Ljava/lang/AbstractStringBuilder;Ljava/lang/Void;)V", sig := { parameters := [(.object "java/lang/AbstractStringBuilder"), (.object "java/lang/Void")], returnType := none }, accessFlags := 0, code := some k14c5 }
def k14c6 : Code := { maxStack := 1, maxLocals := 1, code := jdk_42_method_152_code, exceptionTable := #[], attributes := #[] }
def k14m6 : Method := { name := "coder", desc := "()B", sig := { parameters := [], returnType := some .byte }, accessFlags := 0, code := some k14c6 }
/-- java/lang/String -/
def k14 : Class := { plain "java/lang/String" (some 0) with
  accessFlags := 49
  interfaces := #[4, 3, 12, 2, 13]
  cf := some (fileOf pool14 10 #[.nestMembers #[1103]] #[{ accessFlags := 1, nameIndex := 5, descriptorIndex := 6, attributes := #[] }, { accessFlags := 1, nameIndex := 5, descriptorIndex := 1233, attributes := #[] }, { accessFlags := 1, nameIndex := 507, descriptorIndex := 334, attributes := #[] }, { accessFlags := 1, nameIndex := 543, descriptorIndex := 573, attributes := #[] }, { accessFlags := 0, nameIndex := 532, descriptorIndex := 821, attributes := #[] }, { accessFlags := 0, nameIndex := 5, descriptorIndex := 491, attributes := #[] }, { accessFlags := 0, nameIndex := 17, descriptorIndex := 337, attributes := #[] }] 49 2 #[1106, 1108, 575, 1110, 1112] #[{ accessFlags := 18, nameIndex := 13, descriptorIndex := 14, attributes := #[] }, { accessFlags := 18, nameIndex := 17, descriptorIndex := 18, attributes := #[] }, { accessFlags := 2, nameIndex := 21, descriptorIndex := 22, attributes := #[] }, { accessFlags := 2, nameIndex := 25, descriptorIndex := 26, attributes := #[] }, { accessFlags := 26, nameIndex := 1116, descriptorIndex := 1117, attributes := #[] }, { accessFlags := 24, nameIndex := 40, descriptorIndex := 26, attributes := #[] }, { accessFlags := 26, nameIndex := 1101, descriptorIndex := 1102, attributes := #[] }, { accessFlags := 26, nameIndex := 1121, descriptorIndex := 1122, attributes := #[] }, { accessFlags := 25, nameIndex := 599, descriptorIndex := 600, attributes := #[] }, { accessFlags := 24, nameIndex := 1125, descriptorIndex := 18, attributes := #[] }, { accessFlags := 24, nameIndex := 1127, descriptorIndex := 18, attributes := #[] }])
  fields := #[{ name := "value", type := (.array .byte), accessFlags := 18, slot := 0, constantValue := 0 }, { name := "coder", type := .byte, accessFlags := 18, slot := 1, constantValue := 0 }, { name := "hash", type := .int, accessFlags := 2, slot := 2, constantValue := 0 }, { name := "hashIsZero", type := .boolean, accessFlags := 2, slot := 3, constantValue := 0 }, { name := "serialVersionUID", type := .long, accessFlags := 26, slot := 0, constantValue := 0 }, { name := "COMPACT_STRINGS", type := .boolean, accessFlags := 24, slot := 1, constantValue := 0 }, { name := "serialPersistentFields", type := (.array (.object "java/io/ObjectStreamField")), accessFlags := 26, slot := 2, constantValue := 0 }, { name := "REPL", type := .char, accessFlags := 26, slot := 3, constantValue := 0 }, { name := "CASE_INSENSITIVE_ORDER", type := (.object "java/util/Comparator"), accessFlags := 25, slot := 4, constantValue := 0 }, { name := "LATIN1", type := .byte, accessFlags := 24, slot := 5, constantValue := 0 }, { name := "UTF16", type := .byte, accessFlags := 24, slot := 6, constantValue := 0 }]
  methods := #[k14m0, k14m1, k14m2, k14m3, k14m4, k14m5, k14m6]
  instanceTypes := #[(.array .byte), .byte, .int, .boolean]
  staticTypes := #[.long, .boolean, (.array (.object "java/io/ObjectStreamField")), .char, (.object "java/util/Comparator"), .byte, .byte]
  resolved := Array.replicate 1451 none
  statics := some 2 }

def pool15 : Array CpInfo := pool [(1, .class_ 2), (0, u "java/lang/Appendable"), (0, .class_ 4), (0, u "java/lang/Object")] 9

/-- java/lang/Appendable -/
def k15 : Class := { plain "java/lang/Appendable" (some 0) with
  accessFlags := 1537
  interfaces := #[]
  cf := some (fileOf pool15 1 #[] #[] 1537 3 #[] #[])
  fields := #[]
  methods := #[]
  instanceTypes := #[]
  staticTypes := #[]
  resolved := Array.replicate 14 none
  statics := none }

def pool16 : Array CpInfo := pool [(1, .class_ 2), (0, u "java/lang/String"), (0, .methodref 4 5), (0, .class_ 6), (0, .nameAndType 7 8), (0, u "java/lang/Object"), (0, u "<init>"), (0, u "()V"), (1, .class_ 12), (1, u "java/lang/AbstractStringBuilder"), (0, u "EMPTYVALUE"), (0, u "[B"), (0, .fieldref 10 16), (0, .nameAndType 17 14), (0, u "value"), (0, .fieldref 1 19), (0, .nameAndType 20 21), (0, u "COMPACT_STRINGS"), (0, u "Z"), (0, .fieldref 10 23), (0, .nameAndType 24 25), (0, u "coder"), (0, u "B"), (6, .methodref 1 33), (0, .nameAndType 34 35), (0, u "length"), (0, u "()I"), (3, .integer 2147483647), (0, .methodref 1 41), (0, .nameAndType 24 42), (0, u "()B"), (2, u "append"), (0, u "(Ljava/lang/String;)Ljava/lang/AbstractStringBuilder;"), (1, .class_ 49), (0, u "java/lang/CharSequence"), (19, u "(Ljava/lang/String;)V"), (5, u "maybeLatin1"), (3, .fieldref 10 80), (0, .nameAndType 81 82), (0, u "count"), (0, u "I"), (2, u "isLatin1"), (0, u "()Z"), (13, .methodref 10 101), (0, .nameAndType 102 103), (0, u "ensureCapacityInternal"), (0, u "(I)V"), (0, .methodref 10 105), (0, .nameAndType 106 107), (0, u "newCapacity"), (0, u "(I)I"), (0, .methodref 109 110), (0, .class_ 111), (0, .nameAndType 112 113), (0, u "java/util/Arrays"), (0, u "copyOf"), (0, u "([BI)[B"), (0, .methodref 115 116), (0, .class_ 117), (0, .nameAndType 118 119), (0, u "jdk/internal/util/ArraysSupport"), (0, u "newLength"), (0, u "(III)I"), (88, .methodref 10 209), (0, .nameAndType 210 211), (0, u "putStringAt"), (0, u "(ILjava/lang/String;)V"), (5, u "inflateIfNeededFor"), (2, .nameAndType 221 222), (0, u "getBytes"), (0, u "([BIB)V"), (174, .methodref 10 398), (0, .nameAndType 217 69), (0, .methodref 1 220), (3, u "()[B"), (40, .class_ 445), (0, u "java/lang/Appendable"), (106, u "getValue")] 56

def k16m0 : Method := { name := "<init>", desc := "()V", sig := { parameters := [], returnType := none }, accessFlags := 0, code := none }
def k16c1 : Code := { maxStack := 2, maxLocals := 2, code := jdk_68_method_2_code, exceptionTable := #[], attributes := #[] }
def k16m1 : Method := { name := "<init>", desc := "(I)V", sig := { parameters := [.int], returnType := none }, accessFlags := 0, code := some k16c1 }
def k16c2 : Code := { maxStack := 1, maxLocals := 1, code := jdk_68_method_6_code, exceptionTable := #[], attributes := #[] }
def k16m2 : Method := { name := "length", desc := "()I", sig := { parameters := [], returnType := some .int }, accessFlags := 1, code := some k16c2 }
def k16c3 : Code := { maxStack := 4, maxLocals := 3, code := jdk_68_method_9_code, exceptionTable := #[], attributes := #[] }
def k16m3 : Method := { name := "ensureCapacityInternal", desc := "(I)V", sig := { parameters := [.int], returnType := none }, accessFlags := 2, code := some k16c3 }
def k16c4 : Code := { maxStack := 5, maxLocals := 6, code := jdk_68_method_10_code, exceptionTable := #[], attributes := #[] }
def k16m4 : Method := { name := "newCapacity", desc := "(I)I", sig := { parameters := [.int], returnType := some .int }, accessFlags := 2, code := some k16c4 }
def k16c5 : Code := { maxStack := 3, maxLocals := 3, code := jdk_68_method_22_code, exceptionTable := #[], attributes := #[] }
def k16m5 : Method := { name := "append", desc := "(Ljava/lang/String;)Ljava/lang/AbstractStringBuilder;", sig := { parameters := [(.object "java/lang/String")], returnType := some (.object "java/lang/AbstractStringBuilder") }, accessFlags := 1, code := some k16c5 }
def k16c6 : Code := { maxStack := 1, maxLocals := 1, code := jdk_68_method_64_code, exceptionTable := #[], attributes := #[] }
def k16m6 : Method := { name := "getValue", desc := "()[B", sig := { parameters := [], returnType := some (.array .byte) }, accessFlags := 16, code := some k16c6 }
def k16c7 : Code := { maxStack := 1, maxLocals := 1, code := jdk_68_method_68_code, exceptionTable := #[], attributes := #[] }
def k16m7 : Method := { name := "isLatin1", desc := "()Z", sig := { parameters := [], returnType := some .boolean }, accessFlags := 16, code := some k16c7 }
def k16c8 : Code := { maxStack := 2, maxLocals := 2, code := jdk_68_method_71_code, exceptionTable := #[], attributes := #[] }
def k16m8 : Method := { name := "inflateIfNeededFor", desc := "(Ljava/lang/String;)V", sig := { parameters := [(.object "java/lang/String")], returnType := none }, accessFlags := 2, code := some k16c8 }
def k16c9 : Code := { maxStack := 4, maxLocals := 3, code := jdk_68_method_73_code, exceptionTable := #[], attributes := #[] }
def k16m9 : Method := { name := "putStringAt", desc := "(ILjava/lang/String;)V", sig := { parameters := [.int, (.object "java/lang/String")], returnType := none }, accessFlags := 2, code := some k16c9 }
/-- java/lang/AbstractStringBuilder -/
def k16 : Class := { plain "java/lang/AbstractStringBuilder" (some 0) with
  accessFlags := 1056
  interfaces := #[15, 12]
  cf := some (fileOf pool16 10 #[] #[{ accessFlags := 0, nameIndex := 7, descriptorIndex := 8, attributes := #[] }, { accessFlags := 0, nameIndex := 7, descriptorIndex := 103, attributes := #[] }, { accessFlags := 1, nameIndex := 34, descriptorIndex := 35, attributes := #[] }, { accessFlags := 2, nameIndex := 102, descriptorIndex := 103, attributes := #[] }, { accessFlags := 2, nameIndex := 106, descriptorIndex := 107, attributes := #[] }, { accessFlags := 1, nameIndex := 45, descriptorIndex := 46, attributes := #[] }, { accessFlags := 16, nameIndex := 552, descriptorIndex := 403, attributes := #[] }, { accessFlags := 16, nameIndex := 85, descriptorIndex := 86, attributes := #[] }, { accessFlags := 2, nameIndex := 217, descriptorIndex := 69, attributes := #[] }, { accessFlags := 2, nameIndex := 210, descriptorIndex := 211, attributes := #[] }] 1056 4 #[444, 48] #[{ accessFlags := 0, nameIndex := 17, descriptorIndex := 14, attributes := #[] }, { accessFlags := 0, nameIndex := 24, descriptorIndex := 25, attributes := #[] }, { accessFlags := 0, nameIndex := 75, descriptorIndex := 21, attributes := #[] }, { accessFlags := 0, nameIndex := 81, descriptorIndex := 82, attributes := #[] }, { accessFlags := 26, nameIndex := 13, descriptorIndex := 14, attributes := #[] }])
  fields := #[{ name := "value", type := (.array .byte), accessFlags := 0, slot := 0, constantValue := 0 }, { name := "coder", type := .byte, accessFlags := 0, slot := 1, constantValue := 0 }, { name := "maybeLatin1", type := .boolean, accessFlags := 0, slot := 2, constantValue := 0 }, { name := "count", type := .int, accessFlags := 0, slot := 3, constantValue := 0 }, { name := "EMPTYVALUE", type := (.array .byte), accessFlags := 26, slot := 0, constantValue := 0 }]
  methods := #[k16m0, k16m1, k16m2, k16m3, k16m4, k16m5, k16m6, k16m7, k16m8, k16m9]
  instanceTypes := #[(.array .byte), .byte, .boolean, .int]
  staticTypes := #[(.array .byte)]
  resolved := Array.replicate 609 none
  statics := none }

def pool17 : Array CpInfo := pool [(1, .methodref 2 3), (0, .class_ 4), (0, .nameAndType 5 6), (0, u "java/lang/AbstractStringBuilder"), (0, u "<init>"), (0, u "(I)V"), (11, .class_ 20), (1, u "java/lang/String"), (3, .class_ 26), (1, u "java/lang/StringBuilder"), (0, u "append"), (0, u "(Ljava/lang/String;)Ljava/lang/StringBuilder;"), (0, .methodref 2 30), (0, .nameAndType 27 31), (0, u "(Ljava/lang/String;)Ljava/lang/AbstractStringBuilder;"), (105, .methodref 18 138), (0, .nameAndType 5 139), (0, u "(Ljava/lang/StringBuilder;)V"), (5, u "()V"), (10, u "()I"), (186, .methodref 2 344), (0, .nameAndType 345 156), (0, u "length"), (3, .class_ 350), (0, u "java/lang/Appendable"), (0, .class_ 352), (0, u "java/io/Serializable"), (0, .class_ 354), (0, u "java/lang/Comparable"), (0, .class_ 356), (0, u "java/lang/CharSequence"), (0, u "serialVersionUID"), (0, u "J"), (40, u "toString"), (0, u "()Ljava/lang/String;")] 21

def k17c0 : Code := { maxStack := 2, maxLocals := 1, code := jdk_67_method_1_code, exceptionTable := #[], attributes := #[] }
def k17m0 : Method := { name := "<init>", desc := "()V", sig := { parameters := [], returnType := none }, accessFlags := 1, code := some k17c0 }
def k17c1 : Code := { maxStack := 2, maxLocals := 2, code := jdk_67_method_7_code, exceptionTable := #[], attributes := #[] }
def k17m1 : Method := { name := "append", desc := "(Ljava/lang/String;)Ljava/lang/StringBuilder;", sig := { parameters := [(.object "java/lang/String")], returnType := some (.object "java/lang/StringBuilder") }, accessFlags := 1, code := some k17c1 }
def k17c2 : Code := { maxStack := 3, maxLocals := 1, code := jdk_67_method_42_code, exceptionTable := #[], attributes := #[] }
def k17m2 : Method := { name := "toString", desc := "()Ljava/lang/String;", sig := { parameters := [], returnType := some (.object "java/lang/String") }, accessFlags := 1, code := some k17c2 }
def k17c3 : Code := { maxStack := 1, maxLocals := 1, code := jdk_67_method_93_code, exceptionTable := #[], attributes := #[] }
def k17m3 : Method := { name := "length", desc := "()I", sig := { parameters := [], returnType := some .int }, accessFlags := 4161, code := some k17c3 }
/-- java/lang/StringBuilder -/
def k17 : Class := { plain "java/lang/StringBuilder" (some 16) with
  accessFlags := 49
  interfaces := #[15, 4, 3, 12]
  cf := some (fileOf pool17 24 #[] #[{ accessFlags := 1, nameIndex := 5, descriptorIndex := 145, attributes := #[] }, { accessFlags := 1, nameIndex := 27, descriptorIndex := 28, attributes := #[] }, { accessFlags := 1, nameIndex := 399, descriptorIndex := 400, attributes := #[] }, { accessFlags := 4161, nameIndex := 345, descriptorIndex := 156, attributes := #[] }] 49 2 #[349, 351, 353, 355] #[{ accessFlags := 24, nameIndex := 357, descriptorIndex := 358, attributes := #[] }])
  fields := #[{ name := "serialVersionUID", type := .long, accessFlags := 24, slot := 0, constantValue := 0 }]
  methods := #[k17m0, k17m1, k17m2, k17m3]
  instanceTypes := #[(.array .byte), .byte, .boolean, .int]
  staticTypes := #[.long]
  resolved := Array.replicate 422 none
  statics := none }

def pool18 : Array CpInfo := pool [(2, .class_ 4), (1, u "java/lang/Object"), (0, u "<init>"), (0, u "()V"), (1, .class_ 10), (1, u "java/lang/System"), (0, u "allowSecurityManager"), (0, u "I"), (16, u "cons"), (0, u "Ljava/io/Console;"), (77, .class_ 110), (1, u "java/lang/System$CallersHolder"), (43, u "initialErrStream"), (0, u "Ljava/io/PrintStream;"), (19, u "security"), (0, u "Ljava/lang/SecurityManager;"), (31, .class_ 209), (0, u "java/lang/System$1"), (7, u "props"), (0, u "Ljava/util/Properties;"), (2, u "lineSeparator"), (0, u "Ljava/lang/String;"), (96, .class_ 321), (1, u "java/lang/System$LoggerFinder"), (5, .class_ 328), (0, u "java/lang/System$Logger"), (67, u "err"), (2, u "out"), (91, u "notSupportedJnuEncoding"), (15, u "in"), (17, u "initialIn"), (0, u "Ljava/io/InputStream;"), (35, u "bootLayer"), (0, u "Ljava/lang/ModuleLayer;"), (99, .class_ 664), (0, u "java/lang/System$2"), (9, u "NEVER"), (2, u "MAYBE"), (49, u "arraycopy"), (0, u "(Ljava/lang/Object;ILjava/lang/Object;II)V"), (72, .class_ 802), (0, u "java/lang/System$Logger$Level")] 31

def k18m0 : Method := { name := "<init>", desc := "()V", sig := { parameters := [], returnType := none }, accessFlags := 2, code := none }
def k18m1 : Method := { name := "arraycopy", desc := "(Ljava/lang/Object;ILjava/lang/Object;II)V", sig := { parameters := [(.object "java/lang/Object"), .int, (.object "java/lang/Object"), .int, .int], returnType := none }, accessFlags := 265, code := none }
/-- java/lang/System -/
def k18 : Class := { plain "java/lang/System" (some 0) with
  accessFlags := 49
  interfaces := #[]
  cf := some (fileOf pool18 8 #[.nestMembers #[319, 327, 801, 108, 663, 208]] #[{ accessFlags := 2, nameIndex := 5, descriptorIndex := 6, attributes := #[] }, { accessFlags := 265, nameIndex := 727, descriptorIndex := 728, attributes := #[] }] 49 2 #[] #[{ accessFlags := 25, nameIndex := 507, descriptorIndex := 526, attributes := #[] }, { accessFlags := 25, nameIndex := 399, descriptorIndex := 155, attributes := #[] }, { accessFlags := 25, nameIndex := 396, descriptorIndex := 155, attributes := #[] }, { accessFlags := 10, nameIndex := 525, descriptorIndex := 526, attributes := #[] }, { accessFlags := 26, nameIndex := 674, descriptorIndex := 12, attributes := #[] }, { accessFlags := 26, nameIndex := 677, descriptorIndex := 12, attributes := #[] }, { accessFlags := 10, nameIndex := 11, descriptorIndex := 12, attributes := #[] }, { accessFlags := 74, nameIndex := 175, descriptorIndex := 176, attributes := #[] }, { accessFlags := 10, nameIndex := 491, descriptorIndex := 222, attributes := #[] }, { accessFlags := 74, nameIndex := 29, descriptorIndex := 30, attributes := #[] }, { accessFlags := 74, nameIndex := 154, descriptorIndex := 155, attributes := #[] }, { accessFlags := 10, nameIndex := 217, descriptorIndex := 218, attributes := #[] }, { accessFlags := 10, nameIndex := 221, descriptorIndex := 222, attributes := #[] }, { accessFlags := 8, nameIndex := 562, descriptorIndex := 563, attributes := #[] }])
  fields := #[{ name := "in", type := (.object "java/io/InputStream"), accessFlags := 25, slot := 0, constantValue := 0 }, { name := "out", type := (.object "java/io/PrintStream"), accessFlags := 25, slot := 1, constantValue := 0 }, { name := "err", type := (.object "java/io/PrintStream"), accessFlags := 25, slot := 2, constantValue := 0 }, { name := "initialIn", type := (.object "java/io/InputStream"), accessFlags := 10, slot := 3, constantValue := 0 }, { name := "NEVER", type := .int, accessFlags := 26, slot := 4, constantValue := 0 }, { name := "MAYBE", type := .int, accessFlags := 26, slot := 5, constantValue := 0 }, { name := "allowSecurityManager", type := .int, accessFlags := 10, slot := 6, constantValue := 0 }, { name := "security", type := (.object "java/lang/SecurityManager"), accessFlags := 74, slot := 7, constantValue := 0 }, { name := "notSupportedJnuEncoding", type := (.object "java/lang/String"), accessFlags := 10, slot := 8, constantValue := 0 }, { name := "cons", type := (.object "java/io/Console"), accessFlags := 74, slot := 9, constantValue := 0 }, { name := "initialErrStream", type := (.object "java/io/PrintStream"), accessFlags := 74, slot := 10, constantValue := 0 }, { name := "props", type := (.object "java/util/Properties"), accessFlags := 10, slot := 11, constantValue := 0 }, { name := "lineSeparator", type := (.object "java/lang/String"), accessFlags := 10, slot := 12, constantValue := 0 }, { name := "bootLayer", type := (.object "java/lang/ModuleLayer"), accessFlags := 8, slot := 13, constantValue := 0 }]
  methods := #[k18m0, k18m1]
  instanceTypes := #[]
  staticTypes := #[(.object "java/io/InputStream"), (.object "java/io/PrintStream"), (.object "java/io/PrintStream"), (.object "java/io/InputStream"), .int, .int, .int, (.object "java/lang/SecurityManager"), (.object "java/lang/String"), (.object "java/io/Console"), (.object "java/io/PrintStream"), (.object "java/util/Properties"), (.object "java/lang/String"), (.object "java/lang/ModuleLayer")]
  resolved := Array.replicate 834 none
  statics := none }

def pool19 : Array CpInfo := pool [(2, .class_ 4), (1, u "java/lang/Object"), (0, u "<init>"), (0, u "()V"), (7, .class_ 16), (1, u "java/util/Arrays"), (57, .class_ 76), (1, u "java/util/Arrays$NaturalOrder"), (36, .class_ 115), (1, u "java/util/Arrays$LegacyMergeSort"), (1, u "Z"), (21, u "copyOfRange"), (10, .methodref 151 152), (0, .class_ 153), (0, .nameAndType 154 155), (0, u "java/lang/System"), (0, u "arraycopy"), (0, u "(Ljava/lang/Object;ILjava/lang/Object;II)V"), (146, u "copyOf"), (1, .methodref 305 306), (0, .class_ 307), (0, .nameAndType 308 309), (0, u "java/lang/Math"), (0, u "min"), (0, u "(II)I"), (29, .methodref 14 340), (0, .nameAndType 341 342), (0, u "copyOfRangeByte"), (0, u "([BII)[B"), (0, .methodref 14 344), (0, .nameAndType 345 346), (0, u "checkLength"), (0, u "(II)V"), (28, .class_ 376), (0, u "java/util/Arrays$ArrayList"), (68, u "$assertionsDisabled"), (269, u "MIN_ARRAY_SORT_GRAN"), (0, u "I"), (2, u "INSERTIONSORT_THRESHOLD"), (149, u "([BI)[B"), (105, .class_ 976), (0, u "java/util/Arrays$ArrayItr")] 52

def k19m0 : Method := { name := "<init>", desc := "()V", sig := { parameters := [], returnType := none }, accessFlags := 2, code := none }
def k19c1 : Code := { maxStack := 6, maxLocals := 3, code := jdk_65_method_121_code, exceptionTable := #[], attributes := #[] }
def k19m1 : Method := { name := "copyOf", desc := "([BI)[B", sig := { parameters := [(.array .byte), .int], returnType := some (.array .byte) }, accessFlags := 9, code := some k19c1 }
def k19c2 : Code := { maxStack := 4, maxLocals := 2, code := jdk_65_method_131_code, exceptionTable := #[], attributes := #[] }
def k19m2 : Method := { name := "checkLength", desc := "(II)V", sig := { parameters := [.int, .int], returnType := none }, accessFlags := 10, code := some k19c2 }
def k19c3 : Code := { maxStack := 3, maxLocals := 3, code := jdk_65_method_132_code, exceptionTable := #[], attributes := #[] }
def k19m3 : Method := { name := "copyOfRange", desc := "([BII)[B", sig := { parameters := [(.array .byte), .int, .int], returnType := some (.array .byte) }, accessFlags := 9, code := some k19c3 }
def k19c4 : Code := { maxStack := 6, maxLocals := 5, code := jdk_65_method_133_code, exceptionTable := #[], attributes := #[] }
def k19m4 : Method := { name := "copyOfRangeByte", desc := "([BII)[B", sig := { parameters := [(.array .byte), .int, .int], returnType := some (.array .byte) }, accessFlags := 10, code := some k19c4 }
/-- java/util/Arrays -/
def k19 : Class := { plain "java/util/Arrays" (some 0) with
  accessFlags := 49
  interfaces := #[]
  cf := some (fileOf pool19 14 #[.nestMembers #[975, 375, 113, 74]] #[{ accessFlags := 2, nameIndex := 5, descriptorIndex := 6, attributes := #[] }, { accessFlags := 9, nameIndex := 302, descriptorIndex := 869, attributes := #[] }, { accessFlags := 10, nameIndex := 345, descriptorIndex := 346, attributes := #[] }, { accessFlags := 9, nameIndex := 139, descriptorIndex := 342, attributes := #[] }, { accessFlags := 10, nameIndex := 341, descriptorIndex := 342, attributes := #[] }] 49 2 #[] #[{ accessFlags := 26, nameIndex := 715, descriptorIndex := 716, attributes := #[] }, { accessFlags := 26, nameIndex := 719, descriptorIndex := 716, attributes := #[] }, { accessFlags := 4120, nameIndex := 445, descriptorIndex := 117, attributes := #[] }])
  fields := #[{ name := "MIN_ARRAY_SORT_GRAN", type := .int, accessFlags := 26, slot := 0, constantValue := 0 }, { name := "INSERTIONSORT_THRESHOLD", type := .int, accessFlags := 26, slot := 1, constantValue := 0 }, { name := "$assertionsDisabled", type := .boolean, accessFlags := 4120, slot := 2, constantValue := 0 }]
  methods := #[k19m0, k19m1, k19m2, k19m3, k19m4]
  instanceTypes := #[]
  staticTypes := #[.int, .int, .boolean]
  resolved := Array.replicate 1029 none
  statics := none }

def pool20 : Array CpInfo := pool [(1, .class_ 2), (0, u "java/lang/Math"), (1, .class_ 6), (1, u "java/lang/Object"), (0, u "<init>"), (0, u "()V"), (89, .class_ 100), (1, u "java/lang/Math$RandomNumberGeneratorHolder"), (71, u "negativeZeroFloatBits"), (0, u "J"), (2, u "negativeZeroDoubleBits"), (21, u "max"), (2, u "min"), (43, u "$assertionsDisabled"), (0, u "Z"), (88, u "(II)I"), (2, u "twoToTheDoubleScaleDown"), (0, u "D"), (4, u "twoToTheDoubleScaleUp"), (9, u "E"), (3, u "PI"), (2, u "TAU"), (2, u "DEGREES_TO_RADIANS"), (0, u "RADIANS_TO_DEGREES")] 94

def k20m0 : Method := { name := "<init>", desc := "()V", sig := { parameters := [], returnType := none }, accessFlags := 2, code := none }
def k20c1 : Code := { maxStack := 2, maxLocals := 2, code := jdk_29_method_65_code, exceptionTable := #[], attributes := #[] }
def k20m1 : Method := { name := "max", desc := "(II)I", sig := { parameters := [.int, .int], returnType := some .int }, accessFlags := 9, code := some k20c1 }
def k20c2 : Code := { maxStack := 2, maxLocals := 2, code := jdk_29_method_69_code, exceptionTable := #[], attributes := #[] }
def k20m2 : Method := { name := "min", desc := "(II)I", sig := { parameters := [.int, .int], returnType := some .int }, accessFlags := 9, code := some k20c2 }
/-- java/lang/Math -/
def k20 : Class := { plain "java/lang/Math" (some 0) with
  accessFlags := 49
  interfaces := #[]
  cf := some (fileOf pool20 1 #[.nestMembers #[98]] #[{ accessFlags := 2, nameIndex := 7, descriptorIndex := 8, attributes := #[] }, { accessFlags := 9, nameIndex := 198, descriptorIndex := 335, attributes := #[] }, { accessFlags := 9, nameIndex := 201, descriptorIndex := 335, attributes := #[] }] 49 4 #[] #[{ accessFlags := 25, nameIndex := 354, descriptorIndex := 339, attributes := #[] }, { accessFlags := 25, nameIndex := 358, descriptorIndex := 339, attributes := #[] }, { accessFlags := 25, nameIndex := 361, descriptorIndex := 339, attributes := #[] }, { accessFlags := 26, nameIndex := 364, descriptorIndex := 339, attributes := #[] }, { accessFlags := 26, nameIndex := 365, descriptorIndex := 339, attributes := #[] }, { accessFlags := 26, nameIndex := 172, descriptorIndex := 173, attributes := #[] }, { accessFlags := 26, nameIndex := 176, descriptorIndex := 173, attributes := #[] }, { accessFlags := 8, nameIndex := 344, descriptorIndex := 339, attributes := #[] }, { accessFlags := 8, nameIndex := 338, descriptorIndex := 339, attributes := #[] }, { accessFlags := 4120, nameIndex := 245, descriptorIndex := 246, attributes := #[] }])
  fields := #[{ name := "E", type := .double, accessFlags := 25, slot := 0, constantValue := 0 }, { name := "PI", type := .double, accessFlags := 25, slot := 1, constantValue := 0 }, { name := "TAU", type := .double, accessFlags := 25, slot := 2, constantValue := 0 }, { name := "DEGREES_TO_RADIANS", type := .double, accessFlags := 26, slot := 3, constantValue := 0 }, { name := "RADIANS_TO_DEGREES", type := .double, accessFlags := 26, slot := 4, constantValue := 0 }, { name := "negativeZeroFloatBits", type := .long, accessFlags := 26, slot := 5, constantValue := 0 }, { name := "negativeZeroDoubleBits", type := .long, accessFlags := 26, slot := 6, constantValue := 0 }, { name := "twoToTheDoubleScaleUp", type := .double, accessFlags := 8, slot := 7, constantValue := 0 }, { name := "twoToTheDoubleScaleDown", type := .double, accessFlags := 8, slot := 8, constantValue := 0 }, { name := "$assertionsDisabled", type := .boolean, accessFlags := 4120, slot := 9, constantValue := 0 }]
  methods := #[k20m0, k20m1, k20m2]
  instanceTypes := #[]
  staticTypes := #[.double, .double, .double, .double, .double, .long, .long, .double, .double, .boolean]
  resolved := Array.replicate 460 none
  statics := none }

def pool21 : Array CpInfo := pool [(4, .class_ 6), (1, u "java/lang/Object"), (0, u "<init>"), (0, u "()V"), (5, .class_ 16), (1, u "java/lang/StringLatin1"), (104, u "$assertionsDisabled"), (0, u "Z"), (98, .class_ 223), (1, u "java/lang/StringLatin1$LinesSpliterator"), (57, u "equals"), (0, u "([B[B)Z"), (107, .class_ 391), (0, u "java/lang/StringLatin1$CharsSpliterator")] 3

def k21m0 : Method := { name := "<init>", desc := "()V", sig := { parameters := [], returnType := none }, accessFlags := 0, code := none }
def k21c1 : Code := { maxStack := 3, maxLocals := 3, code := jdk_43_method_13_code, exceptionTable := #[], attributes := #[] }
def k21m1 : Method := { name := "equals", desc := "([B[B)Z", sig := { parameters := [(.array .byte), (.array .byte)], returnType := some .boolean }, accessFlags := 9, code := some k21c1 }
/-- java/lang/StringLatin1 -/
def k21 : Class := { plain "java/lang/StringLatin1" (some 0) with
  accessFlags := 48
  interfaces := #[]
  cf := some (fileOf pool21 14 #[.nestMembers #[390, 221]] #[{ accessFlags := 0, nameIndex := 7, descriptorIndex := 8, attributes := #[] }, { accessFlags := 9, nameIndex := 281, descriptorIndex := 282, attributes := #[] }] 48 4 #[] #[{ accessFlags := 4120, nameIndex := 121, descriptorIndex := 122, attributes := #[] }])
  fields := #[{ name := "$assertionsDisabled", type := .boolean, accessFlags := 4120, slot := 0, constantValue := 0 }]
  methods := #[k21m0, k21m1]
  instanceTypes := #[]
  staticTypes := #[.boolean]
  resolved := Array.replicate 395 none
  statics := none }

def pool22 : Array CpInfo := pool [(1, .methodref 2 3), (0, .class_ 4), (0, .nameAndType 5 6), (0, u "java/lang/Record"), (0, u "<init>"), (0, u "()V"), (0, .string 8), (0, u "double"), (0, .interfaceMethodref 10 11), (0, .class_ 12), (0, .nameAndType 13 14), (0, u "dev/typewright/dart/DartForm"), (0, u "nullable"), (0, u "(Ljava/lang/String;Z)Ljava/lang/String;"), (0, .class_ 16), (0, u "java/lang/StringBuilder"), (0, .methodref 15 3), (0, .string 19), (0, u "("), (0, .methodref 15 21), (0, .nameAndType 22 23), (0, u "append"), (0, u "(Ljava/lang/String;)Ljava/lang/StringBuilder;"), (0, .string 25), (0, u " as num?)?.toDouble()"), (0, .methodref 15 27), (0, .nameAndType 28 29), (0, u "toString"), (0, u "()Ljava/lang/String;"), (0, .string 31), (0, u " as num).toDouble()"), (0, .string 33), (0, u "num"), (0, .string 35), (0, u ".toDouble()"), (17, .class_ 54), (0, u "dev/typewright/dart/DartForm$DoubleForm"), (2, u "type"), (0, u "(Z)Ljava/lang/String;"), (0, u "fromJson"), (3, u "toJson"), (0, u "decodedType"), (0, u "fromDecoded"), (0, u "(Ljava/lang/String;)Ljava/lang/String;")] 26

def k22c0 : Code := { maxStack := 1, maxLocals := 1, code := prog_44_method_1_code, exceptionTable := #[], attributes := #[] }
def k22m0 : Method := { name := "<init>", desc := "()V", sig := { parameters := [], returnType := none }, accessFlags := 1, code := some k22c0 }
def k22c1 : Code := { maxStack := 2, maxLocals := 2, code := prog_44_method_2_code, exceptionTable := #[], attributes := #[] }
def k22m1 : Method := { name := "type", desc := "(Z)Ljava/lang/String;", sig := { parameters := [.boolean], returnType := some (.object "java/lang/String") }, accessFlags := 1, code := some k22c1 }
def k22c2 : Code := { maxStack := 2, maxLocals := 3, code := prog_44_method_3_code, exceptionTable := #[], attributes := #[] }
def k22m2 : Method := { name := "fromJson", desc := "(Ljava/lang/String;Z)Ljava/lang/String;", sig := { parameters := [(.object "java/lang/String"), .boolean], returnType := some (.object "java/lang/String") }, accessFlags := 1, code := some k22c2 }
def k22c3 : Code := { maxStack := 1, maxLocals := 3, code := prog_44_method_4_code, exceptionTable := #[], attributes := #[] }
def k22m3 : Method := { name := "toJson", desc := "(Ljava/lang/String;Z)Ljava/lang/String;", sig := { parameters := [(.object "java/lang/String"), .boolean], returnType := some (.object "java/lang/String") }, accessFlags := 1, code := some k22c3 }
def k22c4 : Code := { maxStack := 1, maxLocals := 1, code := prog_44_method_5_code, exceptionTable := #[], attributes := #[] }
def k22m4 : Method := { name := "decodedType", desc := "()Ljava/lang/String;", sig := { parameters := [], returnType := some (.object "java/lang/String") }, accessFlags := 1, code := some k22c4 }
def k22c5 : Code := { maxStack := 2, maxLocals := 2, code := prog_44_method_6_code, exceptionTable := #[], attributes := #[] }
def k22m5 : Method := { name := "fromDecoded", desc := "(Ljava/lang/String;)Ljava/lang/String;", sig := { parameters := [(.object "java/lang/String")], returnType := some (.object "java/lang/String") }, accessFlags := 1, code := some k22c5 }
/-- dev/typewright/dart/DartForm$DoubleForm -/
def k22 : Class := { plain "dev/typewright/dart/DartForm$DoubleForm" (some 10) with
  accessFlags := 49
  interfaces := #[8]
  cf := some (fileOf pool22 53 #[.nestHost 10] #[{ accessFlags := 1, nameIndex := 5, descriptorIndex := 6, attributes := #[] }, { accessFlags := 1, nameIndex := 57, descriptorIndex := 58, attributes := #[] }, { accessFlags := 1, nameIndex := 59, descriptorIndex := 14, attributes := #[] }, { accessFlags := 1, nameIndex := 63, descriptorIndex := 14, attributes := #[] }, { accessFlags := 1, nameIndex := 64, descriptorIndex := 29, attributes := #[] }, { accessFlags := 1, nameIndex := 65, descriptorIndex := 66, attributes := #[] }] 49 2 #[10] #[])
  fields := #[]
  methods := #[k22m0, k22m1, k22m2, k22m3, k22m4, k22m5]
  instanceTypes := #[]
  staticTypes := #[]
  resolved := Array.replicate 93 none
  statics := none }

def pool23 : Array CpInfo := pool [(9, u "<init>"), (6, .class_ 18), (1, u "java/lang/Object"), (0, u "()V"), (1, .class_ 23), (1, u "jdk/internal/util/ArraysSupport"), (0, u "LOG2_ARRAY_LONG_INDEX_SCALE"), (0, u "I"), (2, u "U"), (0, u "Ljdk/internal/misc/Unsafe;"), (8, u "BIG_ENDIAN"), (0, u "Z"), (8, u "LOG2_BYTE_BIT_SIZE"), (4, u "LOG2_ARRAY_INT_INDEX_SCALE"), (54, u "JLA"), (0, u "Ljdk/internal/access/JavaLangAccess;"), (11, u "LOG2_ARRAY_BOOLEAN_INDEX_SCALE"), (9, u "LOG2_ARRAY_BYTE_INDEX_SCALE"), (5, u "LOG2_ARRAY_CHAR_INDEX_SCALE"), (5, u "LOG2_ARRAY_SHORT_INDEX_SCALE"), (18, u "LOG2_ARRAY_FLOAT_INDEX_SCALE"), (24, u "LOG2_ARRAY_DOUBLE_INDEX_SCALE"), (6, .methodref 195 196), (0, .class_ 197), (0, .nameAndType 198 199), (0, u "java/lang/Math"), (0, u "max"), (0, u "(II)I"), (0, .integer 2147483639), (76, u "T_BOOLEAN"), (2, u "T_CHAR"), (1, u "T_FLOAT"), (1, u "T_DOUBLE"), (1, u "T_BYTE"), (1, u "T_SHORT"), (1, u "T_INT"), (1, u "T_LONG"), (1, u "SOFT_MAX_ARRAY_LENGTH"), (56, u "newLength"), (0, u "(III)I")] 25

def k23m0 : Method := { name := "<init>", desc := "()V", sig := { parameters := [], returnType := none }, accessFlags := 2, code := none }
def k23c1 : Code := { maxStack := 3, maxLocals := 4, code := jdk_48_method_27_code, exceptionTable := #[], attributes := #[] }
def k23m1 : Method := { name := "newLength", desc := "(III)I", sig := { parameters := [.int, .int, .int], returnType := some .int }, accessFlags := 9, code := some k23c1 }
/-- jdk/internal/util/ArraysSupport -/
def k23 : Class := { plain "jdk/internal/util/ArraysSupport" (some 0) with
  accessFlags := 33
  interfaces := #[]
  cf := some (fileOf pool23 21 #[] #[{ accessFlags := 2, nameIndex := 9, descriptorIndex := 19, attributes := #[] }, { accessFlags := 9, nameIndex := 351, descriptorIndex := 352, attributes := #[] }] 33 16 #[] #[{ accessFlags := 24, nameIndex := 28, descriptorIndex := 29, attributes := #[] }, { accessFlags := 26, nameIndex := 38, descriptorIndex := 39, attributes := #[] }, { accessFlags := 25, nameIndex := 121, descriptorIndex := 25, attributes := #[] }, { accessFlags := 25, nameIndex := 131, descriptorIndex := 25, attributes := #[] }, { accessFlags := 25, nameIndex := 137, descriptorIndex := 25, attributes := #[] }, { accessFlags := 25, nameIndex := 143, descriptorIndex := 25, attributes := #[] }, { accessFlags := 25, nameIndex := 53, descriptorIndex := 25, attributes := #[] }, { accessFlags := 25, nameIndex := 24, descriptorIndex := 25, attributes := #[] }, { accessFlags := 25, nameIndex := 162, descriptorIndex := 25, attributes := #[] }, { accessFlags := 25, nameIndex := 187, descriptorIndex := 25, attributes := #[] }, { accessFlags := 26, nameIndex := 48, descriptorIndex := 25, attributes := #[] }, { accessFlags := 25, nameIndex := 277, descriptorIndex := 25, attributes := #[] }, { accessFlags := 25, nameIndex := 280, descriptorIndex := 25, attributes := #[] }, { accessFlags := 25, nameIndex := 282, descriptorIndex := 25, attributes := #[] }, { accessFlags := 25, nameIndex := 284, descriptorIndex := 25, attributes := #[] }, { accessFlags := 25, nameIndex := 286, descriptorIndex := 25, attributes := #[] }, { accessFlags := 25, nameIndex := 288, descriptorIndex := 25, attributes := #[] }, { accessFlags := 25, nameIndex := 290, descriptorIndex := 25, attributes := #[] }, { accessFlags := 25, nameIndex := 292, descriptorIndex := 25, attributes := #[] }, { accessFlags := 26, nameIndex := 108, descriptorIndex := 109, attributes := #[] }, { accessFlags := 25, nameIndex := 294, descriptorIndex := 25, attributes := #[] }])
  fields := #[{ name := "U", type := (.object "jdk/internal/misc/Unsafe"), accessFlags := 24, slot := 0, constantValue := 0 }, { name := "BIG_ENDIAN", type := .boolean, accessFlags := 26, slot := 1, constantValue := 0 }, { name := "LOG2_ARRAY_BOOLEAN_INDEX_SCALE", type := .int, accessFlags := 25, slot := 2, constantValue := 0 }, { name := "LOG2_ARRAY_BYTE_INDEX_SCALE", type := .int, accessFlags := 25, slot := 3, constantValue := 0 }, { name := "LOG2_ARRAY_CHAR_INDEX_SCALE", type := .int, accessFlags := 25, slot := 4, constantValue := 0 }, { name := "LOG2_ARRAY_SHORT_INDEX_SCALE", type := .int, accessFlags := 25, slot := 5, constantValue := 0 }, { name := "LOG2_ARRAY_INT_INDEX_SCALE", type := .int, accessFlags := 25, slot := 6, constantValue := 0 }, { name := "LOG2_ARRAY_LONG_INDEX_SCALE", type := .int, accessFlags := 25, slot := 7, constantValue := 0 }, { name := "LOG2_ARRAY_FLOAT_INDEX_SCALE", type := .int, accessFlags := 25, slot := 8, constantValue := 0 }, { name := "LOG2_ARRAY_DOUBLE_INDEX_SCALE", type := .int, accessFlags := 25, slot := 9, constantValue := 0 }, { name := "LOG2_BYTE_BIT_SIZE", type := .int, accessFlags := 26, slot := 10, constantValue := 0 }, { name := "T_BOOLEAN", type := .int, accessFlags := 25, slot := 11, constantValue := 0 }, { name := "T_CHAR", type := .int, accessFlags := 25, slot := 12, constantValue := 0 }, { name := "T_FLOAT", type := .int, accessFlags := 25, slot := 13, constantValue := 0 }, { name := "T_DOUBLE", type := .int, accessFlags := 25, slot := 14, constantValue := 0 }, { name := "T_BYTE", type := .int, accessFlags := 25, slot := 15, constantValue := 0 }, { name := "T_SHORT", type := .int, accessFlags := 25, slot := 16, constantValue := 0 }, { name := "T_INT", type := .int, accessFlags := 25, slot := 17, constantValue := 0 }, { name := "T_LONG", type := .int, accessFlags := 25, slot := 18, constantValue := 0 }, { name := "JLA", type := (.object "jdk/internal/access/JavaLangAccess"), accessFlags := 26, slot := 19, constantValue := 0 }, { name := "SOFT_MAX_ARRAY_LENGTH", type := .int, accessFlags := 25, slot := 20, constantValue := 0 }]
  methods := #[k23m0, k23m1]
  instanceTypes := #[]
  staticTypes := #[(.object "jdk/internal/misc/Unsafe"), .boolean, .int, .int, .int, .int, .int, .int, .int, .int, .int, .int, .int, .int, .int, .int, .int, .int, .int, (.object "jdk/internal/access/JavaLangAccess"), .int]
  resolved := Array.replicate 378 none
  statics := none }

def pool24 : Array CpInfo := pool [(1, .methodref 2 3), (0, .class_ 4), (0, .nameAndType 5 6), (0, u "java/lang/Record"), (0, u "<init>"), (0, u "()V"), (0, .fieldref 8 9), (0, .class_ 10), (0, .nameAndType 11 12), (0, u "dev/typewright/dart/DartForm$DateTimeForm"), (0, u "dateOnly"), (0, u "Z"), (0, .string 14), (0, u "DateTime"), (0, .interfaceMethodref 16 17), (0, .class_ 18), (0, .nameAndType 19 20), (0, u "dev/typewright/dart/DartForm"), (0, u "nullable"), (0, u "(Ljava/lang/String;Z)Ljava/lang/String;"), (0, .class_ 22), (0, u "java/lang/StringBuilder"), (0, .methodref 21 3), (0, .methodref 21 25), (0, .nameAndType 26 27), (0, u "append"), (0, u "(Ljava/lang/String;)Ljava/lang/StringBuilder;"), (0, .string 29), (0, u " as String"), (0, .methodref 21 31), (0, .nameAndType 32 33), (0, u "toString"), (0, u "()Ljava/lang/String;"), (0, .methodref 8 35), (0, .nameAndType 36 37), (0, u "fromDecoded"), (0, u "(Ljava/lang/String;)Ljava/lang/String;"), (0, .interfaceMethodref 16 39), (0, .nameAndType 40 41), (0, u "orNull"), (0, u "(Ljava/lang/String;ZLjava/lang/String;)Ljava/lang/String;"), (0, .interfaceMethodref 16 43), (0, .nameAndType 44 20), (0, u "receiver"), (0, .string 46), (0, u ".toIso8601String()"), (0, .string 48), (0, u ".substring(0, 10)"), (0, .string 50), (0, u "String"), (0, .string 52), (0, u "DateTime.parse("), (0, .string 54), (0, u ")"), (19, u "(Z)V"), (3, u "type"), (0, u "(Z)Ljava/lang/String;"), (0, u "fromJson"), (0, u "toJson"), (3, u "decodedType")] 28

def k24c0 : Code := { maxStack := 2, maxLocals := 2, code := prog_42_method_1_code, exceptionTable := #[], attributes := #[] }
def k24m0 : Method := { name := "<init>", desc := "(Z)V", sig := { parameters := [.boolean], returnType := none }, accessFlags := 1, code := some k24c0 }
def k24c1 : Code := { maxStack := 2, maxLocals := 2, code := prog_42_method_2_code, exceptionTable := #[], attributes := #[] }
def k24m1 : Method := { name := "type", desc := "(Z)Ljava/lang/String;", sig := { parameters := [.boolean], returnType := some (.object "java/lang/String") }, accessFlags := 1, code := some k24c1 }
def k24c2 : Code := { maxStack := 5, maxLocals := 3, code := prog_42_method_3_code, exceptionTable := #[], attributes := #[] }
def k24m2 : Method := { name := "fromJson", desc := "(Ljava/lang/String;Z)Ljava/lang/String;", sig := { parameters := [(.object "java/lang/String"), .boolean], returnType := some (.object "java/lang/String") }, accessFlags := 1, code := some k24c2 }
def k24c3 : Code := { maxStack := 3, maxLocals := 4, code := prog_42_method_4_code, exceptionTable := #[], attributes := #[] }
def k24m3 : Method := { name := "toJson", desc := "(Ljava/lang/String;Z)Ljava/lang/String;", sig := { parameters := [(.object "java/lang/String"), .boolean], returnType := some (.object "java/lang/String") }, accessFlags := 1, code := some k24c3 }
def k24c4 : Code := { maxStack := 1, maxLocals := 1, code := prog_42_method_5_code, exceptionTable := #[], attributes := #[] }
def k24m4 : Method := { name := "decodedType", desc := "()Ljava/lang/String;", sig := { parameters := [], returnType := some (.object "java/lang/String") }, accessFlags := 1, code := some k24c4 }
def k24c5 : Code := { maxStack := 2, maxLocals := 2, code := prog_42_method_6_code, exceptionTable := #[], attributes := #[] }
def k24m5 : Method := { name := "fromDecoded", desc := "(Ljava/lang/String;)Ljava/lang/String;", sig := { parameters := [(.object "java/lang/String")], returnType := some (.object "java/lang/String") }, accessFlags := 1, code := some k24c5 }
/-- dev/typewright/dart/DartForm$DateTimeForm -/
def k24 : Class := { plain "dev/typewright/dart/DartForm$DateTimeForm" (some 10) with
  accessFlags := 49
  interfaces := #[8]
  cf := some (fileOf pool24 8 #[.nestHost 16] #[{ accessFlags := 1, nameIndex := 5, descriptorIndex := 74, attributes := #[] }, { accessFlags := 1, nameIndex := 78, descriptorIndex := 79, attributes := #[] }, { accessFlags := 1, nameIndex := 80, descriptorIndex := 20, attributes := #[] }, { accessFlags := 1, nameIndex := 81, descriptorIndex := 20, attributes := #[] }, { accessFlags := 1, nameIndex := 85, descriptorIndex := 33, attributes := #[] }, { accessFlags := 1, nameIndex := 36, descriptorIndex := 37, attributes := #[] }] 49 2 #[16] #[{ accessFlags := 18, nameIndex := 11, descriptorIndex := 12, attributes := #[] }])
  fields := #[{ name := "dateOnly", type := .boolean, accessFlags := 18, slot := 0, constantValue := 0 }]
  methods := #[k24m0, k24m1, k24m2, k24m3, k24m4, k24m5]
  instanceTypes := #[.boolean]
  staticTypes := #[]
  resolved := Array.replicate 114 none
  statics := none }

def pool25 : Array CpInfo := pool [(2, .class_ 4), (1, u "java/lang/Object"), (0, u "<init>"), (0, u "()V"), (17, .class_ 26), (1, u "jdk/internal/util/Preconditions"), (28, .class_ 56), (0, u "jdk/internal/util/Preconditions$4"), (57, .class_ 115), (0, u "jdk/internal/util/Preconditions$1"), (7, u "SIOOBE_FORMATTER"), (0, u "Ljava/util/function/BiFunction;"), (0, .class_ 126), (0, u "jdk/internal/util/Preconditions$2"), (3, u "AIOOBE_FORMATTER"), (0, .class_ 132), (0, u "jdk/internal/util/Preconditions$3"), (3, u "IOOBE_FORMATTER")] 57

def k25m0 : Method := { name := "<init>", desc := "()V", sig := { parameters := [], returnType := none }, accessFlags := 1, code := none }
/-- jdk/internal/util/Preconditions -/
def k25 : Class := { plain "jdk/internal/util/Preconditions" (some 0) with
  accessFlags := 33
  interfaces := #[]
  cf := some (fileOf pool25 24 #[.nestMembers #[55, 131, 125, 114]] #[{ accessFlags := 1, nameIndex := 5, descriptorIndex := 6, attributes := #[] }] 33 2 #[] #[{ accessFlags := 25, nameIndex := 123, descriptorIndex := 124, attributes := #[] }, { accessFlags := 25, nameIndex := 130, descriptorIndex := 124, attributes := #[] }, { accessFlags := 25, nameIndex := 136, descriptorIndex := 124, attributes := #[] }])
  fields := #[{ name := "SIOOBE_FORMATTER", type := (.object "java/util/function/BiFunction"), accessFlags := 25, slot := 0, constantValue := 0 }, { name := "AIOOBE_FORMATTER", type := (.object "java/util/function/BiFunction"), accessFlags := 25, slot := 1, constantValue := 0 }, { name := "IOOBE_FORMATTER", type := (.object "java/util/function/BiFunction"), accessFlags := 25, slot := 2, constantValue := 0 }]
  methods := #[k25m0]
  instanceTypes := #[]
  staticTypes := #[(.object "java/util/function/BiFunction"), (.object "java/util/function/BiFunction"), (.object "java/util/function/BiFunction")]
  resolved := Array.replicate 194 none
  statics := some 3 }

def pool26 : Array CpInfo := pool [(1, u "java/lang/Cloneable"), (0, .class_ 1), (0, u "java/lang/Object"), (0, .class_ 3)] 3

/-- java/lang/Cloneable -/
def k26 : Class := { plain "java/lang/Cloneable" (some 0) with
  accessFlags := 1537
  interfaces := #[]
  cf := some (fileOf pool26 2 #[] #[] 1537 4 #[] #[])
  fields := #[]
  methods := #[]
  instanceTypes := #[]
  staticTypes := #[]
  resolved := Array.replicate 8 none
  statics := none }

/-- the primitive byte -/
def k27 : Class := { plain "byte" none with kind := .primitive 'B', accessFlags := 0x411 }
/-- [B -/
def k28 : Class := { plain "[B" (some 0) with kind := .array 27 .byte, interfaces := #[26, 4], accessFlags := 1041 }

/-- the primitive int -/
def k29 : Class := { plain "int" none with kind := .primitive 'I', accessFlags := 0x411 }
/-- [I -/
def k30 : Class := { plain "[I" (some 0) with kind := .array 29 .int, interfaces := #[26, 4], accessFlags := 1041 }

def heap : Heap := #[{ cls := 7, slots := #[.ref 4, .ref 6, .ref 10, .ref 5, .ref 7, .ref 9, .ref 8, .null], vm := .statics 7 },
  { cls := 9, slots := #[.ref 11], vm := .statics 9 },
  { cls := 14, slots := #[.long 0, .int 1, .null, .int 0, .null, .int 0, .int 0], vm := .statics 14 },
  { cls := 25, slots := #[.null, .null, .null], vm := .statics 25 },
  { cls := 7, slots := #[.null, .int 0, .int 0, .null, .null], vm := .none },
  { cls := 7, slots := #[.null, .int 3, .int 0, .null, .null], vm := .none },
  { cls := 7, slots := #[.null, .int 1, .int 0, .null, .null], vm := .none },
  { cls := 7, slots := #[.null, .int 4, .int 0, .null, .null], vm := .none },
  { cls := 7, slots := #[.null, .int 6, .int 0, .null, .null], vm := .none },
  { cls := 7, slots := #[.null, .int 5, .int 0, .null, .null], vm := .none },
  { cls := 7, slots := #[.null, .int 2, .int 0, .null, .null], vm := .none },
  { cls := 30, slots := #[.int 1, .int 2, .int 3, .int 5, .int 6, .int 7, .int 4], vm := .none }]
def classes : Array Class := #[k0, k1, k2, k3, k4, k5, k6, k7, k8, k9, k10, k11, k12, k13, k14, k15, k16, k17, k18, k19, k20, k21, k22, k23, k24, k25, k26, k27, k28, k29, k30]
def interned : List (Array UInt16 × Addr) := []
def slotsUsed : Nat := 61
def theMethod : MethodId := ⟨1, 1⟩
def args0 : Array Value := #[.int 5, .int 5]
def aboutOver (below : List Frame) : State where
  vm := { classes := classes, interned := interned.toArray }
  heap := heap
  slotsUsed := slotsUsed
  threads := #[{ frames := .invoking theMethod args0 :: below }]
def below0 : List Frame := [.native { method := ⟨0, 0⟩, args := #[] }]
def about1 : State := aboutOver below0
def p0 : Program := .bare "" "" ""
def e0 : Env := launch0.env 0 0 0
theorem w_frames : about1.frames = Frame.invoking theMethod args0 :: below0 := rfl
set_option maxRecDepth 65536 in
theorem w_args : argsFit about1.vm theMethod args0 = true := by decide +kernel
set_option maxRecDepth 65536 in
theorem w_heap : heapFits about1 = true := by decide +kernel
set_option maxRecDepth 65536 in
theorem w_runnable : about1.curStatus? = some .runnable := by decide +kernel
set_option maxRecDepth 65536 in
theorem w_alone : about1.alone = true := by decide +kernel
set_option maxRecDepth 65536 in
theorem w_named : about1.methodNamed? x = some theMethod := by decide +kernel
set_option maxRecDepth 65536 in
theorem w_hears : about1.hears theMethod below0 = true := by decide +kernel
set_option maxRecDepth 65536 in
theorem w_ripe : about1.ripe theMethod args0 below0 = true := by decide +kernel
theorem w_running : about1.status = .running := rfl
set_option maxRecDepth 65536 in
theorem w_room : about1.hasRoom e0.platform room_1 = true :=
  launch0.hasRoom_least _ room_1 (by decide +kernel) (by decide +kernel) (by decide +kernel) (by decide +kernel) (by decide +kernel) (by decide +kernel)
theorem allAtoms_all (ts : List Jvm.Cond) (a : Array Jvm.Value) (st : Jvm.State) : (allAtoms ts).before a st = ts.all (fun c => c.before a st) := by
  induction ts with
  | nil => rfl
  | cons c t ih =>
    show (Jvm.Cond.and c (allAtoms t)).before a st = _
    rw [Jvm.Cond.before_and, ih, List.all_cons]
def words1 : List Jvm.Cond := Jvm.Cond.code x code maxLocals ret :: tables_1
/-- a 'code' word, met by the world's own term for the bytes: nothing is compared byte by byte -/
theorem code_word {y : MethodName} {bytes : ByteArray} {mx : Nat} {rt : Option FieldType} {a : Array Value} {s : State} {m : MethodId} {meth : Method} {c : Code} (h1 : s.methodNamed? y = some m) (h2 : s.vm.method? m = some meth) (h3 : meth.code = some c) (h4 : c.code = bytes)
    (h5 : (c.maxLocals == mx && c.exceptionTable.isEmpty && decide (c.maxStack ≤ mostOperands) && decide (meth.sig.returnType = rt) && !meth.locks && decide (parseMethodDescriptor y.desc = some meth.sig)) = true) : (Jvm.Cond.code y bytes mx rt).before a s = true := by
  simp only [Bool.and_eq_true, beq_iff_eq, Bool.not_eq_true', decide_eq_true_eq] at h5
  obtain ⟨⟨⟨⟨⟨g1, g2⟩, g3⟩, g4⟩, g5⟩, g6⟩ := h5
  simp [Cond.before, Cond.holds, Cond.value, h1, h2, h3, h4, g1, g2, g3, g4, g5, g6]
def isCode : Jvm.Cond → Bool
  | .code _ _ _ _ => true
  | _ => false
theorem all_split {L : List Jvm.Cond} {P : Jvm.Cond → Bool} (h1 : L.all (fun c => isCode c || P c) = true) (h2 : ∀ c ∈ L.filter isCode, P c = true) : L.all P = true := by
  refine List.all_eq_true.mpr fun c hc => ?_
  have h := List.all_eq_true.mp h1 c hc
  rcases Bool.eq_false_or_eq_true (isCode c) with hi | hi
  · exact h2 c (List.mem_filter.mpr ⟨hc, hi⟩)
  · simpa [hi] using h
set_option maxRecDepth 65536 in
theorem w_c0 : (Jvm.Cond.code x code maxLocals ret).before args0 about1 = true := code_word (m := ⟨1, 1⟩) (meth := k1m1) (c := k1c1) (by decide +kernel) rfl rfl rfl (by decide +kernel)
set_option maxRecDepth 65536 in
theorem w_c1 : (Jvm.Cond.code ({ cls := "dev/typewright/dart/DartFormOfPinLaw", name := "scalar", desc := "(I)Ldev/typewright/core/ScalarType;" } : Jvm.MethodName) method_3_code (1 : Nat) (Option.some (Jvm.ClassFile.FieldType.object "dev/typewright/core/ScalarType"))).before args0 about1 = true := code_word (m := ⟨1, 2⟩) (meth := k1m2) (c := k1c2) (by decide +kernel) rfl rfl rfl (by decide +kernel)
set_option maxRecDepth 65536 in
theorem w_c2 : (Jvm.Cond.code ({ cls := "dev/typewright/dart/DartForm", name := "of", desc := "(Ldev/typewright/core/ScalarType;)Ldev/typewright/dart/DartForm;" } : Jvm.MethodName) prog_38_method_1_code (1 : Nat) (Option.some (Jvm.ClassFile.FieldType.object "dev/typewright/dart/DartForm"))).before args0 about1 = true := code_word (m := ⟨8, 0⟩) (meth := k8m0) (c := k8c0) (by decide +kernel) rfl rfl rfl (by decide +kernel)
set_option maxRecDepth 65536 in
theorem w_c3 : (Jvm.Cond.code ({ cls := "java/lang/Enum", name := "ordinal", desc := "()I" } : Jvm.MethodName) jdk_37_method_2_code (1 : Nat) (Option.some Jvm.ClassFile.FieldType.int)).before args0 about1 = true := code_word (m := ⟨5, 0⟩) (meth := k5m0) (c := k5c0) (by decide +kernel) rfl rfl rfl (by decide +kernel)
set_option maxRecDepth 65536 in
theorem w_c4 : (Jvm.Cond.code ({ cls := "dev/typewright/dart/DartForm$PlainForm", name := "<init>", desc := "(Ljava/lang/String;)V" } : Jvm.MethodName) prog_47_method_1_code (2 : Nat) (Option.none : Option Jvm.ClassFile.FieldType)).before args0 about1 = true := code_word (m := ⟨11, 0⟩) (meth := k11m0) (c := k11c0) (by decide +kernel) rfl rfl rfl (by decide +kernel)
set_option maxRecDepth 65536 in
theorem w_c5 : (Jvm.Cond.code ({ cls := "java/lang/Record", name := "<init>", desc := "()V" } : Jvm.MethodName) jdk_30_method_1_code (1 : Nat) (Option.none : Option Jvm.ClassFile.FieldType)).before args0 about1 = true := code_word (m := ⟨10, 0⟩) (meth := k10m0) (c := k10c0) (by decide +kernel) rfl rfl rfl (by decide +kernel)
set_option maxRecDepth 65536 in
theorem w_c6 : (Jvm.Cond.code ({ cls := "java/lang/Object", name := "<init>", desc := "()V" } : Jvm.MethodName) object_method_1_code (1 : Nat) (Option.none : Option Jvm.ClassFile.FieldType)).before args0 about1 = true := code_word (m := ⟨0, 0⟩) (meth := k0m0) (c := k0c0) (by decide +kernel) rfl rfl rfl (by decide +kernel)
set_option maxRecDepth 65536 in
theorem w_c7 : (Jvm.Cond.code ({ cls := "dev/typewright/dart/DartForm$PlainForm", name := "type", desc := "(Z)Ljava/lang/String;" } : Jvm.MethodName) prog_47_method_2_code (2 : Nat) (Option.some (Jvm.ClassFile.FieldType.object "java/lang/String"))).before args0 about1 = true := code_word (m := ⟨11, 1⟩) (meth := k11m1) (c := k11c1) (by decide +kernel) rfl rfl rfl (by decide +kernel)
set_option maxRecDepth 65536 in
theorem w_c8 : (Jvm.Cond.code ({ cls := "dev/typewright/dart/DartForm", name := "nullable", desc := "(Ljava/lang/String;Z)Ljava/lang/String;" } : Jvm.MethodName) prog_38_method_9_code (2 : Nat) (Option.some (Jvm.ClassFile.FieldType.object "java/lang/String"))).before args0 about1 = true := code_word (m := ⟨8, 6⟩) (meth := k8m6) (c := k8c6) (by decide +kernel) rfl rfl rfl (by decide +kernel)
set_option maxRecDepth 65536 in
theorem w_c9 : (Jvm.Cond.code ({ cls := "java/lang/StringBuilder", name := "<init>", desc := "()V" } : Jvm.MethodName) jdk_67_method_1_code (1 : Nat) (Option.none : Option Jvm.ClassFile.FieldType)).before args0 about1 = true := code_word (m := ⟨17, 0⟩) (meth := k17m0) (c := k17c0) (by decide +kernel) rfl rfl rfl (by decide +kernel)
set_option maxRecDepth 65536 in
theorem w_c10 : (Jvm.Cond.code ({ cls := "java/lang/AbstractStringBuilder", name := "<init>", desc := "(I)V" } : Jvm.MethodName) jdk_68_method_2_code (2 : Nat) (Option.none : Option Jvm.ClassFile.FieldType)).before args0 about1 = true := code_word (m := ⟨16, 1⟩) (meth := k16m1) (c := k16c1) (by decide +kernel) rfl rfl rfl (by decide +kernel)
set_option maxRecDepth 65536 in
theorem w_c11 : (Jvm.Cond.code ({ cls := "java/lang/StringBuilder", name := "append", desc := "(Ljava/lang/String;)Ljava/lang/StringBuilder;" } : Jvm.MethodName) jdk_67_method_7_code (2 : Nat) (Option.some (Jvm.ClassFile.FieldType.object "java/lang/StringBuilder"))).before args0 about1 = true := code_word (m := ⟨17, 1⟩) (meth := k17m1) (c := k17c1) (by decide +kernel) rfl rfl rfl (by decide +kernel)
set_option maxRecDepth 65536 in
theorem w_c12 : (Jvm.Cond.code ({ cls := "java/lang/AbstractStringBuilder", name := "append", desc := "(Ljava/lang/String;)Ljava/lang/AbstractStringBuilder;" } : Jvm.MethodName) jdk_68_method_22_code (3 : Nat) (Option.some (Jvm.ClassFile.FieldType.object "java/lang/AbstractStringBuilder"))).before args0 about1 = true := code_word (m := ⟨16, 5⟩) (meth := k16m5) (c := k16c5) (by decide +kernel) rfl rfl rfl (by decide +kernel)
set_option maxRecDepth 65536 in
theorem w_c13 : (Jvm.Cond.code ({ cls := "java/lang/String", name := "length", desc := "()I" } : Jvm.MethodName) jdk_42_method_54_code (1 : Nat) (Option.some Jvm.ClassFile.FieldType.int)).before args0 about1 = true := code_word (m := ⟨14, 2⟩) (meth := k14m2) (c := k14c2) (by decide +kernel) rfl rfl rfl (by decide +kernel)
set_option maxRecDepth 65536 in
theorem w_c14 : (Jvm.Cond.code ({ cls := "java/lang/String", name := "coder", desc := "()B" } : Jvm.MethodName) jdk_42_method_152_code (1 : Nat) (Option.some Jvm.ClassFile.FieldType.byte)).before args0 about1 = true := code_word (m := ⟨14, 6⟩) (meth := k14m6) (c := k14c6) (by decide +kernel) rfl rfl rfl (by decide +kernel)
set_option maxRecDepth 65536 in
theorem w_c15 : (Jvm.Cond.code ({ cls := "java/lang/AbstractStringBuilder", name := "ensureCapacityInternal", desc := "(I)V" } : Jvm.MethodName) jdk_68_method_9_code (3 : Nat) (Option.none : Option Jvm.ClassFile.FieldType)).before args0 about1 = true := code_word (m := ⟨16, 3⟩) (meth := k16m3) (c := k16c3) (by decide +kernel) rfl rfl rfl (by decide +kernel)
set_option maxRecDepth 65536 in
theorem w_c16 : (Jvm.Cond.code ({ cls := "java/lang/AbstractStringBuilder", name := "putStringAt", desc := "(ILjava/lang/String;)V" } : Jvm.MethodName) jdk_68_method_73_code (3 : Nat) (Option.none : Option Jvm.ClassFile.FieldType)).before args0 about1 = true := code_word (m := ⟨16, 9⟩) (meth := k16m9) (c := k16c9) (by decide +kernel) rfl rfl rfl (by decide +kernel)
set_option maxRecDepth 65536 in
theorem w_c17 : (Jvm.Cond.code ({ cls := "java/lang/AbstractStringBuilder", name := "inflateIfNeededFor", desc := "(Ljava/lang/String;)V" } : Jvm.MethodName) jdk_68_method_71_code (2 : Nat) (Option.none : Option Jvm.ClassFile.FieldType)).before args0 about1 = true := code_word (m := ⟨16, 8⟩) (meth := k16m8) (c := k16c8) (by decide +kernel) rfl rfl rfl (by decide +kernel)
set_option maxRecDepth 65536 in
theorem w_c18 : (Jvm.Cond.code ({ cls := "java/lang/String", name := "getBytes", desc := "([BIB)V" } : Jvm.MethodName) jdk_42_method_147_code (4 : Nat) (Option.none : Option Jvm.ClassFile.FieldType)).before args0 about1 = true := code_word (m := ⟨14, 4⟩) (meth := k14m4) (c := k14c4) (by decide +kernel) rfl rfl rfl (by decide +kernel)
set_option maxRecDepth 65536 in
theorem w_c19 : (Jvm.Cond.code ({ cls := "java/lang/StringBuilder", name := "toString", desc := "()Ljava/lang/String;" } : Jvm.MethodName) jdk_67_method_42_code (1 : Nat) (Option.some (Jvm.ClassFile.FieldType.object "java/lang/String"))).before args0 about1 = true := code_word (m := ⟨17, 2⟩) (meth := k17m2) (c := k17c2) (by decide +kernel) rfl rfl rfl (by decide +kernel)
set_option maxRecDepth 65536 in
theorem w_c20 : (Jvm.Cond.code ({ cls := "java/lang/String", name := "<init>", desc := "(Ljava/lang/StringBuilder;)V" } : Jvm.MethodName) jdk_42_method_53_code (2 : Nat) (Option.none : Option Jvm.ClassFile.FieldType)).before args0 about1 = true := code_word (m := ⟨14, 1⟩) (meth := k14m1) (c := k14c1) (by decide +kernel) rfl rfl rfl (by decide +kernel)
set_option maxRecDepth 65536 in
theorem w_c21 : (Jvm.Cond.code ({ cls := "java/lang/String", name := "<init>", desc := "(Ljava/lang/AbstractStringBuilder;Ljava/lang/Void;)V" } : Jvm.MethodName) jdk_42_method_150_code (5 : Nat) (Option.none : Option Jvm.ClassFile.FieldType)).before args0 about1 = true := code_word (m := ⟨14, 5⟩) (meth := k14m5) (c := k14c5) (by decide +kernel) rfl rfl rfl (by decide +kernel)
set_option maxRecDepth 65536 in
theorem w_c22 : (Jvm.Cond.code ({ cls := "java/lang/AbstractStringBuilder", name := "getValue", desc := "()[B" } : Jvm.MethodName) jdk_68_method_64_code (1 : Nat) (Option.some (Jvm.ClassFile.FieldType.array Jvm.ClassFile.FieldType.byte))).before args0 about1 = true := code_word (m := ⟨16, 6⟩) (meth := k16m6) (c := k16c6) (by decide +kernel) rfl rfl rfl (by decide +kernel)
set_option maxRecDepth 65536 in
theorem w_c23 : (Jvm.Cond.code ({ cls := "java/lang/StringBuilder", name := "length", desc := "()I" } : Jvm.MethodName) jdk_67_method_93_code (1 : Nat) (Option.some Jvm.ClassFile.FieldType.int)).before args0 about1 = true := code_word (m := ⟨17, 3⟩) (meth := k17m3) (c := k17c3) (by decide +kernel) rfl rfl rfl (by decide +kernel)
set_option maxRecDepth 65536 in
theorem w_c24 : (Jvm.Cond.code ({ cls := "java/lang/AbstractStringBuilder", name := "length", desc := "()I" } : Jvm.MethodName) jdk_68_method_6_code (1 : Nat) (Option.some Jvm.ClassFile.FieldType.int)).before args0 about1 = true := code_word (m := ⟨16, 2⟩) (meth := k16m2) (c := k16c2) (by decide +kernel) rfl rfl rfl (by decide +kernel)
set_option maxRecDepth 65536 in
theorem w_c25 : (Jvm.Cond.code ({ cls := "java/lang/AbstractStringBuilder", name := "isLatin1", desc := "()Z" } : Jvm.MethodName) jdk_68_method_68_code (1 : Nat) (Option.some Jvm.ClassFile.FieldType.boolean)).before args0 about1 = true := code_word (m := ⟨16, 7⟩) (meth := k16m7) (c := k16c7) (by decide +kernel) rfl rfl rfl (by decide +kernel)
set_option maxRecDepth 65536 in
theorem w_c26 : (Jvm.Cond.code ({ cls := "java/util/Arrays", name := "copyOfRange", desc := "([BII)[B" } : Jvm.MethodName) jdk_65_method_132_code (3 : Nat) (Option.some (Jvm.ClassFile.FieldType.array Jvm.ClassFile.FieldType.byte))).before args0 about1 = true := code_word (m := ⟨19, 3⟩) (meth := k19m3) (c := k19c3) (by decide +kernel) rfl rfl rfl (by decide +kernel)
set_option maxRecDepth 65536 in
theorem w_c27 : (Jvm.Cond.code ({ cls := "java/util/Arrays", name := "copyOfRangeByte", desc := "([BII)[B" } : Jvm.MethodName) jdk_65_method_133_code (5 : Nat) (Option.some (Jvm.ClassFile.FieldType.array Jvm.ClassFile.FieldType.byte))).before args0 about1 = true := code_word (m := ⟨19, 4⟩) (meth := k19m4) (c := k19c4) (by decide +kernel) rfl rfl rfl (by decide +kernel)
set_option maxRecDepth 65536 in
theorem w_c28 : (Jvm.Cond.code ({ cls := "java/util/Arrays", name := "checkLength", desc := "(II)V" } : Jvm.MethodName) jdk_65_method_131_code (2 : Nat) (Option.none : Option Jvm.ClassFile.FieldType)).before args0 about1 = true := code_word (m := ⟨19, 2⟩) (meth := k19m2) (c := k19c2) (by decide +kernel) rfl rfl rfl (by decide +kernel)
set_option maxRecDepth 65536 in
theorem w_c29 : (Jvm.Cond.code ({ cls := "java/lang/Math", name := "min", desc := "(II)I" } : Jvm.MethodName) jdk_29_method_69_code (2 : Nat) (Option.some Jvm.ClassFile.FieldType.int)).before args0 about1 = true := code_word (m := ⟨20, 2⟩) (meth := k20m2) (c := k20c2) (by decide +kernel) rfl rfl rfl (by decide +kernel)
set_option maxRecDepth 65536 in
theorem w_c30 : (Jvm.Cond.code ({ cls := "dev/typewright/dart/DartFormOfPinLaw", name := "expType", desc := "(IZ)Ljava/lang/String;" } : Jvm.MethodName) method_4_code (2 : Nat) (Option.some (Jvm.ClassFile.FieldType.object "java/lang/String"))).before args0 about1 = true := code_word (m := ⟨1, 3⟩) (meth := k1m3) (c := k1c3) (by decide +kernel) rfl rfl rfl (by decide +kernel)
set_option maxRecDepth 65536 in
theorem w_c31 : (Jvm.Cond.code ({ cls := "java/lang/String", name := "equals", desc := "(Ljava/lang/Object;)Z" } : Jvm.MethodName) jdk_42_method_66_code (3 : Nat) (Option.some Jvm.ClassFile.FieldType.boolean)).before args0 about1 = true := code_word (m := ⟨14, 3⟩) (meth := k14m3) (c := k14c3) (by decide +kernel) rfl rfl rfl (by decide +kernel)
set_option maxRecDepth 65536 in
theorem w_c32 : (Jvm.Cond.code ({ cls := "java/lang/StringLatin1", name := "equals", desc := "([B[B)Z" } : Jvm.MethodName) jdk_43_method_13_code (3 : Nat) (Option.some Jvm.ClassFile.FieldType.boolean)).before args0 about1 = true := code_word (m := ⟨21, 1⟩) (meth := k21m1) (c := k21c1) (by decide +kernel) rfl rfl rfl (by decide +kernel)
set_option maxRecDepth 65536 in
theorem w_c33 : (Jvm.Cond.code ({ cls := "dev/typewright/dart/DartForm$PlainForm", name := "fromJson", desc := "(Ljava/lang/String;Z)Ljava/lang/String;" } : Jvm.MethodName) prog_47_method_3_code (3 : Nat) (Option.some (Jvm.ClassFile.FieldType.object "java/lang/String"))).before args0 about1 = true := code_word (m := ⟨11, 2⟩) (meth := k11m2) (c := k11c2) (by decide +kernel) rfl rfl rfl (by decide +kernel)
set_option maxRecDepth 65536 in
theorem w_c34 : (Jvm.Cond.code ({ cls := "dev/typewright/dart/DartFormOfPinLaw", name := "expFromJson", desc := "(IZ)Ljava/lang/String;" } : Jvm.MethodName) method_5_code (2 : Nat) (Option.some (Jvm.ClassFile.FieldType.object "java/lang/String"))).before args0 about1 = true := code_word (m := ⟨1, 4⟩) (meth := k1m4) (c := k1c4) (by decide +kernel) rfl rfl rfl (by decide +kernel)
set_option maxRecDepth 65536 in
theorem w_c35 : (Jvm.Cond.code ({ cls := "dev/typewright/dart/DartForm$PlainForm", name := "toJson", desc := "(Ljava/lang/String;Z)Ljava/lang/String;" } : Jvm.MethodName) prog_47_method_4_code (3 : Nat) (Option.some (Jvm.ClassFile.FieldType.object "java/lang/String"))).before args0 about1 = true := code_word (m := ⟨11, 3⟩) (meth := k11m3) (c := k11c3) (by decide +kernel) rfl rfl rfl (by decide +kernel)
set_option maxRecDepth 65536 in
theorem w_c36 : (Jvm.Cond.code ({ cls := "dev/typewright/dart/DartFormOfPinLaw", name := "expToJson", desc := "(IZ)Ljava/lang/String;" } : Jvm.MethodName) method_6_code (2 : Nat) (Option.some (Jvm.ClassFile.FieldType.object "java/lang/String"))).before args0 about1 = true := code_word (m := ⟨1, 5⟩) (meth := k1m5) (c := k1c5) (by decide +kernel) rfl rfl rfl (by decide +kernel)
set_option maxRecDepth 65536 in
theorem w_c37 : (Jvm.Cond.code ({ cls := "dev/typewright/dart/DartForm$PlainForm", name := "decodedType", desc := "()Ljava/lang/String;" } : Jvm.MethodName) prog_47_method_5_code (1 : Nat) (Option.some (Jvm.ClassFile.FieldType.object "java/lang/String"))).before args0 about1 = true := code_word (m := ⟨11, 4⟩) (meth := k11m4) (c := k11c4) (by decide +kernel) rfl rfl rfl (by decide +kernel)
set_option maxRecDepth 65536 in
theorem w_c38 : (Jvm.Cond.code ({ cls := "dev/typewright/dart/DartFormOfPinLaw", name := "expDecoded", desc := "(I)Ljava/lang/String;" } : Jvm.MethodName) method_7_code (1 : Nat) (Option.some (Jvm.ClassFile.FieldType.object "java/lang/String"))).before args0 about1 = true := code_word (m := ⟨1, 6⟩) (meth := k1m6) (c := k1c6) (by decide +kernel) rfl rfl rfl (by decide +kernel)
set_option maxRecDepth 65536 in
theorem w_c39 : (Jvm.Cond.code ({ cls := "dev/typewright/dart/DartForm$PlainForm", name := "fromDecoded", desc := "(Ljava/lang/String;)Ljava/lang/String;" } : Jvm.MethodName) prog_47_method_6_code (2 : Nat) (Option.some (Jvm.ClassFile.FieldType.object "java/lang/String"))).before args0 about1 = true := code_word (m := ⟨11, 5⟩) (meth := k11m5) (c := k11c5) (by decide +kernel) rfl rfl rfl (by decide +kernel)
set_option maxRecDepth 65536 in
theorem w_c40 : (Jvm.Cond.code ({ cls := "dev/typewright/dart/DartFormOfPinLaw", name := "expFromDecoded", desc := "(I)Ljava/lang/String;" } : Jvm.MethodName) method_8_code (1 : Nat) (Option.some (Jvm.ClassFile.FieldType.object "java/lang/String"))).before args0 about1 = true := code_word (m := ⟨1, 7⟩) (meth := k1m7) (c := k1c7) (by decide +kernel) rfl rfl rfl (by decide +kernel)
set_option maxRecDepth 65536 in
theorem w_c41 : (Jvm.Cond.code ({ cls := "dev/typewright/dart/DartForm$DoubleForm", name := "<init>", desc := "()V" } : Jvm.MethodName) prog_44_method_1_code (1 : Nat) (Option.none : Option Jvm.ClassFile.FieldType)).before args0 about1 = true := code_word (m := ⟨22, 0⟩) (meth := k22m0) (c := k22c0) (by decide +kernel) rfl rfl rfl (by decide +kernel)
set_option maxRecDepth 65536 in
theorem w_c42 : (Jvm.Cond.code ({ cls := "dev/typewright/dart/DartForm$DoubleForm", name := "type", desc := "(Z)Ljava/lang/String;" } : Jvm.MethodName) prog_44_method_2_code (2 : Nat) (Option.some (Jvm.ClassFile.FieldType.object "java/lang/String"))).before args0 about1 = true := code_word (m := ⟨22, 1⟩) (meth := k22m1) (c := k22c1) (by decide +kernel) rfl rfl rfl (by decide +kernel)
set_option maxRecDepth 65536 in
theorem w_c43 : (Jvm.Cond.code ({ cls := "dev/typewright/dart/DartForm$DoubleForm", name := "fromJson", desc := "(Ljava/lang/String;Z)Ljava/lang/String;" } : Jvm.MethodName) prog_44_method_3_code (3 : Nat) (Option.some (Jvm.ClassFile.FieldType.object "java/lang/String"))).before args0 about1 = true := code_word (m := ⟨22, 2⟩) (meth := k22m2) (c := k22c2) (by decide +kernel) rfl rfl rfl (by decide +kernel)
set_option maxRecDepth 65536 in
theorem w_c44 : (Jvm.Cond.code ({ cls := "java/lang/AbstractStringBuilder", name := "newCapacity", desc := "(I)I" } : Jvm.MethodName) jdk_68_method_10_code (6 : Nat) (Option.some Jvm.ClassFile.FieldType.int)).before args0 about1 = true := code_word (m := ⟨16, 4⟩) (meth := k16m4) (c := k16c4) (by decide +kernel) rfl rfl rfl (by decide +kernel)
set_option maxRecDepth 65536 in
theorem w_c45 : (Jvm.Cond.code ({ cls := "jdk/internal/util/ArraysSupport", name := "newLength", desc := "(III)I" } : Jvm.MethodName) jdk_48_method_27_code (4 : Nat) (Option.some Jvm.ClassFile.FieldType.int)).before args0 about1 = true := code_word (m := ⟨23, 1⟩) (meth := k23m1) (c := k23c1) (by decide +kernel) rfl rfl rfl (by decide +kernel)
set_option maxRecDepth 65536 in
theorem w_c46 : (Jvm.Cond.code ({ cls := "java/lang/Math", name := "max", desc := "(II)I" } : Jvm.MethodName) jdk_29_method_65_code (2 : Nat) (Option.some Jvm.ClassFile.FieldType.int)).before args0 about1 = true := code_word (m := ⟨20, 1⟩) (meth := k20m1) (c := k20c1) (by decide +kernel) rfl rfl rfl (by decide +kernel)
set_option maxRecDepth 65536 in
theorem w_c47 : (Jvm.Cond.code ({ cls := "java/util/Arrays", name := "copyOf", desc := "([BI)[B" } : Jvm.MethodName) jdk_65_method_121_code (3 : Nat) (Option.some (Jvm.ClassFile.FieldType.array Jvm.ClassFile.FieldType.byte))).before args0 about1 = true := code_word (m := ⟨19, 1⟩) (meth := k19m1) (c := k19c1) (by decide +kernel) rfl rfl rfl (by decide +kernel)
set_option maxRecDepth 65536 in
theorem w_c48 : (Jvm.Cond.code ({ cls := "dev/typewright/dart/DartForm$DoubleForm", name := "toJson", desc := "(Ljava/lang/String;Z)Ljava/lang/String;" } : Jvm.MethodName) prog_44_method_4_code (3 : Nat) (Option.some (Jvm.ClassFile.FieldType.object "java/lang/String"))).before args0 about1 = true := code_word (m := ⟨22, 3⟩) (meth := k22m3) (c := k22c3) (by decide +kernel) rfl rfl rfl (by decide +kernel)
set_option maxRecDepth 65536 in
theorem w_c49 : (Jvm.Cond.code ({ cls := "dev/typewright/dart/DartForm$DoubleForm", name := "decodedType", desc := "()Ljava/lang/String;" } : Jvm.MethodName) prog_44_method_5_code (1 : Nat) (Option.some (Jvm.ClassFile.FieldType.object "java/lang/String"))).before args0 about1 = true := code_word (m := ⟨22, 4⟩) (meth := k22m4) (c := k22c4) (by decide +kernel) rfl rfl rfl (by decide +kernel)
set_option maxRecDepth 65536 in
theorem w_c50 : (Jvm.Cond.code ({ cls := "dev/typewright/dart/DartForm$DoubleForm", name := "fromDecoded", desc := "(Ljava/lang/String;)Ljava/lang/String;" } : Jvm.MethodName) prog_44_method_6_code (2 : Nat) (Option.some (Jvm.ClassFile.FieldType.object "java/lang/String"))).before args0 about1 = true := code_word (m := ⟨22, 5⟩) (meth := k22m5) (c := k22c5) (by decide +kernel) rfl rfl rfl (by decide +kernel)
set_option maxRecDepth 65536 in
theorem w_c51 : (Jvm.Cond.code ({ cls := "dev/typewright/dart/DartForm$DateTimeForm", name := "<init>", desc := "(Z)V" } : Jvm.MethodName) prog_42_method_1_code (2 : Nat) (Option.none : Option Jvm.ClassFile.FieldType)).before args0 about1 = true := code_word (m := ⟨24, 0⟩) (meth := k24m0) (c := k24c0) (by decide +kernel) rfl rfl rfl (by decide +kernel)
set_option maxRecDepth 65536 in
theorem w_c52 : (Jvm.Cond.code ({ cls := "dev/typewright/dart/DartForm$DateTimeForm", name := "type", desc := "(Z)Ljava/lang/String;" } : Jvm.MethodName) prog_42_method_2_code (2 : Nat) (Option.some (Jvm.ClassFile.FieldType.object "java/lang/String"))).before args0 about1 = true := code_word (m := ⟨24, 1⟩) (meth := k24m1) (c := k24c1) (by decide +kernel) rfl rfl rfl (by decide +kernel)
set_option maxRecDepth 65536 in
theorem w_c53 : (Jvm.Cond.code ({ cls := "dev/typewright/dart/DartForm$DateTimeForm", name := "fromJson", desc := "(Ljava/lang/String;Z)Ljava/lang/String;" } : Jvm.MethodName) prog_42_method_3_code (3 : Nat) (Option.some (Jvm.ClassFile.FieldType.object "java/lang/String"))).before args0 about1 = true := code_word (m := ⟨24, 2⟩) (meth := k24m2) (c := k24c2) (by decide +kernel) rfl rfl rfl (by decide +kernel)
set_option maxRecDepth 65536 in
theorem w_c54 : (Jvm.Cond.code ({ cls := "dev/typewright/dart/DartForm$DateTimeForm", name := "fromDecoded", desc := "(Ljava/lang/String;)Ljava/lang/String;" } : Jvm.MethodName) prog_42_method_6_code (2 : Nat) (Option.some (Jvm.ClassFile.FieldType.object "java/lang/String"))).before args0 about1 = true := code_word (m := ⟨24, 5⟩) (meth := k24m5) (c := k24c5) (by decide +kernel) rfl rfl rfl (by decide +kernel)
set_option maxRecDepth 65536 in
theorem w_c55 : (Jvm.Cond.code ({ cls := "dev/typewright/dart/DartForm", name := "orNull", desc := "(Ljava/lang/String;ZLjava/lang/String;)Ljava/lang/String;" } : Jvm.MethodName) prog_38_method_10_code (3 : Nat) (Option.some (Jvm.ClassFile.FieldType.object "java/lang/String"))).before args0 about1 = true := code_word (m := ⟨8, 7⟩) (meth := k8m7) (c := k8c7) (by decide +kernel) rfl rfl rfl (by decide +kernel)
set_option maxRecDepth 65536 in
theorem w_c56 : (Jvm.Cond.code ({ cls := "dev/typewright/dart/DartForm$DateTimeForm", name := "toJson", desc := "(Ljava/lang/String;Z)Ljava/lang/String;" } : Jvm.MethodName) prog_42_method_4_code (4 : Nat) (Option.some (Jvm.ClassFile.FieldType.object "java/lang/String"))).before args0 about1 = true := code_word (m := ⟨24, 3⟩) (meth := k24m3) (c := k24c3) (by decide +kernel) rfl rfl rfl (by decide +kernel)
set_option maxRecDepth 65536 in
theorem w_c57 : (Jvm.Cond.code ({ cls := "dev/typewright/dart/DartForm", name := "receiver", desc := "(Ljava/lang/String;Z)Ljava/lang/String;" } : Jvm.MethodName) prog_38_method_11_code (2 : Nat) (Option.some (Jvm.ClassFile.FieldType.object "java/lang/String"))).before args0 about1 = true := code_word (m := ⟨8, 8⟩) (meth := k8m8) (c := k8c8) (by decide +kernel) rfl rfl rfl (by decide +kernel)
set_option maxRecDepth 65536 in
theorem w_c58 : (Jvm.Cond.code ({ cls := "dev/typewright/dart/DartForm$DateTimeForm", name := "decodedType", desc := "()Ljava/lang/String;" } : Jvm.MethodName) prog_42_method_5_code (1 : Nat) (Option.some (Jvm.ClassFile.FieldType.object "java/lang/String"))).before args0 about1 = true := code_word (m := ⟨24, 4⟩) (meth := k24m4) (c := k24c4) (by decide +kernel) rfl rfl rfl (by decide +kernel)
def codes1 : List Jvm.Cond := [Jvm.Cond.code x code maxLocals ret, Jvm.Cond.code ({ cls := "dev/typewright/dart/DartFormOfPinLaw", name := "scalar", desc := "(I)Ldev/typewright/core/ScalarType;" } : Jvm.MethodName) method_3_code (1 : Nat) (Option.some (Jvm.ClassFile.FieldType.object "dev/typewright/core/ScalarType")), Jvm.Cond.code ({ cls := "dev/typewright/dart/DartForm", name := "of", desc := "(Ldev/typewright/core/ScalarType;)Ldev/typewright/dart/DartForm;" } : Jvm.MethodName) prog_38_method_1_code (1 : Nat) (Option.some (Jvm.ClassFile.FieldType.object "dev/typewright/dart/DartForm")), Jvm.Cond.code ({ cls := "java/lang/Enum", name := "ordinal", desc := "()I" } : Jvm.MethodName) jdk_37_method_2_code (1 : Nat) (Option.some Jvm.ClassFile.FieldType.int), Jvm.Cond.code ({ cls := "dev/typewright/dart/DartForm$PlainForm", name := "<init>", desc := "(Ljava/lang/String;)V" } : Jvm.MethodName) prog_47_method_1_code (2 : Nat) (Option.none : Option Jvm.ClassFile.FieldType), Jvm.Cond.code ({ cls := "java/lang/Record", name := "<init>", desc := "()V" } : Jvm.MethodName) jdk_30_method_1_code (1 : Nat) (Option.none : Option Jvm.ClassFile.FieldType), Jvm.Cond.code ({ cls := "java/lang/Object", name := "<init>", desc := "()V" } : Jvm.MethodName) object_method_1_code (1 : Nat) (Option.none : Option Jvm.ClassFile.FieldType), Jvm.Cond.code ({ cls := "dev/typewright/dart/DartForm$PlainForm", name := "type", desc := "(Z)Ljava/lang/String;" } : Jvm.MethodName) prog_47_method_2_code (2 : Nat) (Option.some (Jvm.ClassFile.FieldType.object "java/lang/String")), Jvm.Cond.code ({ cls := "dev/typewright/dart/DartForm", name := "nullable", desc := "(Ljava/lang/String;Z)Ljava/lang/String;" } : Jvm.MethodName) prog_38_method_9_code (2 : Nat) (Option.some (Jvm.ClassFile.FieldType.object "java/lang/String")), Jvm.Cond.code ({ cls := "java/lang/StringBuilder", name := "<init>", desc := "()V" } : Jvm.MethodName) jdk_67_method_1_code (1 : Nat) (Option.none : Option Jvm.ClassFile.FieldType), Jvm.Cond.code ({ cls := "java/lang/AbstractStringBuilder", name := "<init>", desc := "(I)V" } : Jvm.MethodName) jdk_68_method_2_code (2 : Nat) (Option.none : Option Jvm.ClassFile.FieldType), Jvm.Cond.code ({ cls := "java/lang/StringBuilder", name := "append", desc := "(Ljava/lang/String;)Ljava/lang/StringBuilder;" } : Jvm.MethodName) jdk_67_method_7_code (2 : Nat) (Option.some (Jvm.ClassFile.FieldType.object "java/lang/StringBuilder")), Jvm.Cond.code ({ cls := "java/lang/AbstractStringBuilder", name := "append", desc := "(Ljava/lang/String;)Ljava/lang/AbstractStringBuilder;" } : Jvm.MethodName) jdk_68_method_22_code (3 : Nat) (Option.some (Jvm.ClassFile.FieldType.object "java/lang/AbstractStringBuilder")), Jvm.Cond.code ({ cls := "java/lang/String", name := "length", desc := "()I" } : Jvm.MethodName) jdk_42_method_54_code (1 : Nat) (Option.some Jvm.ClassFile.FieldType.int), Jvm.Cond.code ({ cls := "java/lang/String", name := "coder", desc := "()B" } : Jvm.MethodName) jdk_42_method_152_code (1 : Nat) (Option.some Jvm.ClassFile.FieldType.byte), Jvm.Cond.code ({ cls := "java/lang/AbstractStringBuilder", name := "ensureCapacityInternal", desc := "(I)V" } : Jvm.MethodName) jdk_68_method_9_code (3 : Nat) (Option.none : Option Jvm.ClassFile.FieldType), Jvm.Cond.code ({ cls := "java/lang/AbstractStringBuilder", name := "putStringAt", desc := "(ILjava/lang/String;)V" } : Jvm.MethodName) jdk_68_method_73_code (3 : Nat) (Option.none : Option Jvm.ClassFile.FieldType), Jvm.Cond.code ({ cls := "java/lang/AbstractStringBuilder", name := "inflateIfNeededFor", desc := "(Ljava/lang/String;)V" } : Jvm.MethodName) jdk_68_method_71_code (2 : Nat) (Option.none : Option Jvm.ClassFile.FieldType), Jvm.Cond.code ({ cls := "java/lang/String", name := "getBytes", desc := "([BIB)V" } : Jvm.MethodName) jdk_42_method_147_code (4 : Nat) (Option.none : Option Jvm.ClassFile.FieldType), Jvm.Cond.code ({ cls := "java/lang/StringBuilder", name := "toString", desc := "()Ljava/lang/String;" } : Jvm.MethodName) jdk_67_method_42_code (1 : Nat) (Option.some (Jvm.ClassFile.FieldType.object "java/lang/String")), Jvm.Cond.code ({ cls := "java/lang/String", name := "<init>", desc := "(Ljava/lang/StringBuilder;)V" } : Jvm.MethodName) jdk_42_method_53_code (2 : Nat) (Option.none : Option Jvm.ClassFile.FieldType), Jvm.Cond.code ({ cls := "java/lang/String", name := "<init>", desc := "(Ljava/lang/AbstractStringBuilder;Ljava/lang/Void;)V" } : Jvm.MethodName) jdk_42_method_150_code (5 : Nat) (Option.none : Option Jvm.ClassFile.FieldType), Jvm.Cond.code ({ cls := "java/lang/AbstractStringBuilder", name := "getValue", desc := "()[B" } : Jvm.MethodName) jdk_68_method_64_code (1 : Nat) (Option.some (Jvm.ClassFile.FieldType.array Jvm.ClassFile.FieldType.byte)), Jvm.Cond.code ({ cls := "java/lang/StringBuilder", name := "length", desc := "()I" } : Jvm.MethodName) jdk_67_method_93_code (1 : Nat) (Option.some Jvm.ClassFile.FieldType.int), Jvm.Cond.code ({ cls := "java/lang/AbstractStringBuilder", name := "length", desc := "()I" } : Jvm.MethodName) jdk_68_method_6_code (1 : Nat) (Option.some Jvm.ClassFile.FieldType.int), Jvm.Cond.code ({ cls := "java/lang/AbstractStringBuilder", name := "isLatin1", desc := "()Z" } : Jvm.MethodName) jdk_68_method_68_code (1 : Nat) (Option.some Jvm.ClassFile.FieldType.boolean), Jvm.Cond.code ({ cls := "java/util/Arrays", name := "copyOfRange", desc := "([BII)[B" } : Jvm.MethodName) jdk_65_method_132_code (3 : Nat) (Option.some (Jvm.ClassFile.FieldType.array Jvm.ClassFile.FieldType.byte)), Jvm.Cond.code ({ cls := "java/util/Arrays", name := "copyOfRangeByte", desc := "([BII)[B" } : Jvm.MethodName) jdk_65_method_133_code (5 : Nat) (Option.some (Jvm.ClassFile.FieldType.array Jvm.ClassFile.FieldType.byte)), Jvm.Cond.code ({ cls := "java/util/Arrays", name := "checkLength", desc := "(II)V" } : Jvm.MethodName) jdk_65_method_131_code (2 : Nat) (Option.none : Option Jvm.ClassFile.FieldType), Jvm.Cond.code ({ cls := "java/lang/Math", name := "min", desc := "(II)I" } : Jvm.MethodName) jdk_29_method_69_code (2 : Nat) (Option.some Jvm.ClassFile.FieldType.int), Jvm.Cond.code ({ cls := "dev/typewright/dart/DartFormOfPinLaw", name := "expType", desc := "(IZ)Ljava/lang/String;" } : Jvm.MethodName) method_4_code (2 : Nat) (Option.some (Jvm.ClassFile.FieldType.object "java/lang/String")), Jvm.Cond.code ({ cls := "java/lang/String", name := "equals", desc := "(Ljava/lang/Object;)Z" } : Jvm.MethodName) jdk_42_method_66_code (3 : Nat) (Option.some Jvm.ClassFile.FieldType.boolean), Jvm.Cond.code ({ cls := "java/lang/StringLatin1", name := "equals", desc := "([B[B)Z" } : Jvm.MethodName) jdk_43_method_13_code (3 : Nat) (Option.some Jvm.ClassFile.FieldType.boolean), Jvm.Cond.code ({ cls := "dev/typewright/dart/DartForm$PlainForm", name := "fromJson", desc := "(Ljava/lang/String;Z)Ljava/lang/String;" } : Jvm.MethodName) prog_47_method_3_code (3 : Nat) (Option.some (Jvm.ClassFile.FieldType.object "java/lang/String")), Jvm.Cond.code ({ cls := "dev/typewright/dart/DartFormOfPinLaw", name := "expFromJson", desc := "(IZ)Ljava/lang/String;" } : Jvm.MethodName) method_5_code (2 : Nat) (Option.some (Jvm.ClassFile.FieldType.object "java/lang/String")), Jvm.Cond.code ({ cls := "dev/typewright/dart/DartForm$PlainForm", name := "toJson", desc := "(Ljava/lang/String;Z)Ljava/lang/String;" } : Jvm.MethodName) prog_47_method_4_code (3 : Nat) (Option.some (Jvm.ClassFile.FieldType.object "java/lang/String")), Jvm.Cond.code ({ cls := "dev/typewright/dart/DartFormOfPinLaw", name := "expToJson", desc := "(IZ)Ljava/lang/String;" } : Jvm.MethodName) method_6_code (2 : Nat) (Option.some (Jvm.ClassFile.FieldType.object "java/lang/String")), Jvm.Cond.code ({ cls := "dev/typewright/dart/DartForm$PlainForm", name := "decodedType", desc := "()Ljava/lang/String;" } : Jvm.MethodName) prog_47_method_5_code (1 : Nat) (Option.some (Jvm.ClassFile.FieldType.object "java/lang/String")), Jvm.Cond.code ({ cls := "dev/typewright/dart/DartFormOfPinLaw", name := "expDecoded", desc := "(I)Ljava/lang/String;" } : Jvm.MethodName) method_7_code (1 : Nat) (Option.some (Jvm.ClassFile.FieldType.object "java/lang/String")), Jvm.Cond.code ({ cls := "dev/typewright/dart/DartForm$PlainForm", name := "fromDecoded", desc := "(Ljava/lang/String;)Ljava/lang/String;" } : Jvm.MethodName) prog_47_method_6_code (2 : Nat) (Option.some (Jvm.ClassFile.FieldType.object "java/lang/String")), Jvm.Cond.code ({ cls := "dev/typewright/dart/DartFormOfPinLaw", name := "expFromDecoded", desc := "(I)Ljava/lang/String;" } : Jvm.MethodName) method_8_code (1 : Nat) (Option.some (Jvm.ClassFile.FieldType.object "java/lang/String")), Jvm.Cond.code ({ cls := "dev/typewright/dart/DartForm$DoubleForm", name := "<init>", desc := "()V" } : Jvm.MethodName) prog_44_method_1_code (1 : Nat) (Option.none : Option Jvm.ClassFile.FieldType), Jvm.Cond.code ({ cls := "dev/typewright/dart/DartForm$DoubleForm", name := "type", desc := "(Z)Ljava/lang/String;" } : Jvm.MethodName) prog_44_method_2_code (2 : Nat) (Option.some (Jvm.ClassFile.FieldType.object "java/lang/String")), Jvm.Cond.code ({ cls := "dev/typewright/dart/DartForm$DoubleForm", name := "fromJson", desc := "(Ljava/lang/String;Z)Ljava/lang/String;" } : Jvm.MethodName) prog_44_method_3_code (3 : Nat) (Option.some (Jvm.ClassFile.FieldType.object "java/lang/String")), Jvm.Cond.code ({ cls := "java/lang/AbstractStringBuilder", name := "newCapacity", desc := "(I)I" } : Jvm.MethodName) jdk_68_method_10_code (6 : Nat) (Option.some Jvm.ClassFile.FieldType.int), Jvm.Cond.code ({ cls := "jdk/internal/util/ArraysSupport", name := "newLength", desc := "(III)I" } : Jvm.MethodName) jdk_48_method_27_code (4 : Nat) (Option.some Jvm.ClassFile.FieldType.int), Jvm.Cond.code ({ cls := "java/lang/Math", name := "max", desc := "(II)I" } : Jvm.MethodName) jdk_29_method_65_code (2 : Nat) (Option.some Jvm.ClassFile.FieldType.int), Jvm.Cond.code ({ cls := "java/util/Arrays", name := "copyOf", desc := "([BI)[B" } : Jvm.MethodName) jdk_65_method_121_code (3 : Nat) (Option.some (Jvm.ClassFile.FieldType.array Jvm.ClassFile.FieldType.byte)), Jvm.Cond.code ({ cls := "dev/typewright/dart/DartForm$DoubleForm", name := "toJson", desc := "(Ljava/lang/String;Z)Ljava/lang/String;" } : Jvm.MethodName) prog_44_method_4_code (3 : Nat) (Option.some (Jvm.ClassFile.FieldType.object "java/lang/String")), Jvm.Cond.code ({ cls := "dev/typewright/dart/DartForm$DoubleForm", name := "decodedType", desc := "()Ljava/lang/String;" } : Jvm.MethodName) prog_44_method_5_code (1 : Nat) (Option.some (Jvm.ClassFile.FieldType.object "java/lang/String")), Jvm.Cond.code ({ cls := "dev/typewright/dart/DartForm$DoubleForm", name := "fromDecoded", desc := "(Ljava/lang/String;)Ljava/lang/String;" } : Jvm.MethodName) prog_44_method_6_code (2 : Nat) (Option.some (Jvm.ClassFile.FieldType.object "java/lang/String")), Jvm.Cond.code ({ cls := "dev/typewright/dart/DartForm$DateTimeForm", name := "<init>", desc := "(Z)V" } : Jvm.MethodName) prog_42_method_1_code (2 : Nat) (Option.none : Option Jvm.ClassFile.FieldType), Jvm.Cond.code ({ cls := "dev/typewright/dart/DartForm$DateTimeForm", name := "type", desc := "(Z)Ljava/lang/String;" } : Jvm.MethodName) prog_42_method_2_code (2 : Nat) (Option.some (Jvm.ClassFile.FieldType.object "java/lang/String")), Jvm.Cond.code ({ cls := "dev/typewright/dart/DartForm$DateTimeForm", name := "fromJson", desc := "(Ljava/lang/String;Z)Ljava/lang/String;" } : Jvm.MethodName) prog_42_method_3_code (3 : Nat) (Option.some (Jvm.ClassFile.FieldType.object "java/lang/String")), Jvm.Cond.code ({ cls := "dev/typewright/dart/DartForm$DateTimeForm", name := "fromDecoded", desc := "(Ljava/lang/String;)Ljava/lang/String;" } : Jvm.MethodName) prog_42_method_6_code (2 : Nat) (Option.some (Jvm.ClassFile.FieldType.object "java/lang/String")), Jvm.Cond.code ({ cls := "dev/typewright/dart/DartForm", name := "orNull", desc := "(Ljava/lang/String;ZLjava/lang/String;)Ljava/lang/String;" } : Jvm.MethodName) prog_38_method_10_code (3 : Nat) (Option.some (Jvm.ClassFile.FieldType.object "java/lang/String")), Jvm.Cond.code ({ cls := "dev/typewright/dart/DartForm$DateTimeForm", name := "toJson", desc := "(Ljava/lang/String;Z)Ljava/lang/String;" } : Jvm.MethodName) prog_42_method_4_code (4 : Nat) (Option.some (Jvm.ClassFile.FieldType.object "java/lang/String")), Jvm.Cond.code ({ cls := "dev/typewright/dart/DartForm", name := "receiver", desc := "(Ljava/lang/String;Z)Ljava/lang/String;" } : Jvm.MethodName) prog_38_method_11_code (2 : Nat) (Option.some (Jvm.ClassFile.FieldType.object "java/lang/String")), Jvm.Cond.code ({ cls := "dev/typewright/dart/DartForm$DateTimeForm", name := "decodedType", desc := "()Ljava/lang/String;" } : Jvm.MethodName) prog_42_method_5_code (1 : Nat) (Option.some (Jvm.ClassFile.FieldType.object "java/lang/String"))]
set_option maxRecDepth 65536 in
theorem codes_eq : words1.filter isCode = codes1 := rfl
theorem w_codes : ∀ c ∈ words1.filter isCode, c.before args0 about1 = true := by
  rw [codes_eq]
  intro c hc
  simp only [codes1, List.mem_cons, List.not_mem_nil, or_false] at hc
  rcases hc with rfl | rfl | rfl | rfl | rfl | rfl | rfl | rfl | rfl | rfl | rfl | rfl | rfl | rfl | rfl | rfl | rfl | rfl | rfl | rfl | rfl | rfl | rfl | rfl | rfl | rfl | rfl | rfl | rfl | rfl | rfl | rfl | rfl | rfl | rfl | rfl | rfl | rfl | rfl | rfl | rfl | rfl | rfl | rfl | rfl | rfl | rfl | rfl | rfl | rfl | rfl | rfl | rfl | rfl | rfl | rfl | rfl | rfl | rfl
  · exact w_c0
  · exact w_c1
  · exact w_c2
  · exact w_c3
  · exact w_c4
  · exact w_c5
  · exact w_c6
  · exact w_c7
  · exact w_c8
  · exact w_c9
  · exact w_c10
  · exact w_c11
  · exact w_c12
  · exact w_c13
  · exact w_c14
  · exact w_c15
  · exact w_c16
  · exact w_c17
  · exact w_c18
  · exact w_c19
  · exact w_c20
  · exact w_c21
  · exact w_c22
  · exact w_c23
  · exact w_c24
  · exact w_c25
  · exact w_c26
  · exact w_c27
  · exact w_c28
  · exact w_c29
  · exact w_c30
  · exact w_c31
  · exact w_c32
  · exact w_c33
  · exact w_c34
  · exact w_c35
  · exact w_c36
  · exact w_c37
  · exact w_c38
  · exact w_c39
  · exact w_c40
  · exact w_c41
  · exact w_c42
  · exact w_c43
  · exact w_c44
  · exact w_c45
  · exact w_c46
  · exact w_c47
  · exact w_c48
  · exact w_c49
  · exact w_c50
  · exact w_c51
  · exact w_c52
  · exact w_c53
  · exact w_c54
  · exact w_c55
  · exact w_c56
  · exact w_c57
  · exact w_c58
set_option maxRecDepth 65536 in
theorem w_t1 : (words1.take 24).all (fun c => isCode c || c.before args0 about1) = true := by decide +kernel
set_option maxRecDepth 65536 in
theorem w_t2 : ((words1.drop 24).take 24).all (fun c => isCode c || c.before args0 about1) = true := by decide +kernel
set_option maxRecDepth 65536 in
theorem w_t3 : (((words1.drop 24).drop 24).take 24).all (fun c => isCode c || c.before args0 about1) = true := by decide +kernel
set_option maxRecDepth 65536 in
theorem w_t4 : ((((words1.drop 24).drop 24).drop 24).take 24).all (fun c => isCode c || c.before args0 about1) = true := by decide +kernel
set_option maxRecDepth 65536 in
theorem w_t5 : (((((words1.drop 24).drop 24).drop 24).drop 24).take 24).all (fun c => isCode c || c.before args0 about1) = true := by decide +kernel
set_option maxRecDepth 65536 in
theorem w_t6 : ((((((words1.drop 24).drop 24).drop 24).drop 24).drop 24).take 24).all (fun c => isCode c || c.before args0 about1) = true := by decide +kernel
set_option maxRecDepth 65536 in
theorem w_t7 : (((((((words1.drop 24).drop 24).drop 24).drop 24).drop 24).drop 24).take 24).all (fun c => isCode c || c.before args0 about1) = true := by decide +kernel
set_option maxRecDepth 65536 in
theorem w_t8 : ((((((((words1.drop 24).drop 24).drop 24).drop 24).drop 24).drop 24).drop 24).take 24).all (fun c => isCode c || c.before args0 about1) = true := by decide +kernel
set_option maxRecDepth 65536 in
theorem w_t9 : (((((((((words1.drop 24).drop 24).drop 24).drop 24).drop 24).drop 24).drop 24).drop 24).take 24).all (fun c => isCode c || c.before args0 about1) = true := by decide +kernel
set_option maxRecDepth 65536 in
theorem w_t10 : ((((((((((words1.drop 24).drop 24).drop 24).drop 24).drop 24).drop 24).drop 24).drop 24).drop 24).take 24).all (fun c => isCode c || c.before args0 about1) = true := by decide +kernel
set_option maxRecDepth 65536 in
theorem w_t11 : (((((((((((words1.drop 24).drop 24).drop 24).drop 24).drop 24).drop 24).drop 24).drop 24).drop 24).drop 24).take 24).all (fun c => isCode c || c.before args0 about1) = true := by decide +kernel
set_option maxRecDepth 65536 in
theorem w_t12 : ((((((((((((words1.drop 24).drop 24).drop 24).drop 24).drop 24).drop 24).drop 24).drop 24).drop 24).drop 24).drop 24).take 24).all (fun c => isCode c || c.before args0 about1) = true := by decide +kernel
set_option maxRecDepth 65536 in
theorem w_t13 : (((((((((((((words1.drop 24).drop 24).drop 24).drop 24).drop 24).drop 24).drop 24).drop 24).drop 24).drop 24).drop 24).drop 24).take 24).all (fun c => isCode c || c.before args0 about1) = true := by decide +kernel
set_option maxRecDepth 65536 in
theorem w_t14 : ((((((((((((((words1.drop 24).drop 24).drop 24).drop 24).drop 24).drop 24).drop 24).drop 24).drop 24).drop 24).drop 24).drop 24).drop 24).take 24).all (fun c => isCode c || c.before args0 about1) = true := by decide +kernel
set_option maxRecDepth 65536 in
theorem w_t15 : (((((((((((((((words1.drop 24).drop 24).drop 24).drop 24).drop 24).drop 24).drop 24).drop 24).drop 24).drop 24).drop 24).drop 24).drop 24).drop 24).take 24).all (fun c => isCode c || c.before args0 about1) = true := by decide +kernel
set_option maxRecDepth 65536 in
theorem w_t16 : ((((((((((((((((words1.drop 24).drop 24).drop 24).drop 24).drop 24).drop 24).drop 24).drop 24).drop 24).drop 24).drop 24).drop 24).drop 24).drop 24).drop 24).take 24).all (fun c => isCode c || c.before args0 about1) = true := by decide +kernel
set_option maxRecDepth 65536 in
theorem w_t17 : ((((((((((((((((words1.drop 24).drop 24).drop 24).drop 24).drop 24).drop 24).drop 24).drop 24).drop 24).drop 24).drop 24).drop 24).drop 24).drop 24).drop 24).drop 24).all (fun c => isCode c || c.before args0 about1) = true := by decide +kernel
theorem w_tables : (allAtoms (Jvm.Cond.code x code maxLocals ret :: tables_1)).before args0 about1 = true := by
  rw [allAtoms_all]
  show words1.all (fun c => c.before args0 about1) = true
  refine all_split ?_ w_codes
  rw [← List.take_append_drop 24 words1, List.all_append, w_t1, ← List.take_append_drop 24 (words1.drop 24), List.all_append, w_t2, ← List.take_append_drop 24 ((words1.drop 24).drop 24), List.all_append, w_t3, ← List.take_append_drop 24 (((words1.drop 24).drop 24).drop 24), List.all_append, w_t4, ← List.take_append_drop 24 ((((words1.drop 24).drop 24).drop 24).drop 24), List.all_append, w_t5, ← List.take_append_drop 24 (((((words1.drop 24).drop 24).drop 24).drop 24).drop 24), List.all_append, w_t6, ← List.take_append_drop 24 ((((((words1.drop 24).drop 24).drop 24).drop 24).drop 24).drop 24), List.all_append, w_t7, ← List.take_append_drop 24 (((((((words1.drop 24).drop 24).drop 24).drop 24).drop 24).drop 24).drop 24), List.all_append, w_t8, ← List.take_append_drop 24 ((((((((words1.drop 24).drop 24).drop 24).drop 24).drop 24).drop 24).drop 24).drop 24), List.all_append, w_t9, ← List.take_append_drop 24 (((((((((words1.drop 24).drop 24).drop 24).drop 24).drop 24).drop 24).drop 24).drop 24).drop 24), List.all_append, w_t10, ← List.take_append_drop 24 ((((((((((words1.drop 24).drop 24).drop 24).drop 24).drop 24).drop 24).drop 24).drop 24).drop 24).drop 24), List.all_append, w_t11, ← List.take_append_drop 24 (((((((((((words1.drop 24).drop 24).drop 24).drop 24).drop 24).drop 24).drop 24).drop 24).drop 24).drop 24).drop 24), List.all_append, w_t12, ← List.take_append_drop 24 ((((((((((((words1.drop 24).drop 24).drop 24).drop 24).drop 24).drop 24).drop 24).drop 24).drop 24).drop 24).drop 24).drop 24), List.all_append, w_t13, ← List.take_append_drop 24 (((((((((((((words1.drop 24).drop 24).drop 24).drop 24).drop 24).drop 24).drop 24).drop 24).drop 24).drop 24).drop 24).drop 24).drop 24), List.all_append, w_t14, ← List.take_append_drop 24 ((((((((((((((words1.drop 24).drop 24).drop 24).drop 24).drop 24).drop 24).drop 24).drop 24).drop 24).drop 24).drop 24).drop 24).drop 24).drop 24), List.all_append, w_t15, ← List.take_append_drop 24 (((((((((((((((words1.drop 24).drop 24).drop 24).drop 24).drop 24).drop 24).drop 24).drop 24).drop 24).drop 24).drop 24).drop 24).drop 24).drop 24).drop 24), List.all_append, w_t16, w_t17]
  rfl
set_option maxRecDepth 65536 in
theorem w_rest : rest_1_c.before args0 about1 = true := by decide +kernel
set_option maxRecDepth 65536 in
theorem w_case : (Jvm.Cond.and given_1 narrow_1).before args0 about1 = true := by decide +kernel
set_option maxRecDepth 65536 in
theorem w_consts : constsHeld consts_1 about1 := Jvm.Lit.constsHeldB_iff.mp (by decide +kernel)
theorem w_applies : (headSpec (Jvm.Cond.code x code maxLocals ret :: tables_1) room_1).applies x e0.platform about1 = true :=
  (Spec.applies_iff w_frames).mpr ⟨w_running, w_runnable, w_alone, w_named, w_hears, w_ripe, w_room, w_tables⟩
theorem atStart : AtStart classFile x code maxLocals ret World_1 tables_1 room_1 Calls_1 rest_1 Pre_1 launch0 p0 e0 about1 theMethod args0 below0 :=
  ⟨lists_1, trivial, launch0.admits_env _ _ _, launch0.least_env, fairChoices_fair.cas, fairChoices_fair.clock, w_frames, w_args, w_heap, w_applies, ⟨w_consts, trivial⟩, w_rest, w_case⟩
end start1
theorem witness_1 : WitnessClaimed_1 := ⟨start1.p0, start1.e0, start1.about1, start1.theMethod, start1.args0, start1.below0, start1.atStart⟩
end Jvm.Pilot.@@N@@
