import JvmDerived
import JvmDerived.Pilot.@@N@@Statement
import JvmDerived.Pilot.@@N@@Code
set_option linter.unusedVariables false
set_option linter.unusedSimpArgs false
namespace Jvm.GoKit
open Sem ClassFile Op Lib Jvm.Stand Jvm.Free Jvm.LawKit Jvm.RoadKit
/-! A small logic of walks: 'Go .. h kc ks SL pc L S': from pc, with locals L, stack S, heap h, the body comes to its end and Q holds. -/
def Sfs (Z : State) (EL : List (String × Nat)) (vm : Vm) (h : Heap) (SL : List Addr) : Prop := ∀ x ∈ SL, x < h.size ∧ Safe Z EL vm h x
def En (w : Bool) (s : State) (o : Outcome) (t : State) (L : List Loc) (k n : Nat) : Prop := ReturnedEndW s o t L k n ∧ (w = false → s.WarmedH t.vm)
def Wk (l : Launch) (Z : State) (y : MethodName) (bytes : ByteArray) (mx : Nat) (rt : Option FieldType) (R : Room) (EL : List (String × Nat)) (n0 : Nat) (w : Bool) (p : Program) (e : Env) (s : State) (m : MethodId) (args : Array Value) (below : List Frame) (meth : Method) (c : Code) (T : State) (h : Heap) (kc ks : Nat) (SL : List Addr) : Prop :=
  (p.tables.exec = Jvm.exec ∧ c.code = bytes ∧ c.maxLocals = mx ∧ meth.sig.returnType = rt ∧ meth.locks = false ∧ meth.name = y.name ∧ ∃ a0, EW Z a0 EL) ∧
  ∃ k0 locs, Stand p l e R (s.setVm T.vm) m args below meth c T locs kc ks ∧ T.heap = h ∧ s.Since T.vm k0 ∧ k0 ≤ h.size ∧ Z.Warmed39 T.vm ∧ T.vm.findClass y.cls = some m.cls ∧ CHr Z EL s.vm s.heap T.vm h ∧ Fr n0 locs ∧ (w = false → s.WarmedH T.vm) ∧ Sfs Z EL T.vm h SL
def Go (l : Launch) (Z : State) (y : MethodName) (bytes : ByteArray) (mx : Nat) (rt : Option FieldType) (R : Room) (EL : List (String × Nat)) (n0 : Nat) (w : Bool) (Q : Option Value → Heap → List Addr → Prop) (h : Heap) (kc ks : Nat) (SL : List Addr) (pc : Nat) (L : Array Slot) (S : List Value) : Prop :=
  ∀ p e s m args below meth c T, Wk l Z y bytes mx rt R EL n0 w p e s m args below meth c T h kc ks SL →
    ∃ s₂ o, Steps p.tables e below (T.setTop (mkF m pc L S)) s₂ ∧ s₂.status = .running ∧ Ended s₂ below o ∧
      ∃ v Ls N, o = .returned v ∧ Q v s₂.heap N ∧ Fr n0 Ls ∧ CHr Z EL s.vm s.heap s₂.vm s₂.heap ∧ Sfs Z EL s₂.vm s₂.heap N ∧ En w s o s₂ Ls R.cells R.slots
/-- a method's contract, for one array of arguments and one heap -/
def Ct (l : Launch) (Z : State) (y : MethodName) (bytes : ByteArray) (mx : Nat) (rt : Option FieldType) (R : Room) (EL : List (String × Nat)) (n0 : Nat) (w : Bool) (ws : List Jvm.Cond) (as' : Array Value) (h0 : Heap) (SL : List Addr) (Q : Option Value → Heap → List Addr → Prop) : Prop :=
  MetFree l y (head1 (Jvm.Cond.code y bytes mx rt :: ws) R) (fun a U => a = as' ∧ Z.Warmed39 U.vm ∧ U.heap = h0 ∧ CHv Z EL U.vm h0 ∧ Sfs Z EL U.vm h0 SL) (fun _ _ _ _ _ => True)
    (fun _ U o U' => ∃ v Ls N, o = .returned v ∧ Q v U'.heap N ∧ Fr n0 Ls ∧ CHr Z EL U.vm U.heap U'.vm U'.heap ∧ Sfs Z EL U'.vm U'.heap N ∧ En w U o U' Ls R.cells R.slots)
theorem nlt {a b : Nat} (h : a < b) : a < b := h
theorem nle {a b : Nat} (h : a ≤ b) : a ≤ b := h
theorem neq {a b : Nat} (h : a = b) : a = b := h
theorem nne {a b : Nat} (h : a ≠ b) : a ≠ b := h
theorem nne2 {x a b : Nat} (h : x ≠ a ∧ x ≠ b) : x ≠ a ∧ x ≠ b := h
theorem sta_keep {Z : State} {h h' : Heap} {C n d : String} {v : Value} {ws : List Addr} (F : Sta Z h C n d v) (K : Keep h h' ws) (q : ∀ x ∈ ws, ∀ cell : Cell, h[x]? = some cell → cell.vm.isStatics = false) : Sta Z h' C n d v := by
  obtain ⟨cf, i, k, f, st, cell, h1, h2, h3, h4, h5, h6, h7⟩ := F
  exact ⟨cf, i, k, f, st, cell, h1, h2, h3, h4, K.2.1 st cell h5 (fun m => by rw [q st m cell h5] at h6; cases h6), h6, h7⟩
theorem arr_keep {Z : State} {h h' : Heap} {a : Addr} {c : Cell} {ty : FieldType} {ws : List Addr} (F : RoadKit.Arr Z h a c ty) (K : Keep h h' ws) (q : a ∉ ws) : RoadKit.Arr Z h' a c ty := ⟨K.2.1 a c F.1 q, F.2⟩
section Closure
variable {l : Launch} {Z : State} {y : MethodName} {bytes : ByteArray} {mx : Nat} {rt : Option FieldType} {R : Room} {EL : List (String × Nat)} {n0 : Nat} {w : Bool} {Q : Option Value → Heap → List Addr → Prop} {h h' : Heap} {kc ks kc' ks' : Nat} {SL SL' : List Addr} {pc pc' : Nat} {L L' : Array Slot} {S S' : List Value} {a0 : Array Value}
variable {p : Program} {e : Env} {s : State} {m : MethodId} {args : Array Value} {below : List Frame} {meth : Method} {c : Code} {T T' : State} {locs' : List Loc}
theorem Sfs.mono (F : Sfs Z EL T.vm h SL) (q : ∀ x ∈ SL', x ∈ SL) : Sfs Z EL T.vm h SL' := fun x hx => F x (q x hx)
theorem Sfs.chr {vm vm1 : Vm} (F : Sfs Z EL vm h SL) (A : CHr Z EL vm h vm1 h') : Sfs Z EL vm1 h' SL := fun x hx => ⟨Nat.lt_of_lt_of_le (F x hx).1 A.2.1, A.safe (F x hx).1 (F x hx).2⟩
theorem Wk.mono (W : Wk l Z y bytes mx rt R EL n0 w p e s m args below meth c T h kc ks SL) (q : ∀ x ∈ SL', x ∈ SL) : Wk l Z y bytes mx rt R EL n0 w p e s m args below meth c T h kc ks SL' := by
  obtain ⟨A, k0, locs, X, e1, h1, h2, h3, h4, h5, h6, h7, h8⟩ := W
  exact ⟨A, k0, locs, X, e1, h1, h2, h3, h4, h5, h6, h7, h8.mono q⟩
/-- a step that interns nothing -/
theorem Wk.next (W : Wk l Z y bytes mx rt R EL n0 w p e s m args below meth c T h kc ks SL) (X' : Stand p l e R (s.setVm T.vm) m args below meth c T' locs' kc' ks') (e' : T'.heap = h') (hC : CHr Z EL T.vm h T.vm h') (N : Fr n0 locs') (hSf : Sfs Z EL T.vm h' SL') :
    Wk l Z y bytes mx rt R EL n0 w p e s m args below meth c T' h' kc' ks' SL' := by
  obtain ⟨⟨b1, b2, b3, b4, b5, b6, a0, b7⟩, k0, locs, X, e1, h1, h2, h3, h4, h5, h6, h7, h8⟩ := W
  have hW : (s.setVm T.vm).WarmedH T'.vm := X'.warmed
  have A := CHv.at X' h3 b7 hC.1
  have Xr : Stand p l e R (s.setVm T'.vm) m args below meth c T' locs' kc' ks' := X'.retabled hW.wide
  refine ⟨⟨b1, b2, b3, b4, b5, b6, a0, b7⟩, k0, locs', Xr, e', h1.trans (hW.since _) (Nat.le_refl _), Nat.le_trans h2 hC.2.1, State.Warmed39.trans (t := s.setVm T.vm) h3 hW.wide, ?_, (h5.trans hC).trans A, N, fun q => State.WarmedH.trans (t := s.setVm T.vm) (h7 q) hW, hSf.chr A⟩
  rw [hW.alike.findClass]; exact h4
/-- a step that may intern -/
theorem Wk.nextS (W : Wk l Z y bytes mx rt R EL n0 w p e s m args below meth c T h kc ks SL) (X' : Stand p l e R (s.setVm T'.vm) m args below meth c T' locs' kc' ks') (e' : T'.heap = h') {n1 : Nat} (hS : (s.setVm T.vm).Since T'.vm n1) (hn1 : h.size ≤ n1) (hn : n1 ≤ h'.size) (hC : CHr Z EL T.vm h T'.vm h') (N : Fr n0 locs') (hw : w = false → (s.setVm T.vm).WarmedH T'.vm) (hSf : Sfs Z EL T'.vm h' SL') :
    Wk l Z y bytes mx rt R EL n0 w p e s m args below meth c T' h' kc' ks' SL' := by
  obtain ⟨⟨b1, b2, b3, b4, b5, b6, a0, b7⟩, k0, locs, X, e1, h1, h2, h3, h4, h5, h6, h7, h8⟩ := W
  refine ⟨⟨b1, b2, b3, b4, b5, b6, a0, b7⟩, n1, locs', X', e', h1.trans hS (Nat.le_trans h2 hn1), hn, State.Warmed39.trans (t := s.setVm T.vm) h3 hS.1, ?_, h5.trans hC, N, fun q => State.WarmedH.trans (t := s.setVm T.vm) (h7 q) (hw q), hSf⟩
  rw [hS.1.alike.findClass]; exact h4
theorem Go.st (hst : ∀ {p : Program} {e : Env} {s : State} {m : MethodId} {args : Array Value} {below : List Frame} {meth : Method} {c : Code} {T : State}, Wk l Z y bytes mx rt R EL n0 w p e s m args below meth c T h kc ks SL → ∀ t, Steps p.tables e below (T.setTop (mkF m pc' L' S')) t → Steps p.tables e below (T.setTop (mkF m pc L S)) t)
    (k : Go l Z y bytes mx rt R EL n0 w Q h kc ks SL pc' L' S') : Go l Z y bytes mx rt R EL n0 w Q h kc ks SL pc L S := by
  intro p e s m args below meth c T W
  obtain ⟨s₂, o, st, r⟩ := k p e s m args below meth c T W
  exact ⟨s₂, o, hst W _ st, r⟩
theorem Go.mono (q : ∀ x ∈ SL', x ∈ SL) (k : Go l Z y bytes mx rt R EL n0 w Q h kc ks SL' pc L S) : Go l Z y bytes mx rt R EL n0 w Q h kc ks SL pc L S := fun p e s m args below meth c T W => k p e s m args below meth c T (W.mono q)
theorem Go.post {Q' : Option Value → Heap → List Addr → Prop} (q : ∀ v h N, Q' v h N → Q v h N) (k : Go l Z y bytes mx rt R EL n0 w Q' h kc ks SL pc L S) : Go l Z y bytes mx rt R EL n0 w Q h kc ks SL pc L S := fun p e s m args below meth c T W => by
  obtain ⟨s₂, o, st, r1, r2, v, Ls, N, r3, r4, r5⟩ := k p e s m args below meth c T W
  exact ⟨s₂, o, st, r1, r2, v, Ls, N, r3, q _ _ _ r4, r5⟩
theorem Ct.of {ws : List Jvm.Cond} {as' : Array Value} {h0 : Heap} (hp : plainFor y = true) (hEL : EW Z a0 EL) {L0 : Array Slot} (hE : ∀ m, entryFrame m as' mx = mkF m 0 L0 []) (G : Go l Z y bytes mx rt R EL n0 w Q h0 0 0 SL 0 L0 []) :
    Ct l Z y bytes mx rt R EL n0 w ws as' h0 SL Q := by
  refine MetFree.of_bodySF hp hisR ?_
  intro p e s m args below meth c s₁ Bd hml0 hP hK
  obtain ⟨rfl, hZ, hh, hC, hSf⟩ := hP
  have X0 : Stand p l e R (s.setVm s.vm) m args below meth c s₁ [] 0 0 := Stand.of_body Bd
  have e0 : s₁.heap = h0 := by rw [← hh, Bd.state]; rfl
  have hW : s.WarmedH s₁.vm := X0.warmed
  have A := CHv.at X0 hZ hEL hC
  have hl : meth.locks = false := BodyLoose.notSynchronized Bd
  rw [hE]
  refine G p e s m args below meth c s₁ ⟨⟨Bd.exec, Bd.bytes, hml0, Bd.returns, hl, (name_of_methodNamed Bd.named Bd.method).1, a0, hEL⟩, h0.size, [], X0.retabled hW.wide, e0, hW.since _, Nat.le_refl _, State.Warmed39.trans (t := s) hZ hW.wide, ?_, ?_, Fr.nil n0, fun _ => hW, hSf.chr A⟩
  · rw [hW.alike.findClass]; exact findClass_of_methodNamed Bd.named
  · rw [hh]; exact A
/-- a callee's contract pays the call -/
theorem Ct.pay {z : MethodName} {bytesZ : ByteArray} {mxZ : Nat} {rtZ : Option FieldType} {rm : Room} {as' : Array Value} {QZ : Option Value → Heap → List Addr → Prop} {len W : Nat} {vm0 : Vm} (hM : Ct l Z z bytesZ mxZ rtZ rm EL n0 w [] as' h SL' QZ)
    (hZ : Z.Warmed39 vm0) (hEL : EW Z a0 EL) (H : CHv Z EL vm0 h) (hSf : Sfs Z EL vm0 h SL') {a1 : Array Value} (wc : (Jvm.Cond.code z bytesZ mxZ rtZ).before a1 Z = true) (wz : (Jvm.Cond.initialized z.cls).before a1 Z = true) (hf : rm.frames + 1 ≤ R.frames) (hl : W + (mxZ + 11) + rm.locals ≤ R.locals) :
    BackS l R p e below (s.setVm vm0) args z len W (fun A a => a = as' ∧ A.U.heap = h ∧ A.cells + rm.cells ≤ R.cells ∧ A.slots + rm.slots ≤ R.slots)
      (fun A _ v B => ∃ Ls N, QZ v B.U.heap N ∧ Fr n0 Ls ∧ B.locs = A.locs ++ Ls ∧ B.cells = A.cells + rm.cells ∧ B.slots = A.slots + rm.slots ∧ CHr Z EL vm0 h B.U.vm B.U.heap ∧ Sfs Z EL B.U.vm B.U.heap N ∧ (w = false → (s.setVm vm0).WarmedH B.U.vm)) :=
  BackS.of_freeW (bytes := bytesZ) (maxL := mxZ) (ret := rtZ) (E := fun _ first o t L k n => k = rm.cells ∧ n = rm.slots ∧ (∃ v N, o = .returned v ∧ QZ v t.heap N ∧ Fr n0 L ∧ Sfs Z EL t.vm t.heap N) ∧ CHr Z EL first.vm first.heap t.vm t.heap ∧ (w = false → first.WarmedH t.vm)) hM hf hl
    (fun m meth c A a Y hp => have hU : Z.Warmed39 A.U.vm := wtrans (s := s.setVm vm0) hZ Y.warmed
      ⟨by show (Jvm.Cond.and _ .tt).before a A.U = true; rw [Cond.before_and, mv hU wc]; rfl, mv hU wc, mv hU wz, hp.2.2.1, hp.2.2.2⟩)
    (fun m meth c A a g mk Y hp => have A9 : CHr Z EL vm0 h A.U.vm h := CHv.at (T := A.U) Y hZ hEL H
      ⟨hp.1, wtrans (s := s.setVm vm0) hZ Y.warmed, hp.2.1, A9.1, hSf.chr A9⟩) (fun _ _ _ _ _ _ _ _ _ => trivial)
    (fun _ _ _ _ ⟨v, L, N, h1, h2, h3, h4, h5, h6⟩ => ⟨L, _, _, h6.1, rfl, rfl, ⟨v, N, h1, h2, h3, h5⟩, h4, h6.2⟩)
    (fun m meth c A a g mk v t L k n Y hp _ _ ⟨e1, e2, ⟨v', N, e3, e4, e5, e6⟩, e7, e8⟩ => by
      cases e3; subst e1 e2
      refine ⟨L, N, e4, e5, rfl, rfl, rfl, (CHv.at Y hZ hEL H).trans ?_, e6, fun q => State.WarmedH.trans (s := s.setVm vm0) (t := A.U) Y.warmed (e8 q)⟩
      rw [← hp.2.1]; exact e7)
end Closure
section Rules
abbrev usr (x y : Int32) : Int32 := (x.toUInt32 >>> (y &&& 31).toUInt32).toInt32
def cP : ClassFile.Cond → Int32 → Int32 → Prop
  | .eq, x, y => x = y
  | .ne, x, y => ¬ x = y
  | .lt, x, y => x < y
  | .ge, x, y => ¬ x < y
  | .gt, x, y => y < x
  | .le, x, y => ¬ y < x
def cneg : ClassFile.Cond → ClassFile.Cond
  | .eq => .ne
  | .ne => .eq
  | .lt => .ge
  | .ge => .lt
  | .gt => .le
  | .le => .gt
theorem ic_t {cd : ClassFile.Cond} {x y : Int32} (h : cP cd x y) : if_icmp.holds cd x y = true := by
  cases cd
  · exact (teq h).1
  · exact (feq h).2
  · exact (tlt h).1
  · exact (flt h).2.1
  · exact (tlt h).2.2.1
  · exact (flt h).2.2.2
theorem ic_f {cd : ClassFile.Cond} {x y : Int32} (h : cP (cneg cd) x y) : if_icmp.holds cd x y = false := by
  cases cd
  · exact (feq h).1
  · exact (teq h).2
  · exact (flt h).1
  · exact (tlt h).2.1
  · exact (flt h).2.2.1
  · exact (tlt h).2.2.2
theorem if_ic (cd : ClassFile.Cond) (x : Int32) : ifCond.holds cd x = if_icmp.holds cd x 0 := by cases cd <;> rfl
theorem if_t {cd : ClassFile.Cond} {x : Int32} (h : cP cd x 0) : ifCond.holds cd x = true := (if_ic cd x).trans (ic_t h)
theorem if_f {cd : ClassFile.Cond} {x : Int32} (h : cP (cneg cd) x 0) : ifCond.holds cd x = false := (if_ic cd x).trans (ic_f h)
theorem cP_em (cd : ClassFile.Cond) (x y : Int32) : cP cd x y ∨ cP (cneg cd) x y := by
  cases cd <;> simp only [cP, cneg] <;> first | exact Decidable.em _ | exact (Decidable.em _).symm
variable {l : Launch} {Z : State} {y : MethodName} {bytes : ByteArray} {mx : Nat} {rt : Option FieldType} {R : Room} {EL : List (String × Nat)} {n0 : Nat} {w : Bool} {Q : Option Value → Heap → List Addr → Prop} {h h' : Heap} {kc ks kc' ks' : Nat} {SL SL' : List Addr} {pc pc' pc'' : Nat} {L L' : Array Slot} {S S' : List Value} {a0 a1 : Array Value}
theorem Go.re (q1 : pc = pc') (q2 : L = L') (q3 : S = S') (K : Go l Z y bytes mx rt R EL n0 w Q h kc ks SL pc' L' S') : Go l Z y bytes mx rt R EL n0 w Q h kc ks SL pc L S := by subst q1 q2 q3; exact K
theorem Go.aloadN {k : Fin 4} {v : Value} (hd : decode bytes pc = .ok (.aload_n k, 1)) (hl : L[k.val]? = some (.val v)) (hv : v.isRef = true) (q : pc + 1 = pc') (K : Go l Z y bytes mx rt R EL n0 w Q h kc ks SL pc' L (v :: S)) : Go l Z y bytes mx rt R EL n0 w Q h kc ks SL pc L S := Go.st (fun W t kk => by obtain ⟨⟨hx, hby, -⟩, _, _, X, -⟩ := W; subst q; exact XS.aloadN X.here hx rfl (hb hby hd) hl hv kk) K
theorem Go.aload {k : Nat} {v : Value} (hd : decode bytes pc = .ok (.aload k, 2)) (hl : L[k]? = some (.val v)) (hv : v.isRef = true) (q : pc + 2 = pc') (K : Go l Z y bytes mx rt R EL n0 w Q h kc ks SL pc' L (v :: S)) : Go l Z y bytes mx rt R EL n0 w Q h kc ks SL pc L S := Go.st (fun W t kk => by obtain ⟨⟨hx, hby, -⟩, _, _, X, -⟩ := W; subst q; exact XS.aload X.here hx rfl (hb hby hd) hl hv kk) K
theorem Go.iloadN {k : Fin 4} {v : Int32} (hd : decode bytes pc = .ok (.iload_n k, 1)) (hl : L[k.val]? = some (.val (.int v))) (q : pc + 1 = pc') (K : Go l Z y bytes mx rt R EL n0 w Q h kc ks SL pc' L (.int v :: S)) : Go l Z y bytes mx rt R EL n0 w Q h kc ks SL pc L S := Go.st (fun W t kk => by obtain ⟨⟨hx, hby, -⟩, _, _, X, -⟩ := W; subst q; exact XS.iloadN X.here hx rfl (hb hby hd) hl kk) K
theorem Go.iload {k : Nat} {v : Int32} (hd : decode bytes pc = .ok (.iload k, 2)) (hl : L[k]? = some (.val (.int v))) (q : pc + 2 = pc') (K : Go l Z y bytes mx rt R EL n0 w Q h kc ks SL pc' L (.int v :: S)) : Go l Z y bytes mx rt R EL n0 w Q h kc ks SL pc L S := Go.st (fun W t kk => by obtain ⟨⟨hx, hby, -⟩, _, _, X, -⟩ := W; subst q; exact XS.iload X.here hx rfl (hb hby hd) hl kk) K
theorem Go.lloadN {k : Fin 4} {v : Int64} (hd : decode bytes pc = .ok (.lload_n k, 1)) (hl : L[k.val]? = some (.val (.long v))) (q : pc + 1 = pc') (K : Go l Z y bytes mx rt R EL n0 w Q h kc ks SL pc' L (.long v :: S)) : Go l Z y bytes mx rt R EL n0 w Q h kc ks SL pc L S := Go.st (fun W t kk => by obtain ⟨⟨hx, hby, -⟩, _, _, X, -⟩ := W; subst q; exact XS.lloadN X.here hx rfl (hb hby hd) hl kk) K
theorem Go.lload {k : Nat} {v : Int64} (hd : decode bytes pc = .ok (.lload k, 2)) (hl : L[k]? = some (.val (.long v))) (q : pc + 2 = pc') (K : Go l Z y bytes mx rt R EL n0 w Q h kc ks SL pc' L (.long v :: S)) : Go l Z y bytes mx rt R EL n0 w Q h kc ks SL pc L S := Go.st (fun W t kk => by obtain ⟨⟨hx, hby, -⟩, _, _, X, -⟩ := W; subst q; exact XS.lload X.here hx rfl (hb hby hd) hl kk) K
theorem Go.istoreN {k : Fin 4} {v : Int32} (L' : Array Slot) (hd : decode bytes pc = .ok (.istore_n k, 1)) (hl : storeLocals L k.val (.int v) = some L') (q : pc + 1 = pc') (K : Go l Z y bytes mx rt R EL n0 w Q h kc ks SL pc' L' S) : Go l Z y bytes mx rt R EL n0 w Q h kc ks SL pc L (.int v :: S) := Go.st (fun W t kk => by obtain ⟨⟨hx, hby, -⟩, _, _, X, -⟩ := W; subst q; exact XS.istoreN X.here hx rfl (hb hby hd) rfl hl kk) K
theorem Go.istore {k : Nat} {v : Int32} (L' : Array Slot) (hd : decode bytes pc = .ok (.istore k, 2)) (hl : storeLocals L k (.int v) = some L') (q : pc + 2 = pc') (K : Go l Z y bytes mx rt R EL n0 w Q h kc ks SL pc' L' S) : Go l Z y bytes mx rt R EL n0 w Q h kc ks SL pc L (.int v :: S) := Go.st (fun W t kk => by obtain ⟨⟨hx, hby, -⟩, _, _, X, -⟩ := W; subst q; exact XS.istore X.here hx rfl (hb hby hd) rfl hl kk) K
theorem Go.lstoreN {k : Fin 4} {v : Int64} (L' : Array Slot) (hd : decode bytes pc = .ok (.lstore_n k, 1)) (hl : storeLocals L k.val (.long v) = some L') (q : pc + 1 = pc') (K : Go l Z y bytes mx rt R EL n0 w Q h kc ks SL pc' L' S) : Go l Z y bytes mx rt R EL n0 w Q h kc ks SL pc L (.long v :: S) := Go.st (fun W t kk => by obtain ⟨⟨hx, hby, -⟩, _, _, X, -⟩ := W; subst q; exact XS.lstoreN X.here hx rfl (hb hby hd) rfl hl kk) K
theorem Go.lstore {k : Nat} {v : Int64} (L' : Array Slot) (hd : decode bytes pc = .ok (.lstore k, 2)) (hl : storeLocals L k (.long v) = some L') (q : pc + 2 = pc') (K : Go l Z y bytes mx rt R EL n0 w Q h kc ks SL pc' L' S) : Go l Z y bytes mx rt R EL n0 w Q h kc ks SL pc L (.long v :: S) := Go.st (fun W t kk => by obtain ⟨⟨hx, hby, -⟩, _, _, X, -⟩ := W; subst q; exact XS.lstore X.here hx rfl (hb hby hd) rfl hl kk) K
theorem Go.astoreN {k : Fin 4} {v : Value} (L' : Array Slot) (hd : decode bytes pc = .ok (.astore_n k, 1)) (hv : v.isRef = true) (hl : storeLocals L k.val v = some L') (q : pc + 1 = pc') (K : Go l Z y bytes mx rt R EL n0 w Q h kc ks SL pc' L' S) : Go l Z y bytes mx rt R EL n0 w Q h kc ks SL pc L (v :: S) := Go.st (fun W t kk => by obtain ⟨⟨hx, hby, -⟩, _, _, X, -⟩ := W; subst q; exact XS.astoreN X.here hx rfl (hb hby hd) rfl hv hl kk) K
theorem Go.astore {k : Nat} {v : Value} (L' : Array Slot) (hd : decode bytes pc = .ok (.astore k, 2)) (hv : v.isRef = true) (hl : storeLocals L k v = some L') (q : pc + 2 = pc') (K : Go l Z y bytes mx rt R EL n0 w Q h kc ks SL pc' L' S) : Go l Z y bytes mx rt R EL n0 w Q h kc ks SL pc L (v :: S) := Go.st (fun W t kk => by obtain ⟨⟨hx, hby, -⟩, _, _, X, -⟩ := W; subst q; exact XS.astore X.here hx rfl (hb hby hd) rfl hv hl kk) K
theorem Go.iconst {i : Int} (z : Int32) (hd : decode bytes pc = .ok (.iconst i, 1)) (hz : Int32.ofInt i = z) (q : pc + 1 = pc') (K : Go l Z y bytes mx rt R EL n0 w Q h kc ks SL pc' L (.int z :: S)) : Go l Z y bytes mx rt R EL n0 w Q h kc ks SL pc L S := Go.st (fun W t kk => by obtain ⟨⟨hx, hby, -⟩, _, _, X, -⟩ := W; subst q; subst hz; exact XS.iconst X.here hx rfl (hb hby hd) kk) K
theorem Go.bipush {i : Int} (z : Int32) (hd : decode bytes pc = .ok (.bipush i, 2)) (hz : (Int8.ofInt i).toInt32 = z) (q : pc + 2 = pc') (K : Go l Z y bytes mx rt R EL n0 w Q h kc ks SL pc' L (.int z :: S)) : Go l Z y bytes mx rt R EL n0 w Q h kc ks SL pc L S := Go.st (fun W t kk => by obtain ⟨⟨hx, hby, -⟩, _, _, X, -⟩ := W; subst q; subst hz; exact XS.bipush X.here hx rfl (hb hby hd) kk) K
theorem Go.sipush {i : Int} (z : Int32) (hd : decode bytes pc = .ok (.sipush i, 3)) (hz : (Int16.ofInt i).toInt32 = z) (q : pc + 3 = pc') (K : Go l Z y bytes mx rt R EL n0 w Q h kc ks SL pc' L (.int z :: S)) : Go l Z y bytes mx rt R EL n0 w Q h kc ks SL pc L S := Go.st (fun W t kk => by obtain ⟨⟨hx, hby, -⟩, _, _, X, -⟩ := W; subst q; subst hz; exact XS.sipush X.here hx rfl (hb hby hd) kk) K
theorem Go.lconst {k : Fin 2} (z : Int64) (hd : decode bytes pc = .ok (.lconst k, 1)) (hz : Int64.ofNat k.val = z) (q : pc + 1 = pc') (K : Go l Z y bytes mx rt R EL n0 w Q h kc ks SL pc' L (.long z :: S)) : Go l Z y bytes mx rt R EL n0 w Q h kc ks SL pc L S := Go.st (fun W t kk => by obtain ⟨⟨hx, hby, -⟩, _, _, X, -⟩ := W; subst q; subst hz; exact XS.lconst X.here hx rfl (hb hby hd) kk) K
theorem Go.aconstNull (hd : decode bytes pc = .ok (.aconst_null, 1)) (q : pc + 1 = pc') (K : Go l Z y bytes mx rt R EL n0 w Q h kc ks SL pc' L (.null :: S)) : Go l Z y bytes mx rt R EL n0 w Q h kc ks SL pc L S := Go.st (fun W t kk => by obtain ⟨⟨hx, hby, -⟩, _, _, X, -⟩ := W; subst q; exact XS.aconstNull X.here hx rfl (hb hby hd) kk) K
theorem Go.iadd {x y' : Int32} (hd : decode bytes pc = .ok (.iadd, 1)) (q : pc + 1 = pc') (K : Go l Z y bytes mx rt R EL n0 w Q h kc ks SL pc' L (.int (x + y') :: S)) : Go l Z y bytes mx rt R EL n0 w Q h kc ks SL pc L (.int y' :: .int x :: S) := Go.st (fun W t kk => by obtain ⟨⟨hx, hby, -⟩, _, _, X, -⟩ := W; subst q; exact XS.iadd X.here hx rfl (hb hby hd) rfl kk) K
theorem Go.isub {x y' : Int32} (hd : decode bytes pc = .ok (.isub, 1)) (q : pc + 1 = pc') (K : Go l Z y bytes mx rt R EL n0 w Q h kc ks SL pc' L (.int (x - y') :: S)) : Go l Z y bytes mx rt R EL n0 w Q h kc ks SL pc L (.int y' :: .int x :: S) := Go.st (fun W t kk => by obtain ⟨⟨hx, hby, -⟩, _, _, X, -⟩ := W; subst q; exact XS.isub X.here hx rfl (hb hby hd) rfl kk) K
theorem Go.iand {x y' : Int32} (hd : decode bytes pc = .ok (.iand, 1)) (q : pc + 1 = pc') (K : Go l Z y bytes mx rt R EL n0 w Q h kc ks SL pc' L (.int (x &&& y') :: S)) : Go l Z y bytes mx rt R EL n0 w Q h kc ks SL pc L (.int y' :: .int x :: S) := Go.st (fun W t kk => by obtain ⟨⟨hx, hby, -⟩, _, _, X, -⟩ := W; subst q; exact XS.iand X.here hx rfl (hb hby hd) rfl kk) K
theorem Go.ior {x y' : Int32} (hd : decode bytes pc = .ok (.ior, 1)) (q : pc + 1 = pc') (K : Go l Z y bytes mx rt R EL n0 w Q h kc ks SL pc' L (.int (x ||| y') :: S)) : Go l Z y bytes mx rt R EL n0 w Q h kc ks SL pc L (.int y' :: .int x :: S) := Go.st (fun W t kk => by obtain ⟨⟨hx, hby, -⟩, _, _, X, -⟩ := W; subst q; exact XS.ior X.here hx rfl (hb hby hd) rfl kk) K
theorem Go.ixor {x y' : Int32} (hd : decode bytes pc = .ok (.ixor, 1)) (q : pc + 1 = pc') (K : Go l Z y bytes mx rt R EL n0 w Q h kc ks SL pc' L (.int (x ^^^ y') :: S)) : Go l Z y bytes mx rt R EL n0 w Q h kc ks SL pc L (.int y' :: .int x :: S) := Go.st (fun W t kk => by obtain ⟨⟨hx, hby, -⟩, _, _, X, -⟩ := W; subst q; exact XS.ixor X.here hx rfl (hb hby hd) rfl kk) K
theorem Go.imul {x y' : Int32} (hd : decode bytes pc = .ok (.imul, 1)) (q : pc + 1 = pc') (K : Go l Z y bytes mx rt R EL n0 w Q h kc ks SL pc' L (.int (x * y') :: S)) : Go l Z y bytes mx rt R EL n0 w Q h kc ks SL pc L (.int y' :: .int x :: S) := Go.st (fun W t kk => by obtain ⟨⟨hx, hby, -⟩, _, _, X, -⟩ := W; subst q; exact XS.imul X.here hx rfl (hb hby hd) rfl kk) K
theorem Go.ishl {x y' : Int32} (hd : decode bytes pc = .ok (.ishl, 1)) (q : pc + 1 = pc') (K : Go l Z y bytes mx rt R EL n0 w Q h kc ks SL pc' L (.int (x <<< (y' &&& 31)) :: S)) : Go l Z y bytes mx rt R EL n0 w Q h kc ks SL pc L (.int y' :: .int x :: S) := Go.st (fun W t kk => by obtain ⟨⟨hx, hby, -⟩, _, _, X, -⟩ := W; subst q; exact XS.ishl X.here hx rfl (hb hby hd) rfl kk) K
theorem Go.ishr {x y' : Int32} (hd : decode bytes pc = .ok (.ishr, 1)) (q : pc + 1 = pc') (K : Go l Z y bytes mx rt R EL n0 w Q h kc ks SL pc' L (.int (x >>> (y' &&& 31)) :: S)) : Go l Z y bytes mx rt R EL n0 w Q h kc ks SL pc L (.int y' :: .int x :: S) := Go.st (fun W t kk => by obtain ⟨⟨hx, hby, -⟩, _, _, X, -⟩ := W; subst q; exact XS.ishr X.here hx rfl (hb hby hd) rfl kk) K
theorem Go.iushr {x y' : Int32} (hd : decode bytes pc = .ok (.iushr, 1)) (q : pc + 1 = pc') (K : Go l Z y bytes mx rt R EL n0 w Q h kc ks SL pc' L (.int (usr x y') :: S)) : Go l Z y bytes mx rt R EL n0 w Q h kc ks SL pc L (.int y' :: .int x :: S) := Go.st (fun W t kk => by obtain ⟨⟨hx, hby, -⟩, _, _, X, -⟩ := W; subst q; exact XS.iushr X.here hx rfl (hb hby hd) rfl kk) K
theorem Go.ladd {x y' : Int64} (hd : decode bytes pc = .ok (.ladd, 1)) (q : pc + 1 = pc') (K : Go l Z y bytes mx rt R EL n0 w Q h kc ks SL pc' L (.long (x + y') :: S)) : Go l Z y bytes mx rt R EL n0 w Q h kc ks SL pc L (.long y' :: .long x :: S) := Go.st (fun W t kk => by obtain ⟨⟨hx, hby, -⟩, _, _, X, -⟩ := W; subst q; exact XS.ladd X.here hx rfl (hb hby hd) rfl kk) K
theorem Go.lsub {x y' : Int64} (hd : decode bytes pc = .ok (.lsub, 1)) (q : pc + 1 = pc') (K : Go l Z y bytes mx rt R EL n0 w Q h kc ks SL pc' L (.long (x - y') :: S)) : Go l Z y bytes mx rt R EL n0 w Q h kc ks SL pc L (.long y' :: .long x :: S) := Go.st (fun W t kk => by obtain ⟨⟨hx, hby, -⟩, _, _, X, -⟩ := W; subst q; exact XS.lsub X.here hx rfl (hb hby hd) rfl kk) K
theorem Go.land {x y' : Int64} (hd : decode bytes pc = .ok (.land, 1)) (q : pc + 1 = pc') (K : Go l Z y bytes mx rt R EL n0 w Q h kc ks SL pc' L (.long (x &&& y') :: S)) : Go l Z y bytes mx rt R EL n0 w Q h kc ks SL pc L (.long y' :: .long x :: S) := Go.st (fun W t kk => by obtain ⟨⟨hx, hby, -⟩, _, _, X, -⟩ := W; subst q; exact XS.land X.here hx rfl (hb hby hd) rfl kk) K
theorem Go.lor {x y' : Int64} (hd : decode bytes pc = .ok (.lor, 1)) (q : pc + 1 = pc') (K : Go l Z y bytes mx rt R EL n0 w Q h kc ks SL pc' L (.long (x ||| y') :: S)) : Go l Z y bytes mx rt R EL n0 w Q h kc ks SL pc L (.long y' :: .long x :: S) := Go.st (fun W t kk => by obtain ⟨⟨hx, hby, -⟩, _, _, X, -⟩ := W; subst q; exact XS.lor X.here hx rfl (hb hby hd) rfl kk) K
theorem Go.lxor {x y' : Int64} (hd : decode bytes pc = .ok (.lxor, 1)) (q : pc + 1 = pc') (K : Go l Z y bytes mx rt R EL n0 w Q h kc ks SL pc' L (.long (x ^^^ y') :: S)) : Go l Z y bytes mx rt R EL n0 w Q h kc ks SL pc L (.long y' :: .long x :: S) := Go.st (fun W t kk => by obtain ⟨⟨hx, hby, -⟩, _, _, X, -⟩ := W; subst q; exact XS.lxor X.here hx rfl (hb hby hd) rfl kk) K
theorem Go.lmul {x y' : Int64} (hd : decode bytes pc = .ok (.lmul, 1)) (q : pc + 1 = pc') (K : Go l Z y bytes mx rt R EL n0 w Q h kc ks SL pc' L (.long (x * y') :: S)) : Go l Z y bytes mx rt R EL n0 w Q h kc ks SL pc L (.long y' :: .long x :: S) := Go.st (fun W t kk => by obtain ⟨⟨hx, hby, -⟩, _, _, X, -⟩ := W; subst q; exact XS.lmul X.here hx rfl (hb hby hd) rfl kk) K
theorem Go.irem {x y' : Int32} (hd : decode bytes pc = .ok (.irem, 1)) (hy : y' ≠ 0) (q : pc + 1 = pc') (K : Go l Z y bytes mx rt R EL n0 w Q h kc ks SL pc' L (.int (x % y') :: S)) : Go l Z y bytes mx rt R EL n0 w Q h kc ks SL pc L (.int y' :: .int x :: S) := Go.st (fun W t kk => by obtain ⟨⟨hx, hby, -⟩, _, _, X, -⟩ := W; subst q; exact iremM X hx rfl (hb hby hd) rfl hy kk) K
theorem Go.idiv {x y' : Int32} (hd : decode bytes pc = .ok (.idiv, 1)) (hy : y' ≠ 0) (q : pc + 1 = pc') (K : Go l Z y bytes mx rt R EL n0 w Q h kc ks SL pc' L (.int (x / y') :: S)) : Go l Z y bytes mx rt R EL n0 w Q h kc ks SL pc L (.int y' :: .int x :: S) := Go.st (fun W t kk => by obtain ⟨⟨hx, hby, -⟩, _, _, X, -⟩ := W; subst q; exact XS.idiv X.here hx rfl (hb hby hd) rfl hy kk) K
theorem Go.ineg {x : Int32} (hd : decode bytes pc = .ok (.ineg, 1)) (q : pc + 1 = pc') (K : Go l Z y bytes mx rt R EL n0 w Q h kc ks SL pc' L (.int (-x) :: S)) : Go l Z y bytes mx rt R EL n0 w Q h kc ks SL pc L (.int x :: S) := Go.st (fun W t kk => by obtain ⟨⟨hx, hby, -⟩, _, _, X, -⟩ := W; subst q; exact XS.ineg X.here hx rfl (hb hby hd) rfl kk) K
theorem Go.lcmp {x y' : Int64} (hd : decode bytes pc = .ok (.lcmp, 1)) (q : pc + 1 = pc') (K : Go l Z y bytes mx rt R EL n0 w Q h kc ks SL pc' L (.int (lcmpW x y') :: S)) : Go l Z y bytes mx rt R EL n0 w Q h kc ks SL pc L (.long y' :: .long x :: S) := Go.st (fun W t kk => by obtain ⟨⟨hx, hby, -⟩, _, _, X, -⟩ := W; subst q; exact XS.lcmp X.here hx rfl (hb hby hd) rfl kk) K
theorem Go.dup {x : Value} (hd : decode bytes pc = .ok (.dup, 1)) (hc : x.category = 1) (q : pc + 1 = pc') (K : Go l Z y bytes mx rt R EL n0 w Q h kc ks SL pc' L (x :: x :: S)) : Go l Z y bytes mx rt R EL n0 w Q h kc ks SL pc L (x :: S) := Go.st (fun W t kk => by obtain ⟨⟨hx, hby, -⟩, _, _, X, -⟩ := W; subst q; exact XS.dup X.here hx rfl (hb hby hd) rfl hc kk) K
theorem Go.dupX1 {x x2 : Value} (hd : decode bytes pc = .ok (.dup_x1, 1)) (hc : x.category = 1) (hc' : x2.category = 1) (q : pc + 1 = pc') (K : Go l Z y bytes mx rt R EL n0 w Q h kc ks SL pc' L (x :: x2 :: x :: S)) : Go l Z y bytes mx rt R EL n0 w Q h kc ks SL pc L (x :: x2 :: S) := Go.st (fun W t kk => by obtain ⟨⟨hx, hby, -⟩, _, _, X, -⟩ := W; subst q; exact XS.dupX1 X.here hx rfl (hb hby hd) rfl hc hc' kk) K
theorem Go.pop {x : Value} (hd : decode bytes pc = .ok (.pop, 1)) (hc : x.category = 1) (q : pc + 1 = pc') (K : Go l Z y bytes mx rt R EL n0 w Q h kc ks SL pc' L S) : Go l Z y bytes mx rt R EL n0 w Q h kc ks SL pc L (x :: S) := Go.st (fun W t kk => by obtain ⟨⟨hx, hby, -⟩, _, _, X, -⟩ := W; subst q; exact XS.pop X.here hx rfl (hb hby hd) rfl hc kk) K
theorem Go.iinc {k : Nat} {cst : Int} {x : Int32} (z : Int32) (L' : Array Slot) (hd : decode bytes pc = .ok (.iinc k cst, 3)) (hl : L[k]? = some (.val (.int x))) (hz : x + Int32.ofInt cst = z) (hl' : storeLocals L k (.int z) = some L') (q : pc + 3 = pc') (K : Go l Z y bytes mx rt R EL n0 w Q h kc ks SL pc' L' S) : Go l Z y bytes mx rt R EL n0 w Q h kc ks SL pc L S := Go.st (fun W t kk => by obtain ⟨⟨hx, hby, -⟩, _, _, X, -⟩ := W; subst q; subst hz; exact XS.iinc X.here hx rfl (hb hby hd) hl hl' kk) K
theorem Go.i2b {x : Int32} (hd : decode bytes pc = .ok (.i2b, 1)) (q : pc + 1 = pc') (K : Go l Z y bytes mx rt R EL n0 w Q h kc ks SL pc' L (.int (x.toInt8.toInt32) :: S)) : Go l Z y bytes mx rt R EL n0 w Q h kc ks SL pc L (.int x :: S) := Go.st (fun W t kk => by obtain ⟨⟨hx, hby, -⟩, _, _, X, -⟩ := W; subst q; exact XS.i2b X.here hx rfl (hb hby hd) rfl kk) K
theorem Go.i2c {x : Int32} (hd : decode bytes pc = .ok (.i2c, 1)) (q : pc + 1 = pc') (K : Go l Z y bytes mx rt R EL n0 w Q h kc ks SL pc' L (.int (nar .char x) :: S)) : Go l Z y bytes mx rt R EL n0 w Q h kc ks SL pc L (.int x :: S) := Go.st (fun W t kk => by obtain ⟨⟨hx, hby, -⟩, _, _, X, -⟩ := W; subst q; exact XS.i2c X.here hx rfl (hb hby hd) rfl kk) K
theorem Go.i2s {x : Int32} (hd : decode bytes pc = .ok (.i2s, 1)) (q : pc + 1 = pc') (K : Go l Z y bytes mx rt R EL n0 w Q h kc ks SL pc' L (.int (x.toInt16.toInt32) :: S)) : Go l Z y bytes mx rt R EL n0 w Q h kc ks SL pc L (.int x :: S) := Go.st (fun W t kk => by obtain ⟨⟨hx, hby, -⟩, _, _, X, -⟩ := W; subst q; exact XS.i2s X.here hx rfl (hb hby hd) rfl kk) K
theorem Go.i2l {x : Int32} (hd : decode bytes pc = .ok (.i2l, 1)) (q : pc + 1 = pc') (K : Go l Z y bytes mx rt R EL n0 w Q h kc ks SL pc' L (.long x.toInt64 :: S)) : Go l Z y bytes mx rt R EL n0 w Q h kc ks SL pc L (.int x :: S) := Go.st (fun W t kk => by obtain ⟨⟨hx, hby, -⟩, _, _, X, -⟩ := W; subst q; exact XS.i2l X.here hx rfl (hb hby hd) rfl kk) K
theorem Go.l2i {x : Int64} (hd : decode bytes pc = .ok (.l2i, 1)) (q : pc + 1 = pc') (K : Go l Z y bytes mx rt R EL n0 w Q h kc ks SL pc' L (.int x.toInt32 :: S)) : Go l Z y bytes mx rt R EL n0 w Q h kc ks SL pc L (.long x :: S) := Go.st (fun W t kk => by obtain ⟨⟨hx, hby, -⟩, _, _, X, -⟩ := W; subst q; exact XS.l2i X.here hx rfl (hb hby hd) rfl kk) K
theorem Go.goto {o : Int} (hd : decode bytes pc = .ok (.goto o, 3)) (ho : 0 ≤ (pc : Int) + o) (hp : ((pc : Int) + o).toNat = pc') (K : Go l Z y bytes mx rt R EL n0 w Q h kc ks SL pc' L S) : Go l Z y bytes mx rt R EL n0 w Q h kc ks SL pc L S := Go.st (fun W t kk => by obtain ⟨⟨hx, hby, -⟩, _, _, X, -⟩ := W; exact XS.goto X.here hx rfl rfl (hb hby hd) ho hp kk) K
theorem Go.ifT {cd : ClassFile.Cond} {x : Int32} {o : Int} (hd : decode bytes pc = .ok (.ifCond cd o, 3)) (hc : cP cd x 0) (ho : 0 ≤ (pc : Int) + o) (hp : ((pc : Int) + o).toNat = pc') (K : Go l Z y bytes mx rt R EL n0 w Q h kc ks SL pc' L S) : Go l Z y bytes mx rt R EL n0 w Q h kc ks SL pc L (.int x :: S) := Go.st (fun W t kk => by obtain ⟨⟨hx, hby, -⟩, _, _, X, -⟩ := W; exact XS.ifYes X.here hx rfl rfl (hb hby hd) rfl (if_t hc) ho hp kk) K
theorem Go.ifF {cd : ClassFile.Cond} {x : Int32} {o : Int} (hd : decode bytes pc = .ok (.ifCond cd o, 3)) (hc : cP (cneg cd) x 0) (q : pc + 3 = pc') (K : Go l Z y bytes mx rt R EL n0 w Q h kc ks SL pc' L S) : Go l Z y bytes mx rt R EL n0 w Q h kc ks SL pc L (.int x :: S) := Go.st (fun W t kk => by obtain ⟨⟨hx, hby, -⟩, _, _, X, -⟩ := W; subst q; exact XS.ifNo X.here hx rfl (hb hby hd) rfl (if_f hc) kk) K
theorem Go.icmpT {cd : ClassFile.Cond} {x x2 : Int32} {o : Int} (hd : decode bytes pc = .ok (.if_icmp cd o, 3)) (hc : cP cd x x2) (ho : 0 ≤ (pc : Int) + o) (hp : ((pc : Int) + o).toNat = pc') (K : Go l Z y bytes mx rt R EL n0 w Q h kc ks SL pc' L S) : Go l Z y bytes mx rt R EL n0 w Q h kc ks SL pc L (.int x2 :: .int x :: S) := Go.st (fun W t kk => by obtain ⟨⟨hx, hby, -⟩, _, _, X, -⟩ := W; exact XS.icmpYes X.here hx rfl rfl (hb hby hd) rfl (ic_t hc) ho hp kk) K
theorem Go.icmpF {cd : ClassFile.Cond} {x x2 : Int32} {o : Int} (hd : decode bytes pc = .ok (.if_icmp cd o, 3)) (hc : cP (cneg cd) x x2) (q : pc + 3 = pc') (K : Go l Z y bytes mx rt R EL n0 w Q h kc ks SL pc' L S) : Go l Z y bytes mx rt R EL n0 w Q h kc ks SL pc L (.int x2 :: .int x :: S) := Go.st (fun W t kk => by obtain ⟨⟨hx, hby, -⟩, _, _, X, -⟩ := W; subst q; exact XS.icmpNo X.here hx rfl (hb hby hd) rfl (ic_f hc) kk) K
theorem Go.ifnullT {o : Int} (hd : decode bytes pc = .ok (.ifnull o, 3)) (ho : 0 ≤ (pc : Int) + o) (hp : ((pc : Int) + o).toNat = pc') (K : Go l Z y bytes mx rt R EL n0 w Q h kc ks SL pc' L S) : Go l Z y bytes mx rt R EL n0 w Q h kc ks SL pc L (.null :: S) := Go.st (fun W t kk => by obtain ⟨⟨hx, hby, -⟩, _, _, X, -⟩ := W; exact XS.ifnullYes X.here hx rfl rfl (hb hby hd) rfl ho hp kk) K
theorem Go.ifnullF {o : Int} {b : Addr} (hd : decode bytes pc = .ok (.ifnull o, 3)) (q : pc + 3 = pc') (K : Go l Z y bytes mx rt R EL n0 w Q h kc ks SL pc' L S) : Go l Z y bytes mx rt R EL n0 w Q h kc ks SL pc L (.ref b :: S) := Go.st (fun W t kk => by obtain ⟨⟨hx, hby, -⟩, _, _, X, -⟩ := W; subst q; exact XS.ifnullNo X.here hx rfl (hb hby hd) rfl kk) K
theorem Go.ifnonnullT {o : Int} {b : Addr} (hd : decode bytes pc = .ok (.ifnonnull o, 3)) (ho : 0 ≤ (pc : Int) + o) (hp : ((pc : Int) + o).toNat = pc') (K : Go l Z y bytes mx rt R EL n0 w Q h kc ks SL pc' L S) : Go l Z y bytes mx rt R EL n0 w Q h kc ks SL pc L (.ref b :: S) := Go.st (fun W t kk => by obtain ⟨⟨hx, hby, -⟩, _, _, X, -⟩ := W; exact XS.ifnonnullYes X.here hx rfl rfl (hb hby hd) rfl ho hp kk) K
theorem Go.ifnonnullF {o : Int} (hd : decode bytes pc = .ok (.ifnonnull o, 3)) (q : pc + 3 = pc') (K : Go l Z y bytes mx rt R EL n0 w Q h kc ks SL pc' L S) : Go l Z y bytes mx rt R EL n0 w Q h kc ks SL pc L (.null :: S) := Go.st (fun W t kk => by obtain ⟨⟨hx, hby, -⟩, _, _, X, -⟩ := W; subst q; exact XS.ifnonnullNo X.here hx rfl (hb hby hd) rfl kk) K
theorem Go.acmp {cd : ClassFile.ACond} {x x2 : Value} {o : Int} (same : Bool) (hd : decode bytes pc = .ok (.if_acmp cd o, 3)) (h1 : x.isRef = true) (h2 : x2.isRef = true) (hq : decide (x = x2) = same) (ho : 0 ≤ (pc : Int) + o) (hp : pc' = if acV cd same = true then ((pc : Int) + o).toNat else pc + 3) (K : Go l Z y bytes mx rt R EL n0 w Q h kc ks SL pc' L S) : Go l Z y bytes mx rt R EL n0 w Q h kc ks SL pc L (x2 :: x :: S) := Go.st (fun W t kk => by obtain ⟨⟨hx, hby, -⟩, _, _, X, -⟩ := W; exact RoadKit.acmp X hx rfl h1 h2 rfl (hb hby hd) rfl hq ho hp kk) K
theorem Go.st1 {n : Nat} (q : pc + n = pc') (hst : ∀ {p : Program} {e : Env} {s : State} {m : MethodId} {args : Array Value} {below : List Frame} {meth : Method} {c : Code} {T : State} {locs : List Loc}, Stand p l e R (s.setVm T.vm) m args below meth c T locs kc ks → T.heap = h → p.tables.exec = Jvm.exec → c.code = bytes → Z.Warmed39 T.vm → T.vm.findClass y.cls = some m.cls → ∀ t, Steps p.tables e below (T.setTop (mkF m (pc + n) L' S')) t → Steps p.tables e below (T.setTop (mkF m pc L S)) t)
    (K : Go l Z y bytes mx rt R EL n0 w Q h kc ks SL pc' L' S') : Go l Z y bytes mx rt R EL n0 w Q h kc ks SL pc L S := by
  subst q
  exact Go.st (fun W t kk => by
    obtain ⟨⟨hx, hby, -⟩, _, _, X, e1, -, -, hZ, hown, -⟩ := W
    exact hst X e1 hx hby hZ hown t kk) K
/-- both ways of a branch -/
theorem Go.icmp {cd : ClassFile.Cond} {x x2 : Int32} {o : Int} (hd : decode bytes pc = .ok (.if_icmp cd o, 3)) (ho : 0 ≤ (pc : Int) + o) (hp : ((pc : Int) + o).toNat = pc') (q : pc + 3 = pc'') (Kt : cP cd x x2 → Go l Z y bytes mx rt R EL n0 w Q h kc ks SL pc' L S) (Kf : cP (cneg cd) x x2 → Go l Z y bytes mx rt R EL n0 w Q h kc ks SL pc'' L S) : Go l Z y bytes mx rt R EL n0 w Q h kc ks SL pc L (.int x2 :: .int x :: S) :=
  (cP_em cd x x2).elim (fun hc => Go.icmpT hd hc ho hp (Kt hc)) (fun hc => Go.icmpF hd hc q (Kf hc))
theorem Go.ifc {cd : ClassFile.Cond} {x : Int32} {o : Int} (hd : decode bytes pc = .ok (.ifCond cd o, 3)) (ho : 0 ≤ (pc : Int) + o) (hp : ((pc : Int) + o).toNat = pc') (q : pc + 3 = pc'') (Kt : cP cd x 0 → Go l Z y bytes mx rt R EL n0 w Q h kc ks SL pc' L S) (Kf : cP (cneg cd) x 0 → Go l Z y bytes mx rt R EL n0 w Q h kc ks SL pc'' L S) : Go l Z y bytes mx rt R EL n0 w Q h kc ks SL pc L (.int x :: S) :=
  (cP_em cd x 0).elim (fun hc => Go.ifT hd hc ho hp (Kt hc)) (fun hc => Go.ifF hd hc q (Kf hc))
theorem Go.ldcI {index : Nat} {z : Int32} (hd : decode bytes pc = .ok (.ldc index, 2)) (wd : (Jvm.Cond.constant y.cls index z).before a1 Z = true) (q : pc + 2 = pc') (K : Go l Z y bytes mx rt R EL n0 w Q h kc ks SL pc' L (.int z :: S)) : Go l Z y bytes mx rt R EL n0 w Q h kc ks SL pc L S :=
  Go.st1 q (fun X e1 hx hby hZ hown t kk => X.ldcInt hx hown (mv (s := State.setVm _ _) hZ wd) (g := mkF _ pc L S) rfl (hb hby hd) t kk) K
theorem Go.ldc2J {index : Nat} {z : Int64} (hd : decode bytes pc = .ok (.ldc2_w index, 3)) (wd : (Jvm.Cond.constantLong y.cls index z).before a1 Z = true) (q : pc + 3 = pc') (K : Go l Z y bytes mx rt R EL n0 w Q h kc ks SL pc' L (.long z :: S)) : Go l Z y bytes mx rt R EL n0 w Q h kc ks SL pc L S :=
  Go.st1 q (fun X e1 hx hby hZ hown t kk => X.ldc2Long hx hown (mv (s := State.setVm _ _) hZ wd) (g := mkF _ pc L S) rfl (hb hby hd) t kk) K
theorem Go.getF {R0 O n d host : String} {index : Nat} {a : Addr} {v : Value} (hd : decode bytes pc = .ok (.getfield index, 3)) (wd : (Jvm.Cond.fieldLink y.cls index R0 n d).before a1 Z = true ∨ (Jvm.Cond.fieldLinkNest y.cls index R0 n d host).before a1 Z = true) (via : Via Z R0 O n d) (F : Fld Z h a O n d v) (q : pc + 3 = pc')
    (K : Go l Z y bytes mx rt R EL n0 w Q h kc ks SL pc' L (v :: S)) : Go l Z y bytes mx rt R EL n0 w Q h kc ks SL pc L (.ref a :: S) := by
  intro p e s m args below meth c T W
  subst q
  have W0 := W
  obtain ⟨⟨hx, hby, -⟩, k0, locs, X, e1, -, -, hZ, hown, hC, N, -, hSf⟩ := W
  obtain ⟨T', X', e', st⟩ := RoadKit.getF X hx hZ hown wd via e1 F (g := mkF m pc L (.ref a :: S)) rfl rfl (hb hby hd)
  obtain ⟨s₂, o, st2, r⟩ := K p e s m args below meth c T' (W0.next X' e' (CHr.refl hC.1) N hSf)
  exact ⟨s₂, o, st _ st2, r⟩
theorem Go.getS {R0 O n d host : String} {index : Nat} {v : Value} (hd : decode bytes pc = .ok (.getstatic index, 3)) (wd : (Jvm.Cond.fieldLink y.cls index R0 n d).before a1 Z = true ∨ (Jvm.Cond.fieldLinkNest y.cls index R0 n d host).before a1 Z = true) (via : Via Z R0 O n d) (F : Sta Z h O n d v) (q : pc + 3 = pc')
    (K : Go l Z y bytes mx rt R EL n0 w Q h kc ks SL pc' L (v :: S)) : Go l Z y bytes mx rt R EL n0 w Q h kc ks SL pc L S := by
  intro p e s m args below meth c T W
  subst q
  have W0 := W
  obtain ⟨⟨hx, hby, -⟩, k0, locs, X, e1, -, -, hZ, hown, hC, N, -, hSf⟩ := W
  obtain ⟨T', X', e', st⟩ := RoadKit.getS2 X hx hZ hown wd via e1 F (g := mkF m pc L S) rfl (hb hby hd)
  obtain ⟨s₂, o, st2, r⟩ := K p e s m args below meth c T' (W0.next X' e' (CHr.refl hC.1) N hSf)
  exact ⟨s₂, o, st _ st2, r⟩
/-- the cell at a is no literal's -/
def Sf (Z : State) (EL : List (String × Nat)) (SL : List Addr) (h : Heap) (a : Addr) : Prop := ∀ vm, Z.Warmed39 vm → Sfs Z EL vm h SL → Safe Z EL vm h a
theorem Sf.exa {a : Addr} {C : String} (E : Exa Z h a C) (h1 : C ≠ "java/lang/String") (h2 : C ≠ "[B") : Sf Z EL SL h a := fun vm hZ _ => Safe.exa hZ.alike E h1 h2
theorem Sf.mem {a : Addr} (hm : a ∈ SL) : Sf Z EL SL h a := fun vm _ F => (F a hm).2
theorem Sf.nil {a : Addr} : Sf Z [] SL h a := fun vm _ _ B => by obtain ⟨p, hp, -⟩ := B; cases hp
theorem Sf.arr {a : Addr} {cl : Cell} {ty : FieldType} (A : Arr Z h a cl ty) (ht : ty ≠ .byte) : Sf Z EL SL h a := fun vm hZ _ => Safe.arr hZ.alike A ht
theorem Go.putF {R0 O n d host C : String} {index kk : Nat} {ty : FieldType} {a : Addr} {v old : Value} (hd : decode bytes pc = .ok (.putfield index, 3)) (wd : (Jvm.Cond.fieldLink y.cls index R0 n d).before a1 Z = true ∨ (Jvm.Cond.fieldLinkNest y.cls index R0 n d host).before a1 Z = true) (via : Via Z R0 O n d) (F : Fld Z h a O n d old) (E : Exa Z h a C)
    (Ly : (Jvm.Cond.lays C O n d).before a1 Z = true ∨ ((Jvm.Cond.laysFinal C O n d).before a1 Z = true ∧ y.cls = O ∧ y.name = "<init>")) (wi : (Jvm.Cond.instantiable C kk).before a1 Z = true) (hty : parseFieldDescriptor d = some ty) (hn : narrow ty v = v) (hf : fits ty v = true) (hsafe : Sf Z EL SL h a) (ha : n0 ≤ a) (q : pc + 3 = pc')
    (K : ∀ h', Wr h h' a (RoadKit.slotOf Z O n d) v → Go l Z y bytes mx rt R EL n0 w Q h' kc ks SL pc' L S) : Go l Z y bytes mx rt R EL n0 w Q h kc ks SL pc L (v :: .ref a :: S) := by
  intro p e s m args below meth c T W
  subst q
  have W0 := W
  obtain ⟨⟨hx, hby, -, -, -, hnm, -⟩, k0, locs, X, e1, -, -, hZ, hown, hC, N, -, hSf⟩ := W
  obtain ⟨T', h', X', e', Wr', st⟩ := RoadKit.putF X hx hZ hown wd via e1 F E (Ly.imp id fun q => ⟨q.1, q.2.1, hnm.trans q.2.2⟩) wi hty hn hf (g := mkF m pc L (v :: .ref a :: S)) rfl rfl (hb hby hd)
  have A := CHr.wr Wr' (hsafe _ hZ hSf) hC.1
  obtain ⟨s₂, o, st2, r⟩ := K h' Wr' p e s m args below meth c T' (W0.next X' e' A (Fr.snoc X' N ha) (hSf.chr A))
  exact ⟨s₂, o, st _ st2, r⟩
theorem Go.newO {C : String} {index n : Nat} (hd : decode bytes pc = .ok (.new index, 3)) (wd : (Jvm.Cond.classLink y.cls index C).before a1 Z = true) (wi : (Jvm.Cond.instantiable C n).before a1 Z = true) (wz : (Jvm.Cond.initialized C).before a1 Z = true) (hc : kc + 1 ≤ R.cells) (hl : ks + n ≤ R.slots) (q : pc + 3 = pc')
    (K : ∀ (a : Addr) (h' : Heap), a = h.size → Ext h h' → Exa Z h' a C → (∀ {O nm d : String} {ty : FieldType}, Laid Z a1 C O nm d → parseFieldDescriptor d = some ty → Fld Z h' a O nm d (defaultValue ty)) → Go l Z y bytes mx rt R EL n0 w Q h' (kc + 1) (ks + n) (a :: SL) pc' L (.ref a :: S)) : Go l Z y bytes mx rt R EL n0 w Q h kc ks SL pc L S := by
  intro p e s m args below meth c T W
  subst q
  have W0 := W
  obtain ⟨⟨hx, hby, -⟩, k0, locs, X, e1, -, -, hZ, hown, hC, N, -, hSf⟩ := W
  obtain ⟨T', h', X', e', E, A, D, -, st⟩ := RoadKit.newO X hx hZ hown wd wi wz e1 (g := mkF m pc L S) rfl (hb hby hd) hc hl
  have B := CHr.ext (vm := T.vm) (EL := EL) (Z := Z) E hC.1
  have hS2 : Sfs Z EL T.vm h' (h.size :: SL) := fun x hx' => by
    rcases List.mem_cons.mp hx' with rfl | q
    · exact ⟨A.lt, Safe.ext E hC.1 (Safe.new (Nat.le_refl _))⟩
    · exact hSf.chr B x q
  obtain ⟨s₂, o, st2, r⟩ := K h.size h' rfl E A D p e s m args below meth c T' (W0.next X' e' B N hS2)
  exact ⟨s₂, o, st _ st2, r⟩
theorem Go.newP {aty : ArrayType} {n : Int32} (cap : Nat) (hd : decode bytes pc = .ok (.newarray aty, 2)) (wd : (Jvm.Cond.arrayClass (newarray.typeOf aty)).before a1 Z = true) (hn : ¬ n < 0) (hcap : n.toNatClampNeg ≤ cap) (hb' : cap * 8 ≤ 536870912) (hc : kc + 1 ≤ R.cells) (hl : ks + cap ≤ R.slots) (q : pc + 2 = pc')
    (K : ∀ (a : Addr) (h' : Heap) (cA : ClassId), a = h.size → Ext h h' → Arr Z h' a (newA cA (newarray.typeOf aty) n) (newarray.typeOf aty) → Go l Z y bytes mx rt R EL n0 w Q h' (kc + 1) (ks + cap) (a :: SL) pc' L (.ref a :: S)) : Go l Z y bytes mx rt R EL n0 w Q h kc ks SL pc L (.int n :: S) := by
  intro p e s m args below meth c T W
  subst q
  have W0 := W
  obtain ⟨⟨hx, hby, -⟩, k0, locs, X, e1, -, -, hZ, hown, hC, N, -, hSf⟩ := W
  obtain ⟨T', h', cA, X', e', E, A, st⟩ := RoadKit.newP X hx hZ wd e1 (g := mkF m pc L (.int n :: S)) rfl (hb hby hd) rfl hn hcap hb' hc hl
  have B := CHr.ext (vm := T.vm) (EL := EL) (Z := Z) E hC.1
  have hS2 : Sfs Z EL T.vm h' (h.size :: SL) := fun x hx' => by
    rcases List.mem_cons.mp hx' with rfl | q
    · exact ⟨A.lt, Safe.ext E hC.1 (Safe.new (Nat.le_refl _))⟩
    · exact hSf.chr B x q
  obtain ⟨s₂, o, st2, r⟩ := K h.size h' cA rfl E A p e s m args below meth c T' (W0.next X' e' B N hS2)
  exact ⟨s₂, o, st _ st2, r⟩
theorem Go.initO {index : Nat} {a : Addr} (hd : decode bytes pc = .ok (.invokespecial index, 3)) (w1 : (Jvm.Cond.methodLink y.cls index Lib.objectInit).before a1 Z = true) (w2 : (Jvm.Cond.instanceMethod Lib.objectInit).before a1 Z = true) (w3 : (Jvm.Cond.code Lib.objectInit ⟨#[0xb1]⟩ 1 none).before a1 Z = true) (hL : L.size = mx) (hf : 1 ≤ R.frames) (Wd : Nat) (hW : (S.map fun v => v.category).sum = Wd) (hl : Wd + 12 ≤ R.locals) (q : pc + 3 = pc')
    (K : Go l Z y bytes mx rt R EL n0 w Q h kc ks SL pc' L S) : Go l Z y bytes mx rt R EL n0 w Q h kc ks SL pc L (.ref a :: S) := by
  intro p e s m args below meth c T W
  subst q
  have W0 := W
  obtain ⟨⟨hx, hby, hml, -⟩, k0, locs, X, e1, -, -, hZ, hown, hC, N, -, hSf⟩ := W
  obtain ⟨T', X', e', st⟩ := RoadKit.initO X hx hZ hown w1 w2 w3 e1 (g := mkF m pc L (.ref a :: S)) rfl (hL.trans hml.symm) rfl (hb hby hd) hf (W := Wd) (by show 2 * 0 + _ ≤ _; omega) hl
  obtain ⟨s₂, o, st2, r⟩ := K p e s m args below meth c T' (W0.next X' e' (CHr.refl hC.1) N hSf)
  exact ⟨s₂, o, st _ st2, r⟩
/-- a String constant, unread -/
theorem Go.ldcO {index : Nat} {text : String} (n : Nat) (hd : decode bytes pc = .ok (.ldc index, 2)) (hw : w = true) (wd : (Jvm.Cond.stringLink y.cls index text).before a1 Z = true) (wS : ∀ d ∈ Bundle.stringAtoms, d.before a1 Z = true) (hn : 4 * text.toList.length ≤ n) (hbig : n ≤ 536870912) (hc : kc + 2 ≤ R.cells) (hl : ks + (n + 4) ≤ R.slots) (q : pc + 2 = pc') (hEL : EW Z a1 EL)
    (K : ∀ (a : Addr) (h' : Heap), Ext h h' → Go l Z y bytes mx rt R EL n0 w Q h' (kc + 2) (ks + (n + 4)) SL pc' L (.ref a :: S)) : Go l Z y bytes mx rt R EL n0 w Q h kc ks SL pc L S := by
  intro p e s m args below meth c T W
  subst q
  have W0 := W
  obtain ⟨⟨hx, hby, -⟩, k0, locs, X, e1, hS, hk, hZ, hown, hC, N, -, hSf⟩ := W
  obtain ⟨a, T', h', k1, X', e', E, hS', hk', hZ', hown', hC', -, st⟩ := RoadKit.ldcOH (s := s.setVm T.vm) (vm0 := T.vm) X hx hZ hown wd wS e1 (k0 := h.size) ((State.WarmedH.refl _).since _) (Nat.le_refl _) hEL hC.1 (g := mkF m pc L S) rfl (hb hby hd) hn hbig hc hl
  have hS2 : (s.setVm T.vm).Since T'.vm h'.size := ⟨hS'.1, fun j p hj hp => by obtain ⟨z1, z2⟩ := hS'.2 j p hj hp; exact ⟨z1, Nat.lt_of_lt_of_le z2 hk'⟩⟩
  obtain ⟨s₂, o, st2, r⟩ := K a h' E p e s m args below meth c T' (W0.nextS X' e' hS2 E.1 (Nat.le_refl _) hC' N (fun q => by rw [hw] at q; cases q) (hSf.chr hC'))
  exact ⟨s₂, o, st _ st2, r⟩
/-- a String constant, read -/
theorem Go.ldcR {index : Nat} {text : String} (n : Nat) {vs : List Value} {z : Int32} (hd : decode bytes pc = .ok (.ldc index, 2)) (hw : w = true) (wd : (Jvm.Cond.stringLink y.cls index text).before a1 Z = true) (wS : ∀ d ∈ Bundle.stringAtoms, d.before a1 Z = true) (hn : 4 * text.toList.length ≤ n) (hbig : n ≤ 536870912) (hc : kc + 2 ≤ R.cells) (hl : ks + (n + 4) ≤ R.slots) (q : pc + 2 = pc') (hEL : EW Z a1 EL) (hmem : (y.cls, index) ∈ EL)
    (ht : (∀ c ∈ text.toList, c.toNat < 256) ∧ text.toList.map (fun c => Value.int (Jvm.Lit.byteI c.toNat.toUInt16)) = vs) (hz : ¬ z < 0) (hzl : z.toNatClampNeg = vs.length)
    (K : ∀ (a : Addr) (h' : Heap) (b : Addr) (k : ClassId), Ext h h' → Exa Z h' a "java/lang/String" → Fld Z h' a "java/lang/String" "coder" "B" (.int 0) → Fld Z h' a "java/lang/String" "value" "[B" (.ref b) → Arv Z h' b k .byte z vs (.int 0) → (∀ x ∈ SL, x ≠ a ∧ x ≠ b) → Go l Z y bytes mx rt R EL n0 w Q h' (kc + 2) (ks + (n + 4)) SL pc' L (.ref a :: S)) : Go l Z y bytes mx rt R EL n0 w Q h kc ks SL pc L S := by
  intro p e s m args below meth c T W
  subst q
  have W0 := W
  obtain ⟨⟨hx, hby, -⟩, k0, locs, X, e1, hS, hk, hZ, hown, hC, N, -, hSf⟩ := W
  obtain ⟨a, T', h', k1, b, k, X', e', E, hS', hk', hZ', hown', E1, E2, E3, E4, -, -, hC', -, hne, st⟩ := RoadKit.ldcCH (s := s.setVm T.vm) (vm0 := T.vm) X hx hZ hown wd wS e1 (k0 := h.size) ((State.WarmedH.refl _).since _) (Nat.le_refl _) hEL hmem hC.1 ht hz hzl (g := mkF m pc L S) rfl (hb hby hd) hn hbig hc hl
  have hS2 : (s.setVm T.vm).Since T'.vm h'.size := ⟨hS'.1, fun j p hj hp => by obtain ⟨z1, z2⟩ := hS'.2 j p hj hp; exact ⟨z1, Nat.lt_of_lt_of_le z2 hk'⟩⟩
  obtain ⟨s₂, o, st2, r⟩ := K a h' b k E E1 E2 E3 E4 (fun x hx' => hne x ((hSf.chr hC') x hx').2) p e s m args below meth c T' (W0.nextS X' e' hS2 E.1 (Nat.le_refl _) hC' N (fun q => by rw [hw] at q; cases q) (hSf.chr hC'))
  exact ⟨s₂, o, st _ st2, r⟩
section Calls
variable {z yy : MethodName} {bytesZ : ByteArray} {mxZ : Nat} {rtZ : Option FieldType} {rm : Room} {QZ : Option Value → Heap → List Addr → Prop} {argsL rest : List Value} {index : Nat}
theorem Go.callS (hM : Ct l Z z bytesZ mxZ rtZ rm EL n0 w [] argsL.toArray h SL' QZ) (hd : decode bytes pc = .ok (.invokestatic index, 3)) (w1 : (Jvm.Cond.methodLink y.cls index z).before a1 Z = true) (w2 : (Jvm.Cond.static z).before a1 Z = true) (w3 : (Jvm.Cond.initialized z.cls).before a1 Z = true) (w4 : (Jvm.Cond.code z bytesZ mxZ rtZ).before a1 Z = true)
    (hy : z.cls ≠ "java/lang/invoke/MethodHandle" ∧ z.cls ≠ "java/lang/invoke/VarHandle") (hlen : ∀ sig, parseMethodDescriptor z.desc = some sig → argsL.length = sig.parameters.length) (hst : S = argsL.reverse ++ rest) (Wd : Nat) (hW : (rest.map fun v => v.category).sum = Wd) (hL : L.size = mx) (hf : rm.frames + 1 ≤ R.frames) (hl : Wd + (mxZ + 11) + rm.locals ≤ R.locals) (hc : kc + rm.cells ≤ R.cells) (hs : ks + rm.slots ≤ R.slots) (hSL : ∀ x ∈ SL', x ∈ SL) (q : pc + 3 = pc')
    (K : ∀ v h' N, QZ v h' N → h.size ≤ h'.size → Go l Z y bytes mx rt R EL n0 w Q h' (kc + rm.cells) (ks + rm.slots) (N ++ SL) pc' L (v.toList ++ rest)) : Go l Z y bytes mx rt R EL n0 w Q h kc ks SL pc L S := by
  intro p e s m args below meth c T W
  subst q
  have W0 := W
  obtain ⟨⟨hx, hby, hml, -, -, -, a2, hEW⟩, k0, locs, X, e1, hS, hk, hZ, hown, hC, N, -, hSf⟩ := W
  obtain ⟨v, vm₁, ⟨T', Lt, kt, nt⟩, -, X', hS', hgr, ⟨Ls, N', hQ, hFr, l1, l2, l3, hC', hSf', hw'⟩, st⟩ := RoadKit.callSS X hx hown (mvT (s := s.setVm T.vm) hZ w1) (mvT (s := s.setVm T.vm) hZ w2) (mvT (s := s.setVm T.vm) hZ w3) (mvT (s := s.setVm T.vm) hZ w4) hy (Ct.pay (W := Wd) hM hZ hEW hC.1 (hSf.mono hSL) w4 w3 hf hl) (g := mkF m pc L S) rfl (hL.trans hml.symm) (argsL := argsL) (rest := rest) hlen hst (by show 2 * 0 + _ ≤ _; omega) (hb hby hd) (fun _ _ => ⟨rfl, e1, hc, hs⟩)
  dsimp only [Pt.U, Pt.locs, Pt.cells, Pt.slots] at X' l1 l2 l3 st hQ hC' hSf' hw' hgr hS'
  subst l1 l2 l3
  have hS2 : Sfs Z EL T'.vm T'.heap (N' ++ SL) := fun x hx' => (List.mem_append.mp hx').elim (hSf' x) (hSf.chr hC' x)
  obtain ⟨s₂, o, st2, r⟩ := K v _ N' hQ hC'.2.1 p e s m args below meth c T' (W0.nextS X' rfl hS' hC'.2.1 (Nat.le_refl _) hC' (N.app hFr) hw' hS2)
  exact ⟨s₂, o, st.trans st2, r⟩
theorem Go.callN {a : Addr} (hM : Ct l Z z bytesZ mxZ none rm EL n0 w [] (.ref a :: argsL).toArray h SL' QZ) (hd : decode bytes pc = .ok (.invokespecial index, 3)) (hz1 : z.name = "<init>") (w1 : (Jvm.Cond.methodLink y.cls index z).before a1 Z = true) (w2 : (Jvm.Cond.instanceMethod z).before a1 Z = true) (w3 : (Jvm.Cond.initialized z.cls).before a1 Z = true) (w4 : (Jvm.Cond.code z bytesZ mxZ none).before a1 Z = true)
    (hy : z.cls ≠ "java/lang/invoke/MethodHandle" ∧ z.cls ≠ "java/lang/invoke/VarHandle") (hlen : ∀ sig, parseMethodDescriptor z.desc = some sig → argsL.length = sig.parameters.length) (hst : S = argsL.reverse ++ .ref a :: rest) (Wd : Nat) (hW : (rest.map fun v => v.category).sum = Wd) (hL : L.size = mx) (hf : rm.frames + 1 ≤ R.frames) (hl : Wd + (mxZ + 11) + rm.locals ≤ R.locals) (hc : kc + rm.cells ≤ R.cells) (hs : ks + rm.slots ≤ R.slots) (hSL : ∀ x ∈ SL', x ∈ SL) (q : pc + 3 = pc')
    (K : ∀ v h' N, QZ v h' N → h.size ≤ h'.size → Go l Z y bytes mx rt R EL n0 w Q h' (kc + rm.cells) (ks + rm.slots) (N ++ SL) pc' L (v.toList ++ rest)) : Go l Z y bytes mx rt R EL n0 w Q h kc ks SL pc L S := by
  intro p e s m args below meth c T W
  subst q
  have W0 := W
  obtain ⟨⟨hx, hby, hml, -, -, -, a2, hEW⟩, k0, locs, X, e1, hS, hk, hZ, hown, hC, N, -, hSf⟩ := W
  obtain ⟨v, vm₁, ⟨T', Lt, kt, nt⟩, -, X', hS', hgr, ⟨Ls, N', hQ, hFr, l1, l2, l3, hC', hSf', hw'⟩, st⟩ := X.specialBackS hx hz1 hown (mvT (s := s.setVm T.vm) hZ w1) (mvT (s := s.setVm T.vm) hZ w2) (mvT (s := s.setVm T.vm) hZ w4) hy (Ct.pay (W := Wd) hM hZ hEW hC.1 (hSf.mono hSL) w4 w3 hf hl) (g := mkF m pc L S) rfl (hL.trans hml.symm) (Steps.refl _) (a := a) (argsL := argsL) (rest := rest) hlen hst (by show 2 * 0 + _ ≤ _; omega) (hb hby hd) (fun _ _ => ⟨rfl, e1, hc, hs⟩)
  dsimp only [Pt.U, Pt.locs, Pt.cells, Pt.slots] at X' l1 l2 l3 st hQ hC' hSf' hw' hgr hS'
  subst l1 l2 l3
  have hS2 : Sfs Z EL T'.vm T'.heap (N' ++ SL) := fun x hx' => (List.mem_append.mp hx').elim (hSf' x) (hSf.chr hC' x)
  obtain ⟨s₂, o, st2, r⟩ := K v _ N' hQ hC'.2.1 p e s m args below meth c T' (W0.nextS X' rfl hS' hC'.2.1 (Nat.le_refl _) hC' (N.app hFr) hw' hS2)
  exact ⟨s₂, o, st.trans st2, r⟩
theorem Go.callV {a : Addr} {C : String} (hM : Ct l Z z bytesZ mxZ rtZ rm EL n0 w [] (.ref a :: argsL).toArray h SL' QZ) (hd : decode bytes pc = .ok (.invokevirtual index, 3)) (w1 : (Jvm.Cond.methodLink y.cls index yy).before a1 Z = true) (wdec : (Jvm.Cond.declares yy).before a1 Z = true) (wnf : (Jvm.Cond.selects yy.cls yy yy).before a1 Z = true) (wsel : (Jvm.Cond.selects C yy z).before a1 Z = true) (w2 : (Jvm.Cond.instanceMethod z).before a1 Z = true) (w3 : (Jvm.Cond.initialized z.cls).before a1 Z = true) (w4 : (Jvm.Cond.code z bytesZ mxZ rtZ).before a1 Z = true) (E : Exa Z h a C)
    (hy : yy.cls ≠ "java/lang/invoke/MethodHandle" ∧ yy.cls ≠ "java/lang/invoke/VarHandle") (hlen : ∀ sig, parseMethodDescriptor yy.desc = some sig → argsL.length = sig.parameters.length) (hst : S = argsL.reverse ++ .ref a :: rest) (Wd : Nat) (hW : (rest.map fun v => v.category).sum = Wd) (hL : L.size = mx) (hf : rm.frames + 1 ≤ R.frames) (hl : Wd + (mxZ + 11) + rm.locals ≤ R.locals) (hc : kc + rm.cells ≤ R.cells) (hs : ks + rm.slots ≤ R.slots) (hSL : ∀ x ∈ SL', x ∈ SL) (q : pc + 3 = pc')
    (K : ∀ v h' N, QZ v h' N → h.size ≤ h'.size → Go l Z y bytes mx rt R EL n0 w Q h' (kc + rm.cells) (ks + rm.slots) (N ++ SL) pc' L (v.toList ++ rest)) : Go l Z y bytes mx rt R EL n0 w Q h kc ks SL pc L S := by
  intro p e s m args below meth c T W
  subst q
  have W0 := W
  obtain ⟨⟨hx, hby, hml, -, -, -, a2, hEW⟩, k0, locs, X, e1, hS, hk, hZ, hown, hC, N, -, hSf⟩ := W
  obtain ⟨cq, kq, qa, qb, qc⟩ := isOf (s := s.setVm T.vm) hZ e1 E
  obtain ⟨v, vm₁, ⟨T', Lt, kt, nt⟩, -, X', hS', hgr, ⟨Ls, N', hQ, hFr, l1, l2, l3, hC', hSf', hw'⟩, st⟩ := X.virtualBackS hx hown (mvT (s := s.setVm T.vm) hZ w1) (mvT (s := s.setVm T.vm) hZ wdec) (notFace_of_selects (args := #[]) (mvT (s := s.setVm T.vm) hZ wnf)) (mvT (s := s.setVm T.vm) hZ wsel) (mvT (s := s.setVm T.vm) hZ w2) hy (Ct.pay (W := Wd) hM hZ hEW hC.1 (hSf.mono hSL) w4 w3 hf hl) qa qc (g := mkF m pc L S) rfl (hL.trans hml.symm) (Steps.refl _) (argsL := argsL) (rest := rest) hlen hst (by show 2 * 0 + _ ≤ _; omega) (hb hby hd) (fun _ _ => ⟨rfl, e1, hc, hs⟩)
  dsimp only [Pt.U, Pt.locs, Pt.cells, Pt.slots] at X' l1 l2 l3 st hQ hC' hSf' hw' hgr hS'
  subst l1 l2 l3
  have hS2 : Sfs Z EL T'.vm T'.heap (N' ++ SL) := fun x hx' => (List.mem_append.mp hx').elim (hSf' x) (hSf.chr hC' x)
  obtain ⟨s₂, o, st2, r⟩ := K v _ N' hQ hC'.2.1 p e s m args below meth c T' (W0.nextS X' rfl hS' hC'.2.1 (Nat.le_refl _) hC' (N.app hFr) hw' hS2)
  exact ⟨s₂, o, st.trans st2, r⟩
end Calls
/-- the end of a body -/
theorem Go.out {v : Option Value} (hv : rt = none → v = none) (N : List Addr) (hN : ∀ x ∈ N, x ∈ SL) (hQ : Q v h N) (hc : kc ≤ R.cells) (hs : ks ≤ R.slots)
    (hst : ∀ {p : Program} {e : Env} {s : State} {m : MethodId} {args : Array Value} {below : List Frame} {meth : Method} {c : Code} {T : State} {locs : List Loc}, p.tables.exec = Jvm.exec → c.code = bytes → meth.sig.returnType = rt → Stand p l e R (s.setVm T.vm) m args below meth c T locs kc ks → ∀ fs, (∀ (f : JFrame) (acts : List Action), f.method = m → f.locked = none → f.entered = [] → (doReturn e (T.setTop f) acts v).1 = T.setFrames fs) → Steps p.tables e below (T.setTop (mkF m pc L S)) (T.setFrames fs)) :
    Go l Z y bytes mx rt R EL n0 w Q h kc ks SL pc L S := by
  intro p e s m args below meth c T W
  obtain ⟨⟨hx, hby, hml, hrt, hlk, -⟩, k0, locs, X, e1, hS, hk, hZ, hown, hC, Nn, hw', hSf⟩ := W
  obtain ⟨fs, hr, hrun, hended, hW⟩ := X.leaveW hS (by rw [e1]; exact hk) (v := v) (fun q => hv (hrt.symm.trans q)) hlk
  refine ⟨_, _, hst hx hby hrt X fs hr, hrun, hended, v, locs, N, rfl, ?_, Nn, ?_, ?_, ⟨hW.1, hW.2.1, hW.2.2.1, hW.2.2.2.mono hc hs⟩, hw'⟩
  · show Q v T.heap N; rw [e1]; exact hQ
  · show CHr Z EL s.vm s.heap T.vm T.heap; rw [e1]; exact hC
  · show Sfs Z EL T.vm T.heap N; rw [e1]; exact hSf.mono hN
theorem Go.ret0 (hr : rt = none) (N : List Addr) (hN : ∀ x ∈ N, x ∈ SL) (hd : decode bytes pc = .ok (.return_, 1)) (hc : kc ≤ R.cells) (hs : ks ≤ R.slots) (hQ : Q none h N) : Go l Z y bytes mx rt R EL n0 w Q h kc ks SL pc L [] :=
  Go.out (v := none) (fun _ => rfl) N hN hQ hc hs (fun hx hby hrt X fs hl => X.returnOut hx (hrt.trans hr) (hb hby hd) hl)
/-- a boolean, byte, char, short -/
theorem Go.retN {t : FieldType} {z : Int32} (z' : Int32) (hr : rt = some t) (ht : t = .boolean ∨ t = .byte ∨ t = .char ∨ t = .short) (hz : nar t z = z') (N : List Addr) (hN : ∀ x ∈ N, x ∈ SL) (hd : decode bytes pc = .ok (.ireturn, 1)) (hc : kc ≤ R.cells) (hs : ks ≤ R.slots) (hQ : Q (some (.int z')) h N) : Go l Z y bytes mx rt R EL n0 w Q h kc ks SL pc L (.int z :: S) :=
  Go.out (v := some (.int z')) (fun q => by rw [hr] at q; cases q) N hN hQ hc hs (fun hx hby hrt X fs hl => RoadKit.retN X hx (hrt.trans hr) ht (hb hby hd) (by rw [hz]; exact hl))
theorem Go.retI {z : Int32} (hr : rt = some .int) (N : List Addr) (hN : ∀ x ∈ N, x ∈ SL) (hd : decode bytes pc = .ok (.ireturn, 1)) (hc : kc ≤ R.cells) (hs : ks ≤ R.slots) (hQ : Q (some (.int z)) h N) : Go l Z y bytes mx rt R EL n0 w Q h kc ks SL pc L (.int z :: S) :=
  Go.out (v := some (.int z)) (fun q => by rw [hr] at q; cases q) N hN hQ hc hs (fun hx hby hrt X fs hl => RoadKit.retOut X hx (hrt.trans hr) rfl (Or.inl ⟨rfl, Or.inl rfl, _, rfl⟩) (hb hby hd) hl)
theorem Go.retJ {z : Int64} (hr : rt = some .long) (N : List Addr) (hN : ∀ x ∈ N, x ∈ SL) (hd : decode bytes pc = .ok (.lreturn, 1)) (hc : kc ≤ R.cells) (hs : ks ≤ R.slots) (hQ : Q (some (.long z)) h N) : Go l Z y bytes mx rt R EL n0 w Q h kc ks SL pc L (.long z :: S) :=
  Go.out (v := some (.long z)) (fun q => by rw [hr] at q; cases q) N hN hQ hc hs (fun hx hby hrt X fs hl => RoadKit.retOut X hx (hrt.trans hr) rfl (Or.inr (Or.inl ⟨rfl, rfl, _, rfl⟩)) (hb hby hd) hl)
theorem narrow_ref {t : FieldType} {v : Value} (ht : t.isReference = true) : narrow t v = v := by cases t <;> cases v <;> simp_all [FieldType.isReference, narrow]
theorem fits_r {t : FieldType} {v : Value} (ht : t.isReference = true) (hv : v.isRef = true) : fits t v = true := by cases t <;> cases v <;> simp_all [FieldType.isReference, fits, Value.isRef]
theorem Go.retA {t : FieldType} {v : Value} (hr : rt = some t) (ht : t.isReference = true) (hv : v.isRef = true) (N : List Addr) (hN : ∀ x ∈ N, x ∈ SL) (hd : decode bytes pc = .ok (.areturn, 1)) (hc : kc ≤ R.cells) (hs : ks ≤ R.slots) (hQ : Q (some v) h N) : Go l Z y bytes mx rt R EL n0 w Q h kc ks SL pc L (v :: S) :=
  Go.out (v := some v) (fun q => by rw [hr] at q; cases q) N hN hQ hc hs (fun hx hby hrt X fs hl => RoadKit.retOut X hx (hrt.trans hr) (narrow_ref ht) (Or.inr (Or.inr (Or.inr (Or.inr ⟨rfl, ht, hv⟩)))) (hb hby hd) hl)
/-! arrays -/
theorem Go.alen {a : Addr} {cl : Cell} {ty : FieldType} {n : Int32} (hd : decode bytes pc = .ok (.arraylength, 1)) (A : Arr Z h a cl ty) (hn : cl.slots.size.toInt32 = n) (q : pc + 1 = pc') (K : Go l Z y bytes mx rt R EL n0 w Q h kc ks SL pc' L (.int n :: S)) : Go l Z y bytes mx rt R EL n0 w Q h kc ks SL pc L (.ref a :: S) :=
  Go.st1 q (fun X e1 hx hby hZ hown t kk => X.arraylength hx (cell := cl) (ty := ty) (e1.symm ▸ A.1) (State.isArrayOf_alike hZ.alike A.2.1) (g := mkF _ pc L (.ref a :: S)) rfl rfl (hb hby hd) t (hn.symm ▸ kk)) K
theorem Go.aaload {a : Addr} {cl : Cell} {ty : FieldType} {j : Int32} {v : Value} (hd : decode bytes pc = .ok (.aaload, 1)) (A : Arr Z h a cl ty) (hty : ty.isReference = true) (hin : ¬ (j < 0 ∨ cl.slots.size ≤ j.toNatClampNeg)) (hv : cl.slots[j.toNatClampNeg]? = some v) (q : pc + 1 = pc') (K : Go l Z y bytes mx rt R EL n0 w Q h kc ks SL pc' L (v :: S)) : Go l Z y bytes mx rt R EL n0 w Q h kc ks SL pc L (.int j :: .ref a :: S) :=
  Go.st1 q (fun X e1 hx hby hZ hown t kk => X.aaload hx (cell := cl) (e1.symm ▸ A.1) (State.isArrayOf_alike hZ.alike A.2.1) hty A.2.2 hin hv (g := mkF _ pc L (.int j :: .ref a :: S)) rfl rfl (hb hby hd) t kk) K
theorem Go.iaload {a : Addr} {cl : Cell} {j : Int32} {v : Value} (hd : decode bytes pc = .ok (.iaload, 1)) (A : Arr Z h a cl .int) (hin : ¬ (j < 0 ∨ cl.slots.size ≤ j.toNatClampNeg)) (hv : cl.slots[j.toNatClampNeg]? = some v) (q : pc + 1 = pc') (K : Go l Z y bytes mx rt R EL n0 w Q h kc ks SL pc' L (v :: S)) : Go l Z y bytes mx rt R EL n0 w Q h kc ks SL pc L (.int j :: .ref a :: S) :=
  Go.st1 q (fun X e1 hx hby hZ hown t kk => X.iaload hx (cell := cl) (e1.symm ▸ A.1) (State.isArrayOf_alike hZ.alike A.2.1) A.2.2 hin hv (g := mkF _ pc L (.int j :: .ref a :: S)) rfl rfl (hb hby hd) t kk) K
theorem Go.baload {a : Addr} {cl : Cell} {j : Int32} {v : Value} (hd : decode bytes pc = .ok (.baload, 1)) (A : Arr Z h a cl .byte) (hin : ¬ (j < 0 ∨ cl.slots.size ≤ j.toNatClampNeg)) (hv : cl.slots[j.toNatClampNeg]? = some v) (q : pc + 1 = pc') (K : Go l Z y bytes mx rt R EL n0 w Q h kc ks SL pc' L (v :: S)) : Go l Z y bytes mx rt R EL n0 w Q h kc ks SL pc L (.int j :: .ref a :: S) :=
  Go.st1 q (fun X e1 hx hby hZ hown t kk => X.baloadBytes hx (cell := cl) (e1.symm ▸ A.1) (State.isArrayOf_alike hZ.alike A.2.1) A.2.2 hin hv (g := mkF _ pc L (.int j :: .ref a :: S)) rfl rfl (hb hby hd) t kk) K
theorem Go.caload {a : Addr} {cl : Cell} {j : Int32} {v : Value} (hd : decode bytes pc = .ok (.caload, 1)) (A : Arr Z h a cl .char) (hin : ¬ (j < 0 ∨ cl.slots.size ≤ j.toNatClampNeg)) (hv : cl.slots[j.toNatClampNeg]? = some v) (q : pc + 1 = pc') (K : Go l Z y bytes mx rt R EL n0 w Q h kc ks SL pc' L (v :: S)) : Go l Z y bytes mx rt R EL n0 w Q h kc ks SL pc L (.int j :: .ref a :: S) :=
  Go.st1 q (fun X e1 hx hby hZ hown t kk => X.caload hx (cell := cl) (e1.symm ▸ A.1) (State.isArrayOf_alike hZ.alike A.2.1) A.2.2 hin hv (g := mkF _ pc L (.int j :: .ref a :: S)) rfl rfl (hb hby hd) t kk) K
theorem Go.castore {a : Addr} {cl : Cell} {j x : Int32} (hd : decode bytes pc = .ok (.castore, 1)) (A : Arr Z h a cl .char) (hin : ¬ (j < 0 ∨ cl.slots.size ≤ j.toNatClampNeg)) (ha : n0 ≤ a) (q : pc + 1 = pc')
    (K : ∀ h', Wr h h' a j.toNatClampNeg (.int (nar .char x)) → Go l Z y bytes mx rt R EL n0 w Q h' kc ks SL pc' L S) : Go l Z y bytes mx rt R EL n0 w Q h kc ks SL pc L (.int x :: .int j :: .ref a :: S) := by
  intro p e s m args below meth c T W
  subst q
  have W0 := W
  obtain ⟨⟨hx, hby, -⟩, k0, locs, X, e1, -, -, hZ, hown, hC, N, -, hSf⟩ := W
  obtain ⟨T', h', X', e', Wr', st⟩ := RoadKit.stC X hx hZ e1 A hin (g := mkF m pc L (.int x :: .int j :: .ref a :: S)) rfl rfl (hb hby hd)
  have B := CHr.wr Wr' (Safe.arr hZ.alike A (by decide)) hC.1
  obtain ⟨s₂, o, st2, r⟩ := K h' Wr' p e s m args below meth c T' (W0.next X' e' B (Fr.snoc X' N ha) (hSf.chr B))
  exact ⟨s₂, o, st _ st2, r⟩
theorem Go.bastore {a : Addr} {cl : Cell} {j x : Int32} (hd : decode bytes pc = .ok (.bastore, 1)) (A : Arr Z h a cl .byte) (hin : ¬ (j < 0 ∨ cl.slots.size ≤ j.toNatClampNeg)) (hsafe : Sf Z EL SL h a) (ha : n0 ≤ a) (q : pc + 1 = pc')
    (K : ∀ h', Wr h h' a j.toNatClampNeg (.int (nar .byte x)) → Go l Z y bytes mx rt R EL n0 w Q h' kc ks SL pc' L S) : Go l Z y bytes mx rt R EL n0 w Q h kc ks SL pc L (.int x :: .int j :: .ref a :: S) := by
  intro p e s m args below meth c T W
  subst q
  have W0 := W
  obtain ⟨⟨hx, hby, -⟩, k0, locs, X, e1, -, -, hZ, hown, hC, N, -, hSf⟩ := W
  obtain ⟨T', h', X', e', Wr', st⟩ := RoadKit.stB X hx hZ e1 A hin (g := mkF m pc L (.int x :: .int j :: .ref a :: S)) rfl rfl (hb hby hd)
  have B := CHr.wr Wr' (hsafe _ hZ hSf) hC.1
  obtain ⟨s₂, o, st2, r⟩ := K h' Wr' p e s m args below meth c T' (W0.next X' e' B (Fr.snoc X' N ha) (hSf.chr B))
  exact ⟨s₂, o, st _ st2, r⟩
/-- two roads that meet: the rest is walked once -/
theorem Go.cut {α : Type} (pcJ : Nat) (LJ : α → Array Slot) (SJ : α → List Value) (K : ∀ r, Go l Z y bytes mx rt R EL n0 w Q h kc ks SL pcJ (LJ r) (SJ r)) (K2 : (∀ r, Go l Z y bytes mx rt R EL n0 w Q h kc ks SL pcJ (LJ r) (SJ r)) → Go l Z y bytes mx rt R EL n0 w Q h kc ks SL pc L S) : Go l Z y bytes mx rt R EL n0 w Q h kc ks SL pc L S := K2 K
end Rules
end Jvm.GoKit
namespace Jvm.GoKit
open Sem ClassFile Op Lib Jvm.Stand Jvm.Free Jvm.LawKit Jvm.RoadKit
section RulesV
variable {l : Launch} {Z : State} {y : MethodName} {bytes : ByteArray} {mx : Nat} {rt : Option FieldType} {R : Room} {EL : List (String × Nat)} {n0 : Nat} {w : Bool} {Q : Option Value → Heap → List Addr → Prop} {h h' : Heap} {kc ks kc' ks' : Nat} {SL SL' : List Addr} {pc pc' pc'' : Nat} {L L' : Array Slot} {S S' : List Value} {a0 a1 : Array Value}
variable {a : Addr} {k : ClassId} {ty : FieldType} {n j x : Int32} {vs : List Value} {d v : Value}
theorem Go.alenV (hd : decode bytes pc = .ok (.arraylength, 1)) (F : Arv Z h a k ty n vs d) (q : pc + 1 = pc') (K : Go l Z y bytes mx rt R EL n0 w Q h kc ks SL pc' L (.int n :: S)) : Go l Z y bytes mx rt R EL n0 w Q h kc ks SL pc L (.ref a :: S) := by
  obtain ⟨c, A, -, s1, s2, -⟩ := F
  exact Go.alen hd A (len_of s1 s2) q K
theorem Go.baloadV (hd : decode bytes pc = .ok (.baload, 1)) (F : Arv Z h a k .byte n vs d) (hj : ¬ j < 0 ∧ j < n) (hv : vs.getD j.toNatClampNeg d = v) (q : pc + 1 = pc') (K : Go l Z y bytes mx rt R EL n0 w Q h kc ks SL pc' L (v :: S)) : Go l Z y bytes mx rt R EL n0 w Q h kc ks SL pc L (.int j :: .ref a :: S) := by
  obtain ⟨c, A, -, s1, s2, H, -⟩ := F
  exact Go.baload hd A (inb_of s1 hj) (H.at (inb_of s1 hj) hv) q K
theorem Go.caloadV (hd : decode bytes pc = .ok (.caload, 1)) (F : Arv Z h a k .char n vs d) (hj : ¬ j < 0 ∧ j < n) (hv : vs.getD j.toNatClampNeg d = v) (q : pc + 1 = pc') (K : Go l Z y bytes mx rt R EL n0 w Q h kc ks SL pc' L (v :: S)) : Go l Z y bytes mx rt R EL n0 w Q h kc ks SL pc L (.int j :: .ref a :: S) := by
  obtain ⟨c, A, -, s1, s2, H, -⟩ := F
  exact Go.caload hd A (inb_of s1 hj) (H.at (inb_of s1 hj) hv) q K
theorem Go.ialoadV (hd : decode bytes pc = .ok (.iaload, 1)) (F : Arv Z h a k .int n vs d) (hj : ¬ j < 0 ∧ j < n) (hv : vs.getD j.toNatClampNeg d = v) (q : pc + 1 = pc') (K : Go l Z y bytes mx rt R EL n0 w Q h kc ks SL pc' L (v :: S)) : Go l Z y bytes mx rt R EL n0 w Q h kc ks SL pc L (.int j :: .ref a :: S) := by
  obtain ⟨c, A, -, s1, s2, H, -⟩ := F
  exact Go.iaload hd A (inb_of s1 hj) (H.at (inb_of s1 hj) hv) q K
theorem Go.newPV {aty : ArrayType} (cap : Nat) (vs : List Value) (hd : decode bytes pc = .ok (.newarray aty, 2)) (wd : (Jvm.Cond.arrayClass (newarray.typeOf aty)).before a1 Z = true) (hn : ¬ n < 0) (hcap : n.toNatClampNeg ≤ cap) (hb' : cap * 8 ≤ 536870912) (hc : kc + 1 ≤ R.cells) (hl : ks + cap ≤ R.slots) (hvs : vs = List.replicate n.toNatClampNeg (defaultValue (newarray.typeOf aty))) (q : pc + 2 = pc')
    (K : ∀ (a : Addr) (h' : Heap) (cA : ClassId), a = h.size → Ext h h' → Arv Z h' a cA (newarray.typeOf aty) n vs (defaultValue (newarray.typeOf aty)) → Go l Z y bytes mx rt R EL n0 w Q h' (kc + 1) (ks + cap) (a :: SL) pc' L (.ref a :: S)) : Go l Z y bytes mx rt R EL n0 w Q h kc ks SL pc L (.int n :: S) :=
  Go.newP cap hd wd hn hcap hb' hc hl q (fun a h' cA e E A => K a h' cA e E ((Arv.new A hn).pad (by rw [hvs, ← List.nil_append (List.replicate _ _)]; exact pad_rep _ _ _)))
theorem Go.castoreV (i : Nat) (hd : decode bytes pc = .ok (.castore, 1)) (F : Arv Z h a k .char n vs d) (hj : ¬ j < 0 ∧ j < n) (hi : j.toNatClampNeg = i) (hl : i < vs.length) (ha : n0 ≤ a) (q : pc + 1 = pc')
    (K : ∀ h', Wr h h' a j.toNatClampNeg (.int (nar .char x)) → Arv Z h' a k .char n (vs.set i (.int (nar .char x))) d → Go l Z y bytes mx rt R EL n0 w Q h' kc ks SL pc' L S) : Go l Z y bytes mx rt R EL n0 w Q h kc ks SL pc L (.int x :: .int j :: .ref a :: S) := by
  obtain ⟨c, A, q1, s1, s2, H, G⟩ := F
  exact Go.castore hd A (inb_of s1 hj) ha q (fun h' W => K h' W (Arv.set A q1 s1 s2 H G (fits_nar_char x) W i hi hl))
theorem fits_nar_byte (x : Int32) : fits .byte (.int (nar .byte x)) = true := by
  have h1 := Int8.toInt_lt x.toInt8
  have h2 := Int8.le_toInt x.toInt8
  have e : (x.toInt8.toInt32).toInt = x.toInt8.toInt := Int8.toInt_toInt32 _
  simp only [fits, nar, Bool.and_eq_true, decide_eq_true_eq, Int32.le_iff_toInt_le]
  rw [e]
  first
    | exact ⟨by have : ((-128 : Int32)).toInt = -128 := by decide
                omega, by have : ((127 : Int32)).toInt = 127 := by decide
                          omega⟩
    | omega
theorem Go.bastoreV (i : Nat) (hd : decode bytes pc = .ok (.bastore, 1)) (F : Arv Z h a k .byte n vs d) (hj : ¬ j < 0 ∧ j < n) (hi : j.toNatClampNeg = i) (hl : i < vs.length) (hsafe : Sf Z EL SL h a) (ha : n0 ≤ a) (q : pc + 1 = pc')
    (K : ∀ h', Wr h h' a j.toNatClampNeg (.int (nar .byte x)) → Arv Z h' a k .byte n (vs.set i (.int (nar .byte x))) d → Go l Z y bytes mx rt R EL n0 w Q h' kc ks SL pc' L S) : Go l Z y bytes mx rt R EL n0 w Q h kc ks SL pc L (.int x :: .int j :: .ref a :: S) := by
  obtain ⟨c, A, q1, s1, s2, H, G⟩ := F
  exact Go.bastore hd A (inb_of s1 hj) hsafe ha q (fun h' W => K h' W (Arv.set A q1 s1 s2 H G (fits_nar_byte x) W i hi hl))
theorem Go.cast {K0 : String} {index : Nat} (hd : decode bytes pc = .ok (.checkcast index, 3)) (wd : (Jvm.Cond.classLink y.cls index K0).before a1 Z = true) (F : Ins Z h a K0 true) (q : pc + 3 = pc') (K : Go l Z y bytes mx rt R EL n0 w Q h kc ks SL pc' L (.ref a :: S)) : Go l Z y bytes mx rt R EL n0 w Q h kc ks SL pc L (.ref a :: S) := by
  intro p e s m args below meth c T W
  subst q
  have W0 := W
  obtain ⟨⟨hx, hby, -⟩, k0, locs, X, e1, -, -, hZ, hown, hC, N, -, hSf⟩ := W
  obtain ⟨T', X', e', st⟩ := RoadKit.castY X hx hZ hown wd e1 F (g := mkF m pc L (.ref a :: S)) rfl rfl (hb hby hd)
  obtain ⟨s₂, o, st2, r⟩ := K p e s m args below meth c T' (W0.next X' e' (CHr.refl hC.1) N hSf)
  exact ⟨s₂, o, st _ st2, r⟩
theorem Go.inst {K0 : String} {index : Nat} (hd : decode bytes pc = .ok (.instanceof index, 3)) (wd : (Jvm.Cond.classLink y.cls index K0).before a1 Z = true) (F : Ins Z h a K0 true) (q : pc + 3 = pc') (K : Go l Z y bytes mx rt R EL n0 w Q h kc ks SL pc' L (.int 1 :: S)) : Go l Z y bytes mx rt R EL n0 w Q h kc ks SL pc L (.ref a :: S) := by
  intro p e s m args below meth c T W
  subst q
  have W0 := W
  obtain ⟨⟨hx, hby, -⟩, k0, locs, X, e1, -, -, hZ, hown, hC, N, -, hSf⟩ := W
  obtain ⟨T', X', e', st⟩ := RoadKit.instY X hx hZ hown wd e1 F (g := mkF m pc L (.ref a :: S)) rfl rfl (hb hby hd)
  obtain ⟨s₂, o, st2, r⟩ := K p e s m args below meth c T' (W0.next X' e' (CHr.refl hC.1) N hSf)
  exact ⟨s₂, o, st _ st2, r⟩
theorem Go.acopy {index : Nat} {b : Addr} {k' : ClassId} {z z' sp dp nn : Int32} {vd us : List Value} {dv dd : Value} (hd : decode bytes pc = .ok (.invokestatic index, 3)) (w1 : (Jvm.Cond.methodLink y.cls index Jvm.Stand.acN).before a1 Z = true) (w2 : (Jvm.Cond.native Jvm.Stand.acN).before a1 Z = true) (w3 : (Jvm.Cond.static Jvm.Stand.acN).before a1 Z = true) (w4 : (Jvm.Cond.initialized "java/lang/System").before a1 Z = true)
    (A : Arv Z h a k ty z vs dv) (B : Arv Z h b k' ty z' vd dd) (hty : refKind ty = false) (h1 : ¬ sp < 0) (h2 : ¬ dp < 0) (h3 : ¬ nn < 0) (h4 : sp.toNatClampNeg + nn.toNatClampNeg ≤ z.toNatClampNeg) (h5 : dp.toNatClampNeg + nn.toNatClampNeg ≤ z'.toNatClampNeg) (hus : us = (List.range nn.toNatClampNeg).map fun i => vs.getD (sp.toNatClampNeg + i) dv) (hl : dp.toNatClampNeg + nn.toNatClampNeg ≤ vd.length)
    (hsafe : Sf Z EL SL h b) (ge : n0 ≤ b) (hL : L.size = mx) (hf : 1 ≤ R.frames) (Wd : Nat) (hW : (S.map fun v => v.category).sum = Wd) (hlo : Wd + (nativeFrameWords "java/lang/System" "arraycopy" 5 + 11) ≤ R.locals) (q : pc + 3 = pc')
    (K : ∀ h', Keep h h' [b] → Arv Z h' b k' ty z' (vd.take dp.toNatClampNeg ++ us ++ vd.drop (dp.toNatClampNeg + nn.toNatClampNeg)) dd → Go l Z y bytes mx rt R EL n0 w Q h' kc ks SL pc' L S) : Go l Z y bytes mx rt R EL n0 w Q h kc ks SL pc L (.int nn :: .int dp :: .ref b :: .int sp :: .ref a :: S) := by
  intro p e s m args below meth c T W
  subst q
  have W0 := W
  obtain ⟨⟨hx, hby, hml, -⟩, k0, locs, X, e1, -, -, hZ, hown, hC, N, -, hSf⟩ := W
  obtain ⟨T', h', L', X', e', N', Kp, A', st⟩ := RoadKit.cpA X hx hZ hown w1 w2 w3 w4 e1 A B (Or.inl ⟨rfl, hty⟩) h1 h2 h3 h4 h5 hus hl N ge (g := mkF m pc L (.int nn :: .int dp :: .ref b :: .int sp :: .ref a :: S)) rfl (hL.trans hml.symm) rfl (hb hby hd) hf (W := Wd) (by show 2 * 0 + _ ≤ _; omega) hlo
  have Bk := CHr.keep (vm := T.vm) Kp (fun x hx' => by cases List.mem_singleton.mp hx'; exact hsafe _ hZ hSf) hC.1
  obtain ⟨s₂, o, st2, r⟩ := K h' Kp A' p e s m args below meth c T' (W0.next X' e' Bk N' (hSf.chr Bk))
  exact ⟨s₂, o, st _ st2, r⟩
/-- a loop: the head is reached again with a smaller measure -/
theorem Go.ind {α : Type} (μ : α → Nat) (P : α → Prop) (hJ : α → Heap) (LJ : α → Array Slot) (SJ : α → List Value) (step : ∀ x, P x → (∀ x', μ x' < μ x → P x' → Go l Z y bytes mx rt R EL n0 w Q (hJ x') kc ks SL pc (LJ x') (SJ x')) → Go l Z y bytes mx rt R EL n0 w Q (hJ x) kc ks SL pc (LJ x) (SJ x)) (x : α) (hx : P x) (e1 : h = hJ x) (e2 : L = LJ x) (e3 : S = SJ x) : Go l Z y bytes mx rt R EL n0 w Q h kc ks SL pc L S := by
  have key : ∀ n x, μ x < n → P x → Go l Z y bytes mx rt R EL n0 w Q (hJ x) kc ks SL pc (LJ x) (SJ x) := by
    intro n
    induction n with
    | zero => intro x q; exact absurd q (Nat.not_lt_zero _)
    | succ n ih => intro x q hP; exact step x hP (fun x' q' hP' => ih x' (by omega) hP')
  subst e1 e2 e3
  exact key _ x (Nat.lt_succ_self _) hx
theorem shr0 (n : Int32) : n >>> ((0 : Int32) &&& 31) = n := by
  have e : (0 : Int32) &&& 31 = 0 := by decide
  rw [e]; simp
theorem nar_i2b (x : Int32) : nar .byte (x.toInt8.toInt32) = x.toInt8.toInt32 := by simp [nar]
theorem ofN_lt {i n : Nat} (hi : i < 2 ^ 31) (hn : n < 2 ^ 31) : (Int32.ofNat i < Int32.ofNat n) ↔ i < n := by
  rw [Int32.lt_iff_toInt_lt, Int32.toInt_ofNat_of_lt hi, Int32.toInt_ofNat_of_lt hn]; omega
theorem ofN_eq {i n : Nat} (hi : i < 2 ^ 31) (hn : n < 2 ^ 31) : (Int32.ofNat i = Int32.ofNat n) ↔ i = n := by
  rw [← Int32.toInt_inj, Int32.toInt_ofNat_of_lt hi, Int32.toInt_ofNat_of_lt hn]; omega
theorem ofN_nn {i : Nat} (hi : i < 2 ^ 31) : ¬ Int32.ofNat i < 0 := by
  rw [Int32.lt_iff_toInt_lt, Int32.toInt_ofNat_of_lt hi]
  have e : (0 : Int32).toInt = 0 := by decide
  omega
theorem ofN_nat {i : Nat} (hi : i < 2 ^ 31) : (Int32.ofNat i).toNatClampNeg = i := by
  have e : (Int32.ofNat i).toNatClampNeg = (Int32.ofNat i).toInt.toNat := rfl
  rw [e, Int32.toInt_ofNat_of_lt hi]; omega
theorem ofN_succ (i : Nat) : Int32.ofNat i + 1 = Int32.ofNat (i + 1) := by
  rw [Int32.ofNat_add]; rfl
end RulesV
end Jvm.GoKit
namespace Jvm.Pilot.@@N@@
open Jvm Jvm.ClassFile Sem Op Lib Jvm.Free Jvm.Stand Jvm.LawKit Jvm.RoadKit Jvm.GoKit Bundle Jvm.Pilot.@@N@@.Jvm.D
def EL1 : List (String × Nat) := []
theorem own_ew {Z : State} {a0 : Array Value} (hw : ∀ d ∈ tables_1, d.before a0 Z = true) : EW Z a0 EL1 := EW.nil
theorem pn_java_lang_Record : plainName "java/lang/Record" = true := by first | (simp [plainName, overriddenIn]; done) | decide +kernel
theorem d_jdk_30_method_1_code_0 : decode jdk_30_method_1_code 0 = .ok (.aload_n 0, 1) := by decide +kernel
theorem d_jdk_30_method_1_code_1 : decode jdk_30_method_1_code 1 = .ok (.invokespecial 1, 3) := by decide +kernel
theorem d_jdk_30_method_1_code_4 : decode jdk_30_method_1_code 4 = .ok (.return_, 1) := by decide +kernel
set_option maxRecDepth 65536 in
set_option maxHeartbeats 40000000 in
theorem ct_record (l : Launch) (Z : State) (a0 : Array Value) (hw : ∀ d ∈ tables_1, d.before a0 Z = true) (n0 : Nat) (h0 : Heap) (a1 : Addr) :
    Ct l Z (⟨"java/lang/Record", "<init>", "()V"⟩ : MethodName) jdk_30_method_1_code 1 none ({ frames := 1, cells := 0, slots := 0, locals := 12 } : Room) EL1 n0 false [] #[(.ref a1)] h0 [] (fun v h N => h0 = h ∧ v = none) := by
  refine Ct.of (a0 := a0) (plainFor_of_name pn_java_lang_Record) (own_ew hw) (L0 := #[.val (.ref a1)]) (fun m => by first | (simp [entryFrame, mkF, argsToLocals, Value.category]; done) | rfl) ?_
  refine Go.aloadN (pc' := 1) d_jdk_30_method_1_code_0 rfl rfl rfl ?_
  refine Go.initO (pc' := 4) (a1 := a0) d_jdk_30_method_1_code_1 (hw _ (List.mem_of_getElem? (i := 51) rfl)) (hw _ (List.mem_of_getElem? (i := 19) rfl)) (hw _ (List.mem_of_getElem? (i := 20) rfl)) rfl (by decide) 0 rfl (by decide) rfl ?_
  refine Go.ret0 rfl [] (fun _ q => nomatch q) d_jdk_30_method_1_code_4 (by decide) (by decide) ?_
  exact ⟨rfl, rfl⟩
theorem pn_java_lang_StringUTF16 : plainName "java/lang/StringUTF16" = true := by first | (simp [plainName, overriddenIn]; done) | decide +kernel
theorem d_jdk_52_method_15_code_0 : decode jdk_52_method_15_code 0 = .ok (.iload_n 1, 1) := by decide +kernel
theorem d_jdk_52_method_15_code_1 : decode jdk_52_method_15_code 1 = .ok (.aload_n 0, 1) := by decide +kernel
theorem d_jdk_52_method_15_code_2 : decode jdk_52_method_15_code 2 = .ok (.arraylength, 1) := by decide +kernel
theorem d_jdk_52_method_15_code_3 : decode jdk_52_method_15_code 3 = .ok (.isub, 1) := by decide +kernel
theorem d_jdk_52_method_15_code_4 : decode jdk_52_method_15_code 4 = .ok (.bipush 31, 2) := by decide +kernel
theorem d_jdk_52_method_15_code_6 : decode jdk_52_method_15_code 6 = .ok (.iushr, 1) := by decide +kernel
theorem d_jdk_52_method_15_code_7 : decode jdk_52_method_15_code 7 = .ok (.i2b, 1) := by decide +kernel
theorem d_jdk_52_method_15_code_8 : decode jdk_52_method_15_code 8 = .ok (.ireturn, 1) := by decide +kernel
set_option maxRecDepth 65536 in
set_option maxHeartbeats 40000000 in
theorem ct_cfal (l : Launch) (Z : State) (a0 : Array Value) (hw : ∀ d ∈ tables_1, d.before a0 Z = true) (n0 : Nat) (h0 : Heap) (b : Addr) (k : ClassId) (n : Int32) (vs : List Value) (AV : Arv Z h0 b k .byte n vs (.int 0)) :
    Ct l Z (⟨"java/lang/StringUTF16", "coderFromArrayLen", "([BI)B"⟩ : MethodName) jdk_52_method_15_code 2 (some .byte) ({ frames := 0, cells := 0, slots := 0, locals := 0 } : Room) EL1 n0 false [] #[(.ref b), (.int n)] h0 [] (fun v h N => h0 = h ∧ v = some (.int 0)) := by
  refine Ct.of (a0 := a0) (plainFor_of_name pn_java_lang_StringUTF16) (own_ew hw) (L0 := #[.val (.ref b), .val (.int n)]) (fun m => by first | (simp [entryFrame, mkF, argsToLocals, Value.category]; done) | rfl) ?_
  have l0_AV := nlt AV.lt
  refine Go.iloadN (pc' := 1) d_jdk_52_method_15_code_0 rfl rfl ?_
  refine Go.aloadN (pc' := 2) d_jdk_52_method_15_code_1 rfl rfl rfl ?_
  refine Go.alenV (pc' := 3) d_jdk_52_method_15_code_2 AV rfl ?_
  refine Go.isub (pc' := 4) d_jdk_52_method_15_code_3 rfl ?_
  refine Go.re (pc' := 4) (L' := #[.val (.ref b), .val (.int n)]) (S' := [.int (0 : Int32)]) rfl rfl (by rw [Int32.sub_self]) ?_
  refine Go.bipush (pc' := 6) 31 d_jdk_52_method_15_code_4 rfl rfl ?_
  refine Go.iushr (pc' := 7) d_jdk_52_method_15_code_6 rfl ?_
  refine Go.re (pc' := 7) (L' := #[.val (.ref b), .val (.int n)]) (S' := [(.int (0 : Int32))]) rfl rfl (congrArg (fun z => Value.int z :: _) (show (usr (0 : Int32) (31 : Int32)) = 0 by decide)) ?_
  refine Go.i2b (pc' := 8) d_jdk_52_method_15_code_7 rfl ?_
  refine Go.re (pc' := 8) (L' := #[.val (.ref b), .val (.int n)]) (S' := [(.int (0 : Int32))]) rfl rfl rfl ?_
  refine Go.retN (t := .byte) (0 : Int32) rfl (by simp) rfl [] (fun _ q => nomatch q) d_jdk_52_method_15_code_8 (by decide) (by decide) ?_
  exact ⟨rfl, rfl⟩
theorem d_jdk_52_method_21_code_0 : decode jdk_52_method_21_code 0 = .ok (.iconst 0, 1) := by decide +kernel
theorem d_jdk_52_method_21_code_1 : decode jdk_52_method_21_code 1 = .ok (.istore 5, 2) := by decide +kernel
theorem d_jdk_52_method_21_code_3 : decode jdk_52_method_21_code 3 = .ok (.iload 5, 2) := by decide +kernel
theorem d_jdk_52_method_21_code_5 : decode jdk_52_method_21_code 5 = .ok (.iload 4, 2) := by decide +kernel
theorem d_jdk_52_method_21_code_7 : decode jdk_52_method_21_code 7 = .ok (.if_icmp .ge 37, 3) := by decide +kernel
theorem d_jdk_52_method_21_code_10 : decode jdk_52_method_21_code 10 = .ok (.aload_n 0, 1) := by decide +kernel
theorem d_jdk_52_method_21_code_11 : decode jdk_52_method_21_code 11 = .ok (.iload_n 1, 1) := by decide +kernel
theorem d_jdk_52_method_21_code_12 : decode jdk_52_method_21_code 12 = .ok (.caload, 1) := by decide +kernel
theorem d_jdk_52_method_21_code_13 : decode jdk_52_method_21_code 13 = .ok (.istore 6, 2) := by decide +kernel
theorem d_jdk_52_method_21_code_15 : decode jdk_52_method_21_code 15 = .ok (.iload 6, 2) := by decide +kernel
theorem d_jdk_52_method_21_code_17 : decode jdk_52_method_21_code 17 = .ok (.sipush 255, 3) := by decide +kernel
theorem d_jdk_52_method_21_code_20 : decode jdk_52_method_21_code 20 = .ok (.if_icmp .le 6, 3) := by decide +kernel
theorem d_jdk_52_method_21_code_26 : decode jdk_52_method_21_code 26 = .ok (.aload_n 2, 1) := by decide +kernel
theorem d_jdk_52_method_21_code_27 : decode jdk_52_method_21_code 27 = .ok (.iload_n 3, 1) := by decide +kernel
theorem d_jdk_52_method_21_code_28 : decode jdk_52_method_21_code 28 = .ok (.iload 6, 2) := by decide +kernel
theorem d_jdk_52_method_21_code_30 : decode jdk_52_method_21_code 30 = .ok (.i2b, 1) := by decide +kernel
theorem d_jdk_52_method_21_code_31 : decode jdk_52_method_21_code 31 = .ok (.bastore, 1) := by decide +kernel
theorem d_jdk_52_method_21_code_32 : decode jdk_52_method_21_code 32 = .ok (.iinc 1 1, 3) := by decide +kernel
theorem d_jdk_52_method_21_code_35 : decode jdk_52_method_21_code 35 = .ok (.iinc 3 1, 3) := by decide +kernel
theorem d_jdk_52_method_21_code_38 : decode jdk_52_method_21_code 38 = .ok (.iinc 5 1, 3) := by decide +kernel
theorem d_jdk_52_method_21_code_41 : decode jdk_52_method_21_code 41 = .ok (.goto (-38), 3) := by decide +kernel
theorem d_jdk_52_method_21_code_44 : decode jdk_52_method_21_code 44 = .ok (.iload 4, 2) := by decide +kernel
theorem d_jdk_52_method_21_code_46 : decode jdk_52_method_21_code 46 = .ok (.ireturn, 1) := by decide +kernel
set_option maxRecDepth 65536 in
set_option maxHeartbeats 40000000 in
theorem ct_cmp5_2 (l : Launch) (Z : State) (a0 : Array Value) (hw : ∀ d ∈ tables_1, d.before a0 Z = true) (n0 : Nat) (h0 : Heap) (c d : Addr) (kc kd : ClassId) (c0 c1 : Int32) (AC : Arv Z h0 c kc .char (2 : Int32) [(.int c0), (.int c1)] (.int 0)) (AD : Arv Z h0 d kd .byte (2 : Int32) [(.int (0 : Int32)), (.int (0 : Int32))] (.int 0)) (hb_c0 : ¬ 255 < c0) (hb_c1 : ¬ 255 < c1) (hd : n0 ≤ d) (hcd : c ≠ d) :
    Ct l Z (⟨"java/lang/StringUTF16", "compress", "([CI[BII)I"⟩ : MethodName) jdk_52_method_21_code 7 (some .int) ({ frames := 0, cells := 0, slots := 0, locals := 0 } : Room) EL1 n0 false [] #[(.ref c), (.int (0 : Int32)), (.ref d), (.int (0 : Int32)), (.int (2 : Int32))] h0 [d] (fun v h N => v = some (.int (2 : Int32)) ∧ Keep h0 h [d] ∧ Arv Z h d kd .byte (2 : Int32) [(.int (c0).toInt8.toInt32), (.int (c1).toInt8.toInt32)] (.int 0)) := by
  refine Ct.of (a0 := a0) (plainFor_of_name pn_java_lang_StringUTF16) (own_ew hw) (L0 := #[.val (.ref c), .val (.int (0 : Int32)), .val (.ref d), .val (.int (0 : Int32)), .val (.int (2 : Int32)), .unset, .unset]) (fun m => by first | (simp [entryFrame, mkF, argsToLocals, Value.category]; done) | rfl) ?_
  have ltc := nlt AC.lt
  have ltd := nlt AD.lt
  have hcd9 := nne hcd
  have l0_AC := nlt AC.lt
  have l0_AD := nlt AD.lt
  refine Go.iconst (pc' := 1) 0 d_jdk_52_method_21_code_0 rfl rfl ?_
  refine Go.istore (pc' := 3) #[.val (.ref c), .val (.int (0 : Int32)), .val (.ref d), .val (.int (0 : Int32)), .val (.int (2 : Int32)), .val (.int (0 : Int32)), .unset] d_jdk_52_method_21_code_1 rfl rfl ?_
  refine Go.iload (pc' := 5) d_jdk_52_method_21_code_3 rfl rfl ?_
  refine Go.iload (pc' := 7) d_jdk_52_method_21_code_5 rfl rfl ?_
  refine Go.icmpF (pc' := 10) d_jdk_52_method_21_code_7 (show (0 : Int32) < (2 : Int32) by decide) rfl ?_
  refine Go.aloadN (pc' := 11) d_jdk_52_method_21_code_10 rfl rfl rfl ?_
  refine Go.iloadN (pc' := 12) d_jdk_52_method_21_code_11 rfl rfl ?_
  refine Go.caloadV (pc' := 13) d_jdk_52_method_21_code_12 AC (by decide) rfl rfl ?_
  refine Go.istore (pc' := 15) #[.val (.ref c), .val (.int (0 : Int32)), .val (.ref d), .val (.int (0 : Int32)), .val (.int (2 : Int32)), .val (.int (0 : Int32)), .val (.int c0)] d_jdk_52_method_21_code_13 rfl rfl ?_
  refine Go.iload (pc' := 17) d_jdk_52_method_21_code_15 rfl rfl ?_
  refine Go.sipush (pc' := 20) 255 d_jdk_52_method_21_code_17 rfl rfl ?_
  refine Go.icmpT (pc' := 26) d_jdk_52_method_21_code_20 (hb_c0) (by decide) (by decide) ?_
  refine Go.aloadN (pc' := 27) d_jdk_52_method_21_code_26 rfl rfl rfl ?_
  refine Go.iloadN (pc' := 28) d_jdk_52_method_21_code_27 rfl rfl ?_
  refine Go.iload (pc' := 30) d_jdk_52_method_21_code_28 rfl rfl ?_
  refine Go.i2b (pc' := 31) d_jdk_52_method_21_code_30 rfl ?_
  refine Go.bastoreV (pc' := 32) 0 d_jdk_52_method_21_code_31 AD (by decide) rfl (show 0 < 2 by decide) Sf.nil (by omega) rfl (fun h_1 W_2 A_3 => ?_)
  have szh_1 : h_1.size = h0.size := Wr.size W_2
  have F_4 : Arv Z h_1 d kd .byte (2 : Int32) [(.int (c0).toInt8.toInt32), (.int (0 : Int32))] (.int 0) := by have q := A_3; rw [nar_i2b] at q; exact q
  refine Go.iinc (pc' := 35) (1 : Int32) #[.val (.ref c), .val (.int (1 : Int32)), .val (.ref d), .val (.int (0 : Int32)), .val (.int (2 : Int32)), .val (.int (0 : Int32)), .val (.int c0)] d_jdk_52_method_21_code_32 rfl (by decide) rfl rfl ?_
  refine Go.iinc (pc' := 38) (1 : Int32) #[.val (.ref c), .val (.int (1 : Int32)), .val (.ref d), .val (.int (1 : Int32)), .val (.int (2 : Int32)), .val (.int (0 : Int32)), .val (.int c0)] d_jdk_52_method_21_code_35 rfl (by decide) rfl rfl ?_
  refine Go.iinc (pc' := 41) (1 : Int32) #[.val (.ref c), .val (.int (1 : Int32)), .val (.ref d), .val (.int (1 : Int32)), .val (.int (2 : Int32)), .val (.int (1 : Int32)), .val (.int c0)] d_jdk_52_method_21_code_38 rfl (by decide) rfl rfl ?_
  refine Go.goto (pc' := 3) d_jdk_52_method_21_code_41 (by decide) (by decide) ?_
  refine Go.iload (pc' := 5) d_jdk_52_method_21_code_3 rfl rfl ?_
  refine Go.iload (pc' := 7) d_jdk_52_method_21_code_5 rfl rfl ?_
  refine Go.icmpF (pc' := 10) d_jdk_52_method_21_code_7 (show (1 : Int32) < (2 : Int32) by decide) rfl ?_
  refine Go.aloadN (pc' := 11) d_jdk_52_method_21_code_10 rfl rfl rfl ?_
  refine Go.iloadN (pc' := 12) d_jdk_52_method_21_code_11 rfl rfl ?_
  have F_5 : Arv Z h_1 c kc .char (2 : Int32) [(.int c0), (.int c1)] (.int 0) := (Arv.other AC W_2 (nne (by omega)))
  refine Go.caloadV (pc' := 13) d_jdk_52_method_21_code_12 F_5 (by decide) rfl rfl ?_
  refine Go.istore (pc' := 15) #[.val (.ref c), .val (.int (1 : Int32)), .val (.ref d), .val (.int (1 : Int32)), .val (.int (2 : Int32)), .val (.int (1 : Int32)), .val (.int c1)] d_jdk_52_method_21_code_13 rfl rfl ?_
  refine Go.iload (pc' := 17) d_jdk_52_method_21_code_15 rfl rfl ?_
  refine Go.sipush (pc' := 20) 255 d_jdk_52_method_21_code_17 rfl rfl ?_
  refine Go.icmpT (pc' := 26) d_jdk_52_method_21_code_20 (hb_c1) (by decide) (by decide) ?_
  refine Go.aloadN (pc' := 27) d_jdk_52_method_21_code_26 rfl rfl rfl ?_
  refine Go.iloadN (pc' := 28) d_jdk_52_method_21_code_27 rfl rfl ?_
  refine Go.iload (pc' := 30) d_jdk_52_method_21_code_28 rfl rfl ?_
  refine Go.i2b (pc' := 31) d_jdk_52_method_21_code_30 rfl ?_
  refine Go.bastoreV (pc' := 32) 1 d_jdk_52_method_21_code_31 F_4 (by decide) rfl (show 1 < 2 by decide) Sf.nil (by omega) rfl (fun h_6 W_7 A_8 => ?_)
  have szh_6 : h_6.size = h_1.size := Wr.size W_7
  have F_9 : Arv Z h_6 d kd .byte (2 : Int32) [(.int (c0).toInt8.toInt32), (.int (c1).toInt8.toInt32)] (.int 0) := by have q := A_8; rw [nar_i2b] at q; exact q
  refine Go.iinc (pc' := 35) (2 : Int32) #[.val (.ref c), .val (.int (2 : Int32)), .val (.ref d), .val (.int (1 : Int32)), .val (.int (2 : Int32)), .val (.int (1 : Int32)), .val (.int c1)] d_jdk_52_method_21_code_32 rfl (by decide) rfl rfl ?_
  refine Go.iinc (pc' := 38) (2 : Int32) #[.val (.ref c), .val (.int (2 : Int32)), .val (.ref d), .val (.int (2 : Int32)), .val (.int (2 : Int32)), .val (.int (1 : Int32)), .val (.int c1)] d_jdk_52_method_21_code_35 rfl (by decide) rfl rfl ?_
  refine Go.iinc (pc' := 41) (2 : Int32) #[.val (.ref c), .val (.int (2 : Int32)), .val (.ref d), .val (.int (2 : Int32)), .val (.int (2 : Int32)), .val (.int (2 : Int32)), .val (.int c1)] d_jdk_52_method_21_code_38 rfl (by decide) rfl rfl ?_
  refine Go.goto (pc' := 3) d_jdk_52_method_21_code_41 (by decide) (by decide) ?_
  refine Go.iload (pc' := 5) d_jdk_52_method_21_code_3 rfl rfl ?_
  refine Go.iload (pc' := 7) d_jdk_52_method_21_code_5 rfl rfl ?_
  refine Go.icmpT (pc' := 44) d_jdk_52_method_21_code_7 (show ¬ ((2 : Int32) < (2 : Int32)) by decide) (by decide) (by decide) ?_
  refine Go.iload (pc' := 46) d_jdk_52_method_21_code_44 rfl rfl ?_
  refine Go.retI rfl [] (fun _ q => nomatch q) d_jdk_52_method_21_code_46 (by decide) (by decide) ?_
  exact ⟨rfl, (Keep.wr (Keep.wr (Keep.refl _ [d]) W_2 (Or.inl (by simp))) W_7 (Or.inl (by simp))), F_9⟩
theorem d_jdk_52_method_16_code_0 : decode jdk_52_method_16_code 0 = .ok (.iload_n 2, 1) := by decide +kernel
theorem d_jdk_52_method_16_code_1 : decode jdk_52_method_16_code 1 = .ok (.newarray .byte, 2) := by decide +kernel
theorem d_jdk_52_method_16_code_3 : decode jdk_52_method_16_code 3 = .ok (.astore_n 3, 1) := by decide +kernel
theorem d_jdk_52_method_16_code_4 : decode jdk_52_method_16_code 4 = .ok (.aload_n 0, 1) := by decide +kernel
theorem d_jdk_52_method_16_code_5 : decode jdk_52_method_16_code 5 = .ok (.iload_n 1, 1) := by decide +kernel
theorem d_jdk_52_method_16_code_6 : decode jdk_52_method_16_code 6 = .ok (.aload_n 3, 1) := by decide +kernel
theorem d_jdk_52_method_16_code_7 : decode jdk_52_method_16_code 7 = .ok (.iconst 0, 1) := by decide +kernel
theorem d_jdk_52_method_16_code_8 : decode jdk_52_method_16_code 8 = .ok (.iload_n 2, 1) := by decide +kernel
theorem pd__28_5bCI_5bBII_29I : parseMethodDescriptor "([CI[BII)I" = some ⟨[(.array .char), .int, (.array .byte), .int, .int], (some .int)⟩ := by decide +kernel
theorem d_jdk_52_method_16_code_9 : decode jdk_52_method_16_code 9 = .ok (.invokestatic 115, 3) := by decide +kernel
theorem d_jdk_52_method_16_code_12 : decode jdk_52_method_16_code 12 = .ok (.istore 4, 2) := by decide +kernel
theorem d_jdk_52_method_16_code_14 : decode jdk_52_method_16_code 14 = .ok (.iload 4, 2) := by decide +kernel
theorem d_jdk_52_method_16_code_16 : decode jdk_52_method_16_code 16 = .ok (.iload_n 2, 1) := by decide +kernel
theorem d_jdk_52_method_16_code_17 : decode jdk_52_method_16_code 17 = .ok (.if_icmp .eq 40, 3) := by decide +kernel
theorem d_jdk_52_method_16_code_57 : decode jdk_52_method_16_code 57 = .ok (.aload_n 3, 1) := by decide +kernel
theorem d_jdk_52_method_16_code_58 : decode jdk_52_method_16_code 58 = .ok (.areturn, 1) := by decide +kernel
set_option maxRecDepth 65536 in
set_option maxHeartbeats 40000000 in
theorem ct_cmp3_2 (l : Launch) (Z : State) (a0 : Array Value) (hw : ∀ d ∈ tables_1, d.before a0 Z = true) (n0 : Nat) (h0 : Heap) (c : Addr) (kc : ClassId) (c0 c1 : Int32) (AC : Arv Z h0 c kc .char (2 : Int32) [(.int c0), (.int c1)] (.int 0)) (hb_c0 : ¬ 255 < c0) (hb_c1 : ¬ 255 < c1) (hn0 : n0 ≤ h0.size) :
    Ct l Z (⟨"java/lang/StringUTF16", "compress", "([CII)[B"⟩ : MethodName) jdk_52_method_16_code 6 (some (.array .byte)) ({ frames := 1, cells := 1, slots := 2, locals := 18 } : Room) EL1 n0 false [] #[(.ref c), (.int (0 : Int32)), (.int (2 : Int32))] h0 [] (fun v h N => ∃ d kd, v = some (.ref d) ∧ h0.size ≤ d ∧ d < h.size ∧ Keep h0 h [] ∧ Arv Z h d kd .byte (2 : Int32) [(.int (c0).toInt8.toInt32), (.int (c1).toInt8.toInt32)] (.int 0)) := by
  refine Ct.of (a0 := a0) (plainFor_of_name pn_java_lang_StringUTF16) (own_ew hw) (L0 := #[.val (.ref c), .val (.int (0 : Int32)), .val (.int (2 : Int32)), .unset, .unset, .unset]) (fun m => by first | (simp [entryFrame, mkF, argsToLocals, Value.category]; done) | rfl) ?_
  have ltc := nlt AC.lt
  have l0_AC := nlt AC.lt
  refine Go.iloadN (pc' := 1) d_jdk_52_method_16_code_0 rfl rfl ?_
  refine Go.newPV (pc' := 3) (a1 := a0) 2 [(.int (0 : Int32)), (.int (0 : Int32))] d_jdk_52_method_16_code_1 (hw _ (List.mem_of_getElem? (i := 26) rfl)) (by decide) (by decide) (by decide) (by decide) (by decide) rfl rfl (fun a_1 h_2 cA_3 ha_4 E_5 A_6 => ?_)
  have szh_2 : h0.size ≤ h_2.size := E_5.1
  have lta_1 := nlt A_6.lt
  have qa_1 := neq ha_4
  have F_7 : Arv Z h_2 a_1 cA_3 .byte (2 : Int32) [(.int (0 : Int32)), (.int (0 : Int32))] (.int 0) := A_6
  refine Go.astoreN (pc' := 4) #[.val (.ref c), .val (.int (0 : Int32)), .val (.int (2 : Int32)), .val (.ref a_1), .unset, .unset] d_jdk_52_method_16_code_3 rfl rfl rfl ?_
  refine Go.aloadN (pc' := 5) d_jdk_52_method_16_code_4 rfl rfl rfl ?_
  refine Go.iloadN (pc' := 6) d_jdk_52_method_16_code_5 rfl rfl ?_
  refine Go.aloadN (pc' := 7) d_jdk_52_method_16_code_6 rfl rfl rfl ?_
  refine Go.iconst (pc' := 8) 0 d_jdk_52_method_16_code_7 rfl rfl ?_
  refine Go.iloadN (pc' := 9) d_jdk_52_method_16_code_8 rfl rfl ?_
  have F_10 : Arv Z h_2 c kc .char (2 : Int32) [(.int c0), (.int c1)] (.int 0) := (Arv.ext AC E_5)
  refine Go.callS (a1 := a0) (pc' := 12) (argsL := [(.ref c), (.int (0 : Int32)), (.ref a_1), (.int (0 : Int32)), (.int (2 : Int32))]) (rest := []) (ct_cmp5_2 l Z a0 hw n0 h_2 c a_1 kc cA_3 c0 c1 F_10 F_7 hb_c0 hb_c1 (by omega) (nne (by omega))) d_jdk_52_method_16_code_9 (hw _ (List.mem_of_getElem? (i := 27) rfl)) (hw _ (List.mem_of_getElem? (i := 28) rfl)) (hw _ (List.mem_of_getElem? (i := 24) rfl)) (hw _ (List.mem_of_getElem? (i := 29) rfl)) (by decide) (lenOf pd__28_5bCI_5bBII_29I rfl) rfl 0 rfl rfl (by decide) (by decide) (by decide) (by decide) (by intro x hx; simp only [List.mem_cons, List.not_mem_nil, or_false] at hx; rcases hx with rfl; all_goals simp) rfl (fun v_11 h_12 N_13 hQ_14 hle_15 => ?_)
  obtain ⟨rfl, K_8, F_9⟩ := hQ_14
  have szh_12 : h_2.size ≤ h_12.size := K_8.1
  refine Go.re (pc' := 12) (L' := #[.val (.ref c), .val (.int (0 : Int32)), .val (.int (2 : Int32)), .val (.ref a_1), .unset, .unset]) (S' := [(.int (2 : Int32))]) rfl rfl rfl ?_
  refine Go.istore (pc' := 14) #[.val (.ref c), .val (.int (0 : Int32)), .val (.int (2 : Int32)), .val (.ref a_1), .val (.int (2 : Int32)), .unset] d_jdk_52_method_16_code_12 rfl rfl ?_
  refine Go.iload (pc' := 16) d_jdk_52_method_16_code_14 rfl rfl ?_
  refine Go.iloadN (pc' := 17) d_jdk_52_method_16_code_16 rfl rfl ?_
  refine Go.icmpT (pc' := 57) d_jdk_52_method_16_code_17 (show (2 : Int32) = (2 : Int32) by decide) (by decide) (by decide) ?_
  refine Go.aloadN (pc' := 58) d_jdk_52_method_16_code_57 rfl rfl rfl ?_
  refine Go.retA rfl rfl rfl [] (fun _ q => nomatch q) d_jdk_52_method_16_code_58 (by decide) (by decide) ?_
  exact ⟨a_1, _, rfl, by omega, F_9.lt, (Keep.trans (Keep.ext (Keep.refl _ []) E_5) K_8 (allS (Or.inr (by omega)) all0)), F_9⟩
theorem pn_java_lang_String : plainName "java/lang/String" = true := by first | (simp [plainName, overriddenIn]; done) | decide +kernel
theorem d_jdk_42_method_149_code_0 : decode jdk_42_method_149_code 0 = .ok (.aload_n 0, 1) := by decide +kernel
theorem d_jdk_42_method_149_code_1 : decode jdk_42_method_149_code 1 = .ok (.invokespecial 1, 3) := by decide +kernel
theorem d_jdk_42_method_149_code_4 : decode jdk_42_method_149_code 4 = .ok (.iload_n 3, 1) := by decide +kernel
theorem d_jdk_42_method_149_code_5 : decode jdk_42_method_149_code 5 = .ok (.ifCond .ne 22, 3) := by decide +kernel
theorem d_jdk_42_method_149_code_27 : decode jdk_42_method_149_code 27 = .ok (.getstatic 38, 3) := by decide +kernel
theorem d_jdk_42_method_149_code_30 : decode jdk_42_method_149_code 30 = .ok (.ifCond .eq 28, 3) := by decide +kernel
theorem d_jdk_42_method_149_code_33 : decode jdk_42_method_149_code 33 = .ok (.aload_n 1, 1) := by decide +kernel
theorem d_jdk_42_method_149_code_34 : decode jdk_42_method_149_code 34 = .ok (.iload_n 2, 1) := by decide +kernel
theorem d_jdk_42_method_149_code_35 : decode jdk_42_method_149_code 35 = .ok (.iload_n 3, 1) := by decide +kernel
theorem pd__28_5bCII_29_5bB : parseMethodDescriptor "([CII)[B" = some ⟨[(.array .char), .int, .int], (some (.array .byte))⟩ := by decide +kernel
theorem d_jdk_42_method_149_code_36 : decode jdk_42_method_149_code 36 = .ok (.invokestatic 177, 3) := by decide +kernel
theorem d_jdk_42_method_149_code_39 : decode jdk_42_method_149_code 39 = .ok (.astore 5, 2) := by decide +kernel
theorem d_jdk_42_method_149_code_41 : decode jdk_42_method_149_code 41 = .ok (.aload_n 0, 1) := by decide +kernel
theorem d_jdk_42_method_149_code_42 : decode jdk_42_method_149_code 42 = .ok (.aload 5, 2) := by decide +kernel
theorem d_jdk_42_method_149_code_44 : decode jdk_42_method_149_code 44 = .ok (.iload_n 3, 1) := by decide +kernel
theorem pd__28_5bBI_29B : parseMethodDescriptor "([BI)B" = some ⟨[(.array .byte), .int], (some .byte)⟩ := by decide +kernel
theorem d_jdk_42_method_149_code_45 : decode jdk_42_method_149_code 45 = .ok (.invokestatic 47, 3) := by decide +kernel
theorem d_jdk_42_method_149_code_48 : decode jdk_42_method_149_code 48 = .ok (.putfield 15, 3) := by decide +kernel
theorem d_jdk_42_method_149_code_51 : decode jdk_42_method_149_code 51 = .ok (.aload_n 0, 1) := by decide +kernel
theorem d_jdk_42_method_149_code_52 : decode jdk_42_method_149_code 52 = .ok (.aload 5, 2) := by decide +kernel
theorem d_jdk_42_method_149_code_54 : decode jdk_42_method_149_code 54 = .ok (.putfield 9, 3) := by decide +kernel
theorem d_jdk_42_method_149_code_57 : decode jdk_42_method_149_code 57 = .ok (.return_, 1) := by decide +kernel
set_option maxRecDepth 65536 in
set_option maxHeartbeats 40000000 in
theorem ct_si4_2 (l : Launch) (Z : State) (a0 : Array Value) (hw : ∀ d ∈ tables_1, d.before a0 Z = true) (n0 : Nat) (h0 : Heap) (a1 : Addr) (ha1 : n0 ≤ a1) (E1 : Exa Z h0 a1 "java/lang/String") (G1 : Fld Z h0 a1 "java/lang/String" "value" "[B" .null) (G2 : Fld Z h0 a1 "java/lang/String" "coder" "B" (.int (0 : Int32))) (c : Addr) (kc : ClassId) (c0 c1 : Int32) (AC : Arv Z h0 c kc .char (2 : Int32) [(.int c0), (.int c1)] (.int 0)) (hb_c0 : ¬ 255 < c0) (hb_c1 : ¬ 255 < c1) (cs : Int32) (S_cs : Sta Z h0 "java/lang/String" "COMPACT_STRINGS" "Z" (.int cs)) (hcs : ¬ cs = 0) :
    Ct l Z (⟨"java/lang/String", "<init>", "([CIILjava/lang/Void;)V"⟩ : MethodName) jdk_42_method_149_code 6 none ({ frames := 2, cells := 1, slots := 2, locals := 35 } : Room) EL1 n0 false [] #[(.ref a1), (.ref c), (.int (0 : Int32)), (.int (2 : Int32)), (.null)] h0 [a1] (fun v h N => v = none ∧ ∃ b kb, h0.size ≤ b ∧ b < h.size ∧ Keep h0 h [a1] ∧ Exa Z h a1 "java/lang/String" ∧ Fld Z h a1 "java/lang/String" "coder" "B" (.int (0 : Int32)) ∧ Fld Z h a1 "java/lang/String" "value" "[B" (.ref b) ∧ Arv Z h b kb .byte (2 : Int32) [(.int (c0).toInt8.toInt32), (.int (c1).toInt8.toInt32)] (.int 0)) := by
  refine Ct.of (a0 := a0) (plainFor_of_name pn_java_lang_String) (own_ew hw) (L0 := #[.val (.ref a1), .val (.ref c), .val (.int (0 : Int32)), .val (.int (2 : Int32)), .val (.null), .unset]) (fun m => by first | (simp [entryFrame, mkF, argsToLocals, Value.category]; done) | rfl) ?_
  have ltc := nlt AC.lt
  have lta1 := nlt E1.lt
  have l0_E1 := nlt E1.lt
  have l0_AC := nlt AC.lt
  refine Go.aloadN (pc' := 1) d_jdk_42_method_149_code_0 rfl rfl rfl ?_
  refine Go.initO (pc' := 4) (a1 := a0) d_jdk_42_method_149_code_1 (hw _ (List.mem_of_getElem? (i := 18) rfl)) (hw _ (List.mem_of_getElem? (i := 19) rfl)) (hw _ (List.mem_of_getElem? (i := 20) rfl)) rfl (by decide) 0 rfl (by decide) rfl ?_
  refine Go.iloadN (pc' := 5) d_jdk_42_method_149_code_4 rfl rfl ?_
  refine Go.ifT (pc' := 27) d_jdk_42_method_149_code_5 (show ¬ ((2 : Int32) = (0 : Int32)) by decide) (by decide) (by decide) ?_
  refine Go.getS (pc' := 30) (host := "") (a1 := a0) d_jdk_42_method_149_code_27 (Or.inl (hw _ (List.mem_of_getElem? (i := 21) rfl))) Via.refl S_cs rfl ?_
  refine Go.ifF (pc' := 33) d_jdk_42_method_149_code_30 (hcs) rfl ?_
  refine Go.aloadN (pc' := 34) d_jdk_42_method_149_code_33 rfl rfl rfl ?_
  refine Go.iloadN (pc' := 35) d_jdk_42_method_149_code_34 rfl rfl ?_
  refine Go.iloadN (pc' := 36) d_jdk_42_method_149_code_35 rfl rfl ?_
  refine Go.callS (a1 := a0) (pc' := 39) (argsL := [(.ref c), (.int (0 : Int32)), (.int (2 : Int32))]) (rest := []) (ct_cmp3_2 l Z a0 hw n0 h0 c kc c0 c1 AC hb_c0 hb_c1 (by omega)) d_jdk_42_method_149_code_36 (hw _ (List.mem_of_getElem? (i := 22) rfl)) (hw _ (List.mem_of_getElem? (i := 23) rfl)) (hw _ (List.mem_of_getElem? (i := 24) rfl)) (hw _ (List.mem_of_getElem? (i := 25) rfl)) (by decide) (lenOf pd__28_5bCII_29_5bB rfl) rfl 0 rfl rfl (by decide) (by decide) (by decide) (by decide) (fun _ q => nomatch q) rfl (fun v_7 h_8 N_9 hQ_10 hle_11 => ?_)
  obtain ⟨d_1, kd_2, rfl, g_3, g_4, K_5, F_6⟩ := hQ_10
  have szh_8 : h0.size ≤ h_8.size := K_5.1
  have ltd_1 := nlt g_4
  refine Go.re (pc' := 39) (L' := #[.val (.ref a1), .val (.ref c), .val (.int (0 : Int32)), .val (.int (2 : Int32)), .val (.null), .unset]) (S' := [(.ref d_1)]) rfl rfl rfl ?_
  refine Go.astore (pc' := 41) #[.val (.ref a1), .val (.ref c), .val (.int (0 : Int32)), .val (.int (2 : Int32)), .val (.null), .val (.ref d_1)] d_jdk_42_method_149_code_39 rfl rfl rfl ?_
  refine Go.aloadN (pc' := 42) d_jdk_42_method_149_code_41 rfl rfl rfl ?_
  refine Go.aload (pc' := 44) d_jdk_42_method_149_code_42 rfl rfl rfl ?_
  refine Go.iloadN (pc' := 45) d_jdk_42_method_149_code_44 rfl rfl ?_
  refine Go.callS (a1 := a0) (pc' := 48) (argsL := [(.ref d_1), (.int (2 : Int32))]) (rest := [(.ref a1)]) (ct_cfal l Z a0 hw n0 h_8 d_1 kd_2 (2 : Int32) [(.int (c0).toInt8.toInt32), (.int (c1).toInt8.toInt32)] F_6) d_jdk_42_method_149_code_45 (hw _ (List.mem_of_getElem? (i := 30) rfl)) (hw _ (List.mem_of_getElem? (i := 31) rfl)) (hw _ (List.mem_of_getElem? (i := 24) rfl)) (hw _ (List.mem_of_getElem? (i := 32) rfl)) (by decide) (lenOf pd__28_5bBI_29B rfl) rfl 1 rfl rfl (by decide) (by decide) (by decide) (by decide) (fun _ q => nomatch q) rfl (fun v_12 h_13 N_14 hQ_15 hle_16 => ?_)
  obtain ⟨rfl, rfl⟩ := hQ_15
  refine Go.re (pc' := 48) (L' := #[.val (.ref a1), .val (.ref c), .val (.int (0 : Int32)), .val (.int (2 : Int32)), .val (.null), .val (.ref d_1)]) (S' := [(.int (0 : Int32)), (.ref a1)]) rfl rfl rfl ?_
  have F_17 : Fld Z h_8 a1 "java/lang/String" "coder" "B" (.int (0 : Int32)) := (Fld.keep G2 K_5 nin0)
  have F_18 : Exa Z h_8 a1 "java/lang/String" := (Exa.keep E1 K_5)
  refine Go.putF (pc' := 51) (host := "") (a1 := a0) d_jdk_42_method_149_code_48 (Or.inl (hw _ (List.mem_of_getElem? (i := 33) rfl))) Via.refl F_17 F_18 (Or.inr ⟨(hw _ (List.mem_of_getElem? (i := 34) rfl)), rfl, rfl⟩) (hw _ (List.mem_of_getElem? (i := 9) rfl)) (ty := .byte) (by decide) rfl rfl Sf.nil (by omega) rfl (fun h_19 W_20 => ?_)
  have szh_19 : h_19.size = h_8.size := Wr.size W_20
  have F_21 : Fld Z h_19 a1 "java/lang/String" "coder" "B" (.int (0 : Int32)) := Fld.same W_20 F_17
  refine Go.aloadN (pc' := 52) d_jdk_42_method_149_code_51 rfl rfl rfl ?_
  refine Go.aload (pc' := 54) d_jdk_42_method_149_code_52 rfl rfl rfl ?_
  have F_22 : Fld Z h_19 a1 "java/lang/String" "value" "[B" (.null) := (Fld.other W_20 (Fld.keep G1 K_5 nin0) (Or.inr (slot_ne (Or.inr (hw _ (List.mem_of_getElem? (i := 36) rfl))) (Or.inr (hw _ (List.mem_of_getElem? (i := 34) rfl))) (by decide) (t := (.array .byte)) (t' := .byte) (by decide) (by decide))))
  have F_23 : Exa Z h_19 a1 "java/lang/String" := (Exa.wr W_20 F_18)
  refine Go.putF (pc' := 57) (host := "") (a1 := a0) d_jdk_42_method_149_code_54 (Or.inl (hw _ (List.mem_of_getElem? (i := 35) rfl))) Via.refl F_22 F_23 (Or.inr ⟨(hw _ (List.mem_of_getElem? (i := 36) rfl)), rfl, rfl⟩) (hw _ (List.mem_of_getElem? (i := 9) rfl)) (ty := (.array .byte)) (by decide) rfl rfl Sf.nil (by omega) rfl (fun h_24 W_25 => ?_)
  have szh_24 : h_24.size = h_19.size := Wr.size W_25
  have F_26 : Fld Z h_24 a1 "java/lang/String" "value" "[B" (.ref d_1) := Fld.same W_25 F_22
  have F_27 : Arv Z h_24 d_1 kd_2 .byte (2 : Int32) [(.int (c0).toInt8.toInt32), (.int (c1).toInt8.toInt32)] (.int 0) := (Arv.other (Arv.other F_6 W_20 (nne (by omega))) W_25 (nne (by omega)))
  have F_28 : Exa Z h_24 a1 "java/lang/String" := (Exa.wr W_25 F_23)
  have F_29 : Fld Z h_24 a1 "java/lang/String" "coder" "B" (.int (0 : Int32)) := (Fld.other W_25 F_21 (Or.inr (slot_ne (Or.inr (hw _ (List.mem_of_getElem? (i := 34) rfl))) (Or.inr (hw _ (List.mem_of_getElem? (i := 36) rfl))) (by decide) (t := .byte) (t' := (.array .byte)) (by decide) (by decide))))
  have F_30 : Arv Z h_24 d_1 kd_2 .byte (2 : Int32) [(.int (c0).toInt8.toInt32), (.int (c1).toInt8.toInt32)] (.int 0) := (Arv.other (Arv.other F_6 W_20 (nne (by omega))) W_25 (nne (by omega)))
  refine Go.ret0 rfl [] (fun _ q => nomatch q) d_jdk_42_method_149_code_57 (by decide) (by decide) ?_
  exact ⟨rfl, d_1, kd_2, by omega, F_27.lt, (Keep.wr (Keep.wr (Keep.trans (Keep.refl _ [a1]) K_5 all0) W_20 (Or.inl (by simp))) W_25 (Or.inl (by simp))), F_28, F_29, F_26, F_30⟩
theorem d_jdk_42_method_3_code_0 : decode jdk_42_method_3_code 0 = .ok (.aload_n 0, 1) := by decide +kernel
theorem d_jdk_42_method_3_code_1 : decode jdk_42_method_3_code 1 = .ok (.aload_n 1, 1) := by decide +kernel
theorem d_jdk_42_method_3_code_2 : decode jdk_42_method_3_code 2 = .ok (.iconst 0, 1) := by decide +kernel
theorem d_jdk_42_method_3_code_3 : decode jdk_42_method_3_code 3 = .ok (.aload_n 1, 1) := by decide +kernel
theorem d_jdk_42_method_3_code_4 : decode jdk_42_method_3_code 4 = .ok (.arraylength, 1) := by decide +kernel
theorem d_jdk_42_method_3_code_5 : decode jdk_42_method_3_code 5 = .ok (.aconst_null, 1) := by decide +kernel
theorem pd__28_5bCIILjava_2flang_2fVoid_3b_29V : parseMethodDescriptor "([CIILjava/lang/Void;)V" = some ⟨[(.array .char), .int, .int, (.object "java/lang/Void")], none⟩ := by decide +kernel
theorem d_jdk_42_method_3_code_6 : decode jdk_42_method_3_code 6 = .ok (.invokespecial 27, 3) := by decide +kernel
theorem d_jdk_42_method_3_code_9 : decode jdk_42_method_3_code 9 = .ok (.return_, 1) := by decide +kernel
set_option maxRecDepth 65536 in
set_option maxHeartbeats 40000000 in
theorem ct_si1_2 (l : Launch) (Z : State) (a0 : Array Value) (hw : ∀ d ∈ tables_1, d.before a0 Z = true) (n0 : Nat) (h0 : Heap) (a1 : Addr) (ha1 : n0 ≤ a1) (E1 : Exa Z h0 a1 "java/lang/String") (G1 : Fld Z h0 a1 "java/lang/String" "value" "[B" .null) (G2 : Fld Z h0 a1 "java/lang/String" "coder" "B" (.int (0 : Int32))) (c : Addr) (kc : ClassId) (c0 c1 : Int32) (AC : Arv Z h0 c kc .char (2 : Int32) [(.int c0), (.int c1)] (.int 0)) (hb_c0 : ¬ 255 < c0) (hb_c1 : ¬ 255 < c1) (cs : Int32) (S_cs : Sta Z h0 "java/lang/String" "COMPACT_STRINGS" "Z" (.int cs)) (hcs : ¬ cs = 0) :
    Ct l Z (⟨"java/lang/String", "<init>", "([C)V"⟩ : MethodName) jdk_42_method_3_code 2 none ({ frames := 3, cells := 1, slots := 2, locals := 52 } : Room) EL1 n0 false [] #[(.ref a1), (.ref c)] h0 [a1] (fun v h N => v = none ∧ ∃ b kb, h0.size ≤ b ∧ b < h.size ∧ Keep h0 h [a1] ∧ Exa Z h a1 "java/lang/String" ∧ Fld Z h a1 "java/lang/String" "coder" "B" (.int (0 : Int32)) ∧ Fld Z h a1 "java/lang/String" "value" "[B" (.ref b) ∧ Arv Z h b kb .byte (2 : Int32) [(.int (c0).toInt8.toInt32), (.int (c1).toInt8.toInt32)] (.int 0)) := by
  refine Ct.of (a0 := a0) (plainFor_of_name pn_java_lang_String) (own_ew hw) (L0 := #[.val (.ref a1), .val (.ref c)]) (fun m => by first | (simp [entryFrame, mkF, argsToLocals, Value.category]; done) | rfl) ?_
  have ltc := nlt AC.lt
  have lta1 := nlt E1.lt
  have l0_E1 := nlt E1.lt
  have l0_AC := nlt AC.lt
  refine Go.aloadN (pc' := 1) d_jdk_42_method_3_code_0 rfl rfl rfl ?_
  refine Go.aloadN (pc' := 2) d_jdk_42_method_3_code_1 rfl rfl rfl ?_
  refine Go.iconst (pc' := 3) 0 d_jdk_42_method_3_code_2 rfl rfl ?_
  refine Go.aloadN (pc' := 4) d_jdk_42_method_3_code_3 rfl rfl rfl ?_
  refine Go.alenV (pc' := 5) d_jdk_42_method_3_code_4 AC rfl ?_
  refine Go.aconstNull (pc' := 6) d_jdk_42_method_3_code_5 rfl ?_
  refine Go.callN (a1 := a0) (pc' := 9) (argsL := [(.ref c), (.int (0 : Int32)), (.int (2 : Int32)), (.null)]) (rest := []) (ct_si4_2 l Z a0 hw n0 h0 a1 (by omega) E1 G1 G2 c kc c0 c1 AC hb_c0 hb_c1 cs S_cs hcs) d_jdk_42_method_3_code_6 rfl (hw _ (List.mem_of_getElem? (i := 14) rfl)) (hw _ (List.mem_of_getElem? (i := 15) rfl)) (hw _ (List.mem_of_getElem? (i := 10) rfl)) (hw _ (List.mem_of_getElem? (i := 17) rfl)) (by decide) (lenOf pd__28_5bCIILjava_2flang_2fVoid_3b_29V rfl) rfl 0 rfl rfl (by decide) (by decide) (by decide) (by decide) (by intro x hx; simp only [List.mem_cons, List.not_mem_nil, or_false] at hx; rcases hx with rfl; all_goals simp) rfl (fun v_10 h_11 N_12 hQ_13 hle_14 => ?_)
  obtain ⟨rfl, b_1, kb_2, g_3, g_4, K_5, X_6, F_7, F_8, A_9⟩ := hQ_13
  have szh_11 : h0.size ≤ h_11.size := K_5.1
  have ltb_1 := nlt g_4
  refine Go.re (pc' := 9) (L' := #[.val (.ref a1), .val (.ref c)]) (S' := []) rfl rfl rfl ?_
  refine Go.ret0 rfl [] (fun _ q => nomatch q) d_jdk_42_method_3_code_9 (by decide) (by decide) ?_
  exact ⟨rfl, b_1, kb_2, by omega, A_9.lt, (Keep.trans (Keep.refl _ [a1]) K_5 (allS (Or.inl (by simp)) all0)), X_6, F_7, F_8, A_9⟩
theorem pn_com_example_cartulary_cartulary_ColumnOrElsePinLaw : plainName "com/example/cartulary/cartulary/ColumnOrElsePinLaw" = true := by first | (simp [plainName, overriddenIn]; done) | decide +kernel
theorem d_method_3_code_0 : decode method_3_code 0 = .ok (.iload_n 0, 1) := by decide +kernel
theorem d_method_3_code_1 : decode method_3_code 1 = .ok (.iconst 1, 1) := by decide +kernel
theorem d_method_3_code_2 : decode method_3_code 2 = .ok (.if_icmp .ne 7, 3) := by decide +kernel
theorem d_method_3_code_9 : decode method_3_code 9 = .ok (.iload_n 0, 1) := by decide +kernel
theorem d_method_3_code_10 : decode method_3_code 10 = .ok (.iconst 2, 1) := by decide +kernel
theorem d_method_3_code_11 : decode method_3_code 11 = .ok (.if_icmp .ne 7, 3) := by decide +kernel
theorem d_method_3_code_18 : decode method_3_code 18 = .ok (.iload_n 0, 1) := by decide +kernel
theorem d_method_3_code_19 : decode method_3_code 19 = .ok (.iconst 3, 1) := by decide +kernel
theorem d_method_3_code_20 : decode method_3_code 20 = .ok (.if_icmp .ne 7, 3) := by decide +kernel
theorem d_method_3_code_27 : decode method_3_code 27 = .ok (.iload_n 0, 1) := by decide +kernel
theorem d_method_3_code_28 : decode method_3_code 28 = .ok (.iconst 4, 1) := by decide +kernel
theorem d_method_3_code_29 : decode method_3_code 29 = .ok (.if_icmp .ne 7, 3) := by decide +kernel
theorem d_method_3_code_36 : decode method_3_code 36 = .ok (.aconst_null, 1) := by decide +kernel
theorem d_method_3_code_37 : decode method_3_code 37 = .ok (.areturn, 1) := by decide +kernel
theorem d_method_3_code_32 : decode method_3_code 32 = .ok (.getstatic 81, 3) := by decide +kernel
theorem d_method_3_code_35 : decode method_3_code 35 = .ok (.areturn, 1) := by decide +kernel
theorem d_method_3_code_23 : decode method_3_code 23 = .ok (.getstatic 78, 3) := by decide +kernel
theorem d_method_3_code_26 : decode method_3_code 26 = .ok (.areturn, 1) := by decide +kernel
theorem d_method_3_code_14 : decode method_3_code 14 = .ok (.getstatic 75, 3) := by decide +kernel
theorem d_method_3_code_17 : decode method_3_code 17 = .ok (.areturn, 1) := by decide +kernel
theorem d_method_3_code_5 : decode method_3_code 5 = .ok (.getstatic 69, 3) := by decide +kernel
theorem d_method_3_code_8 : decode method_3_code 8 = .ok (.areturn, 1) := by decide +kernel
set_option maxRecDepth 65536 in
set_option maxHeartbeats 40000000 in
theorem ct_type (l : Launch) (Z : State) (a0 : Array Value) (hw : ∀ d ∈ tables_1, d.before a0 Z = true) (n0 : Nat) (h0 : Heap) (p1 : Int32) (o_TEXT : Addr) (S_TEXT : Sta Z h0 "com/example/cartulary/cartulary/ColumnType" "TEXT" "Lcom/example/cartulary/cartulary/ColumnType;" (.ref o_TEXT)) (o_INTEGER : Addr) (S_INTEGER : Sta Z h0 "com/example/cartulary/cartulary/ColumnType" "INTEGER" "Lcom/example/cartulary/cartulary/ColumnType;" (.ref o_INTEGER)) (o_TIMESTAMP : Addr) (S_TIMESTAMP : Sta Z h0 "com/example/cartulary/cartulary/ColumnType" "TIMESTAMP" "Lcom/example/cartulary/cartulary/ColumnType;" (.ref o_TIMESTAMP)) (o_NUMERIC : Addr) (S_NUMERIC : Sta Z h0 "com/example/cartulary/cartulary/ColumnType" "NUMERIC" "Lcom/example/cartulary/cartulary/ColumnType;" (.ref o_NUMERIC)) :
    Ct l Z (⟨"com/example/cartulary/cartulary/ColumnOrElsePinLaw", "type", "(I)Lcom/example/cartulary/cartulary/ColumnType;"⟩ : MethodName) method_3_code 1 (some (.object "com/example/cartulary/cartulary/ColumnType")) ({ frames := 0, cells := 0, slots := 0, locals := 0 } : Room) EL1 n0 false [] #[(.int p1)] h0 [] (fun v h N => h0 = h ∧ ∃ u, v = some u ∧ u.isRef = true) := by
  refine Ct.of (a0 := a0) (plainFor_of_name pn_com_example_cartulary_cartulary_ColumnOrElsePinLaw) (own_ew hw) (L0 := #[.val (.int p1)]) (fun m => by first | (simp [entryFrame, mkF, argsToLocals, Value.category]; done) | rfl) ?_
  refine Go.iloadN (pc' := 1) d_method_3_code_0 rfl rfl ?_
  refine Go.iconst (pc' := 2) 1 d_method_3_code_1 rfl rfl ?_
  refine Go.icmp (pc' := 9) (pc'' := 5) d_method_3_code_2 (by decide) (by decide) rfl (fun hc_1 => ?_) (fun hc_1 => ?_)
  · have hc_1 : ¬ (p1 = (1 : Int32)) := hc_1
    refine Go.iloadN (pc' := 10) d_method_3_code_9 rfl rfl ?_
    refine Go.iconst (pc' := 11) 2 d_method_3_code_10 rfl rfl ?_
    refine Go.icmp (pc' := 18) (pc'' := 14) d_method_3_code_11 (by decide) (by decide) rfl (fun hc_2 => ?_) (fun hc_2 => ?_)
    · have hc_2 : ¬ (p1 = (2 : Int32)) := hc_2
      refine Go.iloadN (pc' := 19) d_method_3_code_18 rfl rfl ?_
      refine Go.iconst (pc' := 20) 3 d_method_3_code_19 rfl rfl ?_
      refine Go.icmp (pc' := 27) (pc'' := 23) d_method_3_code_20 (by decide) (by decide) rfl (fun hc_3 => ?_) (fun hc_3 => ?_)
      · have hc_3 : ¬ (p1 = (3 : Int32)) := hc_3
        refine Go.iloadN (pc' := 28) d_method_3_code_27 rfl rfl ?_
        refine Go.iconst (pc' := 29) 4 d_method_3_code_28 rfl rfl ?_
        refine Go.icmp (pc' := 36) (pc'' := 32) d_method_3_code_29 (by decide) (by decide) rfl (fun hc_4 => ?_) (fun hc_4 => ?_)
        · have hc_4 : ¬ (p1 = (4 : Int32)) := hc_4
          refine Go.aconstNull (pc' := 37) d_method_3_code_36 rfl ?_
          refine Go.retA rfl rfl rfl [] (fun _ q => nomatch q) d_method_3_code_37 (by decide) (by decide) ?_
          exact ⟨rfl, _, rfl, rfl⟩
        · have hc_4 : p1 = (4 : Int32) := hc_4
          refine Go.getS (pc' := 35) (host := "") (a1 := a0) d_method_3_code_32 (Or.inl (hw _ (List.mem_of_getElem? (i := 172) rfl))) Via.refl S_TIMESTAMP rfl ?_
          refine Go.retA rfl rfl rfl [] (fun _ q => nomatch q) d_method_3_code_35 (by decide) (by decide) ?_
          exact ⟨rfl, _, rfl, rfl⟩
      · have hc_3 : p1 = (3 : Int32) := hc_3
        refine Go.getS (pc' := 26) (host := "") (a1 := a0) d_method_3_code_23 (Or.inl (hw _ (List.mem_of_getElem? (i := 174) rfl))) Via.refl S_NUMERIC rfl ?_
        refine Go.retA rfl rfl rfl [] (fun _ q => nomatch q) d_method_3_code_26 (by decide) (by decide) ?_
        exact ⟨rfl, _, rfl, rfl⟩
    · have hc_2 : p1 = (2 : Int32) := hc_2
      refine Go.getS (pc' := 17) (host := "") (a1 := a0) d_method_3_code_14 (Or.inl (hw _ (List.mem_of_getElem? (i := 170) rfl))) Via.refl S_INTEGER rfl ?_
      refine Go.retA rfl rfl rfl [] (fun _ q => nomatch q) d_method_3_code_17 (by decide) (by decide) ?_
      exact ⟨rfl, _, rfl, rfl⟩
  · have hc_1 : p1 = (1 : Int32) := hc_1
    refine Go.getS (pc' := 8) (host := "") (a1 := a0) d_method_3_code_5 (Or.inl (hw _ (List.mem_of_getElem? (i := 4) rfl))) Via.refl S_TEXT rfl ?_
    refine Go.retA rfl rfl rfl [] (fun _ q => nomatch q) d_method_3_code_8 (by decide) (by decide) ?_
    exact ⟨rfl, _, rfl, rfl⟩
theorem pn_java_lang_Number : plainName "java/lang/Number" = true := by first | (simp [plainName, overriddenIn]; done) | decide +kernel
theorem d_jdk_18_method_1_code_0 : decode jdk_18_method_1_code 0 = .ok (.aload_n 0, 1) := by decide +kernel
theorem d_jdk_18_method_1_code_1 : decode jdk_18_method_1_code 1 = .ok (.invokespecial 1, 3) := by decide +kernel
theorem d_jdk_18_method_1_code_4 : decode jdk_18_method_1_code 4 = .ok (.return_, 1) := by decide +kernel
set_option maxRecDepth 65536 in
set_option maxHeartbeats 40000000 in
theorem ct_num (l : Launch) (Z : State) (a0 : Array Value) (hw : ∀ d ∈ tables_1, d.before a0 Z = true) (n0 : Nat) (h0 : Heap) (a1 : Addr) :
    Ct l Z (⟨"java/lang/Number", "<init>", "()V"⟩ : MethodName) jdk_18_method_1_code 1 none ({ frames := 1, cells := 0, slots := 0, locals := 12 } : Room) EL1 n0 false [] #[(.ref a1)] h0 [] (fun v h N => h0 = h ∧ v = none) := by
  refine Ct.of (a0 := a0) (plainFor_of_name pn_java_lang_Number) (own_ew hw) (L0 := #[.val (.ref a1)]) (fun m => by first | (simp [entryFrame, mkF, argsToLocals, Value.category]; done) | rfl) ?_
  refine Go.aloadN (pc' := 1) d_jdk_18_method_1_code_0 rfl rfl rfl ?_
  refine Go.initO (pc' := 4) (a1 := a0) d_jdk_18_method_1_code_1 (hw _ (List.mem_of_getElem? (i := 167) rfl)) (hw _ (List.mem_of_getElem? (i := 19) rfl)) (hw _ (List.mem_of_getElem? (i := 20) rfl)) rfl (by decide) 0 rfl (by decide) rfl ?_
  refine Go.ret0 rfl [] (fun _ q => nomatch q) d_jdk_18_method_1_code_4 (by decide) (by decide) ?_
  exact ⟨rfl, rfl⟩
theorem pn_java_lang_Integer : plainName "java/lang/Integer" = true := by first | (simp [plainName, overriddenIn]; done) | decide +kernel
theorem d_jdk_33_method_23_code_0 : decode jdk_33_method_23_code 0 = .ok (.aload_n 0, 1) := by decide +kernel
theorem pd__28_29V : parseMethodDescriptor "()V" = some ⟨[], none⟩ := by decide +kernel
theorem d_jdk_33_method_23_code_1 : decode jdk_33_method_23_code 1 = .ok (.invokespecial 202, 3) := by decide +kernel
theorem d_jdk_33_method_23_code_4 : decode jdk_33_method_23_code 4 = .ok (.aload_n 0, 1) := by decide +kernel
theorem d_jdk_33_method_23_code_5 : decode jdk_33_method_23_code 5 = .ok (.iload_n 1, 1) := by decide +kernel
theorem d_jdk_33_method_23_code_6 : decode jdk_33_method_23_code 6 = .ok (.putfield 205, 3) := by decide +kernel
theorem d_jdk_33_method_23_code_9 : decode jdk_33_method_23_code 9 = .ok (.return_, 1) := by decide +kernel
set_option maxRecDepth 65536 in
set_option maxHeartbeats 40000000 in
theorem ct_int0 (l : Launch) (Z : State) (a0 : Array Value) (hw : ∀ d ∈ tables_1, d.before a0 Z = true) (n0 : Nat) (h0 : Heap) (a1 : Addr) (p1 : Int32) (ha1 : n0 ≤ a1) (E1 : Exa Z h0 a1 "java/lang/Integer") (G0 : Fld Z h0 a1 "java/lang/Integer" "value" "I" (.int (0 : Int32))) :
    Ct l Z (⟨"java/lang/Integer", "<init>", "(I)V"⟩ : MethodName) jdk_33_method_23_code 2 none ({ frames := 2, cells := 0, slots := 0, locals := 24 } : Room) EL1 n0 false [] #[(.ref a1), (.int p1)] h0 [] (fun v h N => v = none ∧ Keep h0 h [a1]) := by
  refine Ct.of (a0 := a0) (plainFor_of_name pn_java_lang_Integer) (own_ew hw) (L0 := #[.val (.ref a1), .val (.int p1)]) (fun m => by first | (simp [entryFrame, mkF, argsToLocals, Value.category]; done) | rfl) ?_
  have lta1 := nlt E1.lt
  have l0_E1 := nlt E1.lt
  refine Go.aloadN (pc' := 1) d_jdk_33_method_23_code_0 rfl rfl rfl ?_
  refine Go.callN (a1 := a0) (pc' := 4) (argsL := []) (rest := []) (ct_num l Z a0 hw n0 h0 a1) d_jdk_33_method_23_code_1 rfl (hw _ (List.mem_of_getElem? (i := 161) rfl)) (hw _ (List.mem_of_getElem? (i := 162) rfl)) (hw _ (List.mem_of_getElem? (i := 165) rfl)) (hw _ (List.mem_of_getElem? (i := 166) rfl)) (by decide) (lenOf pd__28_29V rfl) rfl 0 rfl rfl (by decide) (by decide) (by decide) (by decide) (fun _ q => nomatch q) rfl (fun v_1 h_2 N_3 hQ_4 hle_5 => ?_)
  obtain ⟨rfl, rfl⟩ := hQ_4
  refine Go.re (pc' := 4) (L' := #[.val (.ref a1), .val (.int p1)]) (S' := []) rfl rfl rfl ?_
  refine Go.aloadN (pc' := 5) d_jdk_33_method_23_code_4 rfl rfl rfl ?_
  refine Go.iloadN (pc' := 6) d_jdk_33_method_23_code_5 rfl rfl ?_
  refine Go.putF (pc' := 9) (host := "") (a1 := a0) d_jdk_33_method_23_code_6 (Or.inl (hw _ (List.mem_of_getElem? (i := 168) rfl))) Via.refl G0 E1 (Or.inr ⟨(hw _ (List.mem_of_getElem? (i := 169) rfl)), rfl, rfl⟩) (hw _ (List.mem_of_getElem? (i := 156) rfl)) (ty := .int) (by decide) rfl rfl (Sf.exa E1 (by decide) (by decide)) (by omega) rfl (fun h_6 W_7 => ?_)
  have szh_6 : h_6.size = h0.size := Wr.size W_7
  have F_8 : Fld Z h_6 a1 "java/lang/Integer" "value" "I" (.int p1) := Fld.same W_7 G0
  refine Go.ret0 rfl [] (fun _ q => nomatch q) d_jdk_33_method_23_code_9 (by decide) (by decide) ?_
  exact ⟨rfl, (Keep.wr (Keep.refl _ [a1]) W_7 (Or.inl (by simp)))⟩
theorem own_ci {x : Int32} (h1 : ¬ x < -128) (h2 : ¬ 127 < x) : ¬ (x + 128) < 0 ∧ (x + 128).toNatClampNeg < 256 := by
  rw [Int32.lt_iff_toInt_lt] at h1 h2
  have e1 : (-128 : Int32).toInt = -128 := by decide
  have e2 : (127 : Int32).toInt = 127 := by decide
  have e3 : (128 : Int32).toInt = 128 := by decide
  have e0 : (0 : Int32).toInt = 0 := by decide
  have e : (x + 128).toInt = x.toInt + 128 := by
    rw [Int32.toInt_add, e3]
    exact Int.bmod_eq_of_le (by omega) (by omega)
  have e4 : (x + 128).toNatClampNeg = (x + 128).toInt.toNat := rfl
  rw [Int32.lt_iff_toInt_lt, e4, e, e0]
  omega
theorem d_jdk_33_method_22_code_0 : decode jdk_33_method_22_code 0 = .ok (.iload_n 0, 1) := by decide +kernel
theorem d_jdk_33_method_22_code_1 : decode jdk_33_method_22_code 1 = .ok (.bipush (-128), 2) := by decide +kernel
theorem d_jdk_33_method_22_code_3 : decode jdk_33_method_22_code 3 = .ok (.if_icmp .lt 20, 3) := by decide +kernel
theorem d_jdk_33_method_22_code_23 : decode jdk_33_method_22_code 23 = .ok (.new 1, 3) := by decide +kernel
theorem d_jdk_33_method_22_code_26 : decode jdk_33_method_22_code 26 = .ok (.dup, 1) := by decide +kernel
theorem d_jdk_33_method_22_code_27 : decode jdk_33_method_22_code 27 = .ok (.iload_n 0, 1) := by decide +kernel
theorem pd__28I_29V : parseMethodDescriptor "(I)V" = some ⟨[.int], none⟩ := by decide +kernel
theorem d_jdk_33_method_22_code_28 : decode jdk_33_method_22_code 28 = .ok (.invokespecial 199, 3) := by decide +kernel
theorem d_jdk_33_method_22_code_31 : decode jdk_33_method_22_code 31 = .ok (.areturn, 1) := by decide +kernel
theorem d_jdk_33_method_22_code_6 : decode jdk_33_method_22_code 6 = .ok (.iload_n 0, 1) := by decide +kernel
theorem d_jdk_33_method_22_code_7 : decode jdk_33_method_22_code 7 = .ok (.getstatic 191, 3) := by decide +kernel
theorem d_jdk_33_method_22_code_10 : decode jdk_33_method_22_code 10 = .ok (.if_icmp .gt 13, 3) := by decide +kernel
theorem d_jdk_33_method_22_code_13 : decode jdk_33_method_22_code 13 = .ok (.getstatic 195, 3) := by decide +kernel
theorem d_jdk_33_method_22_code_16 : decode jdk_33_method_22_code 16 = .ok (.iload_n 0, 1) := by decide +kernel
theorem d_jdk_33_method_22_code_17 : decode jdk_33_method_22_code 17 = .ok (.sipush 128, 3) := by decide +kernel
theorem d_jdk_33_method_22_code_20 : decode jdk_33_method_22_code 20 = .ok (.iadd, 1) := by decide +kernel
theorem d_jdk_33_method_22_code_21 : decode jdk_33_method_22_code 21 = .ok (.aaload, 1) := by decide +kernel
theorem d_jdk_33_method_22_code_22 : decode jdk_33_method_22_code 22 = .ok (.areturn, 1) := by decide +kernel
set_option maxRecDepth 65536 in
set_option maxHeartbeats 40000000 in
theorem ct_valueOf (l : Launch) (Z : State) (a0 : Array Value) (hw : ∀ d ∈ tables_1, d.before a0 Z = true) (n0 : Nat) (h0 : Heap) (p1 : Int32) (hn0 : n0 ≤ h0.size) (cb : Addr) (ccl : Cell) (S_hi : Sta Z h0 "java/lang/Integer$IntegerCache" "high" "I" (.int (127 : Int32))) (S_ca : Sta Z h0 "java/lang/Integer$IntegerCache" "cache" "[Ljava/lang/Integer;" (.ref cb)) (A_ca : RoadKit.Arr Z h0 cb ccl (.object "java/lang/Integer")) (hcs_ : ccl.slots.size = 256) (hel : ∀ j, j < 256 → ∃ b, ccl.slots[j]? = some (.ref b)) (hcb : cb < n0) :
    Ct l Z (⟨"java/lang/Integer", "valueOf", "(I)Ljava/lang/Integer;"⟩ : MethodName) jdk_33_method_22_code 1 (some (.object "java/lang/Integer")) ({ frames := 3, cells := 1, slots := 1, locals := 38 } : Room) EL1 n0 false [] #[(.int p1)] h0 [] (fun v h N => ∃ a, v = some (.ref a) ∧ Keep h0 h []) := by
  refine Ct.of (a0 := a0) (plainFor_of_name pn_java_lang_Integer) (own_ew hw) (L0 := #[.val (.int p1)]) (fun m => by first | (simp [entryFrame, mkF, argsToLocals, Value.category]; done) | rfl) ?_
  have l0_A_ca := nlt A_ca.lt
  refine Go.iloadN (pc' := 1) d_jdk_33_method_22_code_0 rfl rfl ?_
  refine Go.bipush (pc' := 3) (-128) d_jdk_33_method_22_code_1 rfl rfl ?_
  refine Go.icmp (pc' := 23) (pc'' := 6) d_jdk_33_method_22_code_3 (by decide) (by decide) rfl (fun hc_1 => ?_) (fun hc_1 => ?_)
  · have hc_1 : p1 < (-128 : Int32) := hc_1
    refine Go.newO (pc' := 26) (a1 := a0) d_jdk_33_method_22_code_23 (hw _ (List.mem_of_getElem? (i := 155) rfl)) (hw _ (List.mem_of_getElem? (i := 156) rfl)) (hw _ (List.mem_of_getElem? (i := 150) rfl)) (by decide) (by decide) rfl (fun a_2 h_3 ha_5 E_4 X_6 Df_7 => ?_)
    have szh_3 : h0.size ≤ h_3.size := E_4.1
    have lta_2 := nlt X_6.lt
    have qa_2 := neq ha_5
    have F_8 : Fld Z h_3 a_2 "java/lang/Integer" "value" "I" (.int (0 : Int32)) := Df_7 (Or.inr (hw _ (List.mem_of_getElem? (i := 169) rfl))) (ty := .int) (by decide)
    refine Go.dup (pc' := 27) d_jdk_33_method_22_code_26 rfl rfl ?_
    refine Go.iloadN (pc' := 28) d_jdk_33_method_22_code_27 rfl rfl ?_
    refine Go.callN (a1 := a0) (pc' := 31) (argsL := [(.int p1)]) (rest := [(.ref a_2)]) (ct_int0 l Z a0 hw n0 h_3 a_2 p1 (by omega) X_6 F_8) d_jdk_33_method_22_code_28 rfl (hw _ (List.mem_of_getElem? (i := 157) rfl)) (hw _ (List.mem_of_getElem? (i := 158) rfl)) (hw _ (List.mem_of_getElem? (i := 150) rfl)) (hw _ (List.mem_of_getElem? (i := 160) rfl)) (by decide) (lenOf pd__28I_29V rfl) rfl 1 rfl rfl (by decide) (by decide) (by decide) (by decide) (fun _ q => nomatch q) rfl (fun v_10 h_11 N_12 hQ_13 hle_14 => ?_)
    obtain ⟨rfl, K_9⟩ := hQ_13
    refine Go.re (pc' := 31) (L' := #[.val (.int p1)]) (S' := [(.ref a_2)]) rfl rfl rfl ?_
    refine Go.retA rfl rfl rfl [] (fun _ q => nomatch q) d_jdk_33_method_22_code_31 (by decide) (by decide) ?_
    exact ⟨a_2, rfl, (Keep.trans (Keep.ext (Keep.refl _ []) E_4) K_9 (allS (Or.inr (by omega)) all0))⟩
  · have hc_1 : ¬ (p1 < (-128 : Int32)) := hc_1
    refine Go.iloadN (pc' := 7) d_jdk_33_method_22_code_6 rfl rfl ?_
    refine Go.getS (pc' := 10) (host := "") (a1 := a0) d_jdk_33_method_22_code_7 (Or.inl (hw _ (List.mem_of_getElem? (i := 152) rfl))) Via.refl S_hi rfl ?_
    refine Go.icmp (pc' := 23) (pc'' := 13) d_jdk_33_method_22_code_10 (by decide) (by decide) rfl (fun hc_15 => ?_) (fun hc_15 => ?_)
    · have hc_15 : (127 : Int32) < p1 := hc_15
      refine Go.newO (pc' := 26) (a1 := a0) d_jdk_33_method_22_code_23 (hw _ (List.mem_of_getElem? (i := 155) rfl)) (hw _ (List.mem_of_getElem? (i := 156) rfl)) (hw _ (List.mem_of_getElem? (i := 150) rfl)) (by decide) (by decide) rfl (fun a_16 h_17 ha_19 E_18 X_20 Df_21 => ?_)
      have szh_17 : h0.size ≤ h_17.size := E_18.1
      have lta_16 := nlt X_20.lt
      have qa_16 := neq ha_19
      have F_22 : Fld Z h_17 a_16 "java/lang/Integer" "value" "I" (.int (0 : Int32)) := Df_21 (Or.inr (hw _ (List.mem_of_getElem? (i := 169) rfl))) (ty := .int) (by decide)
      refine Go.dup (pc' := 27) d_jdk_33_method_22_code_26 rfl rfl ?_
      refine Go.iloadN (pc' := 28) d_jdk_33_method_22_code_27 rfl rfl ?_
      refine Go.callN (a1 := a0) (pc' := 31) (argsL := [(.int p1)]) (rest := [(.ref a_16)]) (ct_int0 l Z a0 hw n0 h_17 a_16 p1 (by omega) X_20 F_22) d_jdk_33_method_22_code_28 rfl (hw _ (List.mem_of_getElem? (i := 157) rfl)) (hw _ (List.mem_of_getElem? (i := 158) rfl)) (hw _ (List.mem_of_getElem? (i := 150) rfl)) (hw _ (List.mem_of_getElem? (i := 160) rfl)) (by decide) (lenOf pd__28I_29V rfl) rfl 1 rfl rfl (by decide) (by decide) (by decide) (by decide) (fun _ q => nomatch q) rfl (fun v_24 h_25 N_26 hQ_27 hle_28 => ?_)
      obtain ⟨rfl, K_23⟩ := hQ_27
      refine Go.re (pc' := 31) (L' := #[.val (.int p1)]) (S' := [(.ref a_16)]) rfl rfl rfl ?_
      refine Go.retA rfl rfl rfl [] (fun _ q => nomatch q) d_jdk_33_method_22_code_31 (by decide) (by decide) ?_
      exact ⟨a_16, rfl, (Keep.trans (Keep.ext (Keep.refl _ []) E_18) K_23 (allS (Or.inr (by omega)) all0))⟩
    · have hc_15 : ¬ ((127 : Int32) < p1) := hc_15
      refine Go.getS (pc' := 16) (host := "") (a1 := a0) d_jdk_33_method_22_code_13 (Or.inl (hw _ (List.mem_of_getElem? (i := 154) rfl))) Via.refl S_ca rfl ?_
      refine Go.iloadN (pc' := 17) d_jdk_33_method_22_code_16 rfl rfl ?_
      refine Go.sipush (pc' := 20) 128 d_jdk_33_method_22_code_17 rfl rfl ?_
      refine Go.iadd (pc' := 21) d_jdk_33_method_22_code_20 rfl ?_
      have hi9 := own_ci hc_1 hc_15
      obtain ⟨b_29, hb_30⟩ := hel _ hi9.2
      refine Go.aaload (pc' := 22) d_jdk_33_method_22_code_21 A_ca rfl (fun q => q.elim hi9.1 (fun z => by rw [hcs_] at z; omega)) hb_30 rfl ?_
      refine Go.retA rfl rfl rfl [] (fun _ q => nomatch q) d_jdk_33_method_22_code_22 (by decide) (by decide) ?_
      exact ⟨b_29, rfl, (Keep.refl _ [])⟩
theorem d_method_4_code_0 : decode method_4_code 0 = .ok (.iload_n 0, 1) := by decide +kernel
theorem d_method_4_code_1 : decode method_4_code 1 = .ok (.ifCond .ne 5, 3) := by decide +kernel
theorem d_method_4_code_6 : decode method_4_code 6 = .ok (.iload_n 0, 1) := by decide +kernel
theorem d_method_4_code_7 : decode method_4_code 7 = .ok (.iconst 1, 1) := by decide +kernel
theorem d_method_4_code_8 : decode method_4_code 8 = .ok (.if_icmp .ne 8, 3) := by decide +kernel
theorem d_method_4_code_16 : decode method_4_code 16 = .ok (.iload_n 0, 1) := by decide +kernel
theorem d_method_4_code_17 : decode method_4_code 17 = .ok (.iconst 2, 1) := by decide +kernel
theorem d_method_4_code_18 : decode method_4_code 18 = .ok (.if_icmp .ne 5, 3) := by decide +kernel
theorem d_method_4_code_23 : decode method_4_code 23 = .ok (.aload_n 3, 1) := by decide +kernel
theorem d_method_4_code_24 : decode method_4_code 24 = .ok (.areturn, 1) := by decide +kernel
theorem d_method_4_code_21 : decode method_4_code 21 = .ok (.aload_n 2, 1) := by decide +kernel
theorem d_method_4_code_22 : decode method_4_code 22 = .ok (.areturn, 1) := by decide +kernel
theorem d_method_4_code_11 : decode method_4_code 11 = .ok (.iload_n 1, 1) := by decide +kernel
theorem pd__28I_29Ljava_2flang_2fInteger_3b : parseMethodDescriptor "(I)Ljava/lang/Integer;" = some ⟨[.int], (some (.object "java/lang/Integer"))⟩ := by decide +kernel
theorem d_method_4_code_12 : decode method_4_code 12 = .ok (.invokestatic 84, 3) := by decide +kernel
theorem d_method_4_code_15 : decode method_4_code 15 = .ok (.areturn, 1) := by decide +kernel
theorem d_method_4_code_4 : decode method_4_code 4 = .ok (.aconst_null, 1) := by decide +kernel
theorem d_method_4_code_5 : decode method_4_code 5 = .ok (.areturn, 1) := by decide +kernel
set_option maxRecDepth 65536 in
set_option maxHeartbeats 40000000 in
theorem ct_pick (l : Launch) (Z : State) (a0 : Array Value) (hw : ∀ d ∈ tables_1, d.before a0 Z = true) (n0 : Nat) (h0 : Heap) (p1 p2 : Int32) (s1 : Addr) (ov : Value) (hov : ov.isRef = true) (hn0 : n0 ≤ h0.size) (cb : Addr) (ccl : Cell) (S_hi : Sta Z h0 "java/lang/Integer$IntegerCache" "high" "I" (.int (127 : Int32))) (S_ca : Sta Z h0 "java/lang/Integer$IntegerCache" "cache" "[Ljava/lang/Integer;" (.ref cb)) (A_ca : RoadKit.Arr Z h0 cb ccl (.object "java/lang/Integer")) (hcs_ : ccl.slots.size = 256) (hel : ∀ j, j < 256 → ∃ b, ccl.slots[j]? = some (.ref b)) (hcb : cb < n0) :
    Ct l Z (⟨"com/example/cartulary/cartulary/ColumnOrElsePinLaw", "pick", "(IILjava/lang/String;Ljava/lang/Object;)Ljava/lang/Object;"⟩ : MethodName) method_4_code 4 (some (.object "java/lang/Object")) ({ frames := 4, cells := 1, slots := 1, locals := 50 } : Room) EL1 n0 false [] #[(.int p1), (.int p2), (.ref s1), ov] h0 [] (fun v h N => Keep h0 h [] ∧ ∃ u, v = some u ∧ u.isRef = true) := by
  refine Ct.of (a0 := a0) (plainFor_of_name pn_com_example_cartulary_cartulary_ColumnOrElsePinLaw) (own_ew hw) (L0 := #[.val (.int p1), .val (.int p2), .val (.ref s1), .val (ov)]) (fun m => by rcases ref_cases hov with rfl | ⟨_, rfl⟩ <;> first | (simp [entryFrame, mkF, argsToLocals, Value.category]; done) | rfl) ?_
  have l0_A_ca := nlt A_ca.lt
  refine Go.iloadN (pc' := 1) d_method_4_code_0 rfl rfl ?_
  refine Go.ifc (pc' := 6) (pc'' := 4) d_method_4_code_1 (by decide) (by decide) rfl (fun hc_1 => ?_) (fun hc_1 => ?_)
  · have hc_1 : ¬ (p1 = 0) := hc_1
    refine Go.iloadN (pc' := 7) d_method_4_code_6 rfl rfl ?_
    refine Go.iconst (pc' := 8) 1 d_method_4_code_7 rfl rfl ?_
    refine Go.icmp (pc' := 16) (pc'' := 11) d_method_4_code_8 (by decide) (by decide) rfl (fun hc_2 => ?_) (fun hc_2 => ?_)
    · have hc_2 : ¬ (p1 = (1 : Int32)) := hc_2
      refine Go.iloadN (pc' := 17) d_method_4_code_16 rfl rfl ?_
      refine Go.iconst (pc' := 18) 2 d_method_4_code_17 rfl rfl ?_
      refine Go.icmp (pc' := 23) (pc'' := 21) d_method_4_code_18 (by decide) (by decide) rfl (fun hc_3 => ?_) (fun hc_3 => ?_)
      · have hc_3 : ¬ (p1 = (2 : Int32)) := hc_3
        refine Go.aloadN (pc' := 24) d_method_4_code_23 rfl hov rfl ?_
        refine Go.retA rfl rfl hov [] (fun _ q => nomatch q) d_method_4_code_24 (by decide) (by decide) ?_
        exact ⟨(Keep.refl _ []), _, rfl, hov⟩
      · have hc_3 : p1 = (2 : Int32) := hc_3
        refine Go.aloadN (pc' := 22) d_method_4_code_21 rfl rfl rfl ?_
        refine Go.retA rfl rfl rfl [] (fun _ q => nomatch q) d_method_4_code_22 (by decide) (by decide) ?_
        exact ⟨(Keep.refl _ []), _, rfl, rfl⟩
    · have hc_2 : p1 = (1 : Int32) := hc_2
      refine Go.iloadN (pc' := 12) d_method_4_code_11 rfl rfl ?_
      refine Go.callS (a1 := a0) (pc' := 15) (argsL := [(.int p2)]) (rest := []) (ct_valueOf l Z a0 hw n0 h0 p2 (by omega) cb ccl S_hi S_ca A_ca hcs_ hel hcb) d_method_4_code_12 (hw _ (List.mem_of_getElem? (i := 148) rfl)) (hw _ (List.mem_of_getElem? (i := 149) rfl)) (hw _ (List.mem_of_getElem? (i := 150) rfl)) (hw _ (List.mem_of_getElem? (i := 151) rfl)) (by decide) (lenOf pd__28I_29Ljava_2flang_2fInteger_3b rfl) rfl 0 rfl rfl (by decide) (by decide) (by decide) (by decide) (fun _ q => nomatch q) rfl (fun v_6 h_7 N_8 hQ_9 hle_10 => ?_)
      obtain ⟨a_4, rfl, K_5⟩ := hQ_9
      refine Go.re (pc' := 15) (L' := #[.val (.int p1), .val (.int p2), .val (.ref s1), .val (ov)]) (S' := [(.ref a_4)]) rfl rfl rfl ?_
      refine Go.retA rfl rfl rfl [] (fun _ q => nomatch q) d_method_4_code_15 (by decide) (by decide) ?_
      exact ⟨(Keep.trans (Keep.refl _ []) K_5 all0), _, rfl, rfl⟩
  · have hc_1 : p1 = 0 := hc_1
    refine Go.aconstNull (pc' := 5) d_method_4_code_4 rfl ?_
    refine Go.retA rfl rfl rfl [] (fun _ q => nomatch q) d_method_4_code_5 (by decide) (by decide) ?_
    exact ⟨(Keep.refl _ []), _, rfl, rfl⟩
theorem pn_com_example_cartulary_cartulary_StarTable_Column : plainName "com/example/cartulary/cartulary/StarTable$Column" = true := by first | (simp [plainName, overriddenIn]; done) | decide +kernel
theorem d_prog_38_method_1_code_0 : decode prog_38_method_1_code 0 = .ok (.aload_n 0, 1) := by decide +kernel
theorem d_prog_38_method_1_code_1 : decode prog_38_method_1_code 1 = .ok (.invokespecial 1, 3) := by decide +kernel
theorem d_prog_38_method_1_code_4 : decode prog_38_method_1_code 4 = .ok (.aload_n 0, 1) := by decide +kernel
theorem d_prog_38_method_1_code_5 : decode prog_38_method_1_code 5 = .ok (.aload_n 1, 1) := by decide +kernel
theorem d_prog_38_method_1_code_6 : decode prog_38_method_1_code 6 = .ok (.putfield 7, 3) := by decide +kernel
theorem d_prog_38_method_1_code_9 : decode prog_38_method_1_code 9 = .ok (.aload_n 0, 1) := by decide +kernel
theorem d_prog_38_method_1_code_10 : decode prog_38_method_1_code 10 = .ok (.aload_n 2, 1) := by decide +kernel
theorem d_prog_38_method_1_code_11 : decode prog_38_method_1_code 11 = .ok (.putfield 13, 3) := by decide +kernel
theorem d_prog_38_method_1_code_14 : decode prog_38_method_1_code 14 = .ok (.aload_n 0, 1) := by decide +kernel
theorem d_prog_38_method_1_code_15 : decode prog_38_method_1_code 15 = .ok (.iload_n 3, 1) := by decide +kernel
theorem d_prog_38_method_1_code_16 : decode prog_38_method_1_code 16 = .ok (.putfield 17, 3) := by decide +kernel
theorem d_prog_38_method_1_code_19 : decode prog_38_method_1_code 19 = .ok (.aload_n 0, 1) := by decide +kernel
theorem d_prog_38_method_1_code_20 : decode prog_38_method_1_code 20 = .ok (.iload 4, 2) := by decide +kernel
theorem d_prog_38_method_1_code_22 : decode prog_38_method_1_code 22 = .ok (.putfield 21, 3) := by decide +kernel
theorem d_prog_38_method_1_code_25 : decode prog_38_method_1_code 25 = .ok (.aload_n 0, 1) := by decide +kernel
theorem d_prog_38_method_1_code_26 : decode prog_38_method_1_code 26 = .ok (.aload 5, 2) := by decide +kernel
theorem d_prog_38_method_1_code_28 : decode prog_38_method_1_code 28 = .ok (.putfield 24, 3) := by decide +kernel
theorem d_prog_38_method_1_code_31 : decode prog_38_method_1_code 31 = .ok (.aload_n 0, 1) := by decide +kernel
theorem d_prog_38_method_1_code_32 : decode prog_38_method_1_code 32 = .ok (.iload 6, 2) := by decide +kernel
theorem d_prog_38_method_1_code_34 : decode prog_38_method_1_code 34 = .ok (.putfield 28, 3) := by decide +kernel
theorem d_prog_38_method_1_code_37 : decode prog_38_method_1_code 37 = .ok (.aload_n 0, 1) := by decide +kernel
theorem d_prog_38_method_1_code_38 : decode prog_38_method_1_code 38 = .ok (.aload 7, 2) := by decide +kernel
theorem d_prog_38_method_1_code_40 : decode prog_38_method_1_code 40 = .ok (.putfield 32, 3) := by decide +kernel
theorem d_prog_38_method_1_code_43 : decode prog_38_method_1_code 43 = .ok (.return_, 1) := by decide +kernel
set_option maxRecDepth 65536 in
set_option maxHeartbeats 40000000 in
theorem ct_col (l : Launch) (Z : State) (a0 : Array Value) (hw : ∀ d ∈ tables_1, d.before a0 Z = true) (n0 : Nat) (h0 : Heap) (a1 : Addr) (ha1 : n0 ≤ a1) (s1 : Addr) (tv av nv : Value) (p3 p4 p6 : Int32) (htv : tv.isRef = true) (hav : av.isRef = true) (hnv : nv.isRef = true) (hp6 : nar .boolean p6 = p6) (hf6 : fits .boolean (.int p6) = true) (E1 : Exa Z h0 a1 "com/example/cartulary/cartulary/StarTable$Column") (G0 : Fld Z h0 a1 "com/example/cartulary/cartulary/StarTable$Column" "name" "Ljava/lang/String;" (.null)) (G1 : Fld Z h0 a1 "com/example/cartulary/cartulary/StarTable$Column" "type" "Lcom/example/cartulary/cartulary/ColumnType;" (.null)) (G2 : Fld Z h0 a1 "com/example/cartulary/cartulary/StarTable$Column" "size" "I" (.int (0 : Int32))) (G3 : Fld Z h0 a1 "com/example/cartulary/cartulary/StarTable$Column" "scale" "I" (.int (0 : Int32))) (G4 : Fld Z h0 a1 "com/example/cartulary/cartulary/StarTable$Column" "absent" "Ljava/lang/Object;" (.null)) (G5 : Fld Z h0 a1 "com/example/cartulary/cartulary/StarTable$Column" "stored" "Z" (.int (0 : Int32))) (G6 : Fld Z h0 a1 "com/example/cartulary/cartulary/StarTable$Column" "namedBy" "Lcom/example/cartulary/cartulary/StarTable$NamedBy;" (.null)) :
    Ct l Z (⟨"com/example/cartulary/cartulary/StarTable$Column", "<init>", "(Ljava/lang/String;Lcom/example/cartulary/cartulary/ColumnType;IILjava/lang/Object;ZLcom/example/cartulary/cartulary/StarTable$NamedBy;)V"⟩ : MethodName) prog_38_method_1_code 8 none ({ frames := 2, cells := 0, slots := 0, locals := 24 } : Room) EL1 n0 false [] #[(.ref a1), (.ref s1), tv, (.int p3), (.int p4), av, (.int p6), nv] h0 [] (fun v h N => v = none ∧ Keep h0 h [a1] ∧ Exa Z h a1 "com/example/cartulary/cartulary/StarTable$Column" ∧ Fld Z h a1 "com/example/cartulary/cartulary/StarTable$Column" "name" "Ljava/lang/String;" (.ref s1) ∧ Fld Z h a1 "com/example/cartulary/cartulary/StarTable$Column" "type" "Lcom/example/cartulary/cartulary/ColumnType;" tv ∧ Fld Z h a1 "com/example/cartulary/cartulary/StarTable$Column" "size" "I" (.int p3) ∧ Fld Z h a1 "com/example/cartulary/cartulary/StarTable$Column" "scale" "I" (.int p4) ∧ Fld Z h a1 "com/example/cartulary/cartulary/StarTable$Column" "absent" "Ljava/lang/Object;" av ∧ Fld Z h a1 "com/example/cartulary/cartulary/StarTable$Column" "stored" "Z" (.int p6) ∧ Fld Z h a1 "com/example/cartulary/cartulary/StarTable$Column" "namedBy" "Lcom/example/cartulary/cartulary/StarTable$NamedBy;" nv) := by
  refine Ct.of (a0 := a0) (plainFor_of_name pn_com_example_cartulary_cartulary_StarTable_Column) (own_ew hw) (L0 := #[.val (.ref a1), .val (.ref s1), .val (tv), .val (.int p3), .val (.int p4), .val (av), .val (.int p6), .val (nv)]) (fun m => by rcases ref_cases htv with rfl | ⟨_, rfl⟩ <;> rcases ref_cases hav with rfl | ⟨_, rfl⟩ <;> rcases ref_cases hnv with rfl | ⟨_, rfl⟩ <;> first | (simp [entryFrame, mkF, argsToLocals, Value.category]; done) | rfl) ?_
  have lta1 := nlt E1.lt
  have l0_E1 := nlt E1.lt
  refine Go.aloadN (pc' := 1) d_prog_38_method_1_code_0 rfl rfl rfl ?_
  refine Go.callN (a1 := a0) (pc' := 4) (argsL := []) (rest := []) (ct_record l Z a0 hw n0 h0 a1) d_prog_38_method_1_code_1 rfl (hw _ (List.mem_of_getElem? (i := 46) rfl)) (hw _ (List.mem_of_getElem? (i := 47) rfl)) (hw _ (List.mem_of_getElem? (i := 49) rfl)) (hw _ (List.mem_of_getElem? (i := 50) rfl)) (by decide) (lenOf pd__28_29V rfl) rfl 0 rfl rfl (by decide) (by decide) (by decide) (by decide) (fun _ q => nomatch q) rfl (fun v_1 h_2 N_3 hQ_4 hle_5 => ?_)
  obtain ⟨rfl, rfl⟩ := hQ_4
  refine Go.re (pc' := 4) (L' := #[.val (.ref a1), .val (.ref s1), .val (tv), .val (.int p3), .val (.int p4), .val (av), .val (.int p6), .val (nv)]) (S' := []) rfl rfl rfl ?_
  refine Go.aloadN (pc' := 5) d_prog_38_method_1_code_4 rfl rfl rfl ?_
  refine Go.aloadN (pc' := 6) d_prog_38_method_1_code_5 rfl rfl rfl ?_
  refine Go.putF (pc' := 9) (host := "") (a1 := a0) d_prog_38_method_1_code_6 (Or.inl (hw _ (List.mem_of_getElem? (i := 52) rfl))) Via.refl G0 E1 (Or.inr ⟨(hw _ (List.mem_of_getElem? (i := 53) rfl)), rfl, rfl⟩) (hw _ (List.mem_of_getElem? (i := 41) rfl)) (ty := (.object "java/lang/String")) (by decide) rfl rfl (Sf.exa E1 (by decide) (by decide)) (by omega) rfl (fun h_6 W_7 => ?_)
  have szh_6 : h_6.size = h0.size := Wr.size W_7
  have F_8 : Fld Z h_6 a1 "com/example/cartulary/cartulary/StarTable$Column" "name" "Ljava/lang/String;" (.ref s1) := Fld.same W_7 G0
  refine Go.aloadN (pc' := 10) d_prog_38_method_1_code_9 rfl rfl rfl ?_
  refine Go.aloadN (pc' := 11) d_prog_38_method_1_code_10 rfl htv rfl ?_
  have F_9 : Fld Z h_6 a1 "com/example/cartulary/cartulary/StarTable$Column" "type" "Lcom/example/cartulary/cartulary/ColumnType;" (.null) := (Fld.other W_7 G1 (Or.inr (slot_ne (Or.inr (hw _ (List.mem_of_getElem? (i := 55) rfl))) (Or.inr (hw _ (List.mem_of_getElem? (i := 53) rfl))) (by decide) (t := (.object "com/example/cartulary/cartulary/ColumnType")) (t' := (.object "java/lang/String")) (by decide) (by decide))))
  have F_10 : Exa Z h_6 a1 "com/example/cartulary/cartulary/StarTable$Column" := (Exa.wr W_7 E1)
  refine Go.putF (pc' := 14) (host := "") (a1 := a0) d_prog_38_method_1_code_11 (Or.inl (hw _ (List.mem_of_getElem? (i := 54) rfl))) Via.refl F_9 F_10 (Or.inr ⟨(hw _ (List.mem_of_getElem? (i := 55) rfl)), rfl, rfl⟩) (hw _ (List.mem_of_getElem? (i := 41) rfl)) (ty := (.object "com/example/cartulary/cartulary/ColumnType")) (by decide) (GoKit.narrow_ref rfl) (fits_r rfl htv) (Sf.exa F_10 (by decide) (by decide)) (by omega) rfl (fun h_11 W_12 => ?_)
  have szh_11 : h_11.size = h_6.size := Wr.size W_12
  have F_13 : Fld Z h_11 a1 "com/example/cartulary/cartulary/StarTable$Column" "type" "Lcom/example/cartulary/cartulary/ColumnType;" tv := Fld.same W_12 F_9
  refine Go.aloadN (pc' := 15) d_prog_38_method_1_code_14 rfl rfl rfl ?_
  refine Go.iloadN (pc' := 16) d_prog_38_method_1_code_15 rfl rfl ?_
  have F_14 : Fld Z h_11 a1 "com/example/cartulary/cartulary/StarTable$Column" "size" "I" (.int (0 : Int32)) := (Fld.other W_12 (Fld.other W_7 G2 (Or.inr (slot_ne (Or.inr (hw _ (List.mem_of_getElem? (i := 57) rfl))) (Or.inr (hw _ (List.mem_of_getElem? (i := 53) rfl))) (by decide) (t := .int) (t' := (.object "java/lang/String")) (by decide) (by decide)))) (Or.inr (slot_ne (Or.inr (hw _ (List.mem_of_getElem? (i := 57) rfl))) (Or.inr (hw _ (List.mem_of_getElem? (i := 55) rfl))) (by decide) (t := .int) (t' := (.object "com/example/cartulary/cartulary/ColumnType")) (by decide) (by decide))))
  have F_15 : Exa Z h_11 a1 "com/example/cartulary/cartulary/StarTable$Column" := (Exa.wr W_12 F_10)
  refine Go.putF (pc' := 19) (host := "") (a1 := a0) d_prog_38_method_1_code_16 (Or.inl (hw _ (List.mem_of_getElem? (i := 56) rfl))) Via.refl F_14 F_15 (Or.inr ⟨(hw _ (List.mem_of_getElem? (i := 57) rfl)), rfl, rfl⟩) (hw _ (List.mem_of_getElem? (i := 41) rfl)) (ty := .int) (by decide) rfl rfl (Sf.exa F_15 (by decide) (by decide)) (by omega) rfl (fun h_16 W_17 => ?_)
  have szh_16 : h_16.size = h_11.size := Wr.size W_17
  have F_18 : Fld Z h_16 a1 "com/example/cartulary/cartulary/StarTable$Column" "size" "I" (.int p3) := Fld.same W_17 F_14
  refine Go.aloadN (pc' := 20) d_prog_38_method_1_code_19 rfl rfl rfl ?_
  refine Go.iload (pc' := 22) d_prog_38_method_1_code_20 rfl rfl ?_
  have F_19 : Fld Z h_16 a1 "com/example/cartulary/cartulary/StarTable$Column" "scale" "I" (.int (0 : Int32)) := (Fld.other W_17 (Fld.other W_12 (Fld.other W_7 G3 (Or.inr (slot_ne (Or.inr (hw _ (List.mem_of_getElem? (i := 59) rfl))) (Or.inr (hw _ (List.mem_of_getElem? (i := 53) rfl))) (by decide) (t := .int) (t' := (.object "java/lang/String")) (by decide) (by decide)))) (Or.inr (slot_ne (Or.inr (hw _ (List.mem_of_getElem? (i := 59) rfl))) (Or.inr (hw _ (List.mem_of_getElem? (i := 55) rfl))) (by decide) (t := .int) (t' := (.object "com/example/cartulary/cartulary/ColumnType")) (by decide) (by decide)))) (Or.inr (slot_ne (Or.inr (hw _ (List.mem_of_getElem? (i := 59) rfl))) (Or.inr (hw _ (List.mem_of_getElem? (i := 57) rfl))) (by decide) (t := .int) (t' := .int) (by decide) (by decide))))
  have F_20 : Exa Z h_16 a1 "com/example/cartulary/cartulary/StarTable$Column" := (Exa.wr W_17 F_15)
  refine Go.putF (pc' := 25) (host := "") (a1 := a0) d_prog_38_method_1_code_22 (Or.inl (hw _ (List.mem_of_getElem? (i := 58) rfl))) Via.refl F_19 F_20 (Or.inr ⟨(hw _ (List.mem_of_getElem? (i := 59) rfl)), rfl, rfl⟩) (hw _ (List.mem_of_getElem? (i := 41) rfl)) (ty := .int) (by decide) rfl rfl (Sf.exa F_20 (by decide) (by decide)) (by omega) rfl (fun h_21 W_22 => ?_)
  have szh_21 : h_21.size = h_16.size := Wr.size W_22
  have F_23 : Fld Z h_21 a1 "com/example/cartulary/cartulary/StarTable$Column" "scale" "I" (.int p4) := Fld.same W_22 F_19
  refine Go.aloadN (pc' := 26) d_prog_38_method_1_code_25 rfl rfl rfl ?_
  refine Go.aload (pc' := 28) d_prog_38_method_1_code_26 rfl hav rfl ?_
  have F_24 : Fld Z h_21 a1 "com/example/cartulary/cartulary/StarTable$Column" "absent" "Ljava/lang/Object;" (.null) := (Fld.other W_22 (Fld.other W_17 (Fld.other W_12 (Fld.other W_7 G4 (Or.inr (slot_ne (Or.inr (hw _ (List.mem_of_getElem? (i := 61) rfl))) (Or.inr (hw _ (List.mem_of_getElem? (i := 53) rfl))) (by decide) (t := (.object "java/lang/Object")) (t' := (.object "java/lang/String")) (by decide) (by decide)))) (Or.inr (slot_ne (Or.inr (hw _ (List.mem_of_getElem? (i := 61) rfl))) (Or.inr (hw _ (List.mem_of_getElem? (i := 55) rfl))) (by decide) (t := (.object "java/lang/Object")) (t' := (.object "com/example/cartulary/cartulary/ColumnType")) (by decide) (by decide)))) (Or.inr (slot_ne (Or.inr (hw _ (List.mem_of_getElem? (i := 61) rfl))) (Or.inr (hw _ (List.mem_of_getElem? (i := 57) rfl))) (by decide) (t := (.object "java/lang/Object")) (t' := .int) (by decide) (by decide)))) (Or.inr (slot_ne (Or.inr (hw _ (List.mem_of_getElem? (i := 61) rfl))) (Or.inr (hw _ (List.mem_of_getElem? (i := 59) rfl))) (by decide) (t := (.object "java/lang/Object")) (t' := .int) (by decide) (by decide))))
  have F_25 : Exa Z h_21 a1 "com/example/cartulary/cartulary/StarTable$Column" := (Exa.wr W_22 F_20)
  refine Go.putF (pc' := 31) (host := "") (a1 := a0) d_prog_38_method_1_code_28 (Or.inl (hw _ (List.mem_of_getElem? (i := 60) rfl))) Via.refl F_24 F_25 (Or.inr ⟨(hw _ (List.mem_of_getElem? (i := 61) rfl)), rfl, rfl⟩) (hw _ (List.mem_of_getElem? (i := 41) rfl)) (ty := (.object "java/lang/Object")) (by decide) (GoKit.narrow_ref rfl) (fits_r rfl hav) (Sf.exa F_25 (by decide) (by decide)) (by omega) rfl (fun h_26 W_27 => ?_)
  have szh_26 : h_26.size = h_21.size := Wr.size W_27
  have F_28 : Fld Z h_26 a1 "com/example/cartulary/cartulary/StarTable$Column" "absent" "Ljava/lang/Object;" av := Fld.same W_27 F_24
  refine Go.aloadN (pc' := 32) d_prog_38_method_1_code_31 rfl rfl rfl ?_
  refine Go.iload (pc' := 34) d_prog_38_method_1_code_32 rfl rfl ?_
  have F_29 : Fld Z h_26 a1 "com/example/cartulary/cartulary/StarTable$Column" "stored" "Z" (.int (0 : Int32)) := (Fld.other W_27 (Fld.other W_22 (Fld.other W_17 (Fld.other W_12 (Fld.other W_7 G5 (Or.inr (slot_ne (Or.inr (hw _ (List.mem_of_getElem? (i := 63) rfl))) (Or.inr (hw _ (List.mem_of_getElem? (i := 53) rfl))) (by decide) (t := .boolean) (t' := (.object "java/lang/String")) (by decide) (by decide)))) (Or.inr (slot_ne (Or.inr (hw _ (List.mem_of_getElem? (i := 63) rfl))) (Or.inr (hw _ (List.mem_of_getElem? (i := 55) rfl))) (by decide) (t := .boolean) (t' := (.object "com/example/cartulary/cartulary/ColumnType")) (by decide) (by decide)))) (Or.inr (slot_ne (Or.inr (hw _ (List.mem_of_getElem? (i := 63) rfl))) (Or.inr (hw _ (List.mem_of_getElem? (i := 57) rfl))) (by decide) (t := .boolean) (t' := .int) (by decide) (by decide)))) (Or.inr (slot_ne (Or.inr (hw _ (List.mem_of_getElem? (i := 63) rfl))) (Or.inr (hw _ (List.mem_of_getElem? (i := 59) rfl))) (by decide) (t := .boolean) (t' := .int) (by decide) (by decide)))) (Or.inr (slot_ne (Or.inr (hw _ (List.mem_of_getElem? (i := 63) rfl))) (Or.inr (hw _ (List.mem_of_getElem? (i := 61) rfl))) (by decide) (t := .boolean) (t' := (.object "java/lang/Object")) (by decide) (by decide))))
  have F_30 : Exa Z h_26 a1 "com/example/cartulary/cartulary/StarTable$Column" := (Exa.wr W_27 F_25)
  refine Go.putF (pc' := 37) (host := "") (a1 := a0) d_prog_38_method_1_code_34 (Or.inl (hw _ (List.mem_of_getElem? (i := 62) rfl))) Via.refl F_29 F_30 (Or.inr ⟨(hw _ (List.mem_of_getElem? (i := 63) rfl)), rfl, rfl⟩) (hw _ (List.mem_of_getElem? (i := 41) rfl)) (ty := .boolean) (by decide) (congrArg Value.int hp6) hf6 (Sf.exa F_30 (by decide) (by decide)) (by omega) rfl (fun h_31 W_32 => ?_)
  have szh_31 : h_31.size = h_26.size := Wr.size W_32
  have F_33 : Fld Z h_31 a1 "com/example/cartulary/cartulary/StarTable$Column" "stored" "Z" (.int p6) := Fld.same W_32 F_29
  refine Go.aloadN (pc' := 38) d_prog_38_method_1_code_37 rfl rfl rfl ?_
  refine Go.aload (pc' := 40) d_prog_38_method_1_code_38 rfl hnv rfl ?_
  have F_34 : Fld Z h_31 a1 "com/example/cartulary/cartulary/StarTable$Column" "namedBy" "Lcom/example/cartulary/cartulary/StarTable$NamedBy;" (.null) := (Fld.other W_32 (Fld.other W_27 (Fld.other W_22 (Fld.other W_17 (Fld.other W_12 (Fld.other W_7 G6 (Or.inr (slot_ne (Or.inr (hw _ (List.mem_of_getElem? (i := 65) rfl))) (Or.inr (hw _ (List.mem_of_getElem? (i := 53) rfl))) (by decide) (t := (.object "com/example/cartulary/cartulary/StarTable$NamedBy")) (t' := (.object "java/lang/String")) (by decide) (by decide)))) (Or.inr (slot_ne (Or.inr (hw _ (List.mem_of_getElem? (i := 65) rfl))) (Or.inr (hw _ (List.mem_of_getElem? (i := 55) rfl))) (by decide) (t := (.object "com/example/cartulary/cartulary/StarTable$NamedBy")) (t' := (.object "com/example/cartulary/cartulary/ColumnType")) (by decide) (by decide)))) (Or.inr (slot_ne (Or.inr (hw _ (List.mem_of_getElem? (i := 65) rfl))) (Or.inr (hw _ (List.mem_of_getElem? (i := 57) rfl))) (by decide) (t := (.object "com/example/cartulary/cartulary/StarTable$NamedBy")) (t' := .int) (by decide) (by decide)))) (Or.inr (slot_ne (Or.inr (hw _ (List.mem_of_getElem? (i := 65) rfl))) (Or.inr (hw _ (List.mem_of_getElem? (i := 59) rfl))) (by decide) (t := (.object "com/example/cartulary/cartulary/StarTable$NamedBy")) (t' := .int) (by decide) (by decide)))) (Or.inr (slot_ne (Or.inr (hw _ (List.mem_of_getElem? (i := 65) rfl))) (Or.inr (hw _ (List.mem_of_getElem? (i := 61) rfl))) (by decide) (t := (.object "com/example/cartulary/cartulary/StarTable$NamedBy")) (t' := (.object "java/lang/Object")) (by decide) (by decide)))) (Or.inr (slot_ne (Or.inr (hw _ (List.mem_of_getElem? (i := 65) rfl))) (Or.inr (hw _ (List.mem_of_getElem? (i := 63) rfl))) (by decide) (t := (.object "com/example/cartulary/cartulary/StarTable$NamedBy")) (t' := .boolean) (by decide) (by decide))))
  have F_35 : Exa Z h_31 a1 "com/example/cartulary/cartulary/StarTable$Column" := (Exa.wr W_32 F_30)
  refine Go.putF (pc' := 43) (host := "") (a1 := a0) d_prog_38_method_1_code_40 (Or.inl (hw _ (List.mem_of_getElem? (i := 64) rfl))) Via.refl F_34 F_35 (Or.inr ⟨(hw _ (List.mem_of_getElem? (i := 65) rfl)), rfl, rfl⟩) (hw _ (List.mem_of_getElem? (i := 41) rfl)) (ty := (.object "com/example/cartulary/cartulary/StarTable$NamedBy")) (by decide) (GoKit.narrow_ref rfl) (fits_r rfl hnv) (Sf.exa F_35 (by decide) (by decide)) (by omega) rfl (fun h_36 W_37 => ?_)
  have szh_36 : h_36.size = h_31.size := Wr.size W_37
  have F_38 : Fld Z h_36 a1 "com/example/cartulary/cartulary/StarTable$Column" "namedBy" "Lcom/example/cartulary/cartulary/StarTable$NamedBy;" nv := Fld.same W_37 F_34
  have F_39 : Exa Z h_36 a1 "com/example/cartulary/cartulary/StarTable$Column" := (Exa.wr W_37 F_35)
  have F_40 : Fld Z h_36 a1 "com/example/cartulary/cartulary/StarTable$Column" "name" "Ljava/lang/String;" (.ref s1) := (Fld.other W_37 (Fld.other W_32 (Fld.other W_27 (Fld.other W_22 (Fld.other W_17 (Fld.other W_12 F_8 (Or.inr (slot_ne (Or.inr (hw _ (List.mem_of_getElem? (i := 53) rfl))) (Or.inr (hw _ (List.mem_of_getElem? (i := 55) rfl))) (by decide) (t := (.object "java/lang/String")) (t' := (.object "com/example/cartulary/cartulary/ColumnType")) (by decide) (by decide)))) (Or.inr (slot_ne (Or.inr (hw _ (List.mem_of_getElem? (i := 53) rfl))) (Or.inr (hw _ (List.mem_of_getElem? (i := 57) rfl))) (by decide) (t := (.object "java/lang/String")) (t' := .int) (by decide) (by decide)))) (Or.inr (slot_ne (Or.inr (hw _ (List.mem_of_getElem? (i := 53) rfl))) (Or.inr (hw _ (List.mem_of_getElem? (i := 59) rfl))) (by decide) (t := (.object "java/lang/String")) (t' := .int) (by decide) (by decide)))) (Or.inr (slot_ne (Or.inr (hw _ (List.mem_of_getElem? (i := 53) rfl))) (Or.inr (hw _ (List.mem_of_getElem? (i := 61) rfl))) (by decide) (t := (.object "java/lang/String")) (t' := (.object "java/lang/Object")) (by decide) (by decide)))) (Or.inr (slot_ne (Or.inr (hw _ (List.mem_of_getElem? (i := 53) rfl))) (Or.inr (hw _ (List.mem_of_getElem? (i := 63) rfl))) (by decide) (t := (.object "java/lang/String")) (t' := .boolean) (by decide) (by decide)))) (Or.inr (slot_ne (Or.inr (hw _ (List.mem_of_getElem? (i := 53) rfl))) (Or.inr (hw _ (List.mem_of_getElem? (i := 65) rfl))) (by decide) (t := (.object "java/lang/String")) (t' := (.object "com/example/cartulary/cartulary/StarTable$NamedBy")) (by decide) (by decide))))
  have F_41 : Fld Z h_36 a1 "com/example/cartulary/cartulary/StarTable$Column" "type" "Lcom/example/cartulary/cartulary/ColumnType;" tv := (Fld.other W_37 (Fld.other W_32 (Fld.other W_27 (Fld.other W_22 (Fld.other W_17 F_13 (Or.inr (slot_ne (Or.inr (hw _ (List.mem_of_getElem? (i := 55) rfl))) (Or.inr (hw _ (List.mem_of_getElem? (i := 57) rfl))) (by decide) (t := (.object "com/example/cartulary/cartulary/ColumnType")) (t' := .int) (by decide) (by decide)))) (Or.inr (slot_ne (Or.inr (hw _ (List.mem_of_getElem? (i := 55) rfl))) (Or.inr (hw _ (List.mem_of_getElem? (i := 59) rfl))) (by decide) (t := (.object "com/example/cartulary/cartulary/ColumnType")) (t' := .int) (by decide) (by decide)))) (Or.inr (slot_ne (Or.inr (hw _ (List.mem_of_getElem? (i := 55) rfl))) (Or.inr (hw _ (List.mem_of_getElem? (i := 61) rfl))) (by decide) (t := (.object "com/example/cartulary/cartulary/ColumnType")) (t' := (.object "java/lang/Object")) (by decide) (by decide)))) (Or.inr (slot_ne (Or.inr (hw _ (List.mem_of_getElem? (i := 55) rfl))) (Or.inr (hw _ (List.mem_of_getElem? (i := 63) rfl))) (by decide) (t := (.object "com/example/cartulary/cartulary/ColumnType")) (t' := .boolean) (by decide) (by decide)))) (Or.inr (slot_ne (Or.inr (hw _ (List.mem_of_getElem? (i := 55) rfl))) (Or.inr (hw _ (List.mem_of_getElem? (i := 65) rfl))) (by decide) (t := (.object "com/example/cartulary/cartulary/ColumnType")) (t' := (.object "com/example/cartulary/cartulary/StarTable$NamedBy")) (by decide) (by decide))))
  have F_42 : Fld Z h_36 a1 "com/example/cartulary/cartulary/StarTable$Column" "size" "I" (.int p3) := (Fld.other W_37 (Fld.other W_32 (Fld.other W_27 (Fld.other W_22 F_18 (Or.inr (slot_ne (Or.inr (hw _ (List.mem_of_getElem? (i := 57) rfl))) (Or.inr (hw _ (List.mem_of_getElem? (i := 59) rfl))) (by decide) (t := .int) (t' := .int) (by decide) (by decide)))) (Or.inr (slot_ne (Or.inr (hw _ (List.mem_of_getElem? (i := 57) rfl))) (Or.inr (hw _ (List.mem_of_getElem? (i := 61) rfl))) (by decide) (t := .int) (t' := (.object "java/lang/Object")) (by decide) (by decide)))) (Or.inr (slot_ne (Or.inr (hw _ (List.mem_of_getElem? (i := 57) rfl))) (Or.inr (hw _ (List.mem_of_getElem? (i := 63) rfl))) (by decide) (t := .int) (t' := .boolean) (by decide) (by decide)))) (Or.inr (slot_ne (Or.inr (hw _ (List.mem_of_getElem? (i := 57) rfl))) (Or.inr (hw _ (List.mem_of_getElem? (i := 65) rfl))) (by decide) (t := .int) (t' := (.object "com/example/cartulary/cartulary/StarTable$NamedBy")) (by decide) (by decide))))
  have F_43 : Fld Z h_36 a1 "com/example/cartulary/cartulary/StarTable$Column" "scale" "I" (.int p4) := (Fld.other W_37 (Fld.other W_32 (Fld.other W_27 F_23 (Or.inr (slot_ne (Or.inr (hw _ (List.mem_of_getElem? (i := 59) rfl))) (Or.inr (hw _ (List.mem_of_getElem? (i := 61) rfl))) (by decide) (t := .int) (t' := (.object "java/lang/Object")) (by decide) (by decide)))) (Or.inr (slot_ne (Or.inr (hw _ (List.mem_of_getElem? (i := 59) rfl))) (Or.inr (hw _ (List.mem_of_getElem? (i := 63) rfl))) (by decide) (t := .int) (t' := .boolean) (by decide) (by decide)))) (Or.inr (slot_ne (Or.inr (hw _ (List.mem_of_getElem? (i := 59) rfl))) (Or.inr (hw _ (List.mem_of_getElem? (i := 65) rfl))) (by decide) (t := .int) (t' := (.object "com/example/cartulary/cartulary/StarTable$NamedBy")) (by decide) (by decide))))
  have F_44 : Fld Z h_36 a1 "com/example/cartulary/cartulary/StarTable$Column" "absent" "Ljava/lang/Object;" av := (Fld.other W_37 (Fld.other W_32 F_28 (Or.inr (slot_ne (Or.inr (hw _ (List.mem_of_getElem? (i := 61) rfl))) (Or.inr (hw _ (List.mem_of_getElem? (i := 63) rfl))) (by decide) (t := (.object "java/lang/Object")) (t' := .boolean) (by decide) (by decide)))) (Or.inr (slot_ne (Or.inr (hw _ (List.mem_of_getElem? (i := 61) rfl))) (Or.inr (hw _ (List.mem_of_getElem? (i := 65) rfl))) (by decide) (t := (.object "java/lang/Object")) (t' := (.object "com/example/cartulary/cartulary/StarTable$NamedBy")) (by decide) (by decide))))
  have F_45 : Fld Z h_36 a1 "com/example/cartulary/cartulary/StarTable$Column" "stored" "Z" (.int p6) := (Fld.other W_37 F_33 (Or.inr (slot_ne (Or.inr (hw _ (List.mem_of_getElem? (i := 63) rfl))) (Or.inr (hw _ (List.mem_of_getElem? (i := 65) rfl))) (by decide) (t := .boolean) (t' := (.object "com/example/cartulary/cartulary/StarTable$NamedBy")) (by decide) (by decide))))
  refine Go.ret0 rfl [] (fun _ q => nomatch q) d_prog_38_method_1_code_43 (by decide) (by decide) ?_
  exact ⟨rfl, (Keep.wr (Keep.wr (Keep.wr (Keep.wr (Keep.wr (Keep.wr (Keep.wr (Keep.refl _ [a1]) W_7 (Or.inl (by simp))) W_12 (Or.inl (by simp))) W_17 (Or.inl (by simp))) W_22 (Or.inl (by simp))) W_27 (Or.inl (by simp))) W_32 (Or.inl (by simp))) W_37 (Or.inl (by simp))), F_39, F_40, F_41, F_42, F_43, F_44, F_45, F_38⟩
theorem d_prog_38_method_8_code_0 : decode prog_38_method_8_code 0 = .ok (.new 8, 3) := by decide +kernel
theorem d_prog_38_method_8_code_3 : decode prog_38_method_8_code 3 = .ok (.dup, 1) := by decide +kernel
theorem d_prog_38_method_8_code_4 : decode prog_38_method_8_code 4 = .ok (.aload_n 0, 1) := by decide +kernel
theorem d_prog_38_method_8_code_5 : decode prog_38_method_8_code 5 = .ok (.getfield 7, 3) := by decide +kernel
theorem d_prog_38_method_8_code_8 : decode prog_38_method_8_code 8 = .ok (.aload_n 0, 1) := by decide +kernel
theorem d_prog_38_method_8_code_9 : decode prog_38_method_8_code 9 = .ok (.getfield 13, 3) := by decide +kernel
theorem d_prog_38_method_8_code_12 : decode prog_38_method_8_code 12 = .ok (.aload_n 0, 1) := by decide +kernel
theorem d_prog_38_method_8_code_13 : decode prog_38_method_8_code 13 = .ok (.getfield 17, 3) := by decide +kernel
theorem d_prog_38_method_8_code_16 : decode prog_38_method_8_code 16 = .ok (.aload_n 0, 1) := by decide +kernel
theorem d_prog_38_method_8_code_17 : decode prog_38_method_8_code 17 = .ok (.getfield 21, 3) := by decide +kernel
theorem d_prog_38_method_8_code_20 : decode prog_38_method_8_code 20 = .ok (.aload_n 1, 1) := by decide +kernel
theorem d_prog_38_method_8_code_21 : decode prog_38_method_8_code 21 = .ok (.aload_n 0, 1) := by decide +kernel
theorem d_prog_38_method_8_code_22 : decode prog_38_method_8_code 22 = .ok (.getfield 28, 3) := by decide +kernel
theorem d_prog_38_method_8_code_25 : decode prog_38_method_8_code 25 = .ok (.aload_n 0, 1) := by decide +kernel
theorem d_prog_38_method_8_code_26 : decode prog_38_method_8_code 26 = .ok (.getfield 32, 3) := by decide +kernel
theorem pd__28Ljava_2flang_2fString_3bLcom_2fexample_2fcartulary_2fcartulary_2fColumnType_3bIILjava_2flang_2fObject_3bZLcom_2fexample_2fcartulary_2fcartulary_2fStarTable_24NamedBy_3b_29V : parseMethodDescriptor "(Ljava/lang/String;Lcom/example/cartulary/cartulary/ColumnType;IILjava/lang/Object;ZLcom/example/cartulary/cartulary/StarTable$NamedBy;)V" = some ⟨[(.object "java/lang/String"), (.object "com/example/cartulary/cartulary/ColumnType"), .int, .int, (.object "java/lang/Object"), .boolean, (.object "com/example/cartulary/cartulary/StarTable$NamedBy")], none⟩ := by decide +kernel
theorem d_prog_38_method_8_code_29 : decode prog_38_method_8_code 29 = .ok (.invokespecial 60, 3) := by decide +kernel
theorem d_prog_38_method_8_code_32 : decode prog_38_method_8_code 32 = .ok (.areturn, 1) := by decide +kernel
set_option maxRecDepth 65536 in
set_option maxHeartbeats 40000000 in
theorem ct_orElse (l : Launch) (Z : State) (a0 : Array Value) (hw : ∀ d ∈ tables_1, d.before a0 Z = true) (n0 : Nat) (h0 : Heap) (a1 : Addr) (hn0 : n0 ≤ h0.size) (s1 : Addr) (tv av nv : Value) (p3 p4 p6 : Int32) (htv : tv.isRef = true) (hav : av.isRef = true) (hnv : nv.isRef = true) (hp6 : nar .boolean p6 = p6) (hf6 : fits .boolean (.int p6) = true) (wv : Value) (hwv : wv.isRef = true) (E1 : Exa Z h0 a1 "com/example/cartulary/cartulary/StarTable$Column") (G0 : Fld Z h0 a1 "com/example/cartulary/cartulary/StarTable$Column" "name" "Ljava/lang/String;" (.ref s1)) (G1 : Fld Z h0 a1 "com/example/cartulary/cartulary/StarTable$Column" "type" "Lcom/example/cartulary/cartulary/ColumnType;" tv) (G2 : Fld Z h0 a1 "com/example/cartulary/cartulary/StarTable$Column" "size" "I" (.int p3)) (G3 : Fld Z h0 a1 "com/example/cartulary/cartulary/StarTable$Column" "scale" "I" (.int p4)) (G4 : Fld Z h0 a1 "com/example/cartulary/cartulary/StarTable$Column" "absent" "Ljava/lang/Object;" av) (G5 : Fld Z h0 a1 "com/example/cartulary/cartulary/StarTable$Column" "stored" "Z" (.int p6)) (G6 : Fld Z h0 a1 "com/example/cartulary/cartulary/StarTable$Column" "namedBy" "Lcom/example/cartulary/cartulary/StarTable$NamedBy;" nv) :
    Ct l Z (⟨"com/example/cartulary/cartulary/StarTable$Column", "orElse", "(Ljava/lang/Object;)Lcom/example/cartulary/cartulary/StarTable$Column;"⟩ : MethodName) prog_38_method_8_code 2 (some (.object "com/example/cartulary/cartulary/StarTable$Column")) ({ frames := 3, cells := 1, slots := 7, locals := 44 } : Room) EL1 n0 false [] #[(.ref a1), wv] h0 [] (fun v h N => ∃ a, v = some (.ref a) ∧ Keep h0 h [] ∧ Exa Z h a "com/example/cartulary/cartulary/StarTable$Column" ∧ Fld Z h a "com/example/cartulary/cartulary/StarTable$Column" "name" "Ljava/lang/String;" (.ref s1) ∧ Fld Z h a "com/example/cartulary/cartulary/StarTable$Column" "type" "Lcom/example/cartulary/cartulary/ColumnType;" tv ∧ Fld Z h a "com/example/cartulary/cartulary/StarTable$Column" "size" "I" (.int p3) ∧ Fld Z h a "com/example/cartulary/cartulary/StarTable$Column" "scale" "I" (.int p4) ∧ Fld Z h a "com/example/cartulary/cartulary/StarTable$Column" "absent" "Ljava/lang/Object;" wv ∧ Fld Z h a "com/example/cartulary/cartulary/StarTable$Column" "stored" "Z" (.int p6) ∧ Fld Z h a "com/example/cartulary/cartulary/StarTable$Column" "namedBy" "Lcom/example/cartulary/cartulary/StarTable$NamedBy;" nv) := by
  refine Ct.of (a0 := a0) (plainFor_of_name pn_com_example_cartulary_cartulary_StarTable_Column) (own_ew hw) (L0 := #[.val (.ref a1), .val (wv)]) (fun m => by rcases ref_cases hwv with rfl | ⟨_, rfl⟩ <;> first | (simp [entryFrame, mkF, argsToLocals, Value.category]; done) | rfl) ?_
  have lta1 := nlt E1.lt
  have l0_E1 := nlt E1.lt
  refine Go.newO (pc' := 3) (a1 := a0) d_prog_38_method_8_code_0 (hw _ (List.mem_of_getElem? (i := 71) rfl)) (hw _ (List.mem_of_getElem? (i := 41) rfl)) (hw _ (List.mem_of_getElem? (i := 42) rfl)) (by decide) (by decide) rfl (fun a_1 h_2 ha_4 E_3 X_5 Df_6 => ?_)
  have szh_2 : h0.size ≤ h_2.size := E_3.1
  have lta_1 := nlt X_5.lt
  have qa_1 := neq ha_4
  have F_7 : Fld Z h_2 a_1 "com/example/cartulary/cartulary/StarTable$Column" "name" "Ljava/lang/String;" (.null) := Df_6 (Or.inr (hw _ (List.mem_of_getElem? (i := 53) rfl))) (ty := (.object "java/lang/String")) (by decide)
  have F_8 : Fld Z h_2 a_1 "com/example/cartulary/cartulary/StarTable$Column" "type" "Lcom/example/cartulary/cartulary/ColumnType;" (.null) := Df_6 (Or.inr (hw _ (List.mem_of_getElem? (i := 55) rfl))) (ty := (.object "com/example/cartulary/cartulary/ColumnType")) (by decide)
  have F_9 : Fld Z h_2 a_1 "com/example/cartulary/cartulary/StarTable$Column" "size" "I" (.int (0 : Int32)) := Df_6 (Or.inr (hw _ (List.mem_of_getElem? (i := 57) rfl))) (ty := .int) (by decide)
  have F_10 : Fld Z h_2 a_1 "com/example/cartulary/cartulary/StarTable$Column" "scale" "I" (.int (0 : Int32)) := Df_6 (Or.inr (hw _ (List.mem_of_getElem? (i := 59) rfl))) (ty := .int) (by decide)
  have F_11 : Fld Z h_2 a_1 "com/example/cartulary/cartulary/StarTable$Column" "absent" "Ljava/lang/Object;" (.null) := Df_6 (Or.inr (hw _ (List.mem_of_getElem? (i := 61) rfl))) (ty := (.object "java/lang/Object")) (by decide)
  have F_12 : Fld Z h_2 a_1 "com/example/cartulary/cartulary/StarTable$Column" "stored" "Z" (.int (0 : Int32)) := Df_6 (Or.inr (hw _ (List.mem_of_getElem? (i := 63) rfl))) (ty := .boolean) (by decide)
  have F_13 : Fld Z h_2 a_1 "com/example/cartulary/cartulary/StarTable$Column" "namedBy" "Lcom/example/cartulary/cartulary/StarTable$NamedBy;" (.null) := Df_6 (Or.inr (hw _ (List.mem_of_getElem? (i := 65) rfl))) (ty := (.object "com/example/cartulary/cartulary/StarTable$NamedBy")) (by decide)
  refine Go.dup (pc' := 4) d_prog_38_method_8_code_3 rfl rfl ?_
  refine Go.aloadN (pc' := 5) d_prog_38_method_8_code_4 rfl rfl rfl ?_
  have F_14 : Fld Z h_2 a1 "com/example/cartulary/cartulary/StarTable$Column" "name" "Ljava/lang/String;" (.ref s1) := (Fld.ext E_3 G0)
  refine Go.getF (pc' := 8) (host := "") (a1 := a0) d_prog_38_method_8_code_5 (Or.inl (hw _ (List.mem_of_getElem? (i := 52) rfl))) Via.refl F_14 rfl ?_
  refine Go.aloadN (pc' := 9) d_prog_38_method_8_code_8 rfl rfl rfl ?_
  have F_15 : Fld Z h_2 a1 "com/example/cartulary/cartulary/StarTable$Column" "type" "Lcom/example/cartulary/cartulary/ColumnType;" tv := (Fld.ext E_3 G1)
  refine Go.getF (pc' := 12) (host := "") (a1 := a0) d_prog_38_method_8_code_9 (Or.inl (hw _ (List.mem_of_getElem? (i := 54) rfl))) Via.refl F_15 rfl ?_
  refine Go.aloadN (pc' := 13) d_prog_38_method_8_code_12 rfl rfl rfl ?_
  have F_16 : Fld Z h_2 a1 "com/example/cartulary/cartulary/StarTable$Column" "size" "I" (.int p3) := (Fld.ext E_3 G2)
  refine Go.getF (pc' := 16) (host := "") (a1 := a0) d_prog_38_method_8_code_13 (Or.inl (hw _ (List.mem_of_getElem? (i := 56) rfl))) Via.refl F_16 rfl ?_
  refine Go.aloadN (pc' := 17) d_prog_38_method_8_code_16 rfl rfl rfl ?_
  have F_17 : Fld Z h_2 a1 "com/example/cartulary/cartulary/StarTable$Column" "scale" "I" (.int p4) := (Fld.ext E_3 G3)
  refine Go.getF (pc' := 20) (host := "") (a1 := a0) d_prog_38_method_8_code_17 (Or.inl (hw _ (List.mem_of_getElem? (i := 58) rfl))) Via.refl F_17 rfl ?_
  refine Go.aloadN (pc' := 21) d_prog_38_method_8_code_20 rfl hwv rfl ?_
  refine Go.aloadN (pc' := 22) d_prog_38_method_8_code_21 rfl rfl rfl ?_
  have F_18 : Fld Z h_2 a1 "com/example/cartulary/cartulary/StarTable$Column" "stored" "Z" (.int p6) := (Fld.ext E_3 G5)
  refine Go.getF (pc' := 25) (host := "") (a1 := a0) d_prog_38_method_8_code_22 (Or.inl (hw _ (List.mem_of_getElem? (i := 62) rfl))) Via.refl F_18 rfl ?_
  refine Go.aloadN (pc' := 26) d_prog_38_method_8_code_25 rfl rfl rfl ?_
  have F_19 : Fld Z h_2 a1 "com/example/cartulary/cartulary/StarTable$Column" "namedBy" "Lcom/example/cartulary/cartulary/StarTable$NamedBy;" nv := (Fld.ext E_3 G6)
  refine Go.getF (pc' := 29) (host := "") (a1 := a0) d_prog_38_method_8_code_26 (Or.inl (hw _ (List.mem_of_getElem? (i := 64) rfl))) Via.refl F_19 rfl ?_
  refine Go.callN (a1 := a0) (pc' := 32) (argsL := [(.ref s1), tv, (.int p3), (.int p4), wv, (.int p6), nv]) (rest := [(.ref a_1)]) (ct_col l Z a0 hw n0 h_2 a_1 (by omega) s1 tv wv nv p3 p4 p6 htv hwv hnv hp6 hf6 X_5 F_7 F_8 F_9 F_10 F_11 F_12 F_13) d_prog_38_method_8_code_29 rfl (hw _ (List.mem_of_getElem? (i := 72) rfl)) (hw _ (List.mem_of_getElem? (i := 44) rfl)) (hw _ (List.mem_of_getElem? (i := 42) rfl)) (hw _ (List.mem_of_getElem? (i := 45) rfl)) (by decide) (lenOf pd__28Ljava_2flang_2fString_3bLcom_2fexample_2fcartulary_2fcartulary_2fColumnType_3bIILjava_2flang_2fObject_3bZLcom_2fexample_2fcartulary_2fcartulary_2fStarTable_24NamedBy_3b_29V rfl) rfl 1 rfl rfl (by decide) (by decide) (by decide) (by decide) (fun _ q => nomatch q) rfl (fun v_29 h_30 N_31 hQ_32 hle_33 => ?_)
  obtain ⟨rfl, K_20, X_21, F_22, F_23, F_24, F_25, F_26, F_27, F_28⟩ := hQ_32
  have szh_30 : h_2.size ≤ h_30.size := K_20.1
  refine Go.re (pc' := 32) (L' := #[.val (.ref a1), .val (wv)]) (S' := [(.ref a_1)]) rfl rfl rfl ?_
  refine Go.retA rfl rfl rfl [] (fun _ q => nomatch q) d_prog_38_method_8_code_32 (by decide) (by decide) ?_
  exact ⟨a_1, rfl, (Keep.trans (Keep.ext (Keep.refl _ []) E_3) K_20 (allS (Or.inr (by omega)) all0)), X_21, F_22, F_23, F_24, F_25, F_26, F_27, F_28⟩
theorem d_prog_38_method_13_code_0 : decode prog_38_method_13_code 0 = .ok (.aload_n 0, 1) := by decide +kernel
theorem d_prog_38_method_13_code_1 : decode prog_38_method_13_code 1 = .ok (.getfield 7, 3) := by decide +kernel
theorem d_prog_38_method_13_code_4 : decode prog_38_method_13_code 4 = .ok (.areturn, 1) := by decide +kernel
set_option maxRecDepth 65536 in
set_option maxHeartbeats 40000000 in
theorem ct_g_name (l : Launch) (Z : State) (a0 : Array Value) (hw : ∀ d ∈ tables_1, d.before a0 Z = true) (n0 : Nat) (h0 : Heap) (a1 : Addr) (u1 : Value) (hu1 : u1.isRef = true) (F1 : Fld Z h0 a1 "com/example/cartulary/cartulary/StarTable$Column" "name" "Ljava/lang/String;" u1) :
    Ct l Z (⟨"com/example/cartulary/cartulary/StarTable$Column", "name", "()Ljava/lang/String;"⟩ : MethodName) prog_38_method_13_code 1 (some (.object "java/lang/String")) ({ frames := 0, cells := 0, slots := 0, locals := 0 } : Room) EL1 n0 false [] #[(.ref a1)] h0 [] (fun v h N => h0 = h ∧ v = some u1) := by
  refine Ct.of (a0 := a0) (plainFor_of_name pn_com_example_cartulary_cartulary_StarTable_Column) (own_ew hw) (L0 := #[.val (.ref a1)]) (fun m => by first | (simp [entryFrame, mkF, argsToLocals, Value.category]; done) | rfl) ?_
  refine Go.aloadN (pc' := 1) d_prog_38_method_13_code_0 rfl rfl rfl ?_
  refine Go.getF (pc' := 4) (host := "") (a1 := a0) d_prog_38_method_13_code_1 (Or.inl (hw _ (List.mem_of_getElem? (i := 52) rfl))) Via.refl F1 rfl ?_
  refine Go.retA rfl rfl hu1 [] (fun _ q => nomatch q) d_prog_38_method_13_code_4 (by decide) (by decide) ?_
  exact ⟨rfl, rfl⟩
theorem d_prog_38_method_14_code_0 : decode prog_38_method_14_code 0 = .ok (.aload_n 0, 1) := by decide +kernel
theorem d_prog_38_method_14_code_1 : decode prog_38_method_14_code 1 = .ok (.getfield 13, 3) := by decide +kernel
theorem d_prog_38_method_14_code_4 : decode prog_38_method_14_code 4 = .ok (.areturn, 1) := by decide +kernel
set_option maxRecDepth 65536 in
set_option maxHeartbeats 40000000 in
theorem ct_g_type (l : Launch) (Z : State) (a0 : Array Value) (hw : ∀ d ∈ tables_1, d.before a0 Z = true) (n0 : Nat) (h0 : Heap) (a1 : Addr) (u1 : Value) (hu1 : u1.isRef = true) (F1 : Fld Z h0 a1 "com/example/cartulary/cartulary/StarTable$Column" "type" "Lcom/example/cartulary/cartulary/ColumnType;" u1) :
    Ct l Z (⟨"com/example/cartulary/cartulary/StarTable$Column", "type", "()Lcom/example/cartulary/cartulary/ColumnType;"⟩ : MethodName) prog_38_method_14_code 1 (some (.object "com/example/cartulary/cartulary/ColumnType")) ({ frames := 0, cells := 0, slots := 0, locals := 0 } : Room) EL1 n0 false [] #[(.ref a1)] h0 [] (fun v h N => h0 = h ∧ v = some u1) := by
  refine Ct.of (a0 := a0) (plainFor_of_name pn_com_example_cartulary_cartulary_StarTable_Column) (own_ew hw) (L0 := #[.val (.ref a1)]) (fun m => by first | (simp [entryFrame, mkF, argsToLocals, Value.category]; done) | rfl) ?_
  refine Go.aloadN (pc' := 1) d_prog_38_method_14_code_0 rfl rfl rfl ?_
  refine Go.getF (pc' := 4) (host := "") (a1 := a0) d_prog_38_method_14_code_1 (Or.inl (hw _ (List.mem_of_getElem? (i := 54) rfl))) Via.refl F1 rfl ?_
  refine Go.retA rfl rfl hu1 [] (fun _ q => nomatch q) d_prog_38_method_14_code_4 (by decide) (by decide) ?_
  exact ⟨rfl, rfl⟩
theorem d_prog_38_method_15_code_0 : decode prog_38_method_15_code 0 = .ok (.aload_n 0, 1) := by decide +kernel
theorem d_prog_38_method_15_code_1 : decode prog_38_method_15_code 1 = .ok (.getfield 17, 3) := by decide +kernel
theorem d_prog_38_method_15_code_4 : decode prog_38_method_15_code 4 = .ok (.ireturn, 1) := by decide +kernel
set_option maxRecDepth 65536 in
set_option maxHeartbeats 40000000 in
theorem ct_g_size (l : Launch) (Z : State) (a0 : Array Value) (hw : ∀ d ∈ tables_1, d.before a0 Z = true) (n0 : Nat) (h0 : Heap) (a1 : Addr) (p1 : Int32) (F1 : Fld Z h0 a1 "com/example/cartulary/cartulary/StarTable$Column" "size" "I" (.int p1)) :
    Ct l Z (⟨"com/example/cartulary/cartulary/StarTable$Column", "size", "()I"⟩ : MethodName) prog_38_method_15_code 1 (some .int) ({ frames := 0, cells := 0, slots := 0, locals := 0 } : Room) EL1 n0 false [] #[(.ref a1)] h0 [] (fun v h N => h0 = h ∧ v = some (.int p1)) := by
  refine Ct.of (a0 := a0) (plainFor_of_name pn_com_example_cartulary_cartulary_StarTable_Column) (own_ew hw) (L0 := #[.val (.ref a1)]) (fun m => by first | (simp [entryFrame, mkF, argsToLocals, Value.category]; done) | rfl) ?_
  refine Go.aloadN (pc' := 1) d_prog_38_method_15_code_0 rfl rfl rfl ?_
  refine Go.getF (pc' := 4) (host := "") (a1 := a0) d_prog_38_method_15_code_1 (Or.inl (hw _ (List.mem_of_getElem? (i := 56) rfl))) Via.refl F1 rfl ?_
  refine Go.retI rfl [] (fun _ q => nomatch q) d_prog_38_method_15_code_4 (by decide) (by decide) ?_
  exact ⟨rfl, rfl⟩
theorem d_prog_38_method_16_code_0 : decode prog_38_method_16_code 0 = .ok (.aload_n 0, 1) := by decide +kernel
theorem d_prog_38_method_16_code_1 : decode prog_38_method_16_code 1 = .ok (.getfield 21, 3) := by decide +kernel
theorem d_prog_38_method_16_code_4 : decode prog_38_method_16_code 4 = .ok (.ireturn, 1) := by decide +kernel
set_option maxRecDepth 65536 in
set_option maxHeartbeats 40000000 in
theorem ct_g_scale (l : Launch) (Z : State) (a0 : Array Value) (hw : ∀ d ∈ tables_1, d.before a0 Z = true) (n0 : Nat) (h0 : Heap) (a1 : Addr) (p1 : Int32) (F1 : Fld Z h0 a1 "com/example/cartulary/cartulary/StarTable$Column" "scale" "I" (.int p1)) :
    Ct l Z (⟨"com/example/cartulary/cartulary/StarTable$Column", "scale", "()I"⟩ : MethodName) prog_38_method_16_code 1 (some .int) ({ frames := 0, cells := 0, slots := 0, locals := 0 } : Room) EL1 n0 false [] #[(.ref a1)] h0 [] (fun v h N => h0 = h ∧ v = some (.int p1)) := by
  refine Ct.of (a0 := a0) (plainFor_of_name pn_com_example_cartulary_cartulary_StarTable_Column) (own_ew hw) (L0 := #[.val (.ref a1)]) (fun m => by first | (simp [entryFrame, mkF, argsToLocals, Value.category]; done) | rfl) ?_
  refine Go.aloadN (pc' := 1) d_prog_38_method_16_code_0 rfl rfl rfl ?_
  refine Go.getF (pc' := 4) (host := "") (a1 := a0) d_prog_38_method_16_code_1 (Or.inl (hw _ (List.mem_of_getElem? (i := 58) rfl))) Via.refl F1 rfl ?_
  refine Go.retI rfl [] (fun _ q => nomatch q) d_prog_38_method_16_code_4 (by decide) (by decide) ?_
  exact ⟨rfl, rfl⟩
theorem d_prog_38_method_17_code_0 : decode prog_38_method_17_code 0 = .ok (.aload_n 0, 1) := by decide +kernel
theorem d_prog_38_method_17_code_1 : decode prog_38_method_17_code 1 = .ok (.getfield 24, 3) := by decide +kernel
theorem d_prog_38_method_17_code_4 : decode prog_38_method_17_code 4 = .ok (.areturn, 1) := by decide +kernel
set_option maxRecDepth 65536 in
set_option maxHeartbeats 40000000 in
theorem ct_g_absent (l : Launch) (Z : State) (a0 : Array Value) (hw : ∀ d ∈ tables_1, d.before a0 Z = true) (n0 : Nat) (h0 : Heap) (a1 : Addr) (u1 : Value) (hu1 : u1.isRef = true) (F1 : Fld Z h0 a1 "com/example/cartulary/cartulary/StarTable$Column" "absent" "Ljava/lang/Object;" u1) :
    Ct l Z (⟨"com/example/cartulary/cartulary/StarTable$Column", "absent", "()Ljava/lang/Object;"⟩ : MethodName) prog_38_method_17_code 1 (some (.object "java/lang/Object")) ({ frames := 0, cells := 0, slots := 0, locals := 0 } : Room) EL1 n0 false [] #[(.ref a1)] h0 [] (fun v h N => h0 = h ∧ v = some u1) := by
  refine Ct.of (a0 := a0) (plainFor_of_name pn_com_example_cartulary_cartulary_StarTable_Column) (own_ew hw) (L0 := #[.val (.ref a1)]) (fun m => by first | (simp [entryFrame, mkF, argsToLocals, Value.category]; done) | rfl) ?_
  refine Go.aloadN (pc' := 1) d_prog_38_method_17_code_0 rfl rfl rfl ?_
  refine Go.getF (pc' := 4) (host := "") (a1 := a0) d_prog_38_method_17_code_1 (Or.inl (hw _ (List.mem_of_getElem? (i := 60) rfl))) Via.refl F1 rfl ?_
  refine Go.retA rfl rfl hu1 [] (fun _ q => nomatch q) d_prog_38_method_17_code_4 (by decide) (by decide) ?_
  exact ⟨rfl, rfl⟩
theorem d_prog_38_method_18_code_0 : decode prog_38_method_18_code 0 = .ok (.aload_n 0, 1) := by decide +kernel
theorem d_prog_38_method_18_code_1 : decode prog_38_method_18_code 1 = .ok (.getfield 28, 3) := by decide +kernel
theorem d_prog_38_method_18_code_4 : decode prog_38_method_18_code 4 = .ok (.ireturn, 1) := by decide +kernel
set_option maxRecDepth 65536 in
set_option maxHeartbeats 40000000 in
theorem ct_g_stored (l : Launch) (Z : State) (a0 : Array Value) (hw : ∀ d ∈ tables_1, d.before a0 Z = true) (n0 : Nat) (h0 : Heap) (a1 : Addr) (p1 : Int32) (hz : nar .boolean p1 = p1) (F1 : Fld Z h0 a1 "com/example/cartulary/cartulary/StarTable$Column" "stored" "Z" (.int p1)) :
    Ct l Z (⟨"com/example/cartulary/cartulary/StarTable$Column", "stored", "()Z"⟩ : MethodName) prog_38_method_18_code 1 (some .boolean) ({ frames := 0, cells := 0, slots := 0, locals := 0 } : Room) EL1 n0 false [] #[(.ref a1)] h0 [] (fun v h N => h0 = h ∧ v = some (.int p1)) := by
  refine Ct.of (a0 := a0) (plainFor_of_name pn_com_example_cartulary_cartulary_StarTable_Column) (own_ew hw) (L0 := #[.val (.ref a1)]) (fun m => by first | (simp [entryFrame, mkF, argsToLocals, Value.category]; done) | rfl) ?_
  refine Go.aloadN (pc' := 1) d_prog_38_method_18_code_0 rfl rfl rfl ?_
  refine Go.getF (pc' := 4) (host := "") (a1 := a0) d_prog_38_method_18_code_1 (Or.inl (hw _ (List.mem_of_getElem? (i := 62) rfl))) Via.refl F1 rfl ?_
  refine Go.retN (t := .boolean) p1 rfl (by simp) (by assumption) [] (fun _ q => nomatch q) d_prog_38_method_18_code_4 (by decide) (by decide) ?_
  exact ⟨rfl, rfl⟩
theorem d_prog_38_method_19_code_0 : decode prog_38_method_19_code 0 = .ok (.aload_n 0, 1) := by decide +kernel
theorem d_prog_38_method_19_code_1 : decode prog_38_method_19_code 1 = .ok (.getfield 32, 3) := by decide +kernel
theorem d_prog_38_method_19_code_4 : decode prog_38_method_19_code 4 = .ok (.areturn, 1) := by decide +kernel
set_option maxRecDepth 65536 in
set_option maxHeartbeats 40000000 in
theorem ct_g_namedBy (l : Launch) (Z : State) (a0 : Array Value) (hw : ∀ d ∈ tables_1, d.before a0 Z = true) (n0 : Nat) (h0 : Heap) (a1 : Addr) (u1 : Value) (hu1 : u1.isRef = true) (F1 : Fld Z h0 a1 "com/example/cartulary/cartulary/StarTable$Column" "namedBy" "Lcom/example/cartulary/cartulary/StarTable$NamedBy;" u1) :
    Ct l Z (⟨"com/example/cartulary/cartulary/StarTable$Column", "namedBy", "()Lcom/example/cartulary/cartulary/StarTable$NamedBy;"⟩ : MethodName) prog_38_method_19_code 1 (some (.object "com/example/cartulary/cartulary/StarTable$NamedBy")) ({ frames := 0, cells := 0, slots := 0, locals := 0 } : Room) EL1 n0 false [] #[(.ref a1)] h0 [] (fun v h N => h0 = h ∧ v = some u1) := by
  refine Ct.of (a0 := a0) (plainFor_of_name pn_com_example_cartulary_cartulary_StarTable_Column) (own_ew hw) (L0 := #[.val (.ref a1)]) (fun m => by first | (simp [entryFrame, mkF, argsToLocals, Value.category]; done) | rfl) ?_
  refine Go.aloadN (pc' := 1) d_prog_38_method_19_code_0 rfl rfl rfl ?_
  refine Go.getF (pc' := 4) (host := "") (a1 := a0) d_prog_38_method_19_code_1 (Or.inl (hw _ (List.mem_of_getElem? (i := 64) rfl))) Via.refl F1 rfl ?_
  refine Go.retA rfl rfl hu1 [] (fun _ q => nomatch q) d_prog_38_method_19_code_4 (by decide) (by decide) ?_
  exact ⟨rfl, rfl⟩
theorem d_jdk_42_method_66_code_0 : decode jdk_42_method_66_code 0 = .ok (.aload_n 0, 1) := by decide +kernel
theorem d_jdk_42_method_66_code_1 : decode jdk_42_method_66_code 1 = .ok (.aload_n 1, 1) := by decide +kernel
theorem d_jdk_42_method_66_code_2 : decode jdk_42_method_66_code 2 = .ok (.if_acmp .ne 5, 3) := by decide +kernel
theorem d_jdk_42_method_66_code_5 : decode jdk_42_method_66_code 5 = .ok (.iconst 1, 1) := by decide +kernel
theorem d_jdk_42_method_66_code_6 : decode jdk_42_method_66_code 6 = .ok (.ireturn, 1) := by decide +kernel
set_option maxRecDepth 65536 in
set_option maxHeartbeats 40000000 in
theorem ct_equalsS (l : Launch) (Z : State) (a0 : Array Value) (hw : ∀ d ∈ tables_1, d.before a0 Z = true) (n0 : Nat) (h0 : Heap) (a1 : Addr) :
    Ct l Z (⟨"java/lang/String", "equals", "(Ljava/lang/Object;)Z"⟩ : MethodName) jdk_42_method_66_code 3 (some .boolean) ({ frames := 0, cells := 0, slots := 0, locals := 0 } : Room) EL1 n0 false [] #[(.ref a1), (.ref a1)] h0 [] (fun v h N => h0 = h ∧ v = some (.int 1)) := by
  refine Ct.of (a0 := a0) (plainFor_of_name pn_java_lang_String) (own_ew hw) (L0 := #[.val (.ref a1), .val (.ref a1), .unset]) (fun m => by first | (simp [entryFrame, mkF, argsToLocals, Value.category]; done) | rfl) ?_
  refine Go.aloadN (pc' := 1) d_jdk_42_method_66_code_0 rfl rfl rfl ?_
  refine Go.aloadN (pc' := 2) d_jdk_42_method_66_code_1 rfl rfl rfl ?_
  refine Go.acmp (pc' := 5) true d_jdk_42_method_66_code_2 rfl rfl (decide_eq_true rfl) (by decide) (by decide) ?_
  refine Go.iconst (pc' := 6) 1 d_jdk_42_method_66_code_5 rfl rfl ?_
  refine Go.retN (t := .boolean) (1 : Int32) rfl (by simp) rfl [] (fun _ q => nomatch q) d_jdk_42_method_66_code_6 (by decide) (by decide) ?_
  exact ⟨rfl, rfl⟩
theorem pn_java_util_AbstractCollection : plainName "java/util/AbstractCollection" = true := by first | (simp [plainName, overriddenIn]; done) | decide +kernel
theorem d_jdk_22_method_1_code_0 : decode jdk_22_method_1_code 0 = .ok (.aload_n 0, 1) := by decide +kernel
theorem d_jdk_22_method_1_code_1 : decode jdk_22_method_1_code 1 = .ok (.invokespecial 1, 3) := by decide +kernel
theorem d_jdk_22_method_1_code_4 : decode jdk_22_method_1_code 4 = .ok (.return_, 1) := by decide +kernel
set_option maxRecDepth 65536 in
set_option maxHeartbeats 40000000 in
theorem ct_ac0 (l : Launch) (Z : State) (a0 : Array Value) (hw : ∀ d ∈ tables_1, d.before a0 Z = true) (n0 : Nat) (h0 : Heap) (a1 : Addr) :
    Ct l Z (⟨"java/util/AbstractCollection", "<init>", "()V"⟩ : MethodName) jdk_22_method_1_code 1 none ({ frames := 1, cells := 0, slots := 0, locals := 12 } : Room) EL1 n0 false [] #[(.ref a1)] h0 [] (fun v h N => h0 = h ∧ v = none) := by
  refine Ct.of (a0 := a0) (plainFor_of_name pn_java_util_AbstractCollection) (own_ew hw) (L0 := #[.val (.ref a1)]) (fun m => by first | (simp [entryFrame, mkF, argsToLocals, Value.category]; done) | rfl) ?_
  refine Go.aloadN (pc' := 1) d_jdk_22_method_1_code_0 rfl rfl rfl ?_
  refine Go.initO (pc' := 4) (a1 := a0) d_jdk_22_method_1_code_1 (hw _ (List.mem_of_getElem? (i := 134) rfl)) (hw _ (List.mem_of_getElem? (i := 19) rfl)) (hw _ (List.mem_of_getElem? (i := 20) rfl)) rfl (by decide) 0 rfl (by decide) rfl ?_
  refine Go.ret0 rfl [] (fun _ q => nomatch q) d_jdk_22_method_1_code_4 (by decide) (by decide) ?_
  exact ⟨rfl, rfl⟩
theorem pn_java_util_AbstractList : plainName "java/util/AbstractList" = true := by first | (simp [plainName, overriddenIn]; done) | decide +kernel
theorem d_jdk_39_method_1_code_0 : decode jdk_39_method_1_code 0 = .ok (.aload_n 0, 1) := by decide +kernel
theorem d_jdk_39_method_1_code_1 : decode jdk_39_method_1_code 1 = .ok (.invokespecial 1, 3) := by decide +kernel
theorem d_jdk_39_method_1_code_4 : decode jdk_39_method_1_code 4 = .ok (.aload_n 0, 1) := by decide +kernel
theorem d_jdk_39_method_1_code_5 : decode jdk_39_method_1_code 5 = .ok (.iconst 0, 1) := by decide +kernel
theorem d_jdk_39_method_1_code_6 : decode jdk_39_method_1_code 6 = .ok (.putfield 7, 3) := by decide +kernel
theorem d_jdk_39_method_1_code_9 : decode jdk_39_method_1_code 9 = .ok (.return_, 1) := by decide +kernel
set_option maxRecDepth 65536 in
set_option maxHeartbeats 40000000 in
theorem ct_ab0 (l : Launch) (Z : State) (a0 : Array Value) (hw : ∀ d ∈ tables_1, d.before a0 Z = true) (n0 : Nat) (h0 : Heap) (a1 : Addr) (ha1 : n0 ≤ a1) (E1 : Exa Z h0 a1 "java/util/ArrayList") (G0 : Fld Z h0 a1 "java/util/AbstractList" "modCount" "I" (.int (0 : Int32))) :
    Ct l Z (⟨"java/util/AbstractList", "<init>", "()V"⟩ : MethodName) jdk_39_method_1_code 1 none ({ frames := 2, cells := 0, slots := 0, locals := 24 } : Room) EL1 n0 false [] #[(.ref a1)] h0 [] (fun v h N => v = none ∧ Keep h0 h [a1] ∧ ∀ v0, Fld Z h0 a1 "java/util/ArrayList" "elementData" "[Ljava/lang/Object;" v0 → Fld Z h a1 "java/util/ArrayList" "elementData" "[Ljava/lang/Object;" v0) := by
  refine Ct.of (a0 := a0) (plainFor_of_name pn_java_util_AbstractList) (own_ew hw) (L0 := #[.val (.ref a1)]) (fun m => by first | (simp [entryFrame, mkF, argsToLocals, Value.category]; done) | rfl) ?_
  have lta1 := nlt E1.lt
  have l0_E1 := nlt E1.lt
  refine Go.aloadN (pc' := 1) d_jdk_39_method_1_code_0 rfl rfl rfl ?_
  refine Go.callN (a1 := a0) (pc' := 4) (argsL := []) (rest := []) (ct_ac0 l Z a0 hw n0 h0 a1) d_jdk_39_method_1_code_1 rfl (hw _ (List.mem_of_getElem? (i := 128) rfl)) (hw _ (List.mem_of_getElem? (i := 129) rfl)) (hw _ (List.mem_of_getElem? (i := 132) rfl)) (hw _ (List.mem_of_getElem? (i := 133) rfl)) (by decide) (lenOf pd__28_29V rfl) rfl 0 rfl rfl (by decide) (by decide) (by decide) (by decide) (fun _ q => nomatch q) rfl (fun v_1 h_2 N_3 hQ_4 hle_5 => ?_)
  obtain ⟨rfl, rfl⟩ := hQ_4
  refine Go.re (pc' := 4) (L' := #[.val (.ref a1)]) (S' := []) rfl rfl rfl ?_
  refine Go.aloadN (pc' := 5) d_jdk_39_method_1_code_4 rfl rfl rfl ?_
  refine Go.iconst (pc' := 6) 0 d_jdk_39_method_1_code_5 rfl rfl ?_
  refine Go.putF (pc' := 9) (host := "") (a1 := a0) d_jdk_39_method_1_code_6 (Or.inl (hw _ (List.mem_of_getElem? (i := 135) rfl))) Via.refl G0 E1 (Or.inl (hw _ (List.mem_of_getElem? (i := 136) rfl))) (hw _ (List.mem_of_getElem? (i := 117) rfl)) (ty := .int) (by decide) rfl rfl (Sf.exa E1 (by decide) (by decide)) (by omega) rfl (fun h_6 W_7 => ?_)
  have szh_6 : h_6.size = h0.size := Wr.size W_7
  have F_8 : Fld Z h_6 a1 "java/util/AbstractList" "modCount" "I" (.int (0 : Int32)) := Fld.same W_7 G0
  refine Go.ret0 rfl [] (fun _ q => nomatch q) d_jdk_39_method_1_code_9 (by decide) (by decide) ?_
  exact ⟨rfl, (Keep.wr (Keep.refl _ [a1]) W_7 (Or.inl (by simp))), fun v0 F9 => (Fld.other W_7 F9 (Or.inr (slot_ne (Or.inl (hw _ (List.mem_of_getElem? (i := 139) rfl))) (Or.inl (hw _ (List.mem_of_getElem? (i := 136) rfl))) (by decide) (t := (.array (.object "java/lang/Object"))) (t' := .int) (by decide) (by decide))))⟩
theorem pn_java_util_ArrayList : plainName "java/util/ArrayList" = true := by first | (simp [plainName, overriddenIn]; done) | decide +kernel
theorem d_jdk_38_method_2_code_0 : decode jdk_38_method_2_code 0 = .ok (.aload_n 0, 1) := by decide +kernel
theorem d_jdk_38_method_2_code_1 : decode jdk_38_method_2_code 1 = .ok (.invokespecial 1, 3) := by decide +kernel
theorem d_jdk_38_method_2_code_4 : decode jdk_38_method_2_code 4 = .ok (.aload_n 0, 1) := by decide +kernel
theorem d_jdk_38_method_2_code_5 : decode jdk_38_method_2_code 5 = .ok (.getstatic 39, 3) := by decide +kernel
theorem d_jdk_38_method_2_code_8 : decode jdk_38_method_2_code 8 = .ok (.putfield 9, 3) := by decide +kernel
theorem d_jdk_38_method_2_code_11 : decode jdk_38_method_2_code 11 = .ok (.return_, 1) := by decide +kernel
set_option maxRecDepth 65536 in
set_option maxHeartbeats 40000000 in
theorem ct_al0 (l : Launch) (Z : State) (a0 : Array Value) (hw : ∀ d ∈ tables_1, d.before a0 Z = true) (n0 : Nat) (h0 : Heap) (a1 : Addr) (ha1 : n0 ≤ a1) (E1 : Exa Z h0 a1 "java/util/ArrayList") (G0 : Fld Z h0 a1 "java/util/AbstractList" "modCount" "I" (.int (0 : Int32))) (G1 : Fld Z h0 a1 "java/util/ArrayList" "elementData" "[Ljava/lang/Object;" .null) (de : Addr) (S_de : Sta Z h0 "java/util/ArrayList" "DEFAULTCAPACITY_EMPTY_ELEMENTDATA" "[Ljava/lang/Object;" (.ref de)) :
    Ct l Z (⟨"java/util/ArrayList", "<init>", "()V"⟩ : MethodName) jdk_38_method_2_code 1 none ({ frames := 3, cells := 0, slots := 0, locals := 36 } : Room) EL1 n0 false [] #[(.ref a1)] h0 [] (fun v h N => v = none ∧ Keep h0 h [a1]) := by
  refine Ct.of (a0 := a0) (plainFor_of_name pn_java_util_ArrayList) (own_ew hw) (L0 := #[.val (.ref a1)]) (fun m => by first | (simp [entryFrame, mkF, argsToLocals, Value.category]; done) | rfl) ?_
  have lta1 := nlt E1.lt
  have l0_E1 := nlt E1.lt
  refine Go.aloadN (pc' := 1) d_jdk_38_method_2_code_0 rfl rfl rfl ?_
  refine Go.callN (a1 := a0) (pc' := 4) (argsL := []) (rest := []) (ct_ab0 l Z a0 hw n0 h0 a1 (by omega) E1 G0) d_jdk_38_method_2_code_1 rfl (hw _ (List.mem_of_getElem? (i := 122) rfl)) (hw _ (List.mem_of_getElem? (i := 123) rfl)) (hw _ (List.mem_of_getElem? (i := 126) rfl)) (hw _ (List.mem_of_getElem? (i := 127) rfl)) (by decide) (lenOf pd__28_29V rfl) rfl 0 rfl rfl (by decide) (by decide) (by decide) (by decide) (fun _ q => nomatch q) rfl (fun v_3 h_4 N_5 hQ_6 hle_7 => ?_)
  obtain ⟨rfl, K_1, F_2⟩ := hQ_6
  have F_8 := F_2 _ G1
  refine Go.re (pc' := 4) (L' := #[.val (.ref a1)]) (S' := []) rfl rfl rfl ?_
  refine Go.aloadN (pc' := 5) d_jdk_38_method_2_code_4 rfl rfl rfl ?_
  have F_9 : Sta Z h_4 "java/util/ArrayList" "DEFAULTCAPACITY_EMPTY_ELEMENTDATA" "[Ljava/lang/Object;" (.ref de) := (sta_keep S_de K_1 (nsS (Exa.nostat E1) ns0))
  refine Go.getS (pc' := 8) (host := "") (a1 := a0) d_jdk_38_method_2_code_5 (Or.inl (hw _ (List.mem_of_getElem? (i := 137) rfl))) Via.refl F_9 rfl ?_
  have F_10 : Exa Z h_4 a1 "java/util/ArrayList" := (Exa.keep E1 K_1)
  refine Go.putF (pc' := 11) (host := "") (a1 := a0) d_jdk_38_method_2_code_8 (Or.inl (hw _ (List.mem_of_getElem? (i := 138) rfl))) Via.refl F_8 F_10 (Or.inl (hw _ (List.mem_of_getElem? (i := 139) rfl))) (hw _ (List.mem_of_getElem? (i := 117) rfl)) (ty := (.array (.object "java/lang/Object"))) (by decide) rfl rfl (Sf.exa F_10 (by decide) (by decide)) (by omega) rfl (fun h_11 W_12 => ?_)
  have szh_11 : h_11.size = h_4.size := Wr.size W_12
  have F_13 : Fld Z h_11 a1 "java/util/ArrayList" "elementData" "[Ljava/lang/Object;" (.ref de) := Fld.same W_12 F_8
  refine Go.ret0 rfl [] (fun _ q => nomatch q) d_jdk_38_method_2_code_11 (by decide) (by decide) ?_
  exact ⟨rfl, (Keep.wr (Keep.trans (Keep.refl _ [a1]) K_1 (allS (Or.inl (by simp)) all0)) W_12 (Or.inl (by simp)))⟩
theorem pn_com_example_cartulary_cartulary_StarTable_NamedBy : plainName "com/example/cartulary/cartulary/StarTable$NamedBy" = true := by first | (simp [plainName, overriddenIn]; done) | decide +kernel
theorem d_prog_39_method_1_code_0 : decode prog_39_method_1_code 0 = .ok (.aload_n 0, 1) := by decide +kernel
theorem d_prog_39_method_1_code_1 : decode prog_39_method_1_code 1 = .ok (.invokespecial 1, 3) := by decide +kernel
theorem d_prog_39_method_1_code_4 : decode prog_39_method_1_code 4 = .ok (.aload_n 0, 1) := by decide +kernel
theorem d_prog_39_method_1_code_5 : decode prog_39_method_1_code 5 = .ok (.aload_n 1, 1) := by decide +kernel
theorem d_prog_39_method_1_code_6 : decode prog_39_method_1_code 6 = .ok (.putfield 7, 3) := by decide +kernel
theorem d_prog_39_method_1_code_9 : decode prog_39_method_1_code 9 = .ok (.aload_n 0, 1) := by decide +kernel
theorem d_prog_39_method_1_code_10 : decode prog_39_method_1_code 10 = .ok (.aload_n 2, 1) := by decide +kernel
theorem d_prog_39_method_1_code_11 : decode prog_39_method_1_code 11 = .ok (.putfield 13, 3) := by decide +kernel
theorem d_prog_39_method_1_code_14 : decode prog_39_method_1_code 14 = .ok (.return_, 1) := by decide +kernel
set_option maxRecDepth 65536 in
set_option maxHeartbeats 40000000 in
theorem ct_nb0 (l : Launch) (Z : State) (a0 : Array Value) (hw : ∀ d ∈ tables_1, d.before a0 Z = true) (n0 : Nat) (h0 : Heap) (a1 b1 : Addr) (ha1 : n0 ≤ a1) (E1 : Exa Z h0 a1 "com/example/cartulary/cartulary/StarTable$NamedBy") (G0 : Fld Z h0 a1 "com/example/cartulary/cartulary/StarTable$NamedBy" "table" "Lcom/example/cartulary/cartulary/StarTable;" .null) (G1 : Fld Z h0 a1 "com/example/cartulary/cartulary/StarTable$NamedBy" "columns" "Ljava/util/List;" .null) :
    Ct l Z (⟨"com/example/cartulary/cartulary/StarTable$NamedBy", "<init>", "(Lcom/example/cartulary/cartulary/StarTable;Ljava/util/List;)V"⟩ : MethodName) prog_39_method_1_code 3 none ({ frames := 2, cells := 0, slots := 0, locals := 24 } : Room) EL1 n0 false [] #[(.ref a1), (.null), (.ref b1)] h0 [] (fun v h N => v = none ∧ Keep h0 h [a1]) := by
  refine Ct.of (a0 := a0) (plainFor_of_name pn_com_example_cartulary_cartulary_StarTable_NamedBy) (own_ew hw) (L0 := #[.val (.ref a1), .val (.null), .val (.ref b1)]) (fun m => by first | (simp [entryFrame, mkF, argsToLocals, Value.category]; done) | rfl) ?_
  have lta1 := nlt E1.lt
  have l0_E1 := nlt E1.lt
  refine Go.aloadN (pc' := 1) d_prog_39_method_1_code_0 rfl rfl rfl ?_
  refine Go.callN (a1 := a0) (pc' := 4) (argsL := []) (rest := []) (ct_record l Z a0 hw n0 h0 a1) d_prog_39_method_1_code_1 rfl (hw _ (List.mem_of_getElem? (i := 143) rfl)) (hw _ (List.mem_of_getElem? (i := 47) rfl)) (hw _ (List.mem_of_getElem? (i := 49) rfl)) (hw _ (List.mem_of_getElem? (i := 50) rfl)) (by decide) (lenOf pd__28_29V rfl) rfl 0 rfl rfl (by decide) (by decide) (by decide) (by decide) (fun _ q => nomatch q) rfl (fun v_1 h_2 N_3 hQ_4 hle_5 => ?_)
  obtain ⟨rfl, rfl⟩ := hQ_4
  refine Go.re (pc' := 4) (L' := #[.val (.ref a1), .val (.null), .val (.ref b1)]) (S' := []) rfl rfl rfl ?_
  refine Go.aloadN (pc' := 5) d_prog_39_method_1_code_4 rfl rfl rfl ?_
  refine Go.aloadN (pc' := 6) d_prog_39_method_1_code_5 rfl rfl rfl ?_
  refine Go.putF (pc' := 9) (host := "") (a1 := a0) d_prog_39_method_1_code_6 (Or.inl (hw _ (List.mem_of_getElem? (i := 144) rfl))) Via.refl G0 E1 (Or.inr ⟨(hw _ (List.mem_of_getElem? (i := 145) rfl)), rfl, rfl⟩) (hw _ (List.mem_of_getElem? (i := 114) rfl)) (ty := (.object "com/example/cartulary/cartulary/StarTable")) (by decide) rfl rfl (Sf.exa E1 (by decide) (by decide)) (by omega) rfl (fun h_6 W_7 => ?_)
  have szh_6 : h_6.size = h0.size := Wr.size W_7
  have F_8 : Fld Z h_6 a1 "com/example/cartulary/cartulary/StarTable$NamedBy" "table" "Lcom/example/cartulary/cartulary/StarTable;" (.null) := Fld.same W_7 G0
  refine Go.aloadN (pc' := 10) d_prog_39_method_1_code_9 rfl rfl rfl ?_
  refine Go.aloadN (pc' := 11) d_prog_39_method_1_code_10 rfl rfl rfl ?_
  have F_9 : Fld Z h_6 a1 "com/example/cartulary/cartulary/StarTable$NamedBy" "columns" "Ljava/util/List;" (.null) := (Fld.other W_7 G1 (Or.inr (slot_ne (Or.inr (hw _ (List.mem_of_getElem? (i := 147) rfl))) (Or.inr (hw _ (List.mem_of_getElem? (i := 145) rfl))) (by decide) (t := (.object "java/util/List")) (t' := (.object "com/example/cartulary/cartulary/StarTable")) (by decide) (by decide))))
  have F_10 : Exa Z h_6 a1 "com/example/cartulary/cartulary/StarTable$NamedBy" := (Exa.wr W_7 E1)
  refine Go.putF (pc' := 14) (host := "") (a1 := a0) d_prog_39_method_1_code_11 (Or.inl (hw _ (List.mem_of_getElem? (i := 146) rfl))) Via.refl F_9 F_10 (Or.inr ⟨(hw _ (List.mem_of_getElem? (i := 147) rfl)), rfl, rfl⟩) (hw _ (List.mem_of_getElem? (i := 114) rfl)) (ty := (.object "java/util/List")) (by decide) rfl rfl (Sf.exa F_10 (by decide) (by decide)) (by omega) rfl (fun h_11 W_12 => ?_)
  have szh_11 : h_11.size = h_6.size := Wr.size W_12
  have F_13 : Fld Z h_11 a1 "com/example/cartulary/cartulary/StarTable$NamedBy" "columns" "Ljava/util/List;" (.ref b1) := Fld.same W_12 F_9
  refine Go.ret0 rfl [] (fun _ q => nomatch q) d_prog_39_method_1_code_14 (by decide) (by decide) ?_
  exact ⟨rfl, (Keep.wr (Keep.wr (Keep.refl _ [a1]) W_7 (Or.inl (by simp))) W_12 (Or.inl (by simp)))⟩
theorem own_ch (x : Int32) : ¬ 255 < nar .char (x &&& 255) ∧ nar .char (nar .char (x &&& 255)) = nar .char (x &&& 255) := by
  have e : nar .char (x &&& 255) = x &&& 255 := i2c_mask x
  rw [e, e]
  have hn : (x &&& 255).toBitVec.toNat ≤ 255 := by
    rw [Int32.toBitVec_and, BitVec.toNat_and]
    exact Nat.and_le_right
  have hi : (x &&& 255).toInt = (x &&& 255).toBitVec.toNat := by
    show (x &&& 255).toBitVec.toInt = _
    rw [BitVec.toInt_eq_toNat_of_lt (by omega)]
  have e1 : (255 : Int32).toInt = 255 := by decide
  refine ⟨?_, rfl⟩
  rw [Int32.lt_iff_toInt_lt, hi, e1]; omega
theorem pd__28I_29Lcom_2fexample_2fcartulary_2fcartulary_2fColumnType_3b : parseMethodDescriptor "(I)Lcom/example/cartulary/cartulary/ColumnType;" = some ⟨[.int], (some (.object "com/example/cartulary/cartulary/ColumnType"))⟩ := by decide +kernel
theorem pd__28_5bC_29V : parseMethodDescriptor "([C)V" = some ⟨[(.array .char)], none⟩ := by decide +kernel
theorem pd__28IILjava_2flang_2fString_3bLjava_2flang_2fObject_3b_29Ljava_2flang_2fObject_3b : parseMethodDescriptor "(IILjava/lang/String;Ljava/lang/Object;)Ljava/lang/Object;" = some ⟨[.int, .int, (.object "java/lang/String"), (.object "java/lang/Object")], (some (.object "java/lang/Object"))⟩ := by decide +kernel
theorem pd__28Ljava_2flang_2fObject_3b_29Lcom_2fexample_2fcartulary_2fcartulary_2fStarTable_24Column_3b : parseMethodDescriptor "(Ljava/lang/Object;)Lcom/example/cartulary/cartulary/StarTable$Column;" = some ⟨[(.object "java/lang/Object")], (some (.object "com/example/cartulary/cartulary/StarTable$Column"))⟩ := by decide +kernel
theorem pd__28_29Ljava_2flang_2fString_3b : parseMethodDescriptor "()Ljava/lang/String;" = some ⟨[], (some (.object "java/lang/String"))⟩ := by decide +kernel
theorem pd__28Ljava_2flang_2fObject_3b_29Z : parseMethodDescriptor "(Ljava/lang/Object;)Z" = some ⟨[(.object "java/lang/Object")], (some .boolean)⟩ := by decide +kernel
theorem pd__28_29Lcom_2fexample_2fcartulary_2fcartulary_2fColumnType_3b : parseMethodDescriptor "()Lcom/example/cartulary/cartulary/ColumnType;" = some ⟨[], (some (.object "com/example/cartulary/cartulary/ColumnType"))⟩ := by decide +kernel
theorem pd__28_29I : parseMethodDescriptor "()I" = some ⟨[], (some .int)⟩ := by decide +kernel
theorem pd__28_29Ljava_2flang_2fObject_3b : parseMethodDescriptor "()Ljava/lang/Object;" = some ⟨[], (some (.object "java/lang/Object"))⟩ := by decide +kernel
theorem pd__28_29Z : parseMethodDescriptor "()Z" = some ⟨[], (some .boolean)⟩ := by decide +kernel
theorem pd__28_29Lcom_2fexample_2fcartulary_2fcartulary_2fStarTable_24NamedBy_3b : parseMethodDescriptor "()Lcom/example/cartulary/cartulary/StarTable$NamedBy;" = some ⟨[], (some (.object "com/example/cartulary/cartulary/StarTable$NamedBy"))⟩ := by decide +kernel
theorem pd__28Lcom_2fexample_2fcartulary_2fcartulary_2fStarTable_3bLjava_2futil_2fList_3b_29V : parseMethodDescriptor "(Lcom/example/cartulary/cartulary/StarTable;Ljava/util/List;)V" = some ⟨[(.object "com/example/cartulary/cartulary/StarTable"), (.object "java/util/List")], none⟩ := by decide +kernel
set_option maxRecDepth 65536 in
set_option maxHeartbeats 40000000 in
theorem ct_law (l : Launch) (Z : State) (a0 : Array Value) (hw : ∀ d ∈ tables_1, d.before a0 Z = true) (n0 : Nat) (h0 : Heap) (p0 p1 p2 p3 p4 p5 : Int32) (hn0 : n0 = h0.size) (o_TEXT : Addr) (S_TEXT : Sta Z h0 "com/example/cartulary/cartulary/ColumnType" "TEXT" "Lcom/example/cartulary/cartulary/ColumnType;" (.ref o_TEXT)) (X_TEXT : Exa Z h0 o_TEXT "com/example/cartulary/cartulary/ColumnType$1") (o_INTEGER : Addr) (S_INTEGER : Sta Z h0 "com/example/cartulary/cartulary/ColumnType" "INTEGER" "Lcom/example/cartulary/cartulary/ColumnType;" (.ref o_INTEGER)) (X_INTEGER : Exa Z h0 o_INTEGER "com/example/cartulary/cartulary/ColumnType$2") (o_TIMESTAMP : Addr) (S_TIMESTAMP : Sta Z h0 "com/example/cartulary/cartulary/ColumnType" "TIMESTAMP" "Lcom/example/cartulary/cartulary/ColumnType;" (.ref o_TIMESTAMP)) (X_TIMESTAMP : Exa Z h0 o_TIMESTAMP "com/example/cartulary/cartulary/ColumnType$4") (o_NUMERIC : Addr) (S_NUMERIC : Sta Z h0 "com/example/cartulary/cartulary/ColumnType" "NUMERIC" "Lcom/example/cartulary/cartulary/ColumnType;" (.ref o_NUMERIC)) (X_NUMERIC : Exa Z h0 o_NUMERIC "com/example/cartulary/cartulary/ColumnType$3") (cs : Int32) (S_cs : Sta Z h0 "java/lang/String" "COMPACT_STRINGS" "Z" (.int cs)) (hcs : ¬ cs = 0) (de : Addr) (S_de : Sta Z h0 "java/util/ArrayList" "DEFAULTCAPACITY_EMPTY_ELEMENTDATA" "[Ljava/lang/Object;" (.ref de)) (cb : Addr) (ccl : Cell) (S_hi : Sta Z h0 "java/lang/Integer$IntegerCache" "high" "I" (.int (127 : Int32))) (S_ca : Sta Z h0 "java/lang/Integer$IntegerCache" "cache" "[Ljava/lang/Integer;" (.ref cb)) (A_ca : RoadKit.Arr Z h0 cb ccl (.object "java/lang/Integer")) (hcs_ : ccl.slots.size = 256) (hel : ∀ j, j < 256 → ∃ b, ccl.slots[j]? = some (.ref b)) (hcb : cb < n0) :
    Ct l Z x code maxLocals ret room_1 EL1 n0 false tables_1 #[(.int p0), (.int p1), (.int p2), (.int p3), (.int p4), (.int p5)] h0 [] (fun v h N => v = some (.int 1)) := by
  refine Ct.of (a0 := a0) (plainFor_of_name pn_com_example_cartulary_cartulary_ColumnOrElsePinLaw) (own_ew hw) (L0 := #[.val (.int p0), .val (.int p1), .val (.int p2), .val (.int p3), .val (.int p4), .val (.int p5), .unset, .unset, .unset, .unset, .unset, .unset, .unset, .unset, .unset, .unset, .unset]) (fun m => by first | (simp [entryFrame, mkF, argsToLocals, Value.category, maxLocals]; done) | rfl) ?_
  have l0_X_TEXT := nlt X_TEXT.lt
  have l0_X_INTEGER := nlt X_INTEGER.lt
  have l0_X_TIMESTAMP := nlt X_TIMESTAMP.lt
  have l0_X_NUMERIC := nlt X_NUMERIC.lt
  have l0_A_ca := nlt A_ca.lt
  refine Go.iload (pc' := 2) at_0 rfl rfl ?_
  refine Go.iconst (pc' := 3) 1 at_2 rfl rfl ?_
  refine Go.iand (pc' := 4) at_3 rfl ?_
  refine Go.ifc (pc' := 11) (pc'' := 7) at_4 (by decide) (by decide) rfl (fun hc_1 => ?_) (fun hc_1 => ?_)
  · have hc_1 : (p5 &&& (1 : Int32)) = 0 := hc_1
    refine Go.iconst (pc' := 12) 0 at_11 rfl rfl ?_
    refine Go.istore (pc' := 14) #[.val (.int p0), .val (.int p1), .val (.int p2), .val (.int p3), .val (.int p4), .val (.int p5), .val (.int (0 : Int32)), .unset, .unset, .unset, .unset, .unset, .unset, .unset, .unset, .unset, .unset] at_12 rfl rfl ?_
    refine Go.iload (pc' := 16) at_14 rfl rfl ?_
    refine Go.iconst (pc' := 17) 1 at_16 rfl rfl ?_
    refine Go.iushr (pc' := 18) at_17 rfl ?_
    refine Go.bipush (pc' := 20) 7 at_18 rfl rfl ?_
    refine Go.iand (pc' := 21) at_20 rfl ?_
    refine Go.iconst (pc' := 22) 5 at_21 rfl rfl ?_
    refine Go.irem (pc' := 23) at_22 (by decide) rfl ?_
    refine Go.callS (a1 := a0) (pc' := 26) (argsL := [(.int (((usr p5 (1 : Int32)) &&& (7 : Int32)) % (5 : Int32)))]) (rest := []) (ct_type l Z a0 hw n0 h0 (((usr p5 (1 : Int32)) &&& (7 : Int32)) % (5 : Int32)) o_TEXT S_TEXT o_INTEGER S_INTEGER o_TIMESTAMP S_TIMESTAMP o_NUMERIC S_NUMERIC) at_23 (hw _ (List.mem_of_getElem? (i := 0) rfl)) (hw _ (List.mem_of_getElem? (i := 1) rfl)) (hw _ (List.mem_of_getElem? (i := 2) rfl)) (hw _ (List.mem_of_getElem? (i := 3) rfl)) (by decide) (lenOf pd__28I_29Lcom_2fexample_2fcartulary_2fcartulary_2fColumnType_3b rfl) rfl 0 rfl rfl (by decide) (by decide) (by decide) (by decide) (fun _ q => nomatch q) rfl (fun v_4 h_5 N_6 hQ_7 hle_8 => ?_)
    obtain ⟨rfl, u_2, rfl, hu_3⟩ := hQ_7
    refine Go.re (pc' := 26) (L' := #[.val (.int p0), .val (.int p1), .val (.int p2), .val (.int p3), .val (.int p4), .val (.int p5), .val (.int (0 : Int32)), .unset, .unset, .unset, .unset, .unset, .unset, .unset, .unset, .unset, .unset]) (S' := [u_2]) rfl rfl rfl ?_
    refine Go.astore (pc' := 28) #[.val (.int p0), .val (.int p1), .val (.int p2), .val (.int p3), .val (.int p4), .val (.int p5), .val (.int (0 : Int32)), .val (u_2), .unset, .unset, .unset, .unset, .unset, .unset, .unset, .unset, .unset] at_26 hu_3 (XS.store1 (o := .unset) rfl (Or.inl rfl) (XT.cat1 hu_3)) rfl ?_
    refine Go.iload (pc' := 30) at_28 rfl rfl ?_
    refine Go.iconst (pc' := 31) 4 at_30 rfl rfl ?_
    refine Go.iushr (pc' := 32) at_31 rfl ?_
    refine Go.iconst (pc' := 33) 1 at_32 rfl rfl ?_
    refine Go.iand (pc' := 34) at_33 rfl ?_
    refine Go.ifc (pc' := 55) (pc'' := 37) at_34 (by decide) (by decide) rfl (fun hc_9 => ?_) (fun hc_9 => ?_)
    · have hc_9 : ((usr p5 (4 : Int32)) &&& (1 : Int32)) = 0 := hc_9
      refine Go.aconstNull (pc' := 56) at_55 rfl ?_
      refine Go.astore (pc' := 58) #[.val (.int p0), .val (.int p1), .val (.int p2), .val (.int p3), .val (.int p4), .val (.int p5), .val (.int (0 : Int32)), .val (u_2), .val (.null), .unset, .unset, .unset, .unset, .unset, .unset, .unset, .unset] at_56 rfl rfl rfl ?_
      refine Go.iconst (pc' := 59) 2 at_58 rfl rfl ?_
      refine Go.newPV (pc' := 61) (a1 := a0) 2 [(.int (0 : Int32)), (.int (0 : Int32))] at_59 (hw _ (List.mem_of_getElem? (i := 7) rfl)) (by decide) (by decide) (by decide) (by decide) (by decide) rfl rfl (fun a_10 h_11 cA_12 ha_13 E_14 A_15 => ?_)
      have szh_11 : h0.size ≤ h_11.size := E_14.1
      have lta_10 := nlt A_15.lt
      have qa_10 := neq ha_13
      have F_16 : Arv Z h_11 a_10 cA_12 .char (2 : Int32) [(.int (0 : Int32)), (.int (0 : Int32))] (.int 0) := A_15
      refine Go.astore (pc' := 63) #[.val (.int p0), .val (.int p1), .val (.int p2), .val (.int p3), .val (.int p4), .val (.int p5), .val (.int (0 : Int32)), .val (u_2), .val (.null), .val (.ref a_10), .unset, .unset, .unset, .unset, .unset, .unset, .unset] at_61 rfl rfl rfl ?_
      refine Go.aload (pc' := 65) at_63 rfl rfl rfl ?_
      refine Go.iconst (pc' := 66) 0 at_65 rfl rfl ?_
      refine Go.iload (pc' := 68) at_66 rfl rfl ?_
      refine Go.sipush (pc' := 71) 255 at_68 rfl rfl ?_
      refine Go.iand (pc' := 72) at_71 rfl ?_
      refine Go.i2c (pc' := 73) at_72 rfl ?_
      refine Go.castoreV (pc' := 74) 0 at_73 F_16 (by decide) rfl (show 0 < 2 by decide) (by omega) rfl (fun h_17 W_18 A_19 => ?_)
      have szh_17 : h_17.size = h_11.size := Wr.size W_18
      have F_20 : Arv Z h_17 a_10 cA_12 .char (2 : Int32) [(.int (nar .char (p4 &&& (255 : Int32)))), (.int (0 : Int32))] (.int 0) := by have q := A_19; rw [(own_ch p4).2] at q; exact q
      refine Go.aload (pc' := 76) at_74 rfl rfl rfl ?_
      refine Go.iconst (pc' := 77) 1 at_76 rfl rfl ?_
      refine Go.iload (pc' := 79) at_77 rfl rfl ?_
      refine Go.bipush (pc' := 81) 8 at_79 rfl rfl ?_
      refine Go.iushr (pc' := 82) at_81 rfl ?_
      refine Go.sipush (pc' := 85) 255 at_82 rfl rfl ?_
      refine Go.iand (pc' := 86) at_85 rfl ?_
      refine Go.i2c (pc' := 87) at_86 rfl ?_
      refine Go.castoreV (pc' := 88) 1 at_87 F_20 (by decide) rfl (show 1 < 2 by decide) (by omega) rfl (fun h_21 W_22 A_23 => ?_)
      have szh_21 : h_21.size = h_17.size := Wr.size W_22
      have F_24 : Arv Z h_21 a_10 cA_12 .char (2 : Int32) [(.int (nar .char (p4 &&& (255 : Int32)))), (.int (nar .char ((usr p4 (8 : Int32)) &&& (255 : Int32))))] (.int 0) := by have q := A_23; rw [(own_ch (usr p4 (8 : Int32))).2] at q; exact q
      refine Go.newO (pc' := 91) (a1 := a0) at_88 (hw _ (List.mem_of_getElem? (i := 8) rfl)) (hw _ (List.mem_of_getElem? (i := 9) rfl)) (hw _ (List.mem_of_getElem? (i := 10) rfl)) (by decide) (by decide) rfl (fun a_25 h_26 ha_28 E_27 X_29 Df_30 => ?_)
      have szh_26 : h_21.size ≤ h_26.size := E_27.1
      have lta_25 := nlt X_29.lt
      have qa_25 := neq ha_28
      have F_31 : Fld Z h_26 a_25 "java/lang/String" "coder" "B" (.int (0 : Int32)) := Df_30 (Or.inr (hw _ (List.mem_of_getElem? (i := 34) rfl))) (ty := .byte) (by decide)
      have F_32 : Fld Z h_26 a_25 "java/lang/String" "value" "[B" (.null) := Df_30 (Or.inr (hw _ (List.mem_of_getElem? (i := 36) rfl))) (ty := (.array .byte)) (by decide)
      refine Go.dup (pc' := 92) at_91 rfl rfl ?_
      refine Go.aload (pc' := 94) at_92 rfl rfl rfl ?_
      have F_42 : Arv Z h_26 a_10 cA_12 .char (2 : Int32) [(.int (nar .char (p4 &&& (255 : Int32)))), (.int (nar .char ((usr p4 (8 : Int32)) &&& (255 : Int32))))] (.int 0) := (Arv.ext F_24 E_27)
      have F_43 : Sta Z h_26 "java/lang/String" "COMPACT_STRINGS" "Z" (.int cs) := (Sta.ext E_27 (Sta.wr W_22 (Sta.wr W_18 (Sta.ext E_14 S_cs))))
      refine Go.callN (a1 := a0) (pc' := 97) (argsL := [(.ref a_10)]) (rest := [(.ref a_25)]) (ct_si1_2 l Z a0 hw n0 h_26 a_25 (by omega) X_29 F_32 F_31 a_10 cA_12 (nar .char (p4 &&& (255 : Int32))) (nar .char ((usr p4 (8 : Int32)) &&& (255 : Int32))) F_42 (own_ch p4).1 (own_ch (usr p4 (8 : Int32))).1 cs F_43 hcs) at_94 rfl (hw _ (List.mem_of_getElem? (i := 11) rfl)) (hw _ (List.mem_of_getElem? (i := 12) rfl)) (hw _ (List.mem_of_getElem? (i := 10) rfl)) (hw _ (List.mem_of_getElem? (i := 13) rfl)) (by decide) (lenOf pd__28_5bC_29V rfl) rfl 1 rfl rfl (by decide) (by decide) (by decide) (by decide) (by intro x hx; simp only [List.mem_cons, List.not_mem_nil, or_false] at hx; rcases hx with rfl; all_goals simp) rfl (fun v_44 h_45 N_46 hQ_47 hle_48 => ?_)
      obtain ⟨rfl, b_33, kb_34, g_35, g_36, K_37, X_38, F_39, F_40, A_41⟩ := hQ_47
      have szh_45 : h_26.size ≤ h_45.size := K_37.1
      have ltb_33 := nlt g_36
      refine Go.re (pc' := 97) (L' := #[.val (.int p0), .val (.int p1), .val (.int p2), .val (.int p3), .val (.int p4), .val (.int p5), .val (.int (0 : Int32)), .val (u_2), .val (.null), .val (.ref a_10), .unset, .unset, .unset, .unset, .unset, .unset, .unset]) (S' := [(.ref a_25)]) rfl rfl rfl ?_
      refine Go.astore (pc' := 99) #[.val (.int p0), .val (.int p1), .val (.int p2), .val (.int p3), .val (.int p4), .val (.int p5), .val (.int (0 : Int32)), .val (u_2), .val (.null), .val (.ref a_10), .val (.ref a_25), .unset, .unset, .unset, .unset, .unset, .unset] at_97 rfl rfl rfl ?_
      refine Go.iconst (pc' := 100) 2 at_99 rfl rfl ?_
      refine Go.newPV (pc' := 102) (a1 := a0) 2 [(.int (0 : Int32)), (.int (0 : Int32))] at_100 (hw _ (List.mem_of_getElem? (i := 7) rfl)) (by decide) (by decide) (by decide) (by decide) (by decide) rfl rfl (fun a_49 h_50 cA_51 ha_52 E_53 A_54 => ?_)
      have szh_50 : h_45.size ≤ h_50.size := E_53.1
      have lta_49 := nlt A_54.lt
      have qa_49 := neq ha_52
      have F_55 : Arv Z h_50 a_49 cA_51 .char (2 : Int32) [(.int (0 : Int32)), (.int (0 : Int32))] (.int 0) := A_54
      refine Go.astore (pc' := 104) #[.val (.int p0), .val (.int p1), .val (.int p2), .val (.int p3), .val (.int p4), .val (.int p5), .val (.int (0 : Int32)), .val (u_2), .val (.null), .val (.ref a_10), .val (.ref a_25), .val (.ref a_49), .unset, .unset, .unset, .unset, .unset] at_102 rfl rfl rfl ?_
      refine Go.aload (pc' := 106) at_104 rfl rfl rfl ?_
      refine Go.iconst (pc' := 107) 0 at_106 rfl rfl ?_
      refine Go.iload (pc' := 109) at_107 rfl rfl ?_
      refine Go.bipush (pc' := 111) 16 at_109 rfl rfl ?_
      refine Go.iushr (pc' := 112) at_111 rfl ?_
      refine Go.sipush (pc' := 115) 255 at_112 rfl rfl ?_
      refine Go.iand (pc' := 116) at_115 rfl ?_
      refine Go.i2c (pc' := 117) at_116 rfl ?_
      refine Go.castoreV (pc' := 118) 0 at_117 F_55 (by decide) rfl (show 0 < 2 by decide) (by omega) rfl (fun h_56 W_57 A_58 => ?_)
      have szh_56 : h_56.size = h_50.size := Wr.size W_57
      have F_59 : Arv Z h_56 a_49 cA_51 .char (2 : Int32) [(.int (nar .char ((usr p4 (16 : Int32)) &&& (255 : Int32)))), (.int (0 : Int32))] (.int 0) := by have q := A_58; rw [(own_ch (usr p4 (16 : Int32))).2] at q; exact q
      refine Go.aload (pc' := 120) at_118 rfl rfl rfl ?_
      refine Go.iconst (pc' := 121) 1 at_120 rfl rfl ?_
      refine Go.iload (pc' := 123) at_121 rfl rfl ?_
      refine Go.bipush (pc' := 125) 24 at_123 rfl rfl ?_
      refine Go.iushr (pc' := 126) at_125 rfl ?_
      refine Go.sipush (pc' := 129) 255 at_126 rfl rfl ?_
      refine Go.iand (pc' := 130) at_129 rfl ?_
      refine Go.i2c (pc' := 131) at_130 rfl ?_
      refine Go.castoreV (pc' := 132) 1 at_131 F_59 (by decide) rfl (show 1 < 2 by decide) (by omega) rfl (fun h_60 W_61 A_62 => ?_)
      have szh_60 : h_60.size = h_56.size := Wr.size W_61
      have F_63 : Arv Z h_60 a_49 cA_51 .char (2 : Int32) [(.int (nar .char ((usr p4 (16 : Int32)) &&& (255 : Int32)))), (.int (nar .char ((usr p4 (24 : Int32)) &&& (255 : Int32))))] (.int 0) := by have q := A_62; rw [(own_ch (usr p4 (24 : Int32))).2] at q; exact q
      refine Go.newO (pc' := 135) (a1 := a0) at_132 (hw _ (List.mem_of_getElem? (i := 8) rfl)) (hw _ (List.mem_of_getElem? (i := 9) rfl)) (hw _ (List.mem_of_getElem? (i := 10) rfl)) (by decide) (by decide) rfl (fun a_64 h_65 ha_67 E_66 X_68 Df_69 => ?_)
      have szh_65 : h_60.size ≤ h_65.size := E_66.1
      have lta_64 := nlt X_68.lt
      have qa_64 := neq ha_67
      have F_70 : Fld Z h_65 a_64 "java/lang/String" "coder" "B" (.int (0 : Int32)) := Df_69 (Or.inr (hw _ (List.mem_of_getElem? (i := 34) rfl))) (ty := .byte) (by decide)
      have F_71 : Fld Z h_65 a_64 "java/lang/String" "value" "[B" (.null) := Df_69 (Or.inr (hw _ (List.mem_of_getElem? (i := 36) rfl))) (ty := (.array .byte)) (by decide)
      refine Go.dup (pc' := 136) at_135 rfl rfl ?_
      refine Go.aload (pc' := 138) at_136 rfl rfl rfl ?_
      have F_81 : Arv Z h_65 a_49 cA_51 .char (2 : Int32) [(.int (nar .char ((usr p4 (16 : Int32)) &&& (255 : Int32)))), (.int (nar .char ((usr p4 (24 : Int32)) &&& (255 : Int32))))] (.int 0) := (Arv.ext F_63 E_66)
      have F_82 : Sta Z h_65 "java/lang/String" "COMPACT_STRINGS" "Z" (.int cs) := (Sta.ext E_66 (Sta.wr W_61 (Sta.wr W_57 (Sta.ext E_53 (sta_keep F_43 K_37 (nsS (Exa.nostat X_29) ns0))))))
      refine Go.callN (a1 := a0) (pc' := 141) (argsL := [(.ref a_49)]) (rest := [(.ref a_64)]) (ct_si1_2 l Z a0 hw n0 h_65 a_64 (by omega) X_68 F_71 F_70 a_49 cA_51 (nar .char ((usr p4 (16 : Int32)) &&& (255 : Int32))) (nar .char ((usr p4 (24 : Int32)) &&& (255 : Int32))) F_81 (own_ch (usr p4 (16 : Int32))).1 (own_ch (usr p4 (24 : Int32))).1 cs F_82 hcs) at_138 rfl (hw _ (List.mem_of_getElem? (i := 11) rfl)) (hw _ (List.mem_of_getElem? (i := 12) rfl)) (hw _ (List.mem_of_getElem? (i := 10) rfl)) (hw _ (List.mem_of_getElem? (i := 13) rfl)) (by decide) (lenOf pd__28_5bC_29V rfl) rfl 1 rfl rfl (by decide) (by decide) (by decide) (by decide) (by intro x hx; simp only [List.mem_cons, List.not_mem_nil, or_false] at hx; rcases hx with rfl; all_goals simp) rfl (fun v_83 h_84 N_85 hQ_86 hle_87 => ?_)
      obtain ⟨rfl, b_72, kb_73, g_74, g_75, K_76, X_77, F_78, F_79, A_80⟩ := hQ_86
      have szh_84 : h_65.size ≤ h_84.size := K_76.1
      have ltb_72 := nlt g_75
      refine Go.re (pc' := 141) (L' := #[.val (.int p0), .val (.int p1), .val (.int p2), .val (.int p3), .val (.int p4), .val (.int p5), .val (.int (0 : Int32)), .val (u_2), .val (.null), .val (.ref a_10), .val (.ref a_25), .val (.ref a_49), .unset, .unset, .unset, .unset, .unset]) (S' := [(.ref a_64)]) rfl rfl rfl ?_
      refine Go.astore (pc' := 143) #[.val (.int p0), .val (.int p1), .val (.int p2), .val (.int p3), .val (.int p4), .val (.int p5), .val (.int (0 : Int32)), .val (u_2), .val (.null), .val (.ref a_10), .val (.ref a_25), .val (.ref a_49), .val (.ref a_64), .unset, .unset, .unset, .unset] at_141 rfl rfl rfl ?_
      refine Go.iload (pc' := 145) at_143 rfl rfl ?_
      refine Go.iconst (pc' := 146) 5 at_145 rfl rfl ?_
      refine Go.iushr (pc' := 147) at_146 rfl ?_
      refine Go.iconst (pc' := 148) 3 at_147 rfl rfl ?_
      refine Go.iand (pc' := 149) at_148 rfl ?_
      refine Go.iloadN (pc' := 150) at_149 rfl rfl ?_
      refine Go.aload (pc' := 152) at_150 rfl rfl rfl ?_
      refine Go.aload (pc' := 154) at_152 rfl rfl rfl ?_
      have F_91 : Sta Z h_84 "java/lang/Integer$IntegerCache" "high" "I" (.int (127 : Int32)) := (sta_keep (Sta.ext E_66 (Sta.wr W_61 (Sta.wr W_57 (Sta.ext E_53 (sta_keep (Sta.ext E_27 (Sta.wr W_22 (Sta.wr W_18 (Sta.ext E_14 S_hi)))) K_37 (nsS (Exa.nostat X_29) ns0)))))) K_76 (nsS (Exa.nostat X_68) ns0))
      have F_92 : Sta Z h_84 "java/lang/Integer$IntegerCache" "cache" "[Ljava/lang/Integer;" (.ref cb) := (sta_keep (Sta.ext E_66 (Sta.wr W_61 (Sta.wr W_57 (Sta.ext E_53 (sta_keep (Sta.ext E_27 (Sta.wr W_22 (Sta.wr W_18 (Sta.ext E_14 S_ca)))) K_37 (nsS (Exa.nostat X_29) ns0)))))) K_76 (nsS (Exa.nostat X_68) ns0))
      have F_93 : RoadKit.Arr Z h_84 cb ccl (.object "java/lang/Integer") := (arr_keep (RoadKit.Arr.ext E_66 (RoadKit.Arr.other W_61 (RoadKit.Arr.other W_57 (RoadKit.Arr.ext E_53 (arr_keep (RoadKit.Arr.ext E_27 (RoadKit.Arr.other W_22 (RoadKit.Arr.other W_18 (RoadKit.Arr.ext E_14 A_ca) (nne (by omega))) (nne (by omega)))) K_37 (ninS (nne (by omega)) nin0))) (nne (by omega))) (nne (by omega)))) K_76 (ninS (nne (by omega)) nin0))
      refine Go.callS (a1 := a0) (pc' := 157) (argsL := [(.int ((usr p5 (5 : Int32)) &&& (3 : Int32))), (.int p2), (.ref a_64), (.ref a_25)]) (rest := []) (ct_pick l Z a0 hw n0 h_84 ((usr p5 (5 : Int32)) &&& (3 : Int32)) p2 a_64 (.ref a_25) rfl (by omega) cb ccl F_91 F_92 F_93 hcs_ hel hcb) at_154 (hw _ (List.mem_of_getElem? (i := 37) rfl)) (hw _ (List.mem_of_getElem? (i := 38) rfl)) (hw _ (List.mem_of_getElem? (i := 2) rfl)) (hw _ (List.mem_of_getElem? (i := 39) rfl)) (by decide) (lenOf pd__28IILjava_2flang_2fString_3bLjava_2flang_2fObject_3b_29Ljava_2flang_2fObject_3b rfl) rfl 0 rfl rfl (by decide) (by decide) (by decide) (by decide) (fun _ q => nomatch q) rfl (fun v_94 h_95 N_96 hQ_97 hle_98 => ?_)
      obtain ⟨K_90, u_88, rfl, hu_89⟩ := hQ_97
      have szh_95 : h_84.size ≤ h_95.size := K_90.1
      refine Go.re (pc' := 157) (L' := #[.val (.int p0), .val (.int p1), .val (.int p2), .val (.int p3), .val (.int p4), .val (.int p5), .val (.int (0 : Int32)), .val (u_2), .val (.null), .val (.ref a_10), .val (.ref a_25), .val (.ref a_49), .val (.ref a_64), .unset, .unset, .unset, .unset]) (S' := [u_88]) rfl rfl rfl ?_
      refine Go.astore (pc' := 159) #[.val (.int p0), .val (.int p1), .val (.int p2), .val (.int p3), .val (.int p4), .val (.int p5), .val (.int (0 : Int32)), .val (u_2), .val (.null), .val (.ref a_10), .val (.ref a_25), .val (.ref a_49), .val (.ref a_64), .val (u_88), .unset, .unset, .unset] at_157 hu_89 (XS.store1 (o := .unset) rfl (Or.inl rfl) (XT.cat1 hu_89)) rfl ?_
      refine Go.iload (pc' := 161) at_159 rfl rfl ?_
      refine Go.bipush (pc' := 163) 7 at_161 rfl rfl ?_
      refine Go.iushr (pc' := 164) at_163 rfl ?_
      refine Go.iconst (pc' := 165) 3 at_164 rfl rfl ?_
      refine Go.iand (pc' := 166) at_165 rfl ?_
      refine Go.iloadN (pc' := 167) at_166 rfl rfl ?_
      refine Go.aload (pc' := 169) at_167 rfl rfl rfl ?_
      refine Go.aload (pc' := 171) at_169 rfl hu_89 rfl ?_
      have F_102 : Sta Z h_95 "java/lang/Integer$IntegerCache" "high" "I" (.int (127 : Int32)) := (sta_keep F_91 K_90 ns0)
      have F_103 : Sta Z h_95 "java/lang/Integer$IntegerCache" "cache" "[Ljava/lang/Integer;" (.ref cb) := (sta_keep F_92 K_90 ns0)
      have F_104 : RoadKit.Arr Z h_95 cb ccl (.object "java/lang/Integer") := (arr_keep F_93 K_90 nin0)
      refine Go.callS (a1 := a0) (pc' := 174) (argsL := [(.int ((usr p5 (7 : Int32)) &&& (3 : Int32))), (.int p3), (.ref a_64), u_88]) (rest := []) (ct_pick l Z a0 hw n0 h_95 ((usr p5 (7 : Int32)) &&& (3 : Int32)) p3 a_64 u_88 hu_89 (by omega) cb ccl F_102 F_103 F_104 hcs_ hel hcb) at_171 (hw _ (List.mem_of_getElem? (i := 37) rfl)) (hw _ (List.mem_of_getElem? (i := 38) rfl)) (hw _ (List.mem_of_getElem? (i := 2) rfl)) (hw _ (List.mem_of_getElem? (i := 39) rfl)) (by decide) (lenOf pd__28IILjava_2flang_2fString_3bLjava_2flang_2fObject_3b_29Ljava_2flang_2fObject_3b rfl) rfl 0 rfl rfl (by decide) (by decide) (by decide) (by decide) (fun _ q => nomatch q) rfl (fun v_105 h_106 N_107 hQ_108 hle_109 => ?_)
      obtain ⟨K_101, u_99, rfl, hu_100⟩ := hQ_108
      have szh_106 : h_95.size ≤ h_106.size := K_101.1
      refine Go.re (pc' := 174) (L' := #[.val (.int p0), .val (.int p1), .val (.int p2), .val (.int p3), .val (.int p4), .val (.int p5), .val (.int (0 : Int32)), .val (u_2), .val (.null), .val (.ref a_10), .val (.ref a_25), .val (.ref a_49), .val (.ref a_64), .val (u_88), .unset, .unset, .unset]) (S' := [u_99]) rfl rfl rfl ?_
      refine Go.astore (pc' := 176) #[.val (.int p0), .val (.int p1), .val (.int p2), .val (.int p3), .val (.int p4), .val (.int p5), .val (.int (0 : Int32)), .val (u_2), .val (.null), .val (.ref a_10), .val (.ref a_25), .val (.ref a_49), .val (.ref a_64), .val (u_88), .val (u_99), .unset, .unset] at_174 hu_100 (XS.store1 (o := .unset) rfl (Or.inl rfl) (XT.cat1 hu_100)) rfl ?_
      refine Go.newO (pc' := 179) (a1 := a0) at_176 (hw _ (List.mem_of_getElem? (i := 40) rfl)) (hw _ (List.mem_of_getElem? (i := 41) rfl)) (hw _ (List.mem_of_getElem? (i := 42) rfl)) (by decide) (by decide) rfl (fun a_110 h_111 ha_113 E_112 X_114 Df_115 => ?_)
      have szh_111 : h_106.size ≤ h_111.size := E_112.1
      have lta_110 := nlt X_114.lt
      have qa_110 := neq ha_113
      have F_116 : Fld Z h_111 a_110 "com/example/cartulary/cartulary/StarTable$Column" "name" "Ljava/lang/String;" (.null) := Df_115 (Or.inr (hw _ (List.mem_of_getElem? (i := 53) rfl))) (ty := (.object "java/lang/String")) (by decide)
      have F_117 : Fld Z h_111 a_110 "com/example/cartulary/cartulary/StarTable$Column" "type" "Lcom/example/cartulary/cartulary/ColumnType;" (.null) := Df_115 (Or.inr (hw _ (List.mem_of_getElem? (i := 55) rfl))) (ty := (.object "com/example/cartulary/cartulary/ColumnType")) (by decide)
      have F_118 : Fld Z h_111 a_110 "com/example/cartulary/cartulary/StarTable$Column" "size" "I" (.int (0 : Int32)) := Df_115 (Or.inr (hw _ (List.mem_of_getElem? (i := 57) rfl))) (ty := .int) (by decide)
      have F_119 : Fld Z h_111 a_110 "com/example/cartulary/cartulary/StarTable$Column" "scale" "I" (.int (0 : Int32)) := Df_115 (Or.inr (hw _ (List.mem_of_getElem? (i := 59) rfl))) (ty := .int) (by decide)
      have F_120 : Fld Z h_111 a_110 "com/example/cartulary/cartulary/StarTable$Column" "absent" "Ljava/lang/Object;" (.null) := Df_115 (Or.inr (hw _ (List.mem_of_getElem? (i := 61) rfl))) (ty := (.object "java/lang/Object")) (by decide)
      have F_121 : Fld Z h_111 a_110 "com/example/cartulary/cartulary/StarTable$Column" "stored" "Z" (.int (0 : Int32)) := Df_115 (Or.inr (hw _ (List.mem_of_getElem? (i := 63) rfl))) (ty := .boolean) (by decide)
      have F_122 : Fld Z h_111 a_110 "com/example/cartulary/cartulary/StarTable$Column" "namedBy" "Lcom/example/cartulary/cartulary/StarTable$NamedBy;" (.null) := Df_115 (Or.inr (hw _ (List.mem_of_getElem? (i := 65) rfl))) (ty := (.object "com/example/cartulary/cartulary/StarTable$NamedBy")) (by decide)
      refine Go.dup (pc' := 180) at_179 rfl rfl ?_
      refine Go.aload (pc' := 182) at_180 rfl rfl rfl ?_
      refine Go.aload (pc' := 184) at_182 rfl hu_3 rfl ?_
      refine Go.iloadN (pc' := 185) at_184 rfl rfl ?_
      refine Go.iloadN (pc' := 186) at_185 rfl rfl ?_
      refine Go.aload (pc' := 188) at_186 rfl hu_89 rfl ?_
      refine Go.iload (pc' := 190) at_188 rfl rfl ?_
      refine Go.aload (pc' := 192) at_190 rfl rfl rfl ?_
      refine Go.callN (a1 := a0) (pc' := 195) (argsL := [(.ref a_25), u_2, (.int p0), (.int p1), u_88, (.int (0 : Int32)), (.null)]) (rest := [(.ref a_110)]) (ct_col l Z a0 hw n0 h_111 a_110 (by omega) a_25 u_2 u_88 (.null) p0 p1 (0 : Int32) hu_3 hu_89 rfl (by decide) (by decide) X_114 F_116 F_117 F_118 F_119 F_120 F_121 F_122) at_192 rfl (hw _ (List.mem_of_getElem? (i := 43) rfl)) (hw _ (List.mem_of_getElem? (i := 44) rfl)) (hw _ (List.mem_of_getElem? (i := 42) rfl)) (hw _ (List.mem_of_getElem? (i := 45) rfl)) (by decide) (lenOf pd__28Ljava_2flang_2fString_3bLcom_2fexample_2fcartulary_2fcartulary_2fColumnType_3bIILjava_2flang_2fObject_3bZLcom_2fexample_2fcartulary_2fcartulary_2fStarTable_24NamedBy_3b_29V rfl) rfl 1 rfl rfl (by decide) (by decide) (by decide) (by decide) (fun _ q => nomatch q) rfl (fun v_132 h_133 N_134 hQ_135 hle_136 => ?_)
      obtain ⟨rfl, K_123, X_124, F_125, F_126, F_127, F_128, F_129, F_130, F_131⟩ := hQ_135
      have szh_133 : h_111.size ≤ h_133.size := K_123.1
      refine Go.re (pc' := 195) (L' := #[.val (.int p0), .val (.int p1), .val (.int p2), .val (.int p3), .val (.int p4), .val (.int p5), .val (.int (0 : Int32)), .val (u_2), .val (.null), .val (.ref a_10), .val (.ref a_25), .val (.ref a_49), .val (.ref a_64), .val (u_88), .val (u_99), .unset, .unset]) (S' := [(.ref a_110)]) rfl rfl rfl ?_
      refine Go.astore (pc' := 197) #[.val (.int p0), .val (.int p1), .val (.int p2), .val (.int p3), .val (.int p4), .val (.int p5), .val (.int (0 : Int32)), .val (u_2), .val (.null), .val (.ref a_10), .val (.ref a_25), .val (.ref a_49), .val (.ref a_64), .val (u_88), .val (u_99), .val (.ref a_110), .unset] at_195 rfl rfl rfl ?_
      refine Go.aload (pc' := 199) at_197 rfl rfl rfl ?_
      refine Go.aload (pc' := 201) at_199 rfl hu_100 rfl ?_
      refine Go.callV (a1 := a0) (pc' := 204) (argsL := [u_99]) (rest := []) (ct_orElse l Z a0 hw n0 h_133 a_110 (by omega) a_25 u_2 u_88 (.null) p0 p1 (0 : Int32) hu_3 hu_89 rfl (by decide) (by decide) u_99 hu_100 X_124 F_125 F_126 F_127 F_128 F_129 F_130 F_131) at_201 (hw _ (List.mem_of_getElem? (i := 66) rfl)) (hw _ (List.mem_of_getElem? (i := 67) rfl)) (hw _ (List.mem_of_getElem? (i := 69) rfl)) (hw _ (List.mem_of_getElem? (i := 69) rfl)) (hw _ (List.mem_of_getElem? (i := 68) rfl)) (hw _ (List.mem_of_getElem? (i := 42) rfl)) (hw _ (List.mem_of_getElem? (i := 70) rfl)) X_124 (by decide) (lenOf pd__28Ljava_2flang_2fObject_3b_29Lcom_2fexample_2fcartulary_2fcartulary_2fStarTable_24Column_3b rfl) rfl 0 rfl rfl (by decide) (by decide) (by decide) (by decide) (fun _ q => nomatch q) rfl (fun v_147 h_148 N_149 hQ_150 hle_151 => ?_)
      obtain ⟨a_137, rfl, K_138, X_139, F_140, F_141, F_142, F_143, F_144, F_145, F_146⟩ := hQ_150
      refine Go.re (pc' := 204) (L' := #[.val (.int p0), .val (.int p1), .val (.int p2), .val (.int p3), .val (.int p4), .val (.int p5), .val (.int (0 : Int32)), .val (u_2), .val (.null), .val (.ref a_10), .val (.ref a_25), .val (.ref a_49), .val (.ref a_64), .val (u_88), .val (u_99), .val (.ref a_110), .unset]) (S' := [(.ref a_137)]) rfl rfl rfl ?_
      refine Go.astore (pc' := 206) #[.val (.int p0), .val (.int p1), .val (.int p2), .val (.int p3), .val (.int p4), .val (.int p5), .val (.int (0 : Int32)), .val (u_2), .val (.null), .val (.ref a_10), .val (.ref a_25), .val (.ref a_49), .val (.ref a_64), .val (u_88), .val (u_99), .val (.ref a_110), .val (.ref a_137)] at_204 rfl rfl rfl ?_
      refine Go.aload (pc' := 208) at_206 rfl rfl rfl ?_
      refine Go.ifnullF (pc' := 211) at_208 rfl ?_
      refine Go.aload (pc' := 213) at_211 rfl rfl rfl ?_
      refine Go.aload (pc' := 215) at_213 rfl rfl rfl ?_
      refine Go.callV (a1 := a0) (pc' := 218) (argsL := []) (rest := [(.ref a_25)]) (ct_g_name l Z a0 hw n0 h_148 a_137 (.ref a_25) rfl F_140) at_215 (hw _ (List.mem_of_getElem? (i := 73) rfl)) (hw _ (List.mem_of_getElem? (i := 74) rfl)) (hw _ (List.mem_of_getElem? (i := 76) rfl)) (hw _ (List.mem_of_getElem? (i := 76) rfl)) (hw _ (List.mem_of_getElem? (i := 75) rfl)) (hw _ (List.mem_of_getElem? (i := 42) rfl)) (hw _ (List.mem_of_getElem? (i := 77) rfl)) X_139 (by decide) (lenOf pd__28_29Ljava_2flang_2fString_3b rfl) rfl 1 rfl rfl (by decide) (by decide) (by decide) (by decide) (fun _ q => nomatch q) rfl (fun v_152 h_153 N_154 hQ_155 hle_156 => ?_)
      obtain ⟨rfl, rfl⟩ := hQ_155
      refine Go.re (pc' := 218) (L' := #[.val (.int p0), .val (.int p1), .val (.int p2), .val (.int p3), .val (.int p4), .val (.int p5), .val (.int (0 : Int32)), .val (u_2), .val (.null), .val (.ref a_10), .val (.ref a_25), .val (.ref a_49), .val (.ref a_64), .val (u_88), .val (u_99), .val (.ref a_110), .val (.ref a_137)]) (S' := [(.ref a_25), (.ref a_25)]) rfl rfl rfl ?_
      have F_162 : Exa Z h_148 a_25 "java/lang/String" := (Exa.keep (Exa.keep (Exa.ext E_112 (Exa.keep (Exa.keep (Exa.keep (Exa.ext E_66 (Exa.wr W_61 (Exa.wr W_57 (Exa.ext E_53 X_38)))) K_76) K_90) K_101)) K_123) K_138)
      refine Go.callV (a1 := a0) (pc' := 221) (argsL := [(.ref a_25)]) (rest := []) (ct_equalsS l Z a0 hw n0 h_148 a_25) at_218 (hw _ (List.mem_of_getElem? (i := 78) rfl)) (hw _ (List.mem_of_getElem? (i := 79) rfl)) (hw _ (List.mem_of_getElem? (i := 81) rfl)) (hw _ (List.mem_of_getElem? (i := 81) rfl)) (hw _ (List.mem_of_getElem? (i := 80) rfl)) (hw _ (List.mem_of_getElem? (i := 10) rfl)) (hw _ (List.mem_of_getElem? (i := 82) rfl)) F_162 (by decide) (lenOf pd__28Ljava_2flang_2fObject_3b_29Z rfl) rfl 0 rfl rfl (by decide) (by decide) (by decide) (by decide) (fun _ q => nomatch q) rfl (fun v_157 h_158 N_159 hQ_160 hle_161 => ?_)
      obtain ⟨rfl, rfl⟩ := hQ_160
      refine Go.re (pc' := 221) (L' := #[.val (.int p0), .val (.int p1), .val (.int p2), .val (.int p3), .val (.int p4), .val (.int p5), .val (.int (0 : Int32)), .val (u_2), .val (.null), .val (.ref a_10), .val (.ref a_25), .val (.ref a_49), .val (.ref a_64), .val (u_88), .val (u_99), .val (.ref a_110), .val (.ref a_137)]) (S' := [(.int (1 : Int32))]) rfl rfl rfl ?_
      refine Go.ifF (pc' := 224) at_221 (show ¬ ((1 : Int32) = (0 : Int32)) by decide) rfl ?_
      refine Go.aload (pc' := 226) at_224 rfl rfl rfl ?_
      refine Go.callV (a1 := a0) (pc' := 229) (argsL := []) (rest := []) (ct_g_type l Z a0 hw n0 h_148 a_137 u_2 hu_3 F_141) at_226 (hw _ (List.mem_of_getElem? (i := 83) rfl)) (hw _ (List.mem_of_getElem? (i := 84) rfl)) (hw _ (List.mem_of_getElem? (i := 86) rfl)) (hw _ (List.mem_of_getElem? (i := 86) rfl)) (hw _ (List.mem_of_getElem? (i := 85) rfl)) (hw _ (List.mem_of_getElem? (i := 42) rfl)) (hw _ (List.mem_of_getElem? (i := 87) rfl)) X_139 (by decide) (lenOf pd__28_29Lcom_2fexample_2fcartulary_2fcartulary_2fColumnType_3b rfl) rfl 0 rfl rfl (by decide) (by decide) (by decide) (by decide) (fun _ q => nomatch q) rfl (fun v_163 h_164 N_165 hQ_166 hle_167 => ?_)
      obtain ⟨rfl, rfl⟩ := hQ_166
      refine Go.re (pc' := 229) (L' := #[.val (.int p0), .val (.int p1), .val (.int p2), .val (.int p3), .val (.int p4), .val (.int p5), .val (.int (0 : Int32)), .val (u_2), .val (.null), .val (.ref a_10), .val (.ref a_25), .val (.ref a_49), .val (.ref a_64), .val (u_88), .val (u_99), .val (.ref a_110), .val (.ref a_137)]) (S' := [u_2]) rfl rfl rfl ?_
      refine Go.aload (pc' := 231) at_229 rfl hu_3 rfl ?_
      refine Go.acmp (pc' := 234) true at_231 hu_3 hu_3 (decide_eq_true rfl) (by decide) (by decide) ?_
      refine Go.aload (pc' := 236) at_234 rfl rfl rfl ?_
      refine Go.callV (a1 := a0) (pc' := 239) (argsL := []) (rest := []) (ct_g_size l Z a0 hw n0 h_148 a_137 p0 F_142) at_236 (hw _ (List.mem_of_getElem? (i := 88) rfl)) (hw _ (List.mem_of_getElem? (i := 89) rfl)) (hw _ (List.mem_of_getElem? (i := 91) rfl)) (hw _ (List.mem_of_getElem? (i := 91) rfl)) (hw _ (List.mem_of_getElem? (i := 90) rfl)) (hw _ (List.mem_of_getElem? (i := 42) rfl)) (hw _ (List.mem_of_getElem? (i := 92) rfl)) X_139 (by decide) (lenOf pd__28_29I rfl) rfl 0 rfl rfl (by decide) (by decide) (by decide) (by decide) (fun _ q => nomatch q) rfl (fun v_168 h_169 N_170 hQ_171 hle_172 => ?_)
      obtain ⟨rfl, rfl⟩ := hQ_171
      refine Go.re (pc' := 239) (L' := #[.val (.int p0), .val (.int p1), .val (.int p2), .val (.int p3), .val (.int p4), .val (.int p5), .val (.int (0 : Int32)), .val (u_2), .val (.null), .val (.ref a_10), .val (.ref a_25), .val (.ref a_49), .val (.ref a_64), .val (u_88), .val (u_99), .val (.ref a_110), .val (.ref a_137)]) (S' := [(.int p0)]) rfl rfl rfl ?_
      refine Go.iloadN (pc' := 240) at_239 rfl rfl ?_
      refine Go.icmpF (pc' := 243) at_240 (rfl) rfl ?_
      refine Go.aload (pc' := 245) at_243 rfl rfl rfl ?_
      refine Go.callV (a1 := a0) (pc' := 248) (argsL := []) (rest := []) (ct_g_scale l Z a0 hw n0 h_148 a_137 p1 F_143) at_245 (hw _ (List.mem_of_getElem? (i := 93) rfl)) (hw _ (List.mem_of_getElem? (i := 94) rfl)) (hw _ (List.mem_of_getElem? (i := 96) rfl)) (hw _ (List.mem_of_getElem? (i := 96) rfl)) (hw _ (List.mem_of_getElem? (i := 95) rfl)) (hw _ (List.mem_of_getElem? (i := 42) rfl)) (hw _ (List.mem_of_getElem? (i := 97) rfl)) X_139 (by decide) (lenOf pd__28_29I rfl) rfl 0 rfl rfl (by decide) (by decide) (by decide) (by decide) (fun _ q => nomatch q) rfl (fun v_173 h_174 N_175 hQ_176 hle_177 => ?_)
      obtain ⟨rfl, rfl⟩ := hQ_176
      refine Go.re (pc' := 248) (L' := #[.val (.int p0), .val (.int p1), .val (.int p2), .val (.int p3), .val (.int p4), .val (.int p5), .val (.int (0 : Int32)), .val (u_2), .val (.null), .val (.ref a_10), .val (.ref a_25), .val (.ref a_49), .val (.ref a_64), .val (u_88), .val (u_99), .val (.ref a_110), .val (.ref a_137)]) (S' := [(.int p1)]) rfl rfl rfl ?_
      refine Go.iloadN (pc' := 249) at_248 rfl rfl ?_
      refine Go.icmpF (pc' := 252) at_249 (rfl) rfl ?_
      refine Go.aload (pc' := 254) at_252 rfl rfl rfl ?_
      refine Go.callV (a1 := a0) (pc' := 257) (argsL := []) (rest := []) (ct_g_absent l Z a0 hw n0 h_148 a_137 u_99 hu_100 F_144) at_254 (hw _ (List.mem_of_getElem? (i := 98) rfl)) (hw _ (List.mem_of_getElem? (i := 99) rfl)) (hw _ (List.mem_of_getElem? (i := 101) rfl)) (hw _ (List.mem_of_getElem? (i := 101) rfl)) (hw _ (List.mem_of_getElem? (i := 100) rfl)) (hw _ (List.mem_of_getElem? (i := 42) rfl)) (hw _ (List.mem_of_getElem? (i := 102) rfl)) X_139 (by decide) (lenOf pd__28_29Ljava_2flang_2fObject_3b rfl) rfl 0 rfl rfl (by decide) (by decide) (by decide) (by decide) (fun _ q => nomatch q) rfl (fun v_178 h_179 N_180 hQ_181 hle_182 => ?_)
      obtain ⟨rfl, rfl⟩ := hQ_181
      refine Go.re (pc' := 257) (L' := #[.val (.int p0), .val (.int p1), .val (.int p2), .val (.int p3), .val (.int p4), .val (.int p5), .val (.int (0 : Int32)), .val (u_2), .val (.null), .val (.ref a_10), .val (.ref a_25), .val (.ref a_49), .val (.ref a_64), .val (u_88), .val (u_99), .val (.ref a_110), .val (.ref a_137)]) (S' := [u_99]) rfl rfl rfl ?_
      refine Go.aload (pc' := 259) at_257 rfl hu_100 rfl ?_
      refine Go.acmp (pc' := 262) true at_259 hu_100 hu_100 (decide_eq_true rfl) (by decide) (by decide) ?_
      refine Go.aload (pc' := 264) at_262 rfl rfl rfl ?_
      refine Go.callV (a1 := a0) (pc' := 267) (argsL := []) (rest := []) (ct_g_stored l Z a0 hw n0 h_148 a_137 (0 : Int32) (by decide) F_145) at_264 (hw _ (List.mem_of_getElem? (i := 103) rfl)) (hw _ (List.mem_of_getElem? (i := 104) rfl)) (hw _ (List.mem_of_getElem? (i := 106) rfl)) (hw _ (List.mem_of_getElem? (i := 106) rfl)) (hw _ (List.mem_of_getElem? (i := 105) rfl)) (hw _ (List.mem_of_getElem? (i := 42) rfl)) (hw _ (List.mem_of_getElem? (i := 107) rfl)) X_139 (by decide) (lenOf pd__28_29Z rfl) rfl 0 rfl rfl (by decide) (by decide) (by decide) (by decide) (fun _ q => nomatch q) rfl (fun v_183 h_184 N_185 hQ_186 hle_187 => ?_)
      obtain ⟨rfl, rfl⟩ := hQ_186
      refine Go.re (pc' := 267) (L' := #[.val (.int p0), .val (.int p1), .val (.int p2), .val (.int p3), .val (.int p4), .val (.int p5), .val (.int (0 : Int32)), .val (u_2), .val (.null), .val (.ref a_10), .val (.ref a_25), .val (.ref a_49), .val (.ref a_64), .val (u_88), .val (u_99), .val (.ref a_110), .val (.ref a_137)]) (S' := [(.int (0 : Int32))]) rfl rfl rfl ?_
      refine Go.iload (pc' := 269) at_267 rfl rfl ?_
      refine Go.icmpF (pc' := 272) at_269 (rfl) rfl ?_
      refine Go.aload (pc' := 274) at_272 rfl rfl rfl ?_
      refine Go.callV (a1 := a0) (pc' := 277) (argsL := []) (rest := []) (ct_g_namedBy l Z a0 hw n0 h_148 a_137 (.null) rfl F_146) at_274 (hw _ (List.mem_of_getElem? (i := 108) rfl)) (hw _ (List.mem_of_getElem? (i := 109) rfl)) (hw _ (List.mem_of_getElem? (i := 111) rfl)) (hw _ (List.mem_of_getElem? (i := 111) rfl)) (hw _ (List.mem_of_getElem? (i := 110) rfl)) (hw _ (List.mem_of_getElem? (i := 42) rfl)) (hw _ (List.mem_of_getElem? (i := 112) rfl)) X_139 (by decide) (lenOf pd__28_29Lcom_2fexample_2fcartulary_2fcartulary_2fStarTable_24NamedBy_3b rfl) rfl 0 rfl rfl (by decide) (by decide) (by decide) (by decide) (fun _ q => nomatch q) rfl (fun v_188 h_189 N_190 hQ_191 hle_192 => ?_)
      obtain ⟨rfl, rfl⟩ := hQ_191
      refine Go.re (pc' := 277) (L' := #[.val (.int p0), .val (.int p1), .val (.int p2), .val (.int p3), .val (.int p4), .val (.int p5), .val (.int (0 : Int32)), .val (u_2), .val (.null), .val (.ref a_10), .val (.ref a_25), .val (.ref a_49), .val (.ref a_64), .val (u_88), .val (u_99), .val (.ref a_110), .val (.ref a_137)]) (S' := [(.null)]) rfl rfl rfl ?_
      refine Go.aload (pc' := 279) at_277 rfl rfl rfl ?_
      refine Go.acmp (pc' := 282) true at_279 rfl rfl (decide_eq_true rfl) (by decide) (by decide) ?_
      refine Go.iconst (pc' := 283) 1 at_282 rfl rfl ?_
      refine Go.goto (pc' := 287) at_283 (by decide) (by decide) ?_
      refine Go.retN (t := .boolean) (1 : Int32) rfl (by simp) rfl [] (fun _ q => nomatch q) at_287 (by decide) (by decide) ?_
      exact rfl
    · have hc_9 : ¬ (((usr p5 (4 : Int32)) &&& (1 : Int32)) = 0) := hc_9
      refine Go.newO (pc' := 40) (a1 := a0) at_37 (hw _ (List.mem_of_getElem? (i := 113) rfl)) (hw _ (List.mem_of_getElem? (i := 114) rfl)) (hw _ (List.mem_of_getElem? (i := 115) rfl)) (by decide) (by decide) rfl (fun a_193 h_194 ha_196 E_195 X_197 Df_198 => ?_)
      have szh_194 : h0.size ≤ h_194.size := E_195.1
      have lta_193 := nlt X_197.lt
      have qa_193 := neq ha_196
      have F_199 : Fld Z h_194 a_193 "com/example/cartulary/cartulary/StarTable$NamedBy" "table" "Lcom/example/cartulary/cartulary/StarTable;" (.null) := Df_198 (Or.inr (hw _ (List.mem_of_getElem? (i := 145) rfl))) (ty := (.object "com/example/cartulary/cartulary/StarTable")) (by decide)
      have F_200 : Fld Z h_194 a_193 "com/example/cartulary/cartulary/StarTable$NamedBy" "columns" "Ljava/util/List;" (.null) := Df_198 (Or.inr (hw _ (List.mem_of_getElem? (i := 147) rfl))) (ty := (.object "java/util/List")) (by decide)
      refine Go.dup (pc' := 41) at_40 rfl rfl ?_
      refine Go.aconstNull (pc' := 42) at_41 rfl ?_
      refine Go.newO (pc' := 45) (a1 := a0) at_42 (hw _ (List.mem_of_getElem? (i := 116) rfl)) (hw _ (List.mem_of_getElem? (i := 117) rfl)) (hw _ (List.mem_of_getElem? (i := 118) rfl)) (by decide) (by decide) rfl (fun a_201 h_202 ha_204 E_203 X_205 Df_206 => ?_)
      have szh_202 : h_194.size ≤ h_202.size := E_203.1
      have lta_201 := nlt X_205.lt
      have qa_201 := neq ha_204
      have F_207 : Fld Z h_202 a_201 "java/util/AbstractList" "modCount" "I" (.int (0 : Int32)) := Df_206 (Or.inl (hw _ (List.mem_of_getElem? (i := 136) rfl))) (ty := .int) (by decide)
      have F_208 : Fld Z h_202 a_201 "java/util/ArrayList" "elementData" "[Ljava/lang/Object;" (.null) := Df_206 (Or.inl (hw _ (List.mem_of_getElem? (i := 139) rfl))) (ty := (.array (.object "java/lang/Object"))) (by decide)
      refine Go.dup (pc' := 46) at_45 rfl rfl ?_
      have F_210 : Sta Z h_202 "java/util/ArrayList" "DEFAULTCAPACITY_EMPTY_ELEMENTDATA" "[Ljava/lang/Object;" (.ref de) := (Sta.ext E_203 (Sta.ext E_195 S_de))
      refine Go.callN (a1 := a0) (pc' := 49) (argsL := []) (rest := [(.ref a_201), (.null), (.ref a_193), (.ref a_193)]) (ct_al0 l Z a0 hw n0 h_202 a_201 (by omega) X_205 F_207 F_208 de F_210) at_46 rfl (hw _ (List.mem_of_getElem? (i := 119) rfl)) (hw _ (List.mem_of_getElem? (i := 120) rfl)) (hw _ (List.mem_of_getElem? (i := 118) rfl)) (hw _ (List.mem_of_getElem? (i := 121) rfl)) (by decide) (lenOf pd__28_29V rfl) rfl 4 rfl rfl (by decide) (by decide) (by decide) (by decide) (fun _ q => nomatch q) rfl (fun v_211 h_212 N_213 hQ_214 hle_215 => ?_)
      obtain ⟨rfl, K_209⟩ := hQ_214
      have szh_212 : h_202.size ≤ h_212.size := K_209.1
      refine Go.re (pc' := 49) (L' := #[.val (.int p0), .val (.int p1), .val (.int p2), .val (.int p3), .val (.int p4), .val (.int p5), .val (.int (0 : Int32)), .val (u_2), .unset, .unset, .unset, .unset, .unset, .unset, .unset, .unset, .unset]) (S' := [(.ref a_201), (.null), (.ref a_193), (.ref a_193)]) rfl rfl rfl ?_
      have F_217 : Exa Z h_212 a_193 "com/example/cartulary/cartulary/StarTable$NamedBy" := (Exa.keep (Exa.ext E_203 X_197) K_209)
      have F_218 : Fld Z h_212 a_193 "com/example/cartulary/cartulary/StarTable$NamedBy" "table" "Lcom/example/cartulary/cartulary/StarTable;" (.null) := (Fld.keep (Fld.ext E_203 F_199) K_209 (ninS (nne (by omega)) nin0))
      have F_219 : Fld Z h_212 a_193 "com/example/cartulary/cartulary/StarTable$NamedBy" "columns" "Ljava/util/List;" (.null) := (Fld.keep (Fld.ext E_203 F_200) K_209 (ninS (nne (by omega)) nin0))
      refine Go.callN (a1 := a0) (pc' := 52) (argsL := [(.null), (.ref a_201)]) (rest := [(.ref a_193)]) (ct_nb0 l Z a0 hw n0 h_212 a_193 a_201 (by omega) F_217 F_218 F_219) at_49 rfl (hw _ (List.mem_of_getElem? (i := 140) rfl)) (hw _ (List.mem_of_getElem? (i := 141) rfl)) (hw _ (List.mem_of_getElem? (i := 115) rfl)) (hw _ (List.mem_of_getElem? (i := 142) rfl)) (by decide) (lenOf pd__28Lcom_2fexample_2fcartulary_2fcartulary_2fStarTable_3bLjava_2futil_2fList_3b_29V rfl) rfl 1 rfl rfl (by decide) (by decide) (by decide) (by decide) (fun _ q => nomatch q) rfl (fun v_220 h_221 N_222 hQ_223 hle_224 => ?_)
      obtain ⟨rfl, K_216⟩ := hQ_223
      have szh_221 : h_212.size ≤ h_221.size := K_216.1
      refine Go.re (pc' := 52) (L' := #[.val (.int p0), .val (.int p1), .val (.int p2), .val (.int p3), .val (.int p4), .val (.int p5), .val (.int (0 : Int32)), .val (u_2), .unset, .unset, .unset, .unset, .unset, .unset, .unset, .unset, .unset]) (S' := [(.ref a_193)]) rfl rfl rfl ?_
      refine Go.goto (pc' := 56) at_52 (by decide) (by decide) ?_
      refine Go.astore (pc' := 58) #[.val (.int p0), .val (.int p1), .val (.int p2), .val (.int p3), .val (.int p4), .val (.int p5), .val (.int (0 : Int32)), .val (u_2), .val (.ref a_193), .unset, .unset, .unset, .unset, .unset, .unset, .unset, .unset] at_56 rfl rfl rfl ?_
      refine Go.iconst (pc' := 59) 2 at_58 rfl rfl ?_
      refine Go.newPV (pc' := 61) (a1 := a0) 2 [(.int (0 : Int32)), (.int (0 : Int32))] at_59 (hw _ (List.mem_of_getElem? (i := 7) rfl)) (by decide) (by decide) (by decide) (by decide) (by decide) rfl rfl (fun a_225 h_226 cA_227 ha_228 E_229 A_230 => ?_)
      have szh_226 : h_221.size ≤ h_226.size := E_229.1
      have lta_225 := nlt A_230.lt
      have qa_225 := neq ha_228
      have F_231 : Arv Z h_226 a_225 cA_227 .char (2 : Int32) [(.int (0 : Int32)), (.int (0 : Int32))] (.int 0) := A_230
      refine Go.astore (pc' := 63) #[.val (.int p0), .val (.int p1), .val (.int p2), .val (.int p3), .val (.int p4), .val (.int p5), .val (.int (0 : Int32)), .val (u_2), .val (.ref a_193), .val (.ref a_225), .unset, .unset, .unset, .unset, .unset, .unset, .unset] at_61 rfl rfl rfl ?_
      refine Go.aload (pc' := 65) at_63 rfl rfl rfl ?_
      refine Go.iconst (pc' := 66) 0 at_65 rfl rfl ?_
      refine Go.iload (pc' := 68) at_66 rfl rfl ?_
      refine Go.sipush (pc' := 71) 255 at_68 rfl rfl ?_
      refine Go.iand (pc' := 72) at_71 rfl ?_
      refine Go.i2c (pc' := 73) at_72 rfl ?_
      refine Go.castoreV (pc' := 74) 0 at_73 F_231 (by decide) rfl (show 0 < 2 by decide) (by omega) rfl (fun h_232 W_233 A_234 => ?_)
      have szh_232 : h_232.size = h_226.size := Wr.size W_233
      have F_235 : Arv Z h_232 a_225 cA_227 .char (2 : Int32) [(.int (nar .char (p4 &&& (255 : Int32)))), (.int (0 : Int32))] (.int 0) := by have q := A_234; rw [(own_ch p4).2] at q; exact q
      refine Go.aload (pc' := 76) at_74 rfl rfl rfl ?_
      refine Go.iconst (pc' := 77) 1 at_76 rfl rfl ?_
      refine Go.iload (pc' := 79) at_77 rfl rfl ?_
      refine Go.bipush (pc' := 81) 8 at_79 rfl rfl ?_
      refine Go.iushr (pc' := 82) at_81 rfl ?_
      refine Go.sipush (pc' := 85) 255 at_82 rfl rfl ?_
      refine Go.iand (pc' := 86) at_85 rfl ?_
      refine Go.i2c (pc' := 87) at_86 rfl ?_
      refine Go.castoreV (pc' := 88) 1 at_87 F_235 (by decide) rfl (show 1 < 2 by decide) (by omega) rfl (fun h_236 W_237 A_238 => ?_)
      have szh_236 : h_236.size = h_232.size := Wr.size W_237
      have F_239 : Arv Z h_236 a_225 cA_227 .char (2 : Int32) [(.int (nar .char (p4 &&& (255 : Int32)))), (.int (nar .char ((usr p4 (8 : Int32)) &&& (255 : Int32))))] (.int 0) := by have q := A_238; rw [(own_ch (usr p4 (8 : Int32))).2] at q; exact q
      refine Go.newO (pc' := 91) (a1 := a0) at_88 (hw _ (List.mem_of_getElem? (i := 8) rfl)) (hw _ (List.mem_of_getElem? (i := 9) rfl)) (hw _ (List.mem_of_getElem? (i := 10) rfl)) (by decide) (by decide) rfl (fun a_240 h_241 ha_243 E_242 X_244 Df_245 => ?_)
      have szh_241 : h_236.size ≤ h_241.size := E_242.1
      have lta_240 := nlt X_244.lt
      have qa_240 := neq ha_243
      have F_246 : Fld Z h_241 a_240 "java/lang/String" "coder" "B" (.int (0 : Int32)) := Df_245 (Or.inr (hw _ (List.mem_of_getElem? (i := 34) rfl))) (ty := .byte) (by decide)
      have F_247 : Fld Z h_241 a_240 "java/lang/String" "value" "[B" (.null) := Df_245 (Or.inr (hw _ (List.mem_of_getElem? (i := 36) rfl))) (ty := (.array .byte)) (by decide)
      refine Go.dup (pc' := 92) at_91 rfl rfl ?_
      refine Go.aload (pc' := 94) at_92 rfl rfl rfl ?_
      have F_257 : Arv Z h_241 a_225 cA_227 .char (2 : Int32) [(.int (nar .char (p4 &&& (255 : Int32)))), (.int (nar .char ((usr p4 (8 : Int32)) &&& (255 : Int32))))] (.int 0) := (Arv.ext F_239 E_242)
      have F_258 : Sta Z h_241 "java/lang/String" "COMPACT_STRINGS" "Z" (.int cs) := (Sta.ext E_242 (Sta.wr W_237 (Sta.wr W_233 (Sta.ext E_229 (sta_keep (sta_keep (Sta.ext E_203 (Sta.ext E_195 S_cs)) K_209 (nsS (Exa.nostat X_205) ns0)) K_216 (nsS (Exa.nostat F_217) ns0))))))
      refine Go.callN (a1 := a0) (pc' := 97) (argsL := [(.ref a_225)]) (rest := [(.ref a_240)]) (ct_si1_2 l Z a0 hw n0 h_241 a_240 (by omega) X_244 F_247 F_246 a_225 cA_227 (nar .char (p4 &&& (255 : Int32))) (nar .char ((usr p4 (8 : Int32)) &&& (255 : Int32))) F_257 (own_ch p4).1 (own_ch (usr p4 (8 : Int32))).1 cs F_258 hcs) at_94 rfl (hw _ (List.mem_of_getElem? (i := 11) rfl)) (hw _ (List.mem_of_getElem? (i := 12) rfl)) (hw _ (List.mem_of_getElem? (i := 10) rfl)) (hw _ (List.mem_of_getElem? (i := 13) rfl)) (by decide) (lenOf pd__28_5bC_29V rfl) rfl 1 rfl rfl (by decide) (by decide) (by decide) (by decide) (by intro x hx; simp only [List.mem_cons, List.not_mem_nil, or_false] at hx; rcases hx with rfl; all_goals simp) rfl (fun v_259 h_260 N_261 hQ_262 hle_263 => ?_)
      obtain ⟨rfl, b_248, kb_249, g_250, g_251, K_252, X_253, F_254, F_255, A_256⟩ := hQ_262
      have szh_260 : h_241.size ≤ h_260.size := K_252.1
      have ltb_248 := nlt g_251
      refine Go.re (pc' := 97) (L' := #[.val (.int p0), .val (.int p1), .val (.int p2), .val (.int p3), .val (.int p4), .val (.int p5), .val (.int (0 : Int32)), .val (u_2), .val (.ref a_193), .val (.ref a_225), .unset, .unset, .unset, .unset, .unset, .unset, .unset]) (S' := [(.ref a_240)]) rfl rfl rfl ?_
      refine Go.astore (pc' := 99) #[.val (.int p0), .val (.int p1), .val (.int p2), .val (.int p3), .val (.int p4), .val (.int p5), .val (.int (0 : Int32)), .val (u_2), .val (.ref a_193), .val (.ref a_225), .val (.ref a_240), .unset, .unset, .unset, .unset, .unset, .unset] at_97 rfl rfl rfl ?_
      refine Go.iconst (pc' := 100) 2 at_99 rfl rfl ?_
      refine Go.newPV (pc' := 102) (a1 := a0) 2 [(.int (0 : Int32)), (.int (0 : Int32))] at_100 (hw _ (List.mem_of_getElem? (i := 7) rfl)) (by decide) (by decide) (by decide) (by decide) (by decide) rfl rfl (fun a_264 h_265 cA_266 ha_267 E_268 A_269 => ?_)
      have szh_265 : h_260.size ≤ h_265.size := E_268.1
      have lta_264 := nlt A_269.lt
      have qa_264 := neq ha_267
      have F_270 : Arv Z h_265 a_264 cA_266 .char (2 : Int32) [(.int (0 : Int32)), (.int (0 : Int32))] (.int 0) := A_269
      refine Go.astore (pc' := 104) #[.val (.int p0), .val (.int p1), .val (.int p2), .val (.int p3), .val (.int p4), .val (.int p5), .val (.int (0 : Int32)), .val (u_2), .val (.ref a_193), .val (.ref a_225), .val (.ref a_240), .val (.ref a_264), .unset, .unset, .unset, .unset, .unset] at_102 rfl rfl rfl ?_
      refine Go.aload (pc' := 106) at_104 rfl rfl rfl ?_
      refine Go.iconst (pc' := 107) 0 at_106 rfl rfl ?_
      refine Go.iload (pc' := 109) at_107 rfl rfl ?_
      refine Go.bipush (pc' := 111) 16 at_109 rfl rfl ?_
      refine Go.iushr (pc' := 112) at_111 rfl ?_
      refine Go.sipush (pc' := 115) 255 at_112 rfl rfl ?_
      refine Go.iand (pc' := 116) at_115 rfl ?_
      refine Go.i2c (pc' := 117) at_116 rfl ?_
      refine Go.castoreV (pc' := 118) 0 at_117 F_270 (by decide) rfl (show 0 < 2 by decide) (by omega) rfl (fun h_271 W_272 A_273 => ?_)
      have szh_271 : h_271.size = h_265.size := Wr.size W_272
      have F_274 : Arv Z h_271 a_264 cA_266 .char (2 : Int32) [(.int (nar .char ((usr p4 (16 : Int32)) &&& (255 : Int32)))), (.int (0 : Int32))] (.int 0) := by have q := A_273; rw [(own_ch (usr p4 (16 : Int32))).2] at q; exact q
      refine Go.aload (pc' := 120) at_118 rfl rfl rfl ?_
      refine Go.iconst (pc' := 121) 1 at_120 rfl rfl ?_
      refine Go.iload (pc' := 123) at_121 rfl rfl ?_
      refine Go.bipush (pc' := 125) 24 at_123 rfl rfl ?_
      refine Go.iushr (pc' := 126) at_125 rfl ?_
      refine Go.sipush (pc' := 129) 255 at_126 rfl rfl ?_
      refine Go.iand (pc' := 130) at_129 rfl ?_
      refine Go.i2c (pc' := 131) at_130 rfl ?_
      refine Go.castoreV (pc' := 132) 1 at_131 F_274 (by decide) rfl (show 1 < 2 by decide) (by omega) rfl (fun h_275 W_276 A_277 => ?_)
      have szh_275 : h_275.size = h_271.size := Wr.size W_276
      have F_278 : Arv Z h_275 a_264 cA_266 .char (2 : Int32) [(.int (nar .char ((usr p4 (16 : Int32)) &&& (255 : Int32)))), (.int (nar .char ((usr p4 (24 : Int32)) &&& (255 : Int32))))] (.int 0) := by have q := A_277; rw [(own_ch (usr p4 (24 : Int32))).2] at q; exact q
      refine Go.newO (pc' := 135) (a1 := a0) at_132 (hw _ (List.mem_of_getElem? (i := 8) rfl)) (hw _ (List.mem_of_getElem? (i := 9) rfl)) (hw _ (List.mem_of_getElem? (i := 10) rfl)) (by decide) (by decide) rfl (fun a_279 h_280 ha_282 E_281 X_283 Df_284 => ?_)
      have szh_280 : h_275.size ≤ h_280.size := E_281.1
      have lta_279 := nlt X_283.lt
      have qa_279 := neq ha_282
      have F_285 : Fld Z h_280 a_279 "java/lang/String" "coder" "B" (.int (0 : Int32)) := Df_284 (Or.inr (hw _ (List.mem_of_getElem? (i := 34) rfl))) (ty := .byte) (by decide)
      have F_286 : Fld Z h_280 a_279 "java/lang/String" "value" "[B" (.null) := Df_284 (Or.inr (hw _ (List.mem_of_getElem? (i := 36) rfl))) (ty := (.array .byte)) (by decide)
      refine Go.dup (pc' := 136) at_135 rfl rfl ?_
      refine Go.aload (pc' := 138) at_136 rfl rfl rfl ?_
      have F_296 : Arv Z h_280 a_264 cA_266 .char (2 : Int32) [(.int (nar .char ((usr p4 (16 : Int32)) &&& (255 : Int32)))), (.int (nar .char ((usr p4 (24 : Int32)) &&& (255 : Int32))))] (.int 0) := (Arv.ext F_278 E_281)
      have F_297 : Sta Z h_280 "java/lang/String" "COMPACT_STRINGS" "Z" (.int cs) := (Sta.ext E_281 (Sta.wr W_276 (Sta.wr W_272 (Sta.ext E_268 (sta_keep F_258 K_252 (nsS (Exa.nostat X_244) ns0))))))
      refine Go.callN (a1 := a0) (pc' := 141) (argsL := [(.ref a_264)]) (rest := [(.ref a_279)]) (ct_si1_2 l Z a0 hw n0 h_280 a_279 (by omega) X_283 F_286 F_285 a_264 cA_266 (nar .char ((usr p4 (16 : Int32)) &&& (255 : Int32))) (nar .char ((usr p4 (24 : Int32)) &&& (255 : Int32))) F_296 (own_ch (usr p4 (16 : Int32))).1 (own_ch (usr p4 (24 : Int32))).1 cs F_297 hcs) at_138 rfl (hw _ (List.mem_of_getElem? (i := 11) rfl)) (hw _ (List.mem_of_getElem? (i := 12) rfl)) (hw _ (List.mem_of_getElem? (i := 10) rfl)) (hw _ (List.mem_of_getElem? (i := 13) rfl)) (by decide) (lenOf pd__28_5bC_29V rfl) rfl 1 rfl rfl (by decide) (by decide) (by decide) (by decide) (by intro x hx; simp only [List.mem_cons, List.not_mem_nil, or_false] at hx; rcases hx with rfl; all_goals simp) rfl (fun v_298 h_299 N_300 hQ_301 hle_302 => ?_)
      obtain ⟨rfl, b_287, kb_288, g_289, g_290, K_291, X_292, F_293, F_294, A_295⟩ := hQ_301
      have szh_299 : h_280.size ≤ h_299.size := K_291.1
      have ltb_287 := nlt g_290
      refine Go.re (pc' := 141) (L' := #[.val (.int p0), .val (.int p1), .val (.int p2), .val (.int p3), .val (.int p4), .val (.int p5), .val (.int (0 : Int32)), .val (u_2), .val (.ref a_193), .val (.ref a_225), .val (.ref a_240), .val (.ref a_264), .unset, .unset, .unset, .unset, .unset]) (S' := [(.ref a_279)]) rfl rfl rfl ?_
      refine Go.astore (pc' := 143) #[.val (.int p0), .val (.int p1), .val (.int p2), .val (.int p3), .val (.int p4), .val (.int p5), .val (.int (0 : Int32)), .val (u_2), .val (.ref a_193), .val (.ref a_225), .val (.ref a_240), .val (.ref a_264), .val (.ref a_279), .unset, .unset, .unset, .unset] at_141 rfl rfl rfl ?_
      refine Go.iload (pc' := 145) at_143 rfl rfl ?_
      refine Go.iconst (pc' := 146) 5 at_145 rfl rfl ?_
      refine Go.iushr (pc' := 147) at_146 rfl ?_
      refine Go.iconst (pc' := 148) 3 at_147 rfl rfl ?_
      refine Go.iand (pc' := 149) at_148 rfl ?_
      refine Go.iloadN (pc' := 150) at_149 rfl rfl ?_
      refine Go.aload (pc' := 152) at_150 rfl rfl rfl ?_
      refine Go.aload (pc' := 154) at_152 rfl rfl rfl ?_
      have F_306 : Sta Z h_299 "java/lang/Integer$IntegerCache" "high" "I" (.int (127 : Int32)) := (sta_keep (Sta.ext E_281 (Sta.wr W_276 (Sta.wr W_272 (Sta.ext E_268 (sta_keep (Sta.ext E_242 (Sta.wr W_237 (Sta.wr W_233 (Sta.ext E_229 (sta_keep (sta_keep (Sta.ext E_203 (Sta.ext E_195 S_hi)) K_209 (nsS (Exa.nostat X_205) ns0)) K_216 (nsS (Exa.nostat F_217) ns0)))))) K_252 (nsS (Exa.nostat X_244) ns0)))))) K_291 (nsS (Exa.nostat X_283) ns0))
      have F_307 : Sta Z h_299 "java/lang/Integer$IntegerCache" "cache" "[Ljava/lang/Integer;" (.ref cb) := (sta_keep (Sta.ext E_281 (Sta.wr W_276 (Sta.wr W_272 (Sta.ext E_268 (sta_keep (Sta.ext E_242 (Sta.wr W_237 (Sta.wr W_233 (Sta.ext E_229 (sta_keep (sta_keep (Sta.ext E_203 (Sta.ext E_195 S_ca)) K_209 (nsS (Exa.nostat X_205) ns0)) K_216 (nsS (Exa.nostat F_217) ns0)))))) K_252 (nsS (Exa.nostat X_244) ns0)))))) K_291 (nsS (Exa.nostat X_283) ns0))
      have F_308 : RoadKit.Arr Z h_299 cb ccl (.object "java/lang/Integer") := (arr_keep (RoadKit.Arr.ext E_281 (RoadKit.Arr.other W_276 (RoadKit.Arr.other W_272 (RoadKit.Arr.ext E_268 (arr_keep (RoadKit.Arr.ext E_242 (RoadKit.Arr.other W_237 (RoadKit.Arr.other W_233 (RoadKit.Arr.ext E_229 (arr_keep (arr_keep (RoadKit.Arr.ext E_203 (RoadKit.Arr.ext E_195 A_ca)) K_209 (ninS (nne (by omega)) nin0)) K_216 (ninS (nne (by omega)) nin0))) (nne (by omega))) (nne (by omega)))) K_252 (ninS (nne (by omega)) nin0))) (nne (by omega))) (nne (by omega)))) K_291 (ninS (nne (by omega)) nin0))
      refine Go.callS (a1 := a0) (pc' := 157) (argsL := [(.int ((usr p5 (5 : Int32)) &&& (3 : Int32))), (.int p2), (.ref a_279), (.ref a_240)]) (rest := []) (ct_pick l Z a0 hw n0 h_299 ((usr p5 (5 : Int32)) &&& (3 : Int32)) p2 a_279 (.ref a_240) rfl (by omega) cb ccl F_306 F_307 F_308 hcs_ hel hcb) at_154 (hw _ (List.mem_of_getElem? (i := 37) rfl)) (hw _ (List.mem_of_getElem? (i := 38) rfl)) (hw _ (List.mem_of_getElem? (i := 2) rfl)) (hw _ (List.mem_of_getElem? (i := 39) rfl)) (by decide) (lenOf pd__28IILjava_2flang_2fString_3bLjava_2flang_2fObject_3b_29Ljava_2flang_2fObject_3b rfl) rfl 0 rfl rfl (by decide) (by decide) (by decide) (by decide) (fun _ q => nomatch q) rfl (fun v_309 h_310 N_311 hQ_312 hle_313 => ?_)
      obtain ⟨K_305, u_303, rfl, hu_304⟩ := hQ_312
      have szh_310 : h_299.size ≤ h_310.size := K_305.1
      refine Go.re (pc' := 157) (L' := #[.val (.int p0), .val (.int p1), .val (.int p2), .val (.int p3), .val (.int p4), .val (.int p5), .val (.int (0 : Int32)), .val (u_2), .val (.ref a_193), .val (.ref a_225), .val (.ref a_240), .val (.ref a_264), .val (.ref a_279), .unset, .unset, .unset, .unset]) (S' := [u_303]) rfl rfl rfl ?_
      refine Go.astore (pc' := 159) #[.val (.int p0), .val (.int p1), .val (.int p2), .val (.int p3), .val (.int p4), .val (.int p5), .val (.int (0 : Int32)), .val (u_2), .val (.ref a_193), .val (.ref a_225), .val (.ref a_240), .val (.ref a_264), .val (.ref a_279), .val (u_303), .unset, .unset, .unset] at_157 hu_304 (XS.store1 (o := .unset) rfl (Or.inl rfl) (XT.cat1 hu_304)) rfl ?_
      refine Go.iload (pc' := 161) at_159 rfl rfl ?_
      refine Go.bipush (pc' := 163) 7 at_161 rfl rfl ?_
      refine Go.iushr (pc' := 164) at_163 rfl ?_
      refine Go.iconst (pc' := 165) 3 at_164 rfl rfl ?_
      refine Go.iand (pc' := 166) at_165 rfl ?_
      refine Go.iloadN (pc' := 167) at_166 rfl rfl ?_
      refine Go.aload (pc' := 169) at_167 rfl rfl rfl ?_
      refine Go.aload (pc' := 171) at_169 rfl hu_304 rfl ?_
      have F_317 : Sta Z h_310 "java/lang/Integer$IntegerCache" "high" "I" (.int (127 : Int32)) := (sta_keep F_306 K_305 ns0)
      have F_318 : Sta Z h_310 "java/lang/Integer$IntegerCache" "cache" "[Ljava/lang/Integer;" (.ref cb) := (sta_keep F_307 K_305 ns0)
      have F_319 : RoadKit.Arr Z h_310 cb ccl (.object "java/lang/Integer") := (arr_keep F_308 K_305 nin0)
      refine Go.callS (a1 := a0) (pc' := 174) (argsL := [(.int ((usr p5 (7 : Int32)) &&& (3 : Int32))), (.int p3), (.ref a_279), u_303]) (rest := []) (ct_pick l Z a0 hw n0 h_310 ((usr p5 (7 : Int32)) &&& (3 : Int32)) p3 a_279 u_303 hu_304 (by omega) cb ccl F_317 F_318 F_319 hcs_ hel hcb) at_171 (hw _ (List.mem_of_getElem? (i := 37) rfl)) (hw _ (List.mem_of_getElem? (i := 38) rfl)) (hw _ (List.mem_of_getElem? (i := 2) rfl)) (hw _ (List.mem_of_getElem? (i := 39) rfl)) (by decide) (lenOf pd__28IILjava_2flang_2fString_3bLjava_2flang_2fObject_3b_29Ljava_2flang_2fObject_3b rfl) rfl 0 rfl rfl (by decide) (by decide) (by decide) (by decide) (fun _ q => nomatch q) rfl (fun v_320 h_321 N_322 hQ_323 hle_324 => ?_)
      obtain ⟨K_316, u_314, rfl, hu_315⟩ := hQ_323
      have szh_321 : h_310.size ≤ h_321.size := K_316.1
      refine Go.re (pc' := 174) (L' := #[.val (.int p0), .val (.int p1), .val (.int p2), .val (.int p3), .val (.int p4), .val (.int p5), .val (.int (0 : Int32)), .val (u_2), .val (.ref a_193), .val (.ref a_225), .val (.ref a_240), .val (.ref a_264), .val (.ref a_279), .val (u_303), .unset, .unset, .unset]) (S' := [u_314]) rfl rfl rfl ?_
      refine Go.astore (pc' := 176) #[.val (.int p0), .val (.int p1), .val (.int p2), .val (.int p3), .val (.int p4), .val (.int p5), .val (.int (0 : Int32)), .val (u_2), .val (.ref a_193), .val (.ref a_225), .val (.ref a_240), .val (.ref a_264), .val (.ref a_279), .val (u_303), .val (u_314), .unset, .unset] at_174 hu_315 (XS.store1 (o := .unset) rfl (Or.inl rfl) (XT.cat1 hu_315)) rfl ?_
      refine Go.newO (pc' := 179) (a1 := a0) at_176 (hw _ (List.mem_of_getElem? (i := 40) rfl)) (hw _ (List.mem_of_getElem? (i := 41) rfl)) (hw _ (List.mem_of_getElem? (i := 42) rfl)) (by decide) (by decide) rfl (fun a_325 h_326 ha_328 E_327 X_329 Df_330 => ?_)
      have szh_326 : h_321.size ≤ h_326.size := E_327.1
      have lta_325 := nlt X_329.lt
      have qa_325 := neq ha_328
      have F_331 : Fld Z h_326 a_325 "com/example/cartulary/cartulary/StarTable$Column" "name" "Ljava/lang/String;" (.null) := Df_330 (Or.inr (hw _ (List.mem_of_getElem? (i := 53) rfl))) (ty := (.object "java/lang/String")) (by decide)
      have F_332 : Fld Z h_326 a_325 "com/example/cartulary/cartulary/StarTable$Column" "type" "Lcom/example/cartulary/cartulary/ColumnType;" (.null) := Df_330 (Or.inr (hw _ (List.mem_of_getElem? (i := 55) rfl))) (ty := (.object "com/example/cartulary/cartulary/ColumnType")) (by decide)
      have F_333 : Fld Z h_326 a_325 "com/example/cartulary/cartulary/StarTable$Column" "size" "I" (.int (0 : Int32)) := Df_330 (Or.inr (hw _ (List.mem_of_getElem? (i := 57) rfl))) (ty := .int) (by decide)
      have F_334 : Fld Z h_326 a_325 "com/example/cartulary/cartulary/StarTable$Column" "scale" "I" (.int (0 : Int32)) := Df_330 (Or.inr (hw _ (List.mem_of_getElem? (i := 59) rfl))) (ty := .int) (by decide)
      have F_335 : Fld Z h_326 a_325 "com/example/cartulary/cartulary/StarTable$Column" "absent" "Ljava/lang/Object;" (.null) := Df_330 (Or.inr (hw _ (List.mem_of_getElem? (i := 61) rfl))) (ty := (.object "java/lang/Object")) (by decide)
      have F_336 : Fld Z h_326 a_325 "com/example/cartulary/cartulary/StarTable$Column" "stored" "Z" (.int (0 : Int32)) := Df_330 (Or.inr (hw _ (List.mem_of_getElem? (i := 63) rfl))) (ty := .boolean) (by decide)
      have F_337 : Fld Z h_326 a_325 "com/example/cartulary/cartulary/StarTable$Column" "namedBy" "Lcom/example/cartulary/cartulary/StarTable$NamedBy;" (.null) := Df_330 (Or.inr (hw _ (List.mem_of_getElem? (i := 65) rfl))) (ty := (.object "com/example/cartulary/cartulary/StarTable$NamedBy")) (by decide)
      refine Go.dup (pc' := 180) at_179 rfl rfl ?_
      refine Go.aload (pc' := 182) at_180 rfl rfl rfl ?_
      refine Go.aload (pc' := 184) at_182 rfl hu_3 rfl ?_
      refine Go.iloadN (pc' := 185) at_184 rfl rfl ?_
      refine Go.iloadN (pc' := 186) at_185 rfl rfl ?_
      refine Go.aload (pc' := 188) at_186 rfl hu_304 rfl ?_
      refine Go.iload (pc' := 190) at_188 rfl rfl ?_
      refine Go.aload (pc' := 192) at_190 rfl rfl rfl ?_
      refine Go.callN (a1 := a0) (pc' := 195) (argsL := [(.ref a_240), u_2, (.int p0), (.int p1), u_303, (.int (0 : Int32)), (.ref a_193)]) (rest := [(.ref a_325)]) (ct_col l Z a0 hw n0 h_326 a_325 (by omega) a_240 u_2 u_303 (.ref a_193) p0 p1 (0 : Int32) hu_3 hu_304 rfl (by decide) (by decide) X_329 F_331 F_332 F_333 F_334 F_335 F_336 F_337) at_192 rfl (hw _ (List.mem_of_getElem? (i := 43) rfl)) (hw _ (List.mem_of_getElem? (i := 44) rfl)) (hw _ (List.mem_of_getElem? (i := 42) rfl)) (hw _ (List.mem_of_getElem? (i := 45) rfl)) (by decide) (lenOf pd__28Ljava_2flang_2fString_3bLcom_2fexample_2fcartulary_2fcartulary_2fColumnType_3bIILjava_2flang_2fObject_3bZLcom_2fexample_2fcartulary_2fcartulary_2fStarTable_24NamedBy_3b_29V rfl) rfl 1 rfl rfl (by decide) (by decide) (by decide) (by decide) (fun _ q => nomatch q) rfl (fun v_347 h_348 N_349 hQ_350 hle_351 => ?_)
      obtain ⟨rfl, K_338, X_339, F_340, F_341, F_342, F_343, F_344, F_345, F_346⟩ := hQ_350
      have szh_348 : h_326.size ≤ h_348.size := K_338.1
      refine Go.re (pc' := 195) (L' := #[.val (.int p0), .val (.int p1), .val (.int p2), .val (.int p3), .val (.int p4), .val (.int p5), .val (.int (0 : Int32)), .val (u_2), .val (.ref a_193), .val (.ref a_225), .val (.ref a_240), .val (.ref a_264), .val (.ref a_279), .val (u_303), .val (u_314), .unset, .unset]) (S' := [(.ref a_325)]) rfl rfl rfl ?_
      refine Go.astore (pc' := 197) #[.val (.int p0), .val (.int p1), .val (.int p2), .val (.int p3), .val (.int p4), .val (.int p5), .val (.int (0 : Int32)), .val (u_2), .val (.ref a_193), .val (.ref a_225), .val (.ref a_240), .val (.ref a_264), .val (.ref a_279), .val (u_303), .val (u_314), .val (.ref a_325), .unset] at_195 rfl rfl rfl ?_
      refine Go.aload (pc' := 199) at_197 rfl rfl rfl ?_
      refine Go.aload (pc' := 201) at_199 rfl hu_315 rfl ?_
      refine Go.callV (a1 := a0) (pc' := 204) (argsL := [u_314]) (rest := []) (ct_orElse l Z a0 hw n0 h_348 a_325 (by omega) a_240 u_2 u_303 (.ref a_193) p0 p1 (0 : Int32) hu_3 hu_304 rfl (by decide) (by decide) u_314 hu_315 X_339 F_340 F_341 F_342 F_343 F_344 F_345 F_346) at_201 (hw _ (List.mem_of_getElem? (i := 66) rfl)) (hw _ (List.mem_of_getElem? (i := 67) rfl)) (hw _ (List.mem_of_getElem? (i := 69) rfl)) (hw _ (List.mem_of_getElem? (i := 69) rfl)) (hw _ (List.mem_of_getElem? (i := 68) rfl)) (hw _ (List.mem_of_getElem? (i := 42) rfl)) (hw _ (List.mem_of_getElem? (i := 70) rfl)) X_339 (by decide) (lenOf pd__28Ljava_2flang_2fObject_3b_29Lcom_2fexample_2fcartulary_2fcartulary_2fStarTable_24Column_3b rfl) rfl 0 rfl rfl (by decide) (by decide) (by decide) (by decide) (fun _ q => nomatch q) rfl (fun v_362 h_363 N_364 hQ_365 hle_366 => ?_)
      obtain ⟨a_352, rfl, K_353, X_354, F_355, F_356, F_357, F_358, F_359, F_360, F_361⟩ := hQ_365
      refine Go.re (pc' := 204) (L' := #[.val (.int p0), .val (.int p1), .val (.int p2), .val (.int p3), .val (.int p4), .val (.int p5), .val (.int (0 : Int32)), .val (u_2), .val (.ref a_193), .val (.ref a_225), .val (.ref a_240), .val (.ref a_264), .val (.ref a_279), .val (u_303), .val (u_314), .val (.ref a_325), .unset]) (S' := [(.ref a_352)]) rfl rfl rfl ?_
      refine Go.astore (pc' := 206) #[.val (.int p0), .val (.int p1), .val (.int p2), .val (.int p3), .val (.int p4), .val (.int p5), .val (.int (0 : Int32)), .val (u_2), .val (.ref a_193), .val (.ref a_225), .val (.ref a_240), .val (.ref a_264), .val (.ref a_279), .val (u_303), .val (u_314), .val (.ref a_325), .val (.ref a_352)] at_204 rfl rfl rfl ?_
      refine Go.aload (pc' := 208) at_206 rfl rfl rfl ?_
      refine Go.ifnullF (pc' := 211) at_208 rfl ?_
      refine Go.aload (pc' := 213) at_211 rfl rfl rfl ?_
      refine Go.aload (pc' := 215) at_213 rfl rfl rfl ?_
      refine Go.callV (a1 := a0) (pc' := 218) (argsL := []) (rest := [(.ref a_240)]) (ct_g_name l Z a0 hw n0 h_363 a_352 (.ref a_240) rfl F_355) at_215 (hw _ (List.mem_of_getElem? (i := 73) rfl)) (hw _ (List.mem_of_getElem? (i := 74) rfl)) (hw _ (List.mem_of_getElem? (i := 76) rfl)) (hw _ (List.mem_of_getElem? (i := 76) rfl)) (hw _ (List.mem_of_getElem? (i := 75) rfl)) (hw _ (List.mem_of_getElem? (i := 42) rfl)) (hw _ (List.mem_of_getElem? (i := 77) rfl)) X_354 (by decide) (lenOf pd__28_29Ljava_2flang_2fString_3b rfl) rfl 1 rfl rfl (by decide) (by decide) (by decide) (by decide) (fun _ q => nomatch q) rfl (fun v_367 h_368 N_369 hQ_370 hle_371 => ?_)
      obtain ⟨rfl, rfl⟩ := hQ_370
      refine Go.re (pc' := 218) (L' := #[.val (.int p0), .val (.int p1), .val (.int p2), .val (.int p3), .val (.int p4), .val (.int p5), .val (.int (0 : Int32)), .val (u_2), .val (.ref a_193), .val (.ref a_225), .val (.ref a_240), .val (.ref a_264), .val (.ref a_279), .val (u_303), .val (u_314), .val (.ref a_325), .val (.ref a_352)]) (S' := [(.ref a_240), (.ref a_240)]) rfl rfl rfl ?_
      have F_377 : Exa Z h_363 a_240 "java/lang/String" := (Exa.keep (Exa.keep (Exa.ext E_327 (Exa.keep (Exa.keep (Exa.keep (Exa.ext E_281 (Exa.wr W_276 (Exa.wr W_272 (Exa.ext E_268 X_253)))) K_291) K_305) K_316)) K_338) K_353)
      refine Go.callV (a1 := a0) (pc' := 221) (argsL := [(.ref a_240)]) (rest := []) (ct_equalsS l Z a0 hw n0 h_363 a_240) at_218 (hw _ (List.mem_of_getElem? (i := 78) rfl)) (hw _ (List.mem_of_getElem? (i := 79) rfl)) (hw _ (List.mem_of_getElem? (i := 81) rfl)) (hw _ (List.mem_of_getElem? (i := 81) rfl)) (hw _ (List.mem_of_getElem? (i := 80) rfl)) (hw _ (List.mem_of_getElem? (i := 10) rfl)) (hw _ (List.mem_of_getElem? (i := 82) rfl)) F_377 (by decide) (lenOf pd__28Ljava_2flang_2fObject_3b_29Z rfl) rfl 0 rfl rfl (by decide) (by decide) (by decide) (by decide) (fun _ q => nomatch q) rfl (fun v_372 h_373 N_374 hQ_375 hle_376 => ?_)
      obtain ⟨rfl, rfl⟩ := hQ_375
      refine Go.re (pc' := 221) (L' := #[.val (.int p0), .val (.int p1), .val (.int p2), .val (.int p3), .val (.int p4), .val (.int p5), .val (.int (0 : Int32)), .val (u_2), .val (.ref a_193), .val (.ref a_225), .val (.ref a_240), .val (.ref a_264), .val (.ref a_279), .val (u_303), .val (u_314), .val (.ref a_325), .val (.ref a_352)]) (S' := [(.int (1 : Int32))]) rfl rfl rfl ?_
      refine Go.ifF (pc' := 224) at_221 (show ¬ ((1 : Int32) = (0 : Int32)) by decide) rfl ?_
      refine Go.aload (pc' := 226) at_224 rfl rfl rfl ?_
      refine Go.callV (a1 := a0) (pc' := 229) (argsL := []) (rest := []) (ct_g_type l Z a0 hw n0 h_363 a_352 u_2 hu_3 F_356) at_226 (hw _ (List.mem_of_getElem? (i := 83) rfl)) (hw _ (List.mem_of_getElem? (i := 84) rfl)) (hw _ (List.mem_of_getElem? (i := 86) rfl)) (hw _ (List.mem_of_getElem? (i := 86) rfl)) (hw _ (List.mem_of_getElem? (i := 85) rfl)) (hw _ (List.mem_of_getElem? (i := 42) rfl)) (hw _ (List.mem_of_getElem? (i := 87) rfl)) X_354 (by decide) (lenOf pd__28_29Lcom_2fexample_2fcartulary_2fcartulary_2fColumnType_3b rfl) rfl 0 rfl rfl (by decide) (by decide) (by decide) (by decide) (fun _ q => nomatch q) rfl (fun v_378 h_379 N_380 hQ_381 hle_382 => ?_)
      obtain ⟨rfl, rfl⟩ := hQ_381
      refine Go.re (pc' := 229) (L' := #[.val (.int p0), .val (.int p1), .val (.int p2), .val (.int p3), .val (.int p4), .val (.int p5), .val (.int (0 : Int32)), .val (u_2), .val (.ref a_193), .val (.ref a_225), .val (.ref a_240), .val (.ref a_264), .val (.ref a_279), .val (u_303), .val (u_314), .val (.ref a_325), .val (.ref a_352)]) (S' := [u_2]) rfl rfl rfl ?_
      refine Go.aload (pc' := 231) at_229 rfl hu_3 rfl ?_
      refine Go.acmp (pc' := 234) true at_231 hu_3 hu_3 (decide_eq_true rfl) (by decide) (by decide) ?_
      refine Go.aload (pc' := 236) at_234 rfl rfl rfl ?_
      refine Go.callV (a1 := a0) (pc' := 239) (argsL := []) (rest := []) (ct_g_size l Z a0 hw n0 h_363 a_352 p0 F_357) at_236 (hw _ (List.mem_of_getElem? (i := 88) rfl)) (hw _ (List.mem_of_getElem? (i := 89) rfl)) (hw _ (List.mem_of_getElem? (i := 91) rfl)) (hw _ (List.mem_of_getElem? (i := 91) rfl)) (hw _ (List.mem_of_getElem? (i := 90) rfl)) (hw _ (List.mem_of_getElem? (i := 42) rfl)) (hw _ (List.mem_of_getElem? (i := 92) rfl)) X_354 (by decide) (lenOf pd__28_29I rfl) rfl 0 rfl rfl (by decide) (by decide) (by decide) (by decide) (fun _ q => nomatch q) rfl (fun v_383 h_384 N_385 hQ_386 hle_387 => ?_)
      obtain ⟨rfl, rfl⟩ := hQ_386
      refine Go.re (pc' := 239) (L' := #[.val (.int p0), .val (.int p1), .val (.int p2), .val (.int p3), .val (.int p4), .val (.int p5), .val (.int (0 : Int32)), .val (u_2), .val (.ref a_193), .val (.ref a_225), .val (.ref a_240), .val (.ref a_264), .val (.ref a_279), .val (u_303), .val (u_314), .val (.ref a_325), .val (.ref a_352)]) (S' := [(.int p0)]) rfl rfl rfl ?_
      refine Go.iloadN (pc' := 240) at_239 rfl rfl ?_
      refine Go.icmpF (pc' := 243) at_240 (rfl) rfl ?_
      refine Go.aload (pc' := 245) at_243 rfl rfl rfl ?_
      refine Go.callV (a1 := a0) (pc' := 248) (argsL := []) (rest := []) (ct_g_scale l Z a0 hw n0 h_363 a_352 p1 F_358) at_245 (hw _ (List.mem_of_getElem? (i := 93) rfl)) (hw _ (List.mem_of_getElem? (i := 94) rfl)) (hw _ (List.mem_of_getElem? (i := 96) rfl)) (hw _ (List.mem_of_getElem? (i := 96) rfl)) (hw _ (List.mem_of_getElem? (i := 95) rfl)) (hw _ (List.mem_of_getElem? (i := 42) rfl)) (hw _ (List.mem_of_getElem? (i := 97) rfl)) X_354 (by decide) (lenOf pd__28_29I rfl) rfl 0 rfl rfl (by decide) (by decide) (by decide) (by decide) (fun _ q => nomatch q) rfl (fun v_388 h_389 N_390 hQ_391 hle_392 => ?_)
      obtain ⟨rfl, rfl⟩ := hQ_391
      refine Go.re (pc' := 248) (L' := #[.val (.int p0), .val (.int p1), .val (.int p2), .val (.int p3), .val (.int p4), .val (.int p5), .val (.int (0 : Int32)), .val (u_2), .val (.ref a_193), .val (.ref a_225), .val (.ref a_240), .val (.ref a_264), .val (.ref a_279), .val (u_303), .val (u_314), .val (.ref a_325), .val (.ref a_352)]) (S' := [(.int p1)]) rfl rfl rfl ?_
      refine Go.iloadN (pc' := 249) at_248 rfl rfl ?_
      refine Go.icmpF (pc' := 252) at_249 (rfl) rfl ?_
      refine Go.aload (pc' := 254) at_252 rfl rfl rfl ?_
      refine Go.callV (a1 := a0) (pc' := 257) (argsL := []) (rest := []) (ct_g_absent l Z a0 hw n0 h_363 a_352 u_314 hu_315 F_359) at_254 (hw _ (List.mem_of_getElem? (i := 98) rfl)) (hw _ (List.mem_of_getElem? (i := 99) rfl)) (hw _ (List.mem_of_getElem? (i := 101) rfl)) (hw _ (List.mem_of_getElem? (i := 101) rfl)) (hw _ (List.mem_of_getElem? (i := 100) rfl)) (hw _ (List.mem_of_getElem? (i := 42) rfl)) (hw _ (List.mem_of_getElem? (i := 102) rfl)) X_354 (by decide) (lenOf pd__28_29Ljava_2flang_2fObject_3b rfl) rfl 0 rfl rfl (by decide) (by decide) (by decide) (by decide) (fun _ q => nomatch q) rfl (fun v_393 h_394 N_395 hQ_396 hle_397 => ?_)
      obtain ⟨rfl, rfl⟩ := hQ_396
      refine Go.re (pc' := 257) (L' := #[.val (.int p0), .val (.int p1), .val (.int p2), .val (.int p3), .val (.int p4), .val (.int p5), .val (.int (0 : Int32)), .val (u_2), .val (.ref a_193), .val (.ref a_225), .val (.ref a_240), .val (.ref a_264), .val (.ref a_279), .val (u_303), .val (u_314), .val (.ref a_325), .val (.ref a_352)]) (S' := [u_314]) rfl rfl rfl ?_
      refine Go.aload (pc' := 259) at_257 rfl hu_315 rfl ?_
      refine Go.acmp (pc' := 262) true at_259 hu_315 hu_315 (decide_eq_true rfl) (by decide) (by decide) ?_
      refine Go.aload (pc' := 264) at_262 rfl rfl rfl ?_
      refine Go.callV (a1 := a0) (pc' := 267) (argsL := []) (rest := []) (ct_g_stored l Z a0 hw n0 h_363 a_352 (0 : Int32) (by decide) F_360) at_264 (hw _ (List.mem_of_getElem? (i := 103) rfl)) (hw _ (List.mem_of_getElem? (i := 104) rfl)) (hw _ (List.mem_of_getElem? (i := 106) rfl)) (hw _ (List.mem_of_getElem? (i := 106) rfl)) (hw _ (List.mem_of_getElem? (i := 105) rfl)) (hw _ (List.mem_of_getElem? (i := 42) rfl)) (hw _ (List.mem_of_getElem? (i := 107) rfl)) X_354 (by decide) (lenOf pd__28_29Z rfl) rfl 0 rfl rfl (by decide) (by decide) (by decide) (by decide) (fun _ q => nomatch q) rfl (fun v_398 h_399 N_400 hQ_401 hle_402 => ?_)
      obtain ⟨rfl, rfl⟩ := hQ_401
      refine Go.re (pc' := 267) (L' := #[.val (.int p0), .val (.int p1), .val (.int p2), .val (.int p3), .val (.int p4), .val (.int p5), .val (.int (0 : Int32)), .val (u_2), .val (.ref a_193), .val (.ref a_225), .val (.ref a_240), .val (.ref a_264), .val (.ref a_279), .val (u_303), .val (u_314), .val (.ref a_325), .val (.ref a_352)]) (S' := [(.int (0 : Int32))]) rfl rfl rfl ?_
      refine Go.iload (pc' := 269) at_267 rfl rfl ?_
      refine Go.icmpF (pc' := 272) at_269 (rfl) rfl ?_
      refine Go.aload (pc' := 274) at_272 rfl rfl rfl ?_
      refine Go.callV (a1 := a0) (pc' := 277) (argsL := []) (rest := []) (ct_g_namedBy l Z a0 hw n0 h_363 a_352 (.ref a_193) rfl F_361) at_274 (hw _ (List.mem_of_getElem? (i := 108) rfl)) (hw _ (List.mem_of_getElem? (i := 109) rfl)) (hw _ (List.mem_of_getElem? (i := 111) rfl)) (hw _ (List.mem_of_getElem? (i := 111) rfl)) (hw _ (List.mem_of_getElem? (i := 110) rfl)) (hw _ (List.mem_of_getElem? (i := 42) rfl)) (hw _ (List.mem_of_getElem? (i := 112) rfl)) X_354 (by decide) (lenOf pd__28_29Lcom_2fexample_2fcartulary_2fcartulary_2fStarTable_24NamedBy_3b rfl) rfl 0 rfl rfl (by decide) (by decide) (by decide) (by decide) (fun _ q => nomatch q) rfl (fun v_403 h_404 N_405 hQ_406 hle_407 => ?_)
      obtain ⟨rfl, rfl⟩ := hQ_406
      refine Go.re (pc' := 277) (L' := #[.val (.int p0), .val (.int p1), .val (.int p2), .val (.int p3), .val (.int p4), .val (.int p5), .val (.int (0 : Int32)), .val (u_2), .val (.ref a_193), .val (.ref a_225), .val (.ref a_240), .val (.ref a_264), .val (.ref a_279), .val (u_303), .val (u_314), .val (.ref a_325), .val (.ref a_352)]) (S' := [(.ref a_193)]) rfl rfl rfl ?_
      refine Go.aload (pc' := 279) at_277 rfl rfl rfl ?_
      refine Go.acmp (pc' := 282) true at_279 rfl rfl (decide_eq_true rfl) (by decide) (by decide) ?_
      refine Go.iconst (pc' := 283) 1 at_282 rfl rfl ?_
      refine Go.goto (pc' := 287) at_283 (by decide) (by decide) ?_
      refine Go.retN (t := .boolean) (1 : Int32) rfl (by simp) rfl [] (fun _ q => nomatch q) at_287 (by decide) (by decide) ?_
      exact rfl
  · have hc_1 : ¬ ((p5 &&& (1 : Int32)) = 0) := hc_1
    refine Go.iconst (pc' := 8) 1 at_7 rfl rfl ?_
    refine Go.goto (pc' := 12) at_8 (by decide) (by decide) ?_
    refine Go.istore (pc' := 14) #[.val (.int p0), .val (.int p1), .val (.int p2), .val (.int p3), .val (.int p4), .val (.int p5), .val (.int (1 : Int32)), .unset, .unset, .unset, .unset, .unset, .unset, .unset, .unset, .unset, .unset] at_12 rfl rfl ?_
    refine Go.iload (pc' := 16) at_14 rfl rfl ?_
    refine Go.iconst (pc' := 17) 1 at_16 rfl rfl ?_
    refine Go.iushr (pc' := 18) at_17 rfl ?_
    refine Go.bipush (pc' := 20) 7 at_18 rfl rfl ?_
    refine Go.iand (pc' := 21) at_20 rfl ?_
    refine Go.iconst (pc' := 22) 5 at_21 rfl rfl ?_
    refine Go.irem (pc' := 23) at_22 (by decide) rfl ?_
    refine Go.callS (a1 := a0) (pc' := 26) (argsL := [(.int (((usr p5 (1 : Int32)) &&& (7 : Int32)) % (5 : Int32)))]) (rest := []) (ct_type l Z a0 hw n0 h0 (((usr p5 (1 : Int32)) &&& (7 : Int32)) % (5 : Int32)) o_TEXT S_TEXT o_INTEGER S_INTEGER o_TIMESTAMP S_TIMESTAMP o_NUMERIC S_NUMERIC) at_23 (hw _ (List.mem_of_getElem? (i := 0) rfl)) (hw _ (List.mem_of_getElem? (i := 1) rfl)) (hw _ (List.mem_of_getElem? (i := 2) rfl)) (hw _ (List.mem_of_getElem? (i := 3) rfl)) (by decide) (lenOf pd__28I_29Lcom_2fexample_2fcartulary_2fcartulary_2fColumnType_3b rfl) rfl 0 rfl rfl (by decide) (by decide) (by decide) (by decide) (fun _ q => nomatch q) rfl (fun v_410 h_411 N_412 hQ_413 hle_414 => ?_)
    obtain ⟨rfl, u_408, rfl, hu_409⟩ := hQ_413
    refine Go.re (pc' := 26) (L' := #[.val (.int p0), .val (.int p1), .val (.int p2), .val (.int p3), .val (.int p4), .val (.int p5), .val (.int (1 : Int32)), .unset, .unset, .unset, .unset, .unset, .unset, .unset, .unset, .unset, .unset]) (S' := [u_408]) rfl rfl rfl ?_
    refine Go.astore (pc' := 28) #[.val (.int p0), .val (.int p1), .val (.int p2), .val (.int p3), .val (.int p4), .val (.int p5), .val (.int (1 : Int32)), .val (u_408), .unset, .unset, .unset, .unset, .unset, .unset, .unset, .unset, .unset] at_26 hu_409 (XS.store1 (o := .unset) rfl (Or.inl rfl) (XT.cat1 hu_409)) rfl ?_
    refine Go.iload (pc' := 30) at_28 rfl rfl ?_
    refine Go.iconst (pc' := 31) 4 at_30 rfl rfl ?_
    refine Go.iushr (pc' := 32) at_31 rfl ?_
    refine Go.iconst (pc' := 33) 1 at_32 rfl rfl ?_
    refine Go.iand (pc' := 34) at_33 rfl ?_
    refine Go.ifc (pc' := 55) (pc'' := 37) at_34 (by decide) (by decide) rfl (fun hc_415 => ?_) (fun hc_415 => ?_)
    · have hc_415 : ((usr p5 (4 : Int32)) &&& (1 : Int32)) = 0 := hc_415
      refine Go.aconstNull (pc' := 56) at_55 rfl ?_
      refine Go.astore (pc' := 58) #[.val (.int p0), .val (.int p1), .val (.int p2), .val (.int p3), .val (.int p4), .val (.int p5), .val (.int (1 : Int32)), .val (u_408), .val (.null), .unset, .unset, .unset, .unset, .unset, .unset, .unset, .unset] at_56 rfl rfl rfl ?_
      refine Go.iconst (pc' := 59) 2 at_58 rfl rfl ?_
      refine Go.newPV (pc' := 61) (a1 := a0) 2 [(.int (0 : Int32)), (.int (0 : Int32))] at_59 (hw _ (List.mem_of_getElem? (i := 7) rfl)) (by decide) (by decide) (by decide) (by decide) (by decide) rfl rfl (fun a_416 h_417 cA_418 ha_419 E_420 A_421 => ?_)
      have szh_417 : h0.size ≤ h_417.size := E_420.1
      have lta_416 := nlt A_421.lt
      have qa_416 := neq ha_419
      have F_422 : Arv Z h_417 a_416 cA_418 .char (2 : Int32) [(.int (0 : Int32)), (.int (0 : Int32))] (.int 0) := A_421
      refine Go.astore (pc' := 63) #[.val (.int p0), .val (.int p1), .val (.int p2), .val (.int p3), .val (.int p4), .val (.int p5), .val (.int (1 : Int32)), .val (u_408), .val (.null), .val (.ref a_416), .unset, .unset, .unset, .unset, .unset, .unset, .unset] at_61 rfl rfl rfl ?_
      refine Go.aload (pc' := 65) at_63 rfl rfl rfl ?_
      refine Go.iconst (pc' := 66) 0 at_65 rfl rfl ?_
      refine Go.iload (pc' := 68) at_66 rfl rfl ?_
      refine Go.sipush (pc' := 71) 255 at_68 rfl rfl ?_
      refine Go.iand (pc' := 72) at_71 rfl ?_
      refine Go.i2c (pc' := 73) at_72 rfl ?_
      refine Go.castoreV (pc' := 74) 0 at_73 F_422 (by decide) rfl (show 0 < 2 by decide) (by omega) rfl (fun h_423 W_424 A_425 => ?_)
      have szh_423 : h_423.size = h_417.size := Wr.size W_424
      have F_426 : Arv Z h_423 a_416 cA_418 .char (2 : Int32) [(.int (nar .char (p4 &&& (255 : Int32)))), (.int (0 : Int32))] (.int 0) := by have q := A_425; rw [(own_ch p4).2] at q; exact q
      refine Go.aload (pc' := 76) at_74 rfl rfl rfl ?_
      refine Go.iconst (pc' := 77) 1 at_76 rfl rfl ?_
      refine Go.iload (pc' := 79) at_77 rfl rfl ?_
      refine Go.bipush (pc' := 81) 8 at_79 rfl rfl ?_
      refine Go.iushr (pc' := 82) at_81 rfl ?_
      refine Go.sipush (pc' := 85) 255 at_82 rfl rfl ?_
      refine Go.iand (pc' := 86) at_85 rfl ?_
      refine Go.i2c (pc' := 87) at_86 rfl ?_
      refine Go.castoreV (pc' := 88) 1 at_87 F_426 (by decide) rfl (show 1 < 2 by decide) (by omega) rfl (fun h_427 W_428 A_429 => ?_)
      have szh_427 : h_427.size = h_423.size := Wr.size W_428
      have F_430 : Arv Z h_427 a_416 cA_418 .char (2 : Int32) [(.int (nar .char (p4 &&& (255 : Int32)))), (.int (nar .char ((usr p4 (8 : Int32)) &&& (255 : Int32))))] (.int 0) := by have q := A_429; rw [(own_ch (usr p4 (8 : Int32))).2] at q; exact q
      refine Go.newO (pc' := 91) (a1 := a0) at_88 (hw _ (List.mem_of_getElem? (i := 8) rfl)) (hw _ (List.mem_of_getElem? (i := 9) rfl)) (hw _ (List.mem_of_getElem? (i := 10) rfl)) (by decide) (by decide) rfl (fun a_431 h_432 ha_434 E_433 X_435 Df_436 => ?_)
      have szh_432 : h_427.size ≤ h_432.size := E_433.1
      have lta_431 := nlt X_435.lt
      have qa_431 := neq ha_434
      have F_437 : Fld Z h_432 a_431 "java/lang/String" "coder" "B" (.int (0 : Int32)) := Df_436 (Or.inr (hw _ (List.mem_of_getElem? (i := 34) rfl))) (ty := .byte) (by decide)
      have F_438 : Fld Z h_432 a_431 "java/lang/String" "value" "[B" (.null) := Df_436 (Or.inr (hw _ (List.mem_of_getElem? (i := 36) rfl))) (ty := (.array .byte)) (by decide)
      refine Go.dup (pc' := 92) at_91 rfl rfl ?_
      refine Go.aload (pc' := 94) at_92 rfl rfl rfl ?_
      have F_448 : Arv Z h_432 a_416 cA_418 .char (2 : Int32) [(.int (nar .char (p4 &&& (255 : Int32)))), (.int (nar .char ((usr p4 (8 : Int32)) &&& (255 : Int32))))] (.int 0) := (Arv.ext F_430 E_433)
      have F_449 : Sta Z h_432 "java/lang/String" "COMPACT_STRINGS" "Z" (.int cs) := (Sta.ext E_433 (Sta.wr W_428 (Sta.wr W_424 (Sta.ext E_420 S_cs))))
      refine Go.callN (a1 := a0) (pc' := 97) (argsL := [(.ref a_416)]) (rest := [(.ref a_431)]) (ct_si1_2 l Z a0 hw n0 h_432 a_431 (by omega) X_435 F_438 F_437 a_416 cA_418 (nar .char (p4 &&& (255 : Int32))) (nar .char ((usr p4 (8 : Int32)) &&& (255 : Int32))) F_448 (own_ch p4).1 (own_ch (usr p4 (8 : Int32))).1 cs F_449 hcs) at_94 rfl (hw _ (List.mem_of_getElem? (i := 11) rfl)) (hw _ (List.mem_of_getElem? (i := 12) rfl)) (hw _ (List.mem_of_getElem? (i := 10) rfl)) (hw _ (List.mem_of_getElem? (i := 13) rfl)) (by decide) (lenOf pd__28_5bC_29V rfl) rfl 1 rfl rfl (by decide) (by decide) (by decide) (by decide) (by intro x hx; simp only [List.mem_cons, List.not_mem_nil, or_false] at hx; rcases hx with rfl; all_goals simp) rfl (fun v_450 h_451 N_452 hQ_453 hle_454 => ?_)
      obtain ⟨rfl, b_439, kb_440, g_441, g_442, K_443, X_444, F_445, F_446, A_447⟩ := hQ_453
      have szh_451 : h_432.size ≤ h_451.size := K_443.1
      have ltb_439 := nlt g_442
      refine Go.re (pc' := 97) (L' := #[.val (.int p0), .val (.int p1), .val (.int p2), .val (.int p3), .val (.int p4), .val (.int p5), .val (.int (1 : Int32)), .val (u_408), .val (.null), .val (.ref a_416), .unset, .unset, .unset, .unset, .unset, .unset, .unset]) (S' := [(.ref a_431)]) rfl rfl rfl ?_
      refine Go.astore (pc' := 99) #[.val (.int p0), .val (.int p1), .val (.int p2), .val (.int p3), .val (.int p4), .val (.int p5), .val (.int (1 : Int32)), .val (u_408), .val (.null), .val (.ref a_416), .val (.ref a_431), .unset, .unset, .unset, .unset, .unset, .unset] at_97 rfl rfl rfl ?_
      refine Go.iconst (pc' := 100) 2 at_99 rfl rfl ?_
      refine Go.newPV (pc' := 102) (a1 := a0) 2 [(.int (0 : Int32)), (.int (0 : Int32))] at_100 (hw _ (List.mem_of_getElem? (i := 7) rfl)) (by decide) (by decide) (by decide) (by decide) (by decide) rfl rfl (fun a_455 h_456 cA_457 ha_458 E_459 A_460 => ?_)
      have szh_456 : h_451.size ≤ h_456.size := E_459.1
      have lta_455 := nlt A_460.lt
      have qa_455 := neq ha_458
      have F_461 : Arv Z h_456 a_455 cA_457 .char (2 : Int32) [(.int (0 : Int32)), (.int (0 : Int32))] (.int 0) := A_460
      refine Go.astore (pc' := 104) #[.val (.int p0), .val (.int p1), .val (.int p2), .val (.int p3), .val (.int p4), .val (.int p5), .val (.int (1 : Int32)), .val (u_408), .val (.null), .val (.ref a_416), .val (.ref a_431), .val (.ref a_455), .unset, .unset, .unset, .unset, .unset] at_102 rfl rfl rfl ?_
      refine Go.aload (pc' := 106) at_104 rfl rfl rfl ?_
      refine Go.iconst (pc' := 107) 0 at_106 rfl rfl ?_
      refine Go.iload (pc' := 109) at_107 rfl rfl ?_
      refine Go.bipush (pc' := 111) 16 at_109 rfl rfl ?_
      refine Go.iushr (pc' := 112) at_111 rfl ?_
      refine Go.sipush (pc' := 115) 255 at_112 rfl rfl ?_
      refine Go.iand (pc' := 116) at_115 rfl ?_
      refine Go.i2c (pc' := 117) at_116 rfl ?_
      refine Go.castoreV (pc' := 118) 0 at_117 F_461 (by decide) rfl (show 0 < 2 by decide) (by omega) rfl (fun h_462 W_463 A_464 => ?_)
      have szh_462 : h_462.size = h_456.size := Wr.size W_463
      have F_465 : Arv Z h_462 a_455 cA_457 .char (2 : Int32) [(.int (nar .char ((usr p4 (16 : Int32)) &&& (255 : Int32)))), (.int (0 : Int32))] (.int 0) := by have q := A_464; rw [(own_ch (usr p4 (16 : Int32))).2] at q; exact q
      refine Go.aload (pc' := 120) at_118 rfl rfl rfl ?_
      refine Go.iconst (pc' := 121) 1 at_120 rfl rfl ?_
      refine Go.iload (pc' := 123) at_121 rfl rfl ?_
      refine Go.bipush (pc' := 125) 24 at_123 rfl rfl ?_
      refine Go.iushr (pc' := 126) at_125 rfl ?_
      refine Go.sipush (pc' := 129) 255 at_126 rfl rfl ?_
      refine Go.iand (pc' := 130) at_129 rfl ?_
      refine Go.i2c (pc' := 131) at_130 rfl ?_
      refine Go.castoreV (pc' := 132) 1 at_131 F_465 (by decide) rfl (show 1 < 2 by decide) (by omega) rfl (fun h_466 W_467 A_468 => ?_)
      have szh_466 : h_466.size = h_462.size := Wr.size W_467
      have F_469 : Arv Z h_466 a_455 cA_457 .char (2 : Int32) [(.int (nar .char ((usr p4 (16 : Int32)) &&& (255 : Int32)))), (.int (nar .char ((usr p4 (24 : Int32)) &&& (255 : Int32))))] (.int 0) := by have q := A_468; rw [(own_ch (usr p4 (24 : Int32))).2] at q; exact q
      refine Go.newO (pc' := 135) (a1 := a0) at_132 (hw _ (List.mem_of_getElem? (i := 8) rfl)) (hw _ (List.mem_of_getElem? (i := 9) rfl)) (hw _ (List.mem_of_getElem? (i := 10) rfl)) (by decide) (by decide) rfl (fun a_470 h_471 ha_473 E_472 X_474 Df_475 => ?_)
      have szh_471 : h_466.size ≤ h_471.size := E_472.1
      have lta_470 := nlt X_474.lt
      have qa_470 := neq ha_473
      have F_476 : Fld Z h_471 a_470 "java/lang/String" "coder" "B" (.int (0 : Int32)) := Df_475 (Or.inr (hw _ (List.mem_of_getElem? (i := 34) rfl))) (ty := .byte) (by decide)
      have F_477 : Fld Z h_471 a_470 "java/lang/String" "value" "[B" (.null) := Df_475 (Or.inr (hw _ (List.mem_of_getElem? (i := 36) rfl))) (ty := (.array .byte)) (by decide)
      refine Go.dup (pc' := 136) at_135 rfl rfl ?_
      refine Go.aload (pc' := 138) at_136 rfl rfl rfl ?_
      have F_487 : Arv Z h_471 a_455 cA_457 .char (2 : Int32) [(.int (nar .char ((usr p4 (16 : Int32)) &&& (255 : Int32)))), (.int (nar .char ((usr p4 (24 : Int32)) &&& (255 : Int32))))] (.int 0) := (Arv.ext F_469 E_472)
      have F_488 : Sta Z h_471 "java/lang/String" "COMPACT_STRINGS" "Z" (.int cs) := (Sta.ext E_472 (Sta.wr W_467 (Sta.wr W_463 (Sta.ext E_459 (sta_keep F_449 K_443 (nsS (Exa.nostat X_435) ns0))))))
      refine Go.callN (a1 := a0) (pc' := 141) (argsL := [(.ref a_455)]) (rest := [(.ref a_470)]) (ct_si1_2 l Z a0 hw n0 h_471 a_470 (by omega) X_474 F_477 F_476 a_455 cA_457 (nar .char ((usr p4 (16 : Int32)) &&& (255 : Int32))) (nar .char ((usr p4 (24 : Int32)) &&& (255 : Int32))) F_487 (own_ch (usr p4 (16 : Int32))).1 (own_ch (usr p4 (24 : Int32))).1 cs F_488 hcs) at_138 rfl (hw _ (List.mem_of_getElem? (i := 11) rfl)) (hw _ (List.mem_of_getElem? (i := 12) rfl)) (hw _ (List.mem_of_getElem? (i := 10) rfl)) (hw _ (List.mem_of_getElem? (i := 13) rfl)) (by decide) (lenOf pd__28_5bC_29V rfl) rfl 1 rfl rfl (by decide) (by decide) (by decide) (by decide) (by intro x hx; simp only [List.mem_cons, List.not_mem_nil, or_false] at hx; rcases hx with rfl; all_goals simp) rfl (fun v_489 h_490 N_491 hQ_492 hle_493 => ?_)
      obtain ⟨rfl, b_478, kb_479, g_480, g_481, K_482, X_483, F_484, F_485, A_486⟩ := hQ_492
      have szh_490 : h_471.size ≤ h_490.size := K_482.1
      have ltb_478 := nlt g_481
      refine Go.re (pc' := 141) (L' := #[.val (.int p0), .val (.int p1), .val (.int p2), .val (.int p3), .val (.int p4), .val (.int p5), .val (.int (1 : Int32)), .val (u_408), .val (.null), .val (.ref a_416), .val (.ref a_431), .val (.ref a_455), .unset, .unset, .unset, .unset, .unset]) (S' := [(.ref a_470)]) rfl rfl rfl ?_
      refine Go.astore (pc' := 143) #[.val (.int p0), .val (.int p1), .val (.int p2), .val (.int p3), .val (.int p4), .val (.int p5), .val (.int (1 : Int32)), .val (u_408), .val (.null), .val (.ref a_416), .val (.ref a_431), .val (.ref a_455), .val (.ref a_470), .unset, .unset, .unset, .unset] at_141 rfl rfl rfl ?_
      refine Go.iload (pc' := 145) at_143 rfl rfl ?_
      refine Go.iconst (pc' := 146) 5 at_145 rfl rfl ?_
      refine Go.iushr (pc' := 147) at_146 rfl ?_
      refine Go.iconst (pc' := 148) 3 at_147 rfl rfl ?_
      refine Go.iand (pc' := 149) at_148 rfl ?_
      refine Go.iloadN (pc' := 150) at_149 rfl rfl ?_
      refine Go.aload (pc' := 152) at_150 rfl rfl rfl ?_
      refine Go.aload (pc' := 154) at_152 rfl rfl rfl ?_
      have F_497 : Sta Z h_490 "java/lang/Integer$IntegerCache" "high" "I" (.int (127 : Int32)) := (sta_keep (Sta.ext E_472 (Sta.wr W_467 (Sta.wr W_463 (Sta.ext E_459 (sta_keep (Sta.ext E_433 (Sta.wr W_428 (Sta.wr W_424 (Sta.ext E_420 S_hi)))) K_443 (nsS (Exa.nostat X_435) ns0)))))) K_482 (nsS (Exa.nostat X_474) ns0))
      have F_498 : Sta Z h_490 "java/lang/Integer$IntegerCache" "cache" "[Ljava/lang/Integer;" (.ref cb) := (sta_keep (Sta.ext E_472 (Sta.wr W_467 (Sta.wr W_463 (Sta.ext E_459 (sta_keep (Sta.ext E_433 (Sta.wr W_428 (Sta.wr W_424 (Sta.ext E_420 S_ca)))) K_443 (nsS (Exa.nostat X_435) ns0)))))) K_482 (nsS (Exa.nostat X_474) ns0))
      have F_499 : RoadKit.Arr Z h_490 cb ccl (.object "java/lang/Integer") := (arr_keep (RoadKit.Arr.ext E_472 (RoadKit.Arr.other W_467 (RoadKit.Arr.other W_463 (RoadKit.Arr.ext E_459 (arr_keep (RoadKit.Arr.ext E_433 (RoadKit.Arr.other W_428 (RoadKit.Arr.other W_424 (RoadKit.Arr.ext E_420 A_ca) (nne (by omega))) (nne (by omega)))) K_443 (ninS (nne (by omega)) nin0))) (nne (by omega))) (nne (by omega)))) K_482 (ninS (nne (by omega)) nin0))
      refine Go.callS (a1 := a0) (pc' := 157) (argsL := [(.int ((usr p5 (5 : Int32)) &&& (3 : Int32))), (.int p2), (.ref a_470), (.ref a_431)]) (rest := []) (ct_pick l Z a0 hw n0 h_490 ((usr p5 (5 : Int32)) &&& (3 : Int32)) p2 a_470 (.ref a_431) rfl (by omega) cb ccl F_497 F_498 F_499 hcs_ hel hcb) at_154 (hw _ (List.mem_of_getElem? (i := 37) rfl)) (hw _ (List.mem_of_getElem? (i := 38) rfl)) (hw _ (List.mem_of_getElem? (i := 2) rfl)) (hw _ (List.mem_of_getElem? (i := 39) rfl)) (by decide) (lenOf pd__28IILjava_2flang_2fString_3bLjava_2flang_2fObject_3b_29Ljava_2flang_2fObject_3b rfl) rfl 0 rfl rfl (by decide) (by decide) (by decide) (by decide) (fun _ q => nomatch q) rfl (fun v_500 h_501 N_502 hQ_503 hle_504 => ?_)
      obtain ⟨K_496, u_494, rfl, hu_495⟩ := hQ_503
      have szh_501 : h_490.size ≤ h_501.size := K_496.1
      refine Go.re (pc' := 157) (L' := #[.val (.int p0), .val (.int p1), .val (.int p2), .val (.int p3), .val (.int p4), .val (.int p5), .val (.int (1 : Int32)), .val (u_408), .val (.null), .val (.ref a_416), .val (.ref a_431), .val (.ref a_455), .val (.ref a_470), .unset, .unset, .unset, .unset]) (S' := [u_494]) rfl rfl rfl ?_
      refine Go.astore (pc' := 159) #[.val (.int p0), .val (.int p1), .val (.int p2), .val (.int p3), .val (.int p4), .val (.int p5), .val (.int (1 : Int32)), .val (u_408), .val (.null), .val (.ref a_416), .val (.ref a_431), .val (.ref a_455), .val (.ref a_470), .val (u_494), .unset, .unset, .unset] at_157 hu_495 (XS.store1 (o := .unset) rfl (Or.inl rfl) (XT.cat1 hu_495)) rfl ?_
      refine Go.iload (pc' := 161) at_159 rfl rfl ?_
      refine Go.bipush (pc' := 163) 7 at_161 rfl rfl ?_
      refine Go.iushr (pc' := 164) at_163 rfl ?_
      refine Go.iconst (pc' := 165) 3 at_164 rfl rfl ?_
      refine Go.iand (pc' := 166) at_165 rfl ?_
      refine Go.iloadN (pc' := 167) at_166 rfl rfl ?_
      refine Go.aload (pc' := 169) at_167 rfl rfl rfl ?_
      refine Go.aload (pc' := 171) at_169 rfl hu_495 rfl ?_
      have F_508 : Sta Z h_501 "java/lang/Integer$IntegerCache" "high" "I" (.int (127 : Int32)) := (sta_keep F_497 K_496 ns0)
      have F_509 : Sta Z h_501 "java/lang/Integer$IntegerCache" "cache" "[Ljava/lang/Integer;" (.ref cb) := (sta_keep F_498 K_496 ns0)
      have F_510 : RoadKit.Arr Z h_501 cb ccl (.object "java/lang/Integer") := (arr_keep F_499 K_496 nin0)
      refine Go.callS (a1 := a0) (pc' := 174) (argsL := [(.int ((usr p5 (7 : Int32)) &&& (3 : Int32))), (.int p3), (.ref a_470), u_494]) (rest := []) (ct_pick l Z a0 hw n0 h_501 ((usr p5 (7 : Int32)) &&& (3 : Int32)) p3 a_470 u_494 hu_495 (by omega) cb ccl F_508 F_509 F_510 hcs_ hel hcb) at_171 (hw _ (List.mem_of_getElem? (i := 37) rfl)) (hw _ (List.mem_of_getElem? (i := 38) rfl)) (hw _ (List.mem_of_getElem? (i := 2) rfl)) (hw _ (List.mem_of_getElem? (i := 39) rfl)) (by decide) (lenOf pd__28IILjava_2flang_2fString_3bLjava_2flang_2fObject_3b_29Ljava_2flang_2fObject_3b rfl) rfl 0 rfl rfl (by decide) (by decide) (by decide) (by decide) (fun _ q => nomatch q) rfl (fun v_511 h_512 N_513 hQ_514 hle_515 => ?_)
      obtain ⟨K_507, u_505, rfl, hu_506⟩ := hQ_514
      have szh_512 : h_501.size ≤ h_512.size := K_507.1
      refine Go.re (pc' := 174) (L' := #[.val (.int p0), .val (.int p1), .val (.int p2), .val (.int p3), .val (.int p4), .val (.int p5), .val (.int (1 : Int32)), .val (u_408), .val (.null), .val (.ref a_416), .val (.ref a_431), .val (.ref a_455), .val (.ref a_470), .val (u_494), .unset, .unset, .unset]) (S' := [u_505]) rfl rfl rfl ?_
      refine Go.astore (pc' := 176) #[.val (.int p0), .val (.int p1), .val (.int p2), .val (.int p3), .val (.int p4), .val (.int p5), .val (.int (1 : Int32)), .val (u_408), .val (.null), .val (.ref a_416), .val (.ref a_431), .val (.ref a_455), .val (.ref a_470), .val (u_494), .val (u_505), .unset, .unset] at_174 hu_506 (XS.store1 (o := .unset) rfl (Or.inl rfl) (XT.cat1 hu_506)) rfl ?_
      refine Go.newO (pc' := 179) (a1 := a0) at_176 (hw _ (List.mem_of_getElem? (i := 40) rfl)) (hw _ (List.mem_of_getElem? (i := 41) rfl)) (hw _ (List.mem_of_getElem? (i := 42) rfl)) (by decide) (by decide) rfl (fun a_516 h_517 ha_519 E_518 X_520 Df_521 => ?_)
      have szh_517 : h_512.size ≤ h_517.size := E_518.1
      have lta_516 := nlt X_520.lt
      have qa_516 := neq ha_519
      have F_522 : Fld Z h_517 a_516 "com/example/cartulary/cartulary/StarTable$Column" "name" "Ljava/lang/String;" (.null) := Df_521 (Or.inr (hw _ (List.mem_of_getElem? (i := 53) rfl))) (ty := (.object "java/lang/String")) (by decide)
      have F_523 : Fld Z h_517 a_516 "com/example/cartulary/cartulary/StarTable$Column" "type" "Lcom/example/cartulary/cartulary/ColumnType;" (.null) := Df_521 (Or.inr (hw _ (List.mem_of_getElem? (i := 55) rfl))) (ty := (.object "com/example/cartulary/cartulary/ColumnType")) (by decide)
      have F_524 : Fld Z h_517 a_516 "com/example/cartulary/cartulary/StarTable$Column" "size" "I" (.int (0 : Int32)) := Df_521 (Or.inr (hw _ (List.mem_of_getElem? (i := 57) rfl))) (ty := .int) (by decide)
      have F_525 : Fld Z h_517 a_516 "com/example/cartulary/cartulary/StarTable$Column" "scale" "I" (.int (0 : Int32)) := Df_521 (Or.inr (hw _ (List.mem_of_getElem? (i := 59) rfl))) (ty := .int) (by decide)
      have F_526 : Fld Z h_517 a_516 "com/example/cartulary/cartulary/StarTable$Column" "absent" "Ljava/lang/Object;" (.null) := Df_521 (Or.inr (hw _ (List.mem_of_getElem? (i := 61) rfl))) (ty := (.object "java/lang/Object")) (by decide)
      have F_527 : Fld Z h_517 a_516 "com/example/cartulary/cartulary/StarTable$Column" "stored" "Z" (.int (0 : Int32)) := Df_521 (Or.inr (hw _ (List.mem_of_getElem? (i := 63) rfl))) (ty := .boolean) (by decide)
      have F_528 : Fld Z h_517 a_516 "com/example/cartulary/cartulary/StarTable$Column" "namedBy" "Lcom/example/cartulary/cartulary/StarTable$NamedBy;" (.null) := Df_521 (Or.inr (hw _ (List.mem_of_getElem? (i := 65) rfl))) (ty := (.object "com/example/cartulary/cartulary/StarTable$NamedBy")) (by decide)
      refine Go.dup (pc' := 180) at_179 rfl rfl ?_
      refine Go.aload (pc' := 182) at_180 rfl rfl rfl ?_
      refine Go.aload (pc' := 184) at_182 rfl hu_409 rfl ?_
      refine Go.iloadN (pc' := 185) at_184 rfl rfl ?_
      refine Go.iloadN (pc' := 186) at_185 rfl rfl ?_
      refine Go.aload (pc' := 188) at_186 rfl hu_495 rfl ?_
      refine Go.iload (pc' := 190) at_188 rfl rfl ?_
      refine Go.aload (pc' := 192) at_190 rfl rfl rfl ?_
      refine Go.callN (a1 := a0) (pc' := 195) (argsL := [(.ref a_431), u_408, (.int p0), (.int p1), u_494, (.int (1 : Int32)), (.null)]) (rest := [(.ref a_516)]) (ct_col l Z a0 hw n0 h_517 a_516 (by omega) a_431 u_408 u_494 (.null) p0 p1 (1 : Int32) hu_409 hu_495 rfl (by decide) (by decide) X_520 F_522 F_523 F_524 F_525 F_526 F_527 F_528) at_192 rfl (hw _ (List.mem_of_getElem? (i := 43) rfl)) (hw _ (List.mem_of_getElem? (i := 44) rfl)) (hw _ (List.mem_of_getElem? (i := 42) rfl)) (hw _ (List.mem_of_getElem? (i := 45) rfl)) (by decide) (lenOf pd__28Ljava_2flang_2fString_3bLcom_2fexample_2fcartulary_2fcartulary_2fColumnType_3bIILjava_2flang_2fObject_3bZLcom_2fexample_2fcartulary_2fcartulary_2fStarTable_24NamedBy_3b_29V rfl) rfl 1 rfl rfl (by decide) (by decide) (by decide) (by decide) (fun _ q => nomatch q) rfl (fun v_538 h_539 N_540 hQ_541 hle_542 => ?_)
      obtain ⟨rfl, K_529, X_530, F_531, F_532, F_533, F_534, F_535, F_536, F_537⟩ := hQ_541
      have szh_539 : h_517.size ≤ h_539.size := K_529.1
      refine Go.re (pc' := 195) (L' := #[.val (.int p0), .val (.int p1), .val (.int p2), .val (.int p3), .val (.int p4), .val (.int p5), .val (.int (1 : Int32)), .val (u_408), .val (.null), .val (.ref a_416), .val (.ref a_431), .val (.ref a_455), .val (.ref a_470), .val (u_494), .val (u_505), .unset, .unset]) (S' := [(.ref a_516)]) rfl rfl rfl ?_
      refine Go.astore (pc' := 197) #[.val (.int p0), .val (.int p1), .val (.int p2), .val (.int p3), .val (.int p4), .val (.int p5), .val (.int (1 : Int32)), .val (u_408), .val (.null), .val (.ref a_416), .val (.ref a_431), .val (.ref a_455), .val (.ref a_470), .val (u_494), .val (u_505), .val (.ref a_516), .unset] at_195 rfl rfl rfl ?_
      refine Go.aload (pc' := 199) at_197 rfl rfl rfl ?_
      refine Go.aload (pc' := 201) at_199 rfl hu_506 rfl ?_
      refine Go.callV (a1 := a0) (pc' := 204) (argsL := [u_505]) (rest := []) (ct_orElse l Z a0 hw n0 h_539 a_516 (by omega) a_431 u_408 u_494 (.null) p0 p1 (1 : Int32) hu_409 hu_495 rfl (by decide) (by decide) u_505 hu_506 X_530 F_531 F_532 F_533 F_534 F_535 F_536 F_537) at_201 (hw _ (List.mem_of_getElem? (i := 66) rfl)) (hw _ (List.mem_of_getElem? (i := 67) rfl)) (hw _ (List.mem_of_getElem? (i := 69) rfl)) (hw _ (List.mem_of_getElem? (i := 69) rfl)) (hw _ (List.mem_of_getElem? (i := 68) rfl)) (hw _ (List.mem_of_getElem? (i := 42) rfl)) (hw _ (List.mem_of_getElem? (i := 70) rfl)) X_530 (by decide) (lenOf pd__28Ljava_2flang_2fObject_3b_29Lcom_2fexample_2fcartulary_2fcartulary_2fStarTable_24Column_3b rfl) rfl 0 rfl rfl (by decide) (by decide) (by decide) (by decide) (fun _ q => nomatch q) rfl (fun v_553 h_554 N_555 hQ_556 hle_557 => ?_)
      obtain ⟨a_543, rfl, K_544, X_545, F_546, F_547, F_548, F_549, F_550, F_551, F_552⟩ := hQ_556
      refine Go.re (pc' := 204) (L' := #[.val (.int p0), .val (.int p1), .val (.int p2), .val (.int p3), .val (.int p4), .val (.int p5), .val (.int (1 : Int32)), .val (u_408), .val (.null), .val (.ref a_416), .val (.ref a_431), .val (.ref a_455), .val (.ref a_470), .val (u_494), .val (u_505), .val (.ref a_516), .unset]) (S' := [(.ref a_543)]) rfl rfl rfl ?_
      refine Go.astore (pc' := 206) #[.val (.int p0), .val (.int p1), .val (.int p2), .val (.int p3), .val (.int p4), .val (.int p5), .val (.int (1 : Int32)), .val (u_408), .val (.null), .val (.ref a_416), .val (.ref a_431), .val (.ref a_455), .val (.ref a_470), .val (u_494), .val (u_505), .val (.ref a_516), .val (.ref a_543)] at_204 rfl rfl rfl ?_
      refine Go.aload (pc' := 208) at_206 rfl rfl rfl ?_
      refine Go.ifnullF (pc' := 211) at_208 rfl ?_
      refine Go.aload (pc' := 213) at_211 rfl rfl rfl ?_
      refine Go.aload (pc' := 215) at_213 rfl rfl rfl ?_
      refine Go.callV (a1 := a0) (pc' := 218) (argsL := []) (rest := [(.ref a_431)]) (ct_g_name l Z a0 hw n0 h_554 a_543 (.ref a_431) rfl F_546) at_215 (hw _ (List.mem_of_getElem? (i := 73) rfl)) (hw _ (List.mem_of_getElem? (i := 74) rfl)) (hw _ (List.mem_of_getElem? (i := 76) rfl)) (hw _ (List.mem_of_getElem? (i := 76) rfl)) (hw _ (List.mem_of_getElem? (i := 75) rfl)) (hw _ (List.mem_of_getElem? (i := 42) rfl)) (hw _ (List.mem_of_getElem? (i := 77) rfl)) X_545 (by decide) (lenOf pd__28_29Ljava_2flang_2fString_3b rfl) rfl 1 rfl rfl (by decide) (by decide) (by decide) (by decide) (fun _ q => nomatch q) rfl (fun v_558 h_559 N_560 hQ_561 hle_562 => ?_)
      obtain ⟨rfl, rfl⟩ := hQ_561
      refine Go.re (pc' := 218) (L' := #[.val (.int p0), .val (.int p1), .val (.int p2), .val (.int p3), .val (.int p4), .val (.int p5), .val (.int (1 : Int32)), .val (u_408), .val (.null), .val (.ref a_416), .val (.ref a_431), .val (.ref a_455), .val (.ref a_470), .val (u_494), .val (u_505), .val (.ref a_516), .val (.ref a_543)]) (S' := [(.ref a_431), (.ref a_431)]) rfl rfl rfl ?_
      have F_568 : Exa Z h_554 a_431 "java/lang/String" := (Exa.keep (Exa.keep (Exa.ext E_518 (Exa.keep (Exa.keep (Exa.keep (Exa.ext E_472 (Exa.wr W_467 (Exa.wr W_463 (Exa.ext E_459 X_444)))) K_482) K_496) K_507)) K_529) K_544)
      refine Go.callV (a1 := a0) (pc' := 221) (argsL := [(.ref a_431)]) (rest := []) (ct_equalsS l Z a0 hw n0 h_554 a_431) at_218 (hw _ (List.mem_of_getElem? (i := 78) rfl)) (hw _ (List.mem_of_getElem? (i := 79) rfl)) (hw _ (List.mem_of_getElem? (i := 81) rfl)) (hw _ (List.mem_of_getElem? (i := 81) rfl)) (hw _ (List.mem_of_getElem? (i := 80) rfl)) (hw _ (List.mem_of_getElem? (i := 10) rfl)) (hw _ (List.mem_of_getElem? (i := 82) rfl)) F_568 (by decide) (lenOf pd__28Ljava_2flang_2fObject_3b_29Z rfl) rfl 0 rfl rfl (by decide) (by decide) (by decide) (by decide) (fun _ q => nomatch q) rfl (fun v_563 h_564 N_565 hQ_566 hle_567 => ?_)
      obtain ⟨rfl, rfl⟩ := hQ_566
      refine Go.re (pc' := 221) (L' := #[.val (.int p0), .val (.int p1), .val (.int p2), .val (.int p3), .val (.int p4), .val (.int p5), .val (.int (1 : Int32)), .val (u_408), .val (.null), .val (.ref a_416), .val (.ref a_431), .val (.ref a_455), .val (.ref a_470), .val (u_494), .val (u_505), .val (.ref a_516), .val (.ref a_543)]) (S' := [(.int (1 : Int32))]) rfl rfl rfl ?_
      refine Go.ifF (pc' := 224) at_221 (show ¬ ((1 : Int32) = (0 : Int32)) by decide) rfl ?_
      refine Go.aload (pc' := 226) at_224 rfl rfl rfl ?_
      refine Go.callV (a1 := a0) (pc' := 229) (argsL := []) (rest := []) (ct_g_type l Z a0 hw n0 h_554 a_543 u_408 hu_409 F_547) at_226 (hw _ (List.mem_of_getElem? (i := 83) rfl)) (hw _ (List.mem_of_getElem? (i := 84) rfl)) (hw _ (List.mem_of_getElem? (i := 86) rfl)) (hw _ (List.mem_of_getElem? (i := 86) rfl)) (hw _ (List.mem_of_getElem? (i := 85) rfl)) (hw _ (List.mem_of_getElem? (i := 42) rfl)) (hw _ (List.mem_of_getElem? (i := 87) rfl)) X_545 (by decide) (lenOf pd__28_29Lcom_2fexample_2fcartulary_2fcartulary_2fColumnType_3b rfl) rfl 0 rfl rfl (by decide) (by decide) (by decide) (by decide) (fun _ q => nomatch q) rfl (fun v_569 h_570 N_571 hQ_572 hle_573 => ?_)
      obtain ⟨rfl, rfl⟩ := hQ_572
      refine Go.re (pc' := 229) (L' := #[.val (.int p0), .val (.int p1), .val (.int p2), .val (.int p3), .val (.int p4), .val (.int p5), .val (.int (1 : Int32)), .val (u_408), .val (.null), .val (.ref a_416), .val (.ref a_431), .val (.ref a_455), .val (.ref a_470), .val (u_494), .val (u_505), .val (.ref a_516), .val (.ref a_543)]) (S' := [u_408]) rfl rfl rfl ?_
      refine Go.aload (pc' := 231) at_229 rfl hu_409 rfl ?_
      refine Go.acmp (pc' := 234) true at_231 hu_409 hu_409 (decide_eq_true rfl) (by decide) (by decide) ?_
      refine Go.aload (pc' := 236) at_234 rfl rfl rfl ?_
      refine Go.callV (a1 := a0) (pc' := 239) (argsL := []) (rest := []) (ct_g_size l Z a0 hw n0 h_554 a_543 p0 F_548) at_236 (hw _ (List.mem_of_getElem? (i := 88) rfl)) (hw _ (List.mem_of_getElem? (i := 89) rfl)) (hw _ (List.mem_of_getElem? (i := 91) rfl)) (hw _ (List.mem_of_getElem? (i := 91) rfl)) (hw _ (List.mem_of_getElem? (i := 90) rfl)) (hw _ (List.mem_of_getElem? (i := 42) rfl)) (hw _ (List.mem_of_getElem? (i := 92) rfl)) X_545 (by decide) (lenOf pd__28_29I rfl) rfl 0 rfl rfl (by decide) (by decide) (by decide) (by decide) (fun _ q => nomatch q) rfl (fun v_574 h_575 N_576 hQ_577 hle_578 => ?_)
      obtain ⟨rfl, rfl⟩ := hQ_577
      refine Go.re (pc' := 239) (L' := #[.val (.int p0), .val (.int p1), .val (.int p2), .val (.int p3), .val (.int p4), .val (.int p5), .val (.int (1 : Int32)), .val (u_408), .val (.null), .val (.ref a_416), .val (.ref a_431), .val (.ref a_455), .val (.ref a_470), .val (u_494), .val (u_505), .val (.ref a_516), .val (.ref a_543)]) (S' := [(.int p0)]) rfl rfl rfl ?_
      refine Go.iloadN (pc' := 240) at_239 rfl rfl ?_
      refine Go.icmpF (pc' := 243) at_240 (rfl) rfl ?_
      refine Go.aload (pc' := 245) at_243 rfl rfl rfl ?_
      refine Go.callV (a1 := a0) (pc' := 248) (argsL := []) (rest := []) (ct_g_scale l Z a0 hw n0 h_554 a_543 p1 F_549) at_245 (hw _ (List.mem_of_getElem? (i := 93) rfl)) (hw _ (List.mem_of_getElem? (i := 94) rfl)) (hw _ (List.mem_of_getElem? (i := 96) rfl)) (hw _ (List.mem_of_getElem? (i := 96) rfl)) (hw _ (List.mem_of_getElem? (i := 95) rfl)) (hw _ (List.mem_of_getElem? (i := 42) rfl)) (hw _ (List.mem_of_getElem? (i := 97) rfl)) X_545 (by decide) (lenOf pd__28_29I rfl) rfl 0 rfl rfl (by decide) (by decide) (by decide) (by decide) (fun _ q => nomatch q) rfl (fun v_579 h_580 N_581 hQ_582 hle_583 => ?_)
      obtain ⟨rfl, rfl⟩ := hQ_582
      refine Go.re (pc' := 248) (L' := #[.val (.int p0), .val (.int p1), .val (.int p2), .val (.int p3), .val (.int p4), .val (.int p5), .val (.int (1 : Int32)), .val (u_408), .val (.null), .val (.ref a_416), .val (.ref a_431), .val (.ref a_455), .val (.ref a_470), .val (u_494), .val (u_505), .val (.ref a_516), .val (.ref a_543)]) (S' := [(.int p1)]) rfl rfl rfl ?_
      refine Go.iloadN (pc' := 249) at_248 rfl rfl ?_
      refine Go.icmpF (pc' := 252) at_249 (rfl) rfl ?_
      refine Go.aload (pc' := 254) at_252 rfl rfl rfl ?_
      refine Go.callV (a1 := a0) (pc' := 257) (argsL := []) (rest := []) (ct_g_absent l Z a0 hw n0 h_554 a_543 u_505 hu_506 F_550) at_254 (hw _ (List.mem_of_getElem? (i := 98) rfl)) (hw _ (List.mem_of_getElem? (i := 99) rfl)) (hw _ (List.mem_of_getElem? (i := 101) rfl)) (hw _ (List.mem_of_getElem? (i := 101) rfl)) (hw _ (List.mem_of_getElem? (i := 100) rfl)) (hw _ (List.mem_of_getElem? (i := 42) rfl)) (hw _ (List.mem_of_getElem? (i := 102) rfl)) X_545 (by decide) (lenOf pd__28_29Ljava_2flang_2fObject_3b rfl) rfl 0 rfl rfl (by decide) (by decide) (by decide) (by decide) (fun _ q => nomatch q) rfl (fun v_584 h_585 N_586 hQ_587 hle_588 => ?_)
      obtain ⟨rfl, rfl⟩ := hQ_587
      refine Go.re (pc' := 257) (L' := #[.val (.int p0), .val (.int p1), .val (.int p2), .val (.int p3), .val (.int p4), .val (.int p5), .val (.int (1 : Int32)), .val (u_408), .val (.null), .val (.ref a_416), .val (.ref a_431), .val (.ref a_455), .val (.ref a_470), .val (u_494), .val (u_505), .val (.ref a_516), .val (.ref a_543)]) (S' := [u_505]) rfl rfl rfl ?_
      refine Go.aload (pc' := 259) at_257 rfl hu_506 rfl ?_
      refine Go.acmp (pc' := 262) true at_259 hu_506 hu_506 (decide_eq_true rfl) (by decide) (by decide) ?_
      refine Go.aload (pc' := 264) at_262 rfl rfl rfl ?_
      refine Go.callV (a1 := a0) (pc' := 267) (argsL := []) (rest := []) (ct_g_stored l Z a0 hw n0 h_554 a_543 (1 : Int32) (by decide) F_551) at_264 (hw _ (List.mem_of_getElem? (i := 103) rfl)) (hw _ (List.mem_of_getElem? (i := 104) rfl)) (hw _ (List.mem_of_getElem? (i := 106) rfl)) (hw _ (List.mem_of_getElem? (i := 106) rfl)) (hw _ (List.mem_of_getElem? (i := 105) rfl)) (hw _ (List.mem_of_getElem? (i := 42) rfl)) (hw _ (List.mem_of_getElem? (i := 107) rfl)) X_545 (by decide) (lenOf pd__28_29Z rfl) rfl 0 rfl rfl (by decide) (by decide) (by decide) (by decide) (fun _ q => nomatch q) rfl (fun v_589 h_590 N_591 hQ_592 hle_593 => ?_)
      obtain ⟨rfl, rfl⟩ := hQ_592
      refine Go.re (pc' := 267) (L' := #[.val (.int p0), .val (.int p1), .val (.int p2), .val (.int p3), .val (.int p4), .val (.int p5), .val (.int (1 : Int32)), .val (u_408), .val (.null), .val (.ref a_416), .val (.ref a_431), .val (.ref a_455), .val (.ref a_470), .val (u_494), .val (u_505), .val (.ref a_516), .val (.ref a_543)]) (S' := [(.int (1 : Int32))]) rfl rfl rfl ?_
      refine Go.iload (pc' := 269) at_267 rfl rfl ?_
      refine Go.icmpF (pc' := 272) at_269 (rfl) rfl ?_
      refine Go.aload (pc' := 274) at_272 rfl rfl rfl ?_
      refine Go.callV (a1 := a0) (pc' := 277) (argsL := []) (rest := []) (ct_g_namedBy l Z a0 hw n0 h_554 a_543 (.null) rfl F_552) at_274 (hw _ (List.mem_of_getElem? (i := 108) rfl)) (hw _ (List.mem_of_getElem? (i := 109) rfl)) (hw _ (List.mem_of_getElem? (i := 111) rfl)) (hw _ (List.mem_of_getElem? (i := 111) rfl)) (hw _ (List.mem_of_getElem? (i := 110) rfl)) (hw _ (List.mem_of_getElem? (i := 42) rfl)) (hw _ (List.mem_of_getElem? (i := 112) rfl)) X_545 (by decide) (lenOf pd__28_29Lcom_2fexample_2fcartulary_2fcartulary_2fStarTable_24NamedBy_3b rfl) rfl 0 rfl rfl (by decide) (by decide) (by decide) (by decide) (fun _ q => nomatch q) rfl (fun v_594 h_595 N_596 hQ_597 hle_598 => ?_)
      obtain ⟨rfl, rfl⟩ := hQ_597
      refine Go.re (pc' := 277) (L' := #[.val (.int p0), .val (.int p1), .val (.int p2), .val (.int p3), .val (.int p4), .val (.int p5), .val (.int (1 : Int32)), .val (u_408), .val (.null), .val (.ref a_416), .val (.ref a_431), .val (.ref a_455), .val (.ref a_470), .val (u_494), .val (u_505), .val (.ref a_516), .val (.ref a_543)]) (S' := [(.null)]) rfl rfl rfl ?_
      refine Go.aload (pc' := 279) at_277 rfl rfl rfl ?_
      refine Go.acmp (pc' := 282) true at_279 rfl rfl (decide_eq_true rfl) (by decide) (by decide) ?_
      refine Go.iconst (pc' := 283) 1 at_282 rfl rfl ?_
      refine Go.goto (pc' := 287) at_283 (by decide) (by decide) ?_
      refine Go.retN (t := .boolean) (1 : Int32) rfl (by simp) rfl [] (fun _ q => nomatch q) at_287 (by decide) (by decide) ?_
      exact rfl
    · have hc_415 : ¬ (((usr p5 (4 : Int32)) &&& (1 : Int32)) = 0) := hc_415
      refine Go.newO (pc' := 40) (a1 := a0) at_37 (hw _ (List.mem_of_getElem? (i := 113) rfl)) (hw _ (List.mem_of_getElem? (i := 114) rfl)) (hw _ (List.mem_of_getElem? (i := 115) rfl)) (by decide) (by decide) rfl (fun a_599 h_600 ha_602 E_601 X_603 Df_604 => ?_)
      have szh_600 : h0.size ≤ h_600.size := E_601.1
      have lta_599 := nlt X_603.lt
      have qa_599 := neq ha_602
      have F_605 : Fld Z h_600 a_599 "com/example/cartulary/cartulary/StarTable$NamedBy" "table" "Lcom/example/cartulary/cartulary/StarTable;" (.null) := Df_604 (Or.inr (hw _ (List.mem_of_getElem? (i := 145) rfl))) (ty := (.object "com/example/cartulary/cartulary/StarTable")) (by decide)
      have F_606 : Fld Z h_600 a_599 "com/example/cartulary/cartulary/StarTable$NamedBy" "columns" "Ljava/util/List;" (.null) := Df_604 (Or.inr (hw _ (List.mem_of_getElem? (i := 147) rfl))) (ty := (.object "java/util/List")) (by decide)
      refine Go.dup (pc' := 41) at_40 rfl rfl ?_
      refine Go.aconstNull (pc' := 42) at_41 rfl ?_
      refine Go.newO (pc' := 45) (a1 := a0) at_42 (hw _ (List.mem_of_getElem? (i := 116) rfl)) (hw _ (List.mem_of_getElem? (i := 117) rfl)) (hw _ (List.mem_of_getElem? (i := 118) rfl)) (by decide) (by decide) rfl (fun a_607 h_608 ha_610 E_609 X_611 Df_612 => ?_)
      have szh_608 : h_600.size ≤ h_608.size := E_609.1
      have lta_607 := nlt X_611.lt
      have qa_607 := neq ha_610
      have F_613 : Fld Z h_608 a_607 "java/util/AbstractList" "modCount" "I" (.int (0 : Int32)) := Df_612 (Or.inl (hw _ (List.mem_of_getElem? (i := 136) rfl))) (ty := .int) (by decide)
      have F_614 : Fld Z h_608 a_607 "java/util/ArrayList" "elementData" "[Ljava/lang/Object;" (.null) := Df_612 (Or.inl (hw _ (List.mem_of_getElem? (i := 139) rfl))) (ty := (.array (.object "java/lang/Object"))) (by decide)
      refine Go.dup (pc' := 46) at_45 rfl rfl ?_
      have F_616 : Sta Z h_608 "java/util/ArrayList" "DEFAULTCAPACITY_EMPTY_ELEMENTDATA" "[Ljava/lang/Object;" (.ref de) := (Sta.ext E_609 (Sta.ext E_601 S_de))
      refine Go.callN (a1 := a0) (pc' := 49) (argsL := []) (rest := [(.ref a_607), (.null), (.ref a_599), (.ref a_599)]) (ct_al0 l Z a0 hw n0 h_608 a_607 (by omega) X_611 F_613 F_614 de F_616) at_46 rfl (hw _ (List.mem_of_getElem? (i := 119) rfl)) (hw _ (List.mem_of_getElem? (i := 120) rfl)) (hw _ (List.mem_of_getElem? (i := 118) rfl)) (hw _ (List.mem_of_getElem? (i := 121) rfl)) (by decide) (lenOf pd__28_29V rfl) rfl 4 rfl rfl (by decide) (by decide) (by decide) (by decide) (fun _ q => nomatch q) rfl (fun v_617 h_618 N_619 hQ_620 hle_621 => ?_)
      obtain ⟨rfl, K_615⟩ := hQ_620
      have szh_618 : h_608.size ≤ h_618.size := K_615.1
      refine Go.re (pc' := 49) (L' := #[.val (.int p0), .val (.int p1), .val (.int p2), .val (.int p3), .val (.int p4), .val (.int p5), .val (.int (1 : Int32)), .val (u_408), .unset, .unset, .unset, .unset, .unset, .unset, .unset, .unset, .unset]) (S' := [(.ref a_607), (.null), (.ref a_599), (.ref a_599)]) rfl rfl rfl ?_
      have F_623 : Exa Z h_618 a_599 "com/example/cartulary/cartulary/StarTable$NamedBy" := (Exa.keep (Exa.ext E_609 X_603) K_615)
      have F_624 : Fld Z h_618 a_599 "com/example/cartulary/cartulary/StarTable$NamedBy" "table" "Lcom/example/cartulary/cartulary/StarTable;" (.null) := (Fld.keep (Fld.ext E_609 F_605) K_615 (ninS (nne (by omega)) nin0))
      have F_625 : Fld Z h_618 a_599 "com/example/cartulary/cartulary/StarTable$NamedBy" "columns" "Ljava/util/List;" (.null) := (Fld.keep (Fld.ext E_609 F_606) K_615 (ninS (nne (by omega)) nin0))
      refine Go.callN (a1 := a0) (pc' := 52) (argsL := [(.null), (.ref a_607)]) (rest := [(.ref a_599)]) (ct_nb0 l Z a0 hw n0 h_618 a_599 a_607 (by omega) F_623 F_624 F_625) at_49 rfl (hw _ (List.mem_of_getElem? (i := 140) rfl)) (hw _ (List.mem_of_getElem? (i := 141) rfl)) (hw _ (List.mem_of_getElem? (i := 115) rfl)) (hw _ (List.mem_of_getElem? (i := 142) rfl)) (by decide) (lenOf pd__28Lcom_2fexample_2fcartulary_2fcartulary_2fStarTable_3bLjava_2futil_2fList_3b_29V rfl) rfl 1 rfl rfl (by decide) (by decide) (by decide) (by decide) (fun _ q => nomatch q) rfl (fun v_626 h_627 N_628 hQ_629 hle_630 => ?_)
      obtain ⟨rfl, K_622⟩ := hQ_629
      have szh_627 : h_618.size ≤ h_627.size := K_622.1
      refine Go.re (pc' := 52) (L' := #[.val (.int p0), .val (.int p1), .val (.int p2), .val (.int p3), .val (.int p4), .val (.int p5), .val (.int (1 : Int32)), .val (u_408), .unset, .unset, .unset, .unset, .unset, .unset, .unset, .unset, .unset]) (S' := [(.ref a_599)]) rfl rfl rfl ?_
      refine Go.goto (pc' := 56) at_52 (by decide) (by decide) ?_
      refine Go.astore (pc' := 58) #[.val (.int p0), .val (.int p1), .val (.int p2), .val (.int p3), .val (.int p4), .val (.int p5), .val (.int (1 : Int32)), .val (u_408), .val (.ref a_599), .unset, .unset, .unset, .unset, .unset, .unset, .unset, .unset] at_56 rfl rfl rfl ?_
      refine Go.iconst (pc' := 59) 2 at_58 rfl rfl ?_
      refine Go.newPV (pc' := 61) (a1 := a0) 2 [(.int (0 : Int32)), (.int (0 : Int32))] at_59 (hw _ (List.mem_of_getElem? (i := 7) rfl)) (by decide) (by decide) (by decide) (by decide) (by decide) rfl rfl (fun a_631 h_632 cA_633 ha_634 E_635 A_636 => ?_)
      have szh_632 : h_627.size ≤ h_632.size := E_635.1
      have lta_631 := nlt A_636.lt
      have qa_631 := neq ha_634
      have F_637 : Arv Z h_632 a_631 cA_633 .char (2 : Int32) [(.int (0 : Int32)), (.int (0 : Int32))] (.int 0) := A_636
      refine Go.astore (pc' := 63) #[.val (.int p0), .val (.int p1), .val (.int p2), .val (.int p3), .val (.int p4), .val (.int p5), .val (.int (1 : Int32)), .val (u_408), .val (.ref a_599), .val (.ref a_631), .unset, .unset, .unset, .unset, .unset, .unset, .unset] at_61 rfl rfl rfl ?_
      refine Go.aload (pc' := 65) at_63 rfl rfl rfl ?_
      refine Go.iconst (pc' := 66) 0 at_65 rfl rfl ?_
      refine Go.iload (pc' := 68) at_66 rfl rfl ?_
      refine Go.sipush (pc' := 71) 255 at_68 rfl rfl ?_
      refine Go.iand (pc' := 72) at_71 rfl ?_
      refine Go.i2c (pc' := 73) at_72 rfl ?_
      refine Go.castoreV (pc' := 74) 0 at_73 F_637 (by decide) rfl (show 0 < 2 by decide) (by omega) rfl (fun h_638 W_639 A_640 => ?_)
      have szh_638 : h_638.size = h_632.size := Wr.size W_639
      have F_641 : Arv Z h_638 a_631 cA_633 .char (2 : Int32) [(.int (nar .char (p4 &&& (255 : Int32)))), (.int (0 : Int32))] (.int 0) := by have q := A_640; rw [(own_ch p4).2] at q; exact q
      refine Go.aload (pc' := 76) at_74 rfl rfl rfl ?_
      refine Go.iconst (pc' := 77) 1 at_76 rfl rfl ?_
      refine Go.iload (pc' := 79) at_77 rfl rfl ?_
      refine Go.bipush (pc' := 81) 8 at_79 rfl rfl ?_
      refine Go.iushr (pc' := 82) at_81 rfl ?_
      refine Go.sipush (pc' := 85) 255 at_82 rfl rfl ?_
      refine Go.iand (pc' := 86) at_85 rfl ?_
      refine Go.i2c (pc' := 87) at_86 rfl ?_
      refine Go.castoreV (pc' := 88) 1 at_87 F_641 (by decide) rfl (show 1 < 2 by decide) (by omega) rfl (fun h_642 W_643 A_644 => ?_)
      have szh_642 : h_642.size = h_638.size := Wr.size W_643
      have F_645 : Arv Z h_642 a_631 cA_633 .char (2 : Int32) [(.int (nar .char (p4 &&& (255 : Int32)))), (.int (nar .char ((usr p4 (8 : Int32)) &&& (255 : Int32))))] (.int 0) := by have q := A_644; rw [(own_ch (usr p4 (8 : Int32))).2] at q; exact q
      refine Go.newO (pc' := 91) (a1 := a0) at_88 (hw _ (List.mem_of_getElem? (i := 8) rfl)) (hw _ (List.mem_of_getElem? (i := 9) rfl)) (hw _ (List.mem_of_getElem? (i := 10) rfl)) (by decide) (by decide) rfl (fun a_646 h_647 ha_649 E_648 X_650 Df_651 => ?_)
      have szh_647 : h_642.size ≤ h_647.size := E_648.1
      have lta_646 := nlt X_650.lt
      have qa_646 := neq ha_649
      have F_652 : Fld Z h_647 a_646 "java/lang/String" "coder" "B" (.int (0 : Int32)) := Df_651 (Or.inr (hw _ (List.mem_of_getElem? (i := 34) rfl))) (ty := .byte) (by decide)
      have F_653 : Fld Z h_647 a_646 "java/lang/String" "value" "[B" (.null) := Df_651 (Or.inr (hw _ (List.mem_of_getElem? (i := 36) rfl))) (ty := (.array .byte)) (by decide)
      refine Go.dup (pc' := 92) at_91 rfl rfl ?_
      refine Go.aload (pc' := 94) at_92 rfl rfl rfl ?_
      have F_663 : Arv Z h_647 a_631 cA_633 .char (2 : Int32) [(.int (nar .char (p4 &&& (255 : Int32)))), (.int (nar .char ((usr p4 (8 : Int32)) &&& (255 : Int32))))] (.int 0) := (Arv.ext F_645 E_648)
      have F_664 : Sta Z h_647 "java/lang/String" "COMPACT_STRINGS" "Z" (.int cs) := (Sta.ext E_648 (Sta.wr W_643 (Sta.wr W_639 (Sta.ext E_635 (sta_keep (sta_keep (Sta.ext E_609 (Sta.ext E_601 S_cs)) K_615 (nsS (Exa.nostat X_611) ns0)) K_622 (nsS (Exa.nostat F_623) ns0))))))
      refine Go.callN (a1 := a0) (pc' := 97) (argsL := [(.ref a_631)]) (rest := [(.ref a_646)]) (ct_si1_2 l Z a0 hw n0 h_647 a_646 (by omega) X_650 F_653 F_652 a_631 cA_633 (nar .char (p4 &&& (255 : Int32))) (nar .char ((usr p4 (8 : Int32)) &&& (255 : Int32))) F_663 (own_ch p4).1 (own_ch (usr p4 (8 : Int32))).1 cs F_664 hcs) at_94 rfl (hw _ (List.mem_of_getElem? (i := 11) rfl)) (hw _ (List.mem_of_getElem? (i := 12) rfl)) (hw _ (List.mem_of_getElem? (i := 10) rfl)) (hw _ (List.mem_of_getElem? (i := 13) rfl)) (by decide) (lenOf pd__28_5bC_29V rfl) rfl 1 rfl rfl (by decide) (by decide) (by decide) (by decide) (by intro x hx; simp only [List.mem_cons, List.not_mem_nil, or_false] at hx; rcases hx with rfl; all_goals simp) rfl (fun v_665 h_666 N_667 hQ_668 hle_669 => ?_)
      obtain ⟨rfl, b_654, kb_655, g_656, g_657, K_658, X_659, F_660, F_661, A_662⟩ := hQ_668
      have szh_666 : h_647.size ≤ h_666.size := K_658.1
      have ltb_654 := nlt g_657
      refine Go.re (pc' := 97) (L' := #[.val (.int p0), .val (.int p1), .val (.int p2), .val (.int p3), .val (.int p4), .val (.int p5), .val (.int (1 : Int32)), .val (u_408), .val (.ref a_599), .val (.ref a_631), .unset, .unset, .unset, .unset, .unset, .unset, .unset]) (S' := [(.ref a_646)]) rfl rfl rfl ?_
      refine Go.astore (pc' := 99) #[.val (.int p0), .val (.int p1), .val (.int p2), .val (.int p3), .val (.int p4), .val (.int p5), .val (.int (1 : Int32)), .val (u_408), .val (.ref a_599), .val (.ref a_631), .val (.ref a_646), .unset, .unset, .unset, .unset, .unset, .unset] at_97 rfl rfl rfl ?_
      refine Go.iconst (pc' := 100) 2 at_99 rfl rfl ?_
      refine Go.newPV (pc' := 102) (a1 := a0) 2 [(.int (0 : Int32)), (.int (0 : Int32))] at_100 (hw _ (List.mem_of_getElem? (i := 7) rfl)) (by decide) (by decide) (by decide) (by decide) (by decide) rfl rfl (fun a_670 h_671 cA_672 ha_673 E_674 A_675 => ?_)
      have szh_671 : h_666.size ≤ h_671.size := E_674.1
      have lta_670 := nlt A_675.lt
      have qa_670 := neq ha_673
      have F_676 : Arv Z h_671 a_670 cA_672 .char (2 : Int32) [(.int (0 : Int32)), (.int (0 : Int32))] (.int 0) := A_675
      refine Go.astore (pc' := 104) #[.val (.int p0), .val (.int p1), .val (.int p2), .val (.int p3), .val (.int p4), .val (.int p5), .val (.int (1 : Int32)), .val (u_408), .val (.ref a_599), .val (.ref a_631), .val (.ref a_646), .val (.ref a_670), .unset, .unset, .unset, .unset, .unset] at_102 rfl rfl rfl ?_
      refine Go.aload (pc' := 106) at_104 rfl rfl rfl ?_
      refine Go.iconst (pc' := 107) 0 at_106 rfl rfl ?_
      refine Go.iload (pc' := 109) at_107 rfl rfl ?_
      refine Go.bipush (pc' := 111) 16 at_109 rfl rfl ?_
      refine Go.iushr (pc' := 112) at_111 rfl ?_
      refine Go.sipush (pc' := 115) 255 at_112 rfl rfl ?_
      refine Go.iand (pc' := 116) at_115 rfl ?_
      refine Go.i2c (pc' := 117) at_116 rfl ?_
      refine Go.castoreV (pc' := 118) 0 at_117 F_676 (by decide) rfl (show 0 < 2 by decide) (by omega) rfl (fun h_677 W_678 A_679 => ?_)
      have szh_677 : h_677.size = h_671.size := Wr.size W_678
      have F_680 : Arv Z h_677 a_670 cA_672 .char (2 : Int32) [(.int (nar .char ((usr p4 (16 : Int32)) &&& (255 : Int32)))), (.int (0 : Int32))] (.int 0) := by have q := A_679; rw [(own_ch (usr p4 (16 : Int32))).2] at q; exact q
      refine Go.aload (pc' := 120) at_118 rfl rfl rfl ?_
      refine Go.iconst (pc' := 121) 1 at_120 rfl rfl ?_
      refine Go.iload (pc' := 123) at_121 rfl rfl ?_
      refine Go.bipush (pc' := 125) 24 at_123 rfl rfl ?_
      refine Go.iushr (pc' := 126) at_125 rfl ?_
      refine Go.sipush (pc' := 129) 255 at_126 rfl rfl ?_
      refine Go.iand (pc' := 130) at_129 rfl ?_
      refine Go.i2c (pc' := 131) at_130 rfl ?_
      refine Go.castoreV (pc' := 132) 1 at_131 F_680 (by decide) rfl (show 1 < 2 by decide) (by omega) rfl (fun h_681 W_682 A_683 => ?_)
      have szh_681 : h_681.size = h_677.size := Wr.size W_682
      have F_684 : Arv Z h_681 a_670 cA_672 .char (2 : Int32) [(.int (nar .char ((usr p4 (16 : Int32)) &&& (255 : Int32)))), (.int (nar .char ((usr p4 (24 : Int32)) &&& (255 : Int32))))] (.int 0) := by have q := A_683; rw [(own_ch (usr p4 (24 : Int32))).2] at q; exact q
      refine Go.newO (pc' := 135) (a1 := a0) at_132 (hw _ (List.mem_of_getElem? (i := 8) rfl)) (hw _ (List.mem_of_getElem? (i := 9) rfl)) (hw _ (List.mem_of_getElem? (i := 10) rfl)) (by decide) (by decide) rfl (fun a_685 h_686 ha_688 E_687 X_689 Df_690 => ?_)
      have szh_686 : h_681.size ≤ h_686.size := E_687.1
      have lta_685 := nlt X_689.lt
      have qa_685 := neq ha_688
      have F_691 : Fld Z h_686 a_685 "java/lang/String" "coder" "B" (.int (0 : Int32)) := Df_690 (Or.inr (hw _ (List.mem_of_getElem? (i := 34) rfl))) (ty := .byte) (by decide)
      have F_692 : Fld Z h_686 a_685 "java/lang/String" "value" "[B" (.null) := Df_690 (Or.inr (hw _ (List.mem_of_getElem? (i := 36) rfl))) (ty := (.array .byte)) (by decide)
      refine Go.dup (pc' := 136) at_135 rfl rfl ?_
      refine Go.aload (pc' := 138) at_136 rfl rfl rfl ?_
      have F_702 : Arv Z h_686 a_670 cA_672 .char (2 : Int32) [(.int (nar .char ((usr p4 (16 : Int32)) &&& (255 : Int32)))), (.int (nar .char ((usr p4 (24 : Int32)) &&& (255 : Int32))))] (.int 0) := (Arv.ext F_684 E_687)
      have F_703 : Sta Z h_686 "java/lang/String" "COMPACT_STRINGS" "Z" (.int cs) := (Sta.ext E_687 (Sta.wr W_682 (Sta.wr W_678 (Sta.ext E_674 (sta_keep F_664 K_658 (nsS (Exa.nostat X_650) ns0))))))
      refine Go.callN (a1 := a0) (pc' := 141) (argsL := [(.ref a_670)]) (rest := [(.ref a_685)]) (ct_si1_2 l Z a0 hw n0 h_686 a_685 (by omega) X_689 F_692 F_691 a_670 cA_672 (nar .char ((usr p4 (16 : Int32)) &&& (255 : Int32))) (nar .char ((usr p4 (24 : Int32)) &&& (255 : Int32))) F_702 (own_ch (usr p4 (16 : Int32))).1 (own_ch (usr p4 (24 : Int32))).1 cs F_703 hcs) at_138 rfl (hw _ (List.mem_of_getElem? (i := 11) rfl)) (hw _ (List.mem_of_getElem? (i := 12) rfl)) (hw _ (List.mem_of_getElem? (i := 10) rfl)) (hw _ (List.mem_of_getElem? (i := 13) rfl)) (by decide) (lenOf pd__28_5bC_29V rfl) rfl 1 rfl rfl (by decide) (by decide) (by decide) (by decide) (by intro x hx; simp only [List.mem_cons, List.not_mem_nil, or_false] at hx; rcases hx with rfl; all_goals simp) rfl (fun v_704 h_705 N_706 hQ_707 hle_708 => ?_)
      obtain ⟨rfl, b_693, kb_694, g_695, g_696, K_697, X_698, F_699, F_700, A_701⟩ := hQ_707
      have szh_705 : h_686.size ≤ h_705.size := K_697.1
      have ltb_693 := nlt g_696
      refine Go.re (pc' := 141) (L' := #[.val (.int p0), .val (.int p1), .val (.int p2), .val (.int p3), .val (.int p4), .val (.int p5), .val (.int (1 : Int32)), .val (u_408), .val (.ref a_599), .val (.ref a_631), .val (.ref a_646), .val (.ref a_670), .unset, .unset, .unset, .unset, .unset]) (S' := [(.ref a_685)]) rfl rfl rfl ?_
      refine Go.astore (pc' := 143) #[.val (.int p0), .val (.int p1), .val (.int p2), .val (.int p3), .val (.int p4), .val (.int p5), .val (.int (1 : Int32)), .val (u_408), .val (.ref a_599), .val (.ref a_631), .val (.ref a_646), .val (.ref a_670), .val (.ref a_685), .unset, .unset, .unset, .unset] at_141 rfl rfl rfl ?_
      refine Go.iload (pc' := 145) at_143 rfl rfl ?_
      refine Go.iconst (pc' := 146) 5 at_145 rfl rfl ?_
      refine Go.iushr (pc' := 147) at_146 rfl ?_
      refine Go.iconst (pc' := 148) 3 at_147 rfl rfl ?_
      refine Go.iand (pc' := 149) at_148 rfl ?_
      refine Go.iloadN (pc' := 150) at_149 rfl rfl ?_
      refine Go.aload (pc' := 152) at_150 rfl rfl rfl ?_
      refine Go.aload (pc' := 154) at_152 rfl rfl rfl ?_
      have F_712 : Sta Z h_705 "java/lang/Integer$IntegerCache" "high" "I" (.int (127 : Int32)) := (sta_keep (Sta.ext E_687 (Sta.wr W_682 (Sta.wr W_678 (Sta.ext E_674 (sta_keep (Sta.ext E_648 (Sta.wr W_643 (Sta.wr W_639 (Sta.ext E_635 (sta_keep (sta_keep (Sta.ext E_609 (Sta.ext E_601 S_hi)) K_615 (nsS (Exa.nostat X_611) ns0)) K_622 (nsS (Exa.nostat F_623) ns0)))))) K_658 (nsS (Exa.nostat X_650) ns0)))))) K_697 (nsS (Exa.nostat X_689) ns0))
      have F_713 : Sta Z h_705 "java/lang/Integer$IntegerCache" "cache" "[Ljava/lang/Integer;" (.ref cb) := (sta_keep (Sta.ext E_687 (Sta.wr W_682 (Sta.wr W_678 (Sta.ext E_674 (sta_keep (Sta.ext E_648 (Sta.wr W_643 (Sta.wr W_639 (Sta.ext E_635 (sta_keep (sta_keep (Sta.ext E_609 (Sta.ext E_601 S_ca)) K_615 (nsS (Exa.nostat X_611) ns0)) K_622 (nsS (Exa.nostat F_623) ns0)))))) K_658 (nsS (Exa.nostat X_650) ns0)))))) K_697 (nsS (Exa.nostat X_689) ns0))
      have F_714 : RoadKit.Arr Z h_705 cb ccl (.object "java/lang/Integer") := (arr_keep (RoadKit.Arr.ext E_687 (RoadKit.Arr.other W_682 (RoadKit.Arr.other W_678 (RoadKit.Arr.ext E_674 (arr_keep (RoadKit.Arr.ext E_648 (RoadKit.Arr.other W_643 (RoadKit.Arr.other W_639 (RoadKit.Arr.ext E_635 (arr_keep (arr_keep (RoadKit.Arr.ext E_609 (RoadKit.Arr.ext E_601 A_ca)) K_615 (ninS (nne (by omega)) nin0)) K_622 (ninS (nne (by omega)) nin0))) (nne (by omega))) (nne (by omega)))) K_658 (ninS (nne (by omega)) nin0))) (nne (by omega))) (nne (by omega)))) K_697 (ninS (nne (by omega)) nin0))
      refine Go.callS (a1 := a0) (pc' := 157) (argsL := [(.int ((usr p5 (5 : Int32)) &&& (3 : Int32))), (.int p2), (.ref a_685), (.ref a_646)]) (rest := []) (ct_pick l Z a0 hw n0 h_705 ((usr p5 (5 : Int32)) &&& (3 : Int32)) p2 a_685 (.ref a_646) rfl (by omega) cb ccl F_712 F_713 F_714 hcs_ hel hcb) at_154 (hw _ (List.mem_of_getElem? (i := 37) rfl)) (hw _ (List.mem_of_getElem? (i := 38) rfl)) (hw _ (List.mem_of_getElem? (i := 2) rfl)) (hw _ (List.mem_of_getElem? (i := 39) rfl)) (by decide) (lenOf pd__28IILjava_2flang_2fString_3bLjava_2flang_2fObject_3b_29Ljava_2flang_2fObject_3b rfl) rfl 0 rfl rfl (by decide) (by decide) (by decide) (by decide) (fun _ q => nomatch q) rfl (fun v_715 h_716 N_717 hQ_718 hle_719 => ?_)
      obtain ⟨K_711, u_709, rfl, hu_710⟩ := hQ_718
      have szh_716 : h_705.size ≤ h_716.size := K_711.1
      refine Go.re (pc' := 157) (L' := #[.val (.int p0), .val (.int p1), .val (.int p2), .val (.int p3), .val (.int p4), .val (.int p5), .val (.int (1 : Int32)), .val (u_408), .val (.ref a_599), .val (.ref a_631), .val (.ref a_646), .val (.ref a_670), .val (.ref a_685), .unset, .unset, .unset, .unset]) (S' := [u_709]) rfl rfl rfl ?_
      refine Go.astore (pc' := 159) #[.val (.int p0), .val (.int p1), .val (.int p2), .val (.int p3), .val (.int p4), .val (.int p5), .val (.int (1 : Int32)), .val (u_408), .val (.ref a_599), .val (.ref a_631), .val (.ref a_646), .val (.ref a_670), .val (.ref a_685), .val (u_709), .unset, .unset, .unset] at_157 hu_710 (XS.store1 (o := .unset) rfl (Or.inl rfl) (XT.cat1 hu_710)) rfl ?_
      refine Go.iload (pc' := 161) at_159 rfl rfl ?_
      refine Go.bipush (pc' := 163) 7 at_161 rfl rfl ?_
      refine Go.iushr (pc' := 164) at_163 rfl ?_
      refine Go.iconst (pc' := 165) 3 at_164 rfl rfl ?_
      refine Go.iand (pc' := 166) at_165 rfl ?_
      refine Go.iloadN (pc' := 167) at_166 rfl rfl ?_
      refine Go.aload (pc' := 169) at_167 rfl rfl rfl ?_
      refine Go.aload (pc' := 171) at_169 rfl hu_710 rfl ?_
      have F_723 : Sta Z h_716 "java/lang/Integer$IntegerCache" "high" "I" (.int (127 : Int32)) := (sta_keep F_712 K_711 ns0)
      have F_724 : Sta Z h_716 "java/lang/Integer$IntegerCache" "cache" "[Ljava/lang/Integer;" (.ref cb) := (sta_keep F_713 K_711 ns0)
      have F_725 : RoadKit.Arr Z h_716 cb ccl (.object "java/lang/Integer") := (arr_keep F_714 K_711 nin0)
      refine Go.callS (a1 := a0) (pc' := 174) (argsL := [(.int ((usr p5 (7 : Int32)) &&& (3 : Int32))), (.int p3), (.ref a_685), u_709]) (rest := []) (ct_pick l Z a0 hw n0 h_716 ((usr p5 (7 : Int32)) &&& (3 : Int32)) p3 a_685 u_709 hu_710 (by omega) cb ccl F_723 F_724 F_725 hcs_ hel hcb) at_171 (hw _ (List.mem_of_getElem? (i := 37) rfl)) (hw _ (List.mem_of_getElem? (i := 38) rfl)) (hw _ (List.mem_of_getElem? (i := 2) rfl)) (hw _ (List.mem_of_getElem? (i := 39) rfl)) (by decide) (lenOf pd__28IILjava_2flang_2fString_3bLjava_2flang_2fObject_3b_29Ljava_2flang_2fObject_3b rfl) rfl 0 rfl rfl (by decide) (by decide) (by decide) (by decide) (fun _ q => nomatch q) rfl (fun v_726 h_727 N_728 hQ_729 hle_730 => ?_)
      obtain ⟨K_722, u_720, rfl, hu_721⟩ := hQ_729
      have szh_727 : h_716.size ≤ h_727.size := K_722.1
      refine Go.re (pc' := 174) (L' := #[.val (.int p0), .val (.int p1), .val (.int p2), .val (.int p3), .val (.int p4), .val (.int p5), .val (.int (1 : Int32)), .val (u_408), .val (.ref a_599), .val (.ref a_631), .val (.ref a_646), .val (.ref a_670), .val (.ref a_685), .val (u_709), .unset, .unset, .unset]) (S' := [u_720]) rfl rfl rfl ?_
      refine Go.astore (pc' := 176) #[.val (.int p0), .val (.int p1), .val (.int p2), .val (.int p3), .val (.int p4), .val (.int p5), .val (.int (1 : Int32)), .val (u_408), .val (.ref a_599), .val (.ref a_631), .val (.ref a_646), .val (.ref a_670), .val (.ref a_685), .val (u_709), .val (u_720), .unset, .unset] at_174 hu_721 (XS.store1 (o := .unset) rfl (Or.inl rfl) (XT.cat1 hu_721)) rfl ?_
      refine Go.newO (pc' := 179) (a1 := a0) at_176 (hw _ (List.mem_of_getElem? (i := 40) rfl)) (hw _ (List.mem_of_getElem? (i := 41) rfl)) (hw _ (List.mem_of_getElem? (i := 42) rfl)) (by decide) (by decide) rfl (fun a_731 h_732 ha_734 E_733 X_735 Df_736 => ?_)
      have szh_732 : h_727.size ≤ h_732.size := E_733.1
      have lta_731 := nlt X_735.lt
      have qa_731 := neq ha_734
      have F_737 : Fld Z h_732 a_731 "com/example/cartulary/cartulary/StarTable$Column" "name" "Ljava/lang/String;" (.null) := Df_736 (Or.inr (hw _ (List.mem_of_getElem? (i := 53) rfl))) (ty := (.object "java/lang/String")) (by decide)
      have F_738 : Fld Z h_732 a_731 "com/example/cartulary/cartulary/StarTable$Column" "type" "Lcom/example/cartulary/cartulary/ColumnType;" (.null) := Df_736 (Or.inr (hw _ (List.mem_of_getElem? (i := 55) rfl))) (ty := (.object "com/example/cartulary/cartulary/ColumnType")) (by decide)
      have F_739 : Fld Z h_732 a_731 "com/example/cartulary/cartulary/StarTable$Column" "size" "I" (.int (0 : Int32)) := Df_736 (Or.inr (hw _ (List.mem_of_getElem? (i := 57) rfl))) (ty := .int) (by decide)
      have F_740 : Fld Z h_732 a_731 "com/example/cartulary/cartulary/StarTable$Column" "scale" "I" (.int (0 : Int32)) := Df_736 (Or.inr (hw _ (List.mem_of_getElem? (i := 59) rfl))) (ty := .int) (by decide)
      have F_741 : Fld Z h_732 a_731 "com/example/cartulary/cartulary/StarTable$Column" "absent" "Ljava/lang/Object;" (.null) := Df_736 (Or.inr (hw _ (List.mem_of_getElem? (i := 61) rfl))) (ty := (.object "java/lang/Object")) (by decide)
      have F_742 : Fld Z h_732 a_731 "com/example/cartulary/cartulary/StarTable$Column" "stored" "Z" (.int (0 : Int32)) := Df_736 (Or.inr (hw _ (List.mem_of_getElem? (i := 63) rfl))) (ty := .boolean) (by decide)
      have F_743 : Fld Z h_732 a_731 "com/example/cartulary/cartulary/StarTable$Column" "namedBy" "Lcom/example/cartulary/cartulary/StarTable$NamedBy;" (.null) := Df_736 (Or.inr (hw _ (List.mem_of_getElem? (i := 65) rfl))) (ty := (.object "com/example/cartulary/cartulary/StarTable$NamedBy")) (by decide)
      refine Go.dup (pc' := 180) at_179 rfl rfl ?_
      refine Go.aload (pc' := 182) at_180 rfl rfl rfl ?_
      refine Go.aload (pc' := 184) at_182 rfl hu_409 rfl ?_
      refine Go.iloadN (pc' := 185) at_184 rfl rfl ?_
      refine Go.iloadN (pc' := 186) at_185 rfl rfl ?_
      refine Go.aload (pc' := 188) at_186 rfl hu_710 rfl ?_
      refine Go.iload (pc' := 190) at_188 rfl rfl ?_
      refine Go.aload (pc' := 192) at_190 rfl rfl rfl ?_
      refine Go.callN (a1 := a0) (pc' := 195) (argsL := [(.ref a_646), u_408, (.int p0), (.int p1), u_709, (.int (1 : Int32)), (.ref a_599)]) (rest := [(.ref a_731)]) (ct_col l Z a0 hw n0 h_732 a_731 (by omega) a_646 u_408 u_709 (.ref a_599) p0 p1 (1 : Int32) hu_409 hu_710 rfl (by decide) (by decide) X_735 F_737 F_738 F_739 F_740 F_741 F_742 F_743) at_192 rfl (hw _ (List.mem_of_getElem? (i := 43) rfl)) (hw _ (List.mem_of_getElem? (i := 44) rfl)) (hw _ (List.mem_of_getElem? (i := 42) rfl)) (hw _ (List.mem_of_getElem? (i := 45) rfl)) (by decide) (lenOf pd__28Ljava_2flang_2fString_3bLcom_2fexample_2fcartulary_2fcartulary_2fColumnType_3bIILjava_2flang_2fObject_3bZLcom_2fexample_2fcartulary_2fcartulary_2fStarTable_24NamedBy_3b_29V rfl) rfl 1 rfl rfl (by decide) (by decide) (by decide) (by decide) (fun _ q => nomatch q) rfl (fun v_753 h_754 N_755 hQ_756 hle_757 => ?_)
      obtain ⟨rfl, K_744, X_745, F_746, F_747, F_748, F_749, F_750, F_751, F_752⟩ := hQ_756
      have szh_754 : h_732.size ≤ h_754.size := K_744.1
      refine Go.re (pc' := 195) (L' := #[.val (.int p0), .val (.int p1), .val (.int p2), .val (.int p3), .val (.int p4), .val (.int p5), .val (.int (1 : Int32)), .val (u_408), .val (.ref a_599), .val (.ref a_631), .val (.ref a_646), .val (.ref a_670), .val (.ref a_685), .val (u_709), .val (u_720), .unset, .unset]) (S' := [(.ref a_731)]) rfl rfl rfl ?_
      refine Go.astore (pc' := 197) #[.val (.int p0), .val (.int p1), .val (.int p2), .val (.int p3), .val (.int p4), .val (.int p5), .val (.int (1 : Int32)), .val (u_408), .val (.ref a_599), .val (.ref a_631), .val (.ref a_646), .val (.ref a_670), .val (.ref a_685), .val (u_709), .val (u_720), .val (.ref a_731), .unset] at_195 rfl rfl rfl ?_
      refine Go.aload (pc' := 199) at_197 rfl rfl rfl ?_
      refine Go.aload (pc' := 201) at_199 rfl hu_721 rfl ?_
      refine Go.callV (a1 := a0) (pc' := 204) (argsL := [u_720]) (rest := []) (ct_orElse l Z a0 hw n0 h_754 a_731 (by omega) a_646 u_408 u_709 (.ref a_599) p0 p1 (1 : Int32) hu_409 hu_710 rfl (by decide) (by decide) u_720 hu_721 X_745 F_746 F_747 F_748 F_749 F_750 F_751 F_752) at_201 (hw _ (List.mem_of_getElem? (i := 66) rfl)) (hw _ (List.mem_of_getElem? (i := 67) rfl)) (hw _ (List.mem_of_getElem? (i := 69) rfl)) (hw _ (List.mem_of_getElem? (i := 69) rfl)) (hw _ (List.mem_of_getElem? (i := 68) rfl)) (hw _ (List.mem_of_getElem? (i := 42) rfl)) (hw _ (List.mem_of_getElem? (i := 70) rfl)) X_745 (by decide) (lenOf pd__28Ljava_2flang_2fObject_3b_29Lcom_2fexample_2fcartulary_2fcartulary_2fStarTable_24Column_3b rfl) rfl 0 rfl rfl (by decide) (by decide) (by decide) (by decide) (fun _ q => nomatch q) rfl (fun v_768 h_769 N_770 hQ_771 hle_772 => ?_)
      obtain ⟨a_758, rfl, K_759, X_760, F_761, F_762, F_763, F_764, F_765, F_766, F_767⟩ := hQ_771
      refine Go.re (pc' := 204) (L' := #[.val (.int p0), .val (.int p1), .val (.int p2), .val (.int p3), .val (.int p4), .val (.int p5), .val (.int (1 : Int32)), .val (u_408), .val (.ref a_599), .val (.ref a_631), .val (.ref a_646), .val (.ref a_670), .val (.ref a_685), .val (u_709), .val (u_720), .val (.ref a_731), .unset]) (S' := [(.ref a_758)]) rfl rfl rfl ?_
      refine Go.astore (pc' := 206) #[.val (.int p0), .val (.int p1), .val (.int p2), .val (.int p3), .val (.int p4), .val (.int p5), .val (.int (1 : Int32)), .val (u_408), .val (.ref a_599), .val (.ref a_631), .val (.ref a_646), .val (.ref a_670), .val (.ref a_685), .val (u_709), .val (u_720), .val (.ref a_731), .val (.ref a_758)] at_204 rfl rfl rfl ?_
      refine Go.aload (pc' := 208) at_206 rfl rfl rfl ?_
      refine Go.ifnullF (pc' := 211) at_208 rfl ?_
      refine Go.aload (pc' := 213) at_211 rfl rfl rfl ?_
      refine Go.aload (pc' := 215) at_213 rfl rfl rfl ?_
      refine Go.callV (a1 := a0) (pc' := 218) (argsL := []) (rest := [(.ref a_646)]) (ct_g_name l Z a0 hw n0 h_769 a_758 (.ref a_646) rfl F_761) at_215 (hw _ (List.mem_of_getElem? (i := 73) rfl)) (hw _ (List.mem_of_getElem? (i := 74) rfl)) (hw _ (List.mem_of_getElem? (i := 76) rfl)) (hw _ (List.mem_of_getElem? (i := 76) rfl)) (hw _ (List.mem_of_getElem? (i := 75) rfl)) (hw _ (List.mem_of_getElem? (i := 42) rfl)) (hw _ (List.mem_of_getElem? (i := 77) rfl)) X_760 (by decide) (lenOf pd__28_29Ljava_2flang_2fString_3b rfl) rfl 1 rfl rfl (by decide) (by decide) (by decide) (by decide) (fun _ q => nomatch q) rfl (fun v_773 h_774 N_775 hQ_776 hle_777 => ?_)
      obtain ⟨rfl, rfl⟩ := hQ_776
      refine Go.re (pc' := 218) (L' := #[.val (.int p0), .val (.int p1), .val (.int p2), .val (.int p3), .val (.int p4), .val (.int p5), .val (.int (1 : Int32)), .val (u_408), .val (.ref a_599), .val (.ref a_631), .val (.ref a_646), .val (.ref a_670), .val (.ref a_685), .val (u_709), .val (u_720), .val (.ref a_731), .val (.ref a_758)]) (S' := [(.ref a_646), (.ref a_646)]) rfl rfl rfl ?_
      have F_783 : Exa Z h_769 a_646 "java/lang/String" := (Exa.keep (Exa.keep (Exa.ext E_733 (Exa.keep (Exa.keep (Exa.keep (Exa.ext E_687 (Exa.wr W_682 (Exa.wr W_678 (Exa.ext E_674 X_659)))) K_697) K_711) K_722)) K_744) K_759)
      refine Go.callV (a1 := a0) (pc' := 221) (argsL := [(.ref a_646)]) (rest := []) (ct_equalsS l Z a0 hw n0 h_769 a_646) at_218 (hw _ (List.mem_of_getElem? (i := 78) rfl)) (hw _ (List.mem_of_getElem? (i := 79) rfl)) (hw _ (List.mem_of_getElem? (i := 81) rfl)) (hw _ (List.mem_of_getElem? (i := 81) rfl)) (hw _ (List.mem_of_getElem? (i := 80) rfl)) (hw _ (List.mem_of_getElem? (i := 10) rfl)) (hw _ (List.mem_of_getElem? (i := 82) rfl)) F_783 (by decide) (lenOf pd__28Ljava_2flang_2fObject_3b_29Z rfl) rfl 0 rfl rfl (by decide) (by decide) (by decide) (by decide) (fun _ q => nomatch q) rfl (fun v_778 h_779 N_780 hQ_781 hle_782 => ?_)
      obtain ⟨rfl, rfl⟩ := hQ_781
      refine Go.re (pc' := 221) (L' := #[.val (.int p0), .val (.int p1), .val (.int p2), .val (.int p3), .val (.int p4), .val (.int p5), .val (.int (1 : Int32)), .val (u_408), .val (.ref a_599), .val (.ref a_631), .val (.ref a_646), .val (.ref a_670), .val (.ref a_685), .val (u_709), .val (u_720), .val (.ref a_731), .val (.ref a_758)]) (S' := [(.int (1 : Int32))]) rfl rfl rfl ?_
      refine Go.ifF (pc' := 224) at_221 (show ¬ ((1 : Int32) = (0 : Int32)) by decide) rfl ?_
      refine Go.aload (pc' := 226) at_224 rfl rfl rfl ?_
      refine Go.callV (a1 := a0) (pc' := 229) (argsL := []) (rest := []) (ct_g_type l Z a0 hw n0 h_769 a_758 u_408 hu_409 F_762) at_226 (hw _ (List.mem_of_getElem? (i := 83) rfl)) (hw _ (List.mem_of_getElem? (i := 84) rfl)) (hw _ (List.mem_of_getElem? (i := 86) rfl)) (hw _ (List.mem_of_getElem? (i := 86) rfl)) (hw _ (List.mem_of_getElem? (i := 85) rfl)) (hw _ (List.mem_of_getElem? (i := 42) rfl)) (hw _ (List.mem_of_getElem? (i := 87) rfl)) X_760 (by decide) (lenOf pd__28_29Lcom_2fexample_2fcartulary_2fcartulary_2fColumnType_3b rfl) rfl 0 rfl rfl (by decide) (by decide) (by decide) (by decide) (fun _ q => nomatch q) rfl (fun v_784 h_785 N_786 hQ_787 hle_788 => ?_)
      obtain ⟨rfl, rfl⟩ := hQ_787
      refine Go.re (pc' := 229) (L' := #[.val (.int p0), .val (.int p1), .val (.int p2), .val (.int p3), .val (.int p4), .val (.int p5), .val (.int (1 : Int32)), .val (u_408), .val (.ref a_599), .val (.ref a_631), .val (.ref a_646), .val (.ref a_670), .val (.ref a_685), .val (u_709), .val (u_720), .val (.ref a_731), .val (.ref a_758)]) (S' := [u_408]) rfl rfl rfl ?_
      refine Go.aload (pc' := 231) at_229 rfl hu_409 rfl ?_
      refine Go.acmp (pc' := 234) true at_231 hu_409 hu_409 (decide_eq_true rfl) (by decide) (by decide) ?_
      refine Go.aload (pc' := 236) at_234 rfl rfl rfl ?_
      refine Go.callV (a1 := a0) (pc' := 239) (argsL := []) (rest := []) (ct_g_size l Z a0 hw n0 h_769 a_758 p0 F_763) at_236 (hw _ (List.mem_of_getElem? (i := 88) rfl)) (hw _ (List.mem_of_getElem? (i := 89) rfl)) (hw _ (List.mem_of_getElem? (i := 91) rfl)) (hw _ (List.mem_of_getElem? (i := 91) rfl)) (hw _ (List.mem_of_getElem? (i := 90) rfl)) (hw _ (List.mem_of_getElem? (i := 42) rfl)) (hw _ (List.mem_of_getElem? (i := 92) rfl)) X_760 (by decide) (lenOf pd__28_29I rfl) rfl 0 rfl rfl (by decide) (by decide) (by decide) (by decide) (fun _ q => nomatch q) rfl (fun v_789 h_790 N_791 hQ_792 hle_793 => ?_)
      obtain ⟨rfl, rfl⟩ := hQ_792
      refine Go.re (pc' := 239) (L' := #[.val (.int p0), .val (.int p1), .val (.int p2), .val (.int p3), .val (.int p4), .val (.int p5), .val (.int (1 : Int32)), .val (u_408), .val (.ref a_599), .val (.ref a_631), .val (.ref a_646), .val (.ref a_670), .val (.ref a_685), .val (u_709), .val (u_720), .val (.ref a_731), .val (.ref a_758)]) (S' := [(.int p0)]) rfl rfl rfl ?_
      refine Go.iloadN (pc' := 240) at_239 rfl rfl ?_
      refine Go.icmpF (pc' := 243) at_240 (rfl) rfl ?_
      refine Go.aload (pc' := 245) at_243 rfl rfl rfl ?_
      refine Go.callV (a1 := a0) (pc' := 248) (argsL := []) (rest := []) (ct_g_scale l Z a0 hw n0 h_769 a_758 p1 F_764) at_245 (hw _ (List.mem_of_getElem? (i := 93) rfl)) (hw _ (List.mem_of_getElem? (i := 94) rfl)) (hw _ (List.mem_of_getElem? (i := 96) rfl)) (hw _ (List.mem_of_getElem? (i := 96) rfl)) (hw _ (List.mem_of_getElem? (i := 95) rfl)) (hw _ (List.mem_of_getElem? (i := 42) rfl)) (hw _ (List.mem_of_getElem? (i := 97) rfl)) X_760 (by decide) (lenOf pd__28_29I rfl) rfl 0 rfl rfl (by decide) (by decide) (by decide) (by decide) (fun _ q => nomatch q) rfl (fun v_794 h_795 N_796 hQ_797 hle_798 => ?_)
      obtain ⟨rfl, rfl⟩ := hQ_797
      refine Go.re (pc' := 248) (L' := #[.val (.int p0), .val (.int p1), .val (.int p2), .val (.int p3), .val (.int p4), .val (.int p5), .val (.int (1 : Int32)), .val (u_408), .val (.ref a_599), .val (.ref a_631), .val (.ref a_646), .val (.ref a_670), .val (.ref a_685), .val (u_709), .val (u_720), .val (.ref a_731), .val (.ref a_758)]) (S' := [(.int p1)]) rfl rfl rfl ?_
      refine Go.iloadN (pc' := 249) at_248 rfl rfl ?_
      refine Go.icmpF (pc' := 252) at_249 (rfl) rfl ?_
      refine Go.aload (pc' := 254) at_252 rfl rfl rfl ?_
      refine Go.callV (a1 := a0) (pc' := 257) (argsL := []) (rest := []) (ct_g_absent l Z a0 hw n0 h_769 a_758 u_720 hu_721 F_765) at_254 (hw _ (List.mem_of_getElem? (i := 98) rfl)) (hw _ (List.mem_of_getElem? (i := 99) rfl)) (hw _ (List.mem_of_getElem? (i := 101) rfl)) (hw _ (List.mem_of_getElem? (i := 101) rfl)) (hw _ (List.mem_of_getElem? (i := 100) rfl)) (hw _ (List.mem_of_getElem? (i := 42) rfl)) (hw _ (List.mem_of_getElem? (i := 102) rfl)) X_760 (by decide) (lenOf pd__28_29Ljava_2flang_2fObject_3b rfl) rfl 0 rfl rfl (by decide) (by decide) (by decide) (by decide) (fun _ q => nomatch q) rfl (fun v_799 h_800 N_801 hQ_802 hle_803 => ?_)
      obtain ⟨rfl, rfl⟩ := hQ_802
      refine Go.re (pc' := 257) (L' := #[.val (.int p0), .val (.int p1), .val (.int p2), .val (.int p3), .val (.int p4), .val (.int p5), .val (.int (1 : Int32)), .val (u_408), .val (.ref a_599), .val (.ref a_631), .val (.ref a_646), .val (.ref a_670), .val (.ref a_685), .val (u_709), .val (u_720), .val (.ref a_731), .val (.ref a_758)]) (S' := [u_720]) rfl rfl rfl ?_
      refine Go.aload (pc' := 259) at_257 rfl hu_721 rfl ?_
      refine Go.acmp (pc' := 262) true at_259 hu_721 hu_721 (decide_eq_true rfl) (by decide) (by decide) ?_
      refine Go.aload (pc' := 264) at_262 rfl rfl rfl ?_
      refine Go.callV (a1 := a0) (pc' := 267) (argsL := []) (rest := []) (ct_g_stored l Z a0 hw n0 h_769 a_758 (1 : Int32) (by decide) F_766) at_264 (hw _ (List.mem_of_getElem? (i := 103) rfl)) (hw _ (List.mem_of_getElem? (i := 104) rfl)) (hw _ (List.mem_of_getElem? (i := 106) rfl)) (hw _ (List.mem_of_getElem? (i := 106) rfl)) (hw _ (List.mem_of_getElem? (i := 105) rfl)) (hw _ (List.mem_of_getElem? (i := 42) rfl)) (hw _ (List.mem_of_getElem? (i := 107) rfl)) X_760 (by decide) (lenOf pd__28_29Z rfl) rfl 0 rfl rfl (by decide) (by decide) (by decide) (by decide) (fun _ q => nomatch q) rfl (fun v_804 h_805 N_806 hQ_807 hle_808 => ?_)
      obtain ⟨rfl, rfl⟩ := hQ_807
      refine Go.re (pc' := 267) (L' := #[.val (.int p0), .val (.int p1), .val (.int p2), .val (.int p3), .val (.int p4), .val (.int p5), .val (.int (1 : Int32)), .val (u_408), .val (.ref a_599), .val (.ref a_631), .val (.ref a_646), .val (.ref a_670), .val (.ref a_685), .val (u_709), .val (u_720), .val (.ref a_731), .val (.ref a_758)]) (S' := [(.int (1 : Int32))]) rfl rfl rfl ?_
      refine Go.iload (pc' := 269) at_267 rfl rfl ?_
      refine Go.icmpF (pc' := 272) at_269 (rfl) rfl ?_
      refine Go.aload (pc' := 274) at_272 rfl rfl rfl ?_
      refine Go.callV (a1 := a0) (pc' := 277) (argsL := []) (rest := []) (ct_g_namedBy l Z a0 hw n0 h_769 a_758 (.ref a_599) rfl F_767) at_274 (hw _ (List.mem_of_getElem? (i := 108) rfl)) (hw _ (List.mem_of_getElem? (i := 109) rfl)) (hw _ (List.mem_of_getElem? (i := 111) rfl)) (hw _ (List.mem_of_getElem? (i := 111) rfl)) (hw _ (List.mem_of_getElem? (i := 110) rfl)) (hw _ (List.mem_of_getElem? (i := 42) rfl)) (hw _ (List.mem_of_getElem? (i := 112) rfl)) X_760 (by decide) (lenOf pd__28_29Lcom_2fexample_2fcartulary_2fcartulary_2fStarTable_24NamedBy_3b rfl) rfl 0 rfl rfl (by decide) (by decide) (by decide) (by decide) (fun _ q => nomatch q) rfl (fun v_809 h_810 N_811 hQ_812 hle_813 => ?_)
      obtain ⟨rfl, rfl⟩ := hQ_812
      refine Go.re (pc' := 277) (L' := #[.val (.int p0), .val (.int p1), .val (.int p2), .val (.int p3), .val (.int p4), .val (.int p5), .val (.int (1 : Int32)), .val (u_408), .val (.ref a_599), .val (.ref a_631), .val (.ref a_646), .val (.ref a_670), .val (.ref a_685), .val (u_709), .val (u_720), .val (.ref a_731), .val (.ref a_758)]) (S' := [(.ref a_599)]) rfl rfl rfl ?_
      refine Go.aload (pc' := 279) at_277 rfl rfl rfl ?_
      refine Go.acmp (pc' := 282) true at_279 rfl rfl (decide_eq_true rfl) (by decide) (by decide) ?_
      refine Go.iconst (pc' := 283) 1 at_282 rfl rfl ?_
      refine Go.goto (pc' := 287) at_283 (by decide) (by decide) ?_
      refine Go.retN (t := .boolean) (1 : Int32) rfl (by simp) rfl [] (fun _ q => nomatch q) at_287 (by decide) (by decide) ?_
      exact rfl
theorem own_len {Z : State} {args : Array Value} {t : Term} {a : Addr} {cl : Cell} {ty : FieldType} (A : RoadKit.Arr Z Z.heap a cl ty) (ev : t.eval args Z none [] Z = some (.ref a)) (h : (Term.length t).eval args Z none [] Z = some (.int 256)) : cl.slots.size = 256 := by
  have q := A.fin (Vm.Alike.refl _)
  simp [Term.eval, ev, q] at h
  obtain ⟨h1, h2⟩ := h
  have h3 : Int32.ofNat cl.slots.size = Int32.ofNat 256 := h2
  exact (ofN_eq h1 (by decide)).mp h3
theorem own_box {Z : State} {args : Array Value} {C n d K : String} {X : Jvm.Cond} {a : Addr} {cl : Cell} {ty : FieldType} (ev : (Term.static C n d).eval args Z none [] Z = some (.ref a)) (A : RoadKit.Arr Z Z.heap a cl ty) (h : (Cond.all (Term.static C n d) (.and (.exactly (.elem (Term.static C n d) (.index 0)) K) X)).value args Z none Z [] = some true) (hs : cl.slots.size = 256) {j : Nat} (hj : j < 256) : ∃ b, cl.slots[j]? = some (.ref b) := by
  have et : ∀ idx, (Term.static C n d).eval args Z none idx Z = some (.ref a) := fun idx => ev
  have ej : (Int32.ofNat j).toNatClampNeg = j := ofN_nat (by omega)
  have nn : ¬ Int32.ofNat j < 0 := ofN_nn (by omega)
  obtain ⟨u1, -⟩ := and_e (Cond.all_elim (et []) (A.fin (Vm.Alike.refl _)) h (Int32.ofNat j).toNatClampNeg (by omega))
  obtain ⟨b, eb⟩ := exa_v u1
  have e9 := (elem_f (et _) (idx_at nn) (A.fin (Vm.Alike.refl _)) nn).symm.trans eb
  rw [ej] at e9
  exact ⟨b, e9⟩
set_option maxRecDepth 65536 in
set_option maxHeartbeats 40000000 in
theorem comes_1 {Post : Tables → Env → Array Value → State → Outcome → State → Prop} (hpost : ∀ tb e args s v u, (limb_1_1.after args s (.returned v) u = true ∧ limb_1_2.after args s (.returned v) u = true ∧ True) → FrameEnd s (.returned v) u (Jvm.fieldLocs frame_1_writes args s ++ Jvm.arrayLocs frame_1_arrays args s ++ Jvm.staticLocs frame_1_statics s) 32 192 → Post tb e args s (.returned v) u) :
    ArmFor flags0 classFile x code maxLocals ret World_1 tables_1 room_1 Calls_1 rest_1 Pre_1 Post := by
  intro l hfl _ _ p e ha hc hk s m args below hf hA hF happ hP
  obtain ⟨hcalls, hrest, hpre⟩ := hP
  obtain ⟨-, -, -, hnamed, -, -, -, hat⟩ := (Spec.applies_iff hf).mp happ
  obtain ⟨hg, hn⟩ := and_e (Cond.before_iff.mp (show (Jvm.Cond.and given_1 narrow_1).before args s = true from hpre))
  obtain ⟨g0, hg⟩ := and_e hg
  obtain ⟨w0, w1, w2, w3, w4, w5, rfl⟩ : ∃ w0 w1 w2 w3 w4 w5 : Value, args = #[w0, w1, w2, w3, w4, w5] := by
    have hs : args.size = 6 := by simpa [Cond.value, given_1] using g0
    obtain ⟨L⟩ := args
    match L, hs with
    | [w0, w1, w2, w3, w4, w5], _ => exact ⟨w0, w1, w2, w3, w4, w5, rfl⟩
  have hw := fun d (hd : d ∈ tables_1) => atoms_spec (ws := Jvm.Cond.code x code maxLocals ret :: tables_1) hat d (List.mem_cons_of_mem _ hd)
  have hfit : Fit s := fun {y c} hc i hi => by
    obtain ⟨ha, rfl⟩ := Array.getElem?_eq_some_iff.mp hc
    have q := List.all_eq_true.mp ((Array.all_eq_true_iff_forall_mem.mp hF) _ (Array.getElem_mem ha)) i (List.mem_range.mpr hi)
    simpa [Array.getElem?_eq_getElem hi] using q
  obtain ⟨g1, hg⟩ := and_e hg
  obtain ⟨g2, hg⟩ := and_e hg
  obtain ⟨g3, hg⟩ := and_e hg
  obtain ⟨g4, hg⟩ := and_e hg
  obtain ⟨g5, hg⟩ := and_e hg
  have g6 := hg
  obtain ⟨p0, e0⟩ := is_v g1
  obtain rfl : w0 = (.int p0) := Option.some.inj e0
  obtain ⟨p1, e1⟩ := is_v g2
  obtain rfl : w1 = (.int p1) := Option.some.inj e1
  obtain ⟨p2, e2⟩ := is_v g3
  obtain rfl : w2 = (.int p2) := Option.some.inj e2
  obtain ⟨p3, e3⟩ := is_v g4
  obtain rfl : w3 = (.int p3) := Option.some.inj e3
  obtain ⟨p4, e4⟩ := is_v g5
  obtain rfl : w4 = (.int p4) := Option.some.inj e4
  obtain ⟨p5, e5⟩ := is_v g6
  obtain rfl : w5 = (.int p5) := Option.some.inj e5
  obtain ⟨c0, hn⟩ := and_e hn
  obtain ⟨c1, hn⟩ := and_e hn
  obtain ⟨c2, hn⟩ := and_e hn
  have c3 := hn
  obtain ⟨o_TEXT, ev_TEXT⟩ := exa_v c0
  have S_TEXT := Sta.start ev_TEXT (Or.inr ⟨(hw _ (List.mem_of_getElem? (i := 5) rfl)), (hw _ (List.mem_of_getElem? (i := 6) rfl))⟩)
  have X_TEXT := Exa.start ev_TEXT c0
  obtain ⟨o_INTEGER, ev_INTEGER⟩ := exa_v c1
  have S_INTEGER := Sta.start ev_INTEGER (Or.inr ⟨(hw _ (List.mem_of_getElem? (i := 5) rfl)), (hw _ (List.mem_of_getElem? (i := 171) rfl))⟩)
  have X_INTEGER := Exa.start ev_INTEGER c1
  obtain ⟨o_TIMESTAMP, ev_TIMESTAMP⟩ := exa_v c2
  have S_TIMESTAMP := Sta.start ev_TIMESTAMP (Or.inr ⟨(hw _ (List.mem_of_getElem? (i := 5) rfl)), (hw _ (List.mem_of_getElem? (i := 173) rfl))⟩)
  have X_TIMESTAMP := Exa.start ev_TIMESTAMP c2
  obtain ⟨o_NUMERIC, ev_NUMERIC⟩ := exa_v c3
  have S_NUMERIC := Sta.start ev_NUMERIC (Or.inr ⟨(hw _ (List.mem_of_getElem? (i := 5) rfl)), (hw _ (List.mem_of_getElem? (i := 175) rfl))⟩)
  have X_NUMERIC := Exa.start ev_NUMERIC c3
  obtain ⟨hsets, hown0⟩ := atoms_of _ (rest_1_c_eq ▸ (show rest_1_c.before _ s = true from hrest))
  have ncs := not_v (Cond.before_iff.mp (hsets _ (List.mem_of_getElem? (i := 2) rfl)))
  obtain ⟨cs, ecs⟩ := is_v (Cond.before_iff.mp (hsets _ (List.mem_of_getElem? (i := 1) rfl)))
  have S_cs : Sta s s.heap "java/lang/String" "COMPACT_STRINGS" "Z" (.int cs) := Sta.start ecs (Or.inl (hsets _ (List.mem_of_getElem? (i := 0) rfl)))
  have hcs : ¬ (cs = (0 : Int32)) := gotF (Cond.eq_ints ecs (Term.int_eval (0))) ncs
  obtain ⟨de, ev_de⟩ := exa_v (Cond.before_iff.mp (hsets _ (List.mem_of_getElem? (i := 16) rfl)))
  have S_de := Sta.start ev_de (Or.inr ⟨(hw _ (List.mem_of_getElem? (i := 118) rfl)), hsets _ (List.mem_of_getElem? (i := 11) rfl)⟩)
  have ev_hi := eqv_i (Term.int_eval (127)) (Cond.before_iff.mp (hsets _ (List.mem_of_getElem? (i := 21) rfl)))
  have S_hi := Sta.start ev_hi (Or.inl (hsets _ (List.mem_of_getElem? (i := 19) rfl)))
  obtain ⟨cb, ev_ca⟩ := exa_v (Cond.before_iff.mp (hsets _ (List.mem_of_getElem? (i := 23) rfl)))
  have S_ca := Sta.start ev_ca (Or.inr ⟨(hw _ (List.mem_of_getElem? (i := 153) rfl)), hsets _ (List.mem_of_getElem? (i := 20) rfl)⟩)
  obtain ⟨ccl, A_ca⟩ := Arr.start ev_ca (Cond.before_iff.mp (hsets _ (List.mem_of_getElem? (i := 22) rfl)))
  have hlen9 := eqv_i (Term.int_eval (256)) (Cond.before_iff.mp (hsets _ (List.mem_of_getElem? (i := 24) rfl)))
  have hall := Cond.before_iff.mp (hsets _ (List.mem_of_getElem? (i := 25) rfl))
  have hcs_ : ccl.slots.size = 256 := own_len A_ca ev_ca hlen9
  have hel : ∀ j, j < 256 → ∃ b, ccl.slots[j]? = some (.ref b) := fun j hj => own_box ev_ca A_ca hall hcs_ hj
  have hcb := nlt A_ca.lt
  obtain ⟨n, o, h1, h2, h3, v, Ls, N, rfl, rfl, hFr, -, -, hEn⟩ := ct_law l s _ hw s.heap.size s.heap p0 p1 p2 p3 p4 p5 rfl o_TEXT S_TEXT X_TEXT o_INTEGER S_INTEGER X_INTEGER o_TIMESTAMP S_TIMESTAMP X_TIMESTAMP o_NUMERIC S_NUMERIC X_NUMERIC cs S_cs hcs de S_de cb ccl S_hi S_ca A_ca hcs_ hel hcb p e ha hc hk s m _ below hf ((Spec.applies_iff_loose hf).mp happ).1 ⟨rfl, State.Warmed39.refl s, rfl, (fun p hp => nomatch hp), (fun x q => nomatch q)⟩ trivial
  refine ⟨n, _, h1, h2, h3, hpost _ _ _ _ _ _ ⟨Cond.after_iff.mpr rfl, Cond.after_iff.mpr (eq_i res_at (Term.int_eval (1)) rfl), trivial⟩ ⟨⟨_, rfl⟩, hEn.2 rfl, (hEn.1.2.2.2.sift fun y hy => Or.inr (hFr y hy)).mono (by decide) (by decide)⟩⟩
theorem main_1_1 : Claimed_1_1 := comes_1 fun _ _ _ _ _ _ h hF => ⟨h.1, hF⟩
theorem main_1_2 : Claimed_1_2 := comes_1 fun _ _ _ _ _ _ h hF => ⟨h.2.1, hF⟩
end Jvm.Pilot.@@N@@
namespace Jvm.Pilot.@@N@@
open Jvm Jvm.ClassFile Sem Op Lib Jvm.Free Jvm.Stand Jvm.Pilot.@@N@@.Jvm.D
/-! MADE BY PROGRAM (witnessworld.py) out of the Statement's table words and the real class files: 41 classes; the members and pool entries that the words name. The judged class is class 1, her method 1. -/
namespace start1
open Jvm.ClassFile
def u (s : String) : CpInfo := .utf8 (stringToUtf16 s)
/-- a pool by its gaps: so many unusable entries, then the entry; so many at the end -/
def gap : Nat → List CpInfo → List CpInfo
  | 0, r => r
  | n + 1, r => .unusable :: gap n r
def poolList (es : List (Nat × CpInfo)) (last : Nat) : List CpInfo := es.foldr (fun e r => gap e.1 (e.2 :: r)) (gap last [])
def pool (es : List (Nat × CpInfo)) (last : Nat) : Array CpInfo := ⟨poolList es last⟩
def fileOf (pool : Array CpInfo) (this : Nat) (attrs : Array Attribute := #[]) (ms : Array MethodInfo := #[]) (fl : Nat := 33) (sup : Nat := 0) (ifs : Array Nat := #[]) (fds : Array FieldInfo := #[]) : ClassFile where
  minorVersion := 0
  majorVersion := 65
  constantPool := pool
  accessFlags := fl
  thisClass := this
  superClass := sup
  interfaces := ifs
  fields := fds
  methods := ms
  attributes := attrs
def plain (name : String) (sup : Option ClassId) : Class where
  name := name
  kind := .ordinary
  loader := none
  accessFlags := 33
  super := sup
  interfaces := #[]
  cf := none
  fields := #[]
  methods := #[]
  instanceTypes := #[]
  staticTypes := #[]
  resolved := #[]
  callSites := []
  init := .initialized
  statics := none
  mirror := none

def pool0 : Array CpInfo := pool [(5, u "<init>"), (0, u "()V"), (1, .class_ 10), (1, u "java/lang/Object")] 113

def k0c0 : Code := { maxStack := 0, maxLocals := 1, code := object_method_1_code, exceptionTable := #[], attributes := #[] }
def k0m0 : Method := { name := "<init>", desc := "()V", sig := { parameters := [], returnType := none }, accessFlags := 1, code := some k0c0 }
/-- java/lang/Object -/
def k0 : Class := { plain "java/lang/Object" none with
  accessFlags := 33
  interfaces := #[]
  cf := some (fileOf pool0 8 #[] #[{ accessFlags := 1, nameIndex := 5, descriptorIndex := 6, attributes := #[] }] 33 0 #[] #[])
  fields := #[]
  methods := #[k0m0]
  instanceTypes := #[]
  staticTypes := #[]
  resolved := Array.replicate 124 none
  statics := none }

def pool1 : Array CpInfo := pool [(2, .class_ 4), (0, .nameAndType 5 6), (0, u "java/lang/Object"), (0, u "<init>"), (0, u "()V"), (0, .methodref 8 9), (0, .class_ 10), (0, .nameAndType 11 12), (0, u "com/example/cartulary/cartulary/ColumnOrElsePinLaw"), (0, u "type"), (0, u "(I)Lcom/example/cartulary/cartulary/ColumnType;"), (0, .class_ 14), (0, u "com/example/cartulary/cartulary/StarTable$NamedBy"), (0, .class_ 16), (0, u "java/util/ArrayList"), (0, .methodref 15 3), (0, .methodref 13 19), (0, .nameAndType 5 20), (0, u "(Lcom/example/cartulary/cartulary/StarTable;Ljava/util/List;)V"), (0, .class_ 22), (0, u "java/lang/String"), (0, .methodref 21 24), (0, .nameAndType 5 25), (0, u "([C)V"), (0, .methodref 8 27), (0, .nameAndType 28 29), (0, u "pick"), (0, u "(IILjava/lang/String;Ljava/lang/Object;)Ljava/lang/Object;"), (0, .class_ 31), (0, u "com/example/cartulary/cartulary/StarTable$Column"), (0, .methodref 30 33), (0, .nameAndType 5 34), (0, u "(Ljava/lang/String;Lcom/example/cartulary/cartulary/ColumnType;IILjava/lang/Object;ZLcom/example/cartulary/cartulary/StarTable$NamedBy;)V"), (0, .methodref 30 36), (0, .nameAndType 37 38), (0, u "orElse"), (0, u "(Ljava/lang/Object;)Lcom/example/cartulary/cartulary/StarTable$Column;"), (0, .methodref 30 40), (0, .nameAndType 41 42), (0, u "name"), (0, u "()Ljava/lang/String;"), (0, .methodref 21 44), (0, .nameAndType 45 46), (0, u "equals"), (0, u "(Ljava/lang/Object;)Z"), (0, .methodref 30 48), (0, .nameAndType 11 49), (0, u "()Lcom/example/cartulary/cartulary/ColumnType;"), (0, .methodref 30 51), (0, .nameAndType 52 53), (0, u "size"), (0, u "()I"), (0, .methodref 30 55), (0, .nameAndType 56 53), (0, u "scale"), (0, .methodref 30 58), (0, .nameAndType 59 60), (0, u "absent"), (0, u "()Ljava/lang/Object;"), (0, .methodref 30 62), (0, .nameAndType 63 64), (0, u "stored"), (0, u "()Z"), (0, .methodref 30 66), (0, .nameAndType 67 68), (0, u "namedBy"), (0, u "()Lcom/example/cartulary/cartulary/StarTable$NamedBy;"), (0, .fieldref 70 71), (0, .class_ 72), (0, .nameAndType 73 74), (0, u "com/example/cartulary/cartulary/ColumnType"), (0, u "TEXT"), (0, u "Lcom/example/cartulary/cartulary/ColumnType;"), (0, .fieldref 70 76), (0, .nameAndType 77 74), (0, u "INTEGER"), (0, .fieldref 70 79), (0, .nameAndType 80 74), (0, u "NUMERIC"), (0, .fieldref 70 82), (0, .nameAndType 83 74), (0, u "TIMESTAMP"), (0, .methodref 85 86), (0, .class_ 87), (0, .nameAndType 88 89), (0, u "java/lang/Integer"), (0, u "valueOf"), (0, u "(I)Ljava/lang/Integer;"), (2, u "law"), (0, u "(IIIIII)Z")] 10

def k1m0 : Method := { name := "<init>", desc := "()V", sig := { parameters := [], returnType := none }, accessFlags := 2, code := none }
def k1c1 : Code := { maxStack := 9, maxLocals := 17, code := code, exceptionTable := #[], attributes := #[] }
def k1m1 : Method := { name := "law", desc := "(IIIIII)Z", sig := { parameters := [.int, .int, .int, .int, .int, .int], returnType := some .boolean }, accessFlags := 9, code := some k1c1 }
def k1c2 : Code := { maxStack := 2, maxLocals := 1, code := method_3_code, exceptionTable := #[], attributes := #[] }
def k1m2 : Method := { name := "type", desc := "(I)Lcom/example/cartulary/cartulary/ColumnType;", sig := { parameters := [.int], returnType := some (.object "com/example/cartulary/cartulary/ColumnType") }, accessFlags := 10, code := some k1c2 }
def k1c3 : Code := { maxStack := 2, maxLocals := 4, code := method_4_code, exceptionTable := #[], attributes := #[] }
def k1m3 : Method := { name := "pick", desc := "(IILjava/lang/String;Ljava/lang/Object;)Ljava/lang/Object;", sig := { parameters := [.int, .int, (.object "java/lang/String"), (.object "java/lang/Object")], returnType := some (.object "java/lang/Object") }, accessFlags := 10, code := some k1c3 }
/-- com/example/cartulary/cartulary/ColumnOrElsePinLaw -/
def k1 : Class := { plain "com/example/cartulary/cartulary/ColumnOrElsePinLaw" (some 0) with
  accessFlags := 49
  interfaces := #[]
  cf := some (fileOf pool1 8 #[] #[{ accessFlags := 2, nameIndex := 5, descriptorIndex := 6, attributes := #[] }, { accessFlags := 9, nameIndex := 92, descriptorIndex := 93, attributes := #[] }, { accessFlags := 10, nameIndex := 11, descriptorIndex := 12, attributes := #[] }, { accessFlags := 10, nameIndex := 28, descriptorIndex := 29, attributes := #[] }] 49 2 #[] #[])
  fields := #[]
  methods := #[k1m0, k1m1, k1m2, k1m3]
  instanceTypes := #[]
  staticTypes := #[]
  resolved := Array.replicate 104 none
  statics := none }

def pool2 : Array CpInfo := pool [(1, .class_ 2), (0, u "java/lang/constant/Constable"), (0, .class_ 4), (0, u "java/lang/Object")] 6

/-- java/lang/constant/Constable -/
def k2 : Class := { plain "java/lang/constant/Constable" (some 0) with
  accessFlags := 1537
  interfaces := #[]
  cf := some (fileOf pool2 1 #[] #[] 1537 3 #[] #[])
  fields := #[]
  methods := #[]
  instanceTypes := #[]
  staticTypes := #[]
  resolved := Array.replicate 11 none
  statics := none }

def pool3 : Array CpInfo := pool [(1, .class_ 2), (0, u "java/lang/Comparable"), (0, .class_ 4), (0, u "java/lang/Object")] 7

/-- java/lang/Comparable -/
def k3 : Class := { plain "java/lang/Comparable" (some 0) with
  accessFlags := 1537
  interfaces := #[]
  cf := some (fileOf pool3 1 #[] #[] 1537 3 #[] #[])
  fields := #[]
  methods := #[]
  instanceTypes := #[]
  staticTypes := #[]
  resolved := Array.replicate 12 none
  statics := none }

def pool4 : Array CpInfo := pool [(1, .class_ 2), (0, u "java/io/Serializable"), (0, .class_ 4), (0, u "java/lang/Object")] 2

/-- java/io/Serializable -/
def k4 : Class := { plain "java/io/Serializable" (some 0) with
  accessFlags := 1537
  interfaces := #[]
  cf := some (fileOf pool4 1 #[] #[] 1537 3 #[] #[])
  fields := #[]
  methods := #[]
  instanceTypes := #[]
  staticTypes := #[]
  resolved := Array.replicate 7 none
  statics := none }

def pool5 : Array CpInfo := pool [(2, .class_ 4), (1, u "java/lang/Enum"), (0, u "name"), (0, u "Ljava/lang/String;"), (2, u "ordinal"), (0, u "I"), (1, .class_ 14), (1, u "java/lang/Object"), (4, u "hash"), (86, .class_ 108), (1, u "java/lang/Enum$EnumDesc"), (2, .class_ 112), (0, u "java/lang/constant/Constable"), (0, .class_ 114), (0, u "java/lang/Comparable"), (0, .class_ 116), (0, u "java/io/Serializable")] 87

/-- java/lang/Enum -/
def k5 : Class := { plain "java/lang/Enum" (some 0) with
  accessFlags := 1057
  interfaces := #[2, 3, 4]
  cf := some (fileOf pool5 2 #[.nestMembers #[106]] #[] 1057 12 #[111, 113, 115] #[{ accessFlags := 18, nameIndex := 5, descriptorIndex := 6, attributes := #[] }, { accessFlags := 18, nameIndex := 9, descriptorIndex := 10, attributes := #[] }, { accessFlags := 2, nameIndex := 19, descriptorIndex := 10, attributes := #[] }])
  fields := #[{ name := "name", type := (.object "java/lang/String"), accessFlags := 18, slot := 0, constantValue := 0 }, { name := "ordinal", type := .int, accessFlags := 18, slot := 1, constantValue := 0 }, { name := "hash", type := .int, accessFlags := 2, slot := 2, constantValue := 0 }]
  methods := #[]
  instanceTypes := #[(.object "java/lang/String"), .int, .int]
  staticTypes := #[]
  resolved := Array.replicate 204 none
  statics := none }

def pool6 : Array CpInfo := pool [(1, .class_ 2), (0, u "com/example/cartulary/cartulary/ColumnType"), (2, u "TEXT"), (0, u "Lcom/example/cartulary/cartulary/ColumnType;"), (2, u "INTEGER"), (2, u "NUMERIC"), (2, u "TIMESTAMP"), (2, u "$VALUES"), (0, u "[Lcom/example/cartulary/cartulary/ColumnType;"), (6, .class_ 28), (1, u "java/lang/Enum"), (8, u "description"), (0, u "Ljava/lang/String;"), (2, u "javaType"), (0, u "Ljava/lang/Class;"), (44, .class_ 88), (0, u "com/example/cartulary/cartulary/ColumnType$1"), (6, .class_ 96), (0, u "com/example/cartulary/cartulary/ColumnType$2"), (4, .class_ 102), (0, u "com/example/cartulary/cartulary/ColumnType$3"), (6, .class_ 110), (0, u "com/example/cartulary/cartulary/ColumnType$4"), (13, u "FIRST_TIMESTAMP"), (0, u "Ljava/time/LocalDateTime;"), (3, u "PAST_LAST_TIMESTAMP"), (10, u "Ljava/time/format/DateTimeFormatter;"), (43, u "ISO_8601"), (0, u "NANOS_PER_MICRO"), (0, u "I"), (2, u "PLAIN")] 32

/-- com/example/cartulary/cartulary/ColumnType -/
def k6 : Class := { plain "com/example/cartulary/cartulary/ColumnType" (some 5) with
  accessFlags := 17440
  interfaces := #[]
  cf := some (fileOf pool6 1 #[.nestMembers #[109, 101, 95, 87]] #[] 17440 26 #[] #[{ accessFlags := 16409, nameIndex := 5, descriptorIndex := 6, attributes := #[] }, { accessFlags := 16409, nameIndex := 9, descriptorIndex := 6, attributes := #[] }, { accessFlags := 16409, nameIndex := 12, descriptorIndex := 6, attributes := #[] }, { accessFlags := 16409, nameIndex := 15, descriptorIndex := 6, attributes := #[] }, { accessFlags := 26, nameIndex := 185, descriptorIndex := 186, attributes := #[] }, { accessFlags := 26, nameIndex := 124, descriptorIndex := 125, attributes := #[] }, { accessFlags := 26, nameIndex := 129, descriptorIndex := 125, attributes := #[] }, { accessFlags := 26, nameIndex := 184, descriptorIndex := 140, attributes := #[] }, { accessFlags := 26, nameIndex := 189, descriptorIndex := 38, attributes := #[] }, { accessFlags := 18, nameIndex := 37, descriptorIndex := 38, attributes := #[] }, { accessFlags := 18, nameIndex := 41, descriptorIndex := 42, attributes := #[] }, { accessFlags := 4122, nameIndex := 18, descriptorIndex := 19, attributes := #[] }])
  fields := #[{ name := "TEXT", type := (.object "com/example/cartulary/cartulary/ColumnType"), accessFlags := 16409, slot := 0, constantValue := 0 }, { name := "INTEGER", type := (.object "com/example/cartulary/cartulary/ColumnType"), accessFlags := 16409, slot := 1, constantValue := 0 }, { name := "NUMERIC", type := (.object "com/example/cartulary/cartulary/ColumnType"), accessFlags := 16409, slot := 2, constantValue := 0 }, { name := "TIMESTAMP", type := (.object "com/example/cartulary/cartulary/ColumnType"), accessFlags := 16409, slot := 3, constantValue := 0 }, { name := "NANOS_PER_MICRO", type := .int, accessFlags := 26, slot := 4, constantValue := 0 }, { name := "FIRST_TIMESTAMP", type := (.object "java/time/LocalDateTime"), accessFlags := 26, slot := 5, constantValue := 0 }, { name := "PAST_LAST_TIMESTAMP", type := (.object "java/time/LocalDateTime"), accessFlags := 26, slot := 6, constantValue := 0 }, { name := "ISO_8601", type := (.object "java/time/format/DateTimeFormatter"), accessFlags := 26, slot := 7, constantValue := 0 }, { name := "PLAIN", type := (.object "java/lang/String"), accessFlags := 26, slot := 8, constantValue := 0 }, { name := "description", type := (.object "java/lang/String"), accessFlags := 18, slot := 3, constantValue := 0 }, { name := "javaType", type := (.object "java/lang/Class"), accessFlags := 18, slot := 4, constantValue := 0 }, { name := "$VALUES", type := (.array (.object "com/example/cartulary/cartulary/ColumnType")), accessFlags := 4122, slot := 9, constantValue := 0 }]
  methods := #[]
  instanceTypes := #[(.object "java/lang/String"), .int, .int, (.object "java/lang/String"), (.object "java/lang/Class")]
  staticTypes := #[(.object "com/example/cartulary/cartulary/ColumnType"), (.object "com/example/cartulary/cartulary/ColumnType"), (.object "com/example/cartulary/cartulary/ColumnType"), (.object "com/example/cartulary/cartulary/ColumnType"), .int, (.object "java/time/LocalDateTime"), (.object "java/time/LocalDateTime"), (.object "java/time/format/DateTimeFormatter"), (.object "java/lang/String"), (.array (.object "com/example/cartulary/cartulary/ColumnType"))]
  resolved := Array.replicate 222 none
  statics := some 0 }

def pool7 : Array CpInfo := pool [(2, .class_ 4), (1, u "java/lang/CharSequence"), (42, .class_ 48), (0, u "java/lang/CharSequence$1CodePointIterator"), (10, .class_ 60), (0, u "java/lang/CharSequence$1CharIterator"), (5, .class_ 67), (0, u "java/lang/Object")] 63

/-- java/lang/CharSequence -/
def k7 : Class := { plain "java/lang/CharSequence" (some 0) with
  accessFlags := 1537
  interfaces := #[]
  cf := some (fileOf pool7 2 #[.nestMembers #[47, 59]] #[] 1537 66 #[] #[])
  fields := #[]
  methods := #[]
  instanceTypes := #[]
  staticTypes := #[]
  resolved := Array.replicate 131 none
  statics := none }

def pool8 : Array CpInfo := pool [(1, .class_ 2), (0, u "java/lang/constant/ConstantDesc"), (0, .class_ 4), (0, u "java/lang/Object")] 32

/-- java/lang/constant/ConstantDesc -/
def k8 : Class := { plain "java/lang/constant/ConstantDesc" (some 0) with
  accessFlags := 1537
  interfaces := #[]
  cf := some (fileOf pool8 1 #[] #[] 1537 3 #[] #[])
  fields := #[]
  methods := #[]
  instanceTypes := #[]
  staticTypes := #[]
  resolved := Array.replicate 37 none
  statics := none }

def pool9 : Array CpInfo := pool [(1, .methodref 2 3), (0, .class_ 4), (0, .nameAndType 5 6), (0, u "java/lang/Object"), (0, u "<init>"), (0, u "()V"), (2, .fieldref 10 11), (0, .class_ 12), (0, .nameAndType 13 14), (0, u "java/lang/String"), (0, u "value"), (0, u "[B"), (0, .fieldref 10 16), (0, .nameAndType 17 18), (0, u "coder"), (0, u "B"), (2, u "hash"), (0, u "I"), (2, u "hashIsZero"), (0, u "Z"), (0, .methodref 10 28), (0, .nameAndType 5 29), (0, u "([CIILjava/lang/Void;)V"), (8, .fieldref 10 39), (0, .nameAndType 40 26), (0, u "COMPACT_STRINGS"), (1, .class_ 44), (1, u "java/lang/StringUTF16"), (0, u "compress"), (1, .methodref 42 48), (0, .nameAndType 49 50), (0, u "coderFromArrayLen"), (0, u "([BI)B"), (126, .methodref 42 178), (0, .nameAndType 45 179), (0, u "([CII)[B"), (363, u "equals"), (29, u "(Ljava/lang/Object;)Z"), (1, .class_ 576), (0, u "java/lang/CharSequence"), (22, u "CASE_INSENSITIVE_ORDER"), (0, u "Ljava/util/Comparator;"), (409, u "([C)V"), (90, u "serialPersistentFields"), (0, u "[Ljava/io/ObjectStreamField;"), (0, .class_ 1104), (0, u "java/lang/String$CaseInsensitiveComparator"), (1, .class_ 1107), (0, u "java/io/Serializable"), (0, .class_ 1109), (0, u "java/lang/Comparable"), (0, .class_ 1111), (0, u "java/lang/constant/Constable"), (0, .class_ 1113), (0, u "java/lang/constant/ConstantDesc"), (2, u "serialVersionUID"), (0, u "J"), (3, u "REPL"), (0, u "C"), (2, u "LATIN1"), (1, u "UTF16")] 323

def k9m0 : Method := { name := "<init>", desc := "()V", sig := { parameters := [], returnType := none }, accessFlags := 1, code := none }
def k9c1 : Code := { maxStack := 5, maxLocals := 2, code := jdk_42_method_3_code, exceptionTable := #[], attributes := #[] }
def k9m1 : Method := { name := "<init>", desc := "([C)V", sig := { parameters := [(.array .char)], returnType := none }, accessFlags := 1, code := some k9c1 }
def k9c2 : Code := { maxStack := 2, maxLocals := 3, code := jdk_42_method_66_code, exceptionTable := #[], attributes := #[] }
def k9m2 : Method := { name := "equals", desc := "(Ljava/lang/Object;)Z", sig := { parameters := [(.object "java/lang/Object")], returnType := some .boolean }, accessFlags := 1, code := some k9c2 }
def k9c3 : Code := { maxStack := 4, maxLocals := 6, code := jdk_42_method_149_code, exceptionTable := #[], attributes := #[] }
def k9m3 : Method := { name := "<init>", desc := "([CIILjava/lang/Void;)V", sig := { parameters := [(.array .char), .int, .int, (.object "java/lang/Void")], returnType := none }, accessFlags := 2, code := some k9c3 }
/-- java/lang/String -/
def k9 : Class := { plain "java/lang/String" (some 0) with
  accessFlags := 49
  interfaces := #[4, 3, 7, 2, 8]
  cf := some (fileOf pool9 10 #[.nestMembers #[1103]] #[{ accessFlags := 1, nameIndex := 5, descriptorIndex := 6, attributes := #[] }, { accessFlags := 1, nameIndex := 5, descriptorIndex := 1010, attributes := #[] }, { accessFlags := 1, nameIndex := 543, descriptorIndex := 573, attributes := #[] }, { accessFlags := 2, nameIndex := 5, descriptorIndex := 29, attributes := #[] }] 49 2 #[1106, 1108, 575, 1110, 1112] #[{ accessFlags := 18, nameIndex := 13, descriptorIndex := 14, attributes := #[] }, { accessFlags := 18, nameIndex := 17, descriptorIndex := 18, attributes := #[] }, { accessFlags := 2, nameIndex := 21, descriptorIndex := 22, attributes := #[] }, { accessFlags := 2, nameIndex := 25, descriptorIndex := 26, attributes := #[] }, { accessFlags := 26, nameIndex := 1116, descriptorIndex := 1117, attributes := #[] }, { accessFlags := 24, nameIndex := 40, descriptorIndex := 26, attributes := #[] }, { accessFlags := 26, nameIndex := 1101, descriptorIndex := 1102, attributes := #[] }, { accessFlags := 26, nameIndex := 1121, descriptorIndex := 1122, attributes := #[] }, { accessFlags := 25, nameIndex := 599, descriptorIndex := 600, attributes := #[] }, { accessFlags := 24, nameIndex := 1125, descriptorIndex := 18, attributes := #[] }, { accessFlags := 24, nameIndex := 1127, descriptorIndex := 18, attributes := #[] }])
  fields := #[{ name := "value", type := (.array .byte), accessFlags := 18, slot := 0, constantValue := 0 }, { name := "coder", type := .byte, accessFlags := 18, slot := 1, constantValue := 0 }, { name := "hash", type := .int, accessFlags := 2, slot := 2, constantValue := 0 }, { name := "hashIsZero", type := .boolean, accessFlags := 2, slot := 3, constantValue := 0 }, { name := "serialVersionUID", type := .long, accessFlags := 26, slot := 0, constantValue := 0 }, { name := "COMPACT_STRINGS", type := .boolean, accessFlags := 24, slot := 1, constantValue := 0 }, { name := "serialPersistentFields", type := (.array (.object "java/io/ObjectStreamField")), accessFlags := 26, slot := 2, constantValue := 0 }, { name := "REPL", type := .char, accessFlags := 26, slot := 3, constantValue := 0 }, { name := "CASE_INSENSITIVE_ORDER", type := (.object "java/util/Comparator"), accessFlags := 25, slot := 4, constantValue := 0 }, { name := "LATIN1", type := .byte, accessFlags := 24, slot := 5, constantValue := 0 }, { name := "UTF16", type := .byte, accessFlags := 24, slot := 6, constantValue := 0 }]
  methods := #[k9m0, k9m1, k9m2, k9m3]
  instanceTypes := #[(.array .byte), .byte, .int, .boolean]
  staticTypes := #[.long, .boolean, (.array (.object "java/io/ObjectStreamField")), .char, (.object "java/util/Comparator"), .byte, .byte]
  resolved := Array.replicate 1451 none
  statics := some 1 }

def pool10 : Array CpInfo := pool [(6, .class_ 8), (1, u "java/lang/Object"), (0, u "<init>"), (0, u "()V"), (1, .class_ 14), (1, u "java/lang/StringUTF16"), (31, u "$assertionsDisabled"), (0, u "Z"), (13, u "HI_BYTE_SHIFT"), (0, u "I"), (2, u "LO_BYTE_SHIFT"), (49, .methodref 12 116), (0, .nameAndType 117 118), (0, u "compress"), (0, u "([CI[BII)I"), (3, u "([CII)[B"), (138, u "coderFromArrayLen"), (0, u "([BI)B"), (106, .class_ 371), (1, u "java/lang/StringUTF16$LinesSpliterator"), (58, u "MAX_LENGTH"), (196, .class_ 628), (0, u "java/lang/StringUTF16$CodePointsSpliterator"), (0, .class_ 630), (0, u "java/lang/StringUTF16$CharsSpliterator")] 4

def k10m0 : Method := { name := "<init>", desc := "()V", sig := { parameters := [], returnType := none }, accessFlags := 0, code := none }
def k10c1 : Code := { maxStack := 2, maxLocals := 2, code := jdk_52_method_15_code, exceptionTable := #[], attributes := #[] }
def k10m1 : Method := { name := "coderFromArrayLen", desc := "([BI)B", sig := { parameters := [(.array .byte), .int], returnType := some .byte }, accessFlags := 8, code := some k10c1 }
def k10c2 : Code := { maxStack := 5, maxLocals := 6, code := jdk_52_method_16_code, exceptionTable := #[], attributes := #[] }
def k10m2 : Method := { name := "compress", desc := "([CII)[B", sig := { parameters := [(.array .char), .int, .int], returnType := some (.array .byte) }, accessFlags := 9, code := some k10c2 }
def k10c3 : Code := { maxStack := 3, maxLocals := 7, code := jdk_52_method_21_code, exceptionTable := #[], attributes := #[] }
def k10m3 : Method := { name := "compress", desc := "([CI[BII)I", sig := { parameters := [(.array .char), .int, (.array .byte), .int, .int], returnType := some .int }, accessFlags := 9, code := some k10c3 }
/-- java/lang/StringUTF16 -/
def k10 : Class := { plain "java/lang/StringUTF16" (some 0) with
  accessFlags := 48
  interfaces := #[]
  cf := some (fileOf pool10 12 #[.nestMembers #[627, 629, 369]] #[{ accessFlags := 0, nameIndex := 9, descriptorIndex := 10, attributes := #[] }, { accessFlags := 8, nameIndex := 261, descriptorIndex := 262, attributes := #[] }, { accessFlags := 9, nameIndex := 117, descriptorIndex := 122, attributes := #[] }, { accessFlags := 9, nameIndex := 117, descriptorIndex := 118, attributes := #[] }] 48 6 #[] #[{ accessFlags := 26, nameIndex := 61, descriptorIndex := 62, attributes := #[] }, { accessFlags := 26, nameIndex := 65, descriptorIndex := 62, attributes := #[] }, { accessFlags := 24, nameIndex := 430, descriptorIndex := 62, attributes := #[] }, { accessFlags := 4120, nameIndex := 46, descriptorIndex := 47, attributes := #[] }])
  fields := #[{ name := "HI_BYTE_SHIFT", type := .int, accessFlags := 26, slot := 0, constantValue := 0 }, { name := "LO_BYTE_SHIFT", type := .int, accessFlags := 26, slot := 1, constantValue := 0 }, { name := "MAX_LENGTH", type := .int, accessFlags := 24, slot := 2, constantValue := 0 }, { name := "$assertionsDisabled", type := .boolean, accessFlags := 4120, slot := 3, constantValue := 0 }]
  methods := #[k10m0, k10m1, k10m2, k10m3]
  instanceTypes := #[]
  staticTypes := #[.int, .int, .int, .boolean]
  resolved := Array.replicate 635 none
  statics := none }

def pool11 : Array CpInfo := pool [(1, .methodref 2 3), (0, .class_ 4), (0, .nameAndType 5 6), (0, u "java/lang/Object"), (0, u "<init>"), (0, u "()V"), (0, .class_ 8), (0, u "java/lang/Record")] 13

def k11c0 : Code := { maxStack := 1, maxLocals := 1, code := jdk_30_method_1_code, exceptionTable := #[], attributes := #[] }
def k11m0 : Method := { name := "<init>", desc := "()V", sig := { parameters := [], returnType := none }, accessFlags := 4, code := some k11c0 }
/-- java/lang/Record -/
def k11 : Class := { plain "java/lang/Record" (some 0) with
  accessFlags := 1057
  interfaces := #[]
  cf := some (fileOf pool11 7 #[] #[{ accessFlags := 4, nameIndex := 5, descriptorIndex := 6, attributes := #[] }] 1057 2 #[] #[])
  fields := #[]
  methods := #[k11m0]
  instanceTypes := #[]
  staticTypes := #[]
  resolved := Array.replicate 22 none
  statics := none }

def pool12 : Array CpInfo := pool [(1, .methodref 2 3), (0, .class_ 4), (0, .nameAndType 5 6), (0, u "java/lang/Record"), (0, u "<init>"), (0, u "()V"), (0, .fieldref 8 9), (0, .class_ 10), (0, .nameAndType 11 12), (0, u "com/example/cartulary/cartulary/StarTable$Column"), (0, u "name"), (0, u "Ljava/lang/String;"), (0, .fieldref 8 14), (0, .nameAndType 15 16), (0, u "type"), (0, u "Lcom/example/cartulary/cartulary/ColumnType;"), (0, .fieldref 8 18), (0, .nameAndType 19 20), (0, u "size"), (0, u "I"), (0, .fieldref 8 22), (0, .nameAndType 23 20), (0, u "scale"), (0, .fieldref 8 25), (0, .nameAndType 26 27), (0, u "absent"), (0, u "Ljava/lang/Object;"), (0, .fieldref 8 29), (0, .nameAndType 30 31), (0, u "stored"), (0, u "Z"), (0, .fieldref 8 33), (0, .nameAndType 34 35), (0, u "namedBy"), (0, u "Lcom/example/cartulary/cartulary/StarTable$NamedBy;"), (24, .methodref 8 61), (0, .nameAndType 5 62), (0, u "(Ljava/lang/String;Lcom/example/cartulary/cartulary/ColumnType;IILjava/lang/Object;ZLcom/example/cartulary/cartulary/StarTable$NamedBy;)V"), (49, u "orElse"), (0, u "(Ljava/lang/Object;)Lcom/example/cartulary/cartulary/StarTable$Column;"), (2, u "()Ljava/lang/String;"), (0, u "()I"), (0, u "()Lcom/example/cartulary/cartulary/ColumnType;"), (0, u "()Ljava/lang/Object;"), (0, u "()Z"), (0, u "()Lcom/example/cartulary/cartulary/StarTable$NamedBy;"), (3, .class_ 126), (0, u "com/example/cartulary/cartulary/StarTable")] 36

def k12c0 : Code := { maxStack := 2, maxLocals := 8, code := prog_38_method_1_code, exceptionTable := #[], attributes := #[] }
def k12m0 : Method := { name := "<init>", desc := "(Ljava/lang/String;Lcom/example/cartulary/cartulary/ColumnType;IILjava/lang/Object;ZLcom/example/cartulary/cartulary/StarTable$NamedBy;)V", sig := { parameters := [(.object "java/lang/String"), (.object "com/example/cartulary/cartulary/ColumnType"), .int, .int, (.object "java/lang/Object"), .boolean, (.object "com/example/cartulary/cartulary/StarTable$NamedBy")], returnType := none }, accessFlags := 0, code := some k12c0 }
def k12c1 : Code := { maxStack := 9, maxLocals := 2, code := prog_38_method_8_code, exceptionTable := #[], attributes := #[] }
def k12m1 : Method := { name := "orElse", desc := "(Ljava/lang/Object;)Lcom/example/cartulary/cartulary/StarTable$Column;", sig := { parameters := [(.object "java/lang/Object")], returnType := some (.object "com/example/cartulary/cartulary/StarTable$Column") }, accessFlags := 0, code := some k12c1 }
def k12c2 : Code := { maxStack := 1, maxLocals := 1, code := prog_38_method_13_code, exceptionTable := #[], attributes := #[] }
def k12m2 : Method := { name := "name", desc := "()Ljava/lang/String;", sig := { parameters := [], returnType := some (.object "java/lang/String") }, accessFlags := 1, code := some k12c2 }
def k12c3 : Code := { maxStack := 1, maxLocals := 1, code := prog_38_method_14_code, exceptionTable := #[], attributes := #[] }
def k12m3 : Method := { name := "type", desc := "()Lcom/example/cartulary/cartulary/ColumnType;", sig := { parameters := [], returnType := some (.object "com/example/cartulary/cartulary/ColumnType") }, accessFlags := 1, code := some k12c3 }
def k12c4 : Code := { maxStack := 1, maxLocals := 1, code := prog_38_method_15_code, exceptionTable := #[], attributes := #[] }
def k12m4 : Method := { name := "size", desc := "()I", sig := { parameters := [], returnType := some .int }, accessFlags := 1, code := some k12c4 }
def k12c5 : Code := { maxStack := 1, maxLocals := 1, code := prog_38_method_16_code, exceptionTable := #[], attributes := #[] }
def k12m5 : Method := { name := "scale", desc := "()I", sig := { parameters := [], returnType := some .int }, accessFlags := 1, code := some k12c5 }
def k12c6 : Code := { maxStack := 1, maxLocals := 1, code := prog_38_method_17_code, exceptionTable := #[], attributes := #[] }
def k12m6 : Method := { name := "absent", desc := "()Ljava/lang/Object;", sig := { parameters := [], returnType := some (.object "java/lang/Object") }, accessFlags := 1, code := some k12c6 }
def k12c7 : Code := { maxStack := 1, maxLocals := 1, code := prog_38_method_18_code, exceptionTable := #[], attributes := #[] }
def k12m7 : Method := { name := "stored", desc := "()Z", sig := { parameters := [], returnType := some .boolean }, accessFlags := 1, code := some k12c7 }
def k12c8 : Code := { maxStack := 1, maxLocals := 1, code := prog_38_method_19_code, exceptionTable := #[], attributes := #[] }
def k12m8 : Method := { name := "namedBy", desc := "()Lcom/example/cartulary/cartulary/StarTable$NamedBy;", sig := { parameters := [], returnType := some (.object "com/example/cartulary/cartulary/StarTable$NamedBy") }, accessFlags := 1, code := some k12c8 }
/-- com/example/cartulary/cartulary/StarTable$Column -/
def k12 : Class := { plain "com/example/cartulary/cartulary/StarTable$Column" (some 11) with
  accessFlags := 48
  interfaces := #[]
  cf := some (fileOf pool12 8 #[.nestHost 125] #[{ accessFlags := 0, nameIndex := 5, descriptorIndex := 62, attributes := #[] }, { accessFlags := 0, nameIndex := 112, descriptorIndex := 113, attributes := #[] }, { accessFlags := 1, nameIndex := 11, descriptorIndex := 116, attributes := #[] }, { accessFlags := 1, nameIndex := 15, descriptorIndex := 118, attributes := #[] }, { accessFlags := 1, nameIndex := 19, descriptorIndex := 117, attributes := #[] }, { accessFlags := 1, nameIndex := 23, descriptorIndex := 117, attributes := #[] }, { accessFlags := 1, nameIndex := 26, descriptorIndex := 119, attributes := #[] }, { accessFlags := 1, nameIndex := 30, descriptorIndex := 120, attributes := #[] }, { accessFlags := 1, nameIndex := 34, descriptorIndex := 121, attributes := #[] }] 48 2 #[] #[{ accessFlags := 18, nameIndex := 11, descriptorIndex := 12, attributes := #[] }, { accessFlags := 18, nameIndex := 15, descriptorIndex := 16, attributes := #[] }, { accessFlags := 18, nameIndex := 19, descriptorIndex := 20, attributes := #[] }, { accessFlags := 18, nameIndex := 23, descriptorIndex := 20, attributes := #[] }, { accessFlags := 18, nameIndex := 26, descriptorIndex := 27, attributes := #[] }, { accessFlags := 18, nameIndex := 30, descriptorIndex := 31, attributes := #[] }, { accessFlags := 18, nameIndex := 34, descriptorIndex := 35, attributes := #[] }])
  fields := #[{ name := "name", type := (.object "java/lang/String"), accessFlags := 18, slot := 0, constantValue := 0 }, { name := "type", type := (.object "com/example/cartulary/cartulary/ColumnType"), accessFlags := 18, slot := 1, constantValue := 0 }, { name := "size", type := .int, accessFlags := 18, slot := 2, constantValue := 0 }, { name := "scale", type := .int, accessFlags := 18, slot := 3, constantValue := 0 }, { name := "absent", type := (.object "java/lang/Object"), accessFlags := 18, slot := 4, constantValue := 0 }, { name := "stored", type := .boolean, accessFlags := 18, slot := 5, constantValue := 0 }, { name := "namedBy", type := (.object "com/example/cartulary/cartulary/StarTable$NamedBy"), accessFlags := 18, slot := 6, constantValue := 0 }]
  methods := #[k12m0, k12m1, k12m2, k12m3, k12m4, k12m5, k12m6, k12m7, k12m8]
  instanceTypes := #[(.object "java/lang/String"), (.object "com/example/cartulary/cartulary/ColumnType"), .int, .int, (.object "java/lang/Object"), .boolean, (.object "com/example/cartulary/cartulary/StarTable$NamedBy")]
  staticTypes := #[]
  resolved := Array.replicate 163 none
  statics := none }

def pool13 : Array CpInfo := pool [(1, .methodref 2 3), (0, .class_ 4), (0, .nameAndType 5 6), (0, u "java/lang/Record"), (0, u "<init>"), (0, u "()V"), (0, .fieldref 8 9), (0, .class_ 10), (0, .nameAndType 11 12), (0, u "com/example/cartulary/cartulary/StarTable$NamedBy"), (0, u "table"), (0, u "Lcom/example/cartulary/cartulary/StarTable;"), (0, .fieldref 8 14), (0, .nameAndType 15 16), (0, u "columns"), (0, u "Ljava/util/List;"), (14, u "(Lcom/example/cartulary/cartulary/StarTable;Ljava/util/List;)V"), (13, .class_ 46), (0, u "com/example/cartulary/cartulary/StarTable")] 20

def k13c0 : Code := { maxStack := 2, maxLocals := 3, code := prog_39_method_1_code, exceptionTable := #[], attributes := #[] }
def k13m0 : Method := { name := "<init>", desc := "(Lcom/example/cartulary/cartulary/StarTable;Ljava/util/List;)V", sig := { parameters := [(.object "com/example/cartulary/cartulary/StarTable"), (.object "java/util/List")], returnType := none }, accessFlags := 0, code := some k13c0 }
/-- com/example/cartulary/cartulary/StarTable$NamedBy -/
def k13 : Class := { plain "com/example/cartulary/cartulary/StarTable$NamedBy" (some 11) with
  accessFlags := 48
  interfaces := #[]
  cf := some (fileOf pool13 8 #[.nestHost 45] #[{ accessFlags := 0, nameIndex := 5, descriptorIndex := 31, attributes := #[] }] 48 2 #[] #[{ accessFlags := 18, nameIndex := 11, descriptorIndex := 12, attributes := #[] }, { accessFlags := 18, nameIndex := 15, descriptorIndex := 16, attributes := #[] }])
  fields := #[{ name := "table", type := (.object "com/example/cartulary/cartulary/StarTable"), accessFlags := 18, slot := 0, constantValue := 0 }, { name := "columns", type := (.object "java/util/List"), accessFlags := 18, slot := 1, constantValue := 0 }]
  methods := #[k13m0]
  instanceTypes := #[(.object "com/example/cartulary/cartulary/StarTable"), (.object "java/util/List")]
  staticTypes := #[]
  resolved := Array.replicate 67 none
  statics := none }

def pool14 : Array CpInfo := pool [(8, .class_ 10), (1, u "java/lang/Iterable"), (24, .class_ 36), (0, u "java/lang/Object")] 25

/-- java/lang/Iterable -/
def k14 : Class := { plain "java/lang/Iterable" (some 0) with
  accessFlags := 1537
  interfaces := #[]
  cf := some (fileOf pool14 8 #[] #[] 1537 35 #[] #[])
  fields := #[]
  methods := #[]
  instanceTypes := #[]
  staticTypes := #[]
  resolved := Array.replicate 62 none
  statics := none }

def pool15 : Array CpInfo := pool [(10, .class_ 12), (1, u "java/util/Collection"), (47, .class_ 61), (0, u "java/lang/Object"), (0, .class_ 63), (0, u "java/lang/Iterable")] 51

/-- java/util/Collection -/
def k15 : Class := { plain "java/util/Collection" (some 0) with
  accessFlags := 1537
  interfaces := #[14]
  cf := some (fileOf pool15 10 #[] #[] 1537 60 #[62] #[])
  fields := #[]
  methods := #[]
  instanceTypes := #[]
  staticTypes := #[]
  resolved := Array.replicate 115 none
  statics := none }

def pool16 : Array CpInfo := pool [(1, .methodref 2 3), (0, .class_ 4), (0, .nameAndType 5 6), (0, u "java/lang/Object"), (0, u "<init>"), (0, u "()V"), (1, .class_ 10), (1, u "java/util/AbstractCollection"), (66, .class_ 78), (0, u "java/util/Collection")] 81

def k16c0 : Code := { maxStack := 1, maxLocals := 1, code := jdk_22_method_1_code, exceptionTable := #[], attributes := #[] }
def k16m0 : Method := { name := "<init>", desc := "()V", sig := { parameters := [], returnType := none }, accessFlags := 4, code := some k16c0 }
/-- java/util/AbstractCollection -/
def k16 : Class := { plain "java/util/AbstractCollection" (some 0) with
  accessFlags := 1057
  interfaces := #[15]
  cf := some (fileOf pool16 8 #[] #[{ accessFlags := 4, nameIndex := 5, descriptorIndex := 6, attributes := #[] }] 1057 2 #[77] #[])
  fields := #[]
  methods := #[k16m0]
  instanceTypes := #[]
  staticTypes := #[]
  resolved := Array.replicate 160 none
  statics := none }

def pool17 : Array CpInfo := pool [(8, .class_ 10), (1, u "java/util/SequencedCollection"), (15, .class_ 27), (0, u "java/lang/Object"), (0, .class_ 29), (0, u "java/util/Collection")] 27

/-- java/util/SequencedCollection -/
def k17 : Class := { plain "java/util/SequencedCollection" (some 0) with
  accessFlags := 1537
  interfaces := #[15]
  cf := some (fileOf pool17 8 #[] #[] 1537 26 #[28] #[])
  fields := #[]
  methods := #[]
  instanceTypes := #[]
  staticTypes := #[]
  resolved := Array.replicate 57 none
  statics := none }

def pool18 : Array CpInfo := pool [(8, .class_ 10), (1, u "java/util/List"), (92, .class_ 104), (0, u "java/lang/Object"), (15, .class_ 121), (0, u "java/util/SequencedCollection")] 129

/-- java/util/List -/
def k18 : Class := { plain "java/util/List" (some 0) with
  accessFlags := 1537
  interfaces := #[17]
  cf := some (fileOf pool18 8 #[] #[] 1537 103 #[120] #[])
  fields := #[]
  methods := #[]
  instanceTypes := #[]
  staticTypes := #[]
  resolved := Array.replicate 251 none
  statics := none }

def pool19 : Array CpInfo := pool [(1, .methodref 2 3), (0, .class_ 4), (0, .nameAndType 5 6), (0, u "java/util/AbstractCollection"), (0, u "<init>"), (0, u "()V"), (0, .fieldref 8 9), (0, .class_ 10), (0, .nameAndType 11 12), (0, u "java/util/AbstractList"), (0, u "modCount"), (0, u "I"), (64, .class_ 78), (0, u "java/util/AbstractList$Itr"), (3, .class_ 83), (0, u "java/util/AbstractList$ListItr"), (9, .class_ 94), (0, u "java/util/AbstractList$RandomAccessSubList"), (3, .class_ 99), (0, u "java/util/AbstractList$SubList"), (33, .class_ 134), (0, u "java/util/List"), (73, .class_ 209), (0, u "java/util/AbstractList$SubList$1"), (0, .class_ 211), (0, u "java/util/AbstractList$RandomAccessSpliterator")] 6

def k19c0 : Code := { maxStack := 2, maxLocals := 1, code := jdk_39_method_1_code, exceptionTable := #[], attributes := #[] }
def k19m0 : Method := { name := "<init>", desc := "()V", sig := { parameters := [], returnType := none }, accessFlags := 4, code := some k19c0 }
/-- java/util/AbstractList -/
def k19 : Class := { plain "java/util/AbstractList" (some 16) with
  accessFlags := 1057
  interfaces := #[18]
  cf := some (fileOf pool19 8 #[.nestMembers #[93, 98, 208, 210, 82, 77]] #[{ accessFlags := 4, nameIndex := 5, descriptorIndex := 6, attributes := #[] }] 1057 2 #[133] #[{ accessFlags := 132, nameIndex := 11, descriptorIndex := 12, attributes := #[] }])
  fields := #[{ name := "modCount", type := .int, accessFlags := 132, slot := 0, constantValue := 0 }]
  methods := #[k19m0]
  instanceTypes := #[.int]
  staticTypes := #[]
  resolved := Array.replicate 218 none
  statics := none }

def pool20 : Array CpInfo := pool [(1, .class_ 2), (0, u "java/util/RandomAccess"), (0, .class_ 4), (0, u "java/lang/Object")] 2

/-- java/util/RandomAccess -/
def k20 : Class := { plain "java/util/RandomAccess" (some 0) with
  accessFlags := 1537
  interfaces := #[]
  cf := some (fileOf pool20 1 #[] #[] 1537 3 #[] #[])
  fields := #[]
  methods := #[]
  instanceTypes := #[]
  staticTypes := #[]
  resolved := Array.replicate 7 none
  statics := none }

def pool21 : Array CpInfo := pool [(1, .class_ 2), (0, u "java/lang/Cloneable"), (0, .class_ 4), (0, u "java/lang/Object")] 2

/-- java/lang/Cloneable -/
def k21 : Class := { plain "java/lang/Cloneable" (some 0) with
  accessFlags := 1537
  interfaces := #[]
  cf := some (fileOf pool21 1 #[] #[] 1537 3 #[] #[])
  fields := #[]
  methods := #[]
  instanceTypes := #[]
  staticTypes := #[]
  resolved := Array.replicate 7 none
  statics := none }

def pool22 : Array CpInfo := pool [(1, .methodref 2 3), (0, .class_ 4), (0, .nameAndType 5 6), (0, u "java/util/AbstractList"), (0, u "<init>"), (0, u "()V"), (2, .fieldref 10 11), (0, .class_ 12), (0, .nameAndType 13 14), (0, u "java/util/ArrayList"), (0, u "elementData"), (0, u "[Ljava/lang/Object;"), (2, u "EMPTY_ELEMENTDATA"), (21, .fieldref 10 40), (0, .nameAndType 41 14), (0, u "DEFAULTCAPACITY_EMPTY_ELEMENTDATA"), (8, u "size"), (0, u "I"), (96, .class_ 149), (0, u "java/util/List"), (112, .class_ 263), (0, u "java/util/ArrayList$ListItr"), (3, .class_ 268), (0, u "java/util/ArrayList$Itr"), (7, .class_ 277), (0, u "java/util/ArrayList$SubList"), (12, .class_ 291), (0, u "java/util/ArrayList$ArrayListSpliterator"), (37, .class_ 330), (0, u "java/util/RandomAccess"), (0, .class_ 332), (0, u "java/lang/Cloneable"), (0, .class_ 334), (0, u "java/io/Serializable"), (0, u "serialVersionUID"), (0, u "J"), (3, u "DEFAULT_CAPACITY"), (159, .class_ 501), (0, u "java/util/ArrayList$SubList$2"), (0, .class_ 503), (0, u "java/util/ArrayList$SubList$1")] 5

def k22c0 : Code := { maxStack := 2, maxLocals := 1, code := jdk_38_method_2_code, exceptionTable := #[], attributes := #[] }
def k22m0 : Method := { name := "<init>", desc := "()V", sig := { parameters := [], returnType := none }, accessFlags := 1, code := some k22c0 }
/-- java/util/ArrayList -/
def k22 : Class := { plain "java/util/ArrayList" (some 19) with
  accessFlags := 33
  interfaces := #[18, 20, 21, 4]
  cf := some (fileOf pool22 10 #[.nestMembers #[290, 276, 500, 502, 262, 267]] #[{ accessFlags := 1, nameIndex := 5, descriptorIndex := 6, attributes := #[] }] 33 2 #[148, 329, 331, 333] #[{ accessFlags := 26, nameIndex := 335, descriptorIndex := 336, attributes := #[] }, { accessFlags := 26, nameIndex := 340, descriptorIndex := 51, attributes := #[] }, { accessFlags := 26, nameIndex := 17, descriptorIndex := 14, attributes := #[] }, { accessFlags := 26, nameIndex := 41, descriptorIndex := 14, attributes := #[] }, { accessFlags := 128, nameIndex := 13, descriptorIndex := 14, attributes := #[] }, { accessFlags := 2, nameIndex := 50, descriptorIndex := 51, attributes := #[] }])
  fields := #[{ name := "serialVersionUID", type := .long, accessFlags := 26, slot := 0, constantValue := 0 }, { name := "DEFAULT_CAPACITY", type := .int, accessFlags := 26, slot := 1, constantValue := 0 }, { name := "EMPTY_ELEMENTDATA", type := (.array (.object "java/lang/Object")), accessFlags := 26, slot := 2, constantValue := 0 }, { name := "DEFAULTCAPACITY_EMPTY_ELEMENTDATA", type := (.array (.object "java/lang/Object")), accessFlags := 26, slot := 3, constantValue := 0 }, { name := "elementData", type := (.array (.object "java/lang/Object")), accessFlags := 128, slot := 1, constantValue := 0 }, { name := "size", type := .int, accessFlags := 2, slot := 2, constantValue := 0 }]
  methods := #[k22m0]
  instanceTypes := #[.int, (.array (.object "java/lang/Object")), .int]
  staticTypes := #[.long, .int, (.array (.object "java/lang/Object")), (.array (.object "java/lang/Object"))]
  resolved := Array.replicate 509 none
  statics := some 2 }

def pool23 : Array CpInfo := pool [(1, .methodref 2 3), (0, .class_ 4), (0, .nameAndType 5 6), (0, u "java/lang/Object"), (0, u "<init>"), (0, u "()V"), (1, .class_ 10), (1, u "java/lang/Number"), (2, .class_ 14), (0, u "java/io/Serializable"), (0, u "serialVersionUID"), (0, u "J")] 20

def k23c0 : Code := { maxStack := 1, maxLocals := 1, code := jdk_18_method_1_code, exceptionTable := #[], attributes := #[] }
def k23m0 : Method := { name := "<init>", desc := "()V", sig := { parameters := [], returnType := none }, accessFlags := 1, code := some k23c0 }
/-- java/lang/Number -/
def k23 : Class := { plain "java/lang/Number" (some 0) with
  accessFlags := 1057
  interfaces := #[4]
  cf := some (fileOf pool23 8 #[] #[{ accessFlags := 1, nameIndex := 5, descriptorIndex := 6, attributes := #[] }] 1057 2 #[13] #[{ accessFlags := 26, nameIndex := 15, descriptorIndex := 16, attributes := #[] }])
  fields := #[{ name := "serialVersionUID", type := .long, accessFlags := 26, slot := 0, constantValue := 0 }]
  methods := #[k23m0]
  instanceTypes := #[]
  staticTypes := #[.long]
  resolved := Array.replicate 37 none
  statics := none }

def pool24 : Array CpInfo := pool [(1, .class_ 2), (0, u "java/lang/Integer"), (16, u "digits"), (0, u "[C"), (46, u "<init>"), (17, u "DigitOnes"), (0, u "[B"), (2, u "DigitTens"), (10, .nameAndType 67 101), (0, u "()V"), (85, u "valueOf"), (0, u "(I)Ljava/lang/Integer;"), (0, .class_ 190), (0, u "java/lang/Integer$IntegerCache"), (0, .fieldref 189 192), (0, .nameAndType 193 194), (0, u "high"), (0, u "I"), (0, .fieldref 189 196), (0, .nameAndType 197 198), (0, u "cache"), (0, u "[Ljava/lang/Integer;"), (0, .methodref 1 200), (0, .nameAndType 67 201), (0, u "(I)V"), (0, .methodref 203 100), (0, .class_ 204), (0, u "java/lang/Number"), (0, .fieldref 1 206), (0, .nameAndType 207 194), (0, u "value"), (94, u "TYPE"), (0, u "Ljava/lang/Class;"), (0, .class_ 305), (0, u "java/lang/Comparable"), (0, .class_ 307), (0, u "java/lang/constant/Constable"), (0, .class_ 309), (0, u "java/lang/constant/ConstantDesc"), (0, u "MIN_VALUE"), (1, u "MAX_VALUE"), (3, u "SIZE"), (1, u "BYTES"), (1, u "serialVersionUID"), (0, u "J")] 131

def k24c0 : Code := { maxStack := 3, maxLocals := 1, code := jdk_33_method_22_code, exceptionTable := #[], attributes := #[] }
def k24m0 : Method := { name := "valueOf", desc := "(I)Ljava/lang/Integer;", sig := { parameters := [.int], returnType := some (.object "java/lang/Integer") }, accessFlags := 9, code := some k24c0 }
def k24c1 : Code := { maxStack := 2, maxLocals := 2, code := jdk_33_method_23_code, exceptionTable := #[], attributes := #[] }
def k24m1 : Method := { name := "<init>", desc := "(I)V", sig := { parameters := [.int], returnType := none }, accessFlags := 1, code := some k24c1 }
/-- java/lang/Integer -/
def k24 : Class := { plain "java/lang/Integer" (some 23) with
  accessFlags := 49
  interfaces := #[3, 2, 8]
  cf := some (fileOf pool24 1 #[.nestMembers #[189]] #[{ accessFlags := 9, nameIndex := 187, descriptorIndex := 188, attributes := #[] }, { accessFlags := 1, nameIndex := 67, descriptorIndex := 201, attributes := #[] }] 49 203 #[304, 306, 308] #[{ accessFlags := 25, nameIndex := 310, descriptorIndex := 194, attributes := #[] }, { accessFlags := 25, nameIndex := 312, descriptorIndex := 194, attributes := #[] }, { accessFlags := 25, nameIndex := 302, descriptorIndex := 303, attributes := #[] }, { accessFlags := 24, nameIndex := 19, descriptorIndex := 20, attributes := #[] }, { accessFlags := 24, nameIndex := 89, descriptorIndex := 86, attributes := #[] }, { accessFlags := 24, nameIndex := 85, descriptorIndex := 86, attributes := #[] }, { accessFlags := 18, nameIndex := 207, descriptorIndex := 194, attributes := #[] }, { accessFlags := 25, nameIndex := 316, descriptorIndex := 194, attributes := #[] }, { accessFlags := 25, nameIndex := 318, descriptorIndex := 194, attributes := #[] }, { accessFlags := 26, nameIndex := 320, descriptorIndex := 321, attributes := #[] }])
  fields := #[{ name := "MIN_VALUE", type := .int, accessFlags := 25, slot := 0, constantValue := 0 }, { name := "MAX_VALUE", type := .int, accessFlags := 25, slot := 1, constantValue := 0 }, { name := "TYPE", type := (.object "java/lang/Class"), accessFlags := 25, slot := 2, constantValue := 0 }, { name := "digits", type := (.array .char), accessFlags := 24, slot := 3, constantValue := 0 }, { name := "DigitTens", type := (.array .byte), accessFlags := 24, slot := 4, constantValue := 0 }, { name := "DigitOnes", type := (.array .byte), accessFlags := 24, slot := 5, constantValue := 0 }, { name := "value", type := .int, accessFlags := 18, slot := 0, constantValue := 0 }, { name := "SIZE", type := .int, accessFlags := 25, slot := 6, constantValue := 0 }, { name := "BYTES", type := .int, accessFlags := 25, slot := 7, constantValue := 0 }, { name := "serialVersionUID", type := .long, accessFlags := 26, slot := 8, constantValue := 0 }]
  methods := #[k24m0, k24m1]
  instanceTypes := #[.int]
  staticTypes := #[.int, .int, (.object "java/lang/Class"), (.array .char), (.array .byte), (.array .byte), .int, .int, .long]
  resolved := Array.replicate 453 none
  statics := none }

def pool25 : Array CpInfo := pool [(2, .class_ 4), (1, u "java/lang/Object"), (0, u "<init>"), (0, u "()V"), (0, .class_ 8), (0, u "java/lang/Integer"), (7, .class_ 18), (1, u "java/lang/Integer$IntegerCache"), (0, u "$assertionsDisabled"), (0, u "Z"), (26, u "high"), (0, u "I"), (8, u "archivedCache"), (0, u "[Ljava/lang/Integer;"), (12, u "cache"), (0, u "low")] 27

def k25m0 : Method := { name := "<init>", desc := "()V", sig := { parameters := [], returnType := none }, accessFlags := 2, code := none }
/-- java/lang/Integer$IntegerCache -/
def k25 : Class := { plain "java/lang/Integer$IntegerCache" (some 0) with
  accessFlags := 48
  interfaces := #[]
  cf := some (fileOf pool25 16 #[.nestHost 7] #[{ accessFlags := 2, nameIndex := 5, descriptorIndex := 6, attributes := #[] }] 48 2 #[] #[{ accessFlags := 24, nameIndex := 72, descriptorIndex := 48, attributes := #[] }, { accessFlags := 24, nameIndex := 47, descriptorIndex := 48, attributes := #[] }, { accessFlags := 24, nameIndex := 71, descriptorIndex := 58, attributes := #[] }, { accessFlags := 8, nameIndex := 57, descriptorIndex := 58, attributes := #[] }, { accessFlags := 4120, nameIndex := 19, descriptorIndex := 20, attributes := #[] }])
  fields := #[{ name := "low", type := .int, accessFlags := 24, slot := 0, constantValue := 0 }, { name := "high", type := .int, accessFlags := 24, slot := 1, constantValue := 0 }, { name := "cache", type := (.array (.object "java/lang/Integer")), accessFlags := 24, slot := 2, constantValue := 0 }, { name := "archivedCache", type := (.array (.object "java/lang/Integer")), accessFlags := 8, slot := 3, constantValue := 0 }, { name := "$assertionsDisabled", type := .boolean, accessFlags := 4120, slot := 4, constantValue := 0 }]
  methods := #[k25m0]
  instanceTypes := #[]
  staticTypes := #[.int, .int, (.array (.object "java/lang/Integer")), (.array (.object "java/lang/Integer")), .boolean]
  resolved := Array.replicate 100 none
  statics := some 3 }

def pool26 : Array CpInfo := pool [(4, .class_ 6), (1, u "java/lang/Object"), (0, u "<init>"), (0, u "()V"), (5, .class_ 16), (1, u "java/lang/StringLatin1"), (104, u "$assertionsDisabled"), (0, u "Z"), (98, .class_ 223), (1, u "java/lang/StringLatin1$LinesSpliterator"), (166, .class_ 391), (0, u "java/lang/StringLatin1$CharsSpliterator")] 3

def k26m0 : Method := { name := "<init>", desc := "()V", sig := { parameters := [], returnType := none }, accessFlags := 0, code := none }
/-- java/lang/StringLatin1 -/
def k26 : Class := { plain "java/lang/StringLatin1" (some 0) with
  accessFlags := 48
  interfaces := #[]
  cf := some (fileOf pool26 14 #[.nestMembers #[390, 221]] #[{ accessFlags := 0, nameIndex := 7, descriptorIndex := 8, attributes := #[] }] 48 4 #[] #[{ accessFlags := 4120, nameIndex := 121, descriptorIndex := 122, attributes := #[] }])
  fields := #[{ name := "$assertionsDisabled", type := .boolean, accessFlags := 4120, slot := 0, constantValue := 0 }]
  methods := #[k26m0]
  instanceTypes := #[]
  staticTypes := #[.boolean]
  resolved := Array.replicate 395 none
  statics := none }

def pool27 : Array CpInfo := pool [(2, .class_ 4), (1, u "java/lang/Object"), (0, u "<init>"), (0, u "()V"), (17, .class_ 26), (1, u "jdk/internal/util/Preconditions"), (28, .class_ 56), (0, u "jdk/internal/util/Preconditions$4"), (57, .class_ 115), (0, u "jdk/internal/util/Preconditions$1"), (7, u "SIOOBE_FORMATTER"), (0, u "Ljava/util/function/BiFunction;"), (0, .class_ 126), (0, u "jdk/internal/util/Preconditions$2"), (3, u "AIOOBE_FORMATTER"), (0, .class_ 132), (0, u "jdk/internal/util/Preconditions$3"), (3, u "IOOBE_FORMATTER")] 57

def k27m0 : Method := { name := "<init>", desc := "()V", sig := { parameters := [], returnType := none }, accessFlags := 1, code := none }
/-- jdk/internal/util/Preconditions -/
def k27 : Class := { plain "jdk/internal/util/Preconditions" (some 0) with
  accessFlags := 33
  interfaces := #[]
  cf := some (fileOf pool27 24 #[.nestMembers #[55, 131, 125, 114]] #[{ accessFlags := 1, nameIndex := 5, descriptorIndex := 6, attributes := #[] }] 33 2 #[] #[{ accessFlags := 25, nameIndex := 123, descriptorIndex := 124, attributes := #[] }, { accessFlags := 25, nameIndex := 130, descriptorIndex := 124, attributes := #[] }, { accessFlags := 25, nameIndex := 136, descriptorIndex := 124, attributes := #[] }])
  fields := #[{ name := "SIOOBE_FORMATTER", type := (.object "java/util/function/BiFunction"), accessFlags := 25, slot := 0, constantValue := 0 }, { name := "AIOOBE_FORMATTER", type := (.object "java/util/function/BiFunction"), accessFlags := 25, slot := 1, constantValue := 0 }, { name := "IOOBE_FORMATTER", type := (.object "java/util/function/BiFunction"), accessFlags := 25, slot := 2, constantValue := 0 }]
  methods := #[k27m0]
  instanceTypes := #[]
  staticTypes := #[(.object "java/util/function/BiFunction"), (.object "java/util/function/BiFunction"), (.object "java/util/function/BiFunction")]
  resolved := Array.replicate 194 none
  statics := some 4 }

def pool28 : Array CpInfo := pool [(9, u "<init>"), (6, .class_ 18), (1, u "java/lang/Object"), (0, u "()V"), (1, .class_ 23), (1, u "jdk/internal/util/ArraysSupport"), (0, u "LOG2_ARRAY_LONG_INDEX_SCALE"), (0, u "I"), (2, u "U"), (0, u "Ljdk/internal/misc/Unsafe;"), (8, u "BIG_ENDIAN"), (0, u "Z"), (8, u "LOG2_BYTE_BIT_SIZE"), (4, u "LOG2_ARRAY_INT_INDEX_SCALE"), (54, u "JLA"), (0, u "Ljdk/internal/access/JavaLangAccess;"), (11, u "LOG2_ARRAY_BOOLEAN_INDEX_SCALE"), (9, u "LOG2_ARRAY_BYTE_INDEX_SCALE"), (5, u "LOG2_ARRAY_CHAR_INDEX_SCALE"), (5, u "LOG2_ARRAY_SHORT_INDEX_SCALE"), (18, u "LOG2_ARRAY_FLOAT_INDEX_SCALE"), (24, u "LOG2_ARRAY_DOUBLE_INDEX_SCALE"), (89, u "T_BOOLEAN"), (2, u "T_CHAR"), (1, u "T_FLOAT"), (1, u "T_DOUBLE"), (1, u "T_BYTE"), (1, u "T_SHORT"), (1, u "T_INT"), (1, u "T_LONG"), (1, u "SOFT_MAX_ARRAY_LENGTH")] 83

def k28m0 : Method := { name := "<init>", desc := "()V", sig := { parameters := [], returnType := none }, accessFlags := 2, code := none }
/-- jdk/internal/util/ArraysSupport -/
def k28 : Class := { plain "jdk/internal/util/ArraysSupport" (some 0) with
  accessFlags := 33
  interfaces := #[]
  cf := some (fileOf pool28 21 #[] #[{ accessFlags := 2, nameIndex := 9, descriptorIndex := 19, attributes := #[] }] 33 16 #[] #[{ accessFlags := 24, nameIndex := 28, descriptorIndex := 29, attributes := #[] }, { accessFlags := 26, nameIndex := 38, descriptorIndex := 39, attributes := #[] }, { accessFlags := 25, nameIndex := 121, descriptorIndex := 25, attributes := #[] }, { accessFlags := 25, nameIndex := 131, descriptorIndex := 25, attributes := #[] }, { accessFlags := 25, nameIndex := 137, descriptorIndex := 25, attributes := #[] }, { accessFlags := 25, nameIndex := 143, descriptorIndex := 25, attributes := #[] }, { accessFlags := 25, nameIndex := 53, descriptorIndex := 25, attributes := #[] }, { accessFlags := 25, nameIndex := 24, descriptorIndex := 25, attributes := #[] }, { accessFlags := 25, nameIndex := 162, descriptorIndex := 25, attributes := #[] }, { accessFlags := 25, nameIndex := 187, descriptorIndex := 25, attributes := #[] }, { accessFlags := 26, nameIndex := 48, descriptorIndex := 25, attributes := #[] }, { accessFlags := 25, nameIndex := 277, descriptorIndex := 25, attributes := #[] }, { accessFlags := 25, nameIndex := 280, descriptorIndex := 25, attributes := #[] }, { accessFlags := 25, nameIndex := 282, descriptorIndex := 25, attributes := #[] }, { accessFlags := 25, nameIndex := 284, descriptorIndex := 25, attributes := #[] }, { accessFlags := 25, nameIndex := 286, descriptorIndex := 25, attributes := #[] }, { accessFlags := 25, nameIndex := 288, descriptorIndex := 25, attributes := #[] }, { accessFlags := 25, nameIndex := 290, descriptorIndex := 25, attributes := #[] }, { accessFlags := 25, nameIndex := 292, descriptorIndex := 25, attributes := #[] }, { accessFlags := 26, nameIndex := 108, descriptorIndex := 109, attributes := #[] }, { accessFlags := 25, nameIndex := 294, descriptorIndex := 25, attributes := #[] }])
  fields := #[{ name := "U", type := (.object "jdk/internal/misc/Unsafe"), accessFlags := 24, slot := 0, constantValue := 0 }, { name := "BIG_ENDIAN", type := .boolean, accessFlags := 26, slot := 1, constantValue := 0 }, { name := "LOG2_ARRAY_BOOLEAN_INDEX_SCALE", type := .int, accessFlags := 25, slot := 2, constantValue := 0 }, { name := "LOG2_ARRAY_BYTE_INDEX_SCALE", type := .int, accessFlags := 25, slot := 3, constantValue := 0 }, { name := "LOG2_ARRAY_CHAR_INDEX_SCALE", type := .int, accessFlags := 25, slot := 4, constantValue := 0 }, { name := "LOG2_ARRAY_SHORT_INDEX_SCALE", type := .int, accessFlags := 25, slot := 5, constantValue := 0 }, { name := "LOG2_ARRAY_INT_INDEX_SCALE", type := .int, accessFlags := 25, slot := 6, constantValue := 0 }, { name := "LOG2_ARRAY_LONG_INDEX_SCALE", type := .int, accessFlags := 25, slot := 7, constantValue := 0 }, { name := "LOG2_ARRAY_FLOAT_INDEX_SCALE", type := .int, accessFlags := 25, slot := 8, constantValue := 0 }, { name := "LOG2_ARRAY_DOUBLE_INDEX_SCALE", type := .int, accessFlags := 25, slot := 9, constantValue := 0 }, { name := "LOG2_BYTE_BIT_SIZE", type := .int, accessFlags := 26, slot := 10, constantValue := 0 }, { name := "T_BOOLEAN", type := .int, accessFlags := 25, slot := 11, constantValue := 0 }, { name := "T_CHAR", type := .int, accessFlags := 25, slot := 12, constantValue := 0 }, { name := "T_FLOAT", type := .int, accessFlags := 25, slot := 13, constantValue := 0 }, { name := "T_DOUBLE", type := .int, accessFlags := 25, slot := 14, constantValue := 0 }, { name := "T_BYTE", type := .int, accessFlags := 25, slot := 15, constantValue := 0 }, { name := "T_SHORT", type := .int, accessFlags := 25, slot := 16, constantValue := 0 }, { name := "T_INT", type := .int, accessFlags := 25, slot := 17, constantValue := 0 }, { name := "T_LONG", type := .int, accessFlags := 25, slot := 18, constantValue := 0 }, { name := "JLA", type := (.object "jdk/internal/access/JavaLangAccess"), accessFlags := 26, slot := 19, constantValue := 0 }, { name := "SOFT_MAX_ARRAY_LENGTH", type := .int, accessFlags := 25, slot := 20, constantValue := 0 }]
  methods := #[k28m0]
  instanceTypes := #[]
  staticTypes := #[(.object "jdk/internal/misc/Unsafe"), .boolean, .int, .int, .int, .int, .int, .int, .int, .int, .int, .int, .int, .int, .int, .int, .int, .int, .int, (.object "jdk/internal/access/JavaLangAccess"), .int]
  resolved := Array.replicate 378 none
  statics := none }

def pool29 : Array CpInfo := pool [(2, .class_ 4), (1, u "com/example/cartulary/cartulary/ColumnType"), (23, .class_ 29), (0, u "com/example/cartulary/cartulary/ColumnType$1")] 27

/-- com/example/cartulary/cartulary/ColumnType$1 -/
def k29 : Class := { plain "com/example/cartulary/cartulary/ColumnType$1" (some 6) with
  accessFlags := 16432
  interfaces := #[]
  cf := some (fileOf pool29 28 #[.nestHost 2] #[] 16432 2 #[] #[])
  fields := #[]
  methods := #[]
  instanceTypes := #[(.object "java/lang/String"), .int, .int, (.object "java/lang/String"), (.object "java/lang/Class")]
  staticTypes := #[]
  resolved := Array.replicate 57 none
  statics := none }

def pool30 : Array CpInfo := pool [(2, .class_ 4), (1, u "com/example/cartulary/cartulary/ColumnType"), (28, .class_ 34), (0, u "com/example/cartulary/cartulary/ColumnType$2")] 13

/-- com/example/cartulary/cartulary/ColumnType$2 -/
def k30 : Class := { plain "com/example/cartulary/cartulary/ColumnType$2" (some 6) with
  accessFlags := 16432
  interfaces := #[]
  cf := some (fileOf pool30 33 #[.nestHost 2] #[] 16432 2 #[] #[])
  fields := #[]
  methods := #[]
  instanceTypes := #[(.object "java/lang/String"), .int, .int, (.object "java/lang/String"), (.object "java/lang/Class")]
  staticTypes := #[]
  resolved := Array.replicate 48 none
  statics := none }

def pool31 : Array CpInfo := pool [(1, .class_ 2), (0, u "com/example/cartulary/cartulary/ColumnType"), (76, .class_ 81), (1, u "com/example/cartulary/cartulary/ColumnType$4")] 76

/-- com/example/cartulary/cartulary/ColumnType$4 -/
def k31 : Class := { plain "com/example/cartulary/cartulary/ColumnType$4" (some 6) with
  accessFlags := 16432
  interfaces := #[]
  cf := some (fileOf pool31 79 #[.nestHost 1] #[] 16432 1 #[] #[])
  fields := #[]
  methods := #[]
  instanceTypes := #[(.object "java/lang/String"), .int, .int, (.object "java/lang/String"), (.object "java/lang/Class")]
  staticTypes := #[]
  resolved := Array.replicate 158 none
  statics := none }

def pool32 : Array CpInfo := pool [(2, .class_ 4), (1, u "com/example/cartulary/cartulary/ColumnType"), (32, .class_ 39), (1, u "com/example/cartulary/cartulary/ColumnType$3")] 73

/-- com/example/cartulary/cartulary/ColumnType$3 -/
def k32 : Class := { plain "com/example/cartulary/cartulary/ColumnType$3" (some 6) with
  accessFlags := 16432
  interfaces := #[]
  cf := some (fileOf pool32 37 #[.nestHost 2] #[] 16432 2 #[] #[])
  fields := #[]
  methods := #[]
  instanceTypes := #[(.object "java/lang/String"), .int, .int, (.object "java/lang/String"), (.object "java/lang/Class")]
  staticTypes := #[]
  resolved := Array.replicate 113 none
  statics := none }

/-- the primitive byte -/
def k33 : Class := { plain "byte" none with kind := .primitive 'B', accessFlags := 0x411 }
/-- [B -/
def k34 : Class := { plain "[B" (some 0) with kind := .array 33 .byte, interfaces := #[21, 4], accessFlags := 1041 }

/-- the primitive char -/
def k35 : Class := { plain "char" none with kind := .primitive 'C', accessFlags := 0x411 }
/-- [C -/
def k36 : Class := { plain "[C" (some 0) with kind := .array 35 .char, interfaces := #[21, 4], accessFlags := 1041 }

/-- the primitive int -/
def k37 : Class := { plain "int" none with kind := .primitive 'I', accessFlags := 0x411 }
/-- [I -/
def k38 : Class := { plain "[I" (some 0) with kind := .array 37 .int, interfaces := #[21, 4], accessFlags := 1041 }

/-- [Ljava/lang/Integer; -/
def k39 : Class := { plain "[Ljava/lang/Integer;" (some 0) with kind := .array 24 (.object "java/lang/Integer"), interfaces := #[21, 4], accessFlags := 1041 }

/-- [Ljava/lang/Object; -/
def k40 : Class := { plain "[Ljava/lang/Object;" (some 0) with kind := .array 0 (.object "java/lang/Object"), interfaces := #[21, 4], accessFlags := 1041 }

def heap : Heap := #[{ cls := 6, slots := #[.ref 6, .ref 7, .ref 9, .ref 8, .int 0, .null, .null, .null, .null, .null], vm := .statics 6 },
  { cls := 9, slots := #[.long 0, .int 1, .null, .int 0, .null, .int 0, .int 0], vm := .statics 9 },
  { cls := 22, slots := #[.long 0, .int 0, .ref 266, .ref 267], vm := .statics 22 },
  { cls := 25, slots := #[.int 0, .int 127, .ref 5, .null, .int 0], vm := .statics 25 },
  { cls := 27, slots := #[.null, .null, .null], vm := .statics 27 },
  { cls := 39, slots := #[.ref 10, .ref 11, .ref 12, .ref 13, .ref 14, .ref 15, .ref 16, .ref 17, .ref 18, .ref 19, .ref 20, .ref 21, .ref 22, .ref 23, .ref 24, .ref 25, .ref 26, .ref 27, .ref 28, .ref 29, .ref 30, .ref 31, .ref 32, .ref 33, .ref 34, .ref 35, .ref 36, .ref 37, .ref 38, .ref 39, .ref 40, .ref 41, .ref 42, .ref 43, .ref 44, .ref 45, .ref 46, .ref 47, .ref 48, .ref 49, .ref 50, .ref 51, .ref 52, .ref 53, .ref 54, .ref 55, .ref 56, .ref 57, .ref 58, .ref 59, .ref 60, .ref 61, .ref 62, .ref 63, .ref 64, .ref 65, .ref 66, .ref 67, .ref 68, .ref 69, .ref 70, .ref 71, .ref 72, .ref 73, .ref 74, .ref 75, .ref 76, .ref 77, .ref 78, .ref 79, .ref 80, .ref 81, .ref 82, .ref 83, .ref 84, .ref 85, .ref 86, .ref 87, .ref 88, .ref 89, .ref 90, .ref 91, .ref 92, .ref 93, .ref 94, .ref 95, .ref 96, .ref 97, .ref 98, .ref 99, .ref 100, .ref 101, .ref 102, .ref 103, .ref 104, .ref 105, .ref 106, .ref 107, .ref 108, .ref 109, .ref 110, .ref 111, .ref 112, .ref 113, .ref 114, .ref 115, .ref 116, .ref 117, .ref 118, .ref 119, .ref 120, .ref 121, .ref 122, .ref 123, .ref 124, .ref 125, .ref 126, .ref 127, .ref 128, .ref 129, .ref 130, .ref 131, .ref 132, .ref 133, .ref 134, .ref 135, .ref 136, .ref 137, .ref 138, .ref 139, .ref 140, .ref 141, .ref 142, .ref 143, .ref 144, .ref 145, .ref 146, .ref 147, .ref 148, .ref 149, .ref 150, .ref 151, .ref 152, .ref 153, .ref 154, .ref 155, .ref 156, .ref 157, .ref 158, .ref 159, .ref 160, .ref 161, .ref 162, .ref 163, .ref 164, .ref 165, .ref 166, .ref 167, .ref 168, .ref 169, .ref 170, .ref 171, .ref 172, .ref 173, .ref 174, .ref 175, .ref 176, .ref 177, .ref 178, .ref 179, .ref 180, .ref 181, .ref 182, .ref 183, .ref 184, .ref 185, .ref 186, .ref 187, .ref 188, .ref 189, .ref 190, .ref 191, .ref 192, .ref 193, .ref 194, .ref 195, .ref 196, .ref 197, .ref 198, .ref 199, .ref 200, .ref 201, .ref 202, .ref 203, .ref 204, .ref 205, .ref 206, .ref 207, .ref 208, .ref 209, .ref 210, .ref 211, .ref 212, .ref 213, .ref 214, .ref 215, .ref 216, .ref 217, .ref 218, .ref 219, .ref 220, .ref 221, .ref 222, .ref 223, .ref 224, .ref 225, .ref 226, .ref 227, .ref 228, .ref 229, .ref 230, .ref 231, .ref 232, .ref 233, .ref 234, .ref 235, .ref 236, .ref 237, .ref 238, .ref 239, .ref 240, .ref 241, .ref 242, .ref 243, .ref 244, .ref 245, .ref 246, .ref 247, .ref 248, .ref 249, .ref 250, .ref 251, .ref 252, .ref 253, .ref 254, .ref 255, .ref 256, .ref 257, .ref 258, .ref 259, .ref 260, .ref 261, .ref 262, .ref 263, .ref 264, .ref 265], vm := .none },
  { cls := 29, slots := #[.null, .int 0, .int 0, .null, .null], vm := .none },
  { cls := 30, slots := #[.null, .int 0, .int 0, .null, .null], vm := .none },
  { cls := 31, slots := #[.null, .int 0, .int 0, .null, .null], vm := .none },
  { cls := 32, slots := #[.null, .int 0, .int 0, .null, .null], vm := .none },
  { cls := 24, slots := #[.int (-128)], vm := .none },
  { cls := 24, slots := #[.int (-127)], vm := .none },
  { cls := 24, slots := #[.int (-126)], vm := .none },
  { cls := 24, slots := #[.int (-125)], vm := .none },
  { cls := 24, slots := #[.int (-124)], vm := .none },
  { cls := 24, slots := #[.int (-123)], vm := .none },
  { cls := 24, slots := #[.int (-122)], vm := .none },
  { cls := 24, slots := #[.int (-121)], vm := .none },
  { cls := 24, slots := #[.int (-120)], vm := .none },
  { cls := 24, slots := #[.int (-119)], vm := .none },
  { cls := 24, slots := #[.int (-118)], vm := .none },
  { cls := 24, slots := #[.int (-117)], vm := .none },
  { cls := 24, slots := #[.int (-116)], vm := .none },
  { cls := 24, slots := #[.int (-115)], vm := .none },
  { cls := 24, slots := #[.int (-114)], vm := .none },
  { cls := 24, slots := #[.int (-113)], vm := .none },
  { cls := 24, slots := #[.int (-112)], vm := .none },
  { cls := 24, slots := #[.int (-111)], vm := .none },
  { cls := 24, slots := #[.int (-110)], vm := .none },
  { cls := 24, slots := #[.int (-109)], vm := .none },
  { cls := 24, slots := #[.int (-108)], vm := .none },
  { cls := 24, slots := #[.int (-107)], vm := .none },
  { cls := 24, slots := #[.int (-106)], vm := .none },
  { cls := 24, slots := #[.int (-105)], vm := .none },
  { cls := 24, slots := #[.int (-104)], vm := .none },
  { cls := 24, slots := #[.int (-103)], vm := .none },
  { cls := 24, slots := #[.int (-102)], vm := .none },
  { cls := 24, slots := #[.int (-101)], vm := .none },
  { cls := 24, slots := #[.int (-100)], vm := .none },
  { cls := 24, slots := #[.int (-99)], vm := .none },
  { cls := 24, slots := #[.int (-98)], vm := .none },
  { cls := 24, slots := #[.int (-97)], vm := .none },
  { cls := 24, slots := #[.int (-96)], vm := .none },
  { cls := 24, slots := #[.int (-95)], vm := .none },
  { cls := 24, slots := #[.int (-94)], vm := .none },
  { cls := 24, slots := #[.int (-93)], vm := .none },
  { cls := 24, slots := #[.int (-92)], vm := .none },
  { cls := 24, slots := #[.int (-91)], vm := .none },
  { cls := 24, slots := #[.int (-90)], vm := .none },
  { cls := 24, slots := #[.int (-89)], vm := .none },
  { cls := 24, slots := #[.int (-88)], vm := .none },
  { cls := 24, slots := #[.int (-87)], vm := .none },
  { cls := 24, slots := #[.int (-86)], vm := .none },
  { cls := 24, slots := #[.int (-85)], vm := .none },
  { cls := 24, slots := #[.int (-84)], vm := .none },
  { cls := 24, slots := #[.int (-83)], vm := .none },
  { cls := 24, slots := #[.int (-82)], vm := .none },
  { cls := 24, slots := #[.int (-81)], vm := .none },
  { cls := 24, slots := #[.int (-80)], vm := .none },
  { cls := 24, slots := #[.int (-79)], vm := .none },
  { cls := 24, slots := #[.int (-78)], vm := .none },
  { cls := 24, slots := #[.int (-77)], vm := .none },
  { cls := 24, slots := #[.int (-76)], vm := .none },
  { cls := 24, slots := #[.int (-75)], vm := .none },
  { cls := 24, slots := #[.int (-74)], vm := .none },
  { cls := 24, slots := #[.int (-73)], vm := .none },
  { cls := 24, slots := #[.int (-72)], vm := .none },
  { cls := 24, slots := #[.int (-71)], vm := .none },
  { cls := 24, slots := #[.int (-70)], vm := .none },
  { cls := 24, slots := #[.int (-69)], vm := .none },
  { cls := 24, slots := #[.int (-68)], vm := .none },
  { cls := 24, slots := #[.int (-67)], vm := .none },
  { cls := 24, slots := #[.int (-66)], vm := .none },
  { cls := 24, slots := #[.int (-65)], vm := .none },
  { cls := 24, slots := #[.int (-64)], vm := .none },
  { cls := 24, slots := #[.int (-63)], vm := .none },
  { cls := 24, slots := #[.int (-62)], vm := .none },
  { cls := 24, slots := #[.int (-61)], vm := .none },
  { cls := 24, slots := #[.int (-60)], vm := .none },
  { cls := 24, slots := #[.int (-59)], vm := .none },
  { cls := 24, slots := #[.int (-58)], vm := .none },
  { cls := 24, slots := #[.int (-57)], vm := .none },
  { cls := 24, slots := #[.int (-56)], vm := .none },
  { cls := 24, slots := #[.int (-55)], vm := .none },
  { cls := 24, slots := #[.int (-54)], vm := .none },
  { cls := 24, slots := #[.int (-53)], vm := .none },
  { cls := 24, slots := #[.int (-52)], vm := .none },
  { cls := 24, slots := #[.int (-51)], vm := .none },
  { cls := 24, slots := #[.int (-50)], vm := .none },
  { cls := 24, slots := #[.int (-49)], vm := .none },
  { cls := 24, slots := #[.int (-48)], vm := .none },
  { cls := 24, slots := #[.int (-47)], vm := .none },
  { cls := 24, slots := #[.int (-46)], vm := .none },
  { cls := 24, slots := #[.int (-45)], vm := .none },
  { cls := 24, slots := #[.int (-44)], vm := .none },
  { cls := 24, slots := #[.int (-43)], vm := .none },
  { cls := 24, slots := #[.int (-42)], vm := .none },
  { cls := 24, slots := #[.int (-41)], vm := .none },
  { cls := 24, slots := #[.int (-40)], vm := .none },
  { cls := 24, slots := #[.int (-39)], vm := .none },
  { cls := 24, slots := #[.int (-38)], vm := .none },
  { cls := 24, slots := #[.int (-37)], vm := .none },
  { cls := 24, slots := #[.int (-36)], vm := .none },
  { cls := 24, slots := #[.int (-35)], vm := .none },
  { cls := 24, slots := #[.int (-34)], vm := .none },
  { cls := 24, slots := #[.int (-33)], vm := .none },
  { cls := 24, slots := #[.int (-32)], vm := .none },
  { cls := 24, slots := #[.int (-31)], vm := .none },
  { cls := 24, slots := #[.int (-30)], vm := .none },
  { cls := 24, slots := #[.int (-29)], vm := .none },
  { cls := 24, slots := #[.int (-28)], vm := .none },
  { cls := 24, slots := #[.int (-27)], vm := .none },
  { cls := 24, slots := #[.int (-26)], vm := .none },
  { cls := 24, slots := #[.int (-25)], vm := .none },
  { cls := 24, slots := #[.int (-24)], vm := .none },
  { cls := 24, slots := #[.int (-23)], vm := .none },
  { cls := 24, slots := #[.int (-22)], vm := .none },
  { cls := 24, slots := #[.int (-21)], vm := .none },
  { cls := 24, slots := #[.int (-20)], vm := .none },
  { cls := 24, slots := #[.int (-19)], vm := .none },
  { cls := 24, slots := #[.int (-18)], vm := .none },
  { cls := 24, slots := #[.int (-17)], vm := .none },
  { cls := 24, slots := #[.int (-16)], vm := .none },
  { cls := 24, slots := #[.int (-15)], vm := .none },
  { cls := 24, slots := #[.int (-14)], vm := .none },
  { cls := 24, slots := #[.int (-13)], vm := .none },
  { cls := 24, slots := #[.int (-12)], vm := .none },
  { cls := 24, slots := #[.int (-11)], vm := .none },
  { cls := 24, slots := #[.int (-10)], vm := .none },
  { cls := 24, slots := #[.int (-9)], vm := .none },
  { cls := 24, slots := #[.int (-8)], vm := .none },
  { cls := 24, slots := #[.int (-7)], vm := .none },
  { cls := 24, slots := #[.int (-6)], vm := .none },
  { cls := 24, slots := #[.int (-5)], vm := .none },
  { cls := 24, slots := #[.int (-4)], vm := .none },
  { cls := 24, slots := #[.int (-3)], vm := .none },
  { cls := 24, slots := #[.int (-2)], vm := .none },
  { cls := 24, slots := #[.int (-1)], vm := .none },
  { cls := 24, slots := #[.int 0], vm := .none },
  { cls := 24, slots := #[.int 1], vm := .none },
  { cls := 24, slots := #[.int 2], vm := .none },
  { cls := 24, slots := #[.int 3], vm := .none },
  { cls := 24, slots := #[.int 4], vm := .none },
  { cls := 24, slots := #[.int 5], vm := .none },
  { cls := 24, slots := #[.int 6], vm := .none },
  { cls := 24, slots := #[.int 7], vm := .none },
  { cls := 24, slots := #[.int 8], vm := .none },
  { cls := 24, slots := #[.int 9], vm := .none },
  { cls := 24, slots := #[.int 10], vm := .none },
  { cls := 24, slots := #[.int 11], vm := .none },
  { cls := 24, slots := #[.int 12], vm := .none },
  { cls := 24, slots := #[.int 13], vm := .none },
  { cls := 24, slots := #[.int 14], vm := .none },
  { cls := 24, slots := #[.int 15], vm := .none },
  { cls := 24, slots := #[.int 16], vm := .none },
  { cls := 24, slots := #[.int 17], vm := .none },
  { cls := 24, slots := #[.int 18], vm := .none },
  { cls := 24, slots := #[.int 19], vm := .none },
  { cls := 24, slots := #[.int 20], vm := .none },
  { cls := 24, slots := #[.int 21], vm := .none },
  { cls := 24, slots := #[.int 22], vm := .none },
  { cls := 24, slots := #[.int 23], vm := .none },
  { cls := 24, slots := #[.int 24], vm := .none },
  { cls := 24, slots := #[.int 25], vm := .none },
  { cls := 24, slots := #[.int 26], vm := .none },
  { cls := 24, slots := #[.int 27], vm := .none },
  { cls := 24, slots := #[.int 28], vm := .none },
  { cls := 24, slots := #[.int 29], vm := .none },
  { cls := 24, slots := #[.int 30], vm := .none },
  { cls := 24, slots := #[.int 31], vm := .none },
  { cls := 24, slots := #[.int 32], vm := .none },
  { cls := 24, slots := #[.int 33], vm := .none },
  { cls := 24, slots := #[.int 34], vm := .none },
  { cls := 24, slots := #[.int 35], vm := .none },
  { cls := 24, slots := #[.int 36], vm := .none },
  { cls := 24, slots := #[.int 37], vm := .none },
  { cls := 24, slots := #[.int 38], vm := .none },
  { cls := 24, slots := #[.int 39], vm := .none },
  { cls := 24, slots := #[.int 40], vm := .none },
  { cls := 24, slots := #[.int 41], vm := .none },
  { cls := 24, slots := #[.int 42], vm := .none },
  { cls := 24, slots := #[.int 43], vm := .none },
  { cls := 24, slots := #[.int 44], vm := .none },
  { cls := 24, slots := #[.int 45], vm := .none },
  { cls := 24, slots := #[.int 46], vm := .none },
  { cls := 24, slots := #[.int 47], vm := .none },
  { cls := 24, slots := #[.int 48], vm := .none },
  { cls := 24, slots := #[.int 49], vm := .none },
  { cls := 24, slots := #[.int 50], vm := .none },
  { cls := 24, slots := #[.int 51], vm := .none },
  { cls := 24, slots := #[.int 52], vm := .none },
  { cls := 24, slots := #[.int 53], vm := .none },
  { cls := 24, slots := #[.int 54], vm := .none },
  { cls := 24, slots := #[.int 55], vm := .none },
  { cls := 24, slots := #[.int 56], vm := .none },
  { cls := 24, slots := #[.int 57], vm := .none },
  { cls := 24, slots := #[.int 58], vm := .none },
  { cls := 24, slots := #[.int 59], vm := .none },
  { cls := 24, slots := #[.int 60], vm := .none },
  { cls := 24, slots := #[.int 61], vm := .none },
  { cls := 24, slots := #[.int 62], vm := .none },
  { cls := 24, slots := #[.int 63], vm := .none },
  { cls := 24, slots := #[.int 64], vm := .none },
  { cls := 24, slots := #[.int 65], vm := .none },
  { cls := 24, slots := #[.int 66], vm := .none },
  { cls := 24, slots := #[.int 67], vm := .none },
  { cls := 24, slots := #[.int 68], vm := .none },
  { cls := 24, slots := #[.int 69], vm := .none },
  { cls := 24, slots := #[.int 70], vm := .none },
  { cls := 24, slots := #[.int 71], vm := .none },
  { cls := 24, slots := #[.int 72], vm := .none },
  { cls := 24, slots := #[.int 73], vm := .none },
  { cls := 24, slots := #[.int 74], vm := .none },
  { cls := 24, slots := #[.int 75], vm := .none },
  { cls := 24, slots := #[.int 76], vm := .none },
  { cls := 24, slots := #[.int 77], vm := .none },
  { cls := 24, slots := #[.int 78], vm := .none },
  { cls := 24, slots := #[.int 79], vm := .none },
  { cls := 24, slots := #[.int 80], vm := .none },
  { cls := 24, slots := #[.int 81], vm := .none },
  { cls := 24, slots := #[.int 82], vm := .none },
  { cls := 24, slots := #[.int 83], vm := .none },
  { cls := 24, slots := #[.int 84], vm := .none },
  { cls := 24, slots := #[.int 85], vm := .none },
  { cls := 24, slots := #[.int 86], vm := .none },
  { cls := 24, slots := #[.int 87], vm := .none },
  { cls := 24, slots := #[.int 88], vm := .none },
  { cls := 24, slots := #[.int 89], vm := .none },
  { cls := 24, slots := #[.int 90], vm := .none },
  { cls := 24, slots := #[.int 91], vm := .none },
  { cls := 24, slots := #[.int 92], vm := .none },
  { cls := 24, slots := #[.int 93], vm := .none },
  { cls := 24, slots := #[.int 94], vm := .none },
  { cls := 24, slots := #[.int 95], vm := .none },
  { cls := 24, slots := #[.int 96], vm := .none },
  { cls := 24, slots := #[.int 97], vm := .none },
  { cls := 24, slots := #[.int 98], vm := .none },
  { cls := 24, slots := #[.int 99], vm := .none },
  { cls := 24, slots := #[.int 100], vm := .none },
  { cls := 24, slots := #[.int 101], vm := .none },
  { cls := 24, slots := #[.int 102], vm := .none },
  { cls := 24, slots := #[.int 103], vm := .none },
  { cls := 24, slots := #[.int 104], vm := .none },
  { cls := 24, slots := #[.int 105], vm := .none },
  { cls := 24, slots := #[.int 106], vm := .none },
  { cls := 24, slots := #[.int 107], vm := .none },
  { cls := 24, slots := #[.int 108], vm := .none },
  { cls := 24, slots := #[.int 109], vm := .none },
  { cls := 24, slots := #[.int 110], vm := .none },
  { cls := 24, slots := #[.int 111], vm := .none },
  { cls := 24, slots := #[.int 112], vm := .none },
  { cls := 24, slots := #[.int 113], vm := .none },
  { cls := 24, slots := #[.int 114], vm := .none },
  { cls := 24, slots := #[.int 115], vm := .none },
  { cls := 24, slots := #[.int 116], vm := .none },
  { cls := 24, slots := #[.int 117], vm := .none },
  { cls := 24, slots := #[.int 118], vm := .none },
  { cls := 24, slots := #[.int 119], vm := .none },
  { cls := 24, slots := #[.int 120], vm := .none },
  { cls := 24, slots := #[.int 121], vm := .none },
  { cls := 24, slots := #[.int 122], vm := .none },
  { cls := 24, slots := #[.int 123], vm := .none },
  { cls := 24, slots := #[.int 124], vm := .none },
  { cls := 24, slots := #[.int 125], vm := .none },
  { cls := 24, slots := #[.int 126], vm := .none },
  { cls := 24, slots := #[.int 127], vm := .none },
  { cls := 40, slots := #[], vm := .none },
  { cls := 40, slots := #[], vm := .none }]
def classes : Array Class := #[k0, k1, k2, k3, k4, k5, k6, k7, k8, k9, k10, k11, k12, k13, k14, k15, k16, k17, k18, k19, k20, k21, k22, k23, k24, k25, k26, k27, k28, k29, k30, k31, k32, k33, k34, k35, k36, k37, k38, k39, k40]
def interned : List (Array UInt16 × Addr) := []
def slotsUsed : Nat := 561
def theMethod : MethodId := ⟨1, 1⟩
def args0 : Array Value := #[.int 5, .int 5, .int 5, .int 5, .int 5, .int 5]
def aboutOver (below : List Frame) : State where
  vm := { classes := classes, interned := interned.toArray }
  heap := heap
  slotsUsed := slotsUsed
  threads := #[{ frames := .invoking theMethod args0 :: below }]
def below0 : List Frame := [.native { method := ⟨0, 0⟩, args := #[] }]
def about1 : State := aboutOver below0
def p0 : Program := .bare "" "" ""
def e0 : Env := launch0.env 0 0 0
theorem w_frames : about1.frames = Frame.invoking theMethod args0 :: below0 := rfl
set_option maxRecDepth 65536 in
theorem w_args : argsFit about1.vm theMethod args0 = true := by decide +kernel
set_option maxRecDepth 65536 in
theorem w_heap : heapFits about1 = true := by decide +kernel
set_option maxRecDepth 65536 in
theorem w_runnable : about1.curStatus? = some .runnable := by decide +kernel
set_option maxRecDepth 65536 in
theorem w_alone : about1.alone = true := by decide +kernel
set_option maxRecDepth 65536 in
theorem w_named : about1.methodNamed? x = some theMethod := by decide +kernel
set_option maxRecDepth 65536 in
theorem w_hears : about1.hears theMethod below0 = true := by decide +kernel
set_option maxRecDepth 65536 in
theorem w_ripe : about1.ripe theMethod args0 below0 = true := by decide +kernel
theorem w_running : about1.status = .running := rfl
set_option maxRecDepth 65536 in
theorem w_room : about1.hasRoom e0.platform room_1 = true :=
  launch0.hasRoom_least _ room_1 (by decide +kernel) (by decide +kernel) (by decide +kernel) (by decide +kernel) (by decide +kernel) (by decide +kernel)
theorem allAtoms_all (ts : List Jvm.Cond) (a : Array Jvm.Value) (st : Jvm.State) : (allAtoms ts).before a st = ts.all (fun c => c.before a st) := by
  induction ts with
  | nil => rfl
  | cons c t ih =>
    show (Jvm.Cond.and c (allAtoms t)).before a st = _
    rw [Jvm.Cond.before_and, ih, List.all_cons]
def words1 : List Jvm.Cond := Jvm.Cond.code x code maxLocals ret :: tables_1
/-- a 'code' word, met by the world's own term for the bytes: nothing is compared byte by byte -/
theorem code_word {y : MethodName} {bytes : ByteArray} {mx : Nat} {rt : Option FieldType} {a : Array Value} {s : State} {m : MethodId} {meth : Method} {c : Code} (h1 : s.methodNamed? y = some m) (h2 : s.vm.method? m = some meth) (h3 : meth.code = some c) (h4 : c.code = bytes)
    (h5 : (c.maxLocals == mx && c.exceptionTable.isEmpty && decide (c.maxStack ≤ mostOperands) && decide (meth.sig.returnType = rt) && !meth.locks && decide (parseMethodDescriptor y.desc = some meth.sig)) = true) : (Jvm.Cond.code y bytes mx rt).before a s = true := by
  simp only [Bool.and_eq_true, beq_iff_eq, Bool.not_eq_true', decide_eq_true_eq] at h5
  obtain ⟨⟨⟨⟨⟨g1, g2⟩, g3⟩, g4⟩, g5⟩, g6⟩ := h5
  simp [Cond.before, Cond.holds, Cond.value, h1, h2, h3, h4, g1, g2, g3, g4, g5, g6]
def isCode : Jvm.Cond → Bool
  | .code _ _ _ _ => true
  | _ => false
theorem all_split {L : List Jvm.Cond} {P : Jvm.Cond → Bool} (h1 : L.all (fun c => isCode c || P c) = true) (h2 : ∀ c ∈ L.filter isCode, P c = true) : L.all P = true := by
  refine List.all_eq_true.mpr fun c hc => ?_
  have h := List.all_eq_true.mp h1 c hc
  rcases Bool.eq_false_or_eq_true (isCode c) with hi | hi
  · exact h2 c (List.mem_filter.mpr ⟨hc, hi⟩)
  · simpa [hi] using h
set_option maxRecDepth 65536 in
theorem w_c0 : (Jvm.Cond.code x code maxLocals ret).before args0 about1 = true := code_word (m := ⟨1, 1⟩) (meth := k1m1) (c := k1c1) (by decide +kernel) rfl rfl rfl (by decide +kernel)
set_option maxRecDepth 65536 in
theorem w_c1 : (Jvm.Cond.code ({ cls := "com/example/cartulary/cartulary/ColumnOrElsePinLaw", name := "type", desc := "(I)Lcom/example/cartulary/cartulary/ColumnType;" } : Jvm.MethodName) method_3_code (1 : Nat) (Option.some (Jvm.ClassFile.FieldType.object "com/example/cartulary/cartulary/ColumnType"))).before args0 about1 = true := code_word (m := ⟨1, 2⟩) (meth := k1m2) (c := k1c2) (by decide +kernel) rfl rfl rfl (by decide +kernel)
set_option maxRecDepth 65536 in
theorem w_c2 : (Jvm.Cond.code ({ cls := "java/lang/String", name := "<init>", desc := "([C)V" } : Jvm.MethodName) jdk_42_method_3_code (2 : Nat) (Option.none : Option Jvm.ClassFile.FieldType)).before args0 about1 = true := code_word (m := ⟨9, 1⟩) (meth := k9m1) (c := k9c1) (by decide +kernel) rfl rfl rfl (by decide +kernel)
set_option maxRecDepth 65536 in
theorem w_c3 : (Jvm.Cond.code ({ cls := "java/lang/String", name := "<init>", desc := "([CIILjava/lang/Void;)V" } : Jvm.MethodName) jdk_42_method_149_code (6 : Nat) (Option.none : Option Jvm.ClassFile.FieldType)).before args0 about1 = true := code_word (m := ⟨9, 3⟩) (meth := k9m3) (c := k9c3) (by decide +kernel) rfl rfl rfl (by decide +kernel)
set_option maxRecDepth 65536 in
theorem w_c4 : (Jvm.Cond.code ({ cls := "java/lang/Object", name := "<init>", desc := "()V" } : Jvm.MethodName) object_method_1_code (1 : Nat) (Option.none : Option Jvm.ClassFile.FieldType)).before args0 about1 = true := code_word (m := ⟨0, 0⟩) (meth := k0m0) (c := k0c0) (by decide +kernel) rfl rfl rfl (by decide +kernel)
set_option maxRecDepth 65536 in
theorem w_c5 : (Jvm.Cond.code ({ cls := "java/lang/StringUTF16", name := "compress", desc := "([CII)[B" } : Jvm.MethodName) jdk_52_method_16_code (6 : Nat) (Option.some (Jvm.ClassFile.FieldType.array Jvm.ClassFile.FieldType.byte))).before args0 about1 = true := code_word (m := ⟨10, 2⟩) (meth := k10m2) (c := k10c2) (by decide +kernel) rfl rfl rfl (by decide +kernel)
set_option maxRecDepth 65536 in
theorem w_c6 : (Jvm.Cond.code ({ cls := "java/lang/StringUTF16", name := "compress", desc := "([CI[BII)I" } : Jvm.MethodName) jdk_52_method_21_code (7 : Nat) (Option.some Jvm.ClassFile.FieldType.int)).before args0 about1 = true := code_word (m := ⟨10, 3⟩) (meth := k10m3) (c := k10c3) (by decide +kernel) rfl rfl rfl (by decide +kernel)
set_option maxRecDepth 65536 in
theorem w_c7 : (Jvm.Cond.code ({ cls := "java/lang/StringUTF16", name := "coderFromArrayLen", desc := "([BI)B" } : Jvm.MethodName) jdk_52_method_15_code (2 : Nat) (Option.some Jvm.ClassFile.FieldType.byte)).before args0 about1 = true := code_word (m := ⟨10, 1⟩) (meth := k10m1) (c := k10c1) (by decide +kernel) rfl rfl rfl (by decide +kernel)
set_option maxRecDepth 65536 in
theorem w_c8 : (Jvm.Cond.code ({ cls := "com/example/cartulary/cartulary/ColumnOrElsePinLaw", name := "pick", desc := "(IILjava/lang/String;Ljava/lang/Object;)Ljava/lang/Object;" } : Jvm.MethodName) method_4_code (4 : Nat) (Option.some (Jvm.ClassFile.FieldType.object "java/lang/Object"))).before args0 about1 = true := code_word (m := ⟨1, 3⟩) (meth := k1m3) (c := k1c3) (by decide +kernel) rfl rfl rfl (by decide +kernel)
set_option maxRecDepth 65536 in
theorem w_c9 : (Jvm.Cond.code ({ cls := "com/example/cartulary/cartulary/StarTable$Column", name := "<init>", desc := "(Ljava/lang/String;Lcom/example/cartulary/cartulary/ColumnType;IILjava/lang/Object;ZLcom/example/cartulary/cartulary/StarTable$NamedBy;)V" } : Jvm.MethodName) prog_38_method_1_code (8 : Nat) (Option.none : Option Jvm.ClassFile.FieldType)).before args0 about1 = true := code_word (m := ⟨12, 0⟩) (meth := k12m0) (c := k12c0) (by decide +kernel) rfl rfl rfl (by decide +kernel)
set_option maxRecDepth 65536 in
theorem w_c10 : (Jvm.Cond.code ({ cls := "java/lang/Record", name := "<init>", desc := "()V" } : Jvm.MethodName) jdk_30_method_1_code (1 : Nat) (Option.none : Option Jvm.ClassFile.FieldType)).before args0 about1 = true := code_word (m := ⟨11, 0⟩) (meth := k11m0) (c := k11c0) (by decide +kernel) rfl rfl rfl (by decide +kernel)
set_option maxRecDepth 65536 in
theorem w_c11 : (Jvm.Cond.code ({ cls := "com/example/cartulary/cartulary/StarTable$Column", name := "orElse", desc := "(Ljava/lang/Object;)Lcom/example/cartulary/cartulary/StarTable$Column;" } : Jvm.MethodName) prog_38_method_8_code (2 : Nat) (Option.some (Jvm.ClassFile.FieldType.object "com/example/cartulary/cartulary/StarTable$Column"))).before args0 about1 = true := code_word (m := ⟨12, 1⟩) (meth := k12m1) (c := k12c1) (by decide +kernel) rfl rfl rfl (by decide +kernel)
set_option maxRecDepth 65536 in
theorem w_c12 : (Jvm.Cond.code ({ cls := "com/example/cartulary/cartulary/StarTable$Column", name := "name", desc := "()Ljava/lang/String;" } : Jvm.MethodName) prog_38_method_13_code (1 : Nat) (Option.some (Jvm.ClassFile.FieldType.object "java/lang/String"))).before args0 about1 = true := code_word (m := ⟨12, 2⟩) (meth := k12m2) (c := k12c2) (by decide +kernel) rfl rfl rfl (by decide +kernel)
set_option maxRecDepth 65536 in
theorem w_c13 : (Jvm.Cond.code ({ cls := "java/lang/String", name := "equals", desc := "(Ljava/lang/Object;)Z" } : Jvm.MethodName) jdk_42_method_66_code (3 : Nat) (Option.some Jvm.ClassFile.FieldType.boolean)).before args0 about1 = true := code_word (m := ⟨9, 2⟩) (meth := k9m2) (c := k9c2) (by decide +kernel) rfl rfl rfl (by decide +kernel)
set_option maxRecDepth 65536 in
theorem w_c14 : (Jvm.Cond.code ({ cls := "com/example/cartulary/cartulary/StarTable$Column", name := "type", desc := "()Lcom/example/cartulary/cartulary/ColumnType;" } : Jvm.MethodName) prog_38_method_14_code (1 : Nat) (Option.some (Jvm.ClassFile.FieldType.object "com/example/cartulary/cartulary/ColumnType"))).before args0 about1 = true := code_word (m := ⟨12, 3⟩) (meth := k12m3) (c := k12c3) (by decide +kernel) rfl rfl rfl (by decide +kernel)
set_option maxRecDepth 65536 in
theorem w_c15 : (Jvm.Cond.code ({ cls := "com/example/cartulary/cartulary/StarTable$Column", name := "size", desc := "()I" } : Jvm.MethodName) prog_38_method_15_code (1 : Nat) (Option.some Jvm.ClassFile.FieldType.int)).before args0 about1 = true := code_word (m := ⟨12, 4⟩) (meth := k12m4) (c := k12c4) (by decide +kernel) rfl rfl rfl (by decide +kernel)
set_option maxRecDepth 65536 in
theorem w_c16 : (Jvm.Cond.code ({ cls := "com/example/cartulary/cartulary/StarTable$Column", name := "scale", desc := "()I" } : Jvm.MethodName) prog_38_method_16_code (1 : Nat) (Option.some Jvm.ClassFile.FieldType.int)).before args0 about1 = true := code_word (m := ⟨12, 5⟩) (meth := k12m5) (c := k12c5) (by decide +kernel) rfl rfl rfl (by decide +kernel)
set_option maxRecDepth 65536 in
theorem w_c17 : (Jvm.Cond.code ({ cls := "com/example/cartulary/cartulary/StarTable$Column", name := "absent", desc := "()Ljava/lang/Object;" } : Jvm.MethodName) prog_38_method_17_code (1 : Nat) (Option.some (Jvm.ClassFile.FieldType.object "java/lang/Object"))).before args0 about1 = true := code_word (m := ⟨12, 6⟩) (meth := k12m6) (c := k12c6) (by decide +kernel) rfl rfl rfl (by decide +kernel)
set_option maxRecDepth 65536 in
theorem w_c18 : (Jvm.Cond.code ({ cls := "com/example/cartulary/cartulary/StarTable$Column", name := "stored", desc := "()Z" } : Jvm.MethodName) prog_38_method_18_code (1 : Nat) (Option.some Jvm.ClassFile.FieldType.boolean)).before args0 about1 = true := code_word (m := ⟨12, 7⟩) (meth := k12m7) (c := k12c7) (by decide +kernel) rfl rfl rfl (by decide +kernel)
set_option maxRecDepth 65536 in
theorem w_c19 : (Jvm.Cond.code ({ cls := "com/example/cartulary/cartulary/StarTable$Column", name := "namedBy", desc := "()Lcom/example/cartulary/cartulary/StarTable$NamedBy;" } : Jvm.MethodName) prog_38_method_19_code (1 : Nat) (Option.some (Jvm.ClassFile.FieldType.object "com/example/cartulary/cartulary/StarTable$NamedBy"))).before args0 about1 = true := code_word (m := ⟨12, 8⟩) (meth := k12m8) (c := k12c8) (by decide +kernel) rfl rfl rfl (by decide +kernel)
set_option maxRecDepth 65536 in
theorem w_c20 : (Jvm.Cond.code ({ cls := "java/util/ArrayList", name := "<init>", desc := "()V" } : Jvm.MethodName) jdk_38_method_2_code (1 : Nat) (Option.none : Option Jvm.ClassFile.FieldType)).before args0 about1 = true := code_word (m := ⟨22, 0⟩) (meth := k22m0) (c := k22c0) (by decide +kernel) rfl rfl rfl (by decide +kernel)
set_option maxRecDepth 65536 in
theorem w_c21 : (Jvm.Cond.code ({ cls := "java/util/AbstractList", name := "<init>", desc := "()V" } : Jvm.MethodName) jdk_39_method_1_code (1 : Nat) (Option.none : Option Jvm.ClassFile.FieldType)).before args0 about1 = true := code_word (m := ⟨19, 0⟩) (meth := k19m0) (c := k19c0) (by decide +kernel) rfl rfl rfl (by decide +kernel)
set_option maxRecDepth 65536 in
theorem w_c22 : (Jvm.Cond.code ({ cls := "java/util/AbstractCollection", name := "<init>", desc := "()V" } : Jvm.MethodName) jdk_22_method_1_code (1 : Nat) (Option.none : Option Jvm.ClassFile.FieldType)).before args0 about1 = true := code_word (m := ⟨16, 0⟩) (meth := k16m0) (c := k16c0) (by decide +kernel) rfl rfl rfl (by decide +kernel)
set_option maxRecDepth 65536 in
theorem w_c23 : (Jvm.Cond.code ({ cls := "com/example/cartulary/cartulary/StarTable$NamedBy", name := "<init>", desc := "(Lcom/example/cartulary/cartulary/StarTable;Ljava/util/List;)V" } : Jvm.MethodName) prog_39_method_1_code (3 : Nat) (Option.none : Option Jvm.ClassFile.FieldType)).before args0 about1 = true := code_word (m := ⟨13, 0⟩) (meth := k13m0) (c := k13c0) (by decide +kernel) rfl rfl rfl (by decide +kernel)
set_option maxRecDepth 65536 in
theorem w_c24 : (Jvm.Cond.code ({ cls := "java/lang/Integer", name := "valueOf", desc := "(I)Ljava/lang/Integer;" } : Jvm.MethodName) jdk_33_method_22_code (1 : Nat) (Option.some (Jvm.ClassFile.FieldType.object "java/lang/Integer"))).before args0 about1 = true := code_word (m := ⟨24, 0⟩) (meth := k24m0) (c := k24c0) (by decide +kernel) rfl rfl rfl (by decide +kernel)
set_option maxRecDepth 65536 in
theorem w_c25 : (Jvm.Cond.code ({ cls := "java/lang/Integer", name := "<init>", desc := "(I)V" } : Jvm.MethodName) jdk_33_method_23_code (2 : Nat) (Option.none : Option Jvm.ClassFile.FieldType)).before args0 about1 = true := code_word (m := ⟨24, 1⟩) (meth := k24m1) (c := k24c1) (by decide +kernel) rfl rfl rfl (by decide +kernel)
set_option maxRecDepth 65536 in
theorem w_c26 : (Jvm.Cond.code ({ cls := "java/lang/Number", name := "<init>", desc := "()V" } : Jvm.MethodName) jdk_18_method_1_code (1 : Nat) (Option.none : Option Jvm.ClassFile.FieldType)).before args0 about1 = true := code_word (m := ⟨23, 0⟩) (meth := k23m0) (c := k23c0) (by decide +kernel) rfl rfl rfl (by decide +kernel)
def codes1 : List Jvm.Cond := [Jvm.Cond.code x code maxLocals ret, Jvm.Cond.code ({ cls := "com/example/cartulary/cartulary/ColumnOrElsePinLaw", name := "type", desc := "(I)Lcom/example/cartulary/cartulary/ColumnType;" } : Jvm.MethodName) method_3_code (1 : Nat) (Option.some (Jvm.ClassFile.FieldType.object "com/example/cartulary/cartulary/ColumnType")), Jvm.Cond.code ({ cls := "java/lang/String", name := "<init>", desc := "([C)V" } : Jvm.MethodName) jdk_42_method_3_code (2 : Nat) (Option.none : Option Jvm.ClassFile.FieldType), Jvm.Cond.code ({ cls := "java/lang/String", name := "<init>", desc := "([CIILjava/lang/Void;)V" } : Jvm.MethodName) jdk_42_method_149_code (6 : Nat) (Option.none : Option Jvm.ClassFile.FieldType), Jvm.Cond.code ({ cls := "java/lang/Object", name := "<init>", desc := "()V" } : Jvm.MethodName) object_method_1_code (1 : Nat) (Option.none : Option Jvm.ClassFile.FieldType), Jvm.Cond.code ({ cls := "java/lang/StringUTF16", name := "compress", desc := "([CII)[B" } : Jvm.MethodName) jdk_52_method_16_code (6 : Nat) (Option.some (Jvm.ClassFile.FieldType.array Jvm.ClassFile.FieldType.byte)), Jvm.Cond.code ({ cls := "java/lang/StringUTF16", name := "compress", desc := "([CI[BII)I" } : Jvm.MethodName) jdk_52_method_21_code (7 : Nat) (Option.some Jvm.ClassFile.FieldType.int), Jvm.Cond.code ({ cls := "java/lang/StringUTF16", name := "coderFromArrayLen", desc := "([BI)B" } : Jvm.MethodName) jdk_52_method_15_code (2 : Nat) (Option.some Jvm.ClassFile.FieldType.byte), Jvm.Cond.code ({ cls := "com/example/cartulary/cartulary/ColumnOrElsePinLaw", name := "pick", desc := "(IILjava/lang/String;Ljava/lang/Object;)Ljava/lang/Object;" } : Jvm.MethodName) method_4_code (4 : Nat) (Option.some (Jvm.ClassFile.FieldType.object "java/lang/Object")), Jvm.Cond.code ({ cls := "com/example/cartulary/cartulary/StarTable$Column", name := "<init>", desc := "(Ljava/lang/String;Lcom/example/cartulary/cartulary/ColumnType;IILjava/lang/Object;ZLcom/example/cartulary/cartulary/StarTable$NamedBy;)V" } : Jvm.MethodName) prog_38_method_1_code (8 : Nat) (Option.none : Option Jvm.ClassFile.FieldType), Jvm.Cond.code ({ cls := "java/lang/Record", name := "<init>", desc := "()V" } : Jvm.MethodName) jdk_30_method_1_code (1 : Nat) (Option.none : Option Jvm.ClassFile.FieldType), Jvm.Cond.code ({ cls := "com/example/cartulary/cartulary/StarTable$Column", name := "orElse", desc := "(Ljava/lang/Object;)Lcom/example/cartulary/cartulary/StarTable$Column;" } : Jvm.MethodName) prog_38_method_8_code (2 : Nat) (Option.some (Jvm.ClassFile.FieldType.object "com/example/cartulary/cartulary/StarTable$Column")), Jvm.Cond.code ({ cls := "com/example/cartulary/cartulary/StarTable$Column", name := "name", desc := "()Ljava/lang/String;" } : Jvm.MethodName) prog_38_method_13_code (1 : Nat) (Option.some (Jvm.ClassFile.FieldType.object "java/lang/String")), Jvm.Cond.code ({ cls := "java/lang/String", name := "equals", desc := "(Ljava/lang/Object;)Z" } : Jvm.MethodName) jdk_42_method_66_code (3 : Nat) (Option.some Jvm.ClassFile.FieldType.boolean), Jvm.Cond.code ({ cls := "com/example/cartulary/cartulary/StarTable$Column", name := "type", desc := "()Lcom/example/cartulary/cartulary/ColumnType;" } : Jvm.MethodName) prog_38_method_14_code (1 : Nat) (Option.some (Jvm.ClassFile.FieldType.object "com/example/cartulary/cartulary/ColumnType")), Jvm.Cond.code ({ cls := "com/example/cartulary/cartulary/StarTable$Column", name := "size", desc := "()I" } : Jvm.MethodName) prog_38_method_15_code (1 : Nat) (Option.some Jvm.ClassFile.FieldType.int), Jvm.Cond.code ({ cls := "com/example/cartulary/cartulary/StarTable$Column", name := "scale", desc := "()I" } : Jvm.MethodName) prog_38_method_16_code (1 : Nat) (Option.some Jvm.ClassFile.FieldType.int), Jvm.Cond.code ({ cls := "com/example/cartulary/cartulary/StarTable$Column", name := "absent", desc := "()Ljava/lang/Object;" } : Jvm.MethodName) prog_38_method_17_code (1 : Nat) (Option.some (Jvm.ClassFile.FieldType.object "java/lang/Object")), Jvm.Cond.code ({ cls := "com/example/cartulary/cartulary/StarTable$Column", name := "stored", desc := "()Z" } : Jvm.MethodName) prog_38_method_18_code (1 : Nat) (Option.some Jvm.ClassFile.FieldType.boolean), Jvm.Cond.code ({ cls := "com/example/cartulary/cartulary/StarTable$Column", name := "namedBy", desc := "()Lcom/example/cartulary/cartulary/StarTable$NamedBy;" } : Jvm.MethodName) prog_38_method_19_code (1 : Nat) (Option.some (Jvm.ClassFile.FieldType.object "com/example/cartulary/cartulary/StarTable$NamedBy")), Jvm.Cond.code ({ cls := "java/util/ArrayList", name := "<init>", desc := "()V" } : Jvm.MethodName) jdk_38_method_2_code (1 : Nat) (Option.none : Option Jvm.ClassFile.FieldType), Jvm.Cond.code ({ cls := "java/util/AbstractList", name := "<init>", desc := "()V" } : Jvm.MethodName) jdk_39_method_1_code (1 : Nat) (Option.none : Option Jvm.ClassFile.FieldType), Jvm.Cond.code ({ cls := "java/util/AbstractCollection", name := "<init>", desc := "()V" } : Jvm.MethodName) jdk_22_method_1_code (1 : Nat) (Option.none : Option Jvm.ClassFile.FieldType), Jvm.Cond.code ({ cls := "com/example/cartulary/cartulary/StarTable$NamedBy", name := "<init>", desc := "(Lcom/example/cartulary/cartulary/StarTable;Ljava/util/List;)V" } : Jvm.MethodName) prog_39_method_1_code (3 : Nat) (Option.none : Option Jvm.ClassFile.FieldType), Jvm.Cond.code ({ cls := "java/lang/Integer", name := "valueOf", desc := "(I)Ljava/lang/Integer;" } : Jvm.MethodName) jdk_33_method_22_code (1 : Nat) (Option.some (Jvm.ClassFile.FieldType.object "java/lang/Integer")), Jvm.Cond.code ({ cls := "java/lang/Integer", name := "<init>", desc := "(I)V" } : Jvm.MethodName) jdk_33_method_23_code (2 : Nat) (Option.none : Option Jvm.ClassFile.FieldType), Jvm.Cond.code ({ cls := "java/lang/Number", name := "<init>", desc := "()V" } : Jvm.MethodName) jdk_18_method_1_code (1 : Nat) (Option.none : Option Jvm.ClassFile.FieldType)]
set_option maxRecDepth 65536 in
theorem codes_eq : words1.filter isCode = codes1 := rfl
theorem w_codes : ∀ c ∈ words1.filter isCode, c.before args0 about1 = true := by
  rw [codes_eq]
  intro c hc
  simp only [codes1, List.mem_cons, List.not_mem_nil, or_false] at hc
  rcases hc with rfl | rfl | rfl | rfl | rfl | rfl | rfl | rfl | rfl | rfl | rfl | rfl | rfl | rfl | rfl | rfl | rfl | rfl | rfl | rfl | rfl | rfl | rfl | rfl | rfl | rfl | rfl
  · exact w_c0
  · exact w_c1
  · exact w_c2
  · exact w_c3
  · exact w_c4
  · exact w_c5
  · exact w_c6
  · exact w_c7
  · exact w_c8
  · exact w_c9
  · exact w_c10
  · exact w_c11
  · exact w_c12
  · exact w_c13
  · exact w_c14
  · exact w_c15
  · exact w_c16
  · exact w_c17
  · exact w_c18
  · exact w_c19
  · exact w_c20
  · exact w_c21
  · exact w_c22
  · exact w_c23
  · exact w_c24
  · exact w_c25
  · exact w_c26
set_option maxRecDepth 65536 in
theorem w_t1 : (words1.take 24).all (fun c => isCode c || c.before args0 about1) = true := by decide +kernel
set_option maxRecDepth 65536 in
theorem w_t2 : ((words1.drop 24).take 24).all (fun c => isCode c || c.before args0 about1) = true := by decide +kernel
set_option maxRecDepth 65536 in
theorem w_t3 : (((words1.drop 24).drop 24).take 24).all (fun c => isCode c || c.before args0 about1) = true := by decide +kernel
set_option maxRecDepth 65536 in
theorem w_t4 : ((((words1.drop 24).drop 24).drop 24).take 24).all (fun c => isCode c || c.before args0 about1) = true := by decide +kernel
set_option maxRecDepth 65536 in
theorem w_t5 : (((((words1.drop 24).drop 24).drop 24).drop 24).take 24).all (fun c => isCode c || c.before args0 about1) = true := by decide +kernel
set_option maxRecDepth 65536 in
theorem w_t6 : ((((((words1.drop 24).drop 24).drop 24).drop 24).drop 24).take 24).all (fun c => isCode c || c.before args0 about1) = true := by decide +kernel
set_option maxRecDepth 65536 in
theorem w_t7 : (((((((words1.drop 24).drop 24).drop 24).drop 24).drop 24).drop 24).take 24).all (fun c => isCode c || c.before args0 about1) = true := by decide +kernel
set_option maxRecDepth 65536 in
theorem w_t8 : (((((((words1.drop 24).drop 24).drop 24).drop 24).drop 24).drop 24).drop 24).all (fun c => isCode c || c.before args0 about1) = true := by decide +kernel
theorem w_tables : (allAtoms (Jvm.Cond.code x code maxLocals ret :: tables_1)).before args0 about1 = true := by
  rw [allAtoms_all]
  show words1.all (fun c => c.before args0 about1) = true
  refine all_split ?_ w_codes
  rw [← List.take_append_drop 24 words1, List.all_append, w_t1, ← List.take_append_drop 24 (words1.drop 24), List.all_append, w_t2, ← List.take_append_drop 24 ((words1.drop 24).drop 24), List.all_append, w_t3, ← List.take_append_drop 24 (((words1.drop 24).drop 24).drop 24), List.all_append, w_t4, ← List.take_append_drop 24 ((((words1.drop 24).drop 24).drop 24).drop 24), List.all_append, w_t5, ← List.take_append_drop 24 (((((words1.drop 24).drop 24).drop 24).drop 24).drop 24), List.all_append, w_t6, ← List.take_append_drop 24 ((((((words1.drop 24).drop 24).drop 24).drop 24).drop 24).drop 24), List.all_append, w_t7, w_t8]
  rfl
set_option maxRecDepth 65536 in
theorem w_rest : rest_1_c.before args0 about1 = true := by decide +kernel
set_option maxRecDepth 65536 in
theorem w_case : (Jvm.Cond.and given_1 narrow_1).before args0 about1 = true := by decide +kernel
theorem w_applies : (headSpec (Jvm.Cond.code x code maxLocals ret :: tables_1) room_1).applies x e0.platform about1 = true :=
  (Spec.applies_iff w_frames).mpr ⟨w_running, w_runnable, w_alone, w_named, w_hears, w_ripe, w_room, w_tables⟩
theorem atStart : AtStart classFile x code maxLocals ret World_1 tables_1 room_1 Calls_1 rest_1 Pre_1 launch0 p0 e0 about1 theMethod args0 below0 :=
  ⟨lists_1, trivial, launch0.admits_env _ _ _, launch0.least_env, fairChoices_fair.cas, fairChoices_fair.clock, w_frames, w_args, w_heap, w_applies, trivial, w_rest, w_case⟩
end start1
theorem witness_1 : WitnessClaimed_1 := ⟨start1.p0, start1.e0, start1.about1, start1.theMethod, start1.args0, start1.below0, start1.atStart⟩
end Jvm.Pilot.@@N@@
