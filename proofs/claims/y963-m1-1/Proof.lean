import JvmDerived
import JvmDerived.Pilot.@@N@@Statement
import JvmDerived.Pilot.@@N@@Code
set_option linter.unusedVariables false
set_option linter.unusedSimpArgs false
namespace Jvm.GoKit
open Sem ClassFile Op Lib Jvm.Stand Jvm.Free Jvm.LawKit Jvm.RoadKit
/-! A small logic of walks: 'Go .. h kc ks SL pc L S': from pc, with locals L, stack S, heap h, the body comes to its end and Q holds. -/
def Sfs (Z : State) (EL : List (String × Nat)) (vm : Vm) (h : Heap) (SL : List Addr) : Prop := ∀ x ∈ SL, x < h.size ∧ Safe Z EL vm h x
def En (w : Bool) (s : State) (o : Outcome) (t : State) (L : List Loc) (k n : Nat) : Prop := ReturnedEndW s o t L k n ∧ (w = false → s.WarmedH t.vm)
def Wk (l : Launch) (Z : State) (y : MethodName) (bytes : ByteArray) (mx : Nat) (rt : Option FieldType) (R : Room) (EL : List (String × Nat)) (n0 : Nat) (w : Bool) (p : Program) (e : Env) (s : State) (m : MethodId) (args : Array Value) (below : List Frame) (meth : Method) (c : Code) (T : State) (h : Heap) (kc ks : Nat) (SL : List Addr) : Prop :=
  (p.tables.exec = Jvm.exec ∧ c.code = bytes ∧ c.maxLocals = mx ∧ meth.sig.returnType = rt ∧ meth.locks = false ∧ meth.name = y.name ∧ ∃ a0, EW Z a0 EL) ∧
  ∃ k0 locs, Stand p l e R (s.setVm T.vm) m args below meth c T locs kc ks ∧ T.heap = h ∧ s.Since T.vm k0 ∧ k0 ≤ h.size ∧ Z.Warmed39 T.vm ∧ T.vm.findClass y.cls = some m.cls ∧ CHr Z EL s.vm s.heap T.vm h ∧ Fr n0 locs ∧ (w = false → s.WarmedH T.vm) ∧ Sfs Z EL T.vm h SL
def Go (l : Launch) (Z : State) (y : MethodName) (bytes : ByteArray) (mx : Nat) (rt : Option FieldType) (R : Room) (EL : List (String × Nat)) (n0 : Nat) (w : Bool) (Q : Option Value → Heap → List Addr → Prop) (h : Heap) (kc ks : Nat) (SL : List Addr) (pc : Nat) (L : Array Slot) (S : List Value) : Prop :=
  ∀ p e s m args below meth c T, Wk l Z y bytes mx rt R EL n0 w p e s m args below meth c T h kc ks SL →
    ∃ s₂ o, Steps p.tables e below (T.setTop (mkF m pc L S)) s₂ ∧ s₂.status = .running ∧ Ended s₂ below o ∧
      ∃ v Ls N, o = .returned v ∧ Q v s₂.heap N ∧ Fr n0 Ls ∧ CHr Z EL s.vm s.heap s₂.vm s₂.heap ∧ Sfs Z EL s₂.vm s₂.heap N ∧ En w s o s₂ Ls R.cells R.slots
/-- a method's contract, for one array of arguments and one heap -/
def Ct (l : Launch) (Z : State) (y : MethodName) (bytes : ByteArray) (mx : Nat) (rt : Option FieldType) (R : Room) (EL : List (String × Nat)) (n0 : Nat) (w : Bool) (ws : List Jvm.Cond) (as' : Array Value) (h0 : Heap) (SL : List Addr) (Q : Option Value → Heap → List Addr → Prop) : Prop :=
  MetFree l y (head1 (Jvm.Cond.code y bytes mx rt :: ws) R) (fun a U => a = as' ∧ Z.Warmed39 U.vm ∧ U.heap = h0 ∧ CHv Z EL U.vm h0 ∧ Sfs Z EL U.vm h0 SL) (fun _ _ _ _ _ => True)
    (fun _ U o U' => ∃ v Ls N, o = .returned v ∧ Q v U'.heap N ∧ Fr n0 Ls ∧ CHr Z EL U.vm U.heap U'.vm U'.heap ∧ Sfs Z EL U'.vm U'.heap N ∧ En w U o U' Ls R.cells R.slots)
theorem nlt {a b : Nat} (h : a < b) : a < b := h
theorem nle {a b : Nat} (h : a ≤ b) : a ≤ b := h
theorem neq {a b : Nat} (h : a = b) : a = b := h
theorem nne {a b : Nat} (h : a ≠ b) : a ≠ b := h
theorem nne2 {x a b : Nat} (h : x ≠ a ∧ x ≠ b) : x ≠ a ∧ x ≠ b := h
theorem sta_keep {Z : State} {h h' : Heap} {C n d : String} {v : Value} {ws : List Addr} (F : Sta Z h C n d v) (K : Keep h h' ws) (q : ∀ x ∈ ws, ∀ cell : Cell, h[x]? = some cell → cell.vm.isStatics = false) : Sta Z h' C n d v := by
  obtain ⟨cf, i, k, f, st, cell, h1, h2, h3, h4, h5, h6, h7⟩ := F
  exact ⟨cf, i, k, f, st, cell, h1, h2, h3, h4, K.2.1 st cell h5 (fun m => by rw [q st m cell h5] at h6; cases h6), h6, h7⟩
theorem arr_keep {Z : State} {h h' : Heap} {a : Addr} {c : Cell} {ty : FieldType} {ws : List Addr} (F : RoadKit.Arr Z h a c ty) (K : Keep h h' ws) (q : a ∉ ws) : RoadKit.Arr Z h' a c ty := ⟨K.2.1 a c F.1 q, F.2⟩
section Closure
variable {l : Launch} {Z : State} {y : MethodName} {bytes : ByteArray} {mx : Nat} {rt : Option FieldType} {R : Room} {EL : List (String × Nat)} {n0 : Nat} {w : Bool} {Q : Option Value → Heap → List Addr → Prop} {h h' : Heap} {kc ks kc' ks' : Nat} {SL SL' : List Addr} {pc pc' : Nat} {L L' : Array Slot} {S S' : List Value} {a0 : Array Value}
variable {p : Program} {e : Env} {s : State} {m : MethodId} {args : Array Value} {below : List Frame} {meth : Method} {c : Code} {T T' : State} {locs' : List Loc}
theorem Sfs.mono (F : Sfs Z EL T.vm h SL) (q : ∀ x ∈ SL', x ∈ SL) : Sfs Z EL T.vm h SL' := fun x hx => F x (q x hx)
theorem Sfs.chr {vm vm1 : Vm} (F : Sfs Z EL vm h SL) (A : CHr Z EL vm h vm1 h') : Sfs Z EL vm1 h' SL := fun x hx => ⟨Nat.lt_of_lt_of_le (F x hx).1 A.2.1, A.safe (F x hx).1 (F x hx).2⟩
theorem Wk.mono (W : Wk l Z y bytes mx rt R EL n0 w p e s m args below meth c T h kc ks SL) (q : ∀ x ∈ SL', x ∈ SL) : Wk l Z y bytes mx rt R EL n0 w p e s m args below meth c T h kc ks SL' := by
  obtain ⟨A, k0, locs, X, e1, h1, h2, h3, h4, h5, h6, h7, h8⟩ := W
  exact ⟨A, k0, locs, X, e1, h1, h2, h3, h4, h5, h6, h7, h8.mono q⟩
/-- a step that interns nothing -/
theorem Wk.next (W : Wk l Z y bytes mx rt R EL n0 w p e s m args below meth c T h kc ks SL) (X' : Stand p l e R (s.setVm T.vm) m args below meth c T' locs' kc' ks') (e' : T'.heap = h') (hC : CHr Z EL T.vm h T.vm h') (N : Fr n0 locs') (hSf : Sfs Z EL T.vm h' SL') :
    Wk l Z y bytes mx rt R EL n0 w p e s m args below meth c T' h' kc' ks' SL' := by
  obtain ⟨⟨b1, b2, b3, b4, b5, b6, a0, b7⟩, k0, locs, X, e1, h1, h2, h3, h4, h5, h6, h7, h8⟩ := W
  have hW : (s.setVm T.vm).WarmedH T'.vm := X'.warmed
  have A := CHv.at X' h3 b7 hC.1
  have Xr : Stand p l e R (s.setVm T'.vm) m args below meth c T' locs' kc' ks' := X'.retabled hW.wide
  refine ⟨⟨b1, b2, b3, b4, b5, b6, a0, b7⟩, k0, locs', Xr, e', h1.trans (hW.since _) (Nat.le_refl _), Nat.le_trans h2 hC.2.1, State.Warmed39.trans (t := s.setVm T.vm) h3 hW.wide, ?_, (h5.trans hC).trans A, N, fun q => State.WarmedH.trans (t := s.setVm T.vm) (h7 q) hW, hSf.chr A⟩
  rw [hW.alike.findClass]; exact h4
/-- a step that may intern -/
theorem Wk.nextS (W : Wk l Z y bytes mx rt R EL n0 w p e s m args below meth c T h kc ks SL) (X' : Stand p l e R (s.setVm T'.vm) m args below meth c T' locs' kc' ks') (e' : T'.heap = h') {n1 : Nat} (hS : (s.setVm T.vm).Since T'.vm n1) (hn1 : h.size ≤ n1) (hn : n1 ≤ h'.size) (hC : CHr Z EL T.vm h T'.vm h') (N : Fr n0 locs') (hw : w = false → (s.setVm T.vm).WarmedH T'.vm) (hSf : Sfs Z EL T'.vm h' SL') :
    Wk l Z y bytes mx rt R EL n0 w p e s m args below meth c T' h' kc' ks' SL' := by
  obtain ⟨⟨b1, b2, b3, b4, b5, b6, a0, b7⟩, k0, locs, X, e1, h1, h2, h3, h4, h5, h6, h7, h8⟩ := W
  refine ⟨⟨b1, b2, b3, b4, b5, b6, a0, b7⟩, n1, locs', X', e', h1.trans hS (Nat.le_trans h2 hn1), hn, State.Warmed39.trans (t := s.setVm T.vm) h3 hS.1, ?_, h5.trans hC, N, fun q => State.WarmedH.trans (t := s.setVm T.vm) (h7 q) (hw q), hSf⟩
  rw [hS.1.alike.findClass]; exact h4
theorem Go.st (hst : ∀ {p : Program} {e : Env} {s : State} {m : MethodId} {args : Array Value} {below : List Frame} {meth : Method} {c : Code} {T : State}, Wk l Z y bytes mx rt R EL n0 w p e s m args below meth c T h kc ks SL → ∀ t, Steps p.tables e below (T.setTop (mkF m pc' L' S')) t → Steps p.tables e below (T.setTop (mkF m pc L S)) t)
    (k : Go l Z y bytes mx rt R EL n0 w Q h kc ks SL pc' L' S') : Go l Z y bytes mx rt R EL n0 w Q h kc ks SL pc L S := by
  intro p e s m args below meth c T W
  obtain ⟨s₂, o, st, r⟩ := k p e s m args below meth c T W
  exact ⟨s₂, o, hst W _ st, r⟩
theorem Go.mono (q : ∀ x ∈ SL', x ∈ SL) (k : Go l Z y bytes mx rt R EL n0 w Q h kc ks SL' pc L S) : Go l Z y bytes mx rt R EL n0 w Q h kc ks SL pc L S := fun p e s m args below meth c T W => k p e s m args below meth c T (W.mono q)
theorem Go.post {Q' : Option Value → Heap → List Addr → Prop} (q : ∀ v h N, Q' v h N → Q v h N) (k : Go l Z y bytes mx rt R EL n0 w Q' h kc ks SL pc L S) : Go l Z y bytes mx rt R EL n0 w Q h kc ks SL pc L S := fun p e s m args below meth c T W => by
  obtain ⟨s₂, o, st, r1, r2, v, Ls, N, r3, r4, r5⟩ := k p e s m args below meth c T W
  exact ⟨s₂, o, st, r1, r2, v, Ls, N, r3, q _ _ _ r4, r5⟩
theorem Ct.of {ws : List Jvm.Cond} {as' : Array Value} {h0 : Heap} (hp : plainFor y = true) (hEL : EW Z a0 EL) {L0 : Array Slot} (hE : ∀ m, entryFrame m as' mx = mkF m 0 L0 []) (G : Go l Z y bytes mx rt R EL n0 w Q h0 0 0 SL 0 L0 []) :
    Ct l Z y bytes mx rt R EL n0 w ws as' h0 SL Q := by
  refine MetFree.of_bodySF hp hisR ?_
  intro p e s m args below meth c s₁ Bd hml0 hP hK
  obtain ⟨rfl, hZ, hh, hC, hSf⟩ := hP
  have X0 : Stand p l e R (s.setVm s.vm) m args below meth c s₁ [] 0 0 := Stand.of_body Bd
  have e0 : s₁.heap = h0 := by rw [← hh, Bd.state]; rfl
  have hW : s.WarmedH s₁.vm := X0.warmed
  have A := CHv.at X0 hZ hEL hC
  have hl : meth.locks = false := BodyLoose.notSynchronized Bd
  rw [hE]
  refine G p e s m args below meth c s₁ ⟨⟨Bd.exec, Bd.bytes, hml0, Bd.returns, hl, (name_of_methodNamed Bd.named Bd.method).1, a0, hEL⟩, h0.size, [], X0.retabled hW.wide, e0, hW.since _, Nat.le_refl _, State.Warmed39.trans (t := s) hZ hW.wide, ?_, ?_, Fr.nil n0, fun _ => hW, hSf.chr A⟩
  · rw [hW.alike.findClass]; exact findClass_of_methodNamed Bd.named
  · rw [hh]; exact A
/-- a callee's contract pays the call -/
theorem Ct.pay {z : MethodName} {bytesZ : ByteArray} {mxZ : Nat} {rtZ : Option FieldType} {rm : Room} {as' : Array Value} {QZ : Option Value → Heap → List Addr → Prop} {len W : Nat} {vm0 : Vm} (hM : Ct l Z z bytesZ mxZ rtZ rm EL n0 w [] as' h SL' QZ)
    (hZ : Z.Warmed39 vm0) (hEL : EW Z a0 EL) (H : CHv Z EL vm0 h) (hSf : Sfs Z EL vm0 h SL') {a1 : Array Value} (wc : (Jvm.Cond.code z bytesZ mxZ rtZ).before a1 Z = true) (wz : (Jvm.Cond.initialized z.cls).before a1 Z = true) (hf : rm.frames + 1 ≤ R.frames) (hl : W + (mxZ + 11) + rm.locals ≤ R.locals) :
    BackS l R p e below (s.setVm vm0) args z len W (fun A a => a = as' ∧ A.U.heap = h ∧ A.cells + rm.cells ≤ R.cells ∧ A.slots + rm.slots ≤ R.slots)
      (fun A _ v B => ∃ Ls N, QZ v B.U.heap N ∧ Fr n0 Ls ∧ B.locs = A.locs ++ Ls ∧ B.cells = A.cells + rm.cells ∧ B.slots = A.slots + rm.slots ∧ CHr Z EL vm0 h B.U.vm B.U.heap ∧ Sfs Z EL B.U.vm B.U.heap N ∧ (w = false → (s.setVm vm0).WarmedH B.U.vm)) :=
  BackS.of_freeW (bytes := bytesZ) (maxL := mxZ) (ret := rtZ) (E := fun _ first o t L k n => k = rm.cells ∧ n = rm.slots ∧ (∃ v N, o = .returned v ∧ QZ v t.heap N ∧ Fr n0 L ∧ Sfs Z EL t.vm t.heap N) ∧ CHr Z EL first.vm first.heap t.vm t.heap ∧ (w = false → first.WarmedH t.vm)) hM hf hl
    (fun m meth c A a Y hp => have hU : Z.Warmed39 A.U.vm := wtrans (s := s.setVm vm0) hZ Y.warmed
      ⟨by show (Jvm.Cond.and _ .tt).before a A.U = true; rw [Cond.before_and, mv hU wc]; rfl, mv hU wc, mv hU wz, hp.2.2.1, hp.2.2.2⟩)
    (fun m meth c A a g mk Y hp => have A9 : CHr Z EL vm0 h A.U.vm h := CHv.at (T := A.U) Y hZ hEL H
      ⟨hp.1, wtrans (s := s.setVm vm0) hZ Y.warmed, hp.2.1, A9.1, hSf.chr A9⟩) (fun _ _ _ _ _ _ _ _ _ => trivial)
    (fun _ _ _ _ ⟨v, L, N, h1, h2, h3, h4, h5, h6⟩ => ⟨L, _, _, h6.1, rfl, rfl, ⟨v, N, h1, h2, h3, h5⟩, h4, h6.2⟩)
    (fun m meth c A a g mk v t L k n Y hp _ _ ⟨e1, e2, ⟨v', N, e3, e4, e5, e6⟩, e7, e8⟩ => by
      cases e3; subst e1 e2
      refine ⟨L, N, e4, e5, rfl, rfl, rfl, (CHv.at Y hZ hEL H).trans ?_, e6, fun q => State.WarmedH.trans (s := s.setVm vm0) (t := A.U) Y.warmed (e8 q)⟩
      rw [← hp.2.1]; exact e7)
end Closure
section Rules
abbrev usr (x y : Int32) : Int32 := (x.toUInt32 >>> (y &&& 31).toUInt32).toInt32
def cP : ClassFile.Cond → Int32 → Int32 → Prop
  | .eq, x, y => x = y
  | .ne, x, y => ¬ x = y
  | .lt, x, y => x < y
  | .ge, x, y => ¬ x < y
  | .gt, x, y => y < x
  | .le, x, y => ¬ y < x
def cneg : ClassFile.Cond → ClassFile.Cond
  | .eq => .ne
  | .ne => .eq
  | .lt => .ge
  | .ge => .lt
  | .gt => .le
  | .le => .gt
theorem ic_t {cd : ClassFile.Cond} {x y : Int32} (h : cP cd x y) : if_icmp.holds cd x y = true := by
  cases cd
  · exact (teq h).1
  · exact (feq h).2
  · exact (tlt h).1
  · exact (flt h).2.1
  · exact (tlt h).2.2.1
  · exact (flt h).2.2.2
theorem ic_f {cd : ClassFile.Cond} {x y : Int32} (h : cP (cneg cd) x y) : if_icmp.holds cd x y = false := by
  cases cd
  · exact (feq h).1
  · exact (teq h).2
  · exact (flt h).1
  · exact (tlt h).2.1
  · exact (flt h).2.2.1
  · exact (tlt h).2.2.2
theorem if_ic (cd : ClassFile.Cond) (x : Int32) : ifCond.holds cd x = if_icmp.holds cd x 0 := by cases cd <;> rfl
theorem if_t {cd : ClassFile.Cond} {x : Int32} (h : cP cd x 0) : ifCond.holds cd x = true := (if_ic cd x).trans (ic_t h)
theorem if_f {cd : ClassFile.Cond} {x : Int32} (h : cP (cneg cd) x 0) : ifCond.holds cd x = false := (if_ic cd x).trans (ic_f h)
theorem cP_em (cd : ClassFile.Cond) (x y : Int32) : cP cd x y ∨ cP (cneg cd) x y := by
  cases cd <;> simp only [cP, cneg] <;> first | exact Decidable.em _ | exact (Decidable.em _).symm
variable {l : Launch} {Z : State} {y : MethodName} {bytes : ByteArray} {mx : Nat} {rt : Option FieldType} {R : Room} {EL : List (String × Nat)} {n0 : Nat} {w : Bool} {Q : Option Value → Heap → List Addr → Prop} {h h' : Heap} {kc ks kc' ks' : Nat} {SL SL' : List Addr} {pc pc' pc'' : Nat} {L L' : Array Slot} {S S' : List Value} {a0 a1 : Array Value}
theorem Go.re (q1 : pc = pc') (q2 : L = L') (q3 : S = S') (K : Go l Z y bytes mx rt R EL n0 w Q h kc ks SL pc' L' S') : Go l Z y bytes mx rt R EL n0 w Q h kc ks SL pc L S := by subst q1 q2 q3; exact K
theorem Go.aloadN {k : Fin 4} {v : Value} (hd : decode bytes pc = .ok (.aload_n k, 1)) (hl : L[k.val]? = some (.val v)) (hv : v.isRef = true) (q : pc + 1 = pc') (K : Go l Z y bytes mx rt R EL n0 w Q h kc ks SL pc' L (v :: S)) : Go l Z y bytes mx rt R EL n0 w Q h kc ks SL pc L S := Go.st (fun W t kk => by obtain ⟨⟨hx, hby, -⟩, _, _, X, -⟩ := W; subst q; exact XS.aloadN X.here hx rfl (hb hby hd) hl hv kk) K
theorem Go.aload {k : Nat} {v : Value} (hd : decode bytes pc = .ok (.aload k, 2)) (hl : L[k]? = some (.val v)) (hv : v.isRef = true) (q : pc + 2 = pc') (K : Go l Z y bytes mx rt R EL n0 w Q h kc ks SL pc' L (v :: S)) : Go l Z y bytes mx rt R EL n0 w Q h kc ks SL pc L S := Go.st (fun W t kk => by obtain ⟨⟨hx, hby, -⟩, _, _, X, -⟩ := W; subst q; exact XS.aload X.here hx rfl (hb hby hd) hl hv kk) K
theorem Go.iloadN {k : Fin 4} {v : Int32} (hd : decode bytes pc = .ok (.iload_n k, 1)) (hl : L[k.val]? = some (.val (.int v))) (q : pc + 1 = pc') (K : Go l Z y bytes mx rt R EL n0 w Q h kc ks SL pc' L (.int v :: S)) : Go l Z y bytes mx rt R EL n0 w Q h kc ks SL pc L S := Go.st (fun W t kk => by obtain ⟨⟨hx, hby, -⟩, _, _, X, -⟩ := W; subst q; exact XS.iloadN X.here hx rfl (hb hby hd) hl kk) K
theorem Go.iload {k : Nat} {v : Int32} (hd : decode bytes pc = .ok (.iload k, 2)) (hl : L[k]? = some (.val (.int v))) (q : pc + 2 = pc') (K : Go l Z y bytes mx rt R EL n0 w Q h kc ks SL pc' L (.int v :: S)) : Go l Z y bytes mx rt R EL n0 w Q h kc ks SL pc L S := Go.st (fun W t kk => by obtain ⟨⟨hx, hby, -⟩, _, _, X, -⟩ := W; subst q; exact XS.iload X.here hx rfl (hb hby hd) hl kk) K
theorem Go.lloadN {k : Fin 4} {v : Int64} (hd : decode bytes pc = .ok (.lload_n k, 1)) (hl : L[k.val]? = some (.val (.long v))) (q : pc + 1 = pc') (K : Go l Z y bytes mx rt R EL n0 w Q h kc ks SL pc' L (.long v :: S)) : Go l Z y bytes mx rt R EL n0 w Q h kc ks SL pc L S := Go.st (fun W t kk => by obtain ⟨⟨hx, hby, -⟩, _, _, X, -⟩ := W; subst q; exact XS.lloadN X.here hx rfl (hb hby hd) hl kk) K
theorem Go.lload {k : Nat} {v : Int64} (hd : decode bytes pc = .ok (.lload k, 2)) (hl : L[k]? = some (.val (.long v))) (q : pc + 2 = pc') (K : Go l Z y bytes mx rt R EL n0 w Q h kc ks SL pc' L (.long v :: S)) : Go l Z y bytes mx rt R EL n0 w Q h kc ks SL pc L S := Go.st (fun W t kk => by obtain ⟨⟨hx, hby, -⟩, _, _, X, -⟩ := W; subst q; exact XS.lload X.here hx rfl (hb hby hd) hl kk) K
theorem Go.istoreN {k : Fin 4} {v : Int32} (L' : Array Slot) (hd : decode bytes pc = .ok (.istore_n k, 1)) (hl : storeLocals L k.val (.int v) = some L') (q : pc + 1 = pc') (K : Go l Z y bytes mx rt R EL n0 w Q h kc ks SL pc' L' S) : Go l Z y bytes mx rt R EL n0 w Q h kc ks SL pc L (.int v :: S) := Go.st (fun W t kk => by obtain ⟨⟨hx, hby, -⟩, _, _, X, -⟩ := W; subst q; exact XS.istoreN X.here hx rfl (hb hby hd) rfl hl kk) K
theorem Go.istore {k : Nat} {v : Int32} (L' : Array Slot) (hd : decode bytes pc = .ok (.istore k, 2)) (hl : storeLocals L k (.int v) = some L') (q : pc + 2 = pc') (K : Go l Z y bytes mx rt R EL n0 w Q h kc ks SL pc' L' S) : Go l Z y bytes mx rt R EL n0 w Q h kc ks SL pc L (.int v :: S) := Go.st (fun W t kk => by obtain ⟨⟨hx, hby, -⟩, _, _, X, -⟩ := W; subst q; exact XS.istore X.here hx rfl (hb hby hd) rfl hl kk) K
theorem Go.lstoreN {k : Fin 4} {v : Int64} (L' : Array Slot) (hd : decode bytes pc = .ok (.lstore_n k, 1)) (hl : storeLocals L k.val (.long v) = some L') (q : pc + 1 = pc') (K : Go l Z y bytes mx rt R EL n0 w Q h kc ks SL pc' L' S) : Go l Z y bytes mx rt R EL n0 w Q h kc ks SL pc L (.long v :: S) := Go.st (fun W t kk => by obtain ⟨⟨hx, hby, -⟩, _, _, X, -⟩ := W; subst q; exact XS.lstoreN X.here hx rfl (hb hby hd) rfl hl kk) K
theorem Go.lstore {k : Nat} {v : Int64} (L' : Array Slot) (hd : decode bytes pc = .ok (.lstore k, 2)) (hl : storeLocals L k (.long v) = some L') (q : pc + 2 = pc') (K : Go l Z y bytes mx rt R EL n0 w Q h kc ks SL pc' L' S) : Go l Z y bytes mx rt R EL n0 w Q h kc ks SL pc L (.long v :: S) := Go.st (fun W t kk => by obtain ⟨⟨hx, hby, -⟩, _, _, X, -⟩ := W; subst q; exact XS.lstore X.here hx rfl (hb hby hd) rfl hl kk) K
theorem Go.astoreN {k : Fin 4} {v : Value} (L' : Array Slot) (hd : decode bytes pc = .ok (.astore_n k, 1)) (hv : v.isRef = true) (hl : storeLocals L k.val v = some L') (q : pc + 1 = pc') (K : Go l Z y bytes mx rt R EL n0 w Q h kc ks SL pc' L' S) : Go l Z y bytes mx rt R EL n0 w Q h kc ks SL pc L (v :: S) := Go.st (fun W t kk => by obtain ⟨⟨hx, hby, -⟩, _, _, X, -⟩ := W; subst q; exact XS.astoreN X.here hx rfl (hb hby hd) rfl hv hl kk) K
theorem Go.astore {k : Nat} {v : Value} (L' : Array Slot) (hd : decode bytes pc = .ok (.astore k, 2)) (hv : v.isRef = true) (hl : storeLocals L k v = some L') (q : pc + 2 = pc') (K : Go l Z y bytes mx rt R EL n0 w Q h kc ks SL pc' L' S) : Go l Z y bytes mx rt R EL n0 w Q h kc ks SL pc L (v :: S) := Go.st (fun W t kk => by obtain ⟨⟨hx, hby, -⟩, _, _, X, -⟩ := W; subst q; exact XS.astore X.here hx rfl (hb hby hd) rfl hv hl kk) K
theorem Go.iconst {i : Int} (z : Int32) (hd : decode bytes pc = .ok (.iconst i, 1)) (hz : Int32.ofInt i = z) (q : pc + 1 = pc') (K : Go l Z y bytes mx rt R EL n0 w Q h kc ks SL pc' L (.int z :: S)) : Go l Z y bytes mx rt R EL n0 w Q h kc ks SL pc L S := Go.st (fun W t kk => by obtain ⟨⟨hx, hby, -⟩, _, _, X, -⟩ := W; subst q; subst hz; exact XS.iconst X.here hx rfl (hb hby hd) kk) K
theorem Go.bipush {i : Int} (z : Int32) (hd : decode bytes pc = .ok (.bipush i, 2)) (hz : (Int8.ofInt i).toInt32 = z) (q : pc + 2 = pc') (K : Go l Z y bytes mx rt R EL n0 w Q h kc ks SL pc' L (.int z :: S)) : Go l Z y bytes mx rt R EL n0 w Q h kc ks SL pc L S := Go.st (fun W t kk => by obtain ⟨⟨hx, hby, -⟩, _, _, X, -⟩ := W; subst q; subst hz; exact XS.bipush X.here hx rfl (hb hby hd) kk) K
theorem Go.sipush {i : Int} (z : Int32) (hd : decode bytes pc = .ok (.sipush i, 3)) (hz : (Int16.ofInt i).toInt32 = z) (q : pc + 3 = pc') (K : Go l Z y bytes mx rt R EL n0 w Q h kc ks SL pc' L (.int z :: S)) : Go l Z y bytes mx rt R EL n0 w Q h kc ks SL pc L S := Go.st (fun W t kk => by obtain ⟨⟨hx, hby, -⟩, _, _, X, -⟩ := W; subst q; subst hz; exact XS.sipush X.here hx rfl (hb hby hd) kk) K
theorem Go.lconst {k : Fin 2} (z : Int64) (hd : decode bytes pc = .ok (.lconst k, 1)) (hz : Int64.ofNat k.val = z) (q : pc + 1 = pc') (K : Go l Z y bytes mx rt R EL n0 w Q h kc ks SL pc' L (.long z :: S)) : Go l Z y bytes mx rt R EL n0 w Q h kc ks SL pc L S := Go.st (fun W t kk => by obtain ⟨⟨hx, hby, -⟩, _, _, X, -⟩ := W; subst q; subst hz; exact XS.lconst X.here hx rfl (hb hby hd) kk) K
theorem Go.aconstNull (hd : decode bytes pc = .ok (.aconst_null, 1)) (q : pc + 1 = pc') (K : Go l Z y bytes mx rt R EL n0 w Q h kc ks SL pc' L (.null :: S)) : Go l Z y bytes mx rt R EL n0 w Q h kc ks SL pc L S := Go.st (fun W t kk => by obtain ⟨⟨hx, hby, -⟩, _, _, X, -⟩ := W; subst q; exact XS.aconstNull X.here hx rfl (hb hby hd) kk) K
theorem Go.iadd {x y' : Int32} (hd : decode bytes pc = .ok (.iadd, 1)) (q : pc + 1 = pc') (K : Go l Z y bytes mx rt R EL n0 w Q h kc ks SL pc' L (.int (x + y') :: S)) : Go l Z y bytes mx rt R EL n0 w Q h kc ks SL pc L (.int y' :: .int x :: S) := Go.st (fun W t kk => by obtain ⟨⟨hx, hby, -⟩, _, _, X, -⟩ := W; subst q; exact XS.iadd X.here hx rfl (hb hby hd) rfl kk) K
theorem Go.isub {x y' : Int32} (hd : decode bytes pc = .ok (.isub, 1)) (q : pc + 1 = pc') (K : Go l Z y bytes mx rt R EL n0 w Q h kc ks SL pc' L (.int (x - y') :: S)) : Go l Z y bytes mx rt R EL n0 w Q h kc ks SL pc L (.int y' :: .int x :: S) := Go.st (fun W t kk => by obtain ⟨⟨hx, hby, -⟩, _, _, X, -⟩ := W; subst q; exact XS.isub X.here hx rfl (hb hby hd) rfl kk) K
theorem Go.iand {x y' : Int32} (hd : decode bytes pc = .ok (.iand, 1)) (q : pc + 1 = pc') (K : Go l Z y bytes mx rt R EL n0 w Q h kc ks SL pc' L (.int (x &&& y') :: S)) : Go l Z y bytes mx rt R EL n0 w Q h kc ks SL pc L (.int y' :: .int x :: S) := Go.st (fun W t kk => by obtain ⟨⟨hx, hby, -⟩, _, _, X, -⟩ := W; subst q; exact XS.iand X.here hx rfl (hb hby hd) rfl kk) K
theorem Go.ior {x y' : Int32} (hd : decode bytes pc = .ok (.ior, 1)) (q : pc + 1 = pc') (K : Go l Z y bytes mx rt R EL n0 w Q h kc ks SL pc' L (.int (x ||| y') :: S)) : Go l Z y bytes mx rt R EL n0 w Q h kc ks SL pc L (.int y' :: .int x :: S) := Go.st (fun W t kk => by obtain ⟨⟨hx, hby, -⟩, _, _, X, -⟩ := W; subst q; exact XS.ior X.here hx rfl (hb hby hd) rfl kk) K
theorem Go.ixor {x y' : Int32} (hd : decode bytes pc = .ok (.ixor, 1)) (q : pc + 1 = pc') (K : Go l Z y bytes mx rt R EL n0 w Q h kc ks SL pc' L (.int (x ^^^ y') :: S)) : Go l Z y bytes mx rt R EL n0 w Q h kc ks SL pc L (.int y' :: .int x :: S) := Go.st (fun W t kk => by obtain ⟨⟨hx, hby, -⟩, _, _, X, -⟩ := W; subst q; exact XS.ixor X.here hx rfl (hb hby hd) rfl kk) K
theorem Go.imul {x y' : Int32} (hd : decode bytes pc = .ok (.imul, 1)) (q : pc + 1 = pc') (K : Go l Z y bytes mx rt R EL n0 w Q h kc ks SL pc' L (.int (x * y') :: S)) : Go l Z y bytes mx rt R EL n0 w Q h kc ks SL pc L (.int y' :: .int x :: S) := Go.st (fun W t kk => by obtain ⟨⟨hx, hby, -⟩, _, _, X, -⟩ := W; subst q; exact XS.imul X.here hx rfl (hb hby hd) rfl kk) K
theorem Go.ishl {x y' : Int32} (hd : decode bytes pc = .ok (.ishl, 1)) (q : pc + 1 = pc') (K : Go l Z y bytes mx rt R EL n0 w Q h kc ks SL pc' L (.int (x <<< (y' &&& 31)) :: S)) : Go l Z y bytes mx rt R EL n0 w Q h kc ks SL pc L (.int y' :: .int x :: S) := Go.st (fun W t kk => by obtain ⟨⟨hx, hby, -⟩, _, _, X, -⟩ := W; subst q; exact XS.ishl X.here hx rfl (hb hby hd) rfl kk) K
theorem Go.ishr {x y' : Int32} (hd : decode bytes pc = .ok (.ishr, 1)) (q : pc + 1 = pc') (K : Go l Z y bytes mx rt R EL n0 w Q h kc ks SL pc' L (.int (x >>> (y' &&& 31)) :: S)) : Go l Z y bytes mx rt R EL n0 w Q h kc ks SL pc L (.int y' :: .int x :: S) := Go.st (fun W t kk => by obtain ⟨⟨hx, hby, -⟩, _, _, X, -⟩ := W; subst q; exact XS.ishr X.here hx rfl (hb hby hd) rfl kk) K
theorem Go.iushr {x y' : Int32} (hd : decode bytes pc = .ok (.iushr, 1)) (q : pc + 1 = pc') (K : Go l Z y bytes mx rt R EL n0 w Q h kc ks SL pc' L (.int (usr x y') :: S)) : Go l Z y bytes mx rt R EL n0 w Q h kc ks SL pc L (.int y' :: .int x :: S) := Go.st (fun W t kk => by obtain ⟨⟨hx, hby, -⟩, _, _, X, -⟩ := W; subst q; exact XS.iushr X.here hx rfl (hb hby hd) rfl kk) K
theorem Go.ladd {x y' : Int64} (hd : decode bytes pc = .ok (.ladd, 1)) (q : pc + 1 = pc') (K : Go l Z y bytes mx rt R EL n0 w Q h kc ks SL pc' L (.long (x + y') :: S)) : Go l Z y bytes mx rt R EL n0 w Q h kc ks SL pc L (.long y' :: .long x :: S) := Go.st (fun W t kk => by obtain ⟨⟨hx, hby, -⟩, _, _, X, -⟩ := W; subst q; exact XS.ladd X.here hx rfl (hb hby hd) rfl kk) K
theorem Go.lsub {x y' : Int64} (hd : decode bytes pc = .ok (.lsub, 1)) (q : pc + 1 = pc') (K : Go l Z y bytes mx rt R EL n0 w Q h kc ks SL pc' L (.long (x - y') :: S)) : Go l Z y bytes mx rt R EL n0 w Q h kc ks SL pc L (.long y' :: .long x :: S) := Go.st (fun W t kk => by obtain ⟨⟨hx, hby, -⟩, _, _, X, -⟩ := W; subst q; exact XS.lsub X.here hx rfl (hb hby hd) rfl kk) K
theorem Go.land {x y' : Int64} (hd : decode bytes pc = .ok (.land, 1)) (q : pc + 1 = pc') (K : Go l Z y bytes mx rt R EL n0 w Q h kc ks SL pc' L (.long (x &&& y') :: S)) : Go l Z y bytes mx rt R EL n0 w Q h kc ks SL pc L (.long y' :: .long x :: S) := Go.st (fun W t kk => by obtain ⟨⟨hx, hby, -⟩, _, _, X, -⟩ := W; subst q; exact XS.land X.here hx rfl (hb hby hd) rfl kk) K
theorem Go.lor {x y' : Int64} (hd : decode bytes pc = .ok (.lor, 1)) (q : pc + 1 = pc') (K : Go l Z y bytes mx rt R EL n0 w Q h kc ks SL pc' L (.long (x ||| y') :: S)) : Go l Z y bytes mx rt R EL n0 w Q h kc ks SL pc L (.long y' :: .long x :: S) := Go.st (fun W t kk => by obtain ⟨⟨hx, hby, -⟩, _, _, X, -⟩ := W; subst q; exact XS.lor X.here hx rfl (hb hby hd) rfl kk) K
theorem Go.lxor {x y' : Int64} (hd : decode bytes pc = .ok (.lxor, 1)) (q : pc + 1 = pc') (K : Go l Z y bytes mx rt R EL n0 w Q h kc ks SL pc' L (.long (x ^^^ y') :: S)) : Go l Z y bytes mx rt R EL n0 w Q h kc ks SL pc L (.long y' :: .long x :: S) := Go.st (fun W t kk => by obtain ⟨⟨hx, hby, -⟩, _, _, X, -⟩ := W; subst q; exact XS.lxor X.here hx rfl (hb hby hd) rfl kk) K
theorem Go.lmul {x y' : Int64} (hd : decode bytes pc = .ok (.lmul, 1)) (q : pc + 1 = pc') (K : Go l Z y bytes mx rt R EL n0 w Q h kc ks SL pc' L (.long (x * y') :: S)) : Go l Z y bytes mx rt R EL n0 w Q h kc ks SL pc L (.long y' :: .long x :: S) := Go.st (fun W t kk => by obtain ⟨⟨hx, hby, -⟩, _, _, X, -⟩ := W; subst q; exact XS.lmul X.here hx rfl (hb hby hd) rfl kk) K
theorem Go.irem {x y' : Int32} (hd : decode bytes pc = .ok (.irem, 1)) (hy : y' ≠ 0) (q : pc + 1 = pc') (K : Go l Z y bytes mx rt R EL n0 w Q h kc ks SL pc' L (.int (x % y') :: S)) : Go l Z y bytes mx rt R EL n0 w Q h kc ks SL pc L (.int y' :: .int x :: S) := Go.st (fun W t kk => by obtain ⟨⟨hx, hby, -⟩, _, _, X, -⟩ := W; subst q; exact iremM X hx rfl (hb hby hd) rfl hy kk) K
theorem Go.idiv {x y' : Int32} (hd : decode bytes pc = .ok (.idiv, 1)) (hy : y' ≠ 0) (q : pc + 1 = pc') (K : Go l Z y bytes mx rt R EL n0 w Q h kc ks SL pc' L (.int (x / y') :: S)) : Go l Z y bytes mx rt R EL n0 w Q h kc ks SL pc L (.int y' :: .int x :: S) := Go.st (fun W t kk => by obtain ⟨⟨hx, hby, -⟩, _, _, X, -⟩ := W; subst q; exact XS.idiv X.here hx rfl (hb hby hd) rfl hy kk) K
theorem Go.ineg {x : Int32} (hd : decode bytes pc = .ok (.ineg, 1)) (q : pc + 1 = pc') (K : Go l Z y bytes mx rt R EL n0 w Q h kc ks SL pc' L (.int (-x) :: S)) : Go l Z y bytes mx rt R EL n0 w Q h kc ks SL pc L (.int x :: S) := Go.st (fun W t kk => by obtain ⟨⟨hx, hby, -⟩, _, _, X, -⟩ := W; subst q; exact XS.ineg X.here hx rfl (hb hby hd) rfl kk) K
theorem Go.lcmp {x y' : Int64} (hd : decode bytes pc = .ok (.lcmp, 1)) (q : pc + 1 = pc') (K : Go l Z y bytes mx rt R EL n0 w Q h kc ks SL pc' L (.int (lcmpW x y') :: S)) : Go l Z y bytes mx rt R EL n0 w Q h kc ks SL pc L (.long y' :: .long x :: S) := Go.st (fun W t kk => by obtain ⟨⟨hx, hby, -⟩, _, _, X, -⟩ := W; subst q; exact XS.lcmp X.here hx rfl (hb hby hd) rfl kk) K
theorem Go.dup {x : Value} (hd : decode bytes pc = .ok (.dup, 1)) (hc : x.category = 1) (q : pc + 1 = pc') (K : Go l Z y bytes mx rt R EL n0 w Q h kc ks SL pc' L (x :: x :: S)) : Go l Z y bytes mx rt R EL n0 w Q h kc ks SL pc L (x :: S) := Go.st (fun W t kk => by obtain ⟨⟨hx, hby, -⟩, _, _, X, -⟩ := W; subst q; exact XS.dup X.here hx rfl (hb hby hd) rfl hc kk) K
theorem Go.dupX1 {x x2 : Value} (hd : decode bytes pc = .ok (.dup_x1, 1)) (hc : x.category = 1) (hc' : x2.category = 1) (q : pc + 1 = pc') (K : Go l Z y bytes mx rt R EL n0 w Q h kc ks SL pc' L (x :: x2 :: x :: S)) : Go l Z y bytes mx rt R EL n0 w Q h kc ks SL pc L (x :: x2 :: S) := Go.st (fun W t kk => by obtain ⟨⟨hx, hby, -⟩, _, _, X, -⟩ := W; subst q; exact XS.dupX1 X.here hx rfl (hb hby hd) rfl hc hc' kk) K
theorem Go.pop {x : Value} (hd : decode bytes pc = .ok (.pop, 1)) (hc : x.category = 1) (q : pc + 1 = pc') (K : Go l Z y bytes mx rt R EL n0 w Q h kc ks SL pc' L S) : Go l Z y bytes mx rt R EL n0 w Q h kc ks SL pc L (x :: S) := Go.st (fun W t kk => by obtain ⟨⟨hx, hby, -⟩, _, _, X, -⟩ := W; subst q; exact XS.pop X.here hx rfl (hb hby hd) rfl hc kk) K
theorem Go.iinc {k : Nat} {cst : Int} {x : Int32} (z : Int32) (L' : Array Slot) (hd : decode bytes pc = .ok (.iinc k cst, 3)) (hl : L[k]? = some (.val (.int x))) (hz : x + Int32.ofInt cst = z) (hl' : storeLocals L k (.int z) = some L') (q : pc + 3 = pc') (K : Go l Z y bytes mx rt R EL n0 w Q h kc ks SL pc' L' S) : Go l Z y bytes mx rt R EL n0 w Q h kc ks SL pc L S := Go.st (fun W t kk => by obtain ⟨⟨hx, hby, -⟩, _, _, X, -⟩ := W; subst q; subst hz; exact XS.iinc X.here hx rfl (hb hby hd) hl hl' kk) K
theorem Go.i2b {x : Int32} (hd : decode bytes pc = .ok (.i2b, 1)) (q : pc + 1 = pc') (K : Go l Z y bytes mx rt R EL n0 w Q h kc ks SL pc' L (.int (x.toInt8.toInt32) :: S)) : Go l Z y bytes mx rt R EL n0 w Q h kc ks SL pc L (.int x :: S) := Go.st (fun W t kk => by obtain ⟨⟨hx, hby, -⟩, _, _, X, -⟩ := W; subst q; exact XS.i2b X.here hx rfl (hb hby hd) rfl kk) K
theorem Go.i2c {x : Int32} (hd : decode bytes pc = .ok (.i2c, 1)) (q : pc + 1 = pc') (K : Go l Z y bytes mx rt R EL n0 w Q h kc ks SL pc' L (.int (nar .char x) :: S)) : Go l Z y bytes mx rt R EL n0 w Q h kc ks SL pc L (.int x :: S) := Go.st (fun W t kk => by obtain ⟨⟨hx, hby, -⟩, _, _, X, -⟩ := W; subst q; exact XS.i2c X.here hx rfl (hb hby hd) rfl kk) K
theorem Go.i2s {x : Int32} (hd : decode bytes pc = .ok (.i2s, 1)) (q : pc + 1 = pc') (K : Go l Z y bytes mx rt R EL n0 w Q h kc ks SL pc' L (.int (x.toInt16.toInt32) :: S)) : Go l Z y bytes mx rt R EL n0 w Q h kc ks SL pc L (.int x :: S) := Go.st (fun W t kk => by obtain ⟨⟨hx, hby, -⟩, _, _, X, -⟩ := W; subst q; exact XS.i2s X.here hx rfl (hb hby hd) rfl kk) K
theorem Go.i2l {x : Int32} (hd : decode bytes pc = .ok (.i2l, 1)) (q : pc + 1 = pc') (K : Go l Z y bytes mx rt R EL n0 w Q h kc ks SL pc' L (.long x.toInt64 :: S)) : Go l Z y bytes mx rt R EL n0 w Q h kc ks SL pc L (.int x :: S) := Go.st (fun W t kk => by obtain ⟨⟨hx, hby, -⟩, _, _, X, -⟩ := W; subst q; exact XS.i2l X.here hx rfl (hb hby hd) rfl kk) K
theorem Go.l2i {x : Int64} (hd : decode bytes pc = .ok (.l2i, 1)) (q : pc + 1 = pc') (K : Go l Z y bytes mx rt R EL n0 w Q h kc ks SL pc' L (.int x.toInt32 :: S)) : Go l Z y bytes mx rt R EL n0 w Q h kc ks SL pc L (.long x :: S) := Go.st (fun W t kk => by obtain ⟨⟨hx, hby, -⟩, _, _, X, -⟩ := W; subst q; exact XS.l2i X.here hx rfl (hb hby hd) rfl kk) K
theorem Go.goto {o : Int} (hd : decode bytes pc = .ok (.goto o, 3)) (ho : 0 ≤ (pc : Int) + o) (hp : ((pc : Int) + o).toNat = pc') (K : Go l Z y bytes mx rt R EL n0 w Q h kc ks SL pc' L S) : Go l Z y bytes mx rt R EL n0 w Q h kc ks SL pc L S := Go.st (fun W t kk => by obtain ⟨⟨hx, hby, -⟩, _, _, X, -⟩ := W; exact XS.goto X.here hx rfl rfl (hb hby hd) ho hp kk) K
theorem Go.ifT {cd : ClassFile.Cond} {x : Int32} {o : Int} (hd : decode bytes pc = .ok (.ifCond cd o, 3)) (hc : cP cd x 0) (ho : 0 ≤ (pc : Int) + o) (hp : ((pc : Int) + o).toNat = pc') (K : Go l Z y bytes mx rt R EL n0 w Q h kc ks SL pc' L S) : Go l Z y bytes mx rt R EL n0 w Q h kc ks SL pc L (.int x :: S) := Go.st (fun W t kk => by obtain ⟨⟨hx, hby, -⟩, _, _, X, -⟩ := W; exact XS.ifYes X.here hx rfl rfl (hb hby hd) rfl (if_t hc) ho hp kk) K
theorem Go.ifF {cd : ClassFile.Cond} {x : Int32} {o : Int} (hd : decode bytes pc = .ok (.ifCond cd o, 3)) (hc : cP (cneg cd) x 0) (q : pc + 3 = pc') (K : Go l Z y bytes mx rt R EL n0 w Q h kc ks SL pc' L S) : Go l Z y bytes mx rt R EL n0 w Q h kc ks SL pc L (.int x :: S) := Go.st (fun W t kk => by obtain ⟨⟨hx, hby, -⟩, _, _, X, -⟩ := W; subst q; exact XS.ifNo X.here hx rfl (hb hby hd) rfl (if_f hc) kk) K
theorem Go.icmpT {cd : ClassFile.Cond} {x x2 : Int32} {o : Int} (hd : decode bytes pc = .ok (.if_icmp cd o, 3)) (hc : cP cd x x2) (ho : 0 ≤ (pc : Int) + o) (hp : ((pc : Int) + o).toNat = pc') (K : Go l Z y bytes mx rt R EL n0 w Q h kc ks SL pc' L S) : Go l Z y bytes mx rt R EL n0 w Q h kc ks SL pc L (.int x2 :: .int x :: S) := Go.st (fun W t kk => by obtain ⟨⟨hx, hby, -⟩, _, _, X, -⟩ := W; exact XS.icmpYes X.here hx rfl rfl (hb hby hd) rfl (ic_t hc) ho hp kk) K
theorem Go.icmpF {cd : ClassFile.Cond} {x x2 : Int32} {o : Int} (hd : decode bytes pc = .ok (.if_icmp cd o, 3)) (hc : cP (cneg cd) x x2) (q : pc + 3 = pc') (K : Go l Z y bytes mx rt R EL n0 w Q h kc ks SL pc' L S) : Go l Z y bytes mx rt R EL n0 w Q h kc ks SL pc L (.int x2 :: .int x :: S) := Go.st (fun W t kk => by obtain ⟨⟨hx, hby, -⟩, _, _, X, -⟩ := W; subst q; exact XS.icmpNo X.here hx rfl (hb hby hd) rfl (ic_f hc) kk) K
theorem Go.ifnullT {o : Int} (hd : decode bytes pc = .ok (.ifnull o, 3)) (ho : 0 ≤ (pc : Int) + o) (hp : ((pc : Int) + o).toNat = pc') (K : Go l Z y bytes mx rt R EL n0 w Q h kc ks SL pc' L S) : Go l Z y bytes mx rt R EL n0 w Q h kc ks SL pc L (.null :: S) := Go.st (fun W t kk => by obtain ⟨⟨hx, hby, -⟩, _, _, X, -⟩ := W; exact XS.ifnullYes X.here hx rfl rfl (hb hby hd) rfl ho hp kk) K
theorem Go.ifnullF {o : Int} {b : Addr} (hd : decode bytes pc = .ok (.ifnull o, 3)) (q : pc + 3 = pc') (K : Go l Z y bytes mx rt R EL n0 w Q h kc ks SL pc' L S) : Go l Z y bytes mx rt R EL n0 w Q h kc ks SL pc L (.ref b :: S) := Go.st (fun W t kk => by obtain ⟨⟨hx, hby, -⟩, _, _, X, -⟩ := W; subst q; exact XS.ifnullNo X.here hx rfl (hb hby hd) rfl kk) K
theorem Go.ifnonnullT {o : Int} {b : Addr} (hd : decode bytes pc = .ok (.ifnonnull o, 3)) (ho : 0 ≤ (pc : Int) + o) (hp : ((pc : Int) + o).toNat = pc') (K : Go l Z y bytes mx rt R EL n0 w Q h kc ks SL pc' L S) : Go l Z y bytes mx rt R EL n0 w Q h kc ks SL pc L (.ref b :: S) := Go.st (fun W t kk => by obtain ⟨⟨hx, hby, -⟩, _, _, X, -⟩ := W; exact XS.ifnonnullYes X.here hx rfl rfl (hb hby hd) rfl ho hp kk) K
theorem Go.ifnonnullF {o : Int} (hd : decode bytes pc = .ok (.ifnonnull o, 3)) (q : pc + 3 = pc') (K : Go l Z y bytes mx rt R EL n0 w Q h kc ks SL pc' L S) : Go l Z y bytes mx rt R EL n0 w Q h kc ks SL pc L (.null :: S) := Go.st (fun W t kk => by obtain ⟨⟨hx, hby, -⟩, _, _, X, -⟩ := W; subst q; exact XS.ifnonnullNo X.here hx rfl (hb hby hd) rfl kk) K
theorem Go.acmp {cd : ClassFile.ACond} {x x2 : Value} {o : Int} (same : Bool) (hd : decode bytes pc = .ok (.if_acmp cd o, 3)) (h1 : x.isRef = true) (h2 : x2.isRef = true) (hq : decide (x = x2) = same) (ho : 0 ≤ (pc : Int) + o) (hp : pc' = if acV cd same = true then ((pc : Int) + o).toNat else pc + 3) (K : Go l Z y bytes mx rt R EL n0 w Q h kc ks SL pc' L S) : Go l Z y bytes mx rt R EL n0 w Q h kc ks SL pc L (x2 :: x :: S) := Go.st (fun W t kk => by obtain ⟨⟨hx, hby, -⟩, _, _, X, -⟩ := W; exact RoadKit.acmp X hx rfl h1 h2 rfl (hb hby hd) rfl hq ho hp kk) K
theorem Go.st1 {n : Nat} (q : pc + n = pc') (hst : ∀ {p : Program} {e : Env} {s : State} {m : MethodId} {args : Array Value} {below : List Frame} {meth : Method} {c : Code} {T : State} {locs : List Loc}, Stand p l e R (s.setVm T.vm) m args below meth c T locs kc ks → T.heap = h → p.tables.exec = Jvm.exec → c.code = bytes → Z.Warmed39 T.vm → T.vm.findClass y.cls = some m.cls → ∀ t, Steps p.tables e below (T.setTop (mkF m (pc + n) L' S')) t → Steps p.tables e below (T.setTop (mkF m pc L S)) t)
    (K : Go l Z y bytes mx rt R EL n0 w Q h kc ks SL pc' L' S') : Go l Z y bytes mx rt R EL n0 w Q h kc ks SL pc L S := by
  subst q
  exact Go.st (fun W t kk => by
    obtain ⟨⟨hx, hby, -⟩, _, _, X, e1, -, -, hZ, hown, -⟩ := W
    exact hst X e1 hx hby hZ hown t kk) K
/-- both ways of a branch -/
theorem Go.icmp {cd : ClassFile.Cond} {x x2 : Int32} {o : Int} (hd : decode bytes pc = .ok (.if_icmp cd o, 3)) (ho : 0 ≤ (pc : Int) + o) (hp : ((pc : Int) + o).toNat = pc') (q : pc + 3 = pc'') (Kt : cP cd x x2 → Go l Z y bytes mx rt R EL n0 w Q h kc ks SL pc' L S) (Kf : cP (cneg cd) x x2 → Go l Z y bytes mx rt R EL n0 w Q h kc ks SL pc'' L S) : Go l Z y bytes mx rt R EL n0 w Q h kc ks SL pc L (.int x2 :: .int x :: S) :=
  (cP_em cd x x2).elim (fun hc => Go.icmpT hd hc ho hp (Kt hc)) (fun hc => Go.icmpF hd hc q (Kf hc))
theorem Go.ifc {cd : ClassFile.Cond} {x : Int32} {o : Int} (hd : decode bytes pc = .ok (.ifCond cd o, 3)) (ho : 0 ≤ (pc : Int) + o) (hp : ((pc : Int) + o).toNat = pc') (q : pc + 3 = pc'') (Kt : cP cd x 0 → Go l Z y bytes mx rt R EL n0 w Q h kc ks SL pc' L S) (Kf : cP (cneg cd) x 0 → Go l Z y bytes mx rt R EL n0 w Q h kc ks SL pc'' L S) : Go l Z y bytes mx rt R EL n0 w Q h kc ks SL pc L (.int x :: S) :=
  (cP_em cd x 0).elim (fun hc => Go.ifT hd hc ho hp (Kt hc)) (fun hc => Go.ifF hd hc q (Kf hc))
theorem Go.ldcI {index : Nat} {z : Int32} (hd : decode bytes pc = .ok (.ldc index, 2)) (wd : (Jvm.Cond.constant y.cls index z).before a1 Z = true) (q : pc + 2 = pc') (K : Go l Z y bytes mx rt R EL n0 w Q h kc ks SL pc' L (.int z :: S)) : Go l Z y bytes mx rt R EL n0 w Q h kc ks SL pc L S :=
  Go.st1 q (fun X e1 hx hby hZ hown t kk => X.ldcInt hx hown (mv (s := State.setVm _ _) hZ wd) (g := mkF _ pc L S) rfl (hb hby hd) t kk) K
theorem Go.ldc2J {index : Nat} {z : Int64} (hd : decode bytes pc = .ok (.ldc2_w index, 3)) (wd : (Jvm.Cond.constantLong y.cls index z).before a1 Z = true) (q : pc + 3 = pc') (K : Go l Z y bytes mx rt R EL n0 w Q h kc ks SL pc' L (.long z :: S)) : Go l Z y bytes mx rt R EL n0 w Q h kc ks SL pc L S :=
  Go.st1 q (fun X e1 hx hby hZ hown t kk => X.ldc2Long hx hown (mv (s := State.setVm _ _) hZ wd) (g := mkF _ pc L S) rfl (hb hby hd) t kk) K
theorem Go.getF {R0 O n d host : String} {index : Nat} {a : Addr} {v : Value} (hd : decode bytes pc = .ok (.getfield index, 3)) (wd : (Jvm.Cond.fieldLink y.cls index R0 n d).before a1 Z = true ∨ (Jvm.Cond.fieldLinkNest y.cls index R0 n d host).before a1 Z = true) (via : Via Z R0 O n d) (F : Fld Z h a O n d v) (q : pc + 3 = pc')
    (K : Go l Z y bytes mx rt R EL n0 w Q h kc ks SL pc' L (v :: S)) : Go l Z y bytes mx rt R EL n0 w Q h kc ks SL pc L (.ref a :: S) := by
  intro p e s m args below meth c T W
  subst q
  have W0 := W
  obtain ⟨⟨hx, hby, -⟩, k0, locs, X, e1, -, -, hZ, hown, hC, N, -, hSf⟩ := W
  obtain ⟨T', X', e', st⟩ := RoadKit.getF X hx hZ hown wd via e1 F (g := mkF m pc L (.ref a :: S)) rfl rfl (hb hby hd)
  obtain ⟨s₂, o, st2, r⟩ := K p e s m args below meth c T' (W0.next X' e' (CHr.refl hC.1) N hSf)
  exact ⟨s₂, o, st _ st2, r⟩
theorem Go.getS {R0 O n d host : String} {index : Nat} {v : Value} (hd : decode bytes pc = .ok (.getstatic index, 3)) (wd : (Jvm.Cond.fieldLink y.cls index R0 n d).before a1 Z = true ∨ (Jvm.Cond.fieldLinkNest y.cls index R0 n d host).before a1 Z = true) (via : Via Z R0 O n d) (F : Sta Z h O n d v) (q : pc + 3 = pc')
    (K : Go l Z y bytes mx rt R EL n0 w Q h kc ks SL pc' L (v :: S)) : Go l Z y bytes mx rt R EL n0 w Q h kc ks SL pc L S := by
  intro p e s m args below meth c T W
  subst q
  have W0 := W
  obtain ⟨⟨hx, hby, -⟩, k0, locs, X, e1, -, -, hZ, hown, hC, N, -, hSf⟩ := W
  obtain ⟨T', X', e', st⟩ := RoadKit.getS2 X hx hZ hown wd via e1 F (g := mkF m pc L S) rfl (hb hby hd)
  obtain ⟨s₂, o, st2, r⟩ := K p e s m args below meth c T' (W0.next X' e' (CHr.refl hC.1) N hSf)
  exact ⟨s₂, o, st _ st2, r⟩
/-- the cell at a is no literal's -/
def Sf (Z : State) (EL : List (String × Nat)) (SL : List Addr) (h : Heap) (a : Addr) : Prop := ∀ vm, Z.Warmed39 vm → Sfs Z EL vm h SL → Safe Z EL vm h a
theorem Sf.exa {a : Addr} {C : String} (E : Exa Z h a C) (h1 : C ≠ "java/lang/String") (h2 : C ≠ "[B") : Sf Z EL SL h a := fun vm hZ _ => Safe.exa hZ.alike E h1 h2
theorem Sf.mem {a : Addr} (hm : a ∈ SL) : Sf Z EL SL h a := fun vm _ F => (F a hm).2
theorem Sf.nil {a : Addr} : Sf Z [] SL h a := fun vm _ _ B => by obtain ⟨p, hp, -⟩ := B; cases hp
theorem Sf.arr {a : Addr} {cl : Cell} {ty : FieldType} (A : Arr Z h a cl ty) (ht : ty ≠ .byte) : Sf Z EL SL h a := fun vm hZ _ => Safe.arr hZ.alike A ht
theorem Go.putF {R0 O n d host C : String} {index kk : Nat} {ty : FieldType} {a : Addr} {v old : Value} (hd : decode bytes pc = .ok (.putfield index, 3)) (wd : (Jvm.Cond.fieldLink y.cls index R0 n d).before a1 Z = true ∨ (Jvm.Cond.fieldLinkNest y.cls index R0 n d host).before a1 Z = true) (via : Via Z R0 O n d) (F : Fld Z h a O n d old) (E : Exa Z h a C)
    (Ly : (Jvm.Cond.lays C O n d).before a1 Z = true ∨ ((Jvm.Cond.laysFinal C O n d).before a1 Z = true ∧ y.cls = O ∧ y.name = "<init>")) (wi : (Jvm.Cond.instantiable C kk).before a1 Z = true) (hty : parseFieldDescriptor d = some ty) (hn : narrow ty v = v) (hf : fits ty v = true) (hsafe : Sf Z EL SL h a) (ha : n0 ≤ a) (q : pc + 3 = pc')
    (K : ∀ h', Wr h h' a (RoadKit.slotOf Z O n d) v → Go l Z y bytes mx rt R EL n0 w Q h' kc ks SL pc' L S) : Go l Z y bytes mx rt R EL n0 w Q h kc ks SL pc L (v :: .ref a :: S) := by
  intro p e s m args below meth c T W
  subst q
  have W0 := W
  obtain ⟨⟨hx, hby, -, -, -, hnm, -⟩, k0, locs, X, e1, -, -, hZ, hown, hC, N, -, hSf⟩ := W
  obtain ⟨T', h', X', e', Wr', st⟩ := RoadKit.putF X hx hZ hown wd via e1 F E (Ly.imp id fun q => ⟨q.1, q.2.1, hnm.trans q.2.2⟩) wi hty hn hf (g := mkF m pc L (v :: .ref a :: S)) rfl rfl (hb hby hd)
  have A := CHr.wr Wr' (hsafe _ hZ hSf) hC.1
  obtain ⟨s₂, o, st2, r⟩ := K h' Wr' p e s m args below meth c T' (W0.next X' e' A (Fr.snoc X' N ha) (hSf.chr A))
  exact ⟨s₂, o, st _ st2, r⟩
theorem Go.newO {C : String} {index n : Nat} (hd : decode bytes pc = .ok (.new index, 3)) (wd : (Jvm.Cond.classLink y.cls index C).before a1 Z = true) (wi : (Jvm.Cond.instantiable C n).before a1 Z = true) (wz : (Jvm.Cond.initialized C).before a1 Z = true) (hc : kc + 1 ≤ R.cells) (hl : ks + n ≤ R.slots) (q : pc + 3 = pc')
    (K : ∀ (a : Addr) (h' : Heap), a = h.size → Ext h h' → Exa Z h' a C → (∀ {O nm d : String} {ty : FieldType}, Laid Z a1 C O nm d → parseFieldDescriptor d = some ty → Fld Z h' a O nm d (defaultValue ty)) → Go l Z y bytes mx rt R EL n0 w Q h' (kc + 1) (ks + n) (a :: SL) pc' L (.ref a :: S)) : Go l Z y bytes mx rt R EL n0 w Q h kc ks SL pc L S := by
  intro p e s m args below meth c T W
  subst q
  have W0 := W
  obtain ⟨⟨hx, hby, -⟩, k0, locs, X, e1, -, -, hZ, hown, hC, N, -, hSf⟩ := W
  obtain ⟨T', h', X', e', E, A, D, -, st⟩ := RoadKit.newO X hx hZ hown wd wi wz e1 (g := mkF m pc L S) rfl (hb hby hd) hc hl
  have B := CHr.ext (vm := T.vm) (EL := EL) (Z := Z) E hC.1
  have hS2 : Sfs Z EL T.vm h' (h.size :: SL) := fun x hx' => by
    rcases List.mem_cons.mp hx' with rfl | q
    · exact ⟨A.lt, Safe.ext E hC.1 (Safe.new (Nat.le_refl _))⟩
    · exact hSf.chr B x q
  obtain ⟨s₂, o, st2, r⟩ := K h.size h' rfl E A D p e s m args below meth c T' (W0.next X' e' B N hS2)
  exact ⟨s₂, o, st _ st2, r⟩
theorem Go.newP {aty : ArrayType} {n : Int32} (cap : Nat) (hd : decode bytes pc = .ok (.newarray aty, 2)) (wd : (Jvm.Cond.arrayClass (newarray.typeOf aty)).before a1 Z = true) (hn : ¬ n < 0) (hcap : n.toNatClampNeg ≤ cap) (hb' : cap * 8 ≤ 536870912) (hc : kc + 1 ≤ R.cells) (hl : ks + cap ≤ R.slots) (q : pc + 2 = pc')
    (K : ∀ (a : Addr) (h' : Heap) (cA : ClassId), a = h.size → Ext h h' → Arr Z h' a (newA cA (newarray.typeOf aty) n) (newarray.typeOf aty) → Go l Z y bytes mx rt R EL n0 w Q h' (kc + 1) (ks + cap) (a :: SL) pc' L (.ref a :: S)) : Go l Z y bytes mx rt R EL n0 w Q h kc ks SL pc L (.int n :: S) := by
  intro p e s m args below meth c T W
  subst q
  have W0 := W
  obtain ⟨⟨hx, hby, -⟩, k0, locs, X, e1, -, -, hZ, hown, hC, N, -, hSf⟩ := W
  obtain ⟨T', h', cA, X', e', E, A, st⟩ := RoadKit.newP X hx hZ wd e1 (g := mkF m pc L (.int n :: S)) rfl (hb hby hd) rfl hn hcap hb' hc hl
  have B := CHr.ext (vm := T.vm) (EL := EL) (Z := Z) E hC.1
  have hS2 : Sfs Z EL T.vm h' (h.size :: SL) := fun x hx' => by
    rcases List.mem_cons.mp hx' with rfl | q
    · exact ⟨A.lt, Safe.ext E hC.1 (Safe.new (Nat.le_refl _))⟩
    · exact hSf.chr B x q
  obtain ⟨s₂, o, st2, r⟩ := K h.size h' cA rfl E A p e s m args below meth c T' (W0.next X' e' B N hS2)
  exact ⟨s₂, o, st _ st2, r⟩
theorem Go.initO {index : Nat} {a : Addr} (hd : decode bytes pc = .ok (.invokespecial index, 3)) (w1 : (Jvm.Cond.methodLink y.cls index Lib.objectInit).before a1 Z = true) (w2 : (Jvm.Cond.instanceMethod Lib.objectInit).before a1 Z = true) (w3 : (Jvm.Cond.code Lib.objectInit ⟨#[0xb1]⟩ 1 none).before a1 Z = true) (hL : L.size = mx) (hf : 1 ≤ R.frames) (Wd : Nat) (hW : (S.map fun v => v.category).sum = Wd) (hl : Wd + 12 ≤ R.locals) (q : pc + 3 = pc')
    (K : Go l Z y bytes mx rt R EL n0 w Q h kc ks SL pc' L S) : Go l Z y bytes mx rt R EL n0 w Q h kc ks SL pc L (.ref a :: S) := by
  intro p e s m args below meth c T W
  subst q
  have W0 := W
  obtain ⟨⟨hx, hby, hml, -⟩, k0, locs, X, e1, -, -, hZ, hown, hC, N, -, hSf⟩ := W
  obtain ⟨T', X', e', st⟩ := RoadKit.initO X hx hZ hown w1 w2 w3 e1 (g := mkF m pc L (.ref a :: S)) rfl (hL.trans hml.symm) rfl (hb hby hd) hf (W := Wd) (by show 2 * 0 + _ ≤ _; omega) hl
  obtain ⟨s₂, o, st2, r⟩ := K p e s m args below meth c T' (W0.next X' e' (CHr.refl hC.1) N hSf)
  exact ⟨s₂, o, st _ st2, r⟩
/-- a String constant, unread -/
theorem Go.ldcO {index : Nat} {text : String} (n : Nat) (hd : decode bytes pc = .ok (.ldc index, 2)) (hw : w = true) (wd : (Jvm.Cond.stringLink y.cls index text).before a1 Z = true) (wS : ∀ d ∈ Bundle.stringAtoms, d.before a1 Z = true) (hn : 4 * text.toList.length ≤ n) (hbig : n ≤ 536870912) (hc : kc + 2 ≤ R.cells) (hl : ks + (n + 4) ≤ R.slots) (q : pc + 2 = pc') (hEL : EW Z a1 EL)
    (K : ∀ (a : Addr) (h' : Heap), Ext h h' → Go l Z y bytes mx rt R EL n0 w Q h' (kc + 2) (ks + (n + 4)) SL pc' L (.ref a :: S)) : Go l Z y bytes mx rt R EL n0 w Q h kc ks SL pc L S := by
  intro p e s m args below meth c T W
  subst q
  have W0 := W
  obtain ⟨⟨hx, hby, -⟩, k0, locs, X, e1, hS, hk, hZ, hown, hC, N, -, hSf⟩ := W
  obtain ⟨a, T', h', k1, X', e', E, hS', hk', hZ', hown', hC', -, st⟩ := RoadKit.ldcOH (s := s.setVm T.vm) (vm0 := T.vm) X hx hZ hown wd wS e1 (k0 := h.size) ((State.WarmedH.refl _).since _) (Nat.le_refl _) hEL hC.1 (g := mkF m pc L S) rfl (hb hby hd) hn hbig hc hl
  have hS2 : (s.setVm T.vm).Since T'.vm h'.size := ⟨hS'.1, fun j p hj hp => by obtain ⟨z1, z2⟩ := hS'.2 j p hj hp; exact ⟨z1, Nat.lt_of_lt_of_le z2 hk'⟩⟩
  obtain ⟨s₂, o, st2, r⟩ := K a h' E p e s m args below meth c T' (W0.nextS X' e' hS2 E.1 (Nat.le_refl _) hC' N (fun q => by rw [hw] at q; cases q) (hSf.chr hC'))
  exact ⟨s₂, o, st _ st2, r⟩
/-- a String constant, read -/
theorem Go.ldcR {index : Nat} {text : String} (n : Nat) {vs : List Value} {z : Int32} (hd : decode bytes pc = .ok (.ldc index, 2)) (hw : w = true) (wd : (Jvm.Cond.stringLink y.cls index text).before a1 Z = true) (wS : ∀ d ∈ Bundle.stringAtoms, d.before a1 Z = true) (hn : 4 * text.toList.length ≤ n) (hbig : n ≤ 536870912) (hc : kc + 2 ≤ R.cells) (hl : ks + (n + 4) ≤ R.slots) (q : pc + 2 = pc') (hEL : EW Z a1 EL) (hmem : (y.cls, index) ∈ EL)
    (ht : (∀ c ∈ text.toList, c.toNat < 256) ∧ text.toList.map (fun c => Value.int (Jvm.Lit.byteI c.toNat.toUInt16)) = vs) (hz : ¬ z < 0) (hzl : z.toNatClampNeg = vs.length)
    (K : ∀ (a : Addr) (h' : Heap) (b : Addr) (k : ClassId), Ext h h' → Exa Z h' a "java/lang/String" → Fld Z h' a "java/lang/String" "coder" "B" (.int 0) → Fld Z h' a "java/lang/String" "value" "[B" (.ref b) → Arv Z h' b k .byte z vs (.int 0) → (∀ x ∈ SL, x ≠ a ∧ x ≠ b) → Go l Z y bytes mx rt R EL n0 w Q h' (kc + 2) (ks + (n + 4)) SL pc' L (.ref a :: S)) : Go l Z y bytes mx rt R EL n0 w Q h kc ks SL pc L S := by
  intro p e s m args below meth c T W
  subst q
  have W0 := W
  obtain ⟨⟨hx, hby, -⟩, k0, locs, X, e1, hS, hk, hZ, hown, hC, N, -, hSf⟩ := W
  obtain ⟨a, T', h', k1, b, k, X', e', E, hS', hk', hZ', hown', E1, E2, E3, E4, -, -, hC', -, hne, st⟩ := RoadKit.ldcCH (s := s.setVm T.vm) (vm0 := T.vm) X hx hZ hown wd wS e1 (k0 := h.size) ((State.WarmedH.refl _).since _) (Nat.le_refl _) hEL hmem hC.1 ht hz hzl (g := mkF m pc L S) rfl (hb hby hd) hn hbig hc hl
  have hS2 : (s.setVm T.vm).Since T'.vm h'.size := ⟨hS'.1, fun j p hj hp => by obtain ⟨z1, z2⟩ := hS'.2 j p hj hp; exact ⟨z1, Nat.lt_of_lt_of_le z2 hk'⟩⟩
  obtain ⟨s₂, o, st2, r⟩ := K a h' b k E E1 E2 E3 E4 (fun x hx' => hne x ((hSf.chr hC') x hx').2) p e s m args below meth c T' (W0.nextS X' e' hS2 E.1 (Nat.le_refl _) hC' N (fun q => by rw [hw] at q; cases q) (hSf.chr hC'))
  exact ⟨s₂, o, st _ st2, r⟩
section Calls
variable {z yy : MethodName} {bytesZ : ByteArray} {mxZ : Nat} {rtZ : Option FieldType} {rm : Room} {QZ : Option Value → Heap → List Addr → Prop} {argsL rest : List Value} {index : Nat}
theorem Go.callS (hM : Ct l Z z bytesZ mxZ rtZ rm EL n0 w [] argsL.toArray h SL' QZ) (hd : decode bytes pc = .ok (.invokestatic index, 3)) (w1 : (Jvm.Cond.methodLink y.cls index z).before a1 Z = true) (w2 : (Jvm.Cond.static z).before a1 Z = true) (w3 : (Jvm.Cond.initialized z.cls).before a1 Z = true) (w4 : (Jvm.Cond.code z bytesZ mxZ rtZ).before a1 Z = true)
    (hy : z.cls ≠ "java/lang/invoke/MethodHandle" ∧ z.cls ≠ "java/lang/invoke/VarHandle") (hlen : ∀ sig, parseMethodDescriptor z.desc = some sig → argsL.length = sig.parameters.length) (hst : S = argsL.reverse ++ rest) (Wd : Nat) (hW : (rest.map fun v => v.category).sum = Wd) (hL : L.size = mx) (hf : rm.frames + 1 ≤ R.frames) (hl : Wd + (mxZ + 11) + rm.locals ≤ R.locals) (hc : kc + rm.cells ≤ R.cells) (hs : ks + rm.slots ≤ R.slots) (hSL : ∀ x ∈ SL', x ∈ SL) (q : pc + 3 = pc')
    (K : ∀ v h' N, QZ v h' N → h.size ≤ h'.size → Go l Z y bytes mx rt R EL n0 w Q h' (kc + rm.cells) (ks + rm.slots) (N ++ SL) pc' L (v.toList ++ rest)) : Go l Z y bytes mx rt R EL n0 w Q h kc ks SL pc L S := by
  intro p e s m args below meth c T W
  subst q
  have W0 := W
  obtain ⟨⟨hx, hby, hml, -, -, -, a2, hEW⟩, k0, locs, X, e1, hS, hk, hZ, hown, hC, N, -, hSf⟩ := W
  obtain ⟨v, vm₁, ⟨T', Lt, kt, nt⟩, -, X', hS', hgr, ⟨Ls, N', hQ, hFr, l1, l2, l3, hC', hSf', hw'⟩, st⟩ := RoadKit.callSS X hx hown (mvT (s := s.setVm T.vm) hZ w1) (mvT (s := s.setVm T.vm) hZ w2) (mvT (s := s.setVm T.vm) hZ w3) (mvT (s := s.setVm T.vm) hZ w4) hy (Ct.pay (W := Wd) hM hZ hEW hC.1 (hSf.mono hSL) w4 w3 hf hl) (g := mkF m pc L S) rfl (hL.trans hml.symm) (argsL := argsL) (rest := rest) hlen hst (by show 2 * 0 + _ ≤ _; omega) (hb hby hd) (fun _ _ => ⟨rfl, e1, hc, hs⟩)
  dsimp only [Pt.U, Pt.locs, Pt.cells, Pt.slots] at X' l1 l2 l3 st hQ hC' hSf' hw' hgr hS'
  subst l1 l2 l3
  have hS2 : Sfs Z EL T'.vm T'.heap (N' ++ SL) := fun x hx' => (List.mem_append.mp hx').elim (hSf' x) (hSf.chr hC' x)
  obtain ⟨s₂, o, st2, r⟩ := K v _ N' hQ hC'.2.1 p e s m args below meth c T' (W0.nextS X' rfl hS' hC'.2.1 (Nat.le_refl _) hC' (N.app hFr) hw' hS2)
  exact ⟨s₂, o, st.trans st2, r⟩
theorem Go.callN {a : Addr} (hM : Ct l Z z bytesZ mxZ none rm EL n0 w [] (.ref a :: argsL).toArray h SL' QZ) (hd : decode bytes pc = .ok (.invokespecial index, 3)) (hz1 : z.name = "<init>") (w1 : (Jvm.Cond.methodLink y.cls index z).before a1 Z = true) (w2 : (Jvm.Cond.instanceMethod z).before a1 Z = true) (w3 : (Jvm.Cond.initialized z.cls).before a1 Z = true) (w4 : (Jvm.Cond.code z bytesZ mxZ none).before a1 Z = true)
    (hy : z.cls ≠ "java/lang/invoke/MethodHandle" ∧ z.cls ≠ "java/lang/invoke/VarHandle") (hlen : ∀ sig, parseMethodDescriptor z.desc = some sig → argsL.length = sig.parameters.length) (hst : S = argsL.reverse ++ .ref a :: rest) (Wd : Nat) (hW : (rest.map fun v => v.category).sum = Wd) (hL : L.size = mx) (hf : rm.frames + 1 ≤ R.frames) (hl : Wd + (mxZ + 11) + rm.locals ≤ R.locals) (hc : kc + rm.cells ≤ R.cells) (hs : ks + rm.slots ≤ R.slots) (hSL : ∀ x ∈ SL', x ∈ SL) (q : pc + 3 = pc')
    (K : ∀ v h' N, QZ v h' N → h.size ≤ h'.size → Go l Z y bytes mx rt R EL n0 w Q h' (kc + rm.cells) (ks + rm.slots) (N ++ SL) pc' L (v.toList ++ rest)) : Go l Z y bytes mx rt R EL n0 w Q h kc ks SL pc L S := by
  intro p e s m args below meth c T W
  subst q
  have W0 := W
  obtain ⟨⟨hx, hby, hml, -, -, -, a2, hEW⟩, k0, locs, X, e1, hS, hk, hZ, hown, hC, N, -, hSf⟩ := W
  obtain ⟨v, vm₁, ⟨T', Lt, kt, nt⟩, -, X', hS', hgr, ⟨Ls, N', hQ, hFr, l1, l2, l3, hC', hSf', hw'⟩, st⟩ := X.specialBackS hx hz1 hown (mvT (s := s.setVm T.vm) hZ w1) (mvT (s := s.setVm T.vm) hZ w2) (mvT (s := s.setVm T.vm) hZ w4) hy (Ct.pay (W := Wd) hM hZ hEW hC.1 (hSf.mono hSL) w4 w3 hf hl) (g := mkF m pc L S) rfl (hL.trans hml.symm) (Steps.refl _) (a := a) (argsL := argsL) (rest := rest) hlen hst (by show 2 * 0 + _ ≤ _; omega) (hb hby hd) (fun _ _ => ⟨rfl, e1, hc, hs⟩)
  dsimp only [Pt.U, Pt.locs, Pt.cells, Pt.slots] at X' l1 l2 l3 st hQ hC' hSf' hw' hgr hS'
  subst l1 l2 l3
  have hS2 : Sfs Z EL T'.vm T'.heap (N' ++ SL) := fun x hx' => (List.mem_append.mp hx').elim (hSf' x) (hSf.chr hC' x)
  obtain ⟨s₂, o, st2, r⟩ := K v _ N' hQ hC'.2.1 p e s m args below meth c T' (W0.nextS X' rfl hS' hC'.2.1 (Nat.le_refl _) hC' (N.app hFr) hw' hS2)
  exact ⟨s₂, o, st.trans st2, r⟩
theorem Go.callV {a : Addr} {C : String} (hM : Ct l Z z bytesZ mxZ rtZ rm EL n0 w [] (.ref a :: argsL).toArray h SL' QZ) (hd : decode bytes pc = .ok (.invokevirtual index, 3)) (w1 : (Jvm.Cond.methodLink y.cls index yy).before a1 Z = true) (wdec : (Jvm.Cond.declares yy).before a1 Z = true) (wnf : (Jvm.Cond.selects yy.cls yy yy).before a1 Z = true) (wsel : (Jvm.Cond.selects C yy z).before a1 Z = true) (w2 : (Jvm.Cond.instanceMethod z).before a1 Z = true) (w3 : (Jvm.Cond.initialized z.cls).before a1 Z = true) (w4 : (Jvm.Cond.code z bytesZ mxZ rtZ).before a1 Z = true) (E : Exa Z h a C)
    (hy : yy.cls ≠ "java/lang/invoke/MethodHandle" ∧ yy.cls ≠ "java/lang/invoke/VarHandle") (hlen : ∀ sig, parseMethodDescriptor yy.desc = some sig → argsL.length = sig.parameters.length) (hst : S = argsL.reverse ++ .ref a :: rest) (Wd : Nat) (hW : (rest.map fun v => v.category).sum = Wd) (hL : L.size = mx) (hf : rm.frames + 1 ≤ R.frames) (hl : Wd + (mxZ + 11) + rm.locals ≤ R.locals) (hc : kc + rm.cells ≤ R.cells) (hs : ks + rm.slots ≤ R.slots) (hSL : ∀ x ∈ SL', x ∈ SL) (q : pc + 3 = pc')
    (K : ∀ v h' N, QZ v h' N → h.size ≤ h'.size → Go l Z y bytes mx rt R EL n0 w Q h' (kc + rm.cells) (ks + rm.slots) (N ++ SL) pc' L (v.toList ++ rest)) : Go l Z y bytes mx rt R EL n0 w Q h kc ks SL pc L S := by
  intro p e s m args below meth c T W
  subst q
  have W0 := W
  obtain ⟨⟨hx, hby, hml, -, -, -, a2, hEW⟩, k0, locs, X, e1, hS, hk, hZ, hown, hC, N, -, hSf⟩ := W
  obtain ⟨cq, kq, qa, qb, qc⟩ := isOf (s := s.setVm T.vm) hZ e1 E
  obtain ⟨v, vm₁, ⟨T', Lt, kt, nt⟩, -, X', hS', hgr, ⟨Ls, N', hQ, hFr, l1, l2, l3, hC', hSf', hw'⟩, st⟩ := X.virtualBackS hx hown (mvT (s := s.setVm T.vm) hZ w1) (mvT (s := s.setVm T.vm) hZ wdec) (notFace_of_selects (args := #[]) (mvT (s := s.setVm T.vm) hZ wnf)) (mvT (s := s.setVm T.vm) hZ wsel) (mvT (s := s.setVm T.vm) hZ w2) hy (Ct.pay (W := Wd) hM hZ hEW hC.1 (hSf.mono hSL) w4 w3 hf hl) qa qc (g := mkF m pc L S) rfl (hL.trans hml.symm) (Steps.refl _) (argsL := argsL) (rest := rest) hlen hst (by show 2 * 0 + _ ≤ _; omega) (hb hby hd) (fun _ _ => ⟨rfl, e1, hc, hs⟩)
  dsimp only [Pt.U, Pt.locs, Pt.cells, Pt.slots] at X' l1 l2 l3 st hQ hC' hSf' hw' hgr hS'
  subst l1 l2 l3
  have hS2 : Sfs Z EL T'.vm T'.heap (N' ++ SL) := fun x hx' => (List.mem_append.mp hx').elim (hSf' x) (hSf.chr hC' x)
  obtain ⟨s₂, o, st2, r⟩ := K v _ N' hQ hC'.2.1 p e s m args below meth c T' (W0.nextS X' rfl hS' hC'.2.1 (Nat.le_refl _) hC' (N.app hFr) hw' hS2)
  exact ⟨s₂, o, st.trans st2, r⟩
end Calls
/-- the end of a body -/
theorem Go.out {v : Option Value} (hv : rt = none → v = none) (N : List Addr) (hN : ∀ x ∈ N, x ∈ SL) (hQ : Q v h N) (hc : kc ≤ R.cells) (hs : ks ≤ R.slots)
    (hst : ∀ {p : Program} {e : Env} {s : State} {m : MethodId} {args : Array Value} {below : List Frame} {meth : Method} {c : Code} {T : State} {locs : List Loc}, p.tables.exec = Jvm.exec → c.code = bytes → meth.sig.returnType = rt → Stand p l e R (s.setVm T.vm) m args below meth c T locs kc ks → ∀ fs, (∀ (f : JFrame) (acts : List Action), f.method = m → f.locked = none → f.entered = [] → (doReturn e (T.setTop f) acts v).1 = T.setFrames fs) → Steps p.tables e below (T.setTop (mkF m pc L S)) (T.setFrames fs)) :
    Go l Z y bytes mx rt R EL n0 w Q h kc ks SL pc L S := by
  intro p e s m args below meth c T W
  obtain ⟨⟨hx, hby, hml, hrt, hlk, -⟩, k0, locs, X, e1, hS, hk, hZ, hown, hC, Nn, hw', hSf⟩ := W
  obtain ⟨fs, hr, hrun, hended, hW⟩ := X.leaveW hS (by rw [e1]; exact hk) (v := v) (fun q => hv (hrt.symm.trans q)) hlk
  refine ⟨_, _, hst hx hby hrt X fs hr, hrun, hended, v, locs, N, rfl, ?_, Nn, ?_, ?_, ⟨hW.1, hW.2.1, hW.2.2.1, hW.2.2.2.mono hc hs⟩, hw'⟩
  · show Q v T.heap N; rw [e1]; exact hQ
  · show CHr Z EL s.vm s.heap T.vm T.heap; rw [e1]; exact hC
  · show Sfs Z EL T.vm T.heap N; rw [e1]; exact hSf.mono hN
theorem Go.ret0 (hr : rt = none) (N : List Addr) (hN : ∀ x ∈ N, x ∈ SL) (hd : decode bytes pc = .ok (.return_, 1)) (hc : kc ≤ R.cells) (hs : ks ≤ R.slots) (hQ : Q none h N) : Go l Z y bytes mx rt R EL n0 w Q h kc ks SL pc L [] :=
  Go.out (v := none) (fun _ => rfl) N hN hQ hc hs (fun hx hby hrt X fs hl => X.returnOut hx (hrt.trans hr) (hb hby hd) hl)
/-- a boolean, byte, char, short -/
theorem Go.retN {t : FieldType} {z : Int32} (z' : Int32) (hr : rt = some t) (ht : t = .boolean ∨ t = .byte ∨ t = .char ∨ t = .short) (hz : nar t z = z') (N : List Addr) (hN : ∀ x ∈ N, x ∈ SL) (hd : decode bytes pc = .ok (.ireturn, 1)) (hc : kc ≤ R.cells) (hs : ks ≤ R.slots) (hQ : Q (some (.int z')) h N) : Go l Z y bytes mx rt R EL n0 w Q h kc ks SL pc L (.int z :: S) :=
  Go.out (v := some (.int z')) (fun q => by rw [hr] at q; cases q) N hN hQ hc hs (fun hx hby hrt X fs hl => RoadKit.retN X hx (hrt.trans hr) ht (hb hby hd) (by rw [hz]; exact hl))
theorem Go.retI {z : Int32} (hr : rt = some .int) (N : List Addr) (hN : ∀ x ∈ N, x ∈ SL) (hd : decode bytes pc = .ok (.ireturn, 1)) (hc : kc ≤ R.cells) (hs : ks ≤ R.slots) (hQ : Q (some (.int z)) h N) : Go l Z y bytes mx rt R EL n0 w Q h kc ks SL pc L (.int z :: S) :=
  Go.out (v := some (.int z)) (fun q => by rw [hr] at q; cases q) N hN hQ hc hs (fun hx hby hrt X fs hl => RoadKit.retOut X hx (hrt.trans hr) rfl (Or.inl ⟨rfl, Or.inl rfl, _, rfl⟩) (hb hby hd) hl)
theorem Go.retJ {z : Int64} (hr : rt = some .long) (N : List Addr) (hN : ∀ x ∈ N, x ∈ SL) (hd : decode bytes pc = .ok (.lreturn, 1)) (hc : kc ≤ R.cells) (hs : ks ≤ R.slots) (hQ : Q (some (.long z)) h N) : Go l Z y bytes mx rt R EL n0 w Q h kc ks SL pc L (.long z :: S) :=
  Go.out (v := some (.long z)) (fun q => by rw [hr] at q; cases q) N hN hQ hc hs (fun hx hby hrt X fs hl => RoadKit.retOut X hx (hrt.trans hr) rfl (Or.inr (Or.inl ⟨rfl, rfl, _, rfl⟩)) (hb hby hd) hl)
theorem narrow_ref {t : FieldType} {v : Value} (ht : t.isReference = true) : narrow t v = v := by cases t <;> cases v <;> simp_all [FieldType.isReference, narrow]
theorem fits_r {t : FieldType} {v : Value} (ht : t.isReference = true) (hv : v.isRef = true) : fits t v = true := by cases t <;> cases v <;> simp_all [FieldType.isReference, fits, Value.isRef]
theorem Go.retA {t : FieldType} {v : Value} (hr : rt = some t) (ht : t.isReference = true) (hv : v.isRef = true) (N : List Addr) (hN : ∀ x ∈ N, x ∈ SL) (hd : decode bytes pc = .ok (.areturn, 1)) (hc : kc ≤ R.cells) (hs : ks ≤ R.slots) (hQ : Q (some v) h N) : Go l Z y bytes mx rt R EL n0 w Q h kc ks SL pc L (v :: S) :=
  Go.out (v := some v) (fun q => by rw [hr] at q; cases q) N hN hQ hc hs (fun hx hby hrt X fs hl => RoadKit.retOut X hx (hrt.trans hr) (narrow_ref ht) (Or.inr (Or.inr (Or.inr (Or.inr ⟨rfl, ht, hv⟩)))) (hb hby hd) hl)
/-! arrays -/
theorem Go.alen {a : Addr} {cl : Cell} {ty : FieldType} {n : Int32} (hd : decode bytes pc = .ok (.arraylength, 1)) (A : Arr Z h a cl ty) (hn : cl.slots.size.toInt32 = n) (q : pc + 1 = pc') (K : Go l Z y bytes mx rt R EL n0 w Q h kc ks SL pc' L (.int n :: S)) : Go l Z y bytes mx rt R EL n0 w Q h kc ks SL pc L (.ref a :: S) :=
  Go.st1 q (fun X e1 hx hby hZ hown t kk => X.arraylength hx (cell := cl) (ty := ty) (e1.symm ▸ A.1) (State.isArrayOf_alike hZ.alike A.2.1) (g := mkF _ pc L (.ref a :: S)) rfl rfl (hb hby hd) t (hn.symm ▸ kk)) K
theorem Go.aaload {a : Addr} {cl : Cell} {ty : FieldType} {j : Int32} {v : Value} (hd : decode bytes pc = .ok (.aaload, 1)) (A : Arr Z h a cl ty) (hty : ty.isReference = true) (hin : ¬ (j < 0 ∨ cl.slots.size ≤ j.toNatClampNeg)) (hv : cl.slots[j.toNatClampNeg]? = some v) (q : pc + 1 = pc') (K : Go l Z y bytes mx rt R EL n0 w Q h kc ks SL pc' L (v :: S)) : Go l Z y bytes mx rt R EL n0 w Q h kc ks SL pc L (.int j :: .ref a :: S) :=
  Go.st1 q (fun X e1 hx hby hZ hown t kk => X.aaload hx (cell := cl) (e1.symm ▸ A.1) (State.isArrayOf_alike hZ.alike A.2.1) hty A.2.2 hin hv (g := mkF _ pc L (.int j :: .ref a :: S)) rfl rfl (hb hby hd) t kk) K
theorem Go.iaload {a : Addr} {cl : Cell} {j : Int32} {v : Value} (hd : decode bytes pc = .ok (.iaload, 1)) (A : Arr Z h a cl .int) (hin : ¬ (j < 0 ∨ cl.slots.size ≤ j.toNatClampNeg)) (hv : cl.slots[j.toNatClampNeg]? = some v) (q : pc + 1 = pc') (K : Go l Z y bytes mx rt R EL n0 w Q h kc ks SL pc' L (v :: S)) : Go l Z y bytes mx rt R EL n0 w Q h kc ks SL pc L (.int j :: .ref a :: S) :=
  Go.st1 q (fun X e1 hx hby hZ hown t kk => X.iaload hx (cell := cl) (e1.symm ▸ A.1) (State.isArrayOf_alike hZ.alike A.2.1) A.2.2 hin hv (g := mkF _ pc L (.int j :: .ref a :: S)) rfl rfl (hb hby hd) t kk) K
theorem Go.baload {a : Addr} {cl : Cell} {j : Int32} {v : Value} (hd : decode bytes pc = .ok (.baload, 1)) (A : Arr Z h a cl .byte) (hin : ¬ (j < 0 ∨ cl.slots.size ≤ j.toNatClampNeg)) (hv : cl.slots[j.toNatClampNeg]? = some v) (q : pc + 1 = pc') (K : Go l Z y bytes mx rt R EL n0 w Q h kc ks SL pc' L (v :: S)) : Go l Z y bytes mx rt R EL n0 w Q h kc ks SL pc L (.int j :: .ref a :: S) :=
  Go.st1 q (fun X e1 hx hby hZ hown t kk => X.baloadBytes hx (cell := cl) (e1.symm ▸ A.1) (State.isArrayOf_alike hZ.alike A.2.1) A.2.2 hin hv (g := mkF _ pc L (.int j :: .ref a :: S)) rfl rfl (hb hby hd) t kk) K
theorem Go.caload {a : Addr} {cl : Cell} {j : Int32} {v : Value} (hd : decode bytes pc = .ok (.caload, 1)) (A : Arr Z h a cl .char) (hin : ¬ (j < 0 ∨ cl.slots.size ≤ j.toNatClampNeg)) (hv : cl.slots[j.toNatClampNeg]? = some v) (q : pc + 1 = pc') (K : Go l Z y bytes mx rt R EL n0 w Q h kc ks SL pc' L (v :: S)) : Go l Z y bytes mx rt R EL n0 w Q h kc ks SL pc L (.int j :: .ref a :: S) :=
  Go.st1 q (fun X e1 hx hby hZ hown t kk => X.caload hx (cell := cl) (e1.symm ▸ A.1) (State.isArrayOf_alike hZ.alike A.2.1) A.2.2 hin hv (g := mkF _ pc L (.int j :: .ref a :: S)) rfl rfl (hb hby hd) t kk) K
theorem Go.castore {a : Addr} {cl : Cell} {j x : Int32} (hd : decode bytes pc = .ok (.castore, 1)) (A : Arr Z h a cl .char) (hin : ¬ (j < 0 ∨ cl.slots.size ≤ j.toNatClampNeg)) (ha : n0 ≤ a) (q : pc + 1 = pc')
    (K : ∀ h', Wr h h' a j.toNatClampNeg (.int (nar .char x)) → Go l Z y bytes mx rt R EL n0 w Q h' kc ks SL pc' L S) : Go l Z y bytes mx rt R EL n0 w Q h kc ks SL pc L (.int x :: .int j :: .ref a :: S) := by
  intro p e s m args below meth c T W
  subst q
  have W0 := W
  obtain ⟨⟨hx, hby, -⟩, k0, locs, X, e1, -, -, hZ, hown, hC, N, -, hSf⟩ := W
  obtain ⟨T', h', X', e', Wr', st⟩ := RoadKit.stC X hx hZ e1 A hin (g := mkF m pc L (.int x :: .int j :: .ref a :: S)) rfl rfl (hb hby hd)
  have B := CHr.wr Wr' (Safe.arr hZ.alike A (by decide)) hC.1
  obtain ⟨s₂, o, st2, r⟩ := K h' Wr' p e s m args below meth c T' (W0.next X' e' B (Fr.snoc X' N ha) (hSf.chr B))
  exact ⟨s₂, o, st _ st2, r⟩
theorem Go.bastore {a : Addr} {cl : Cell} {j x : Int32} (hd : decode bytes pc = .ok (.bastore, 1)) (A : Arr Z h a cl .byte) (hin : ¬ (j < 0 ∨ cl.slots.size ≤ j.toNatClampNeg)) (hsafe : Sf Z EL SL h a) (ha : n0 ≤ a) (q : pc + 1 = pc')
    (K : ∀ h', Wr h h' a j.toNatClampNeg (.int (nar .byte x)) → Go l Z y bytes mx rt R EL n0 w Q h' kc ks SL pc' L S) : Go l Z y bytes mx rt R EL n0 w Q h kc ks SL pc L (.int x :: .int j :: .ref a :: S) := by
  intro p e s m args below meth c T W
  subst q
  have W0 := W
  obtain ⟨⟨hx, hby, -⟩, k0, locs, X, e1, -, -, hZ, hown, hC, N, -, hSf⟩ := W
  obtain ⟨T', h', X', e', Wr', st⟩ := RoadKit.stB X hx hZ e1 A hin (g := mkF m pc L (.int x :: .int j :: .ref a :: S)) rfl rfl (hb hby hd)
  have B := CHr.wr Wr' (hsafe _ hZ hSf) hC.1
  obtain ⟨s₂, o, st2, r⟩ := K h' Wr' p e s m args below meth c T' (W0.next X' e' B (Fr.snoc X' N ha) (hSf.chr B))
  exact ⟨s₂, o, st _ st2, r⟩
/-- two roads that meet: the rest is walked once -/
theorem Go.cut {α : Type} (pcJ : Nat) (LJ : α → Array Slot) (SJ : α → List Value) (K : ∀ r, Go l Z y bytes mx rt R EL n0 w Q h kc ks SL pcJ (LJ r) (SJ r)) (K2 : (∀ r, Go l Z y bytes mx rt R EL n0 w Q h kc ks SL pcJ (LJ r) (SJ r)) → Go l Z y bytes mx rt R EL n0 w Q h kc ks SL pc L S) : Go l Z y bytes mx rt R EL n0 w Q h kc ks SL pc L S := K2 K
end Rules
end Jvm.GoKit
namespace Jvm.GoKit
open Sem ClassFile Op Lib Jvm.Stand Jvm.Free Jvm.LawKit Jvm.RoadKit
section RulesV
variable {l : Launch} {Z : State} {y : MethodName} {bytes : ByteArray} {mx : Nat} {rt : Option FieldType} {R : Room} {EL : List (String × Nat)} {n0 : Nat} {w : Bool} {Q : Option Value → Heap → List Addr → Prop} {h h' : Heap} {kc ks kc' ks' : Nat} {SL SL' : List Addr} {pc pc' pc'' : Nat} {L L' : Array Slot} {S S' : List Value} {a0 a1 : Array Value}
variable {a : Addr} {k : ClassId} {ty : FieldType} {n j x : Int32} {vs : List Value} {d v : Value}
theorem Go.alenV (hd : decode bytes pc = .ok (.arraylength, 1)) (F : Arv Z h a k ty n vs d) (q : pc + 1 = pc') (K : Go l Z y bytes mx rt R EL n0 w Q h kc ks SL pc' L (.int n :: S)) : Go l Z y bytes mx rt R EL n0 w Q h kc ks SL pc L (.ref a :: S) := by
  obtain ⟨c, A, -, s1, s2, -⟩ := F
  exact Go.alen hd A (len_of s1 s2) q K
theorem Go.baloadV (hd : decode bytes pc = .ok (.baload, 1)) (F : Arv Z h a k .byte n vs d) (hj : ¬ j < 0 ∧ j < n) (hv : vs.getD j.toNatClampNeg d = v) (q : pc + 1 = pc') (K : Go l Z y bytes mx rt R EL n0 w Q h kc ks SL pc' L (v :: S)) : Go l Z y bytes mx rt R EL n0 w Q h kc ks SL pc L (.int j :: .ref a :: S) := by
  obtain ⟨c, A, -, s1, s2, H, -⟩ := F
  exact Go.baload hd A (inb_of s1 hj) (H.at (inb_of s1 hj) hv) q K
theorem Go.caloadV (hd : decode bytes pc = .ok (.caload, 1)) (F : Arv Z h a k .char n vs d) (hj : ¬ j < 0 ∧ j < n) (hv : vs.getD j.toNatClampNeg d = v) (q : pc + 1 = pc') (K : Go l Z y bytes mx rt R EL n0 w Q h kc ks SL pc' L (v :: S)) : Go l Z y bytes mx rt R EL n0 w Q h kc ks SL pc L (.int j :: .ref a :: S) := by
  obtain ⟨c, A, -, s1, s2, H, -⟩ := F
  exact Go.caload hd A (inb_of s1 hj) (H.at (inb_of s1 hj) hv) q K
theorem Go.ialoadV (hd : decode bytes pc = .ok (.iaload, 1)) (F : Arv Z h a k .int n vs d) (hj : ¬ j < 0 ∧ j < n) (hv : vs.getD j.toNatClampNeg d = v) (q : pc + 1 = pc') (K : Go l Z y bytes mx rt R EL n0 w Q h kc ks SL pc' L (v :: S)) : Go l Z y bytes mx rt R EL n0 w Q h kc ks SL pc L (.int j :: .ref a :: S) := by
  obtain ⟨c, A, -, s1, s2, H, -⟩ := F
  exact Go.iaload hd A (inb_of s1 hj) (H.at (inb_of s1 hj) hv) q K
theorem Go.newPV {aty : ArrayType} (cap : Nat) (vs : List Value) (hd : decode bytes pc = .ok (.newarray aty, 2)) (wd : (Jvm.Cond.arrayClass (newarray.typeOf aty)).before a1 Z = true) (hn : ¬ n < 0) (hcap : n.toNatClampNeg ≤ cap) (hb' : cap * 8 ≤ 536870912) (hc : kc + 1 ≤ R.cells) (hl : ks + cap ≤ R.slots) (hvs : vs = List.replicate n.toNatClampNeg (defaultValue (newarray.typeOf aty))) (q : pc + 2 = pc')
    (K : ∀ (a : Addr) (h' : Heap) (cA : ClassId), a = h.size → Ext h h' → Arv Z h' a cA (newarray.typeOf aty) n vs (defaultValue (newarray.typeOf aty)) → Go l Z y bytes mx rt R EL n0 w Q h' (kc + 1) (ks + cap) (a :: SL) pc' L (.ref a :: S)) : Go l Z y bytes mx rt R EL n0 w Q h kc ks SL pc L (.int n :: S) :=
  Go.newP cap hd wd hn hcap hb' hc hl q (fun a h' cA e E A => K a h' cA e E ((Arv.new A hn).pad (by rw [hvs, ← List.nil_append (List.replicate _ _)]; exact pad_rep _ _ _)))
theorem Go.castoreV (i : Nat) (hd : decode bytes pc = .ok (.castore, 1)) (F : Arv Z h a k .char n vs d) (hj : ¬ j < 0 ∧ j < n) (hi : j.toNatClampNeg = i) (hl : i < vs.length) (ha : n0 ≤ a) (q : pc + 1 = pc')
    (K : ∀ h', Wr h h' a j.toNatClampNeg (.int (nar .char x)) → Arv Z h' a k .char n (vs.set i (.int (nar .char x))) d → Go l Z y bytes mx rt R EL n0 w Q h' kc ks SL pc' L S) : Go l Z y bytes mx rt R EL n0 w Q h kc ks SL pc L (.int x :: .int j :: .ref a :: S) := by
  obtain ⟨c, A, q1, s1, s2, H, G⟩ := F
  exact Go.castore hd A (inb_of s1 hj) ha q (fun h' W => K h' W (Arv.set A q1 s1 s2 H G (fits_nar_char x) W i hi hl))
theorem fits_nar_byte (x : Int32) : fits .byte (.int (nar .byte x)) = true := by
  have h1 := Int8.toInt_lt x.toInt8
  have h2 := Int8.le_toInt x.toInt8
  have e : (x.toInt8.toInt32).toInt = x.toInt8.toInt := Int8.toInt_toInt32 _
  simp only [fits, nar, Bool.and_eq_true, decide_eq_true_eq, Int32.le_iff_toInt_le]
  rw [e]
  first
    | exact ⟨by have : ((-128 : Int32)).toInt = -128 := by decide
                omega, by have : ((127 : Int32)).toInt = 127 := by decide
                          omega⟩
    | omega
theorem Go.bastoreV (i : Nat) (hd : decode bytes pc = .ok (.bastore, 1)) (F : Arv Z h a k .byte n vs d) (hj : ¬ j < 0 ∧ j < n) (hi : j.toNatClampNeg = i) (hl : i < vs.length) (hsafe : Sf Z EL SL h a) (ha : n0 ≤ a) (q : pc + 1 = pc')
    (K : ∀ h', Wr h h' a j.toNatClampNeg (.int (nar .byte x)) → Arv Z h' a k .byte n (vs.set i (.int (nar .byte x))) d → Go l Z y bytes mx rt R EL n0 w Q h' kc ks SL pc' L S) : Go l Z y bytes mx rt R EL n0 w Q h kc ks SL pc L (.int x :: .int j :: .ref a :: S) := by
  obtain ⟨c, A, q1, s1, s2, H, G⟩ := F
  exact Go.bastore hd A (inb_of s1 hj) hsafe ha q (fun h' W => K h' W (Arv.set A q1 s1 s2 H G (fits_nar_byte x) W i hi hl))
theorem Go.cast {K0 : String} {index : Nat} (hd : decode bytes pc = .ok (.checkcast index, 3)) (wd : (Jvm.Cond.classLink y.cls index K0).before a1 Z = true) (F : Ins Z h a K0 true) (q : pc + 3 = pc') (K : Go l Z y bytes mx rt R EL n0 w Q h kc ks SL pc' L (.ref a :: S)) : Go l Z y bytes mx rt R EL n0 w Q h kc ks SL pc L (.ref a :: S) := by
  intro p e s m args below meth c T W
  subst q
  have W0 := W
  obtain ⟨⟨hx, hby, -⟩, k0, locs, X, e1, -, -, hZ, hown, hC, N, -, hSf⟩ := W
  obtain ⟨T', X', e', st⟩ := RoadKit.castY X hx hZ hown wd e1 F (g := mkF m pc L (.ref a :: S)) rfl rfl (hb hby hd)
  obtain ⟨s₂, o, st2, r⟩ := K p e s m args below meth c T' (W0.next X' e' (CHr.refl hC.1) N hSf)
  exact ⟨s₂, o, st _ st2, r⟩
theorem Go.inst {K0 : String} {index : Nat} (hd : decode bytes pc = .ok (.instanceof index, 3)) (wd : (Jvm.Cond.classLink y.cls index K0).before a1 Z = true) (F : Ins Z h a K0 true) (q : pc + 3 = pc') (K : Go l Z y bytes mx rt R EL n0 w Q h kc ks SL pc' L (.int 1 :: S)) : Go l Z y bytes mx rt R EL n0 w Q h kc ks SL pc L (.ref a :: S) := by
  intro p e s m args below meth c T W
  subst q
  have W0 := W
  obtain ⟨⟨hx, hby, -⟩, k0, locs, X, e1, -, -, hZ, hown, hC, N, -, hSf⟩ := W
  obtain ⟨T', X', e', st⟩ := RoadKit.instY X hx hZ hown wd e1 F (g := mkF m pc L (.ref a :: S)) rfl rfl (hb hby hd)
  obtain ⟨s₂, o, st2, r⟩ := K p e s m args below meth c T' (W0.next X' e' (CHr.refl hC.1) N hSf)
  exact ⟨s₂, o, st _ st2, r⟩
theorem Go.acopy {index : Nat} {b : Addr} {k' : ClassId} {z z' sp dp nn : Int32} {vd us : List Value} {dv dd : Value} (hd : decode bytes pc = .ok (.invokestatic index, 3)) (w1 : (Jvm.Cond.methodLink y.cls index Jvm.Stand.acN).before a1 Z = true) (w2 : (Jvm.Cond.native Jvm.Stand.acN).before a1 Z = true) (w3 : (Jvm.Cond.static Jvm.Stand.acN).before a1 Z = true) (w4 : (Jvm.Cond.initialized "java/lang/System").before a1 Z = true)
    (A : Arv Z h a k ty z vs dv) (B : Arv Z h b k' ty z' vd dd) (hty : refKind ty = false) (h1 : ¬ sp < 0) (h2 : ¬ dp < 0) (h3 : ¬ nn < 0) (h4 : sp.toNatClampNeg + nn.toNatClampNeg ≤ z.toNatClampNeg) (h5 : dp.toNatClampNeg + nn.toNatClampNeg ≤ z'.toNatClampNeg) (hus : us = (List.range nn.toNatClampNeg).map fun i => vs.getD (sp.toNatClampNeg + i) dv) (hl : dp.toNatClampNeg + nn.toNatClampNeg ≤ vd.length)
    (hsafe : Sf Z EL SL h b) (ge : n0 ≤ b) (hL : L.size = mx) (hf : 1 ≤ R.frames) (Wd : Nat) (hW : (S.map fun v => v.category).sum = Wd) (hlo : Wd + (nativeFrameWords "java/lang/System" "arraycopy" 5 + 11) ≤ R.locals) (q : pc + 3 = pc')
    (K : ∀ h', Keep h h' [b] → Arv Z h' b k' ty z' (vd.take dp.toNatClampNeg ++ us ++ vd.drop (dp.toNatClampNeg + nn.toNatClampNeg)) dd → Go l Z y bytes mx rt R EL n0 w Q h' kc ks SL pc' L S) : Go l Z y bytes mx rt R EL n0 w Q h kc ks SL pc L (.int nn :: .int dp :: .ref b :: .int sp :: .ref a :: S) := by
  intro p e s m args below meth c T W
  subst q
  have W0 := W
  obtain ⟨⟨hx, hby, hml, -⟩, k0, locs, X, e1, -, -, hZ, hown, hC, N, -, hSf⟩ := W
  obtain ⟨T', h', L', X', e', N', Kp, A', st⟩ := RoadKit.cpA X hx hZ hown w1 w2 w3 w4 e1 A B (Or.inl ⟨rfl, hty⟩) h1 h2 h3 h4 h5 hus hl N ge (g := mkF m pc L (.int nn :: .int dp :: .ref b :: .int sp :: .ref a :: S)) rfl (hL.trans hml.symm) rfl (hb hby hd) hf (W := Wd) (by show 2 * 0 + _ ≤ _; omega) hlo
  have Bk := CHr.keep (vm := T.vm) Kp (fun x hx' => by cases List.mem_singleton.mp hx'; exact hsafe _ hZ hSf) hC.1
  obtain ⟨s₂, o, st2, r⟩ := K h' Kp A' p e s m args below meth c T' (W0.next X' e' Bk N' (hSf.chr Bk))
  exact ⟨s₂, o, st _ st2, r⟩
/-- a loop: the head is reached again with a smaller measure -/
theorem Go.ind {α : Type} (μ : α → Nat) (P : α → Prop) (hJ : α → Heap) (LJ : α → Array Slot) (SJ : α → List Value) (step : ∀ x, P x → (∀ x', μ x' < μ x → P x' → Go l Z y bytes mx rt R EL n0 w Q (hJ x') kc ks SL pc (LJ x') (SJ x')) → Go l Z y bytes mx rt R EL n0 w Q (hJ x) kc ks SL pc (LJ x) (SJ x)) (x : α) (hx : P x) (e1 : h = hJ x) (e2 : L = LJ x) (e3 : S = SJ x) : Go l Z y bytes mx rt R EL n0 w Q h kc ks SL pc L S := by
  have key : ∀ n x, μ x < n → P x → Go l Z y bytes mx rt R EL n0 w Q (hJ x) kc ks SL pc (LJ x) (SJ x) := by
    intro n
    induction n with
    | zero => intro x q; exact absurd q (Nat.not_lt_zero _)
    | succ n ih => intro x q hP; exact step x hP (fun x' q' hP' => ih x' (by omega) hP')
  subst e1 e2 e3
  exact key _ x (Nat.lt_succ_self _) hx
theorem shr0 (n : Int32) : n >>> ((0 : Int32) &&& 31) = n := by
  have e : (0 : Int32) &&& 31 = 0 := by decide
  rw [e]; simp
theorem nar_i2b (x : Int32) : nar .byte (x.toInt8.toInt32) = x.toInt8.toInt32 := by simp [nar]
theorem ofN_lt {i n : Nat} (hi : i < 2 ^ 31) (hn : n < 2 ^ 31) : (Int32.ofNat i < Int32.ofNat n) ↔ i < n := by
  rw [Int32.lt_iff_toInt_lt, Int32.toInt_ofNat_of_lt hi, Int32.toInt_ofNat_of_lt hn]; omega
theorem ofN_eq {i n : Nat} (hi : i < 2 ^ 31) (hn : n < 2 ^ 31) : (Int32.ofNat i = Int32.ofNat n) ↔ i = n := by
  rw [← Int32.toInt_inj, Int32.toInt_ofNat_of_lt hi, Int32.toInt_ofNat_of_lt hn]; omega
theorem ofN_nn {i : Nat} (hi : i < 2 ^ 31) : ¬ Int32.ofNat i < 0 := by
  rw [Int32.lt_iff_toInt_lt, Int32.toInt_ofNat_of_lt hi]
  have e : (0 : Int32).toInt = 0 := by decide
  omega
theorem ofN_nat {i : Nat} (hi : i < 2 ^ 31) : (Int32.ofNat i).toNatClampNeg = i := by
  have e : (Int32.ofNat i).toNatClampNeg = (Int32.ofNat i).toInt.toNat := rfl
  rw [e, Int32.toInt_ofNat_of_lt hi]; omega
theorem ofN_succ (i : Nat) : Int32.ofNat i + 1 = Int32.ofNat (i + 1) := by
  rw [Int32.ofNat_add]; rfl
end RulesV
end Jvm.GoKit
namespace Jvm.Pilot.@@N@@
open Jvm Jvm.ClassFile Sem Op Lib Jvm.Free Jvm.Stand Jvm.LawKit Jvm.RoadKit Jvm.GoKit Bundle Jvm.Pilot.@@N@@.Jvm.D
abbrev EL1 : List (String × Nat) := consts_1
theorem own_ew {Z : State} {a0 : Array Value} (hw : ∀ d ∈ tables_1, d.before a0 Z = true) : EW Z a0 EL1 := EW.cons (hw _ (List.mem_of_getElem? (i := 25) rfl)) (by decide) (EW.nil)
theorem own_ws {Z : State} {a0 : Array Value} (hw : ∀ d ∈ tables_1, d.before a0 Z = true) : ∀ d ∈ Bundle.stringAtoms, d.before a0 Z = true := fun d hd => by
  simp only [Bundle.stringAtoms, List.mem_cons, List.not_mem_nil, or_false] at hd
  rcases hd with rfl | rfl | rfl | rfl | rfl | rfl | rfl
  · exact (hw _ (List.mem_of_getElem? (i := 13) rfl))
  · exact (hw _ (List.mem_of_getElem? (i := 12) rfl))
  · exact (hw _ (List.mem_of_getElem? (i := 26) rfl))
  · exact (hw _ (List.mem_of_getElem? (i := 27) rfl))
  · exact (hw _ (List.mem_of_getElem? (i := 28) rfl))
  · exact (hw _ (List.mem_of_getElem? (i := 29) rfl))
  · exact (hw _ (List.mem_of_getElem? (i := 30) rfl))
theorem pn_java_lang_Record : plainName "java/lang/Record" = true := by first | (simp [plainName, overriddenIn]; done) | decide +kernel
theorem d_jdk_30_method_1_code_0 : decode jdk_30_method_1_code 0 = .ok (.aload_n 0, 1) := by decide +kernel
theorem d_jdk_30_method_1_code_1 : decode jdk_30_method_1_code 1 = .ok (.invokespecial 1, 3) := by decide +kernel
theorem d_jdk_30_method_1_code_4 : decode jdk_30_method_1_code 4 = .ok (.return_, 1) := by decide +kernel
set_option maxRecDepth 65536 in
set_option maxHeartbeats 40000000 in
theorem ct_record (l : Launch) (Z : State) (a0 : Array Value) (hw : ∀ d ∈ tables_1, d.before a0 Z = true) (n0 : Nat) (h0 : Heap) (a1 : Addr) :
    Ct l Z (⟨"java/lang/Record", "<init>", "()V"⟩ : MethodName) jdk_30_method_1_code 1 none ({ frames := 1, cells := 0, slots := 0, locals := 12 } : Room) EL1 n0 true [] #[(.ref a1)] h0 [] (fun v h N => h0 = h ∧ v = none) := by
  refine Ct.of (a0 := a0) (plainFor_of_name pn_java_lang_Record) (own_ew hw) (L0 := #[.val (.ref a1)]) (fun m => by first | (simp [entryFrame, mkF, argsToLocals, Value.category]; done) | rfl) ?_
  refine Go.aloadN (pc' := 1) d_jdk_30_method_1_code_0 rfl rfl rfl ?_
  refine Go.initO (pc' := 4) (a1 := a0) d_jdk_30_method_1_code_1 (hw _ (List.mem_of_getElem? (i := 55) rfl)) (hw _ (List.mem_of_getElem? (i := 23) rfl)) (hw _ (List.mem_of_getElem? (i := 24) rfl)) rfl (by decide) 0 rfl (by decide) rfl ?_
  refine Go.ret0 rfl [] (fun _ q => nomatch q) d_jdk_30_method_1_code_4 (by decide) (by decide) ?_
  exact ⟨rfl, rfl⟩
theorem getD_int (l : List Int32) (i : Nat) : (l.map Value.int).getD i (.int 0) = .int (l.getD i 0) := by
  simp only [List.getD_eq_getElem?_getD, List.getElem?_map]; cases l[i]? <;> rfl
theorem list_ext0 {l1 l2 : List Int32} (hl : l1.length = l2.length) (h : ∀ j, j < l1.length → l1.getD j 0 = l2.getD j 0) : l1 = l2 := by
  apply List.ext_getElem hl
  intro j h1 h2
  have := h j h1
  simpa [List.getD_eq_getElem?_getD, h1, h2] using this
theorem pn_java_lang_StringLatin1 : plainName "java/lang/StringLatin1" = true := by first | (simp [plainName, overriddenIn]; done) | decide +kernel
theorem d_jdk_43_method_13_code_0 : decode jdk_43_method_13_code 0 = .ok (.aload_n 0, 1) := by decide +kernel
theorem d_jdk_43_method_13_code_1 : decode jdk_43_method_13_code 1 = .ok (.arraylength, 1) := by decide +kernel
theorem d_jdk_43_method_13_code_2 : decode jdk_43_method_13_code 2 = .ok (.aload_n 1, 1) := by decide +kernel
theorem d_jdk_43_method_13_code_3 : decode jdk_43_method_13_code 3 = .ok (.arraylength, 1) := by decide +kernel
theorem d_jdk_43_method_13_code_4 : decode jdk_43_method_13_code 4 = .ok (.if_icmp .ne 30, 3) := by decide +kernel
theorem d_jdk_43_method_13_code_34 : decode jdk_43_method_13_code 34 = .ok (.iconst 0, 1) := by decide +kernel
theorem d_jdk_43_method_13_code_35 : decode jdk_43_method_13_code 35 = .ok (.ireturn, 1) := by decide +kernel
theorem d_jdk_43_method_13_code_7 : decode jdk_43_method_13_code 7 = .ok (.iconst 0, 1) := by decide +kernel
theorem d_jdk_43_method_13_code_8 : decode jdk_43_method_13_code 8 = .ok (.istore_n 2, 1) := by decide +kernel
theorem d_jdk_43_method_13_code_9 : decode jdk_43_method_13_code 9 = .ok (.iload_n 2, 1) := by decide +kernel
theorem d_jdk_43_method_13_code_10 : decode jdk_43_method_13_code 10 = .ok (.aload_n 0, 1) := by decide +kernel
theorem d_jdk_43_method_13_code_11 : decode jdk_43_method_13_code 11 = .ok (.arraylength, 1) := by decide +kernel
theorem d_jdk_43_method_13_code_12 : decode jdk_43_method_13_code 12 = .ok (.if_icmp .ge 20, 3) := by decide +kernel
theorem d_jdk_43_method_13_code_32 : decode jdk_43_method_13_code 32 = .ok (.iconst 1, 1) := by decide +kernel
theorem d_jdk_43_method_13_code_33 : decode jdk_43_method_13_code 33 = .ok (.ireturn, 1) := by decide +kernel
theorem d_jdk_43_method_13_code_15 : decode jdk_43_method_13_code 15 = .ok (.aload_n 0, 1) := by decide +kernel
theorem d_jdk_43_method_13_code_16 : decode jdk_43_method_13_code 16 = .ok (.iload_n 2, 1) := by decide +kernel
theorem d_jdk_43_method_13_code_17 : decode jdk_43_method_13_code 17 = .ok (.baload, 1) := by decide +kernel
theorem d_jdk_43_method_13_code_18 : decode jdk_43_method_13_code 18 = .ok (.aload_n 1, 1) := by decide +kernel
theorem d_jdk_43_method_13_code_19 : decode jdk_43_method_13_code 19 = .ok (.iload_n 2, 1) := by decide +kernel
theorem d_jdk_43_method_13_code_20 : decode jdk_43_method_13_code 20 = .ok (.baload, 1) := by decide +kernel
theorem d_jdk_43_method_13_code_21 : decode jdk_43_method_13_code 21 = .ok (.if_icmp .eq 5, 3) := by decide +kernel
theorem d_jdk_43_method_13_code_26 : decode jdk_43_method_13_code 26 = .ok (.iinc 2 1, 3) := by decide +kernel
theorem d_jdk_43_method_13_code_29 : decode jdk_43_method_13_code 29 = .ok (.goto (-20), 3) := by decide +kernel
theorem d_jdk_43_method_13_code_24 : decode jdk_43_method_13_code 24 = .ok (.iconst 0, 1) := by decide +kernel
theorem d_jdk_43_method_13_code_25 : decode jdk_43_method_13_code 25 = .ok (.ireturn, 1) := by decide +kernel
set_option maxRecDepth 65536 in
set_option maxHeartbeats 40000000 in
theorem ct_leq (l : Launch) (Z : State) (a0 : Array Value) (hw : ∀ d ∈ tables_1, d.before a0 Z = true) (n0 : Nat) (h0 : Heap) (b1 b2 : Addr) (k1 k2 : ClassId) (l1 l2 : List Int32) (AV1 : Arv Z h0 b1 k1 .byte (Int32.ofNat l1.length) (l1.map Value.int) (.int 0)) (hl1 : l1.length < 2 ^ 31) (AV2 : Arv Z h0 b2 k2 .byte (Int32.ofNat l2.length) (l2.map Value.int) (.int 0)) (hl2 : l2.length < 2 ^ 31) :
    Ct l Z (⟨"java/lang/StringLatin1", "equals", "([B[B)Z"⟩ : MethodName) jdk_43_method_13_code 3 (some .boolean) ({ frames := 0, cells := 0, slots := 0, locals := 0 } : Room) EL1 n0 true [] #[(.ref b1), (.ref b2)] h0 [] (fun v h N => h0 = h ∧ v = some (.int (if l1 = l2 then (1 : Int32) else 0))) := by
  refine Ct.of (a0 := a0) (plainFor_of_name pn_java_lang_StringLatin1) (own_ew hw) (L0 := #[.val (.ref b1), .val (.ref b2), .unset]) (fun m => by first | (simp [entryFrame, mkF, argsToLocals, Value.category]; done) | rfl) ?_
  have l0_AV1 := nlt AV1.lt
  have l0_AV2 := nlt AV2.lt
  refine Go.aloadN (pc' := 1) d_jdk_43_method_13_code_0 rfl rfl rfl ?_
  refine Go.alenV (pc' := 2) d_jdk_43_method_13_code_1 AV1 rfl ?_
  refine Go.aloadN (pc' := 3) d_jdk_43_method_13_code_2 rfl rfl rfl ?_
  refine Go.alenV (pc' := 4) d_jdk_43_method_13_code_3 AV2 rfl ?_
  refine Go.icmp (pc' := 34) (pc'' := 7) d_jdk_43_method_13_code_4 (by decide) (by decide) rfl (fun hc_1 => ?_) (fun hc_1 => ?_)
  · have hc_1 : ¬ ((Int32.ofNat l1.length) = (Int32.ofNat l2.length)) := hc_1
    refine Go.iconst (pc' := 35) 0 d_jdk_43_method_13_code_34 rfl rfl ?_
    refine Go.retN (t := .boolean) (0 : Int32) rfl (by simp) rfl [] (fun _ q => nomatch q) d_jdk_43_method_13_code_35 (by decide) (by decide) ?_
    exact ⟨rfl, by rw [if_neg (fun q => hc_1 (by rw [q]))]⟩
  · have hc_1 : (Int32.ofNat l1.length) = (Int32.ofNat l2.length) := hc_1
    refine Go.iconst (pc' := 8) 0 d_jdk_43_method_13_code_7 rfl rfl ?_
    refine Go.istoreN (pc' := 9) #[.val (.ref b1), .val (.ref b2), .val (.int (0 : Int32))] d_jdk_43_method_13_code_8 rfl rfl ?_
    have hlen : l1.length = l2.length := (ofN_eq hl1 hl2).mp hc_1
    refine Go.ind (fun i => l1.length - i) (fun i => i ≤ l1.length ∧ ∀ j, j < i → l1.getD j 0 = l2.getD j 0) (fun _ => h0) (fun i => #[.val (.ref b1), .val (.ref b2), .val (.int (Int32.ofNat i))]) (fun _ => []) (fun i hi IH => ?_) 0 ⟨Nat.zero_le _, fun j hj => absurd hj (Nat.not_lt_zero _)⟩ rfl rfl rfl
    refine Go.iloadN (pc' := 10) d_jdk_43_method_13_code_9 rfl rfl ?_
    refine Go.aloadN (pc' := 11) d_jdk_43_method_13_code_10 rfl rfl rfl ?_
    refine Go.alenV (pc' := 12) d_jdk_43_method_13_code_11 AV1 rfl ?_
    refine Go.icmp (pc' := 32) (pc'' := 15) d_jdk_43_method_13_code_12 (by decide) (by decide) rfl (fun hc_2 => ?_) (fun hc_2 => ?_)
    · have hc_2 : ¬ ((Int32.ofNat i) < (Int32.ofNat l1.length)) := hc_2
      refine Go.iconst (pc' := 33) 1 d_jdk_43_method_13_code_32 rfl rfl ?_
      refine Go.retN (t := .boolean) (1 : Int32) rfl (by simp) rfl [] (fun _ q => nomatch q) d_jdk_43_method_13_code_33 (by decide) (by decide) ?_
      exact ⟨rfl, by rw [if_pos (list_ext0 hlen (fun j hj => hi.2 j (by have q := hc_2; rw [ofN_lt (by omega) hl1] at q; omega)))]⟩
    · have hc_2 : (Int32.ofNat i) < (Int32.ofNat l1.length) := hc_2
      refine Go.aloadN (pc' := 16) d_jdk_43_method_13_code_15 rfl rfl rfl ?_
      refine Go.iloadN (pc' := 17) d_jdk_43_method_13_code_16 rfl rfl ?_
      have hil : i < l1.length := by have q := hc_2; rw [ofN_lt (by omega) hl1] at q; omega
      refine Go.baloadV (pc' := 18) (v := .int (l1.getD i 0)) d_jdk_43_method_13_code_17 AV1 ⟨ofN_nn (by omega), (ofN_lt (by omega) hl1).mpr (by omega)⟩ (by rw [ofN_nat (by omega)]; exact getD_int _ _) rfl ?_
      refine Go.aloadN (pc' := 19) d_jdk_43_method_13_code_18 rfl rfl rfl ?_
      refine Go.iloadN (pc' := 20) d_jdk_43_method_13_code_19 rfl rfl ?_
      refine Go.baloadV (pc' := 21) (v := .int (l2.getD i 0)) d_jdk_43_method_13_code_20 AV2 ⟨ofN_nn (by omega), (ofN_lt (by omega) hl2).mpr (by omega)⟩ (by rw [ofN_nat (by omega)]; exact getD_int _ _) rfl ?_
      refine Go.icmp (pc' := 26) (pc'' := 24) d_jdk_43_method_13_code_21 (by decide) (by decide) rfl (fun hc_3 => ?_) (fun hc_3 => ?_)
      · have hc_3 : (l1.getD i 0) = (l2.getD i 0) := hc_3
        have hg : l1.getD i 0 = l2.getD i 0 := hc_3
        refine Go.iinc (pc' := 29) (Int32.ofNat i + 1) #[.val (.ref b1), .val (.ref b2), .val (.int (Int32.ofNat i + 1))] d_jdk_43_method_13_code_26 rfl rfl rfl rfl ?_
        refine Go.goto (pc' := 9) d_jdk_43_method_13_code_29 (by decide) (by decide) ?_
        refine Go.re (pc' := 9) (L' := #[.val (.ref b1), .val (.ref b2), .val (.int (Int32.ofNat (i + 1)))]) (S' := []) rfl (by rw [ofN_succ]) rfl ?_
        exact IH (i + 1) (by omega) ⟨by omega, fun j hj => by rcases Nat.lt_succ_iff_lt_or_eq.mp hj with q | rfl; exact hi.2 j q; exact hg⟩
      · have hc_3 : ¬ ((l1.getD i 0) = (l2.getD i 0)) := hc_3
        refine Go.iconst (pc' := 25) 0 d_jdk_43_method_13_code_24 rfl rfl ?_
        refine Go.retN (t := .boolean) (0 : Int32) rfl (by simp) rfl [] (fun _ q => nomatch q) d_jdk_43_method_13_code_25 (by decide) (by decide) ?_
        exact ⟨rfl, by rw [if_neg (fun q => hc_3 (by rw [q]))]⟩
theorem pn_java_lang_String : plainName "java/lang/String" = true := by first | (simp [plainName, overriddenIn]; done) | decide +kernel
theorem d_jdk_42_method_66_code_0 : decode jdk_42_method_66_code 0 = .ok (.aload_n 0, 1) := by decide +kernel
theorem d_jdk_42_method_66_code_1 : decode jdk_42_method_66_code 1 = .ok (.aload_n 1, 1) := by decide +kernel
theorem d_jdk_42_method_66_code_2 : decode jdk_42_method_66_code 2 = .ok (.if_acmp .ne 5, 3) := by decide +kernel
theorem d_jdk_42_method_66_code_7 : decode jdk_42_method_66_code 7 = .ok (.aload_n 1, 1) := by decide +kernel
theorem d_jdk_42_method_66_code_8 : decode jdk_42_method_66_code 8 = .ok (.instanceof 10, 3) := by decide +kernel
theorem d_jdk_42_method_66_code_11 : decode jdk_42_method_66_code 11 = .ok (.ifCond .eq 43, 3) := by decide +kernel
theorem d_jdk_42_method_66_code_14 : decode jdk_42_method_66_code 14 = .ok (.aload_n 1, 1) := by decide +kernel
theorem d_jdk_42_method_66_code_15 : decode jdk_42_method_66_code 15 = .ok (.checkcast 10, 3) := by decide +kernel
theorem d_jdk_42_method_66_code_18 : decode jdk_42_method_66_code 18 = .ok (.astore_n 2, 1) := by decide +kernel
theorem d_jdk_42_method_66_code_19 : decode jdk_42_method_66_code 19 = .ok (.getstatic 38, 3) := by decide +kernel
theorem d_jdk_42_method_66_code_22 : decode jdk_42_method_66_code 22 = .ok (.ifCond .eq 14, 3) := by decide +kernel
theorem d_jdk_42_method_66_code_25 : decode jdk_42_method_66_code 25 = .ok (.aload_n 0, 1) := by decide +kernel
theorem d_jdk_42_method_66_code_26 : decode jdk_42_method_66_code 26 = .ok (.getfield 15, 3) := by decide +kernel
theorem d_jdk_42_method_66_code_29 : decode jdk_42_method_66_code 29 = .ok (.aload_n 2, 1) := by decide +kernel
theorem d_jdk_42_method_66_code_30 : decode jdk_42_method_66_code 30 = .ok (.getfield 15, 3) := by decide +kernel
theorem d_jdk_42_method_66_code_33 : decode jdk_42_method_66_code 33 = .ok (.if_icmp .ne 21, 3) := by decide +kernel
theorem d_jdk_42_method_66_code_36 : decode jdk_42_method_66_code 36 = .ok (.aload_n 0, 1) := by decide +kernel
theorem d_jdk_42_method_66_code_37 : decode jdk_42_method_66_code 37 = .ok (.getfield 9, 3) := by decide +kernel
theorem d_jdk_42_method_66_code_40 : decode jdk_42_method_66_code 40 = .ok (.aload_n 2, 1) := by decide +kernel
theorem d_jdk_42_method_66_code_41 : decode jdk_42_method_66_code 41 = .ok (.getfield 9, 3) := by decide +kernel
theorem pd__28_5bB_5bB_29Z : parseMethodDescriptor "([B[B)Z" = some ⟨[(.array .byte), (.array .byte)], (some .boolean)⟩ := by decide +kernel
theorem d_jdk_42_method_66_code_44 : decode jdk_42_method_66_code 44 = .ok (.invokestatic 541, 3) := by decide +kernel
theorem d_jdk_42_method_66_code_47 : decode jdk_42_method_66_code 47 = .ok (.ifCond .eq 7, 3) := by decide +kernel
theorem d_jdk_42_method_66_code_54 : decode jdk_42_method_66_code 54 = .ok (.iconst 0, 1) := by decide +kernel
theorem d_jdk_42_method_66_code_55 : decode jdk_42_method_66_code 55 = .ok (.ireturn, 1) := by decide +kernel
theorem d_jdk_42_method_66_code_50 : decode jdk_42_method_66_code 50 = .ok (.iconst 1, 1) := by decide +kernel
theorem d_jdk_42_method_66_code_51 : decode jdk_42_method_66_code 51 = .ok (.goto 4, 3) := by decide +kernel
set_option maxRecDepth 65536 in
set_option maxHeartbeats 40000000 in
theorem ct_equals (l : Launch) (Z : State) (a0 : Array Value) (hw : ∀ d ∈ tables_1, d.before a0 Z = true) (n0 : Nat) (h0 : Heap) (a1 a2 b1 b2 : Addr) (k1 k2 : ClassId) (l1 l2 : List Int32) (hl1 : l1.length < 2 ^ 31) (hl2 : l2.length < 2 ^ 31) (cs : Int32) (S_cs : Sta Z h0 "java/lang/String" "COMPACT_STRINGS" "Z" (.int cs)) (hcs : ¬ cs = 0) (E1 : Exa Z h0 a1 "java/lang/String") (FC1 : Fld Z h0 a1 "java/lang/String" "coder" "B" (.int (0 : Int32))) (FV1 : Fld Z h0 a1 "java/lang/String" "value" "[B" (.ref b1)) (AV1 : Arv Z h0 b1 k1 .byte (Int32.ofNat l1.length) (l1.map Value.int) (.int 0)) (E2 : Exa Z h0 a2 "java/lang/String") (FC2 : Fld Z h0 a2 "java/lang/String" "coder" "B" (.int (0 : Int32))) (FV2 : Fld Z h0 a2 "java/lang/String" "value" "[B" (.ref b2)) (AV2 : Arv Z h0 b2 k2 .byte (Int32.ofNat l2.length) (l2.map Value.int) (.int 0)) (hne : a1 ≠ a2) :
    Ct l Z (⟨"java/lang/String", "equals", "(Ljava/lang/Object;)Z"⟩ : MethodName) jdk_42_method_66_code 3 (some .boolean) ({ frames := 1, cells := 0, slots := 0, locals := 14 } : Room) EL1 n0 true [] #[(.ref a1), (.ref a2)] h0 [] (fun v h N => h0 = h ∧ v = some (.int (if l1 = l2 then (1 : Int32) else 0))) := by
  refine Ct.of (a0 := a0) (plainFor_of_name pn_java_lang_String) (own_ew hw) (L0 := #[.val (.ref a1), .val (.ref a2), .unset]) (fun m => by first | (simp [entryFrame, mkF, argsToLocals, Value.category]; done) | rfl) ?_
  have l0_E1 := nlt E1.lt
  have l0_AV1 := nlt AV1.lt
  have l0_E2 := nlt E2.lt
  have l0_AV2 := nlt AV2.lt
  refine Go.aloadN (pc' := 1) d_jdk_42_method_66_code_0 rfl rfl rfl ?_
  refine Go.aloadN (pc' := 2) d_jdk_42_method_66_code_1 rfl rfl rfl ?_
  refine Go.acmp (pc' := 7) false d_jdk_42_method_66_code_2 rfl rfl (decide_eq_false (fun q => hne (Value.ref.inj q))) (by decide) (by decide) ?_
  refine Go.aloadN (pc' := 8) d_jdk_42_method_66_code_7 rfl rfl rfl ?_
  refine Go.inst (pc' := 11) (a1 := a0) d_jdk_42_method_66_code_8 (hw _ (List.mem_of_getElem? (i := 79) rfl)) (Ins.self E2) rfl ?_
  refine Go.ifF (pc' := 14) d_jdk_42_method_66_code_11 (show ¬ ((1 : Int32) = (0 : Int32)) by decide) rfl ?_
  refine Go.aloadN (pc' := 15) d_jdk_42_method_66_code_14 rfl rfl rfl ?_
  refine Go.cast (pc' := 18) (a1 := a0) d_jdk_42_method_66_code_15 (hw _ (List.mem_of_getElem? (i := 79) rfl)) (Ins.self E2) rfl ?_
  refine Go.astoreN (pc' := 19) #[.val (.ref a1), .val (.ref a2), .val (.ref a2)] d_jdk_42_method_66_code_18 rfl rfl rfl ?_
  refine Go.getS (pc' := 22) (host := "") (a1 := a0) d_jdk_42_method_66_code_19 (Or.inl (hw _ (List.mem_of_getElem? (i := 33) rfl))) Via.refl S_cs rfl ?_
  refine Go.ifF (pc' := 25) d_jdk_42_method_66_code_22 (hcs) rfl ?_
  refine Go.aloadN (pc' := 26) d_jdk_42_method_66_code_25 rfl rfl rfl ?_
  refine Go.getF (pc' := 29) (host := "") (a1 := a0) d_jdk_42_method_66_code_26 (Or.inl (hw _ (List.mem_of_getElem? (i := 32) rfl))) Via.refl FC1 rfl ?_
  refine Go.aloadN (pc' := 30) d_jdk_42_method_66_code_29 rfl rfl rfl ?_
  refine Go.getF (pc' := 33) (host := "") (a1 := a0) d_jdk_42_method_66_code_30 (Or.inl (hw _ (List.mem_of_getElem? (i := 32) rfl))) Via.refl FC2 rfl ?_
  refine Go.icmpF (pc' := 36) d_jdk_42_method_66_code_33 (show (0 : Int32) = (0 : Int32) by decide) rfl ?_
  refine Go.aloadN (pc' := 37) d_jdk_42_method_66_code_36 rfl rfl rfl ?_
  refine Go.getF (pc' := 40) (host := "") (a1 := a0) d_jdk_42_method_66_code_37 (Or.inl (hw _ (List.mem_of_getElem? (i := 31) rfl))) Via.refl FV1 rfl ?_
  refine Go.aloadN (pc' := 41) d_jdk_42_method_66_code_40 rfl rfl rfl ?_
  refine Go.getF (pc' := 44) (host := "") (a1 := a0) d_jdk_42_method_66_code_41 (Or.inl (hw _ (List.mem_of_getElem? (i := 31) rfl))) Via.refl FV2 rfl ?_
  refine Go.callS (a1 := a0) (pc' := 47) (argsL := [(.ref b1), (.ref b2)]) (rest := []) (ct_leq l Z a0 hw n0 h0 b1 b2 k1 k2 l1 l2 AV1 hl1 AV2 hl2) d_jdk_42_method_66_code_44 (hw _ (List.mem_of_getElem? (i := 80) rfl)) (hw _ (List.mem_of_getElem? (i := 81) rfl)) (hw _ (List.mem_of_getElem? (i := 82) rfl)) (hw _ (List.mem_of_getElem? (i := 83) rfl)) (by decide) (lenOf pd__28_5bB_5bB_29Z rfl) rfl 0 rfl rfl (by decide) (by decide) (by decide) (by decide) (fun _ q => nomatch q) rfl (fun v_1 h_2 N_3 hQ_4 hle_5 => ?_)
  obtain ⟨rfl, rfl⟩ := hQ_4
  refine Go.re (pc' := 47) (L' := #[.val (.ref a1), .val (.ref a2), .val (.ref a2)]) (S' := [(.int (if l1 = l2 then (1 : Int32) else 0))]) rfl rfl rfl ?_
  refine Go.ifc (pc' := 54) (pc'' := 50) d_jdk_42_method_66_code_47 (by decide) (by decide) rfl (fun hc_6 => ?_) (fun hc_6 => ?_)
  · have hc_6 : (if l1 = l2 then (1 : Int32) else 0) = 0 := hc_6
    refine Go.iconst (pc' := 55) 0 d_jdk_42_method_66_code_54 rfl rfl ?_
    refine Go.retN (t := .boolean) (0 : Int32) rfl (by simp) rfl [] (fun _ q => nomatch q) d_jdk_42_method_66_code_55 (by decide) (by decide) ?_
    exact ⟨rfl, by have q := hc_6; by_cases z : l1 = l2; rw [if_pos z] at q; exact absurd q (by decide); rw [if_neg z]⟩
  · have hc_6 : ¬ ((if l1 = l2 then (1 : Int32) else 0) = 0) := hc_6
    refine Go.iconst (pc' := 51) 1 d_jdk_42_method_66_code_50 rfl rfl ?_
    refine Go.goto (pc' := 55) d_jdk_42_method_66_code_51 (by decide) (by decide) ?_
    refine Go.retN (t := .boolean) (1 : Int32) rfl (by simp) rfl [] (fun _ q => nomatch q) d_jdk_42_method_66_code_55 (by decide) (by decide) ?_
    exact ⟨rfl, by have q := hc_6; by_cases z : l1 = l2; rw [if_pos z]; rw [if_neg z] at q; exact absurd rfl q⟩
theorem d_jdk_42_method_66_code_5 : decode jdk_42_method_66_code 5 = .ok (.iconst 1, 1) := by decide +kernel
theorem d_jdk_42_method_66_code_6 : decode jdk_42_method_66_code 6 = .ok (.ireturn, 1) := by decide +kernel
set_option maxRecDepth 65536 in
set_option maxHeartbeats 40000000 in
theorem ct_equalsS (l : Launch) (Z : State) (a0 : Array Value) (hw : ∀ d ∈ tables_1, d.before a0 Z = true) (n0 : Nat) (h0 : Heap) (a1 : Addr) :
    Ct l Z (⟨"java/lang/String", "equals", "(Ljava/lang/Object;)Z"⟩ : MethodName) jdk_42_method_66_code 3 (some .boolean) ({ frames := 0, cells := 0, slots := 0, locals := 0 } : Room) EL1 n0 true [] #[(.ref a1), (.ref a1)] h0 [] (fun v h N => h0 = h ∧ v = some (.int 1)) := by
  refine Ct.of (a0 := a0) (plainFor_of_name pn_java_lang_String) (own_ew hw) (L0 := #[.val (.ref a1), .val (.ref a1), .unset]) (fun m => by first | (simp [entryFrame, mkF, argsToLocals, Value.category]; done) | rfl) ?_
  refine Go.aloadN (pc' := 1) d_jdk_42_method_66_code_0 rfl rfl rfl ?_
  refine Go.aloadN (pc' := 2) d_jdk_42_method_66_code_1 rfl rfl rfl ?_
  refine Go.acmp (pc' := 5) true d_jdk_42_method_66_code_2 rfl rfl (decide_eq_true rfl) (by decide) (by decide) ?_
  refine Go.iconst (pc' := 6) 1 d_jdk_42_method_66_code_5 rfl rfl ?_
  refine Go.retN (t := .boolean) (1 : Int32) rfl (by simp) rfl [] (fun _ q => nomatch q) d_jdk_42_method_66_code_6 (by decide) (by decide) ?_
  exact ⟨rfl, rfl⟩
theorem pn_java_lang_StringUTF16 : plainName "java/lang/StringUTF16" = true := by first | (simp [plainName, overriddenIn]; done) | decide +kernel
theorem d_jdk_52_method_15_code_0 : decode jdk_52_method_15_code 0 = .ok (.iload_n 1, 1) := by decide +kernel
theorem d_jdk_52_method_15_code_1 : decode jdk_52_method_15_code 1 = .ok (.aload_n 0, 1) := by decide +kernel
theorem d_jdk_52_method_15_code_2 : decode jdk_52_method_15_code 2 = .ok (.arraylength, 1) := by decide +kernel
theorem d_jdk_52_method_15_code_3 : decode jdk_52_method_15_code 3 = .ok (.isub, 1) := by decide +kernel
theorem d_jdk_52_method_15_code_4 : decode jdk_52_method_15_code 4 = .ok (.bipush 31, 2) := by decide +kernel
theorem d_jdk_52_method_15_code_6 : decode jdk_52_method_15_code 6 = .ok (.iushr, 1) := by decide +kernel
theorem d_jdk_52_method_15_code_7 : decode jdk_52_method_15_code 7 = .ok (.i2b, 1) := by decide +kernel
theorem d_jdk_52_method_15_code_8 : decode jdk_52_method_15_code 8 = .ok (.ireturn, 1) := by decide +kernel
set_option maxRecDepth 65536 in
set_option maxHeartbeats 40000000 in
theorem ct_cfal (l : Launch) (Z : State) (a0 : Array Value) (hw : ∀ d ∈ tables_1, d.before a0 Z = true) (n0 : Nat) (h0 : Heap) (b : Addr) (k : ClassId) (n : Int32) (vs : List Value) (AV : Arv Z h0 b k .byte n vs (.int 0)) :
    Ct l Z (⟨"java/lang/StringUTF16", "coderFromArrayLen", "([BI)B"⟩ : MethodName) jdk_52_method_15_code 2 (some .byte) ({ frames := 0, cells := 0, slots := 0, locals := 0 } : Room) EL1 n0 true [] #[(.ref b), (.int n)] h0 [] (fun v h N => h0 = h ∧ v = some (.int 0)) := by
  refine Ct.of (a0 := a0) (plainFor_of_name pn_java_lang_StringUTF16) (own_ew hw) (L0 := #[.val (.ref b), .val (.int n)]) (fun m => by first | (simp [entryFrame, mkF, argsToLocals, Value.category]; done) | rfl) ?_
  have l0_AV := nlt AV.lt
  refine Go.iloadN (pc' := 1) d_jdk_52_method_15_code_0 rfl rfl ?_
  refine Go.aloadN (pc' := 2) d_jdk_52_method_15_code_1 rfl rfl rfl ?_
  refine Go.alenV (pc' := 3) d_jdk_52_method_15_code_2 AV rfl ?_
  refine Go.isub (pc' := 4) d_jdk_52_method_15_code_3 rfl ?_
  refine Go.re (pc' := 4) (L' := #[.val (.ref b), .val (.int n)]) (S' := [.int (0 : Int32)]) rfl rfl (by rw [Int32.sub_self]) ?_
  refine Go.bipush (pc' := 6) 31 d_jdk_52_method_15_code_4 rfl rfl ?_
  refine Go.iushr (pc' := 7) d_jdk_52_method_15_code_6 rfl ?_
  refine Go.re (pc' := 7) (L' := #[.val (.ref b), .val (.int n)]) (S' := [(.int (0 : Int32))]) rfl rfl (congrArg (fun z => Value.int z :: _) (show (usr (0 : Int32) (31 : Int32)) = 0 by decide)) ?_
  refine Go.i2b (pc' := 8) d_jdk_52_method_15_code_7 rfl ?_
  refine Go.re (pc' := 8) (L' := #[.val (.ref b), .val (.int n)]) (S' := [(.int (0 : Int32))]) rfl rfl rfl ?_
  refine Go.retN (t := .byte) (0 : Int32) rfl (by simp) rfl [] (fun _ q => nomatch q) d_jdk_52_method_15_code_8 (by decide) (by decide) ?_
  exact ⟨rfl, rfl⟩
theorem d_jdk_52_method_21_code_0 : decode jdk_52_method_21_code 0 = .ok (.iconst 0, 1) := by decide +kernel
theorem d_jdk_52_method_21_code_1 : decode jdk_52_method_21_code 1 = .ok (.istore 5, 2) := by decide +kernel
theorem d_jdk_52_method_21_code_3 : decode jdk_52_method_21_code 3 = .ok (.iload 5, 2) := by decide +kernel
theorem d_jdk_52_method_21_code_5 : decode jdk_52_method_21_code 5 = .ok (.iload 4, 2) := by decide +kernel
theorem d_jdk_52_method_21_code_7 : decode jdk_52_method_21_code 7 = .ok (.if_icmp .ge 37, 3) := by decide +kernel
theorem d_jdk_52_method_21_code_10 : decode jdk_52_method_21_code 10 = .ok (.aload_n 0, 1) := by decide +kernel
theorem d_jdk_52_method_21_code_11 : decode jdk_52_method_21_code 11 = .ok (.iload_n 1, 1) := by decide +kernel
theorem d_jdk_52_method_21_code_12 : decode jdk_52_method_21_code 12 = .ok (.caload, 1) := by decide +kernel
theorem d_jdk_52_method_21_code_13 : decode jdk_52_method_21_code 13 = .ok (.istore 6, 2) := by decide +kernel
theorem d_jdk_52_method_21_code_15 : decode jdk_52_method_21_code 15 = .ok (.iload 6, 2) := by decide +kernel
theorem d_jdk_52_method_21_code_17 : decode jdk_52_method_21_code 17 = .ok (.sipush 255, 3) := by decide +kernel
theorem d_jdk_52_method_21_code_20 : decode jdk_52_method_21_code 20 = .ok (.if_icmp .le 6, 3) := by decide +kernel
theorem d_jdk_52_method_21_code_26 : decode jdk_52_method_21_code 26 = .ok (.aload_n 2, 1) := by decide +kernel
theorem d_jdk_52_method_21_code_27 : decode jdk_52_method_21_code 27 = .ok (.iload_n 3, 1) := by decide +kernel
theorem d_jdk_52_method_21_code_28 : decode jdk_52_method_21_code 28 = .ok (.iload 6, 2) := by decide +kernel
theorem d_jdk_52_method_21_code_30 : decode jdk_52_method_21_code 30 = .ok (.i2b, 1) := by decide +kernel
theorem d_jdk_52_method_21_code_31 : decode jdk_52_method_21_code 31 = .ok (.bastore, 1) := by decide +kernel
theorem d_jdk_52_method_21_code_32 : decode jdk_52_method_21_code 32 = .ok (.iinc 1 1, 3) := by decide +kernel
theorem d_jdk_52_method_21_code_35 : decode jdk_52_method_21_code 35 = .ok (.iinc 3 1, 3) := by decide +kernel
theorem d_jdk_52_method_21_code_38 : decode jdk_52_method_21_code 38 = .ok (.iinc 5 1, 3) := by decide +kernel
theorem d_jdk_52_method_21_code_41 : decode jdk_52_method_21_code 41 = .ok (.goto (-38), 3) := by decide +kernel
theorem d_jdk_52_method_21_code_44 : decode jdk_52_method_21_code 44 = .ok (.iload 4, 2) := by decide +kernel
theorem d_jdk_52_method_21_code_46 : decode jdk_52_method_21_code 46 = .ok (.ireturn, 1) := by decide +kernel
set_option maxRecDepth 65536 in
set_option maxHeartbeats 40000000 in
theorem ct_cmp5_1 (l : Launch) (Z : State) (a0 : Array Value) (hw : ∀ d ∈ tables_1, d.before a0 Z = true) (n0 : Nat) (h0 : Heap) (c d : Addr) (kc kd : ClassId) (c0 : Int32) (AC : Arv Z h0 c kc .char (1 : Int32) [(.int c0)] (.int 0)) (AD : Arv Z h0 d kd .byte (1 : Int32) [(.int (0 : Int32))] (.int 0)) (hb_c0 : ¬ 255 < c0) (hd : n0 ≤ d) (hcd : c ≠ d) :
    Ct l Z (⟨"java/lang/StringUTF16", "compress", "([CI[BII)I"⟩ : MethodName) jdk_52_method_21_code 7 (some .int) ({ frames := 0, cells := 0, slots := 0, locals := 0 } : Room) EL1 n0 true [] #[(.ref c), (.int (0 : Int32)), (.ref d), (.int (0 : Int32)), (.int (1 : Int32))] h0 [d] (fun v h N => v = some (.int (1 : Int32)) ∧ Keep h0 h [d] ∧ Arv Z h d kd .byte (1 : Int32) [(.int (c0).toInt8.toInt32)] (.int 0)) := by
  refine Ct.of (a0 := a0) (plainFor_of_name pn_java_lang_StringUTF16) (own_ew hw) (L0 := #[.val (.ref c), .val (.int (0 : Int32)), .val (.ref d), .val (.int (0 : Int32)), .val (.int (1 : Int32)), .unset, .unset]) (fun m => by first | (simp [entryFrame, mkF, argsToLocals, Value.category]; done) | rfl) ?_
  have ltc := nlt AC.lt
  have ltd := nlt AD.lt
  have hcd9 := nne hcd
  have l0_AC := nlt AC.lt
  have l0_AD := nlt AD.lt
  refine Go.iconst (pc' := 1) 0 d_jdk_52_method_21_code_0 rfl rfl ?_
  refine Go.istore (pc' := 3) #[.val (.ref c), .val (.int (0 : Int32)), .val (.ref d), .val (.int (0 : Int32)), .val (.int (1 : Int32)), .val (.int (0 : Int32)), .unset] d_jdk_52_method_21_code_1 rfl rfl ?_
  refine Go.iload (pc' := 5) d_jdk_52_method_21_code_3 rfl rfl ?_
  refine Go.iload (pc' := 7) d_jdk_52_method_21_code_5 rfl rfl ?_
  refine Go.icmpF (pc' := 10) d_jdk_52_method_21_code_7 (show (0 : Int32) < (1 : Int32) by decide) rfl ?_
  refine Go.aloadN (pc' := 11) d_jdk_52_method_21_code_10 rfl rfl rfl ?_
  refine Go.iloadN (pc' := 12) d_jdk_52_method_21_code_11 rfl rfl ?_
  refine Go.caloadV (pc' := 13) d_jdk_52_method_21_code_12 AC (by decide) rfl rfl ?_
  refine Go.istore (pc' := 15) #[.val (.ref c), .val (.int (0 : Int32)), .val (.ref d), .val (.int (0 : Int32)), .val (.int (1 : Int32)), .val (.int (0 : Int32)), .val (.int c0)] d_jdk_52_method_21_code_13 rfl rfl ?_
  refine Go.iload (pc' := 17) d_jdk_52_method_21_code_15 rfl rfl ?_
  refine Go.sipush (pc' := 20) 255 d_jdk_52_method_21_code_17 rfl rfl ?_
  refine Go.icmpT (pc' := 26) d_jdk_52_method_21_code_20 (hb_c0) (by decide) (by decide) ?_
  refine Go.aloadN (pc' := 27) d_jdk_52_method_21_code_26 rfl rfl rfl ?_
  refine Go.iloadN (pc' := 28) d_jdk_52_method_21_code_27 rfl rfl ?_
  refine Go.iload (pc' := 30) d_jdk_52_method_21_code_28 rfl rfl ?_
  refine Go.i2b (pc' := 31) d_jdk_52_method_21_code_30 rfl ?_
  refine Go.bastoreV (pc' := 32) 0 d_jdk_52_method_21_code_31 AD (by decide) rfl (show 0 < 1 by decide) (Sf.mem (by simp)) (by omega) rfl (fun h_1 W_2 A_3 => ?_)
  have szh_1 : h_1.size = h0.size := Wr.size W_2
  have F_4 : Arv Z h_1 d kd .byte (1 : Int32) [(.int (c0).toInt8.toInt32)] (.int 0) := by have q := A_3; rw [nar_i2b] at q; exact q
  refine Go.iinc (pc' := 35) (1 : Int32) #[.val (.ref c), .val (.int (1 : Int32)), .val (.ref d), .val (.int (0 : Int32)), .val (.int (1 : Int32)), .val (.int (0 : Int32)), .val (.int c0)] d_jdk_52_method_21_code_32 rfl (by decide) rfl rfl ?_
  refine Go.iinc (pc' := 38) (1 : Int32) #[.val (.ref c), .val (.int (1 : Int32)), .val (.ref d), .val (.int (1 : Int32)), .val (.int (1 : Int32)), .val (.int (0 : Int32)), .val (.int c0)] d_jdk_52_method_21_code_35 rfl (by decide) rfl rfl ?_
  refine Go.iinc (pc' := 41) (1 : Int32) #[.val (.ref c), .val (.int (1 : Int32)), .val (.ref d), .val (.int (1 : Int32)), .val (.int (1 : Int32)), .val (.int (1 : Int32)), .val (.int c0)] d_jdk_52_method_21_code_38 rfl (by decide) rfl rfl ?_
  refine Go.goto (pc' := 3) d_jdk_52_method_21_code_41 (by decide) (by decide) ?_
  refine Go.iload (pc' := 5) d_jdk_52_method_21_code_3 rfl rfl ?_
  refine Go.iload (pc' := 7) d_jdk_52_method_21_code_5 rfl rfl ?_
  refine Go.icmpT (pc' := 44) d_jdk_52_method_21_code_7 (show ¬ ((1 : Int32) < (1 : Int32)) by decide) (by decide) (by decide) ?_
  refine Go.iload (pc' := 46) d_jdk_52_method_21_code_44 rfl rfl ?_
  refine Go.retI rfl [] (fun _ q => nomatch q) d_jdk_52_method_21_code_46 (by decide) (by decide) ?_
  exact ⟨rfl, (Keep.wr (Keep.refl _ [d]) W_2 (Or.inl (by simp))), F_4⟩
theorem d_jdk_52_method_16_code_0 : decode jdk_52_method_16_code 0 = .ok (.iload_n 2, 1) := by decide +kernel
theorem d_jdk_52_method_16_code_1 : decode jdk_52_method_16_code 1 = .ok (.newarray .byte, 2) := by decide +kernel
theorem d_jdk_52_method_16_code_3 : decode jdk_52_method_16_code 3 = .ok (.astore_n 3, 1) := by decide +kernel
theorem d_jdk_52_method_16_code_4 : decode jdk_52_method_16_code 4 = .ok (.aload_n 0, 1) := by decide +kernel
theorem d_jdk_52_method_16_code_5 : decode jdk_52_method_16_code 5 = .ok (.iload_n 1, 1) := by decide +kernel
theorem d_jdk_52_method_16_code_6 : decode jdk_52_method_16_code 6 = .ok (.aload_n 3, 1) := by decide +kernel
theorem d_jdk_52_method_16_code_7 : decode jdk_52_method_16_code 7 = .ok (.iconst 0, 1) := by decide +kernel
theorem d_jdk_52_method_16_code_8 : decode jdk_52_method_16_code 8 = .ok (.iload_n 2, 1) := by decide +kernel
theorem pd__28_5bCI_5bBII_29I : parseMethodDescriptor "([CI[BII)I" = some ⟨[(.array .char), .int, (.array .byte), .int, .int], (some .int)⟩ := by decide +kernel
theorem d_jdk_52_method_16_code_9 : decode jdk_52_method_16_code 9 = .ok (.invokestatic 115, 3) := by decide +kernel
theorem d_jdk_52_method_16_code_12 : decode jdk_52_method_16_code 12 = .ok (.istore 4, 2) := by decide +kernel
theorem d_jdk_52_method_16_code_14 : decode jdk_52_method_16_code 14 = .ok (.iload 4, 2) := by decide +kernel
theorem d_jdk_52_method_16_code_16 : decode jdk_52_method_16_code 16 = .ok (.iload_n 2, 1) := by decide +kernel
theorem d_jdk_52_method_16_code_17 : decode jdk_52_method_16_code 17 = .ok (.if_icmp .eq 40, 3) := by decide +kernel
theorem d_jdk_52_method_16_code_57 : decode jdk_52_method_16_code 57 = .ok (.aload_n 3, 1) := by decide +kernel
theorem d_jdk_52_method_16_code_58 : decode jdk_52_method_16_code 58 = .ok (.areturn, 1) := by decide +kernel
set_option maxRecDepth 65536 in
set_option maxHeartbeats 40000000 in
theorem ct_cmp3_1 (l : Launch) (Z : State) (a0 : Array Value) (hw : ∀ d ∈ tables_1, d.before a0 Z = true) (n0 : Nat) (h0 : Heap) (c : Addr) (kc : ClassId) (c0 : Int32) (AC : Arv Z h0 c kc .char (1 : Int32) [(.int c0)] (.int 0)) (hb_c0 : ¬ 255 < c0) (hn0 : n0 ≤ h0.size) :
    Ct l Z (⟨"java/lang/StringUTF16", "compress", "([CII)[B"⟩ : MethodName) jdk_52_method_16_code 6 (some (.array .byte)) ({ frames := 1, cells := 1, slots := 1, locals := 18 } : Room) EL1 n0 true [] #[(.ref c), (.int (0 : Int32)), (.int (1 : Int32))] h0 [] (fun v h N => ∃ d kd, v = some (.ref d) ∧ h0.size ≤ d ∧ d < h.size ∧ Keep h0 h [] ∧ Arv Z h d kd .byte (1 : Int32) [(.int (c0).toInt8.toInt32)] (.int 0)) := by
  refine Ct.of (a0 := a0) (plainFor_of_name pn_java_lang_StringUTF16) (own_ew hw) (L0 := #[.val (.ref c), .val (.int (0 : Int32)), .val (.int (1 : Int32)), .unset, .unset, .unset]) (fun m => by first | (simp [entryFrame, mkF, argsToLocals, Value.category]; done) | rfl) ?_
  have ltc := nlt AC.lt
  have l0_AC := nlt AC.lt
  refine Go.iloadN (pc' := 1) d_jdk_52_method_16_code_0 rfl rfl ?_
  refine Go.newPV (pc' := 3) (a1 := a0) 1 [(.int (0 : Int32))] d_jdk_52_method_16_code_1 (hw _ (List.mem_of_getElem? (i := 26) rfl)) (by decide) (by decide) (by decide) (by decide) (by decide) rfl rfl (fun a_1 h_2 cA_3 ha_4 E_5 A_6 => ?_)
  have szh_2 : h0.size ≤ h_2.size := E_5.1
  have lta_1 := nlt A_6.lt
  have qa_1 := neq ha_4
  have F_7 : Arv Z h_2 a_1 cA_3 .byte (1 : Int32) [(.int (0 : Int32))] (.int 0) := A_6
  refine Go.astoreN (pc' := 4) #[.val (.ref c), .val (.int (0 : Int32)), .val (.int (1 : Int32)), .val (.ref a_1), .unset, .unset] d_jdk_52_method_16_code_3 rfl rfl rfl ?_
  refine Go.aloadN (pc' := 5) d_jdk_52_method_16_code_4 rfl rfl rfl ?_
  refine Go.iloadN (pc' := 6) d_jdk_52_method_16_code_5 rfl rfl ?_
  refine Go.aloadN (pc' := 7) d_jdk_52_method_16_code_6 rfl rfl rfl ?_
  refine Go.iconst (pc' := 8) 0 d_jdk_52_method_16_code_7 rfl rfl ?_
  refine Go.iloadN (pc' := 9) d_jdk_52_method_16_code_8 rfl rfl ?_
  have F_10 : Arv Z h_2 c kc .char (1 : Int32) [(.int c0)] (.int 0) := (Arv.ext AC E_5)
  refine Go.callS (a1 := a0) (pc' := 12) (argsL := [(.ref c), (.int (0 : Int32)), (.ref a_1), (.int (0 : Int32)), (.int (1 : Int32))]) (rest := []) (ct_cmp5_1 l Z a0 hw n0 h_2 c a_1 kc cA_3 c0 F_10 F_7 hb_c0 (by omega) (nne (by omega))) d_jdk_52_method_16_code_9 (hw _ (List.mem_of_getElem? (i := 38) rfl)) (hw _ (List.mem_of_getElem? (i := 39) rfl)) (hw _ (List.mem_of_getElem? (i := 36) rfl)) (hw _ (List.mem_of_getElem? (i := 40) rfl)) (by decide) (lenOf pd__28_5bCI_5bBII_29I rfl) rfl 0 rfl rfl (by decide) (by decide) (by decide) (by decide) (by intro x hx; simp only [List.mem_cons, List.not_mem_nil, or_false] at hx; rcases hx with rfl; all_goals simp) rfl (fun v_11 h_12 N_13 hQ_14 hle_15 => ?_)
  obtain ⟨rfl, K_8, F_9⟩ := hQ_14
  have szh_12 : h_2.size ≤ h_12.size := K_8.1
  refine Go.re (pc' := 12) (L' := #[.val (.ref c), .val (.int (0 : Int32)), .val (.int (1 : Int32)), .val (.ref a_1), .unset, .unset]) (S' := [(.int (1 : Int32))]) rfl rfl rfl ?_
  refine Go.istore (pc' := 14) #[.val (.ref c), .val (.int (0 : Int32)), .val (.int (1 : Int32)), .val (.ref a_1), .val (.int (1 : Int32)), .unset] d_jdk_52_method_16_code_12 rfl rfl ?_
  refine Go.iload (pc' := 16) d_jdk_52_method_16_code_14 rfl rfl ?_
  refine Go.iloadN (pc' := 17) d_jdk_52_method_16_code_16 rfl rfl ?_
  refine Go.icmpT (pc' := 57) d_jdk_52_method_16_code_17 (show (1 : Int32) = (1 : Int32) by decide) (by decide) (by decide) ?_
  refine Go.aloadN (pc' := 58) d_jdk_52_method_16_code_57 rfl rfl rfl ?_
  refine Go.retA rfl rfl rfl [] (fun _ q => nomatch q) d_jdk_52_method_16_code_58 (by decide) (by decide) ?_
  exact ⟨a_1, _, rfl, by omega, F_9.lt, (Keep.trans (Keep.ext (Keep.refl _ []) E_5) K_8 (allS (Or.inr (by omega)) all0)), F_9⟩
theorem d_jdk_42_method_149_code_0 : decode jdk_42_method_149_code 0 = .ok (.aload_n 0, 1) := by decide +kernel
theorem d_jdk_42_method_149_code_1 : decode jdk_42_method_149_code 1 = .ok (.invokespecial 1, 3) := by decide +kernel
theorem d_jdk_42_method_149_code_4 : decode jdk_42_method_149_code 4 = .ok (.iload_n 3, 1) := by decide +kernel
theorem d_jdk_42_method_149_code_5 : decode jdk_42_method_149_code 5 = .ok (.ifCond .ne 22, 3) := by decide +kernel
theorem d_jdk_42_method_149_code_27 : decode jdk_42_method_149_code 27 = .ok (.getstatic 38, 3) := by decide +kernel
theorem d_jdk_42_method_149_code_30 : decode jdk_42_method_149_code 30 = .ok (.ifCond .eq 28, 3) := by decide +kernel
theorem d_jdk_42_method_149_code_33 : decode jdk_42_method_149_code 33 = .ok (.aload_n 1, 1) := by decide +kernel
theorem d_jdk_42_method_149_code_34 : decode jdk_42_method_149_code 34 = .ok (.iload_n 2, 1) := by decide +kernel
theorem d_jdk_42_method_149_code_35 : decode jdk_42_method_149_code 35 = .ok (.iload_n 3, 1) := by decide +kernel
theorem pd__28_5bCII_29_5bB : parseMethodDescriptor "([CII)[B" = some ⟨[(.array .char), .int, .int], (some (.array .byte))⟩ := by decide +kernel
theorem d_jdk_42_method_149_code_36 : decode jdk_42_method_149_code 36 = .ok (.invokestatic 177, 3) := by decide +kernel
theorem d_jdk_42_method_149_code_39 : decode jdk_42_method_149_code 39 = .ok (.astore 5, 2) := by decide +kernel
theorem d_jdk_42_method_149_code_41 : decode jdk_42_method_149_code 41 = .ok (.aload_n 0, 1) := by decide +kernel
theorem d_jdk_42_method_149_code_42 : decode jdk_42_method_149_code 42 = .ok (.aload 5, 2) := by decide +kernel
theorem d_jdk_42_method_149_code_44 : decode jdk_42_method_149_code 44 = .ok (.iload_n 3, 1) := by decide +kernel
theorem pd__28_5bBI_29B : parseMethodDescriptor "([BI)B" = some ⟨[(.array .byte), .int], (some .byte)⟩ := by decide +kernel
theorem d_jdk_42_method_149_code_45 : decode jdk_42_method_149_code 45 = .ok (.invokestatic 47, 3) := by decide +kernel
theorem d_jdk_42_method_149_code_48 : decode jdk_42_method_149_code 48 = .ok (.putfield 15, 3) := by decide +kernel
theorem d_jdk_42_method_149_code_51 : decode jdk_42_method_149_code 51 = .ok (.aload_n 0, 1) := by decide +kernel
theorem d_jdk_42_method_149_code_52 : decode jdk_42_method_149_code 52 = .ok (.aload 5, 2) := by decide +kernel
theorem d_jdk_42_method_149_code_54 : decode jdk_42_method_149_code 54 = .ok (.putfield 9, 3) := by decide +kernel
theorem d_jdk_42_method_149_code_57 : decode jdk_42_method_149_code 57 = .ok (.return_, 1) := by decide +kernel
set_option maxRecDepth 65536 in
set_option maxHeartbeats 40000000 in
theorem ct_si4_1 (l : Launch) (Z : State) (a0 : Array Value) (hw : ∀ d ∈ tables_1, d.before a0 Z = true) (n0 : Nat) (h0 : Heap) (a1 : Addr) (ha1 : n0 ≤ a1) (E1 : Exa Z h0 a1 "java/lang/String") (G1 : Fld Z h0 a1 "java/lang/String" "value" "[B" .null) (G2 : Fld Z h0 a1 "java/lang/String" "coder" "B" (.int (0 : Int32))) (c : Addr) (kc : ClassId) (c0 : Int32) (AC : Arv Z h0 c kc .char (1 : Int32) [(.int c0)] (.int 0)) (hb_c0 : ¬ 255 < c0) (cs : Int32) (S_cs : Sta Z h0 "java/lang/String" "COMPACT_STRINGS" "Z" (.int cs)) (hcs : ¬ cs = 0) :
    Ct l Z (⟨"java/lang/String", "<init>", "([CIILjava/lang/Void;)V"⟩ : MethodName) jdk_42_method_149_code 6 none ({ frames := 2, cells := 1, slots := 1, locals := 35 } : Room) EL1 n0 true [] #[(.ref a1), (.ref c), (.int (0 : Int32)), (.int (1 : Int32)), (.null)] h0 [a1] (fun v h N => v = none ∧ ∃ b kb, h0.size ≤ b ∧ b < h.size ∧ Keep h0 h [a1] ∧ Exa Z h a1 "java/lang/String" ∧ Fld Z h a1 "java/lang/String" "coder" "B" (.int (0 : Int32)) ∧ Fld Z h a1 "java/lang/String" "value" "[B" (.ref b) ∧ Arv Z h b kb .byte (1 : Int32) [(.int (c0).toInt8.toInt32)] (.int 0)) := by
  refine Ct.of (a0 := a0) (plainFor_of_name pn_java_lang_String) (own_ew hw) (L0 := #[.val (.ref a1), .val (.ref c), .val (.int (0 : Int32)), .val (.int (1 : Int32)), .val (.null), .unset]) (fun m => by first | (simp [entryFrame, mkF, argsToLocals, Value.category]; done) | rfl) ?_
  have ltc := nlt AC.lt
  have lta1 := nlt E1.lt
  have l0_E1 := nlt E1.lt
  have l0_AC := nlt AC.lt
  refine Go.aloadN (pc' := 1) d_jdk_42_method_149_code_0 rfl rfl rfl ?_
  refine Go.initO (pc' := 4) (a1 := a0) d_jdk_42_method_149_code_1 (hw _ (List.mem_of_getElem? (i := 22) rfl)) (hw _ (List.mem_of_getElem? (i := 23) rfl)) (hw _ (List.mem_of_getElem? (i := 24) rfl)) rfl (by decide) 0 rfl (by decide) rfl ?_
  refine Go.iloadN (pc' := 5) d_jdk_42_method_149_code_4 rfl rfl ?_
  refine Go.ifT (pc' := 27) d_jdk_42_method_149_code_5 (show ¬ ((1 : Int32) = (0 : Int32)) by decide) (by decide) (by decide) ?_
  refine Go.getS (pc' := 30) (host := "") (a1 := a0) d_jdk_42_method_149_code_27 (Or.inl (hw _ (List.mem_of_getElem? (i := 33) rfl))) Via.refl S_cs rfl ?_
  refine Go.ifF (pc' := 33) d_jdk_42_method_149_code_30 (hcs) rfl ?_
  refine Go.aloadN (pc' := 34) d_jdk_42_method_149_code_33 rfl rfl rfl ?_
  refine Go.iloadN (pc' := 35) d_jdk_42_method_149_code_34 rfl rfl ?_
  refine Go.iloadN (pc' := 36) d_jdk_42_method_149_code_35 rfl rfl ?_
  refine Go.callS (a1 := a0) (pc' := 39) (argsL := [(.ref c), (.int (0 : Int32)), (.int (1 : Int32))]) (rest := []) (ct_cmp3_1 l Z a0 hw n0 h0 c kc c0 AC hb_c0 (by omega)) d_jdk_42_method_149_code_36 (hw _ (List.mem_of_getElem? (i := 34) rfl)) (hw _ (List.mem_of_getElem? (i := 35) rfl)) (hw _ (List.mem_of_getElem? (i := 36) rfl)) (hw _ (List.mem_of_getElem? (i := 37) rfl)) (by decide) (lenOf pd__28_5bCII_29_5bB rfl) rfl 0 rfl rfl (by decide) (by decide) (by decide) (by decide) (fun _ q => nomatch q) rfl (fun v_7 h_8 N_9 hQ_10 hle_11 => ?_)
  obtain ⟨d_1, kd_2, rfl, g_3, g_4, K_5, F_6⟩ := hQ_10
  have szh_8 : h0.size ≤ h_8.size := K_5.1
  have ltd_1 := nlt g_4
  refine Go.re (pc' := 39) (L' := #[.val (.ref a1), .val (.ref c), .val (.int (0 : Int32)), .val (.int (1 : Int32)), .val (.null), .unset]) (S' := [(.ref d_1)]) rfl rfl rfl ?_
  refine Go.astore (pc' := 41) #[.val (.ref a1), .val (.ref c), .val (.int (0 : Int32)), .val (.int (1 : Int32)), .val (.null), .val (.ref d_1)] d_jdk_42_method_149_code_39 rfl rfl rfl ?_
  refine Go.aloadN (pc' := 42) d_jdk_42_method_149_code_41 rfl rfl rfl ?_
  refine Go.aload (pc' := 44) d_jdk_42_method_149_code_42 rfl rfl rfl ?_
  refine Go.iloadN (pc' := 45) d_jdk_42_method_149_code_44 rfl rfl ?_
  refine Go.callS (a1 := a0) (pc' := 48) (argsL := [(.ref d_1), (.int (1 : Int32))]) (rest := [(.ref a1)]) (ct_cfal l Z a0 hw n0 h_8 d_1 kd_2 (1 : Int32) [(.int (c0).toInt8.toInt32)] F_6) d_jdk_42_method_149_code_45 (hw _ (List.mem_of_getElem? (i := 41) rfl)) (hw _ (List.mem_of_getElem? (i := 42) rfl)) (hw _ (List.mem_of_getElem? (i := 36) rfl)) (hw _ (List.mem_of_getElem? (i := 43) rfl)) (by decide) (lenOf pd__28_5bBI_29B rfl) rfl 1 rfl rfl (by decide) (by decide) (by decide) (by decide) (fun _ q => nomatch q) rfl (fun v_12 h_13 N_14 hQ_15 hle_16 => ?_)
  obtain ⟨rfl, rfl⟩ := hQ_15
  refine Go.re (pc' := 48) (L' := #[.val (.ref a1), .val (.ref c), .val (.int (0 : Int32)), .val (.int (1 : Int32)), .val (.null), .val (.ref d_1)]) (S' := [(.int (0 : Int32)), (.ref a1)]) rfl rfl rfl ?_
  have F_17 : Fld Z h_8 a1 "java/lang/String" "coder" "B" (.int (0 : Int32)) := (Fld.keep G2 K_5 nin0)
  have F_18 : Exa Z h_8 a1 "java/lang/String" := (Exa.keep E1 K_5)
  refine Go.putF (pc' := 51) (host := "") (a1 := a0) d_jdk_42_method_149_code_48 (Or.inl (hw _ (List.mem_of_getElem? (i := 32) rfl))) Via.refl F_17 F_18 (Or.inr ⟨(hw _ (List.mem_of_getElem? (i := 28) rfl)), rfl, rfl⟩) (hw _ (List.mem_of_getElem? (i := 12) rfl)) (ty := .byte) (by decide) rfl rfl (Sf.mem (by simp)) (by omega) rfl (fun h_19 W_20 => ?_)
  have szh_19 : h_19.size = h_8.size := Wr.size W_20
  have F_21 : Fld Z h_19 a1 "java/lang/String" "coder" "B" (.int (0 : Int32)) := Fld.same W_20 F_17
  refine Go.aloadN (pc' := 52) d_jdk_42_method_149_code_51 rfl rfl rfl ?_
  refine Go.aload (pc' := 54) d_jdk_42_method_149_code_52 rfl rfl rfl ?_
  have F_22 : Fld Z h_19 a1 "java/lang/String" "value" "[B" (.null) := (Fld.other W_20 (Fld.keep G1 K_5 nin0) (Or.inr (slot_ne (Or.inr (hw _ (List.mem_of_getElem? (i := 27) rfl))) (Or.inr (hw _ (List.mem_of_getElem? (i := 28) rfl))) (by decide) (t := (.array .byte)) (t' := .byte) (by decide) (by decide))))
  have F_23 : Exa Z h_19 a1 "java/lang/String" := (Exa.wr W_20 F_18)
  refine Go.putF (pc' := 57) (host := "") (a1 := a0) d_jdk_42_method_149_code_54 (Or.inl (hw _ (List.mem_of_getElem? (i := 31) rfl))) Via.refl F_22 F_23 (Or.inr ⟨(hw _ (List.mem_of_getElem? (i := 27) rfl)), rfl, rfl⟩) (hw _ (List.mem_of_getElem? (i := 12) rfl)) (ty := (.array .byte)) (by decide) rfl rfl (Sf.mem (by simp)) (by omega) rfl (fun h_24 W_25 => ?_)
  have szh_24 : h_24.size = h_19.size := Wr.size W_25
  have F_26 : Fld Z h_24 a1 "java/lang/String" "value" "[B" (.ref d_1) := Fld.same W_25 F_22
  have F_27 : Arv Z h_24 d_1 kd_2 .byte (1 : Int32) [(.int (c0).toInt8.toInt32)] (.int 0) := (Arv.other (Arv.other F_6 W_20 (nne (by omega))) W_25 (nne (by omega)))
  have F_28 : Exa Z h_24 a1 "java/lang/String" := (Exa.wr W_25 F_23)
  have F_29 : Fld Z h_24 a1 "java/lang/String" "coder" "B" (.int (0 : Int32)) := (Fld.other W_25 F_21 (Or.inr (slot_ne (Or.inr (hw _ (List.mem_of_getElem? (i := 28) rfl))) (Or.inr (hw _ (List.mem_of_getElem? (i := 27) rfl))) (by decide) (t := .byte) (t' := (.array .byte)) (by decide) (by decide))))
  have F_30 : Arv Z h_24 d_1 kd_2 .byte (1 : Int32) [(.int (c0).toInt8.toInt32)] (.int 0) := (Arv.other (Arv.other F_6 W_20 (nne (by omega))) W_25 (nne (by omega)))
  refine Go.ret0 rfl [] (fun _ q => nomatch q) d_jdk_42_method_149_code_57 (by decide) (by decide) ?_
  exact ⟨rfl, d_1, kd_2, by omega, F_27.lt, (Keep.wr (Keep.wr (Keep.trans (Keep.refl _ [a1]) K_5 all0) W_20 (Or.inl (by simp))) W_25 (Or.inl (by simp))), F_28, F_29, F_26, F_30⟩
theorem d_jdk_42_method_3_code_0 : decode jdk_42_method_3_code 0 = .ok (.aload_n 0, 1) := by decide +kernel
theorem d_jdk_42_method_3_code_1 : decode jdk_42_method_3_code 1 = .ok (.aload_n 1, 1) := by decide +kernel
theorem d_jdk_42_method_3_code_2 : decode jdk_42_method_3_code 2 = .ok (.iconst 0, 1) := by decide +kernel
theorem d_jdk_42_method_3_code_3 : decode jdk_42_method_3_code 3 = .ok (.aload_n 1, 1) := by decide +kernel
theorem d_jdk_42_method_3_code_4 : decode jdk_42_method_3_code 4 = .ok (.arraylength, 1) := by decide +kernel
theorem d_jdk_42_method_3_code_5 : decode jdk_42_method_3_code 5 = .ok (.aconst_null, 1) := by decide +kernel
theorem pd__28_5bCIILjava_2flang_2fVoid_3b_29V : parseMethodDescriptor "([CIILjava/lang/Void;)V" = some ⟨[(.array .char), .int, .int, (.object "java/lang/Void")], none⟩ := by decide +kernel
theorem d_jdk_42_method_3_code_6 : decode jdk_42_method_3_code 6 = .ok (.invokespecial 27, 3) := by decide +kernel
theorem d_jdk_42_method_3_code_9 : decode jdk_42_method_3_code 9 = .ok (.return_, 1) := by decide +kernel
set_option maxRecDepth 65536 in
set_option maxHeartbeats 40000000 in
theorem ct_si1_1 (l : Launch) (Z : State) (a0 : Array Value) (hw : ∀ d ∈ tables_1, d.before a0 Z = true) (n0 : Nat) (h0 : Heap) (a1 : Addr) (ha1 : n0 ≤ a1) (E1 : Exa Z h0 a1 "java/lang/String") (G1 : Fld Z h0 a1 "java/lang/String" "value" "[B" .null) (G2 : Fld Z h0 a1 "java/lang/String" "coder" "B" (.int (0 : Int32))) (c : Addr) (kc : ClassId) (c0 : Int32) (AC : Arv Z h0 c kc .char (1 : Int32) [(.int c0)] (.int 0)) (hb_c0 : ¬ 255 < c0) (cs : Int32) (S_cs : Sta Z h0 "java/lang/String" "COMPACT_STRINGS" "Z" (.int cs)) (hcs : ¬ cs = 0) :
    Ct l Z (⟨"java/lang/String", "<init>", "([C)V"⟩ : MethodName) jdk_42_method_3_code 2 none ({ frames := 3, cells := 1, slots := 1, locals := 52 } : Room) EL1 n0 true [] #[(.ref a1), (.ref c)] h0 [a1] (fun v h N => v = none ∧ ∃ b kb, h0.size ≤ b ∧ b < h.size ∧ Keep h0 h [a1] ∧ Exa Z h a1 "java/lang/String" ∧ Fld Z h a1 "java/lang/String" "coder" "B" (.int (0 : Int32)) ∧ Fld Z h a1 "java/lang/String" "value" "[B" (.ref b) ∧ Arv Z h b kb .byte (1 : Int32) [(.int (c0).toInt8.toInt32)] (.int 0)) := by
  refine Ct.of (a0 := a0) (plainFor_of_name pn_java_lang_String) (own_ew hw) (L0 := #[.val (.ref a1), .val (.ref c)]) (fun m => by first | (simp [entryFrame, mkF, argsToLocals, Value.category]; done) | rfl) ?_
  have ltc := nlt AC.lt
  have lta1 := nlt E1.lt
  have l0_E1 := nlt E1.lt
  have l0_AC := nlt AC.lt
  refine Go.aloadN (pc' := 1) d_jdk_42_method_3_code_0 rfl rfl rfl ?_
  refine Go.aloadN (pc' := 2) d_jdk_42_method_3_code_1 rfl rfl rfl ?_
  refine Go.iconst (pc' := 3) 0 d_jdk_42_method_3_code_2 rfl rfl ?_
  refine Go.aloadN (pc' := 4) d_jdk_42_method_3_code_3 rfl rfl rfl ?_
  refine Go.alenV (pc' := 5) d_jdk_42_method_3_code_4 AC rfl ?_
  refine Go.aconstNull (pc' := 6) d_jdk_42_method_3_code_5 rfl ?_
  refine Go.callN (a1 := a0) (pc' := 9) (argsL := [(.ref c), (.int (0 : Int32)), (.int (1 : Int32)), (.null)]) (rest := []) (ct_si4_1 l Z a0 hw n0 h0 a1 (by omega) E1 G1 G2 c kc c0 AC hb_c0 cs S_cs hcs) d_jdk_42_method_3_code_6 rfl (hw _ (List.mem_of_getElem? (i := 18) rfl)) (hw _ (List.mem_of_getElem? (i := 19) rfl)) (hw _ (List.mem_of_getElem? (i := 13) rfl)) (hw _ (List.mem_of_getElem? (i := 21) rfl)) (by decide) (lenOf pd__28_5bCIILjava_2flang_2fVoid_3b_29V rfl) rfl 0 rfl rfl (by decide) (by decide) (by decide) (by decide) (by intro x hx; simp only [List.mem_cons, List.not_mem_nil, or_false] at hx; rcases hx with rfl; all_goals simp) rfl (fun v_10 h_11 N_12 hQ_13 hle_14 => ?_)
  obtain ⟨rfl, b_1, kb_2, g_3, g_4, K_5, X_6, F_7, F_8, A_9⟩ := hQ_13
  have szh_11 : h0.size ≤ h_11.size := K_5.1
  have ltb_1 := nlt g_4
  refine Go.re (pc' := 9) (L' := #[.val (.ref a1), .val (.ref c)]) (S' := []) rfl rfl rfl ?_
  refine Go.ret0 rfl [] (fun _ q => nomatch q) d_jdk_42_method_3_code_9 (by decide) (by decide) ?_
  exact ⟨rfl, b_1, kb_2, by omega, A_9.lt, (Keep.trans (Keep.refl _ [a1]) K_5 (allS (Or.inl (by simp)) all0)), X_6, F_7, F_8, A_9⟩
set_option maxRecDepth 65536 in
set_option maxHeartbeats 40000000 in
theorem ct_cmp5_2 (l : Launch) (Z : State) (a0 : Array Value) (hw : ∀ d ∈ tables_1, d.before a0 Z = true) (n0 : Nat) (h0 : Heap) (c d : Addr) (kc kd : ClassId) (c0 c1 : Int32) (AC : Arv Z h0 c kc .char (2 : Int32) [(.int c0), (.int c1)] (.int 0)) (AD : Arv Z h0 d kd .byte (2 : Int32) [(.int (0 : Int32)), (.int (0 : Int32))] (.int 0)) (hb_c0 : ¬ 255 < c0) (hb_c1 : ¬ 255 < c1) (hd : n0 ≤ d) (hcd : c ≠ d) :
    Ct l Z (⟨"java/lang/StringUTF16", "compress", "([CI[BII)I"⟩ : MethodName) jdk_52_method_21_code 7 (some .int) ({ frames := 0, cells := 0, slots := 0, locals := 0 } : Room) EL1 n0 true [] #[(.ref c), (.int (0 : Int32)), (.ref d), (.int (0 : Int32)), (.int (2 : Int32))] h0 [d] (fun v h N => v = some (.int (2 : Int32)) ∧ Keep h0 h [d] ∧ Arv Z h d kd .byte (2 : Int32) [(.int (c0).toInt8.toInt32), (.int (c1).toInt8.toInt32)] (.int 0)) := by
  refine Ct.of (a0 := a0) (plainFor_of_name pn_java_lang_StringUTF16) (own_ew hw) (L0 := #[.val (.ref c), .val (.int (0 : Int32)), .val (.ref d), .val (.int (0 : Int32)), .val (.int (2 : Int32)), .unset, .unset]) (fun m => by first | (simp [entryFrame, mkF, argsToLocals, Value.category]; done) | rfl) ?_
  have ltc := nlt AC.lt
  have ltd := nlt AD.lt
  have hcd9 := nne hcd
  have l0_AC := nlt AC.lt
  have l0_AD := nlt AD.lt
  refine Go.iconst (pc' := 1) 0 d_jdk_52_method_21_code_0 rfl rfl ?_
  refine Go.istore (pc' := 3) #[.val (.ref c), .val (.int (0 : Int32)), .val (.ref d), .val (.int (0 : Int32)), .val (.int (2 : Int32)), .val (.int (0 : Int32)), .unset] d_jdk_52_method_21_code_1 rfl rfl ?_
  refine Go.iload (pc' := 5) d_jdk_52_method_21_code_3 rfl rfl ?_
  refine Go.iload (pc' := 7) d_jdk_52_method_21_code_5 rfl rfl ?_
  refine Go.icmpF (pc' := 10) d_jdk_52_method_21_code_7 (show (0 : Int32) < (2 : Int32) by decide) rfl ?_
  refine Go.aloadN (pc' := 11) d_jdk_52_method_21_code_10 rfl rfl rfl ?_
  refine Go.iloadN (pc' := 12) d_jdk_52_method_21_code_11 rfl rfl ?_
  refine Go.caloadV (pc' := 13) d_jdk_52_method_21_code_12 AC (by decide) rfl rfl ?_
  refine Go.istore (pc' := 15) #[.val (.ref c), .val (.int (0 : Int32)), .val (.ref d), .val (.int (0 : Int32)), .val (.int (2 : Int32)), .val (.int (0 : Int32)), .val (.int c0)] d_jdk_52_method_21_code_13 rfl rfl ?_
  refine Go.iload (pc' := 17) d_jdk_52_method_21_code_15 rfl rfl ?_
  refine Go.sipush (pc' := 20) 255 d_jdk_52_method_21_code_17 rfl rfl ?_
  refine Go.icmpT (pc' := 26) d_jdk_52_method_21_code_20 (hb_c0) (by decide) (by decide) ?_
  refine Go.aloadN (pc' := 27) d_jdk_52_method_21_code_26 rfl rfl rfl ?_
  refine Go.iloadN (pc' := 28) d_jdk_52_method_21_code_27 rfl rfl ?_
  refine Go.iload (pc' := 30) d_jdk_52_method_21_code_28 rfl rfl ?_
  refine Go.i2b (pc' := 31) d_jdk_52_method_21_code_30 rfl ?_
  refine Go.bastoreV (pc' := 32) 0 d_jdk_52_method_21_code_31 AD (by decide) rfl (show 0 < 2 by decide) (Sf.mem (by simp)) (by omega) rfl (fun h_1 W_2 A_3 => ?_)
  have szh_1 : h_1.size = h0.size := Wr.size W_2
  have F_4 : Arv Z h_1 d kd .byte (2 : Int32) [(.int (c0).toInt8.toInt32), (.int (0 : Int32))] (.int 0) := by have q := A_3; rw [nar_i2b] at q; exact q
  refine Go.iinc (pc' := 35) (1 : Int32) #[.val (.ref c), .val (.int (1 : Int32)), .val (.ref d), .val (.int (0 : Int32)), .val (.int (2 : Int32)), .val (.int (0 : Int32)), .val (.int c0)] d_jdk_52_method_21_code_32 rfl (by decide) rfl rfl ?_
  refine Go.iinc (pc' := 38) (1 : Int32) #[.val (.ref c), .val (.int (1 : Int32)), .val (.ref d), .val (.int (1 : Int32)), .val (.int (2 : Int32)), .val (.int (0 : Int32)), .val (.int c0)] d_jdk_52_method_21_code_35 rfl (by decide) rfl rfl ?_
  refine Go.iinc (pc' := 41) (1 : Int32) #[.val (.ref c), .val (.int (1 : Int32)), .val (.ref d), .val (.int (1 : Int32)), .val (.int (2 : Int32)), .val (.int (1 : Int32)), .val (.int c0)] d_jdk_52_method_21_code_38 rfl (by decide) rfl rfl ?_
  refine Go.goto (pc' := 3) d_jdk_52_method_21_code_41 (by decide) (by decide) ?_
  refine Go.iload (pc' := 5) d_jdk_52_method_21_code_3 rfl rfl ?_
  refine Go.iload (pc' := 7) d_jdk_52_method_21_code_5 rfl rfl ?_
  refine Go.icmpF (pc' := 10) d_jdk_52_method_21_code_7 (show (1 : Int32) < (2 : Int32) by decide) rfl ?_
  refine Go.aloadN (pc' := 11) d_jdk_52_method_21_code_10 rfl rfl rfl ?_
  refine Go.iloadN (pc' := 12) d_jdk_52_method_21_code_11 rfl rfl ?_
  have F_5 : Arv Z h_1 c kc .char (2 : Int32) [(.int c0), (.int c1)] (.int 0) := (Arv.other AC W_2 (nne (by omega)))
  refine Go.caloadV (pc' := 13) d_jdk_52_method_21_code_12 F_5 (by decide) rfl rfl ?_
  refine Go.istore (pc' := 15) #[.val (.ref c), .val (.int (1 : Int32)), .val (.ref d), .val (.int (1 : Int32)), .val (.int (2 : Int32)), .val (.int (1 : Int32)), .val (.int c1)] d_jdk_52_method_21_code_13 rfl rfl ?_
  refine Go.iload (pc' := 17) d_jdk_52_method_21_code_15 rfl rfl ?_
  refine Go.sipush (pc' := 20) 255 d_jdk_52_method_21_code_17 rfl rfl ?_
  refine Go.icmpT (pc' := 26) d_jdk_52_method_21_code_20 (hb_c1) (by decide) (by decide) ?_
  refine Go.aloadN (pc' := 27) d_jdk_52_method_21_code_26 rfl rfl rfl ?_
  refine Go.iloadN (pc' := 28) d_jdk_52_method_21_code_27 rfl rfl ?_
  refine Go.iload (pc' := 30) d_jdk_52_method_21_code_28 rfl rfl ?_
  refine Go.i2b (pc' := 31) d_jdk_52_method_21_code_30 rfl ?_
  refine Go.bastoreV (pc' := 32) 1 d_jdk_52_method_21_code_31 F_4 (by decide) rfl (show 1 < 2 by decide) (Sf.mem (by simp)) (by omega) rfl (fun h_6 W_7 A_8 => ?_)
  have szh_6 : h_6.size = h_1.size := Wr.size W_7
  have F_9 : Arv Z h_6 d kd .byte (2 : Int32) [(.int (c0).toInt8.toInt32), (.int (c1).toInt8.toInt32)] (.int 0) := by have q := A_8; rw [nar_i2b] at q; exact q
  refine Go.iinc (pc' := 35) (2 : Int32) #[.val (.ref c), .val (.int (2 : Int32)), .val (.ref d), .val (.int (1 : Int32)), .val (.int (2 : Int32)), .val (.int (1 : Int32)), .val (.int c1)] d_jdk_52_method_21_code_32 rfl (by decide) rfl rfl ?_
  refine Go.iinc (pc' := 38) (2 : Int32) #[.val (.ref c), .val (.int (2 : Int32)), .val (.ref d), .val (.int (2 : Int32)), .val (.int (2 : Int32)), .val (.int (1 : Int32)), .val (.int c1)] d_jdk_52_method_21_code_35 rfl (by decide) rfl rfl ?_
  refine Go.iinc (pc' := 41) (2 : Int32) #[.val (.ref c), .val (.int (2 : Int32)), .val (.ref d), .val (.int (2 : Int32)), .val (.int (2 : Int32)), .val (.int (2 : Int32)), .val (.int c1)] d_jdk_52_method_21_code_38 rfl (by decide) rfl rfl ?_
  refine Go.goto (pc' := 3) d_jdk_52_method_21_code_41 (by decide) (by decide) ?_
  refine Go.iload (pc' := 5) d_jdk_52_method_21_code_3 rfl rfl ?_
  refine Go.iload (pc' := 7) d_jdk_52_method_21_code_5 rfl rfl ?_
  refine Go.icmpT (pc' := 44) d_jdk_52_method_21_code_7 (show ¬ ((2 : Int32) < (2 : Int32)) by decide) (by decide) (by decide) ?_
  refine Go.iload (pc' := 46) d_jdk_52_method_21_code_44 rfl rfl ?_
  refine Go.retI rfl [] (fun _ q => nomatch q) d_jdk_52_method_21_code_46 (by decide) (by decide) ?_
  exact ⟨rfl, (Keep.wr (Keep.wr (Keep.refl _ [d]) W_2 (Or.inl (by simp))) W_7 (Or.inl (by simp))), F_9⟩
set_option maxRecDepth 65536 in
set_option maxHeartbeats 40000000 in
theorem ct_cmp3_2 (l : Launch) (Z : State) (a0 : Array Value) (hw : ∀ d ∈ tables_1, d.before a0 Z = true) (n0 : Nat) (h0 : Heap) (c : Addr) (kc : ClassId) (c0 c1 : Int32) (AC : Arv Z h0 c kc .char (2 : Int32) [(.int c0), (.int c1)] (.int 0)) (hb_c0 : ¬ 255 < c0) (hb_c1 : ¬ 255 < c1) (hn0 : n0 ≤ h0.size) :
    Ct l Z (⟨"java/lang/StringUTF16", "compress", "([CII)[B"⟩ : MethodName) jdk_52_method_16_code 6 (some (.array .byte)) ({ frames := 1, cells := 1, slots := 2, locals := 18 } : Room) EL1 n0 true [] #[(.ref c), (.int (0 : Int32)), (.int (2 : Int32))] h0 [] (fun v h N => ∃ d kd, v = some (.ref d) ∧ h0.size ≤ d ∧ d < h.size ∧ Keep h0 h [] ∧ Arv Z h d kd .byte (2 : Int32) [(.int (c0).toInt8.toInt32), (.int (c1).toInt8.toInt32)] (.int 0)) := by
  refine Ct.of (a0 := a0) (plainFor_of_name pn_java_lang_StringUTF16) (own_ew hw) (L0 := #[.val (.ref c), .val (.int (0 : Int32)), .val (.int (2 : Int32)), .unset, .unset, .unset]) (fun m => by first | (simp [entryFrame, mkF, argsToLocals, Value.category]; done) | rfl) ?_
  have ltc := nlt AC.lt
  have l0_AC := nlt AC.lt
  refine Go.iloadN (pc' := 1) d_jdk_52_method_16_code_0 rfl rfl ?_
  refine Go.newPV (pc' := 3) (a1 := a0) 2 [(.int (0 : Int32)), (.int (0 : Int32))] d_jdk_52_method_16_code_1 (hw _ (List.mem_of_getElem? (i := 26) rfl)) (by decide) (by decide) (by decide) (by decide) (by decide) rfl rfl (fun a_1 h_2 cA_3 ha_4 E_5 A_6 => ?_)
  have szh_2 : h0.size ≤ h_2.size := E_5.1
  have lta_1 := nlt A_6.lt
  have qa_1 := neq ha_4
  have F_7 : Arv Z h_2 a_1 cA_3 .byte (2 : Int32) [(.int (0 : Int32)), (.int (0 : Int32))] (.int 0) := A_6
  refine Go.astoreN (pc' := 4) #[.val (.ref c), .val (.int (0 : Int32)), .val (.int (2 : Int32)), .val (.ref a_1), .unset, .unset] d_jdk_52_method_16_code_3 rfl rfl rfl ?_
  refine Go.aloadN (pc' := 5) d_jdk_52_method_16_code_4 rfl rfl rfl ?_
  refine Go.iloadN (pc' := 6) d_jdk_52_method_16_code_5 rfl rfl ?_
  refine Go.aloadN (pc' := 7) d_jdk_52_method_16_code_6 rfl rfl rfl ?_
  refine Go.iconst (pc' := 8) 0 d_jdk_52_method_16_code_7 rfl rfl ?_
  refine Go.iloadN (pc' := 9) d_jdk_52_method_16_code_8 rfl rfl ?_
  have F_10 : Arv Z h_2 c kc .char (2 : Int32) [(.int c0), (.int c1)] (.int 0) := (Arv.ext AC E_5)
  refine Go.callS (a1 := a0) (pc' := 12) (argsL := [(.ref c), (.int (0 : Int32)), (.ref a_1), (.int (0 : Int32)), (.int (2 : Int32))]) (rest := []) (ct_cmp5_2 l Z a0 hw n0 h_2 c a_1 kc cA_3 c0 c1 F_10 F_7 hb_c0 hb_c1 (by omega) (nne (by omega))) d_jdk_52_method_16_code_9 (hw _ (List.mem_of_getElem? (i := 38) rfl)) (hw _ (List.mem_of_getElem? (i := 39) rfl)) (hw _ (List.mem_of_getElem? (i := 36) rfl)) (hw _ (List.mem_of_getElem? (i := 40) rfl)) (by decide) (lenOf pd__28_5bCI_5bBII_29I rfl) rfl 0 rfl rfl (by decide) (by decide) (by decide) (by decide) (by intro x hx; simp only [List.mem_cons, List.not_mem_nil, or_false] at hx; rcases hx with rfl; all_goals simp) rfl (fun v_11 h_12 N_13 hQ_14 hle_15 => ?_)
  obtain ⟨rfl, K_8, F_9⟩ := hQ_14
  have szh_12 : h_2.size ≤ h_12.size := K_8.1
  refine Go.re (pc' := 12) (L' := #[.val (.ref c), .val (.int (0 : Int32)), .val (.int (2 : Int32)), .val (.ref a_1), .unset, .unset]) (S' := [(.int (2 : Int32))]) rfl rfl rfl ?_
  refine Go.istore (pc' := 14) #[.val (.ref c), .val (.int (0 : Int32)), .val (.int (2 : Int32)), .val (.ref a_1), .val (.int (2 : Int32)), .unset] d_jdk_52_method_16_code_12 rfl rfl ?_
  refine Go.iload (pc' := 16) d_jdk_52_method_16_code_14 rfl rfl ?_
  refine Go.iloadN (pc' := 17) d_jdk_52_method_16_code_16 rfl rfl ?_
  refine Go.icmpT (pc' := 57) d_jdk_52_method_16_code_17 (show (2 : Int32) = (2 : Int32) by decide) (by decide) (by decide) ?_
  refine Go.aloadN (pc' := 58) d_jdk_52_method_16_code_57 rfl rfl rfl ?_
  refine Go.retA rfl rfl rfl [] (fun _ q => nomatch q) d_jdk_52_method_16_code_58 (by decide) (by decide) ?_
  exact ⟨a_1, _, rfl, by omega, F_9.lt, (Keep.trans (Keep.ext (Keep.refl _ []) E_5) K_8 (allS (Or.inr (by omega)) all0)), F_9⟩
set_option maxRecDepth 65536 in
set_option maxHeartbeats 40000000 in
theorem ct_si4_2 (l : Launch) (Z : State) (a0 : Array Value) (hw : ∀ d ∈ tables_1, d.before a0 Z = true) (n0 : Nat) (h0 : Heap) (a1 : Addr) (ha1 : n0 ≤ a1) (E1 : Exa Z h0 a1 "java/lang/String") (G1 : Fld Z h0 a1 "java/lang/String" "value" "[B" .null) (G2 : Fld Z h0 a1 "java/lang/String" "coder" "B" (.int (0 : Int32))) (c : Addr) (kc : ClassId) (c0 c1 : Int32) (AC : Arv Z h0 c kc .char (2 : Int32) [(.int c0), (.int c1)] (.int 0)) (hb_c0 : ¬ 255 < c0) (hb_c1 : ¬ 255 < c1) (cs : Int32) (S_cs : Sta Z h0 "java/lang/String" "COMPACT_STRINGS" "Z" (.int cs)) (hcs : ¬ cs = 0) :
    Ct l Z (⟨"java/lang/String", "<init>", "([CIILjava/lang/Void;)V"⟩ : MethodName) jdk_42_method_149_code 6 none ({ frames := 2, cells := 1, slots := 2, locals := 35 } : Room) EL1 n0 true [] #[(.ref a1), (.ref c), (.int (0 : Int32)), (.int (2 : Int32)), (.null)] h0 [a1] (fun v h N => v = none ∧ ∃ b kb, h0.size ≤ b ∧ b < h.size ∧ Keep h0 h [a1] ∧ Exa Z h a1 "java/lang/String" ∧ Fld Z h a1 "java/lang/String" "coder" "B" (.int (0 : Int32)) ∧ Fld Z h a1 "java/lang/String" "value" "[B" (.ref b) ∧ Arv Z h b kb .byte (2 : Int32) [(.int (c0).toInt8.toInt32), (.int (c1).toInt8.toInt32)] (.int 0)) := by
  refine Ct.of (a0 := a0) (plainFor_of_name pn_java_lang_String) (own_ew hw) (L0 := #[.val (.ref a1), .val (.ref c), .val (.int (0 : Int32)), .val (.int (2 : Int32)), .val (.null), .unset]) (fun m => by first | (simp [entryFrame, mkF, argsToLocals, Value.category]; done) | rfl) ?_
  have ltc := nlt AC.lt
  have lta1 := nlt E1.lt
  have l0_E1 := nlt E1.lt
  have l0_AC := nlt AC.lt
  refine Go.aloadN (pc' := 1) d_jdk_42_method_149_code_0 rfl rfl rfl ?_
  refine Go.initO (pc' := 4) (a1 := a0) d_jdk_42_method_149_code_1 (hw _ (List.mem_of_getElem? (i := 22) rfl)) (hw _ (List.mem_of_getElem? (i := 23) rfl)) (hw _ (List.mem_of_getElem? (i := 24) rfl)) rfl (by decide) 0 rfl (by decide) rfl ?_
  refine Go.iloadN (pc' := 5) d_jdk_42_method_149_code_4 rfl rfl ?_
  refine Go.ifT (pc' := 27) d_jdk_42_method_149_code_5 (show ¬ ((2 : Int32) = (0 : Int32)) by decide) (by decide) (by decide) ?_
  refine Go.getS (pc' := 30) (host := "") (a1 := a0) d_jdk_42_method_149_code_27 (Or.inl (hw _ (List.mem_of_getElem? (i := 33) rfl))) Via.refl S_cs rfl ?_
  refine Go.ifF (pc' := 33) d_jdk_42_method_149_code_30 (hcs) rfl ?_
  refine Go.aloadN (pc' := 34) d_jdk_42_method_149_code_33 rfl rfl rfl ?_
  refine Go.iloadN (pc' := 35) d_jdk_42_method_149_code_34 rfl rfl ?_
  refine Go.iloadN (pc' := 36) d_jdk_42_method_149_code_35 rfl rfl ?_
  refine Go.callS (a1 := a0) (pc' := 39) (argsL := [(.ref c), (.int (0 : Int32)), (.int (2 : Int32))]) (rest := []) (ct_cmp3_2 l Z a0 hw n0 h0 c kc c0 c1 AC hb_c0 hb_c1 (by omega)) d_jdk_42_method_149_code_36 (hw _ (List.mem_of_getElem? (i := 34) rfl)) (hw _ (List.mem_of_getElem? (i := 35) rfl)) (hw _ (List.mem_of_getElem? (i := 36) rfl)) (hw _ (List.mem_of_getElem? (i := 37) rfl)) (by decide) (lenOf pd__28_5bCII_29_5bB rfl) rfl 0 rfl rfl (by decide) (by decide) (by decide) (by decide) (fun _ q => nomatch q) rfl (fun v_7 h_8 N_9 hQ_10 hle_11 => ?_)
  obtain ⟨d_1, kd_2, rfl, g_3, g_4, K_5, F_6⟩ := hQ_10
  have szh_8 : h0.size ≤ h_8.size := K_5.1
  have ltd_1 := nlt g_4
  refine Go.re (pc' := 39) (L' := #[.val (.ref a1), .val (.ref c), .val (.int (0 : Int32)), .val (.int (2 : Int32)), .val (.null), .unset]) (S' := [(.ref d_1)]) rfl rfl rfl ?_
  refine Go.astore (pc' := 41) #[.val (.ref a1), .val (.ref c), .val (.int (0 : Int32)), .val (.int (2 : Int32)), .val (.null), .val (.ref d_1)] d_jdk_42_method_149_code_39 rfl rfl rfl ?_
  refine Go.aloadN (pc' := 42) d_jdk_42_method_149_code_41 rfl rfl rfl ?_
  refine Go.aload (pc' := 44) d_jdk_42_method_149_code_42 rfl rfl rfl ?_
  refine Go.iloadN (pc' := 45) d_jdk_42_method_149_code_44 rfl rfl ?_
  refine Go.callS (a1 := a0) (pc' := 48) (argsL := [(.ref d_1), (.int (2 : Int32))]) (rest := [(.ref a1)]) (ct_cfal l Z a0 hw n0 h_8 d_1 kd_2 (2 : Int32) [(.int (c0).toInt8.toInt32), (.int (c1).toInt8.toInt32)] F_6) d_jdk_42_method_149_code_45 (hw _ (List.mem_of_getElem? (i := 41) rfl)) (hw _ (List.mem_of_getElem? (i := 42) rfl)) (hw _ (List.mem_of_getElem? (i := 36) rfl)) (hw _ (List.mem_of_getElem? (i := 43) rfl)) (by decide) (lenOf pd__28_5bBI_29B rfl) rfl 1 rfl rfl (by decide) (by decide) (by decide) (by decide) (fun _ q => nomatch q) rfl (fun v_12 h_13 N_14 hQ_15 hle_16 => ?_)
  obtain ⟨rfl, rfl⟩ := hQ_15
  refine Go.re (pc' := 48) (L' := #[.val (.ref a1), .val (.ref c), .val (.int (0 : Int32)), .val (.int (2 : Int32)), .val (.null), .val (.ref d_1)]) (S' := [(.int (0 : Int32)), (.ref a1)]) rfl rfl rfl ?_
  have F_17 : Fld Z h_8 a1 "java/lang/String" "coder" "B" (.int (0 : Int32)) := (Fld.keep G2 K_5 nin0)
  have F_18 : Exa Z h_8 a1 "java/lang/String" := (Exa.keep E1 K_5)
  refine Go.putF (pc' := 51) (host := "") (a1 := a0) d_jdk_42_method_149_code_48 (Or.inl (hw _ (List.mem_of_getElem? (i := 32) rfl))) Via.refl F_17 F_18 (Or.inr ⟨(hw _ (List.mem_of_getElem? (i := 28) rfl)), rfl, rfl⟩) (hw _ (List.mem_of_getElem? (i := 12) rfl)) (ty := .byte) (by decide) rfl rfl (Sf.mem (by simp)) (by omega) rfl (fun h_19 W_20 => ?_)
  have szh_19 : h_19.size = h_8.size := Wr.size W_20
  have F_21 : Fld Z h_19 a1 "java/lang/String" "coder" "B" (.int (0 : Int32)) := Fld.same W_20 F_17
  refine Go.aloadN (pc' := 52) d_jdk_42_method_149_code_51 rfl rfl rfl ?_
  refine Go.aload (pc' := 54) d_jdk_42_method_149_code_52 rfl rfl rfl ?_
  have F_22 : Fld Z h_19 a1 "java/lang/String" "value" "[B" (.null) := (Fld.other W_20 (Fld.keep G1 K_5 nin0) (Or.inr (slot_ne (Or.inr (hw _ (List.mem_of_getElem? (i := 27) rfl))) (Or.inr (hw _ (List.mem_of_getElem? (i := 28) rfl))) (by decide) (t := (.array .byte)) (t' := .byte) (by decide) (by decide))))
  have F_23 : Exa Z h_19 a1 "java/lang/String" := (Exa.wr W_20 F_18)
  refine Go.putF (pc' := 57) (host := "") (a1 := a0) d_jdk_42_method_149_code_54 (Or.inl (hw _ (List.mem_of_getElem? (i := 31) rfl))) Via.refl F_22 F_23 (Or.inr ⟨(hw _ (List.mem_of_getElem? (i := 27) rfl)), rfl, rfl⟩) (hw _ (List.mem_of_getElem? (i := 12) rfl)) (ty := (.array .byte)) (by decide) rfl rfl (Sf.mem (by simp)) (by omega) rfl (fun h_24 W_25 => ?_)
  have szh_24 : h_24.size = h_19.size := Wr.size W_25
  have F_26 : Fld Z h_24 a1 "java/lang/String" "value" "[B" (.ref d_1) := Fld.same W_25 F_22
  have F_27 : Arv Z h_24 d_1 kd_2 .byte (2 : Int32) [(.int (c0).toInt8.toInt32), (.int (c1).toInt8.toInt32)] (.int 0) := (Arv.other (Arv.other F_6 W_20 (nne (by omega))) W_25 (nne (by omega)))
  have F_28 : Exa Z h_24 a1 "java/lang/String" := (Exa.wr W_25 F_23)
  have F_29 : Fld Z h_24 a1 "java/lang/String" "coder" "B" (.int (0 : Int32)) := (Fld.other W_25 F_21 (Or.inr (slot_ne (Or.inr (hw _ (List.mem_of_getElem? (i := 28) rfl))) (Or.inr (hw _ (List.mem_of_getElem? (i := 27) rfl))) (by decide) (t := .byte) (t' := (.array .byte)) (by decide) (by decide))))
  have F_30 : Arv Z h_24 d_1 kd_2 .byte (2 : Int32) [(.int (c0).toInt8.toInt32), (.int (c1).toInt8.toInt32)] (.int 0) := (Arv.other (Arv.other F_6 W_20 (nne (by omega))) W_25 (nne (by omega)))
  refine Go.ret0 rfl [] (fun _ q => nomatch q) d_jdk_42_method_149_code_57 (by decide) (by decide) ?_
  exact ⟨rfl, d_1, kd_2, by omega, F_27.lt, (Keep.wr (Keep.wr (Keep.trans (Keep.refl _ [a1]) K_5 all0) W_20 (Or.inl (by simp))) W_25 (Or.inl (by simp))), F_28, F_29, F_26, F_30⟩
set_option maxRecDepth 65536 in
set_option maxHeartbeats 40000000 in
theorem ct_si1_2 (l : Launch) (Z : State) (a0 : Array Value) (hw : ∀ d ∈ tables_1, d.before a0 Z = true) (n0 : Nat) (h0 : Heap) (a1 : Addr) (ha1 : n0 ≤ a1) (E1 : Exa Z h0 a1 "java/lang/String") (G1 : Fld Z h0 a1 "java/lang/String" "value" "[B" .null) (G2 : Fld Z h0 a1 "java/lang/String" "coder" "B" (.int (0 : Int32))) (c : Addr) (kc : ClassId) (c0 c1 : Int32) (AC : Arv Z h0 c kc .char (2 : Int32) [(.int c0), (.int c1)] (.int 0)) (hb_c0 : ¬ 255 < c0) (hb_c1 : ¬ 255 < c1) (cs : Int32) (S_cs : Sta Z h0 "java/lang/String" "COMPACT_STRINGS" "Z" (.int cs)) (hcs : ¬ cs = 0) :
    Ct l Z (⟨"java/lang/String", "<init>", "([C)V"⟩ : MethodName) jdk_42_method_3_code 2 none ({ frames := 3, cells := 1, slots := 2, locals := 52 } : Room) EL1 n0 true [] #[(.ref a1), (.ref c)] h0 [a1] (fun v h N => v = none ∧ ∃ b kb, h0.size ≤ b ∧ b < h.size ∧ Keep h0 h [a1] ∧ Exa Z h a1 "java/lang/String" ∧ Fld Z h a1 "java/lang/String" "coder" "B" (.int (0 : Int32)) ∧ Fld Z h a1 "java/lang/String" "value" "[B" (.ref b) ∧ Arv Z h b kb .byte (2 : Int32) [(.int (c0).toInt8.toInt32), (.int (c1).toInt8.toInt32)] (.int 0)) := by
  refine Ct.of (a0 := a0) (plainFor_of_name pn_java_lang_String) (own_ew hw) (L0 := #[.val (.ref a1), .val (.ref c)]) (fun m => by first | (simp [entryFrame, mkF, argsToLocals, Value.category]; done) | rfl) ?_
  have ltc := nlt AC.lt
  have lta1 := nlt E1.lt
  have l0_E1 := nlt E1.lt
  have l0_AC := nlt AC.lt
  refine Go.aloadN (pc' := 1) d_jdk_42_method_3_code_0 rfl rfl rfl ?_
  refine Go.aloadN (pc' := 2) d_jdk_42_method_3_code_1 rfl rfl rfl ?_
  refine Go.iconst (pc' := 3) 0 d_jdk_42_method_3_code_2 rfl rfl ?_
  refine Go.aloadN (pc' := 4) d_jdk_42_method_3_code_3 rfl rfl rfl ?_
  refine Go.alenV (pc' := 5) d_jdk_42_method_3_code_4 AC rfl ?_
  refine Go.aconstNull (pc' := 6) d_jdk_42_method_3_code_5 rfl ?_
  refine Go.callN (a1 := a0) (pc' := 9) (argsL := [(.ref c), (.int (0 : Int32)), (.int (2 : Int32)), (.null)]) (rest := []) (ct_si4_2 l Z a0 hw n0 h0 a1 (by omega) E1 G1 G2 c kc c0 c1 AC hb_c0 hb_c1 cs S_cs hcs) d_jdk_42_method_3_code_6 rfl (hw _ (List.mem_of_getElem? (i := 18) rfl)) (hw _ (List.mem_of_getElem? (i := 19) rfl)) (hw _ (List.mem_of_getElem? (i := 13) rfl)) (hw _ (List.mem_of_getElem? (i := 21) rfl)) (by decide) (lenOf pd__28_5bCIILjava_2flang_2fVoid_3b_29V rfl) rfl 0 rfl rfl (by decide) (by decide) (by decide) (by decide) (by intro x hx; simp only [List.mem_cons, List.not_mem_nil, or_false] at hx; rcases hx with rfl; all_goals simp) rfl (fun v_10 h_11 N_12 hQ_13 hle_14 => ?_)
  obtain ⟨rfl, b_1, kb_2, g_3, g_4, K_5, X_6, F_7, F_8, A_9⟩ := hQ_13
  have szh_11 : h0.size ≤ h_11.size := K_5.1
  have ltb_1 := nlt g_4
  refine Go.re (pc' := 9) (L' := #[.val (.ref a1), .val (.ref c)]) (S' := []) rfl rfl rfl ?_
  refine Go.ret0 rfl [] (fun _ q => nomatch q) d_jdk_42_method_3_code_9 (by decide) (by decide) ?_
  exact ⟨rfl, b_1, kb_2, by omega, A_9.lt, (Keep.trans (Keep.refl _ [a1]) K_5 (allS (Or.inl (by simp)) all0)), X_6, F_7, F_8, A_9⟩
theorem d_jdk_42_method_149_code_8 : decode jdk_42_method_149_code 8 = .ok (.aload_n 0, 1) := by decide +kernel
theorem d_jdk_42_method_149_code_9 : decode jdk_42_method_149_code 9 = .ok (.ldc 7, 2) := by decide +kernel
theorem d_jdk_42_method_149_code_11 : decode jdk_42_method_149_code 11 = .ok (.getfield 9, 3) := by decide +kernel
theorem d_jdk_42_method_149_code_14 : decode jdk_42_method_149_code 14 = .ok (.putfield 9, 3) := by decide +kernel
theorem d_jdk_42_method_149_code_17 : decode jdk_42_method_149_code 17 = .ok (.aload_n 0, 1) := by decide +kernel
theorem d_jdk_42_method_149_code_18 : decode jdk_42_method_149_code 18 = .ok (.ldc 7, 2) := by decide +kernel
theorem d_jdk_42_method_149_code_20 : decode jdk_42_method_149_code 20 = .ok (.getfield 15, 3) := by decide +kernel
theorem d_jdk_42_method_149_code_23 : decode jdk_42_method_149_code 23 = .ok (.putfield 15, 3) := by decide +kernel
theorem d_jdk_42_method_149_code_26 : decode jdk_42_method_149_code 26 = .ok (.return_, 1) := by decide +kernel
set_option maxRecDepth 65536 in
set_option maxHeartbeats 40000000 in
theorem ct_si4_0 (l : Launch) (Z : State) (a0 : Array Value) (hw : ∀ d ∈ tables_1, d.before a0 Z = true) (n0 : Nat) (h0 : Heap) (a1 : Addr) (ha1 : n0 ≤ a1) (E1 : Exa Z h0 a1 "java/lang/String") (G1 : Fld Z h0 a1 "java/lang/String" "value" "[B" .null) (G2 : Fld Z h0 a1 "java/lang/String" "coder" "B" (.int (0 : Int32))) (c : Addr) :
    Ct l Z (⟨"java/lang/String", "<init>", "([CIILjava/lang/Void;)V"⟩ : MethodName) jdk_42_method_149_code 6 none ({ frames := 1, cells := 4, slots := 8, locals := 12 } : Room) EL1 n0 true [] #[(.ref a1), (.ref c), (.int (0 : Int32)), (.int (0 : Int32)), (.null)] h0 [a1] (fun v h N => v = none ∧ ∃ b kb, b < h.size ∧ Keep h0 h [a1] ∧ Exa Z h a1 "java/lang/String" ∧ Fld Z h a1 "java/lang/String" "coder" "B" (.int (0 : Int32)) ∧ Fld Z h a1 "java/lang/String" "value" "[B" (.ref b) ∧ Arv Z h b kb .byte (0 : Int32) [] (.int 0)) := by
  refine Ct.of (a0 := a0) (plainFor_of_name pn_java_lang_String) (own_ew hw) (L0 := #[.val (.ref a1), .val (.ref c), .val (.int (0 : Int32)), .val (.int (0 : Int32)), .val (.null), .unset]) (fun m => by first | (simp [entryFrame, mkF, argsToLocals, Value.category]; done) | rfl) ?_
  have lta1 := nlt E1.lt
  have l0_E1 := nlt E1.lt
  refine Go.aloadN (pc' := 1) d_jdk_42_method_149_code_0 rfl rfl rfl ?_
  refine Go.initO (pc' := 4) (a1 := a0) d_jdk_42_method_149_code_1 (hw _ (List.mem_of_getElem? (i := 22) rfl)) (hw _ (List.mem_of_getElem? (i := 23) rfl)) (hw _ (List.mem_of_getElem? (i := 24) rfl)) rfl (by decide) 0 rfl (by decide) rfl ?_
  refine Go.iloadN (pc' := 5) d_jdk_42_method_149_code_4 rfl rfl ?_
  refine Go.ifF (pc' := 8) d_jdk_42_method_149_code_5 (show (0 : Int32) = (0 : Int32) by decide) rfl ?_
  refine Go.aloadN (pc' := 9) d_jdk_42_method_149_code_8 rfl rfl rfl ?_
  refine Go.ldcR (pc' := 11) (a1 := a0) 0 (vs := []) (z := 0) d_jdk_42_method_149_code_9 rfl (hw _ (List.mem_of_getElem? (i := 25) rfl)) (own_ws hw) (by decide) (by decide) (by decide) (by decide) rfl (own_ew hw) (List.mem_of_getElem? (i := 0) rfl) ⟨by decide, by decide⟩ (by decide) (by decide) (fun a_1 h_2 b_3 k_4 E_5 X_6 F_7 F_8 A_9 ne_10 => ?_)
  have szh_2 : h0.size ≤ h_2.size := E_5.1
  have lta_1 := nlt X_6.lt
  have ltb_3 := nlt A_9.lt
  have nx_11 := nne2 (ne_10 a1 (by simp))
  refine Go.getF (pc' := 14) (host := "") (a1 := a0) d_jdk_42_method_149_code_11 (Or.inl (hw _ (List.mem_of_getElem? (i := 31) rfl))) Via.refl F_8 rfl ?_
  have F_12 : Fld Z h_2 a1 "java/lang/String" "value" "[B" (.null) := (Fld.ext E_5 G1)
  have F_13 : Exa Z h_2 a1 "java/lang/String" := (Exa.ext E_5 E1)
  refine Go.putF (pc' := 17) (host := "") (a1 := a0) d_jdk_42_method_149_code_14 (Or.inl (hw _ (List.mem_of_getElem? (i := 31) rfl))) Via.refl F_12 F_13 (Or.inr ⟨(hw _ (List.mem_of_getElem? (i := 27) rfl)), rfl, rfl⟩) (hw _ (List.mem_of_getElem? (i := 12) rfl)) (ty := (.array .byte)) (by decide) rfl rfl (Sf.mem (by simp)) (by omega) rfl (fun h_14 W_15 => ?_)
  have szh_14 : h_14.size = h_2.size := Wr.size W_15
  have F_16 : Fld Z h_14 a1 "java/lang/String" "value" "[B" (.ref b_3) := Fld.same W_15 F_12
  refine Go.aloadN (pc' := 18) d_jdk_42_method_149_code_17 rfl rfl rfl ?_
  refine Go.ldcR (pc' := 20) (a1 := a0) 0 (vs := []) (z := 0) d_jdk_42_method_149_code_18 rfl (hw _ (List.mem_of_getElem? (i := 25) rfl)) (own_ws hw) (by decide) (by decide) (by decide) (by decide) rfl (own_ew hw) (List.mem_of_getElem? (i := 0) rfl) ⟨by decide, by decide⟩ (by decide) (by decide) (fun a_17 h_18 b_19 k_20 E_21 X_22 F_23 F_24 A_25 ne_26 => ?_)
  have szh_18 : h_14.size ≤ h_18.size := E_21.1
  have lta_17 := nlt X_22.lt
  have ltb_19 := nlt A_25.lt
  have nx_27 := nne2 (ne_26 a1 (by simp))
  refine Go.getF (pc' := 23) (host := "") (a1 := a0) d_jdk_42_method_149_code_20 (Or.inl (hw _ (List.mem_of_getElem? (i := 32) rfl))) Via.refl F_23 rfl ?_
  have F_28 : Fld Z h_18 a1 "java/lang/String" "coder" "B" (.int (0 : Int32)) := (Fld.ext E_21 (Fld.other W_15 (Fld.ext E_5 G2) (Or.inr (slot_ne (Or.inr (hw _ (List.mem_of_getElem? (i := 28) rfl))) (Or.inr (hw _ (List.mem_of_getElem? (i := 27) rfl))) (by decide) (t := .byte) (t' := (.array .byte)) (by decide) (by decide)))))
  have F_29 : Exa Z h_18 a1 "java/lang/String" := (Exa.ext E_21 (Exa.wr W_15 F_13))
  refine Go.putF (pc' := 26) (host := "") (a1 := a0) d_jdk_42_method_149_code_23 (Or.inl (hw _ (List.mem_of_getElem? (i := 32) rfl))) Via.refl F_28 F_29 (Or.inr ⟨(hw _ (List.mem_of_getElem? (i := 28) rfl)), rfl, rfl⟩) (hw _ (List.mem_of_getElem? (i := 12) rfl)) (ty := .byte) (by decide) rfl rfl (Sf.mem (by simp)) (by omega) rfl (fun h_30 W_31 => ?_)
  have szh_30 : h_30.size = h_18.size := Wr.size W_31
  have F_32 : Fld Z h_30 a1 "java/lang/String" "coder" "B" (.int (0 : Int32)) := Fld.same W_31 F_28
  have F_33 : Arv Z h_30 b_3 k_4 .byte (0 : Int32) [] (.int 0) := (Arv.other (Arv.ext (Arv.other A_9 W_15 (nne (by omega))) E_21) W_31 (nne (by omega)))
  have F_34 : Exa Z h_30 a1 "java/lang/String" := (Exa.wr W_31 F_29)
  have F_35 : Fld Z h_30 a1 "java/lang/String" "value" "[B" (.ref b_3) := (Fld.other W_31 (Fld.ext E_21 F_16) (Or.inr (slot_ne (Or.inr (hw _ (List.mem_of_getElem? (i := 27) rfl))) (Or.inr (hw _ (List.mem_of_getElem? (i := 28) rfl))) (by decide) (t := (.array .byte)) (t' := .byte) (by decide) (by decide))))
  have F_36 : Arv Z h_30 b_3 k_4 .byte (0 : Int32) [] (.int 0) := (Arv.other (Arv.ext (Arv.other A_9 W_15 (nne (by omega))) E_21) W_31 (nne (by omega)))
  refine Go.ret0 rfl [] (fun _ q => nomatch q) d_jdk_42_method_149_code_26 (by decide) (by decide) ?_
  exact ⟨rfl, b_3, k_4, F_33.lt, (Keep.wr (Keep.ext (Keep.wr (Keep.ext (Keep.refl _ [a1]) E_5) W_15 (Or.inl (by simp))) E_21) W_31 (Or.inl (by simp))), F_34, F_32, F_35, F_36⟩
set_option maxRecDepth 65536 in
set_option maxHeartbeats 40000000 in
theorem ct_si1_0 (l : Launch) (Z : State) (a0 : Array Value) (hw : ∀ d ∈ tables_1, d.before a0 Z = true) (n0 : Nat) (h0 : Heap) (a1 : Addr) (ha1 : n0 ≤ a1) (E1 : Exa Z h0 a1 "java/lang/String") (G1 : Fld Z h0 a1 "java/lang/String" "value" "[B" .null) (G2 : Fld Z h0 a1 "java/lang/String" "coder" "B" (.int (0 : Int32))) (c : Addr) (kc : ClassId) (AC : Arv Z h0 c kc .char (0 : Int32) [] (.int 0)) :
    Ct l Z (⟨"java/lang/String", "<init>", "([C)V"⟩ : MethodName) jdk_42_method_3_code 2 none ({ frames := 2, cells := 4, slots := 8, locals := 29 } : Room) EL1 n0 true [] #[(.ref a1), (.ref c)] h0 [a1] (fun v h N => v = none ∧ ∃ b kb, b < h.size ∧ Keep h0 h [a1] ∧ Exa Z h a1 "java/lang/String" ∧ Fld Z h a1 "java/lang/String" "coder" "B" (.int (0 : Int32)) ∧ Fld Z h a1 "java/lang/String" "value" "[B" (.ref b) ∧ Arv Z h b kb .byte (0 : Int32) [] (.int 0)) := by
  refine Ct.of (a0 := a0) (plainFor_of_name pn_java_lang_String) (own_ew hw) (L0 := #[.val (.ref a1), .val (.ref c)]) (fun m => by first | (simp [entryFrame, mkF, argsToLocals, Value.category]; done) | rfl) ?_
  have lta1 := nlt E1.lt
  have l0_E1 := nlt E1.lt
  have l0_AC := nlt AC.lt
  refine Go.aloadN (pc' := 1) d_jdk_42_method_3_code_0 rfl rfl rfl ?_
  refine Go.aloadN (pc' := 2) d_jdk_42_method_3_code_1 rfl rfl rfl ?_
  refine Go.iconst (pc' := 3) 0 d_jdk_42_method_3_code_2 rfl rfl ?_
  refine Go.aloadN (pc' := 4) d_jdk_42_method_3_code_3 rfl rfl rfl ?_
  refine Go.alenV (pc' := 5) d_jdk_42_method_3_code_4 AC rfl ?_
  refine Go.aconstNull (pc' := 6) d_jdk_42_method_3_code_5 rfl ?_
  refine Go.callN (a1 := a0) (pc' := 9) (argsL := [(.ref c), (.int (0 : Int32)), (.int (0 : Int32)), (.null)]) (rest := []) (ct_si4_0 l Z a0 hw n0 h0 a1 (by omega) E1 G1 G2 c) d_jdk_42_method_3_code_6 rfl (hw _ (List.mem_of_getElem? (i := 18) rfl)) (hw _ (List.mem_of_getElem? (i := 19) rfl)) (hw _ (List.mem_of_getElem? (i := 13) rfl)) (hw _ (List.mem_of_getElem? (i := 21) rfl)) (by decide) (lenOf pd__28_5bCIILjava_2flang_2fVoid_3b_29V rfl) rfl 0 rfl rfl (by decide) (by decide) (by decide) (by decide) (by intro x hx; simp only [List.mem_cons, List.not_mem_nil, or_false] at hx; rcases hx with rfl; all_goals simp) rfl (fun v_9 h_10 N_11 hQ_12 hle_13 => ?_)
  obtain ⟨rfl, b_1, kb_2, g_3, K_4, X_5, F_6, F_7, A_8⟩ := hQ_12
  have szh_10 : h0.size ≤ h_10.size := K_4.1
  have ltb_1 := nlt g_3
  refine Go.re (pc' := 9) (L' := #[.val (.ref a1), .val (.ref c)]) (S' := []) rfl rfl rfl ?_
  refine Go.ret0 rfl [] (fun _ q => nomatch q) d_jdk_42_method_3_code_9 (by decide) (by decide) ?_
  exact ⟨rfl, b_1, kb_2, A_8.lt, (Keep.trans (Keep.refl _ [a1]) K_4 (allS (Or.inl (by simp)) all0)), X_5, F_6, F_7, A_8⟩
theorem pn_com_example_relations_into_instances_relationsintoinstances_parse_TokenIsPinLaw : plainName "com/example/relations_into_instances/relationsintoinstances/parse/TokenIsPinLaw" = true := by first | (simp [plainName, overriddenIn]; done) | decide +kernel
theorem d_method_2_code_0 : decode method_2_code 0 = .ok (.iload_n 0, 1) := by decide +kernel
theorem d_method_2_code_1 : decode method_2_code 1 = .ok (.ifCond .ne 7, 3) := by decide +kernel
theorem d_method_2_code_8 : decode method_2_code 8 = .ok (.iload_n 0, 1) := by decide +kernel
theorem d_method_2_code_9 : decode method_2_code 9 = .ok (.iconst 1, 1) := by decide +kernel
theorem d_method_2_code_10 : decode method_2_code 10 = .ok (.if_icmp .ne 7, 3) := by decide +kernel
theorem d_method_2_code_17 : decode method_2_code 17 = .ok (.iload_n 0, 1) := by decide +kernel
theorem d_method_2_code_18 : decode method_2_code 18 = .ok (.iconst 2, 1) := by decide +kernel
theorem d_method_2_code_19 : decode method_2_code 19 = .ok (.if_icmp .ne 7, 3) := by decide +kernel
theorem d_method_2_code_26 : decode method_2_code 26 = .ok (.iload_n 0, 1) := by decide +kernel
theorem d_method_2_code_27 : decode method_2_code 27 = .ok (.iconst 3, 1) := by decide +kernel
theorem d_method_2_code_28 : decode method_2_code 28 = .ok (.if_icmp .ne 7, 3) := by decide +kernel
theorem d_method_2_code_35 : decode method_2_code 35 = .ok (.getstatic 22, 3) := by decide +kernel
theorem d_method_2_code_38 : decode method_2_code 38 = .ok (.areturn, 1) := by decide +kernel
theorem d_method_2_code_31 : decode method_2_code 31 = .ok (.getstatic 19, 3) := by decide +kernel
theorem d_method_2_code_34 : decode method_2_code 34 = .ok (.areturn, 1) := by decide +kernel
theorem d_method_2_code_22 : decode method_2_code 22 = .ok (.getstatic 16, 3) := by decide +kernel
theorem d_method_2_code_25 : decode method_2_code 25 = .ok (.areturn, 1) := by decide +kernel
theorem d_method_2_code_13 : decode method_2_code 13 = .ok (.getstatic 13, 3) := by decide +kernel
theorem d_method_2_code_16 : decode method_2_code 16 = .ok (.areturn, 1) := by decide +kernel
theorem d_method_2_code_4 : decode method_2_code 4 = .ok (.getstatic 7, 3) := by decide +kernel
theorem d_method_2_code_7 : decode method_2_code 7 = .ok (.areturn, 1) := by decide +kernel
set_option maxRecDepth 65536 in
set_option maxHeartbeats 40000000 in
theorem ct_pick (l : Launch) (Z : State) (a0 : Array Value) (hw : ∀ d ∈ tables_1, d.before a0 Z = true) (n0 : Nat) (h0 : Heap) (p1 : Int32) (o_NAME : Addr) (S_NAME : Sta Z h0 "com/example/relations_into_instances/relationsintoinstances/parse/Token$Kind" "NAME" "Lcom/example/relations_into_instances/relationsintoinstances/parse/Token$Kind;" (.ref o_NAME)) (o_KEYWORD : Addr) (S_KEYWORD : Sta Z h0 "com/example/relations_into_instances/relationsintoinstances/parse/Token$Kind" "KEYWORD" "Lcom/example/relations_into_instances/relationsintoinstances/parse/Token$Kind;" (.ref o_KEYWORD)) (o_SYMBOL : Addr) (S_SYMBOL : Sta Z h0 "com/example/relations_into_instances/relationsintoinstances/parse/Token$Kind" "SYMBOL" "Lcom/example/relations_into_instances/relationsintoinstances/parse/Token$Kind;" (.ref o_SYMBOL)) (o_NUMBER : Addr) (S_NUMBER : Sta Z h0 "com/example/relations_into_instances/relationsintoinstances/parse/Token$Kind" "NUMBER" "Lcom/example/relations_into_instances/relationsintoinstances/parse/Token$Kind;" (.ref o_NUMBER)) (o_END : Addr) (S_END : Sta Z h0 "com/example/relations_into_instances/relationsintoinstances/parse/Token$Kind" "END" "Lcom/example/relations_into_instances/relationsintoinstances/parse/Token$Kind;" (.ref o_END)) (n_NAME : o_NAME ≠ o_KEYWORD) (m_NAME : o_NAME ≠ o_SYMBOL) (n_NUMBER : o_NUMBER ≠ o_KEYWORD) (m_NUMBER : o_NUMBER ≠ o_SYMBOL) (n_END : o_END ≠ o_KEYWORD) (m_END : o_END ≠ o_SYMBOL) :
    Ct l Z (⟨"com/example/relations_into_instances/relationsintoinstances/parse/TokenIsPinLaw", "pick", "(I)Lcom/example/relations_into_instances/relationsintoinstances/parse/Token$Kind;"⟩ : MethodName) method_2_code 1 (some (.object "com/example/relations_into_instances/relationsintoinstances/parse/Token$Kind")) ({ frames := 0, cells := 0, slots := 0, locals := 0 } : Room) EL1 n0 true [] #[(.int p1)] h0 [] (fun v h N => h0 = h ∧ ((p1 = 2 ∧ v = some (.ref o_KEYWORD)) ∨ (p1 = 3 ∧ v = some (.ref o_SYMBOL)) ∨ (¬ p1 = 2 ∧ ¬ p1 = 3 ∧ ∃ r, v = some (.ref r) ∧ r ≠ o_KEYWORD ∧ r ≠ o_SYMBOL))) := by
  refine Ct.of (a0 := a0) (plainFor_of_name pn_com_example_relations_into_instances_relationsintoinstances_parse_TokenIsPinLaw) (own_ew hw) (L0 := #[.val (.int p1)]) (fun m => by first | (simp [entryFrame, mkF, argsToLocals, Value.category]; done) | rfl) ?_
  refine Go.iloadN (pc' := 1) d_method_2_code_0 rfl rfl ?_
  refine Go.ifc (pc' := 8) (pc'' := 4) d_method_2_code_1 (by decide) (by decide) rfl (fun hc_1 => ?_) (fun hc_1 => ?_)
  · have hc_1 : ¬ (p1 = 0) := hc_1
    refine Go.iloadN (pc' := 9) d_method_2_code_8 rfl rfl ?_
    refine Go.iconst (pc' := 10) 1 d_method_2_code_9 rfl rfl ?_
    refine Go.icmp (pc' := 17) (pc'' := 13) d_method_2_code_10 (by decide) (by decide) rfl (fun hc_2 => ?_) (fun hc_2 => ?_)
    · have hc_2 : ¬ (p1 = (1 : Int32)) := hc_2
      refine Go.iloadN (pc' := 18) d_method_2_code_17 rfl rfl ?_
      refine Go.iconst (pc' := 19) 2 d_method_2_code_18 rfl rfl ?_
      refine Go.icmp (pc' := 26) (pc'' := 22) d_method_2_code_19 (by decide) (by decide) rfl (fun hc_3 => ?_) (fun hc_3 => ?_)
      · have hc_3 : ¬ (p1 = (2 : Int32)) := hc_3
        refine Go.iloadN (pc' := 27) d_method_2_code_26 rfl rfl ?_
        refine Go.iconst (pc' := 28) 3 d_method_2_code_27 rfl rfl ?_
        refine Go.icmp (pc' := 35) (pc'' := 31) d_method_2_code_28 (by decide) (by decide) rfl (fun hc_4 => ?_) (fun hc_4 => ?_)
        · have hc_4 : ¬ (p1 = (3 : Int32)) := hc_4
          refine Go.getS (pc' := 38) (host := "") (a1 := a0) d_method_2_code_35 (Or.inl (hw _ (List.mem_of_getElem? (i := 87) rfl))) Via.refl S_END rfl ?_
          refine Go.retA rfl rfl rfl [] (fun _ q => nomatch q) d_method_2_code_38 (by decide) (by decide) ?_
          exact ⟨rfl, Or.inr (Or.inr ⟨hc_3, hc_4, o_END, rfl, n_END, m_END⟩)⟩
        · have hc_4 : p1 = (3 : Int32) := hc_4
          refine Go.getS (pc' := 34) (host := "") (a1 := a0) d_method_2_code_31 (Or.inl (hw _ (List.mem_of_getElem? (i := 73) rfl))) Via.refl S_SYMBOL rfl ?_
          refine Go.retA rfl rfl rfl [] (fun _ q => nomatch q) d_method_2_code_34 (by decide) (by decide) ?_
          exact ⟨rfl, Or.inr (Or.inl ⟨hc_4, rfl⟩)⟩
      · have hc_3 : p1 = (2 : Int32) := hc_3
        refine Go.getS (pc' := 25) (host := "") (a1 := a0) d_method_2_code_22 (Or.inl (hw _ (List.mem_of_getElem? (i := 84) rfl))) Via.refl S_KEYWORD rfl ?_
        refine Go.retA rfl rfl rfl [] (fun _ q => nomatch q) d_method_2_code_25 (by decide) (by decide) ?_
        exact ⟨rfl, Or.inl ⟨hc_3, rfl⟩⟩
    · have hc_2 : p1 = (1 : Int32) := hc_2
      refine Go.getS (pc' := 16) (host := "") (a1 := a0) d_method_2_code_13 (Or.inl (hw _ (List.mem_of_getElem? (i := 85) rfl))) Via.refl S_NUMBER rfl ?_
      refine Go.retA rfl rfl rfl [] (fun _ q => nomatch q) d_method_2_code_16 (by decide) (by decide) ?_
      exact ⟨rfl, Or.inr (Or.inr ⟨(fun q => by rw [hc_2] at q; revert q; decide), (fun q => by rw [hc_2] at q; revert q; decide), o_NUMBER, rfl, n_NUMBER, m_NUMBER⟩)⟩
  · have hc_1 : p1 = 0 := hc_1
    refine Go.getS (pc' := 7) (host := "") (a1 := a0) d_method_2_code_4 (Or.inl (hw _ (List.mem_of_getElem? (i := 5) rfl))) Via.refl S_NAME rfl ?_
    refine Go.retA rfl rfl rfl [] (fun _ q => nomatch q) d_method_2_code_7 (by decide) (by decide) ?_
    exact ⟨rfl, Or.inr (Or.inr ⟨(fun q => by rw [hc_1] at q; revert q; decide), (fun q => by rw [hc_1] at q; revert q; decide), o_NAME, rfl, n_NAME, m_NAME⟩)⟩
def own_mk (n c0 c1 : Int32) : List Int32 := if n = 0 then [] else if n = 1 then [c0.toInt8.toInt32] else [c0.toInt8.toInt32, c1.toInt8.toInt32]
theorem own_mk_len (n c0 c1 : Int32) : (own_mk n c0 c1).length < 2 ^ 31 := by unfold own_mk; split; simp; split <;> simp
theorem d_method_3_code_0 : decode method_3_code 0 = .ok (.iload_n 0, 1) := by decide +kernel
theorem d_method_3_code_1 : decode method_3_code 1 = .ok (.ifCond .ne 14, 3) := by decide +kernel
theorem d_method_3_code_15 : decode method_3_code 15 = .ok (.iload_n 0, 1) := by decide +kernel
theorem d_method_3_code_16 : decode method_3_code 16 = .ok (.iconst 1, 1) := by decide +kernel
theorem d_method_3_code_17 : decode method_3_code 17 = .ok (.if_icmp .ne 20, 3) := by decide +kernel
theorem d_method_3_code_37 : decode method_3_code 37 = .ok (.iconst 2, 1) := by decide +kernel
theorem d_method_3_code_38 : decode method_3_code 38 = .ok (.newarray .char, 2) := by decide +kernel
theorem d_method_3_code_40 : decode method_3_code 40 = .ok (.astore_n 3, 1) := by decide +kernel
theorem d_method_3_code_41 : decode method_3_code 41 = .ok (.aload_n 3, 1) := by decide +kernel
theorem d_method_3_code_42 : decode method_3_code 42 = .ok (.iconst 0, 1) := by decide +kernel
theorem d_method_3_code_43 : decode method_3_code 43 = .ok (.iload_n 1, 1) := by decide +kernel
theorem d_method_3_code_44 : decode method_3_code 44 = .ok (.castore, 1) := by decide +kernel
theorem d_method_3_code_45 : decode method_3_code 45 = .ok (.aload_n 3, 1) := by decide +kernel
theorem d_method_3_code_46 : decode method_3_code 46 = .ok (.iconst 1, 1) := by decide +kernel
theorem d_method_3_code_47 : decode method_3_code 47 = .ok (.iload_n 2, 1) := by decide +kernel
theorem d_method_3_code_48 : decode method_3_code 48 = .ok (.castore, 1) := by decide +kernel
theorem d_method_3_code_49 : decode method_3_code 49 = .ok (.new 25, 3) := by decide +kernel
theorem d_method_3_code_52 : decode method_3_code 52 = .ok (.dup, 1) := by decide +kernel
theorem d_method_3_code_53 : decode method_3_code 53 = .ok (.aload_n 3, 1) := by decide +kernel
theorem pd__28_5bC_29V : parseMethodDescriptor "([C)V" = some ⟨[(.array .char)], none⟩ := by decide +kernel
theorem d_method_3_code_54 : decode method_3_code 54 = .ok (.invokespecial 27, 3) := by decide +kernel
theorem d_method_3_code_57 : decode method_3_code 57 = .ok (.areturn, 1) := by decide +kernel
theorem d_method_3_code_20 : decode method_3_code 20 = .ok (.iconst 1, 1) := by decide +kernel
theorem d_method_3_code_21 : decode method_3_code 21 = .ok (.newarray .char, 2) := by decide +kernel
theorem d_method_3_code_23 : decode method_3_code 23 = .ok (.astore_n 3, 1) := by decide +kernel
theorem d_method_3_code_24 : decode method_3_code 24 = .ok (.aload_n 3, 1) := by decide +kernel
theorem d_method_3_code_25 : decode method_3_code 25 = .ok (.iconst 0, 1) := by decide +kernel
theorem d_method_3_code_26 : decode method_3_code 26 = .ok (.iload_n 1, 1) := by decide +kernel
theorem d_method_3_code_27 : decode method_3_code 27 = .ok (.castore, 1) := by decide +kernel
theorem d_method_3_code_28 : decode method_3_code 28 = .ok (.new 25, 3) := by decide +kernel
theorem d_method_3_code_31 : decode method_3_code 31 = .ok (.dup, 1) := by decide +kernel
theorem d_method_3_code_32 : decode method_3_code 32 = .ok (.aload_n 3, 1) := by decide +kernel
theorem d_method_3_code_33 : decode method_3_code 33 = .ok (.invokespecial 27, 3) := by decide +kernel
theorem d_method_3_code_36 : decode method_3_code 36 = .ok (.areturn, 1) := by decide +kernel
theorem d_method_3_code_4 : decode method_3_code 4 = .ok (.new 25, 3) := by decide +kernel
theorem d_method_3_code_7 : decode method_3_code 7 = .ok (.dup, 1) := by decide +kernel
theorem d_method_3_code_8 : decode method_3_code 8 = .ok (.iconst 0, 1) := by decide +kernel
theorem d_method_3_code_9 : decode method_3_code 9 = .ok (.newarray .char, 2) := by decide +kernel
theorem d_method_3_code_11 : decode method_3_code 11 = .ok (.invokespecial 27, 3) := by decide +kernel
theorem d_method_3_code_14 : decode method_3_code 14 = .ok (.areturn, 1) := by decide +kernel
set_option maxRecDepth 65536 in
set_option maxHeartbeats 40000000 in
theorem ct_mk (l : Launch) (Z : State) (a0 : Array Value) (hw : ∀ d ∈ tables_1, d.before a0 Z = true) (n0 : Nat) (h0 : Heap) (p1 c0 c1 : Int32) (hb_c0 : ¬ 255 < c0) (hb_c1 : ¬ 255 < c1) (hg_c0 : nar .char c0 = c0) (hg_c1 : nar .char c1 = c1) (hn0 : n0 ≤ h0.size) (cs : Int32) (S_cs : Sta Z h0 "java/lang/String" "COMPACT_STRINGS" "Z" (.int cs)) (hcs : ¬ cs = 0) :
    Ct l Z (⟨"com/example/relations_into_instances/relationsintoinstances/parse/TokenIsPinLaw", "mk", "(ICC)Ljava/lang/String;"⟩ : MethodName) method_3_code 4 (some (.object "java/lang/String")) ({ frames := 4, cells := 6, slots := 12, locals := 66 } : Room) EL1 n0 true [] #[(.int p1), (.int c0), (.int c1)] h0 [] (fun v h N => ∃ a b kb, v = some (.ref a) ∧ h0.size ≤ a ∧ a < h.size ∧ Keep h0 h [] ∧ Exa Z h a "java/lang/String" ∧ Fld Z h a "java/lang/String" "coder" "B" (.int (0 : Int32)) ∧ Fld Z h a "java/lang/String" "value" "[B" (.ref b) ∧ Arv Z h b kb .byte (Int32.ofNat (own_mk p1 c0 c1).length) ((own_mk p1 c0 c1).map Value.int) (.int 0)) := by
  refine Ct.of (a0 := a0) (plainFor_of_name pn_com_example_relations_into_instances_relationsintoinstances_parse_TokenIsPinLaw) (own_ew hw) (L0 := #[.val (.int p1), .val (.int c0), .val (.int c1), .unset]) (fun m => by first | (simp [entryFrame, mkF, argsToLocals, Value.category]; done) | rfl) ?_
  refine Go.iloadN (pc' := 1) d_method_3_code_0 rfl rfl ?_
  refine Go.ifc (pc' := 15) (pc'' := 4) d_method_3_code_1 (by decide) (by decide) rfl (fun hc_1 => ?_) (fun hc_1 => ?_)
  · have hc_1 : ¬ (p1 = 0) := hc_1
    refine Go.iloadN (pc' := 16) d_method_3_code_15 rfl rfl ?_
    refine Go.iconst (pc' := 17) 1 d_method_3_code_16 rfl rfl ?_
    refine Go.icmp (pc' := 37) (pc'' := 20) d_method_3_code_17 (by decide) (by decide) rfl (fun hc_2 => ?_) (fun hc_2 => ?_)
    · have hc_2 : ¬ (p1 = (1 : Int32)) := hc_2
      refine Go.iconst (pc' := 38) 2 d_method_3_code_37 rfl rfl ?_
      refine Go.newPV (pc' := 40) (a1 := a0) 2 [(.int (0 : Int32)), (.int (0 : Int32))] d_method_3_code_38 (hw _ (List.mem_of_getElem? (i := 14) rfl)) (by decide) (by decide) (by decide) (by decide) (by decide) rfl rfl (fun a_3 h_4 cA_5 ha_6 E_7 A_8 => ?_)
      have szh_4 : h0.size ≤ h_4.size := E_7.1
      have lta_3 := nlt A_8.lt
      have qa_3 := neq ha_6
      have F_9 : Arv Z h_4 a_3 cA_5 .char (2 : Int32) [(.int (0 : Int32)), (.int (0 : Int32))] (.int 0) := A_8
      refine Go.astoreN (pc' := 41) #[.val (.int p1), .val (.int c0), .val (.int c1), .val (.ref a_3)] d_method_3_code_40 rfl rfl rfl ?_
      refine Go.aloadN (pc' := 42) d_method_3_code_41 rfl rfl rfl ?_
      refine Go.iconst (pc' := 43) 0 d_method_3_code_42 rfl rfl ?_
      refine Go.iloadN (pc' := 44) d_method_3_code_43 rfl rfl ?_
      refine Go.castoreV (pc' := 45) 0 d_method_3_code_44 F_9 (by decide) rfl (show 0 < 2 by decide) (by omega) rfl (fun h_10 W_11 A_12 => ?_)
      have szh_10 : h_10.size = h_4.size := Wr.size W_11
      have F_13 : Arv Z h_10 a_3 cA_5 .char (2 : Int32) [(.int c0), (.int (0 : Int32))] (.int 0) := by have q := A_12; rw [hg_c0] at q; exact q
      refine Go.aloadN (pc' := 46) d_method_3_code_45 rfl rfl rfl ?_
      refine Go.iconst (pc' := 47) 1 d_method_3_code_46 rfl rfl ?_
      refine Go.iloadN (pc' := 48) d_method_3_code_47 rfl rfl ?_
      refine Go.castoreV (pc' := 49) 1 d_method_3_code_48 F_13 (by decide) rfl (show 1 < 2 by decide) (by omega) rfl (fun h_14 W_15 A_16 => ?_)
      have szh_14 : h_14.size = h_10.size := Wr.size W_15
      have F_17 : Arv Z h_14 a_3 cA_5 .char (2 : Int32) [(.int c0), (.int c1)] (.int 0) := by have q := A_16; rw [hg_c1] at q; exact q
      refine Go.newO (pc' := 52) (a1 := a0) d_method_3_code_49 (hw _ (List.mem_of_getElem? (i := 11) rfl)) (hw _ (List.mem_of_getElem? (i := 12) rfl)) (hw _ (List.mem_of_getElem? (i := 13) rfl)) (by decide) (by decide) rfl (fun a_18 h_19 ha_21 E_20 X_22 Df_23 => ?_)
      have szh_19 : h_14.size ≤ h_19.size := E_20.1
      have lta_18 := nlt X_22.lt
      have qa_18 := neq ha_21
      have F_24 : Fld Z h_19 a_18 "java/lang/String" "value" "[B" (.null) := Df_23 (Or.inr (hw _ (List.mem_of_getElem? (i := 27) rfl))) (ty := (.array .byte)) (by decide)
      have F_25 : Fld Z h_19 a_18 "java/lang/String" "coder" "B" (.int (0 : Int32)) := Df_23 (Or.inr (hw _ (List.mem_of_getElem? (i := 28) rfl))) (ty := .byte) (by decide)
      refine Go.dup (pc' := 53) d_method_3_code_52 rfl rfl ?_
      refine Go.aloadN (pc' := 54) d_method_3_code_53 rfl rfl rfl ?_
      have F_35 : Arv Z h_19 a_3 cA_5 .char (2 : Int32) [(.int c0), (.int c1)] (.int 0) := (Arv.ext F_17 E_20)
      have F_36 : Sta Z h_19 "java/lang/String" "COMPACT_STRINGS" "Z" (.int cs) := (Sta.ext E_20 (Sta.wr W_15 (Sta.wr W_11 (Sta.ext E_7 S_cs))))
      refine Go.callN (a1 := a0) (pc' := 57) (argsL := [(.ref a_3)]) (rest := [(.ref a_18)]) (ct_si1_2 l Z a0 hw n0 h_19 a_18 (by omega) X_22 F_24 F_25 a_3 cA_5 c0 c1 F_35 hb_c0 hb_c1 cs F_36 hcs) d_method_3_code_54 rfl (hw _ (List.mem_of_getElem? (i := 15) rfl)) (hw _ (List.mem_of_getElem? (i := 16) rfl)) (hw _ (List.mem_of_getElem? (i := 13) rfl)) (hw _ (List.mem_of_getElem? (i := 17) rfl)) (by decide) (lenOf pd__28_5bC_29V rfl) rfl 1 rfl rfl (by decide) (by decide) (by decide) (by decide) (by intro x hx; simp only [List.mem_cons, List.not_mem_nil, or_false] at hx; rcases hx with rfl; all_goals simp) rfl (fun v_37 h_38 N_39 hQ_40 hle_41 => ?_)
      obtain ⟨rfl, b_26, kb_27, g_28, g_29, K_30, X_31, F_32, F_33, A_34⟩ := hQ_40
      have szh_38 : h_19.size ≤ h_38.size := K_30.1
      have ltb_26 := nlt g_29
      refine Go.re (pc' := 57) (L' := #[.val (.int p1), .val (.int c0), .val (.int c1), .val (.ref a_3)]) (S' := [(.ref a_18)]) rfl rfl rfl ?_
      refine Go.retA rfl rfl rfl [] (fun _ q => nomatch q) d_method_3_code_57 (by decide) (by decide) ?_
      have el : own_mk p1 c0 c1 = [(c0).toInt8.toInt32, (c1).toInt8.toInt32] := by simp [own_mk, hc_1, hc_2]
      refine ⟨a_18, b_26, kb_27, rfl, by omega, X_31.lt, (Keep.trans (Keep.ext (Keep.wr (Keep.wr (Keep.ext (Keep.refl _ []) E_7) W_11 (Or.inr (by omega))) W_15 (Or.inr (by omega))) E_20) K_30 (allS (Or.inr (by omega)) all0)), X_31, F_32, F_33, ?_⟩
      rw [el]; exact A_34
    · have hc_2 : p1 = (1 : Int32) := hc_2
      refine Go.iconst (pc' := 21) 1 d_method_3_code_20 rfl rfl ?_
      refine Go.newPV (pc' := 23) (a1 := a0) 1 [(.int (0 : Int32))] d_method_3_code_21 (hw _ (List.mem_of_getElem? (i := 14) rfl)) (by decide) (by decide) (by decide) (by decide) (by decide) rfl rfl (fun a_42 h_43 cA_44 ha_45 E_46 A_47 => ?_)
      have szh_43 : h0.size ≤ h_43.size := E_46.1
      have lta_42 := nlt A_47.lt
      have qa_42 := neq ha_45
      have F_48 : Arv Z h_43 a_42 cA_44 .char (1 : Int32) [(.int (0 : Int32))] (.int 0) := A_47
      refine Go.astoreN (pc' := 24) #[.val (.int p1), .val (.int c0), .val (.int c1), .val (.ref a_42)] d_method_3_code_23 rfl rfl rfl ?_
      refine Go.aloadN (pc' := 25) d_method_3_code_24 rfl rfl rfl ?_
      refine Go.iconst (pc' := 26) 0 d_method_3_code_25 rfl rfl ?_
      refine Go.iloadN (pc' := 27) d_method_3_code_26 rfl rfl ?_
      refine Go.castoreV (pc' := 28) 0 d_method_3_code_27 F_48 (by decide) rfl (show 0 < 1 by decide) (by omega) rfl (fun h_49 W_50 A_51 => ?_)
      have szh_49 : h_49.size = h_43.size := Wr.size W_50
      have F_52 : Arv Z h_49 a_42 cA_44 .char (1 : Int32) [(.int c0)] (.int 0) := by have q := A_51; rw [hg_c0] at q; exact q
      refine Go.newO (pc' := 31) (a1 := a0) d_method_3_code_28 (hw _ (List.mem_of_getElem? (i := 11) rfl)) (hw _ (List.mem_of_getElem? (i := 12) rfl)) (hw _ (List.mem_of_getElem? (i := 13) rfl)) (by decide) (by decide) rfl (fun a_53 h_54 ha_56 E_55 X_57 Df_58 => ?_)
      have szh_54 : h_49.size ≤ h_54.size := E_55.1
      have lta_53 := nlt X_57.lt
      have qa_53 := neq ha_56
      have F_59 : Fld Z h_54 a_53 "java/lang/String" "value" "[B" (.null) := Df_58 (Or.inr (hw _ (List.mem_of_getElem? (i := 27) rfl))) (ty := (.array .byte)) (by decide)
      have F_60 : Fld Z h_54 a_53 "java/lang/String" "coder" "B" (.int (0 : Int32)) := Df_58 (Or.inr (hw _ (List.mem_of_getElem? (i := 28) rfl))) (ty := .byte) (by decide)
      refine Go.dup (pc' := 32) d_method_3_code_31 rfl rfl ?_
      refine Go.aloadN (pc' := 33) d_method_3_code_32 rfl rfl rfl ?_
      have F_70 : Arv Z h_54 a_42 cA_44 .char (1 : Int32) [(.int c0)] (.int 0) := (Arv.ext F_52 E_55)
      have F_71 : Sta Z h_54 "java/lang/String" "COMPACT_STRINGS" "Z" (.int cs) := (Sta.ext E_55 (Sta.wr W_50 (Sta.ext E_46 S_cs)))
      refine Go.callN (a1 := a0) (pc' := 36) (argsL := [(.ref a_42)]) (rest := [(.ref a_53)]) (ct_si1_1 l Z a0 hw n0 h_54 a_53 (by omega) X_57 F_59 F_60 a_42 cA_44 c0 F_70 hb_c0 cs F_71 hcs) d_method_3_code_33 rfl (hw _ (List.mem_of_getElem? (i := 15) rfl)) (hw _ (List.mem_of_getElem? (i := 16) rfl)) (hw _ (List.mem_of_getElem? (i := 13) rfl)) (hw _ (List.mem_of_getElem? (i := 17) rfl)) (by decide) (lenOf pd__28_5bC_29V rfl) rfl 1 rfl rfl (by decide) (by decide) (by decide) (by decide) (by intro x hx; simp only [List.mem_cons, List.not_mem_nil, or_false] at hx; rcases hx with rfl; all_goals simp) rfl (fun v_72 h_73 N_74 hQ_75 hle_76 => ?_)
      obtain ⟨rfl, b_61, kb_62, g_63, g_64, K_65, X_66, F_67, F_68, A_69⟩ := hQ_75
      have szh_73 : h_54.size ≤ h_73.size := K_65.1
      have ltb_61 := nlt g_64
      refine Go.re (pc' := 36) (L' := #[.val (.int p1), .val (.int c0), .val (.int c1), .val (.ref a_42)]) (S' := [(.ref a_53)]) rfl rfl rfl ?_
      refine Go.retA rfl rfl rfl [] (fun _ q => nomatch q) d_method_3_code_36 (by decide) (by decide) ?_
      have el : own_mk p1 c0 c1 = [(c0).toInt8.toInt32] := by simp [own_mk, hc_2]
      refine ⟨a_53, b_61, kb_62, rfl, by omega, X_66.lt, (Keep.trans (Keep.ext (Keep.wr (Keep.ext (Keep.refl _ []) E_46) W_50 (Or.inr (by omega))) E_55) K_65 (allS (Or.inr (by omega)) all0)), X_66, F_67, F_68, ?_⟩
      rw [el]; exact A_69
  · have hc_1 : p1 = 0 := hc_1
    refine Go.newO (pc' := 7) (a1 := a0) d_method_3_code_4 (hw _ (List.mem_of_getElem? (i := 11) rfl)) (hw _ (List.mem_of_getElem? (i := 12) rfl)) (hw _ (List.mem_of_getElem? (i := 13) rfl)) (by decide) (by decide) rfl (fun a_77 h_78 ha_80 E_79 X_81 Df_82 => ?_)
    have szh_78 : h0.size ≤ h_78.size := E_79.1
    have lta_77 := nlt X_81.lt
    have qa_77 := neq ha_80
    have F_83 : Fld Z h_78 a_77 "java/lang/String" "value" "[B" (.null) := Df_82 (Or.inr (hw _ (List.mem_of_getElem? (i := 27) rfl))) (ty := (.array .byte)) (by decide)
    have F_84 : Fld Z h_78 a_77 "java/lang/String" "coder" "B" (.int (0 : Int32)) := Df_82 (Or.inr (hw _ (List.mem_of_getElem? (i := 28) rfl))) (ty := .byte) (by decide)
    refine Go.dup (pc' := 8) d_method_3_code_7 rfl rfl ?_
    refine Go.iconst (pc' := 9) 0 d_method_3_code_8 rfl rfl ?_
    refine Go.newPV (pc' := 11) (a1 := a0) 0 [] d_method_3_code_9 (hw _ (List.mem_of_getElem? (i := 14) rfl)) (by decide) (by decide) (by decide) (by decide) (by decide) rfl rfl (fun a_85 h_86 cA_87 ha_88 E_89 A_90 => ?_)
    have szh_86 : h_78.size ≤ h_86.size := E_89.1
    have lta_85 := nlt A_90.lt
    have qa_85 := neq ha_88
    have F_91 : Arv Z h_86 a_85 cA_87 .char (0 : Int32) [] (.int 0) := A_90
    have F_100 : Exa Z h_86 a_77 "java/lang/String" := (Exa.ext E_89 X_81)
    have F_101 : Fld Z h_86 a_77 "java/lang/String" "value" "[B" (.null) := (Fld.ext E_89 F_83)
    have F_102 : Fld Z h_86 a_77 "java/lang/String" "coder" "B" (.int (0 : Int32)) := (Fld.ext E_89 F_84)
    refine Go.callN (a1 := a0) (pc' := 14) (argsL := [(.ref a_85)]) (rest := [(.ref a_77)]) (ct_si1_0 l Z a0 hw n0 h_86 a_77 (by omega) F_100 F_101 F_102 a_85 cA_87 F_91) d_method_3_code_11 rfl (hw _ (List.mem_of_getElem? (i := 15) rfl)) (hw _ (List.mem_of_getElem? (i := 16) rfl)) (hw _ (List.mem_of_getElem? (i := 13) rfl)) (hw _ (List.mem_of_getElem? (i := 17) rfl)) (by decide) (lenOf pd__28_5bC_29V rfl) rfl 1 rfl rfl (by decide) (by decide) (by decide) (by decide) (by intro x hx; simp only [List.mem_cons, List.not_mem_nil, or_false] at hx; rcases hx with rfl; all_goals simp) rfl (fun v_103 h_104 N_105 hQ_106 hle_107 => ?_)
    obtain ⟨rfl, b_92, kb_93, g_94, K_95, X_96, F_97, F_98, A_99⟩ := hQ_106
    have szh_104 : h_86.size ≤ h_104.size := K_95.1
    have ltb_92 := nlt g_94
    refine Go.re (pc' := 14) (L' := #[.val (.int p1), .val (.int c0), .val (.int c1), .unset]) (S' := [(.ref a_77)]) rfl rfl rfl ?_
    refine Go.retA rfl rfl rfl [] (fun _ q => nomatch q) d_method_3_code_14 (by decide) (by decide) ?_
    have el : own_mk p1 c0 c1 = [] := by simp [own_mk, hc_1]
    refine ⟨a_77, b_92, kb_93, rfl, by omega, X_96.lt, (Keep.trans (Keep.ext (Keep.ext (Keep.refl _ []) E_79) E_89) K_95 (allS (Or.inr (by omega)) all0)), X_96, F_97, F_98, ?_⟩
    rw [el]; exact A_99
theorem pn_com_example_relations_into_instances_relationsintoinstances_parse_Token : plainName "com/example/relations_into_instances/relationsintoinstances/parse/Token" = true := by first | (simp [plainName, overriddenIn]; done) | decide +kernel
theorem d_prog_44_method_1_code_0 : decode prog_44_method_1_code 0 = .ok (.aload_n 0, 1) := by decide +kernel
theorem pd__28_29V : parseMethodDescriptor "()V" = some ⟨[], none⟩ := by decide +kernel
theorem d_prog_44_method_1_code_1 : decode prog_44_method_1_code 1 = .ok (.invokespecial 1, 3) := by decide +kernel
theorem d_prog_44_method_1_code_4 : decode prog_44_method_1_code 4 = .ok (.aload_n 0, 1) := by decide +kernel
theorem d_prog_44_method_1_code_5 : decode prog_44_method_1_code 5 = .ok (.aload_n 1, 1) := by decide +kernel
theorem d_prog_44_method_1_code_6 : decode prog_44_method_1_code 6 = .ok (.putfield 7, 3) := by decide +kernel
theorem d_prog_44_method_1_code_9 : decode prog_44_method_1_code 9 = .ok (.aload_n 0, 1) := by decide +kernel
theorem d_prog_44_method_1_code_10 : decode prog_44_method_1_code 10 = .ok (.aload_n 2, 1) := by decide +kernel
theorem d_prog_44_method_1_code_11 : decode prog_44_method_1_code 11 = .ok (.putfield 13, 3) := by decide +kernel
theorem d_prog_44_method_1_code_14 : decode prog_44_method_1_code 14 = .ok (.aload_n 0, 1) := by decide +kernel
theorem d_prog_44_method_1_code_15 : decode prog_44_method_1_code 15 = .ok (.iload_n 3, 1) := by decide +kernel
theorem d_prog_44_method_1_code_16 : decode prog_44_method_1_code 16 = .ok (.putfield 17, 3) := by decide +kernel
theorem d_prog_44_method_1_code_19 : decode prog_44_method_1_code 19 = .ok (.aload_n 0, 1) := by decide +kernel
theorem d_prog_44_method_1_code_20 : decode prog_44_method_1_code 20 = .ok (.iload 4, 2) := by decide +kernel
theorem d_prog_44_method_1_code_22 : decode prog_44_method_1_code 22 = .ok (.putfield 21, 3) := by decide +kernel
theorem d_prog_44_method_1_code_25 : decode prog_44_method_1_code 25 = .ok (.return_, 1) := by decide +kernel
set_option maxRecDepth 65536 in
set_option maxHeartbeats 40000000 in
theorem ct_tok (l : Launch) (Z : State) (a0 : Array Value) (hw : ∀ d ∈ tables_1, d.before a0 Z = true) (n0 : Nat) (h0 : Heap) (a1 r1 s1 : Addr) (p3 p4 : Int32) (ha1 : n0 ≤ a1) (E1 : Exa Z h0 a1 "com/example/relations_into_instances/relationsintoinstances/parse/Token") (G0 : Fld Z h0 a1 "com/example/relations_into_instances/relationsintoinstances/parse/Token" "kind" "Lcom/example/relations_into_instances/relationsintoinstances/parse/Token$Kind;" (.null)) (G1 : Fld Z h0 a1 "com/example/relations_into_instances/relationsintoinstances/parse/Token" "text" "Ljava/lang/String;" (.null)) (G2 : Fld Z h0 a1 "com/example/relations_into_instances/relationsintoinstances/parse/Token" "line" "I" (.int (0 : Int32))) (G3 : Fld Z h0 a1 "com/example/relations_into_instances/relationsintoinstances/parse/Token" "column" "I" (.int (0 : Int32))) :
    Ct l Z (⟨"com/example/relations_into_instances/relationsintoinstances/parse/Token", "<init>", "(Lcom/example/relations_into_instances/relationsintoinstances/parse/Token$Kind;Ljava/lang/String;II)V"⟩ : MethodName) prog_44_method_1_code 5 none ({ frames := 2, cells := 0, slots := 0, locals := 24 } : Room) EL1 n0 true [] #[(.ref a1), (.ref r1), (.ref s1), (.int p3), (.int p4)] h0 [] (fun v h N => v = none ∧ Keep h0 h [a1] ∧ Exa Z h a1 "com/example/relations_into_instances/relationsintoinstances/parse/Token" ∧ Fld Z h a1 "com/example/relations_into_instances/relationsintoinstances/parse/Token" "kind" "Lcom/example/relations_into_instances/relationsintoinstances/parse/Token$Kind;" (.ref r1) ∧ Fld Z h a1 "com/example/relations_into_instances/relationsintoinstances/parse/Token" "text" "Ljava/lang/String;" (.ref s1)) := by
  refine Ct.of (a0 := a0) (plainFor_of_name pn_com_example_relations_into_instances_relationsintoinstances_parse_Token) (own_ew hw) (L0 := #[.val (.ref a1), .val (.ref r1), .val (.ref s1), .val (.int p3), .val (.int p4)]) (fun m => by first | (simp [entryFrame, mkF, argsToLocals, Value.category]; done) | rfl) ?_
  have lta1 := nlt E1.lt
  have l0_E1 := nlt E1.lt
  refine Go.aloadN (pc' := 1) d_prog_44_method_1_code_0 rfl rfl rfl ?_
  refine Go.callN (a1 := a0) (pc' := 4) (argsL := []) (rest := []) (ct_record l Z a0 hw n0 h0 a1) d_prog_44_method_1_code_1 rfl (hw _ (List.mem_of_getElem? (i := 50) rfl)) (hw _ (List.mem_of_getElem? (i := 51) rfl)) (hw _ (List.mem_of_getElem? (i := 53) rfl)) (hw _ (List.mem_of_getElem? (i := 54) rfl)) (by decide) (lenOf pd__28_29V rfl) rfl 0 rfl rfl (by decide) (by decide) (by decide) (by decide) (fun _ q => nomatch q) rfl (fun v_1 h_2 N_3 hQ_4 hle_5 => ?_)
  obtain ⟨rfl, rfl⟩ := hQ_4
  refine Go.re (pc' := 4) (L' := #[.val (.ref a1), .val (.ref r1), .val (.ref s1), .val (.int p3), .val (.int p4)]) (S' := []) rfl rfl rfl ?_
  refine Go.aloadN (pc' := 5) d_prog_44_method_1_code_4 rfl rfl rfl ?_
  refine Go.aloadN (pc' := 6) d_prog_44_method_1_code_5 rfl rfl rfl ?_
  refine Go.putF (pc' := 9) (host := "") (a1 := a0) d_prog_44_method_1_code_6 (Or.inl (hw _ (List.mem_of_getElem? (i := 56) rfl))) Via.refl G0 E1 (Or.inr ⟨(hw _ (List.mem_of_getElem? (i := 57) rfl)), rfl, rfl⟩) (hw _ (List.mem_of_getElem? (i := 45) rfl)) (ty := (.object "com/example/relations_into_instances/relationsintoinstances/parse/Token$Kind")) (by decide) rfl rfl (Sf.exa E1 (by decide) (by decide)) (by omega) rfl (fun h_6 W_7 => ?_)
  have szh_6 : h_6.size = h0.size := Wr.size W_7
  have F_8 : Fld Z h_6 a1 "com/example/relations_into_instances/relationsintoinstances/parse/Token" "kind" "Lcom/example/relations_into_instances/relationsintoinstances/parse/Token$Kind;" (.ref r1) := Fld.same W_7 G0
  refine Go.aloadN (pc' := 10) d_prog_44_method_1_code_9 rfl rfl rfl ?_
  refine Go.aloadN (pc' := 11) d_prog_44_method_1_code_10 rfl rfl rfl ?_
  have F_9 : Fld Z h_6 a1 "com/example/relations_into_instances/relationsintoinstances/parse/Token" "text" "Ljava/lang/String;" (.null) := (Fld.other W_7 G1 (Or.inr (slot_ne (Or.inr (hw _ (List.mem_of_getElem? (i := 59) rfl))) (Or.inr (hw _ (List.mem_of_getElem? (i := 57) rfl))) (by decide) (t := (.object "java/lang/String")) (t' := (.object "com/example/relations_into_instances/relationsintoinstances/parse/Token$Kind")) (by decide) (by decide))))
  have F_10 : Exa Z h_6 a1 "com/example/relations_into_instances/relationsintoinstances/parse/Token" := (Exa.wr W_7 E1)
  refine Go.putF (pc' := 14) (host := "") (a1 := a0) d_prog_44_method_1_code_11 (Or.inl (hw _ (List.mem_of_getElem? (i := 58) rfl))) Via.refl F_9 F_10 (Or.inr ⟨(hw _ (List.mem_of_getElem? (i := 59) rfl)), rfl, rfl⟩) (hw _ (List.mem_of_getElem? (i := 45) rfl)) (ty := (.object "java/lang/String")) (by decide) rfl rfl (Sf.exa F_10 (by decide) (by decide)) (by omega) rfl (fun h_11 W_12 => ?_)
  have szh_11 : h_11.size = h_6.size := Wr.size W_12
  have F_13 : Fld Z h_11 a1 "com/example/relations_into_instances/relationsintoinstances/parse/Token" "text" "Ljava/lang/String;" (.ref s1) := Fld.same W_12 F_9
  refine Go.aloadN (pc' := 15) d_prog_44_method_1_code_14 rfl rfl rfl ?_
  refine Go.iloadN (pc' := 16) d_prog_44_method_1_code_15 rfl rfl ?_
  have F_14 : Fld Z h_11 a1 "com/example/relations_into_instances/relationsintoinstances/parse/Token" "line" "I" (.int (0 : Int32)) := (Fld.other W_12 (Fld.other W_7 G2 (Or.inr (slot_ne (Or.inr (hw _ (List.mem_of_getElem? (i := 61) rfl))) (Or.inr (hw _ (List.mem_of_getElem? (i := 57) rfl))) (by decide) (t := .int) (t' := (.object "com/example/relations_into_instances/relationsintoinstances/parse/Token$Kind")) (by decide) (by decide)))) (Or.inr (slot_ne (Or.inr (hw _ (List.mem_of_getElem? (i := 61) rfl))) (Or.inr (hw _ (List.mem_of_getElem? (i := 59) rfl))) (by decide) (t := .int) (t' := (.object "java/lang/String")) (by decide) (by decide))))
  have F_15 : Exa Z h_11 a1 "com/example/relations_into_instances/relationsintoinstances/parse/Token" := (Exa.wr W_12 F_10)
  refine Go.putF (pc' := 19) (host := "") (a1 := a0) d_prog_44_method_1_code_16 (Or.inl (hw _ (List.mem_of_getElem? (i := 60) rfl))) Via.refl F_14 F_15 (Or.inr ⟨(hw _ (List.mem_of_getElem? (i := 61) rfl)), rfl, rfl⟩) (hw _ (List.mem_of_getElem? (i := 45) rfl)) (ty := .int) (by decide) rfl rfl (Sf.exa F_15 (by decide) (by decide)) (by omega) rfl (fun h_16 W_17 => ?_)
  have szh_16 : h_16.size = h_11.size := Wr.size W_17
  have F_18 : Fld Z h_16 a1 "com/example/relations_into_instances/relationsintoinstances/parse/Token" "line" "I" (.int p3) := Fld.same W_17 F_14
  refine Go.aloadN (pc' := 20) d_prog_44_method_1_code_19 rfl rfl rfl ?_
  refine Go.iload (pc' := 22) d_prog_44_method_1_code_20 rfl rfl ?_
  have F_19 : Fld Z h_16 a1 "com/example/relations_into_instances/relationsintoinstances/parse/Token" "column" "I" (.int (0 : Int32)) := (Fld.other W_17 (Fld.other W_12 (Fld.other W_7 G3 (Or.inr (slot_ne (Or.inr (hw _ (List.mem_of_getElem? (i := 63) rfl))) (Or.inr (hw _ (List.mem_of_getElem? (i := 57) rfl))) (by decide) (t := .int) (t' := (.object "com/example/relations_into_instances/relationsintoinstances/parse/Token$Kind")) (by decide) (by decide)))) (Or.inr (slot_ne (Or.inr (hw _ (List.mem_of_getElem? (i := 63) rfl))) (Or.inr (hw _ (List.mem_of_getElem? (i := 59) rfl))) (by decide) (t := .int) (t' := (.object "java/lang/String")) (by decide) (by decide)))) (Or.inr (slot_ne (Or.inr (hw _ (List.mem_of_getElem? (i := 63) rfl))) (Or.inr (hw _ (List.mem_of_getElem? (i := 61) rfl))) (by decide) (t := .int) (t' := .int) (by decide) (by decide))))
  have F_20 : Exa Z h_16 a1 "com/example/relations_into_instances/relationsintoinstances/parse/Token" := (Exa.wr W_17 F_15)
  refine Go.putF (pc' := 25) (host := "") (a1 := a0) d_prog_44_method_1_code_22 (Or.inl (hw _ (List.mem_of_getElem? (i := 62) rfl))) Via.refl F_19 F_20 (Or.inr ⟨(hw _ (List.mem_of_getElem? (i := 63) rfl)), rfl, rfl⟩) (hw _ (List.mem_of_getElem? (i := 45) rfl)) (ty := .int) (by decide) rfl rfl (Sf.exa F_20 (by decide) (by decide)) (by omega) rfl (fun h_21 W_22 => ?_)
  have szh_21 : h_21.size = h_16.size := Wr.size W_22
  have F_23 : Fld Z h_21 a1 "com/example/relations_into_instances/relationsintoinstances/parse/Token" "column" "I" (.int p4) := Fld.same W_22 F_19
  have F_24 : Exa Z h_21 a1 "com/example/relations_into_instances/relationsintoinstances/parse/Token" := (Exa.wr W_22 F_20)
  have F_25 : Fld Z h_21 a1 "com/example/relations_into_instances/relationsintoinstances/parse/Token" "kind" "Lcom/example/relations_into_instances/relationsintoinstances/parse/Token$Kind;" (.ref r1) := (Fld.other W_22 (Fld.other W_17 (Fld.other W_12 F_8 (Or.inr (slot_ne (Or.inr (hw _ (List.mem_of_getElem? (i := 57) rfl))) (Or.inr (hw _ (List.mem_of_getElem? (i := 59) rfl))) (by decide) (t := (.object "com/example/relations_into_instances/relationsintoinstances/parse/Token$Kind")) (t' := (.object "java/lang/String")) (by decide) (by decide)))) (Or.inr (slot_ne (Or.inr (hw _ (List.mem_of_getElem? (i := 57) rfl))) (Or.inr (hw _ (List.mem_of_getElem? (i := 61) rfl))) (by decide) (t := (.object "com/example/relations_into_instances/relationsintoinstances/parse/Token$Kind")) (t' := .int) (by decide) (by decide)))) (Or.inr (slot_ne (Or.inr (hw _ (List.mem_of_getElem? (i := 57) rfl))) (Or.inr (hw _ (List.mem_of_getElem? (i := 63) rfl))) (by decide) (t := (.object "com/example/relations_into_instances/relationsintoinstances/parse/Token$Kind")) (t' := .int) (by decide) (by decide))))
  have F_26 : Fld Z h_21 a1 "com/example/relations_into_instances/relationsintoinstances/parse/Token" "text" "Ljava/lang/String;" (.ref s1) := (Fld.other W_22 (Fld.other W_17 F_13 (Or.inr (slot_ne (Or.inr (hw _ (List.mem_of_getElem? (i := 59) rfl))) (Or.inr (hw _ (List.mem_of_getElem? (i := 61) rfl))) (by decide) (t := (.object "java/lang/String")) (t' := .int) (by decide) (by decide)))) (Or.inr (slot_ne (Or.inr (hw _ (List.mem_of_getElem? (i := 59) rfl))) (Or.inr (hw _ (List.mem_of_getElem? (i := 63) rfl))) (by decide) (t := (.object "java/lang/String")) (t' := .int) (by decide) (by decide))))
  refine Go.ret0 rfl [] (fun _ q => nomatch q) d_prog_44_method_1_code_25 (by decide) (by decide) ?_
  exact ⟨rfl, (Keep.wr (Keep.wr (Keep.wr (Keep.wr (Keep.refl _ [a1]) W_7 (Or.inl (by simp))) W_12 (Or.inl (by simp))) W_17 (Or.inl (by simp))) W_22 (Or.inl (by simp))), F_24, F_25, F_26⟩
theorem d_prog_44_method_2_code_0 : decode prog_44_method_2_code 0 = .ok (.aload_n 0, 1) := by decide +kernel
theorem d_prog_44_method_2_code_1 : decode prog_44_method_2_code 1 = .ok (.getfield 7, 3) := by decide +kernel
theorem d_prog_44_method_2_code_4 : decode prog_44_method_2_code 4 = .ok (.getstatic 24, 3) := by decide +kernel
theorem d_prog_44_method_2_code_7 : decode prog_44_method_2_code 7 = .ok (.if_acmp .eq 13, 3) := by decide +kernel
theorem d_prog_44_method_2_code_20 : decode prog_44_method_2_code 20 = .ok (.aload_n 0, 1) := by decide +kernel
theorem d_prog_44_method_2_code_21 : decode prog_44_method_2_code 21 = .ok (.getfield 13, 3) := by decide +kernel
theorem d_prog_44_method_2_code_24 : decode prog_44_method_2_code 24 = .ok (.aload_n 1, 1) := by decide +kernel
theorem pd__28Ljava_2flang_2fObject_3b_29Z : parseMethodDescriptor "(Ljava/lang/Object;)Z" = some ⟨[(.object "java/lang/Object")], (some .boolean)⟩ := by decide +kernel
theorem d_prog_44_method_2_code_25 : decode prog_44_method_2_code 25 = .ok (.invokevirtual 32, 3) := by decide +kernel
theorem d_prog_44_method_2_code_28 : decode prog_44_method_2_code 28 = .ok (.ifCond .eq 7, 3) := by decide +kernel
theorem d_prog_44_method_2_code_35 : decode prog_44_method_2_code 35 = .ok (.iconst 0, 1) := by decide +kernel
theorem d_prog_44_method_2_code_36 : decode prog_44_method_2_code 36 = .ok (.ireturn, 1) := by decide +kernel
theorem d_prog_44_method_2_code_31 : decode prog_44_method_2_code 31 = .ok (.iconst 1, 1) := by decide +kernel
theorem d_prog_44_method_2_code_32 : decode prog_44_method_2_code 32 = .ok (.goto 4, 3) := by decide +kernel
set_option maxRecDepth 65536 in
set_option maxHeartbeats 40000000 in
theorem ct_isK (l : Launch) (Z : State) (a0 : Array Value) (hw : ∀ d ∈ tables_1, d.before a0 Z = true) (n0 : Nat) (h0 : Heap) (a1 s1 s2 b1 b2 : Addr) (k1 k2 : ClassId) (l1 l2 : List Int32) (hl1 : l1.length < 2 ^ 31) (hl2 : l2.length < 2 ^ 31) (hss : s1 ≠ s2) (cs : Int32) (S_cs : Sta Z h0 "java/lang/String" "COMPACT_STRINGS" "Z" (.int cs)) (hcs : ¬ cs = 0) (E1 : Exa Z h0 s1 "java/lang/String") (FC1 : Fld Z h0 s1 "java/lang/String" "coder" "B" (.int (0 : Int32))) (FV1 : Fld Z h0 s1 "java/lang/String" "value" "[B" (.ref b1)) (AV1 : Arv Z h0 b1 k1 .byte (Int32.ofNat l1.length) (l1.map Value.int) (.int 0)) (E2 : Exa Z h0 s2 "java/lang/String") (FC2 : Fld Z h0 s2 "java/lang/String" "coder" "B" (.int (0 : Int32))) (FV2 : Fld Z h0 s2 "java/lang/String" "value" "[B" (.ref b2)) (AV2 : Arv Z h0 b2 k2 .byte (Int32.ofNat l2.length) (l2.map Value.int) (.int 0)) (o_KEYWORD : Addr) (S_KEYWORD : Sta Z h0 "com/example/relations_into_instances/relationsintoinstances/parse/Token$Kind" "KEYWORD" "Lcom/example/relations_into_instances/relationsintoinstances/parse/Token$Kind;" (.ref o_KEYWORD)) (o_SYMBOL : Addr) (S_SYMBOL : Sta Z h0 "com/example/relations_into_instances/relationsintoinstances/parse/Token$Kind" "SYMBOL" "Lcom/example/relations_into_instances/relationsintoinstances/parse/Token$Kind;" (.ref o_SYMBOL)) (E0 : Exa Z h0 a1 "com/example/relations_into_instances/relationsintoinstances/parse/Token") (GK : Fld Z h0 a1 "com/example/relations_into_instances/relationsintoinstances/parse/Token" "kind" "Lcom/example/relations_into_instances/relationsintoinstances/parse/Token$Kind;" (.ref o_KEYWORD)) (GT : Fld Z h0 a1 "com/example/relations_into_instances/relationsintoinstances/parse/Token" "text" "Ljava/lang/String;" (.ref s1)) :
    Ct l Z (⟨"com/example/relations_into_instances/relationsintoinstances/parse/Token", "is", "(Ljava/lang/String;)Z"⟩ : MethodName) prog_44_method_2_code 2 (some .boolean) ({ frames := 2, cells := 0, slots := 0, locals := 28 } : Room) EL1 n0 true [] #[(.ref a1), (.ref s2)] h0 [] (fun v h N => h0 = h ∧ v = some (.int (if l1 = l2 then (1 : Int32) else 0))) := by
  refine Ct.of (a0 := a0) (plainFor_of_name pn_com_example_relations_into_instances_relationsintoinstances_parse_Token) (own_ew hw) (L0 := #[.val (.ref a1), .val (.ref s2)]) (fun m => by first | (simp [entryFrame, mkF, argsToLocals, Value.category]; done) | rfl) ?_
  have l0_E1 := nlt E1.lt
  have l0_AV1 := nlt AV1.lt
  have l0_E2 := nlt E2.lt
  have l0_AV2 := nlt AV2.lt
  have l0_E0 := nlt E0.lt
  refine Go.aloadN (pc' := 1) d_prog_44_method_2_code_0 rfl rfl rfl ?_
  refine Go.getF (pc' := 4) (host := "") (a1 := a0) d_prog_44_method_2_code_1 (Or.inl (hw _ (List.mem_of_getElem? (i := 56) rfl))) Via.refl GK rfl ?_
  refine Go.getS (pc' := 7) (host := "") (a1 := a0) d_prog_44_method_2_code_4 (Or.inl (hw _ (List.mem_of_getElem? (i := 69) rfl))) Via.refl S_KEYWORD rfl ?_
  refine Go.acmp (pc' := 20) true d_prog_44_method_2_code_7 rfl rfl (decide_eq_true rfl) (by decide) (by decide) ?_
  refine Go.aloadN (pc' := 21) d_prog_44_method_2_code_20 rfl rfl rfl ?_
  refine Go.getF (pc' := 24) (host := "") (a1 := a0) d_prog_44_method_2_code_21 (Or.inl (hw _ (List.mem_of_getElem? (i := 58) rfl))) Via.refl GT rfl ?_
  refine Go.aloadN (pc' := 25) d_prog_44_method_2_code_24 rfl rfl rfl ?_
  refine Go.callV (a1 := a0) (pc' := 28) (argsL := [(.ref s2)]) (rest := []) (ct_equals l Z a0 hw n0 h0 s1 s2 b1 b2 k1 k2 l1 l2 hl1 hl2 cs S_cs hcs E1 FC1 FV1 AV1 E2 FC2 FV2 AV2 hss) d_prog_44_method_2_code_25 (hw _ (List.mem_of_getElem? (i := 74) rfl)) (hw _ (List.mem_of_getElem? (i := 75) rfl)) (hw _ (List.mem_of_getElem? (i := 77) rfl)) (hw _ (List.mem_of_getElem? (i := 77) rfl)) (hw _ (List.mem_of_getElem? (i := 76) rfl)) (hw _ (List.mem_of_getElem? (i := 13) rfl)) (hw _ (List.mem_of_getElem? (i := 78) rfl)) E1 (by decide) (lenOf pd__28Ljava_2flang_2fObject_3b_29Z rfl) rfl 0 rfl rfl (by decide) (by decide) (by decide) (by decide) (fun _ q => nomatch q) rfl (fun v_1 h_2 N_3 hQ_4 hle_5 => ?_)
  obtain ⟨rfl, rfl⟩ := hQ_4
  refine Go.re (pc' := 28) (L' := #[.val (.ref a1), .val (.ref s2)]) (S' := [(.int (if l1 = l2 then (1 : Int32) else 0))]) rfl rfl rfl ?_
  refine Go.ifc (pc' := 35) (pc'' := 31) d_prog_44_method_2_code_28 (by decide) (by decide) rfl (fun hc_6 => ?_) (fun hc_6 => ?_)
  · have hc_6 : (if l1 = l2 then (1 : Int32) else 0) = 0 := hc_6
    refine Go.iconst (pc' := 36) 0 d_prog_44_method_2_code_35 rfl rfl ?_
    refine Go.retN (t := .boolean) (0 : Int32) rfl (by simp) rfl [] (fun _ q => nomatch q) d_prog_44_method_2_code_36 (by decide) (by decide) ?_
    exact ⟨rfl, by have q := hc_6; by_cases z : l1 = l2; rw [if_pos z] at q; exact absurd q (by decide); rw [if_neg z]⟩
  · have hc_6 : ¬ ((if l1 = l2 then (1 : Int32) else 0) = 0) := hc_6
    refine Go.iconst (pc' := 32) 1 d_prog_44_method_2_code_31 rfl rfl ?_
    refine Go.goto (pc' := 36) d_prog_44_method_2_code_32 (by decide) (by decide) ?_
    refine Go.retN (t := .boolean) (1 : Int32) rfl (by simp) rfl [] (fun _ q => nomatch q) d_prog_44_method_2_code_36 (by decide) (by decide) ?_
    exact ⟨rfl, by have q := hc_6; by_cases z : l1 = l2; rw [if_pos z]; rw [if_neg z] at q; exact absurd rfl q⟩
theorem d_prog_44_method_2_code_10 : decode prog_44_method_2_code 10 = .ok (.aload_n 0, 1) := by decide +kernel
theorem d_prog_44_method_2_code_11 : decode prog_44_method_2_code 11 = .ok (.getfield 7, 3) := by decide +kernel
theorem d_prog_44_method_2_code_14 : decode prog_44_method_2_code 14 = .ok (.getstatic 29, 3) := by decide +kernel
theorem d_prog_44_method_2_code_17 : decode prog_44_method_2_code 17 = .ok (.if_acmp .ne 18, 3) := by decide +kernel
set_option maxRecDepth 65536 in
set_option maxHeartbeats 40000000 in
theorem ct_isS (l : Launch) (Z : State) (a0 : Array Value) (hw : ∀ d ∈ tables_1, d.before a0 Z = true) (n0 : Nat) (h0 : Heap) (a1 s1 s2 b1 b2 : Addr) (k1 k2 : ClassId) (l1 l2 : List Int32) (hl1 : l1.length < 2 ^ 31) (hl2 : l2.length < 2 ^ 31) (hss : s1 ≠ s2) (cs : Int32) (S_cs : Sta Z h0 "java/lang/String" "COMPACT_STRINGS" "Z" (.int cs)) (hcs : ¬ cs = 0) (E1 : Exa Z h0 s1 "java/lang/String") (FC1 : Fld Z h0 s1 "java/lang/String" "coder" "B" (.int (0 : Int32))) (FV1 : Fld Z h0 s1 "java/lang/String" "value" "[B" (.ref b1)) (AV1 : Arv Z h0 b1 k1 .byte (Int32.ofNat l1.length) (l1.map Value.int) (.int 0)) (E2 : Exa Z h0 s2 "java/lang/String") (FC2 : Fld Z h0 s2 "java/lang/String" "coder" "B" (.int (0 : Int32))) (FV2 : Fld Z h0 s2 "java/lang/String" "value" "[B" (.ref b2)) (AV2 : Arv Z h0 b2 k2 .byte (Int32.ofNat l2.length) (l2.map Value.int) (.int 0)) (o_KEYWORD : Addr) (S_KEYWORD : Sta Z h0 "com/example/relations_into_instances/relationsintoinstances/parse/Token$Kind" "KEYWORD" "Lcom/example/relations_into_instances/relationsintoinstances/parse/Token$Kind;" (.ref o_KEYWORD)) (o_SYMBOL : Addr) (S_SYMBOL : Sta Z h0 "com/example/relations_into_instances/relationsintoinstances/parse/Token$Kind" "SYMBOL" "Lcom/example/relations_into_instances/relationsintoinstances/parse/Token$Kind;" (.ref o_SYMBOL)) (E0 : Exa Z h0 a1 "com/example/relations_into_instances/relationsintoinstances/parse/Token")(hks : o_SYMBOL ≠ o_KEYWORD) (GK : Fld Z h0 a1 "com/example/relations_into_instances/relationsintoinstances/parse/Token" "kind" "Lcom/example/relations_into_instances/relationsintoinstances/parse/Token$Kind;" (.ref o_SYMBOL)) (GT : Fld Z h0 a1 "com/example/relations_into_instances/relationsintoinstances/parse/Token" "text" "Ljava/lang/String;" (.ref s1)) :
    Ct l Z (⟨"com/example/relations_into_instances/relationsintoinstances/parse/Token", "is", "(Ljava/lang/String;)Z"⟩ : MethodName) prog_44_method_2_code 2 (some .boolean) ({ frames := 2, cells := 0, slots := 0, locals := 28 } : Room) EL1 n0 true [] #[(.ref a1), (.ref s2)] h0 [] (fun v h N => h0 = h ∧ v = some (.int (if l1 = l2 then (1 : Int32) else 0))) := by
  refine Ct.of (a0 := a0) (plainFor_of_name pn_com_example_relations_into_instances_relationsintoinstances_parse_Token) (own_ew hw) (L0 := #[.val (.ref a1), .val (.ref s2)]) (fun m => by first | (simp [entryFrame, mkF, argsToLocals, Value.category]; done) | rfl) ?_
  have l0_E1 := nlt E1.lt
  have l0_AV1 := nlt AV1.lt
  have l0_E2 := nlt E2.lt
  have l0_AV2 := nlt AV2.lt
  have l0_E0 := nlt E0.lt
  refine Go.aloadN (pc' := 1) d_prog_44_method_2_code_0 rfl rfl rfl ?_
  refine Go.getF (pc' := 4) (host := "") (a1 := a0) d_prog_44_method_2_code_1 (Or.inl (hw _ (List.mem_of_getElem? (i := 56) rfl))) Via.refl GK rfl ?_
  refine Go.getS (pc' := 7) (host := "") (a1 := a0) d_prog_44_method_2_code_4 (Or.inl (hw _ (List.mem_of_getElem? (i := 69) rfl))) Via.refl S_KEYWORD rfl ?_
  refine Go.acmp (pc' := 10) false d_prog_44_method_2_code_7 rfl rfl (decide_eq_false (fun q => hks (Value.ref.inj q))) (by decide) (by decide) ?_
  refine Go.aloadN (pc' := 11) d_prog_44_method_2_code_10 rfl rfl rfl ?_
  refine Go.getF (pc' := 14) (host := "") (a1 := a0) d_prog_44_method_2_code_11 (Or.inl (hw _ (List.mem_of_getElem? (i := 56) rfl))) Via.refl GK rfl ?_
  refine Go.getS (pc' := 17) (host := "") (a1 := a0) d_prog_44_method_2_code_14 (Or.inl (hw _ (List.mem_of_getElem? (i := 71) rfl))) Via.refl S_SYMBOL rfl ?_
  refine Go.acmp (pc' := 20) true d_prog_44_method_2_code_17 rfl rfl (decide_eq_true rfl) (by decide) (by decide) ?_
  refine Go.aloadN (pc' := 21) d_prog_44_method_2_code_20 rfl rfl rfl ?_
  refine Go.getF (pc' := 24) (host := "") (a1 := a0) d_prog_44_method_2_code_21 (Or.inl (hw _ (List.mem_of_getElem? (i := 58) rfl))) Via.refl GT rfl ?_
  refine Go.aloadN (pc' := 25) d_prog_44_method_2_code_24 rfl rfl rfl ?_
  refine Go.callV (a1 := a0) (pc' := 28) (argsL := [(.ref s2)]) (rest := []) (ct_equals l Z a0 hw n0 h0 s1 s2 b1 b2 k1 k2 l1 l2 hl1 hl2 cs S_cs hcs E1 FC1 FV1 AV1 E2 FC2 FV2 AV2 hss) d_prog_44_method_2_code_25 (hw _ (List.mem_of_getElem? (i := 74) rfl)) (hw _ (List.mem_of_getElem? (i := 75) rfl)) (hw _ (List.mem_of_getElem? (i := 77) rfl)) (hw _ (List.mem_of_getElem? (i := 77) rfl)) (hw _ (List.mem_of_getElem? (i := 76) rfl)) (hw _ (List.mem_of_getElem? (i := 13) rfl)) (hw _ (List.mem_of_getElem? (i := 78) rfl)) E1 (by decide) (lenOf pd__28Ljava_2flang_2fObject_3b_29Z rfl) rfl 0 rfl rfl (by decide) (by decide) (by decide) (by decide) (fun _ q => nomatch q) rfl (fun v_1 h_2 N_3 hQ_4 hle_5 => ?_)
  obtain ⟨rfl, rfl⟩ := hQ_4
  refine Go.re (pc' := 28) (L' := #[.val (.ref a1), .val (.ref s2)]) (S' := [(.int (if l1 = l2 then (1 : Int32) else 0))]) rfl rfl rfl ?_
  refine Go.ifc (pc' := 35) (pc'' := 31) d_prog_44_method_2_code_28 (by decide) (by decide) rfl (fun hc_6 => ?_) (fun hc_6 => ?_)
  · have hc_6 : (if l1 = l2 then (1 : Int32) else 0) = 0 := hc_6
    refine Go.iconst (pc' := 36) 0 d_prog_44_method_2_code_35 rfl rfl ?_
    refine Go.retN (t := .boolean) (0 : Int32) rfl (by simp) rfl [] (fun _ q => nomatch q) d_prog_44_method_2_code_36 (by decide) (by decide) ?_
    exact ⟨rfl, by have q := hc_6; by_cases z : l1 = l2; rw [if_pos z] at q; exact absurd q (by decide); rw [if_neg z]⟩
  · have hc_6 : ¬ ((if l1 = l2 then (1 : Int32) else 0) = 0) := hc_6
    refine Go.iconst (pc' := 32) 1 d_prog_44_method_2_code_31 rfl rfl ?_
    refine Go.goto (pc' := 36) d_prog_44_method_2_code_32 (by decide) (by decide) ?_
    refine Go.retN (t := .boolean) (1 : Int32) rfl (by simp) rfl [] (fun _ q => nomatch q) d_prog_44_method_2_code_36 (by decide) (by decide) ?_
    exact ⟨rfl, by have q := hc_6; by_cases z : l1 = l2; rw [if_pos z]; rw [if_neg z] at q; exact absurd rfl q⟩
set_option maxRecDepth 65536 in
set_option maxHeartbeats 40000000 in
theorem ct_isO (l : Launch) (Z : State) (a0 : Array Value) (hw : ∀ d ∈ tables_1, d.before a0 Z = true) (n0 : Nat) (h0 : Heap) (a1 s1 s2 b1 b2 : Addr) (k1 k2 : ClassId) (l1 l2 : List Int32) (hl1 : l1.length < 2 ^ 31) (hl2 : l2.length < 2 ^ 31) (hss : s1 ≠ s2) (cs : Int32) (S_cs : Sta Z h0 "java/lang/String" "COMPACT_STRINGS" "Z" (.int cs)) (hcs : ¬ cs = 0) (E1 : Exa Z h0 s1 "java/lang/String") (FC1 : Fld Z h0 s1 "java/lang/String" "coder" "B" (.int (0 : Int32))) (FV1 : Fld Z h0 s1 "java/lang/String" "value" "[B" (.ref b1)) (AV1 : Arv Z h0 b1 k1 .byte (Int32.ofNat l1.length) (l1.map Value.int) (.int 0)) (E2 : Exa Z h0 s2 "java/lang/String") (FC2 : Fld Z h0 s2 "java/lang/String" "coder" "B" (.int (0 : Int32))) (FV2 : Fld Z h0 s2 "java/lang/String" "value" "[B" (.ref b2)) (AV2 : Arv Z h0 b2 k2 .byte (Int32.ofNat l2.length) (l2.map Value.int) (.int 0)) (o_KEYWORD : Addr) (S_KEYWORD : Sta Z h0 "com/example/relations_into_instances/relationsintoinstances/parse/Token$Kind" "KEYWORD" "Lcom/example/relations_into_instances/relationsintoinstances/parse/Token$Kind;" (.ref o_KEYWORD)) (o_SYMBOL : Addr) (S_SYMBOL : Sta Z h0 "com/example/relations_into_instances/relationsintoinstances/parse/Token$Kind" "SYMBOL" "Lcom/example/relations_into_instances/relationsintoinstances/parse/Token$Kind;" (.ref o_SYMBOL)) (E0 : Exa Z h0 a1 "com/example/relations_into_instances/relationsintoinstances/parse/Token")(r1 : Addr) (hr1 : r1 ≠ o_KEYWORD) (hr2 : r1 ≠ o_SYMBOL) (GK : Fld Z h0 a1 "com/example/relations_into_instances/relationsintoinstances/parse/Token" "kind" "Lcom/example/relations_into_instances/relationsintoinstances/parse/Token$Kind;" (.ref r1)) (GT : Fld Z h0 a1 "com/example/relations_into_instances/relationsintoinstances/parse/Token" "text" "Ljava/lang/String;" (.ref s1)) :
    Ct l Z (⟨"com/example/relations_into_instances/relationsintoinstances/parse/Token", "is", "(Ljava/lang/String;)Z"⟩ : MethodName) prog_44_method_2_code 2 (some .boolean) ({ frames := 0, cells := 0, slots := 0, locals := 0 } : Room) EL1 n0 true [] #[(.ref a1), (.ref s2)] h0 [] (fun v h N => h0 = h ∧ v = some (.int (0))) := by
  refine Ct.of (a0 := a0) (plainFor_of_name pn_com_example_relations_into_instances_relationsintoinstances_parse_Token) (own_ew hw) (L0 := #[.val (.ref a1), .val (.ref s2)]) (fun m => by first | (simp [entryFrame, mkF, argsToLocals, Value.category]; done) | rfl) ?_
  have l0_E1 := nlt E1.lt
  have l0_AV1 := nlt AV1.lt
  have l0_E2 := nlt E2.lt
  have l0_AV2 := nlt AV2.lt
  have l0_E0 := nlt E0.lt
  refine Go.aloadN (pc' := 1) d_prog_44_method_2_code_0 rfl rfl rfl ?_
  refine Go.getF (pc' := 4) (host := "") (a1 := a0) d_prog_44_method_2_code_1 (Or.inl (hw _ (List.mem_of_getElem? (i := 56) rfl))) Via.refl GK rfl ?_
  refine Go.getS (pc' := 7) (host := "") (a1 := a0) d_prog_44_method_2_code_4 (Or.inl (hw _ (List.mem_of_getElem? (i := 69) rfl))) Via.refl S_KEYWORD rfl ?_
  refine Go.acmp (pc' := 10) false d_prog_44_method_2_code_7 rfl rfl (decide_eq_false (fun q => hr1 (Value.ref.inj q))) (by decide) (by decide) ?_
  refine Go.aloadN (pc' := 11) d_prog_44_method_2_code_10 rfl rfl rfl ?_
  refine Go.getF (pc' := 14) (host := "") (a1 := a0) d_prog_44_method_2_code_11 (Or.inl (hw _ (List.mem_of_getElem? (i := 56) rfl))) Via.refl GK rfl ?_
  refine Go.getS (pc' := 17) (host := "") (a1 := a0) d_prog_44_method_2_code_14 (Or.inl (hw _ (List.mem_of_getElem? (i := 71) rfl))) Via.refl S_SYMBOL rfl ?_
  refine Go.acmp (pc' := 35) false d_prog_44_method_2_code_17 rfl rfl (decide_eq_false (fun q => hr2 (Value.ref.inj q))) (by decide) (by decide) ?_
  refine Go.iconst (pc' := 36) 0 d_prog_44_method_2_code_35 rfl rfl ?_
  refine Go.retN (t := .boolean) (0 : Int32) rfl (by simp) rfl [] (fun _ q => nomatch q) d_prog_44_method_2_code_36 (by decide) (by decide) ?_
  exact ⟨rfl, rfl⟩
theorem own_ch (x : Int32) : ¬ 255 < nar .char (x &&& 255) ∧ nar .char (nar .char (x &&& 255)) = nar .char (x &&& 255) ∧ ¬ nar .char (x &&& 255) < 0 := by
  have e : nar .char (x &&& 255) = x &&& 255 := i2c_mask x
  rw [e, e]
  have hn : (x &&& 255).toBitVec.toNat ≤ 255 := by
    rw [Int32.toBitVec_and, BitVec.toNat_and]
    exact Nat.and_le_right
  have hi : (x &&& 255).toInt = (x &&& 255).toBitVec.toNat := by
    show (x &&& 255).toBitVec.toInt = _
    rw [BitVec.toInt_eq_toNat_of_lt (by omega)]
  have e1 : (255 : Int32).toInt = 255 := by decide
  have e0 : (0 : Int32).toInt = 0 := by decide
  refine ⟨?_, rfl, ?_⟩
  · rw [Int32.lt_iff_toInt_lt, hi, e1]; omega
  · rw [Int32.lt_iff_toInt_lt, hi, e0]; omega
theorem own_binj {c d : Int32} (hc : ¬ 255 < c) (hc0 : ¬ c < 0) (hd : ¬ 255 < d) (hd0 : ¬ d < 0) (h : c.toInt8.toInt32 = d.toInt8.toInt32) : c = d := by
  rw [Int32.lt_iff_toInt_lt] at hc hc0 hd hd0
  have e1 : (255 : Int32).toInt = 255 := by decide
  have e0 : (0 : Int32).toInt = 0 := by decide
  have h1 := congrArg Int32.toInt h
  rw [Int8.toInt_toInt32, Int8.toInt_toInt32, Int32.toInt_toInt8, Int32.toInt_toInt8] at h1
  apply Int32.toInt_inj.mp
  simp only [Int.bmod] at h1
  omega
theorem own_m3 (x : Int32) : (x &&& 2147483647) % 3 = 0 ∨ (x &&& 2147483647) % 3 = 1 ∨ (x &&& 2147483647) % 3 = 2 := by
  have h1 : ¬ (x &&& 2147483647) < 0 := by
    intro z
    exact absurd ((XT.and_neg32 x 2147483647).mp z).2 (by decide)
  generalize (x &&& 2147483647) = y at *
  rw [Int32.lt_iff_toInt_lt] at h1
  have e0 : (0 : Int32).toInt = 0 := by decide
  have e3 : (3 : Int32).toInt = 3 := by decide
  have hm : (y % 3).toInt = y.toInt.tmod 3 := by rw [Int32.toInt_mod, e3]
  have hb : y.toInt.tmod 3 = y.toInt % 3 := Int.tmod_eq_emod_of_nonneg (by omega)
  have h3 : (y % 3).toInt = 0 ∨ (y % 3).toInt = 1 ∨ (y % 3).toInt = 2 := by omega
  rcases h3 with q | q | q
  · exact Or.inl (Int32.toInt_inj.mp (q.trans (by decide)))
  · exact Or.inr (Or.inl (Int32.toInt_inj.mp (q.trans (by decide))))
  · exact Or.inr (Or.inr (Int32.toInt_inj.mp (q.trans (by decide))))
theorem own_ne_len {m n : Int32} (hm : m = 0 ∨ m = 1 ∨ m = 2) (hn : n = 0 ∨ n = 1 ∨ n = 2) (h : ¬ m = n) (a b c d : Int32) : ¬ own_mk m a b = own_mk n c d := by
  rcases hm with rfl | rfl | rfl <;> rcases hn with rfl | rfl | rfl <;> first | exact absurd rfl h | (intro q; simp [own_mk] at q)
theorem own_lt1 {m : Int32} (hm : m = 0 ∨ m = 1 ∨ m = 2) (h : m < 1) : m = 0 := by rcases hm with rfl | rfl | rfl; rfl; exact absurd h (by decide); exact absurd h (by decide)
theorem own_lt2 {m : Int32} (hm : m = 0 ∨ m = 1 ∨ m = 2) (h1 : ¬ m < 1) (h : m < 2) : m = 1 := by rcases hm with rfl | rfl | rfl; exact absurd (by decide) h1; rfl; exact absurd h (by decide)
theorem own_ge2 {m : Int32} (hm : m = 0 ∨ m = 1 ∨ m = 2) (h : ¬ m < 2) : m = 2 := by rcases hm with rfl | rfl | rfl; exact absurd (by decide) h; exact absurd (by decide) h; rfl
theorem own_lt12 {m : Int32} (h : m < 1) : m < 2 := by
  rw [Int32.lt_iff_toInt_lt] at h ⊢
  have e1 : (1 : Int32).toInt = 1 := by decide
  have e2 : (2 : Int32).toInt = 2 := by decide
  omega
theorem own_eq0 {m n a b c d : Int32} (hm : m = 0 ∨ m = 1 ∨ m = 2) (e : m = n) (h : m < 1) : own_mk m a b = own_mk n c d := by subst e; rw [own_lt1 hm h]; simp [own_mk]
theorem own_eq1 {m n a b c d : Int32} (hm : m = 0 ∨ m = 1 ∨ m = 2) (e : m = n) (h1 : ¬ m < 1) (h2 : m < 2) (e0 : a = c) : own_mk m a b = own_mk n c d := by subst e e0; rw [own_lt2 hm h1 h2]; simp [own_mk]
theorem own_eq2 {m n a b c d : Int32} (e : m = n) (e0 : a = c) (e1 : b = d) : own_mk m a b = own_mk n c d := by subst e e0 e1; rfl
theorem own_ne0 {m n : Int32} {x y u v : Int32} (hm : m = 0 ∨ m = 1 ∨ m = 2) (e : m = n) (h1 : ¬ m < 1) (h : ¬ nar .char (x &&& 255) = nar .char (y &&& 255)) : ¬ own_mk m (nar .char (x &&& 255)) u = own_mk n (nar .char (y &&& 255)) v := by
  subst e
  intro q
  apply h
  apply own_binj (own_ch x).1 (own_ch x).2.2 (own_ch y).1 (own_ch y).2.2
  rcases hm with rfl | rfl | rfl
  · exact absurd (by decide) h1
  · simpa [own_mk] using q
  · have := congrArg (fun l => l.getD 0 0) q
    simpa [own_mk] using this
theorem own_ne1 {m n : Int32} {x y u v : Int32} (hm : m = 0 ∨ m = 1 ∨ m = 2) (e : m = n) (h1 : ¬ m < 2) (h : ¬ nar .char (x &&& 255) = nar .char (y &&& 255)) : ¬ own_mk m u (nar .char (x &&& 255)) = own_mk n v (nar .char (y &&& 255)) := by
  subst e
  intro q
  apply h
  apply own_binj (own_ch x).1 (own_ch x).2.2 (own_ch y).1 (own_ch y).2.2
  rw [own_ge2 hm h1] at q
  have := congrArg (fun l => l.getD 1 0) q
  simpa [own_mk] using this
theorem pd__28I_29Lcom_2fexample_2frelations_into_instances_2frelationsintoinstances_2fparse_2fToken_24Kind_3b : parseMethodDescriptor "(I)Lcom/example/relations_into_instances/relationsintoinstances/parse/Token$Kind;" = some ⟨[.int], (some (.object "com/example/relations_into_instances/relationsintoinstances/parse/Token$Kind"))⟩ := by decide +kernel
theorem pd__28ICC_29Ljava_2flang_2fString_3b : parseMethodDescriptor "(ICC)Ljava/lang/String;" = some ⟨[.int, .char, .char], (some (.object "java/lang/String"))⟩ := by decide +kernel
theorem pd__28Lcom_2fexample_2frelations_into_instances_2frelationsintoinstances_2fparse_2fToken_24Kind_3bLjava_2flang_2fString_3bII_29V : parseMethodDescriptor "(Lcom/example/relations_into_instances/relationsintoinstances/parse/Token$Kind;Ljava/lang/String;II)V" = some ⟨[(.object "com/example/relations_into_instances/relationsintoinstances/parse/Token$Kind"), (.object "java/lang/String"), .int, .int], none⟩ := by decide +kernel
theorem pd__28Ljava_2flang_2fString_3b_29Z : parseMethodDescriptor "(Ljava/lang/String;)Z" = some ⟨[(.object "java/lang/String")], (some .boolean)⟩ := by decide +kernel
set_option maxRecDepth 65536 in
set_option maxHeartbeats 40000000 in
theorem ct_law (l : Launch) (Z : State) (a0 : Array Value) (hw : ∀ d ∈ tables_1, d.before a0 Z = true) (n0 : Nat) (h0 : Heap) (p0 p1 p2 p3 p4 : Int32) (hn0 : n0 ≤ h0.size) (o_NAME : Addr) (S_NAME : Sta Z h0 "com/example/relations_into_instances/relationsintoinstances/parse/Token$Kind" "NAME" "Lcom/example/relations_into_instances/relationsintoinstances/parse/Token$Kind;" (.ref o_NAME)) (X_NAME : Exa Z h0 o_NAME "com/example/relations_into_instances/relationsintoinstances/parse/Token$Kind") (o_KEYWORD : Addr) (S_KEYWORD : Sta Z h0 "com/example/relations_into_instances/relationsintoinstances/parse/Token$Kind" "KEYWORD" "Lcom/example/relations_into_instances/relationsintoinstances/parse/Token$Kind;" (.ref o_KEYWORD)) (X_KEYWORD : Exa Z h0 o_KEYWORD "com/example/relations_into_instances/relationsintoinstances/parse/Token$Kind") (F_NAME_ordinal : Fld Z h0 o_NAME "java/lang/Enum" "ordinal" "I" (.int (0 : Int32))) (F_KEYWORD_ordinal : Fld Z h0 o_KEYWORD "java/lang/Enum" "ordinal" "I" (.int (2 : Int32))) (o_SYMBOL : Addr) (S_SYMBOL : Sta Z h0 "com/example/relations_into_instances/relationsintoinstances/parse/Token$Kind" "SYMBOL" "Lcom/example/relations_into_instances/relationsintoinstances/parse/Token$Kind;" (.ref o_SYMBOL)) (X_SYMBOL : Exa Z h0 o_SYMBOL "com/example/relations_into_instances/relationsintoinstances/parse/Token$Kind") (F_SYMBOL_ordinal : Fld Z h0 o_SYMBOL "java/lang/Enum" "ordinal" "I" (.int (3 : Int32))) (o_NUMBER : Addr) (S_NUMBER : Sta Z h0 "com/example/relations_into_instances/relationsintoinstances/parse/Token$Kind" "NUMBER" "Lcom/example/relations_into_instances/relationsintoinstances/parse/Token$Kind;" (.ref o_NUMBER)) (X_NUMBER : Exa Z h0 o_NUMBER "com/example/relations_into_instances/relationsintoinstances/parse/Token$Kind") (F_NUMBER_ordinal : Fld Z h0 o_NUMBER "java/lang/Enum" "ordinal" "I" (.int (1 : Int32))) (o_END : Addr) (S_END : Sta Z h0 "com/example/relations_into_instances/relationsintoinstances/parse/Token$Kind" "END" "Lcom/example/relations_into_instances/relationsintoinstances/parse/Token$Kind;" (.ref o_END)) (X_END : Exa Z h0 o_END "com/example/relations_into_instances/relationsintoinstances/parse/Token$Kind") (F_END_ordinal : Fld Z h0 o_END "java/lang/Enum" "ordinal" "I" (.int (4 : Int32))) (cs : Int32) (S_cs : Sta Z h0 "java/lang/String" "COMPACT_STRINGS" "Z" (.int cs)) (hcs : ¬ cs = 0) :
    Ct l Z x code maxLocals ret room_1 EL1 n0 true tables_1 #[(.int p0), (.int p1), (.int p2), (.int p3), (.int p4)] h0 [] (fun v h N => v = some (.int 1)) := by
  refine Ct.of (a0 := a0) (plainFor_of_name pn_com_example_relations_into_instances_relationsintoinstances_parse_TokenIsPinLaw) (own_ew hw) (L0 := #[.val (.int p0), .val (.int p1), .val (.int p2), .val (.int p3), .val (.int p4), .unset, .unset, .unset, .unset, .unset, .unset, .unset, .unset, .unset, .unset, .unset, .unset, .unset]) (fun m => by first | (simp [entryFrame, mkF, argsToLocals, Value.category, maxLocals]; done) | rfl) ?_
  have l0_X_NAME := nlt X_NAME.lt
  have l0_X_KEYWORD := nlt X_KEYWORD.lt
  have l0_X_SYMBOL := nlt X_SYMBOL.lt
  have l0_X_NUMBER := nlt X_NUMBER.lt
  have l0_X_END := nlt X_END.lt
  refine Go.iloadN (pc' := 1) at_0 rfl rfl ?_
  refine Go.ldcI (pc' := 3) (a1 := a0) at_1 (hw _ (List.mem_of_getElem? (i := 0) rfl)) rfl ?_
  refine Go.iand (pc' := 4) at_3 rfl ?_
  refine Go.iconst (pc' := 5) 5 at_4 rfl rfl ?_
  refine Go.irem (pc' := 6) at_5 (by decide) rfl ?_
  refine Go.istore (pc' := 8) #[.val (.int p0), .val (.int p1), .val (.int p2), .val (.int p3), .val (.int p4), .val (.int ((p0 &&& (2147483647 : Int32)) % (5 : Int32))), .unset, .unset, .unset, .unset, .unset, .unset, .unset, .unset, .unset, .unset, .unset, .unset] at_6 rfl rfl ?_
  refine Go.iload (pc' := 10) at_8 rfl rfl ?_
  refine Go.callS (a1 := a0) (pc' := 13) (argsL := [(.int ((p0 &&& (2147483647 : Int32)) % (5 : Int32)))]) (rest := []) (ct_pick l Z a0 hw n0 h0 ((p0 &&& (2147483647 : Int32)) % (5 : Int32)) o_NAME S_NAME o_KEYWORD S_KEYWORD o_SYMBOL S_SYMBOL o_NUMBER S_NUMBER o_END S_END (Fld.ne F_NAME_ordinal F_KEYWORD_ordinal (by decide)) (Fld.ne F_NAME_ordinal F_SYMBOL_ordinal (by decide)) (Fld.ne F_NUMBER_ordinal F_KEYWORD_ordinal (by decide)) (Fld.ne F_NUMBER_ordinal F_SYMBOL_ordinal (by decide)) (Fld.ne F_END_ordinal F_KEYWORD_ordinal (by decide)) (Fld.ne F_END_ordinal F_SYMBOL_ordinal (by decide))) at_10 (hw _ (List.mem_of_getElem? (i := 1) rfl)) (hw _ (List.mem_of_getElem? (i := 2) rfl)) (hw _ (List.mem_of_getElem? (i := 3) rfl)) (hw _ (List.mem_of_getElem? (i := 4) rfl)) (by decide) (lenOf pd__28I_29Lcom_2fexample_2frelations_into_instances_2frelationsintoinstances_2fparse_2fToken_24Kind_3b rfl) rfl 0 rfl rfl (by decide) (by decide) (by decide) (by decide) (fun _ q => nomatch q) rfl (fun v_2 h_3 N_4 hQ_5 hle_6 => ?_)
  obtain ⟨rfl, hi_1⟩ := hQ_5
  rcases hi_1 with ⟨hi_1, rfl⟩ | ⟨hi_1, rfl⟩ | ⟨hi_1, hj, r1, rfl, hr1, hr2⟩
  · refine Go.re (pc' := 13) (L' := #[.val (.int p0), .val (.int p1), .val (.int p2), .val (.int p3), .val (.int p4), .val (.int ((p0 &&& (2147483647 : Int32)) % (5 : Int32))), .unset, .unset, .unset, .unset, .unset, .unset, .unset, .unset, .unset, .unset, .unset, .unset]) (S' := [(.ref o_KEYWORD)]) rfl rfl rfl ?_
    refine Go.astore (pc' := 15) #[.val (.int p0), .val (.int p1), .val (.int p2), .val (.int p3), .val (.int p4), .val (.int ((p0 &&& (2147483647 : Int32)) % (5 : Int32))), .val (.ref o_KEYWORD), .unset, .unset, .unset, .unset, .unset, .unset, .unset, .unset, .unset, .unset, .unset] at_13 rfl rfl rfl ?_
    refine Go.iloadN (pc' := 16) at_15 rfl rfl ?_
    refine Go.ldcI (pc' := 18) (a1 := a0) at_16 (hw _ (List.mem_of_getElem? (i := 0) rfl)) rfl ?_
    refine Go.iand (pc' := 19) at_18 rfl ?_
    refine Go.iconst (pc' := 20) 3 at_19 rfl rfl ?_
    refine Go.irem (pc' := 21) at_20 (by decide) rfl ?_
    refine Go.istore (pc' := 23) #[.val (.int p0), .val (.int p1), .val (.int p2), .val (.int p3), .val (.int p4), .val (.int ((p0 &&& (2147483647 : Int32)) % (5 : Int32))), .val (.ref o_KEYWORD), .val (.int ((p1 &&& (2147483647 : Int32)) % (3 : Int32))), .unset, .unset, .unset, .unset, .unset, .unset, .unset, .unset, .unset, .unset] at_21 rfl rfl ?_
    refine Go.iloadN (pc' := 24) at_23 rfl rfl ?_
    refine Go.bipush (pc' := 26) 8 at_24 rfl rfl ?_
    refine Go.iushr (pc' := 27) at_26 rfl ?_
    refine Go.sipush (pc' := 30) 255 at_27 rfl rfl ?_
    refine Go.iand (pc' := 31) at_30 rfl ?_
    refine Go.i2c (pc' := 32) at_31 rfl ?_
    refine Go.istore (pc' := 34) #[.val (.int p0), .val (.int p1), .val (.int p2), .val (.int p3), .val (.int p4), .val (.int ((p0 &&& (2147483647 : Int32)) % (5 : Int32))), .val (.ref o_KEYWORD), .val (.int ((p1 &&& (2147483647 : Int32)) % (3 : Int32))), .val (.int (nar .char ((usr p1 (8 : Int32)) &&& (255 : Int32)))), .unset, .unset, .unset, .unset, .unset, .unset, .unset, .unset, .unset] at_32 rfl rfl ?_
    refine Go.iloadN (pc' := 35) at_34 rfl rfl ?_
    refine Go.bipush (pc' := 37) 16 at_35 rfl rfl ?_
    refine Go.iushr (pc' := 38) at_37 rfl ?_
    refine Go.sipush (pc' := 41) 255 at_38 rfl rfl ?_
    refine Go.iand (pc' := 42) at_41 rfl ?_
    refine Go.i2c (pc' := 43) at_42 rfl ?_
    refine Go.istore (pc' := 45) #[.val (.int p0), .val (.int p1), .val (.int p2), .val (.int p3), .val (.int p4), .val (.int ((p0 &&& (2147483647 : Int32)) % (5 : Int32))), .val (.ref o_KEYWORD), .val (.int ((p1 &&& (2147483647 : Int32)) % (3 : Int32))), .val (.int (nar .char ((usr p1 (8 : Int32)) &&& (255 : Int32)))), .val (.int (nar .char ((usr p1 (16 : Int32)) &&& (255 : Int32)))), .unset, .unset, .unset, .unset, .unset, .unset, .unset, .unset] at_43 rfl rfl ?_
    refine Go.iloadN (pc' := 46) at_45 rfl rfl ?_
    refine Go.ldcI (pc' := 48) (a1 := a0) at_46 (hw _ (List.mem_of_getElem? (i := 0) rfl)) rfl ?_
    refine Go.iand (pc' := 49) at_48 rfl ?_
    refine Go.iconst (pc' := 50) 3 at_49 rfl rfl ?_
    refine Go.irem (pc' := 51) at_50 (by decide) rfl ?_
    refine Go.istore (pc' := 53) #[.val (.int p0), .val (.int p1), .val (.int p2), .val (.int p3), .val (.int p4), .val (.int ((p0 &&& (2147483647 : Int32)) % (5 : Int32))), .val (.ref o_KEYWORD), .val (.int ((p1 &&& (2147483647 : Int32)) % (3 : Int32))), .val (.int (nar .char ((usr p1 (8 : Int32)) &&& (255 : Int32)))), .val (.int (nar .char ((usr p1 (16 : Int32)) &&& (255 : Int32)))), .val (.int ((p2 &&& (2147483647 : Int32)) % (3 : Int32))), .unset, .unset, .unset, .unset, .unset, .unset, .unset] at_51 rfl rfl ?_
    refine Go.iload (pc' := 55) at_53 rfl rfl ?_
    refine Go.iloadN (pc' := 56) at_55 rfl rfl ?_
    refine Go.bipush (pc' := 58) 8 at_56 rfl rfl ?_
    refine Go.iushr (pc' := 59) at_58 rfl ?_
    refine Go.iconst (pc' := 60) 3 at_59 rfl rfl ?_
    refine Go.iand (pc' := 61) at_60 rfl ?_
    refine Go.iadd (pc' := 62) at_61 rfl ?_
    refine Go.sipush (pc' := 65) 255 at_62 rfl rfl ?_
    refine Go.iand (pc' := 66) at_65 rfl ?_
    refine Go.i2c (pc' := 67) at_66 rfl ?_
    refine Go.istore (pc' := 69) #[.val (.int p0), .val (.int p1), .val (.int p2), .val (.int p3), .val (.int p4), .val (.int ((p0 &&& (2147483647 : Int32)) % (5 : Int32))), .val (.ref o_KEYWORD), .val (.int ((p1 &&& (2147483647 : Int32)) % (3 : Int32))), .val (.int (nar .char ((usr p1 (8 : Int32)) &&& (255 : Int32)))), .val (.int (nar .char ((usr p1 (16 : Int32)) &&& (255 : Int32)))), .val (.int ((p2 &&& (2147483647 : Int32)) % (3 : Int32))), .val (.int (nar .char (((nar .char ((usr p1 (8 : Int32)) &&& (255 : Int32))) + ((usr p2 (8 : Int32)) &&& (3 : Int32))) &&& (255 : Int32)))), .unset, .unset, .unset, .unset, .unset, .unset] at_67 rfl rfl ?_
    refine Go.iload (pc' := 71) at_69 rfl rfl ?_
    refine Go.iloadN (pc' := 72) at_71 rfl rfl ?_
    refine Go.bipush (pc' := 74) 10 at_72 rfl rfl ?_
    refine Go.iushr (pc' := 75) at_74 rfl ?_
    refine Go.iconst (pc' := 76) 3 at_75 rfl rfl ?_
    refine Go.iand (pc' := 77) at_76 rfl ?_
    refine Go.iadd (pc' := 78) at_77 rfl ?_
    refine Go.sipush (pc' := 81) 255 at_78 rfl rfl ?_
    refine Go.iand (pc' := 82) at_81 rfl ?_
    refine Go.i2c (pc' := 83) at_82 rfl ?_
    refine Go.istore (pc' := 85) #[.val (.int p0), .val (.int p1), .val (.int p2), .val (.int p3), .val (.int p4), .val (.int ((p0 &&& (2147483647 : Int32)) % (5 : Int32))), .val (.ref o_KEYWORD), .val (.int ((p1 &&& (2147483647 : Int32)) % (3 : Int32))), .val (.int (nar .char ((usr p1 (8 : Int32)) &&& (255 : Int32)))), .val (.int (nar .char ((usr p1 (16 : Int32)) &&& (255 : Int32)))), .val (.int ((p2 &&& (2147483647 : Int32)) % (3 : Int32))), .val (.int (nar .char (((nar .char ((usr p1 (8 : Int32)) &&& (255 : Int32))) + ((usr p2 (8 : Int32)) &&& (3 : Int32))) &&& (255 : Int32)))), .val (.int (nar .char (((nar .char ((usr p1 (16 : Int32)) &&& (255 : Int32))) + ((usr p2 (10 : Int32)) &&& (3 : Int32))) &&& (255 : Int32)))), .unset, .unset, .unset, .unset, .unset] at_83 rfl rfl ?_
    refine Go.iload (pc' := 87) at_85 rfl rfl ?_
    refine Go.iload (pc' := 89) at_87 rfl rfl ?_
    refine Go.iload (pc' := 91) at_89 rfl rfl ?_
    refine Go.callS (a1 := a0) (pc' := 94) (argsL := [(.int ((p1 &&& (2147483647 : Int32)) % (3 : Int32))), (.int (nar .char ((usr p1 (8 : Int32)) &&& (255 : Int32)))), (.int (nar .char ((usr p1 (16 : Int32)) &&& (255 : Int32))))]) (rest := []) (ct_mk l Z a0 hw n0 h0 ((p1 &&& (2147483647 : Int32)) % (3 : Int32)) (nar .char ((usr p1 (8 : Int32)) &&& (255 : Int32))) (nar .char ((usr p1 (16 : Int32)) &&& (255 : Int32))) (own_ch (usr p1 (8 : Int32))).1 (own_ch (usr p1 (16 : Int32))).1 (own_ch (usr p1 (8 : Int32))).2.1 (own_ch (usr p1 (16 : Int32))).2.1 (by omega) cs S_cs hcs) at_91 (hw _ (List.mem_of_getElem? (i := 8) rfl)) (hw _ (List.mem_of_getElem? (i := 9) rfl)) (hw _ (List.mem_of_getElem? (i := 3) rfl)) (hw _ (List.mem_of_getElem? (i := 10) rfl)) (by decide) (lenOf pd__28ICC_29Ljava_2flang_2fString_3b rfl) rfl 0 rfl rfl (by decide) (by decide) (by decide) (by decide) (fun _ q => nomatch q) rfl (fun v_17 h_18 N_19 hQ_20 hle_21 => ?_)
    obtain ⟨a_7, b_8, k_9, rfl, g_10, g_11, K_12, X_13, F_14, F_15, A_16⟩ := hQ_20
    have szh_18 : h0.size ≤ h_18.size := K_12.1
    have ltb_8 := nlt A_16.lt
    have lta_7 := nlt g_11
    refine Go.re (pc' := 94) (L' := #[.val (.int p0), .val (.int p1), .val (.int p2), .val (.int p3), .val (.int p4), .val (.int ((p0 &&& (2147483647 : Int32)) % (5 : Int32))), .val (.ref o_KEYWORD), .val (.int ((p1 &&& (2147483647 : Int32)) % (3 : Int32))), .val (.int (nar .char ((usr p1 (8 : Int32)) &&& (255 : Int32)))), .val (.int (nar .char ((usr p1 (16 : Int32)) &&& (255 : Int32)))), .val (.int ((p2 &&& (2147483647 : Int32)) % (3 : Int32))), .val (.int (nar .char (((nar .char ((usr p1 (8 : Int32)) &&& (255 : Int32))) + ((usr p2 (8 : Int32)) &&& (3 : Int32))) &&& (255 : Int32)))), .val (.int (nar .char (((nar .char ((usr p1 (16 : Int32)) &&& (255 : Int32))) + ((usr p2 (10 : Int32)) &&& (3 : Int32))) &&& (255 : Int32)))), .unset, .unset, .unset, .unset, .unset]) (S' := [(.ref a_7)]) rfl rfl rfl ?_
    refine Go.astore (pc' := 96) #[.val (.int p0), .val (.int p1), .val (.int p2), .val (.int p3), .val (.int p4), .val (.int ((p0 &&& (2147483647 : Int32)) % (5 : Int32))), .val (.ref o_KEYWORD), .val (.int ((p1 &&& (2147483647 : Int32)) % (3 : Int32))), .val (.int (nar .char ((usr p1 (8 : Int32)) &&& (255 : Int32)))), .val (.int (nar .char ((usr p1 (16 : Int32)) &&& (255 : Int32)))), .val (.int ((p2 &&& (2147483647 : Int32)) % (3 : Int32))), .val (.int (nar .char (((nar .char ((usr p1 (8 : Int32)) &&& (255 : Int32))) + ((usr p2 (8 : Int32)) &&& (3 : Int32))) &&& (255 : Int32)))), .val (.int (nar .char (((nar .char ((usr p1 (16 : Int32)) &&& (255 : Int32))) + ((usr p2 (10 : Int32)) &&& (3 : Int32))) &&& (255 : Int32)))), .val (.ref a_7), .unset, .unset, .unset, .unset] at_94 rfl rfl rfl ?_
    refine Go.iload (pc' := 98) at_96 rfl rfl ?_
    refine Go.iload (pc' := 100) at_98 rfl rfl ?_
    refine Go.iload (pc' := 102) at_100 rfl rfl ?_
    have F_32 : Sta Z h_18 "java/lang/String" "COMPACT_STRINGS" "Z" (.int cs) := (sta_keep S_cs K_12 ns0)
    refine Go.callS (a1 := a0) (pc' := 105) (argsL := [(.int ((p2 &&& (2147483647 : Int32)) % (3 : Int32))), (.int (nar .char (((nar .char ((usr p1 (8 : Int32)) &&& (255 : Int32))) + ((usr p2 (8 : Int32)) &&& (3 : Int32))) &&& (255 : Int32)))), (.int (nar .char (((nar .char ((usr p1 (16 : Int32)) &&& (255 : Int32))) + ((usr p2 (10 : Int32)) &&& (3 : Int32))) &&& (255 : Int32))))]) (rest := []) (ct_mk l Z a0 hw n0 h_18 ((p2 &&& (2147483647 : Int32)) % (3 : Int32)) (nar .char (((nar .char ((usr p1 (8 : Int32)) &&& (255 : Int32))) + ((usr p2 (8 : Int32)) &&& (3 : Int32))) &&& (255 : Int32))) (nar .char (((nar .char ((usr p1 (16 : Int32)) &&& (255 : Int32))) + ((usr p2 (10 : Int32)) &&& (3 : Int32))) &&& (255 : Int32))) (own_ch ((nar .char ((usr p1 (8 : Int32)) &&& (255 : Int32))) + ((usr p2 (8 : Int32)) &&& (3 : Int32)))).1 (own_ch ((nar .char ((usr p1 (16 : Int32)) &&& (255 : Int32))) + ((usr p2 (10 : Int32)) &&& (3 : Int32)))).1 (own_ch ((nar .char ((usr p1 (8 : Int32)) &&& (255 : Int32))) + ((usr p2 (8 : Int32)) &&& (3 : Int32)))).2.1 (own_ch ((nar .char ((usr p1 (16 : Int32)) &&& (255 : Int32))) + ((usr p2 (10 : Int32)) &&& (3 : Int32)))).2.1 (by omega) cs F_32 hcs) at_102 (hw _ (List.mem_of_getElem? (i := 8) rfl)) (hw _ (List.mem_of_getElem? (i := 9) rfl)) (hw _ (List.mem_of_getElem? (i := 3) rfl)) (hw _ (List.mem_of_getElem? (i := 10) rfl)) (by decide) (lenOf pd__28ICC_29Ljava_2flang_2fString_3b rfl) rfl 0 rfl rfl (by decide) (by decide) (by decide) (by decide) (fun _ q => nomatch q) rfl (fun v_33 h_34 N_35 hQ_36 hle_37 => ?_)
    obtain ⟨a_22, b_23, k_24, rfl, g_25, g_26, K_27, X_28, F_29, F_30, A_31⟩ := hQ_36
    have szh_34 : h_18.size ≤ h_34.size := K_27.1
    have ltb_23 := nlt A_31.lt
    have lta_22 := nlt g_26
    refine Go.re (pc' := 105) (L' := #[.val (.int p0), .val (.int p1), .val (.int p2), .val (.int p3), .val (.int p4), .val (.int ((p0 &&& (2147483647 : Int32)) % (5 : Int32))), .val (.ref o_KEYWORD), .val (.int ((p1 &&& (2147483647 : Int32)) % (3 : Int32))), .val (.int (nar .char ((usr p1 (8 : Int32)) &&& (255 : Int32)))), .val (.int (nar .char ((usr p1 (16 : Int32)) &&& (255 : Int32)))), .val (.int ((p2 &&& (2147483647 : Int32)) % (3 : Int32))), .val (.int (nar .char (((nar .char ((usr p1 (8 : Int32)) &&& (255 : Int32))) + ((usr p2 (8 : Int32)) &&& (3 : Int32))) &&& (255 : Int32)))), .val (.int (nar .char (((nar .char ((usr p1 (16 : Int32)) &&& (255 : Int32))) + ((usr p2 (10 : Int32)) &&& (3 : Int32))) &&& (255 : Int32)))), .val (.ref a_7), .unset, .unset, .unset, .unset]) (S' := [(.ref a_22)]) rfl rfl rfl ?_
    refine Go.astore (pc' := 107) #[.val (.int p0), .val (.int p1), .val (.int p2), .val (.int p3), .val (.int p4), .val (.int ((p0 &&& (2147483647 : Int32)) % (5 : Int32))), .val (.ref o_KEYWORD), .val (.int ((p1 &&& (2147483647 : Int32)) % (3 : Int32))), .val (.int (nar .char ((usr p1 (8 : Int32)) &&& (255 : Int32)))), .val (.int (nar .char ((usr p1 (16 : Int32)) &&& (255 : Int32)))), .val (.int ((p2 &&& (2147483647 : Int32)) % (3 : Int32))), .val (.int (nar .char (((nar .char ((usr p1 (8 : Int32)) &&& (255 : Int32))) + ((usr p2 (8 : Int32)) &&& (3 : Int32))) &&& (255 : Int32)))), .val (.int (nar .char (((nar .char ((usr p1 (16 : Int32)) &&& (255 : Int32))) + ((usr p2 (10 : Int32)) &&& (3 : Int32))) &&& (255 : Int32)))), .val (.ref a_7), .val (.ref a_22), .unset, .unset, .unset] at_105 rfl rfl rfl ?_
    refine Go.newO (pc' := 110) (a1 := a0) at_107 (hw _ (List.mem_of_getElem? (i := 44) rfl)) (hw _ (List.mem_of_getElem? (i := 45) rfl)) (hw _ (List.mem_of_getElem? (i := 46) rfl)) (by decide) (by decide) rfl (fun a_38 h_39 ha_41 E_40 X_42 Df_43 => ?_)
    have szh_39 : h_34.size ≤ h_39.size := E_40.1
    have lta_38 := nlt X_42.lt
    have qa_38 := neq ha_41
    have F_44 : Fld Z h_39 a_38 "com/example/relations_into_instances/relationsintoinstances/parse/Token" "kind" "Lcom/example/relations_into_instances/relationsintoinstances/parse/Token$Kind;" (.null) := Df_43 (Or.inr (hw _ (List.mem_of_getElem? (i := 57) rfl))) (ty := (.object "com/example/relations_into_instances/relationsintoinstances/parse/Token$Kind")) (by decide)
    have F_45 : Fld Z h_39 a_38 "com/example/relations_into_instances/relationsintoinstances/parse/Token" "text" "Ljava/lang/String;" (.null) := Df_43 (Or.inr (hw _ (List.mem_of_getElem? (i := 59) rfl))) (ty := (.object "java/lang/String")) (by decide)
    have F_46 : Fld Z h_39 a_38 "com/example/relations_into_instances/relationsintoinstances/parse/Token" "line" "I" (.int (0 : Int32)) := Df_43 (Or.inr (hw _ (List.mem_of_getElem? (i := 61) rfl))) (ty := .int) (by decide)
    have F_47 : Fld Z h_39 a_38 "com/example/relations_into_instances/relationsintoinstances/parse/Token" "column" "I" (.int (0 : Int32)) := Df_43 (Or.inr (hw _ (List.mem_of_getElem? (i := 63) rfl))) (ty := .int) (by decide)
    refine Go.dup (pc' := 111) at_110 rfl rfl ?_
    refine Go.aload (pc' := 113) at_111 rfl rfl rfl ?_
    refine Go.aload (pc' := 115) at_113 rfl rfl rfl ?_
    refine Go.iloadN (pc' := 116) at_115 rfl rfl ?_
    refine Go.iload (pc' := 118) at_116 rfl rfl ?_
    refine Go.callN (a1 := a0) (pc' := 121) (argsL := [(.ref o_KEYWORD), (.ref a_7), (.int p3), (.int p4)]) (rest := [(.ref a_38)]) (ct_tok l Z a0 hw n0 h_39 a_38 o_KEYWORD a_7 p3 p4 (by omega) X_42 F_44 F_45 F_46 F_47) at_118 rfl (hw _ (List.mem_of_getElem? (i := 47) rfl)) (hw _ (List.mem_of_getElem? (i := 48) rfl)) (hw _ (List.mem_of_getElem? (i := 46) rfl)) (hw _ (List.mem_of_getElem? (i := 49) rfl)) (by decide) (lenOf pd__28Lcom_2fexample_2frelations_into_instances_2frelationsintoinstances_2fparse_2fToken_24Kind_3bLjava_2flang_2fString_3bII_29V rfl) rfl 1 rfl rfl (by decide) (by decide) (by decide) (by decide) (fun _ q => nomatch q) rfl (fun v_52 h_53 N_54 hQ_55 hle_56 => ?_)
    obtain ⟨rfl, K_48, X_49, F_50, F_51⟩ := hQ_55
    have szh_53 : h_39.size ≤ h_53.size := K_48.1
    refine Go.re (pc' := 121) (L' := #[.val (.int p0), .val (.int p1), .val (.int p2), .val (.int p3), .val (.int p4), .val (.int ((p0 &&& (2147483647 : Int32)) % (5 : Int32))), .val (.ref o_KEYWORD), .val (.int ((p1 &&& (2147483647 : Int32)) % (3 : Int32))), .val (.int (nar .char ((usr p1 (8 : Int32)) &&& (255 : Int32)))), .val (.int (nar .char ((usr p1 (16 : Int32)) &&& (255 : Int32)))), .val (.int ((p2 &&& (2147483647 : Int32)) % (3 : Int32))), .val (.int (nar .char (((nar .char ((usr p1 (8 : Int32)) &&& (255 : Int32))) + ((usr p2 (8 : Int32)) &&& (3 : Int32))) &&& (255 : Int32)))), .val (.int (nar .char (((nar .char ((usr p1 (16 : Int32)) &&& (255 : Int32))) + ((usr p2 (10 : Int32)) &&& (3 : Int32))) &&& (255 : Int32)))), .val (.ref a_7), .val (.ref a_22), .unset, .unset, .unset]) (S' := [(.ref a_38)]) rfl rfl rfl ?_
    refine Go.astore (pc' := 123) #[.val (.int p0), .val (.int p1), .val (.int p2), .val (.int p3), .val (.int p4), .val (.int ((p0 &&& (2147483647 : Int32)) % (5 : Int32))), .val (.ref o_KEYWORD), .val (.int ((p1 &&& (2147483647 : Int32)) % (3 : Int32))), .val (.int (nar .char ((usr p1 (8 : Int32)) &&& (255 : Int32)))), .val (.int (nar .char ((usr p1 (16 : Int32)) &&& (255 : Int32)))), .val (.int ((p2 &&& (2147483647 : Int32)) % (3 : Int32))), .val (.int (nar .char (((nar .char ((usr p1 (8 : Int32)) &&& (255 : Int32))) + ((usr p2 (8 : Int32)) &&& (3 : Int32))) &&& (255 : Int32)))), .val (.int (nar .char (((nar .char ((usr p1 (16 : Int32)) &&& (255 : Int32))) + ((usr p2 (10 : Int32)) &&& (3 : Int32))) &&& (255 : Int32)))), .val (.ref a_7), .val (.ref a_22), .val (.ref a_38), .unset, .unset] at_121 rfl rfl rfl ?_
    refine Go.iload (pc' := 125) at_123 rfl rfl ?_
    refine Go.iconst (pc' := 126) 2 at_125 rfl rfl ?_
    refine Go.icmpT (pc' := 135) at_126 (hi_1) (by decide) (by decide) ?_
    refine Go.iconst (pc' := 136) 1 at_135 rfl rfl ?_
    refine Go.goto (pc' := 140) at_136 (by decide) (by decide) ?_
    refine Go.istore (pc' := 142) #[.val (.int p0), .val (.int p1), .val (.int p2), .val (.int p3), .val (.int p4), .val (.int ((p0 &&& (2147483647 : Int32)) % (5 : Int32))), .val (.ref o_KEYWORD), .val (.int ((p1 &&& (2147483647 : Int32)) % (3 : Int32))), .val (.int (nar .char ((usr p1 (8 : Int32)) &&& (255 : Int32)))), .val (.int (nar .char ((usr p1 (16 : Int32)) &&& (255 : Int32)))), .val (.int ((p2 &&& (2147483647 : Int32)) % (3 : Int32))), .val (.int (nar .char (((nar .char ((usr p1 (8 : Int32)) &&& (255 : Int32))) + ((usr p2 (8 : Int32)) &&& (3 : Int32))) &&& (255 : Int32)))), .val (.int (nar .char (((nar .char ((usr p1 (16 : Int32)) &&& (255 : Int32))) + ((usr p2 (10 : Int32)) &&& (3 : Int32))) &&& (255 : Int32)))), .val (.ref a_7), .val (.ref a_22), .val (.ref a_38), .val (.int (1 : Int32)), .unset] at_140 rfl rfl ?_
    refine Go.iload (pc' := 144) at_142 rfl rfl ?_
    refine Go.iload (pc' := 146) at_144 rfl rfl ?_
    refine Go.icmp (pc' := 179) (pc'' := 149) at_146 (by decide) (by decide) rfl (fun hc_57 => ?_) (fun hc_57 => ?_)
    · have hc_57 : ¬ (((p1 &&& (2147483647 : Int32)) % (3 : Int32)) = ((p2 &&& (2147483647 : Int32)) % (3 : Int32))) := hc_57
      refine Go.iconst (pc' := 180) 0 at_179 rfl rfl ?_
      refine Go.istore (pc' := 182) #[.val (.int p0), .val (.int p1), .val (.int p2), .val (.int p3), .val (.int p4), .val (.int ((p0 &&& (2147483647 : Int32)) % (5 : Int32))), .val (.ref o_KEYWORD), .val (.int ((p1 &&& (2147483647 : Int32)) % (3 : Int32))), .val (.int (nar .char ((usr p1 (8 : Int32)) &&& (255 : Int32)))), .val (.int (nar .char ((usr p1 (16 : Int32)) &&& (255 : Int32)))), .val (.int ((p2 &&& (2147483647 : Int32)) % (3 : Int32))), .val (.int (nar .char (((nar .char ((usr p1 (8 : Int32)) &&& (255 : Int32))) + ((usr p2 (8 : Int32)) &&& (3 : Int32))) &&& (255 : Int32)))), .val (.int (nar .char (((nar .char ((usr p1 (16 : Int32)) &&& (255 : Int32))) + ((usr p2 (10 : Int32)) &&& (3 : Int32))) &&& (255 : Int32)))), .val (.ref a_7), .val (.ref a_22), .val (.ref a_38), .val (.int (1 : Int32)), .val (.int (0 : Int32))] at_180 rfl rfl ?_
      refine Go.aload (pc' := 184) at_182 rfl rfl rfl ?_
      refine Go.aload (pc' := 186) at_184 rfl rfl rfl ?_
      have F_58 : Exa Z h_53 a_7 "java/lang/String" := (Exa.keep (Exa.ext E_40 (Exa.keep X_13 K_27)) K_48)
      have F_59 : Fld Z h_53 a_7 "java/lang/String" "coder" "B" (.int (0 : Int32)) := (Fld.keep (Fld.ext E_40 (Fld.keep F_14 K_27 nin0)) K_48 (ninS (nne (by omega)) nin0))
      have F_60 : Fld Z h_53 a_7 "java/lang/String" "value" "[B" (.ref b_8) := (Fld.keep (Fld.ext E_40 (Fld.keep F_15 K_27 nin0)) K_48 (ninS (nne (by omega)) nin0))
      have F_61 : Arv Z h_53 b_8 k_9 .byte (Int32.ofNat (own_mk ((p1 &&& (2147483647 : Int32)) % (3 : Int32)) (nar .char ((usr p1 (8 : Int32)) &&& (255 : Int32))) (nar .char ((usr p1 (16 : Int32)) &&& (255 : Int32)))).length) ((own_mk ((p1 &&& (2147483647 : Int32)) % (3 : Int32)) (nar .char ((usr p1 (8 : Int32)) &&& (255 : Int32))) (nar .char ((usr p1 (16 : Int32)) &&& (255 : Int32)))).map Value.int) (.int 0) := (Arv.keep (Arv.ext (Arv.keep A_16 K_27 nin0) E_40) K_48 (ninS (nne (by omega)) nin0))
      have F_62 : Exa Z h_53 a_22 "java/lang/String" := (Exa.keep (Exa.ext E_40 X_28) K_48)
      have F_63 : Fld Z h_53 a_22 "java/lang/String" "coder" "B" (.int (0 : Int32)) := (Fld.keep (Fld.ext E_40 F_29) K_48 (ninS (nne (by omega)) nin0))
      have F_64 : Fld Z h_53 a_22 "java/lang/String" "value" "[B" (.ref b_23) := (Fld.keep (Fld.ext E_40 F_30) K_48 (ninS (nne (by omega)) nin0))
      have F_65 : Arv Z h_53 b_23 k_24 .byte (Int32.ofNat (own_mk ((p2 &&& (2147483647 : Int32)) % (3 : Int32)) (nar .char (((nar .char ((usr p1 (8 : Int32)) &&& (255 : Int32))) + ((usr p2 (8 : Int32)) &&& (3 : Int32))) &&& (255 : Int32))) (nar .char (((nar .char ((usr p1 (16 : Int32)) &&& (255 : Int32))) + ((usr p2 (10 : Int32)) &&& (3 : Int32))) &&& (255 : Int32)))).length) ((own_mk ((p2 &&& (2147483647 : Int32)) % (3 : Int32)) (nar .char (((nar .char ((usr p1 (8 : Int32)) &&& (255 : Int32))) + ((usr p2 (8 : Int32)) &&& (3 : Int32))) &&& (255 : Int32))) (nar .char (((nar .char ((usr p1 (16 : Int32)) &&& (255 : Int32))) + ((usr p2 (10 : Int32)) &&& (3 : Int32))) &&& (255 : Int32)))).map Value.int) (.int 0) := (Arv.keep (Arv.ext A_31 E_40) K_48 (ninS (nne (by omega)) nin0))
      have F_66 : Sta Z h_53 "com/example/relations_into_instances/relationsintoinstances/parse/Token$Kind" "KEYWORD" "Lcom/example/relations_into_instances/relationsintoinstances/parse/Token$Kind;" (.ref o_KEYWORD) := (sta_keep (Sta.ext E_40 (sta_keep (sta_keep S_KEYWORD K_12 ns0) K_27 ns0)) K_48 (nsS (Exa.nostat X_42) ns0))
      have F_67 : Sta Z h_53 "com/example/relations_into_instances/relationsintoinstances/parse/Token$Kind" "SYMBOL" "Lcom/example/relations_into_instances/relationsintoinstances/parse/Token$Kind;" (.ref o_SYMBOL) := (sta_keep (Sta.ext E_40 (sta_keep (sta_keep S_SYMBOL K_12 ns0) K_27 ns0)) K_48 (nsS (Exa.nostat X_42) ns0))
      have F_68 : Fld Z h_53 o_SYMBOL "java/lang/Enum" "ordinal" "I" (.int (3 : Int32)) := (Fld.keep (Fld.ext E_40 (Fld.keep (Fld.keep F_SYMBOL_ordinal K_12 nin0) K_27 nin0)) K_48 (ninS (nne (by omega)) nin0))
      have F_69 : Fld Z h_53 o_KEYWORD "java/lang/Enum" "ordinal" "I" (.int (2 : Int32)) := (Fld.keep (Fld.ext E_40 (Fld.keep (Fld.keep F_KEYWORD_ordinal K_12 nin0) K_27 nin0)) K_48 (ninS (nne (by omega)) nin0))
      have F_70 : Sta Z h_53 "java/lang/String" "COMPACT_STRINGS" "Z" (.int cs) := (sta_keep (Sta.ext E_40 (sta_keep F_32 K_27 ns0)) K_48 (nsS (Exa.nostat X_42) ns0))
      refine Go.callV (a1 := a0) (pc' := 189) (argsL := [(.ref a_22)]) (rest := []) (ct_isK l Z a0 hw n0 h_53 a_38 a_7 a_22 b_8 b_23 k_9 k_24 (own_mk ((p1 &&& (2147483647 : Int32)) % (3 : Int32)) (nar .char ((usr p1 (8 : Int32)) &&& (255 : Int32))) (nar .char ((usr p1 (16 : Int32)) &&& (255 : Int32)))) (own_mk ((p2 &&& (2147483647 : Int32)) % (3 : Int32)) (nar .char (((nar .char ((usr p1 (8 : Int32)) &&& (255 : Int32))) + ((usr p2 (8 : Int32)) &&& (3 : Int32))) &&& (255 : Int32))) (nar .char (((nar .char ((usr p1 (16 : Int32)) &&& (255 : Int32))) + ((usr p2 (10 : Int32)) &&& (3 : Int32))) &&& (255 : Int32)))) (own_mk_len _ _ _) (own_mk_len _ _ _) (nne (by omega)) cs F_70 hcs F_58 F_59 F_60 F_61 F_62 F_63 F_64 F_65 o_KEYWORD F_66 o_SYMBOL F_67 X_49  F_50 F_51) at_186 (hw _ (List.mem_of_getElem? (i := 64) rfl)) (hw _ (List.mem_of_getElem? (i := 65) rfl)) (hw _ (List.mem_of_getElem? (i := 67) rfl)) (hw _ (List.mem_of_getElem? (i := 67) rfl)) (hw _ (List.mem_of_getElem? (i := 66) rfl)) (hw _ (List.mem_of_getElem? (i := 46) rfl)) (hw _ (List.mem_of_getElem? (i := 68) rfl)) X_49 (by decide) (lenOf pd__28Ljava_2flang_2fString_3b_29Z rfl) rfl 0 rfl rfl (by decide) (by decide) (by decide) (by decide) (fun _ q => nomatch q) rfl (fun v_71 h_72 N_73 hQ_74 hle_75 => ?_)
      obtain ⟨rfl, rfl⟩ := hQ_74
      refine Go.re (pc' := 189) (L' := #[.val (.int p0), .val (.int p1), .val (.int p2), .val (.int p3), .val (.int p4), .val (.int ((p0 &&& (2147483647 : Int32)) % (5 : Int32))), .val (.ref o_KEYWORD), .val (.int ((p1 &&& (2147483647 : Int32)) % (3 : Int32))), .val (.int (nar .char ((usr p1 (8 : Int32)) &&& (255 : Int32)))), .val (.int (nar .char ((usr p1 (16 : Int32)) &&& (255 : Int32)))), .val (.int ((p2 &&& (2147483647 : Int32)) % (3 : Int32))), .val (.int (nar .char (((nar .char ((usr p1 (8 : Int32)) &&& (255 : Int32))) + ((usr p2 (8 : Int32)) &&& (3 : Int32))) &&& (255 : Int32)))), .val (.int (nar .char (((nar .char ((usr p1 (16 : Int32)) &&& (255 : Int32))) + ((usr p2 (10 : Int32)) &&& (3 : Int32))) &&& (255 : Int32)))), .val (.ref a_7), .val (.ref a_22), .val (.ref a_38), .val (.int (1 : Int32)), .val (.int (0 : Int32))]) (S' := [(.int (if (own_mk ((p1 &&& (2147483647 : Int32)) % (3 : Int32)) (nar .char ((usr p1 (8 : Int32)) &&& (255 : Int32))) (nar .char ((usr p1 (16 : Int32)) &&& (255 : Int32)))) = (own_mk ((p2 &&& (2147483647 : Int32)) % (3 : Int32)) (nar .char (((nar .char ((usr p1 (8 : Int32)) &&& (255 : Int32))) + ((usr p2 (8 : Int32)) &&& (3 : Int32))) &&& (255 : Int32))) (nar .char (((nar .char ((usr p1 (16 : Int32)) &&& (255 : Int32))) + ((usr p2 (10 : Int32)) &&& (3 : Int32))) &&& (255 : Int32)))) then (1 : Int32) else 0))]) rfl rfl rfl ?_
      refine Go.iload (pc' := 191) at_189 rfl rfl ?_
      refine Go.ifF (pc' := 194) at_191 (show ¬ ((1 : Int32) = (0 : Int32)) by decide) rfl ?_
      refine Go.iload (pc' := 196) at_194 rfl rfl ?_
      refine Go.ifT (pc' := 203) at_196 (show (0 : Int32) = (0 : Int32) by decide) (by decide) (by decide) ?_
      refine Go.iconst (pc' := 204) 0 at_203 rfl rfl ?_
      refine Go.icmpF (pc' := 207) at_204 (by show (if (own_mk ((p1 &&& (2147483647 : Int32)) % (3 : Int32)) (nar .char ((usr p1 (8 : Int32)) &&& (255 : Int32))) (nar .char ((usr p1 (16 : Int32)) &&& (255 : Int32)))) = (own_mk ((p2 &&& (2147483647 : Int32)) % (3 : Int32)) (nar .char (((nar .char ((usr p1 (8 : Int32)) &&& (255 : Int32))) + ((usr p2 (8 : Int32)) &&& (3 : Int32))) &&& (255 : Int32))) (nar .char (((nar .char ((usr p1 (16 : Int32)) &&& (255 : Int32))) + ((usr p2 (10 : Int32)) &&& (3 : Int32))) &&& (255 : Int32)))) then (1 : Int32) else 0) = (0 : Int32); exact if_neg (own_ne_len (own_m3 _) (own_m3 _) hc_57 _ _ _ _)) rfl ?_
      refine Go.iconst (pc' := 208) 1 at_207 rfl rfl ?_
      refine Go.goto (pc' := 212) at_208 (by decide) (by decide) ?_
      refine Go.retN (t := .boolean) (1 : Int32) rfl (by simp) rfl [] (fun _ q => nomatch q) at_212 (by decide) (by decide) ?_
      exact rfl
    · have hc_57 : ((p1 &&& (2147483647 : Int32)) % (3 : Int32)) = ((p2 &&& (2147483647 : Int32)) % (3 : Int32)) := hc_57
      refine Go.iload (pc' := 151) at_149 rfl rfl ?_
      refine Go.iconst (pc' := 152) 1 at_151 rfl rfl ?_
      refine Go.icmp (pc' := 162) (pc'' := 155) at_152 (by decide) (by decide) rfl (fun hc_76 => ?_) (fun hc_76 => ?_)
      · have hc_76 : ((p1 &&& (2147483647 : Int32)) % (3 : Int32)) < (1 : Int32) := hc_76
        refine Go.iload (pc' := 164) at_162 rfl rfl ?_
        refine Go.iconst (pc' := 165) 2 at_164 rfl rfl ?_
        refine Go.icmpT (pc' := 175) at_165 (own_lt12 hc_76) (by decide) (by decide) ?_
        refine Go.iconst (pc' := 176) 1 at_175 rfl rfl ?_
        refine Go.goto (pc' := 180) at_176 (by decide) (by decide) ?_
        refine Go.istore (pc' := 182) #[.val (.int p0), .val (.int p1), .val (.int p2), .val (.int p3), .val (.int p4), .val (.int ((p0 &&& (2147483647 : Int32)) % (5 : Int32))), .val (.ref o_KEYWORD), .val (.int ((p1 &&& (2147483647 : Int32)) % (3 : Int32))), .val (.int (nar .char ((usr p1 (8 : Int32)) &&& (255 : Int32)))), .val (.int (nar .char ((usr p1 (16 : Int32)) &&& (255 : Int32)))), .val (.int ((p2 &&& (2147483647 : Int32)) % (3 : Int32))), .val (.int (nar .char (((nar .char ((usr p1 (8 : Int32)) &&& (255 : Int32))) + ((usr p2 (8 : Int32)) &&& (3 : Int32))) &&& (255 : Int32)))), .val (.int (nar .char (((nar .char ((usr p1 (16 : Int32)) &&& (255 : Int32))) + ((usr p2 (10 : Int32)) &&& (3 : Int32))) &&& (255 : Int32)))), .val (.ref a_7), .val (.ref a_22), .val (.ref a_38), .val (.int (1 : Int32)), .val (.int (1 : Int32))] at_180 rfl rfl ?_
        refine Go.aload (pc' := 184) at_182 rfl rfl rfl ?_
        refine Go.aload (pc' := 186) at_184 rfl rfl rfl ?_
        have F_77 : Exa Z h_53 a_7 "java/lang/String" := (Exa.keep (Exa.ext E_40 (Exa.keep X_13 K_27)) K_48)
        have F_78 : Fld Z h_53 a_7 "java/lang/String" "coder" "B" (.int (0 : Int32)) := (Fld.keep (Fld.ext E_40 (Fld.keep F_14 K_27 nin0)) K_48 (ninS (nne (by omega)) nin0))
        have F_79 : Fld Z h_53 a_7 "java/lang/String" "value" "[B" (.ref b_8) := (Fld.keep (Fld.ext E_40 (Fld.keep F_15 K_27 nin0)) K_48 (ninS (nne (by omega)) nin0))
        have F_80 : Arv Z h_53 b_8 k_9 .byte (Int32.ofNat (own_mk ((p1 &&& (2147483647 : Int32)) % (3 : Int32)) (nar .char ((usr p1 (8 : Int32)) &&& (255 : Int32))) (nar .char ((usr p1 (16 : Int32)) &&& (255 : Int32)))).length) ((own_mk ((p1 &&& (2147483647 : Int32)) % (3 : Int32)) (nar .char ((usr p1 (8 : Int32)) &&& (255 : Int32))) (nar .char ((usr p1 (16 : Int32)) &&& (255 : Int32)))).map Value.int) (.int 0) := (Arv.keep (Arv.ext (Arv.keep A_16 K_27 nin0) E_40) K_48 (ninS (nne (by omega)) nin0))
        have F_81 : Exa Z h_53 a_22 "java/lang/String" := (Exa.keep (Exa.ext E_40 X_28) K_48)
        have F_82 : Fld Z h_53 a_22 "java/lang/String" "coder" "B" (.int (0 : Int32)) := (Fld.keep (Fld.ext E_40 F_29) K_48 (ninS (nne (by omega)) nin0))
        have F_83 : Fld Z h_53 a_22 "java/lang/String" "value" "[B" (.ref b_23) := (Fld.keep (Fld.ext E_40 F_30) K_48 (ninS (nne (by omega)) nin0))
        have F_84 : Arv Z h_53 b_23 k_24 .byte (Int32.ofNat (own_mk ((p2 &&& (2147483647 : Int32)) % (3 : Int32)) (nar .char (((nar .char ((usr p1 (8 : Int32)) &&& (255 : Int32))) + ((usr p2 (8 : Int32)) &&& (3 : Int32))) &&& (255 : Int32))) (nar .char (((nar .char ((usr p1 (16 : Int32)) &&& (255 : Int32))) + ((usr p2 (10 : Int32)) &&& (3 : Int32))) &&& (255 : Int32)))).length) ((own_mk ((p2 &&& (2147483647 : Int32)) % (3 : Int32)) (nar .char (((nar .char ((usr p1 (8 : Int32)) &&& (255 : Int32))) + ((usr p2 (8 : Int32)) &&& (3 : Int32))) &&& (255 : Int32))) (nar .char (((nar .char ((usr p1 (16 : Int32)) &&& (255 : Int32))) + ((usr p2 (10 : Int32)) &&& (3 : Int32))) &&& (255 : Int32)))).map Value.int) (.int 0) := (Arv.keep (Arv.ext A_31 E_40) K_48 (ninS (nne (by omega)) nin0))
        have F_85 : Sta Z h_53 "com/example/relations_into_instances/relationsintoinstances/parse/Token$Kind" "KEYWORD" "Lcom/example/relations_into_instances/relationsintoinstances/parse/Token$Kind;" (.ref o_KEYWORD) := (sta_keep (Sta.ext E_40 (sta_keep (sta_keep S_KEYWORD K_12 ns0) K_27 ns0)) K_48 (nsS (Exa.nostat X_42) ns0))
        have F_86 : Sta Z h_53 "com/example/relations_into_instances/relationsintoinstances/parse/Token$Kind" "SYMBOL" "Lcom/example/relations_into_instances/relationsintoinstances/parse/Token$Kind;" (.ref o_SYMBOL) := (sta_keep (Sta.ext E_40 (sta_keep (sta_keep S_SYMBOL K_12 ns0) K_27 ns0)) K_48 (nsS (Exa.nostat X_42) ns0))
        have F_87 : Fld Z h_53 o_SYMBOL "java/lang/Enum" "ordinal" "I" (.int (3 : Int32)) := (Fld.keep (Fld.ext E_40 (Fld.keep (Fld.keep F_SYMBOL_ordinal K_12 nin0) K_27 nin0)) K_48 (ninS (nne (by omega)) nin0))
        have F_88 : Fld Z h_53 o_KEYWORD "java/lang/Enum" "ordinal" "I" (.int (2 : Int32)) := (Fld.keep (Fld.ext E_40 (Fld.keep (Fld.keep F_KEYWORD_ordinal K_12 nin0) K_27 nin0)) K_48 (ninS (nne (by omega)) nin0))
        have F_89 : Sta Z h_53 "java/lang/String" "COMPACT_STRINGS" "Z" (.int cs) := (sta_keep (Sta.ext E_40 (sta_keep F_32 K_27 ns0)) K_48 (nsS (Exa.nostat X_42) ns0))
        refine Go.callV (a1 := a0) (pc' := 189) (argsL := [(.ref a_22)]) (rest := []) (ct_isK l Z a0 hw n0 h_53 a_38 a_7 a_22 b_8 b_23 k_9 k_24 (own_mk ((p1 &&& (2147483647 : Int32)) % (3 : Int32)) (nar .char ((usr p1 (8 : Int32)) &&& (255 : Int32))) (nar .char ((usr p1 (16 : Int32)) &&& (255 : Int32)))) (own_mk ((p2 &&& (2147483647 : Int32)) % (3 : Int32)) (nar .char (((nar .char ((usr p1 (8 : Int32)) &&& (255 : Int32))) + ((usr p2 (8 : Int32)) &&& (3 : Int32))) &&& (255 : Int32))) (nar .char (((nar .char ((usr p1 (16 : Int32)) &&& (255 : Int32))) + ((usr p2 (10 : Int32)) &&& (3 : Int32))) &&& (255 : Int32)))) (own_mk_len _ _ _) (own_mk_len _ _ _) (nne (by omega)) cs F_89 hcs F_77 F_78 F_79 F_80 F_81 F_82 F_83 F_84 o_KEYWORD F_85 o_SYMBOL F_86 X_49  F_50 F_51) at_186 (hw _ (List.mem_of_getElem? (i := 64) rfl)) (hw _ (List.mem_of_getElem? (i := 65) rfl)) (hw _ (List.mem_of_getElem? (i := 67) rfl)) (hw _ (List.mem_of_getElem? (i := 67) rfl)) (hw _ (List.mem_of_getElem? (i := 66) rfl)) (hw _ (List.mem_of_getElem? (i := 46) rfl)) (hw _ (List.mem_of_getElem? (i := 68) rfl)) X_49 (by decide) (lenOf pd__28Ljava_2flang_2fString_3b_29Z rfl) rfl 0 rfl rfl (by decide) (by decide) (by decide) (by decide) (fun _ q => nomatch q) rfl (fun v_90 h_91 N_92 hQ_93 hle_94 => ?_)
        obtain ⟨rfl, rfl⟩ := hQ_93
        refine Go.re (pc' := 189) (L' := #[.val (.int p0), .val (.int p1), .val (.int p2), .val (.int p3), .val (.int p4), .val (.int ((p0 &&& (2147483647 : Int32)) % (5 : Int32))), .val (.ref o_KEYWORD), .val (.int ((p1 &&& (2147483647 : Int32)) % (3 : Int32))), .val (.int (nar .char ((usr p1 (8 : Int32)) &&& (255 : Int32)))), .val (.int (nar .char ((usr p1 (16 : Int32)) &&& (255 : Int32)))), .val (.int ((p2 &&& (2147483647 : Int32)) % (3 : Int32))), .val (.int (nar .char (((nar .char ((usr p1 (8 : Int32)) &&& (255 : Int32))) + ((usr p2 (8 : Int32)) &&& (3 : Int32))) &&& (255 : Int32)))), .val (.int (nar .char (((nar .char ((usr p1 (16 : Int32)) &&& (255 : Int32))) + ((usr p2 (10 : Int32)) &&& (3 : Int32))) &&& (255 : Int32)))), .val (.ref a_7), .val (.ref a_22), .val (.ref a_38), .val (.int (1 : Int32)), .val (.int (1 : Int32))]) (S' := [(.int (if (own_mk ((p1 &&& (2147483647 : Int32)) % (3 : Int32)) (nar .char ((usr p1 (8 : Int32)) &&& (255 : Int32))) (nar .char ((usr p1 (16 : Int32)) &&& (255 : Int32)))) = (own_mk ((p2 &&& (2147483647 : Int32)) % (3 : Int32)) (nar .char (((nar .char ((usr p1 (8 : Int32)) &&& (255 : Int32))) + ((usr p2 (8 : Int32)) &&& (3 : Int32))) &&& (255 : Int32))) (nar .char (((nar .char ((usr p1 (16 : Int32)) &&& (255 : Int32))) + ((usr p2 (10 : Int32)) &&& (3 : Int32))) &&& (255 : Int32)))) then (1 : Int32) else 0))]) rfl rfl rfl ?_
        refine Go.iload (pc' := 191) at_189 rfl rfl ?_
        refine Go.ifF (pc' := 194) at_191 (show ¬ ((1 : Int32) = (0 : Int32)) by decide) rfl ?_
        refine Go.iload (pc' := 196) at_194 rfl rfl ?_
        refine Go.ifF (pc' := 199) at_196 (show ¬ ((1 : Int32) = (0 : Int32)) by decide) rfl ?_
        refine Go.iconst (pc' := 200) 1 at_199 rfl rfl ?_
        refine Go.goto (pc' := 204) at_200 (by decide) (by decide) ?_
        refine Go.icmpF (pc' := 207) at_204 (by show (if (own_mk ((p1 &&& (2147483647 : Int32)) % (3 : Int32)) (nar .char ((usr p1 (8 : Int32)) &&& (255 : Int32))) (nar .char ((usr p1 (16 : Int32)) &&& (255 : Int32)))) = (own_mk ((p2 &&& (2147483647 : Int32)) % (3 : Int32)) (nar .char (((nar .char ((usr p1 (8 : Int32)) &&& (255 : Int32))) + ((usr p2 (8 : Int32)) &&& (3 : Int32))) &&& (255 : Int32))) (nar .char (((nar .char ((usr p1 (16 : Int32)) &&& (255 : Int32))) + ((usr p2 (10 : Int32)) &&& (3 : Int32))) &&& (255 : Int32)))) then (1 : Int32) else 0) = (1 : Int32); exact if_pos (own_eq0 (own_m3 _) hc_57 hc_76)) rfl ?_
        refine Go.iconst (pc' := 208) 1 at_207 rfl rfl ?_
        refine Go.goto (pc' := 212) at_208 (by decide) (by decide) ?_
        refine Go.retN (t := .boolean) (1 : Int32) rfl (by simp) rfl [] (fun _ q => nomatch q) at_212 (by decide) (by decide) ?_
        exact rfl
      · have hc_76 : ¬ (((p1 &&& (2147483647 : Int32)) % (3 : Int32)) < (1 : Int32)) := hc_76
        refine Go.iload (pc' := 157) at_155 rfl rfl ?_
        refine Go.iload (pc' := 159) at_157 rfl rfl ?_
        refine Go.icmp (pc' := 179) (pc'' := 162) at_159 (by decide) (by decide) rfl (fun hc_95 => ?_) (fun hc_95 => ?_)
        · have hc_95 : ¬ ((nar .char ((usr p1 (8 : Int32)) &&& (255 : Int32))) = (nar .char (((nar .char ((usr p1 (8 : Int32)) &&& (255 : Int32))) + ((usr p2 (8 : Int32)) &&& (3 : Int32))) &&& (255 : Int32)))) := hc_95
          refine Go.iconst (pc' := 180) 0 at_179 rfl rfl ?_
          refine Go.istore (pc' := 182) #[.val (.int p0), .val (.int p1), .val (.int p2), .val (.int p3), .val (.int p4), .val (.int ((p0 &&& (2147483647 : Int32)) % (5 : Int32))), .val (.ref o_KEYWORD), .val (.int ((p1 &&& (2147483647 : Int32)) % (3 : Int32))), .val (.int (nar .char ((usr p1 (8 : Int32)) &&& (255 : Int32)))), .val (.int (nar .char ((usr p1 (16 : Int32)) &&& (255 : Int32)))), .val (.int ((p2 &&& (2147483647 : Int32)) % (3 : Int32))), .val (.int (nar .char (((nar .char ((usr p1 (8 : Int32)) &&& (255 : Int32))) + ((usr p2 (8 : Int32)) &&& (3 : Int32))) &&& (255 : Int32)))), .val (.int (nar .char (((nar .char ((usr p1 (16 : Int32)) &&& (255 : Int32))) + ((usr p2 (10 : Int32)) &&& (3 : Int32))) &&& (255 : Int32)))), .val (.ref a_7), .val (.ref a_22), .val (.ref a_38), .val (.int (1 : Int32)), .val (.int (0 : Int32))] at_180 rfl rfl ?_
          refine Go.aload (pc' := 184) at_182 rfl rfl rfl ?_
          refine Go.aload (pc' := 186) at_184 rfl rfl rfl ?_
          have F_96 : Exa Z h_53 a_7 "java/lang/String" := (Exa.keep (Exa.ext E_40 (Exa.keep X_13 K_27)) K_48)
          have F_97 : Fld Z h_53 a_7 "java/lang/String" "coder" "B" (.int (0 : Int32)) := (Fld.keep (Fld.ext E_40 (Fld.keep F_14 K_27 nin0)) K_48 (ninS (nne (by omega)) nin0))
          have F_98 : Fld Z h_53 a_7 "java/lang/String" "value" "[B" (.ref b_8) := (Fld.keep (Fld.ext E_40 (Fld.keep F_15 K_27 nin0)) K_48 (ninS (nne (by omega)) nin0))
          have F_99 : Arv Z h_53 b_8 k_9 .byte (Int32.ofNat (own_mk ((p1 &&& (2147483647 : Int32)) % (3 : Int32)) (nar .char ((usr p1 (8 : Int32)) &&& (255 : Int32))) (nar .char ((usr p1 (16 : Int32)) &&& (255 : Int32)))).length) ((own_mk ((p1 &&& (2147483647 : Int32)) % (3 : Int32)) (nar .char ((usr p1 (8 : Int32)) &&& (255 : Int32))) (nar .char ((usr p1 (16 : Int32)) &&& (255 : Int32)))).map Value.int) (.int 0) := (Arv.keep (Arv.ext (Arv.keep A_16 K_27 nin0) E_40) K_48 (ninS (nne (by omega)) nin0))
          have F_100 : Exa Z h_53 a_22 "java/lang/String" := (Exa.keep (Exa.ext E_40 X_28) K_48)
          have F_101 : Fld Z h_53 a_22 "java/lang/String" "coder" "B" (.int (0 : Int32)) := (Fld.keep (Fld.ext E_40 F_29) K_48 (ninS (nne (by omega)) nin0))
          have F_102 : Fld Z h_53 a_22 "java/lang/String" "value" "[B" (.ref b_23) := (Fld.keep (Fld.ext E_40 F_30) K_48 (ninS (nne (by omega)) nin0))
          have F_103 : Arv Z h_53 b_23 k_24 .byte (Int32.ofNat (own_mk ((p2 &&& (2147483647 : Int32)) % (3 : Int32)) (nar .char (((nar .char ((usr p1 (8 : Int32)) &&& (255 : Int32))) + ((usr p2 (8 : Int32)) &&& (3 : Int32))) &&& (255 : Int32))) (nar .char (((nar .char ((usr p1 (16 : Int32)) &&& (255 : Int32))) + ((usr p2 (10 : Int32)) &&& (3 : Int32))) &&& (255 : Int32)))).length) ((own_mk ((p2 &&& (2147483647 : Int32)) % (3 : Int32)) (nar .char (((nar .char ((usr p1 (8 : Int32)) &&& (255 : Int32))) + ((usr p2 (8 : Int32)) &&& (3 : Int32))) &&& (255 : Int32))) (nar .char (((nar .char ((usr p1 (16 : Int32)) &&& (255 : Int32))) + ((usr p2 (10 : Int32)) &&& (3 : Int32))) &&& (255 : Int32)))).map Value.int) (.int 0) := (Arv.keep (Arv.ext A_31 E_40) K_48 (ninS (nne (by omega)) nin0))
          have F_104 : Sta Z h_53 "com/example/relations_into_instances/relationsintoinstances/parse/Token$Kind" "KEYWORD" "Lcom/example/relations_into_instances/relationsintoinstances/parse/Token$Kind;" (.ref o_KEYWORD) := (sta_keep (Sta.ext E_40 (sta_keep (sta_keep S_KEYWORD K_12 ns0) K_27 ns0)) K_48 (nsS (Exa.nostat X_42) ns0))
          have F_105 : Sta Z h_53 "com/example/relations_into_instances/relationsintoinstances/parse/Token$Kind" "SYMBOL" "Lcom/example/relations_into_instances/relationsintoinstances/parse/Token$Kind;" (.ref o_SYMBOL) := (sta_keep (Sta.ext E_40 (sta_keep (sta_keep S_SYMBOL K_12 ns0) K_27 ns0)) K_48 (nsS (Exa.nostat X_42) ns0))
          have F_106 : Fld Z h_53 o_SYMBOL "java/lang/Enum" "ordinal" "I" (.int (3 : Int32)) := (Fld.keep (Fld.ext E_40 (Fld.keep (Fld.keep F_SYMBOL_ordinal K_12 nin0) K_27 nin0)) K_48 (ninS (nne (by omega)) nin0))
          have F_107 : Fld Z h_53 o_KEYWORD "java/lang/Enum" "ordinal" "I" (.int (2 : Int32)) := (Fld.keep (Fld.ext E_40 (Fld.keep (Fld.keep F_KEYWORD_ordinal K_12 nin0) K_27 nin0)) K_48 (ninS (nne (by omega)) nin0))
          have F_108 : Sta Z h_53 "java/lang/String" "COMPACT_STRINGS" "Z" (.int cs) := (sta_keep (Sta.ext E_40 (sta_keep F_32 K_27 ns0)) K_48 (nsS (Exa.nostat X_42) ns0))
          refine Go.callV (a1 := a0) (pc' := 189) (argsL := [(.ref a_22)]) (rest := []) (ct_isK l Z a0 hw n0 h_53 a_38 a_7 a_22 b_8 b_23 k_9 k_24 (own_mk ((p1 &&& (2147483647 : Int32)) % (3 : Int32)) (nar .char ((usr p1 (8 : Int32)) &&& (255 : Int32))) (nar .char ((usr p1 (16 : Int32)) &&& (255 : Int32)))) (own_mk ((p2 &&& (2147483647 : Int32)) % (3 : Int32)) (nar .char (((nar .char ((usr p1 (8 : Int32)) &&& (255 : Int32))) + ((usr p2 (8 : Int32)) &&& (3 : Int32))) &&& (255 : Int32))) (nar .char (((nar .char ((usr p1 (16 : Int32)) &&& (255 : Int32))) + ((usr p2 (10 : Int32)) &&& (3 : Int32))) &&& (255 : Int32)))) (own_mk_len _ _ _) (own_mk_len _ _ _) (nne (by omega)) cs F_108 hcs F_96 F_97 F_98 F_99 F_100 F_101 F_102 F_103 o_KEYWORD F_104 o_SYMBOL F_105 X_49  F_50 F_51) at_186 (hw _ (List.mem_of_getElem? (i := 64) rfl)) (hw _ (List.mem_of_getElem? (i := 65) rfl)) (hw _ (List.mem_of_getElem? (i := 67) rfl)) (hw _ (List.mem_of_getElem? (i := 67) rfl)) (hw _ (List.mem_of_getElem? (i := 66) rfl)) (hw _ (List.mem_of_getElem? (i := 46) rfl)) (hw _ (List.mem_of_getElem? (i := 68) rfl)) X_49 (by decide) (lenOf pd__28Ljava_2flang_2fString_3b_29Z rfl) rfl 0 rfl rfl (by decide) (by decide) (by decide) (by decide) (fun _ q => nomatch q) rfl (fun v_109 h_110 N_111 hQ_112 hle_113 => ?_)
          obtain ⟨rfl, rfl⟩ := hQ_112
          refine Go.re (pc' := 189) (L' := #[.val (.int p0), .val (.int p1), .val (.int p2), .val (.int p3), .val (.int p4), .val (.int ((p0 &&& (2147483647 : Int32)) % (5 : Int32))), .val (.ref o_KEYWORD), .val (.int ((p1 &&& (2147483647 : Int32)) % (3 : Int32))), .val (.int (nar .char ((usr p1 (8 : Int32)) &&& (255 : Int32)))), .val (.int (nar .char ((usr p1 (16 : Int32)) &&& (255 : Int32)))), .val (.int ((p2 &&& (2147483647 : Int32)) % (3 : Int32))), .val (.int (nar .char (((nar .char ((usr p1 (8 : Int32)) &&& (255 : Int32))) + ((usr p2 (8 : Int32)) &&& (3 : Int32))) &&& (255 : Int32)))), .val (.int (nar .char (((nar .char ((usr p1 (16 : Int32)) &&& (255 : Int32))) + ((usr p2 (10 : Int32)) &&& (3 : Int32))) &&& (255 : Int32)))), .val (.ref a_7), .val (.ref a_22), .val (.ref a_38), .val (.int (1 : Int32)), .val (.int (0 : Int32))]) (S' := [(.int (if (own_mk ((p1 &&& (2147483647 : Int32)) % (3 : Int32)) (nar .char ((usr p1 (8 : Int32)) &&& (255 : Int32))) (nar .char ((usr p1 (16 : Int32)) &&& (255 : Int32)))) = (own_mk ((p2 &&& (2147483647 : Int32)) % (3 : Int32)) (nar .char (((nar .char ((usr p1 (8 : Int32)) &&& (255 : Int32))) + ((usr p2 (8 : Int32)) &&& (3 : Int32))) &&& (255 : Int32))) (nar .char (((nar .char ((usr p1 (16 : Int32)) &&& (255 : Int32))) + ((usr p2 (10 : Int32)) &&& (3 : Int32))) &&& (255 : Int32)))) then (1 : Int32) else 0))]) rfl rfl rfl ?_
          refine Go.iload (pc' := 191) at_189 rfl rfl ?_
          refine Go.ifF (pc' := 194) at_191 (show ¬ ((1 : Int32) = (0 : Int32)) by decide) rfl ?_
          refine Go.iload (pc' := 196) at_194 rfl rfl ?_
          refine Go.ifT (pc' := 203) at_196 (show (0 : Int32) = (0 : Int32) by decide) (by decide) (by decide) ?_
          refine Go.iconst (pc' := 204) 0 at_203 rfl rfl ?_
          refine Go.icmpF (pc' := 207) at_204 (by show (if (own_mk ((p1 &&& (2147483647 : Int32)) % (3 : Int32)) (nar .char ((usr p1 (8 : Int32)) &&& (255 : Int32))) (nar .char ((usr p1 (16 : Int32)) &&& (255 : Int32)))) = (own_mk ((p2 &&& (2147483647 : Int32)) % (3 : Int32)) (nar .char (((nar .char ((usr p1 (8 : Int32)) &&& (255 : Int32))) + ((usr p2 (8 : Int32)) &&& (3 : Int32))) &&& (255 : Int32))) (nar .char (((nar .char ((usr p1 (16 : Int32)) &&& (255 : Int32))) + ((usr p2 (10 : Int32)) &&& (3 : Int32))) &&& (255 : Int32)))) then (1 : Int32) else 0) = (0 : Int32); exact if_neg (own_ne0 (own_m3 _) hc_57 hc_76 hc_95)) rfl ?_
          refine Go.iconst (pc' := 208) 1 at_207 rfl rfl ?_
          refine Go.goto (pc' := 212) at_208 (by decide) (by decide) ?_
          refine Go.retN (t := .boolean) (1 : Int32) rfl (by simp) rfl [] (fun _ q => nomatch q) at_212 (by decide) (by decide) ?_
          exact rfl
        · have hc_95 : (nar .char ((usr p1 (8 : Int32)) &&& (255 : Int32))) = (nar .char (((nar .char ((usr p1 (8 : Int32)) &&& (255 : Int32))) + ((usr p2 (8 : Int32)) &&& (3 : Int32))) &&& (255 : Int32))) := hc_95
          refine Go.iload (pc' := 164) at_162 rfl rfl ?_
          refine Go.iconst (pc' := 165) 2 at_164 rfl rfl ?_
          refine Go.icmp (pc' := 175) (pc'' := 168) at_165 (by decide) (by decide) rfl (fun hc_114 => ?_) (fun hc_114 => ?_)
          · have hc_114 : ((p1 &&& (2147483647 : Int32)) % (3 : Int32)) < (2 : Int32) := hc_114
            refine Go.iconst (pc' := 176) 1 at_175 rfl rfl ?_
            refine Go.goto (pc' := 180) at_176 (by decide) (by decide) ?_
            refine Go.istore (pc' := 182) #[.val (.int p0), .val (.int p1), .val (.int p2), .val (.int p3), .val (.int p4), .val (.int ((p0 &&& (2147483647 : Int32)) % (5 : Int32))), .val (.ref o_KEYWORD), .val (.int ((p1 &&& (2147483647 : Int32)) % (3 : Int32))), .val (.int (nar .char ((usr p1 (8 : Int32)) &&& (255 : Int32)))), .val (.int (nar .char ((usr p1 (16 : Int32)) &&& (255 : Int32)))), .val (.int ((p2 &&& (2147483647 : Int32)) % (3 : Int32))), .val (.int (nar .char (((nar .char ((usr p1 (8 : Int32)) &&& (255 : Int32))) + ((usr p2 (8 : Int32)) &&& (3 : Int32))) &&& (255 : Int32)))), .val (.int (nar .char (((nar .char ((usr p1 (16 : Int32)) &&& (255 : Int32))) + ((usr p2 (10 : Int32)) &&& (3 : Int32))) &&& (255 : Int32)))), .val (.ref a_7), .val (.ref a_22), .val (.ref a_38), .val (.int (1 : Int32)), .val (.int (1 : Int32))] at_180 rfl rfl ?_
            refine Go.aload (pc' := 184) at_182 rfl rfl rfl ?_
            refine Go.aload (pc' := 186) at_184 rfl rfl rfl ?_
            have F_115 : Exa Z h_53 a_7 "java/lang/String" := (Exa.keep (Exa.ext E_40 (Exa.keep X_13 K_27)) K_48)
            have F_116 : Fld Z h_53 a_7 "java/lang/String" "coder" "B" (.int (0 : Int32)) := (Fld.keep (Fld.ext E_40 (Fld.keep F_14 K_27 nin0)) K_48 (ninS (nne (by omega)) nin0))
            have F_117 : Fld Z h_53 a_7 "java/lang/String" "value" "[B" (.ref b_8) := (Fld.keep (Fld.ext E_40 (Fld.keep F_15 K_27 nin0)) K_48 (ninS (nne (by omega)) nin0))
            have F_118 : Arv Z h_53 b_8 k_9 .byte (Int32.ofNat (own_mk ((p1 &&& (2147483647 : Int32)) % (3 : Int32)) (nar .char ((usr p1 (8 : Int32)) &&& (255 : Int32))) (nar .char ((usr p1 (16 : Int32)) &&& (255 : Int32)))).length) ((own_mk ((p1 &&& (2147483647 : Int32)) % (3 : Int32)) (nar .char ((usr p1 (8 : Int32)) &&& (255 : Int32))) (nar .char ((usr p1 (16 : Int32)) &&& (255 : Int32)))).map Value.int) (.int 0) := (Arv.keep (Arv.ext (Arv.keep A_16 K_27 nin0) E_40) K_48 (ninS (nne (by omega)) nin0))
            have F_119 : Exa Z h_53 a_22 "java/lang/String" := (Exa.keep (Exa.ext E_40 X_28) K_48)
            have F_120 : Fld Z h_53 a_22 "java/lang/String" "coder" "B" (.int (0 : Int32)) := (Fld.keep (Fld.ext E_40 F_29) K_48 (ninS (nne (by omega)) nin0))
            have F_121 : Fld Z h_53 a_22 "java/lang/String" "value" "[B" (.ref b_23) := (Fld.keep (Fld.ext E_40 F_30) K_48 (ninS (nne (by omega)) nin0))
            have F_122 : Arv Z h_53 b_23 k_24 .byte (Int32.ofNat (own_mk ((p2 &&& (2147483647 : Int32)) % (3 : Int32)) (nar .char (((nar .char ((usr p1 (8 : Int32)) &&& (255 : Int32))) + ((usr p2 (8 : Int32)) &&& (3 : Int32))) &&& (255 : Int32))) (nar .char (((nar .char ((usr p1 (16 : Int32)) &&& (255 : Int32))) + ((usr p2 (10 : Int32)) &&& (3 : Int32))) &&& (255 : Int32)))).length) ((own_mk ((p2 &&& (2147483647 : Int32)) % (3 : Int32)) (nar .char (((nar .char ((usr p1 (8 : Int32)) &&& (255 : Int32))) + ((usr p2 (8 : Int32)) &&& (3 : Int32))) &&& (255 : Int32))) (nar .char (((nar .char ((usr p1 (16 : Int32)) &&& (255 : Int32))) + ((usr p2 (10 : Int32)) &&& (3 : Int32))) &&& (255 : Int32)))).map Value.int) (.int 0) := (Arv.keep (Arv.ext A_31 E_40) K_48 (ninS (nne (by omega)) nin0))
            have F_123 : Sta Z h_53 "com/example/relations_into_instances/relationsintoinstances/parse/Token$Kind" "KEYWORD" "Lcom/example/relations_into_instances/relationsintoinstances/parse/Token$Kind;" (.ref o_KEYWORD) := (sta_keep (Sta.ext E_40 (sta_keep (sta_keep S_KEYWORD K_12 ns0) K_27 ns0)) K_48 (nsS (Exa.nostat X_42) ns0))
            have F_124 : Sta Z h_53 "com/example/relations_into_instances/relationsintoinstances/parse/Token$Kind" "SYMBOL" "Lcom/example/relations_into_instances/relationsintoinstances/parse/Token$Kind;" (.ref o_SYMBOL) := (sta_keep (Sta.ext E_40 (sta_keep (sta_keep S_SYMBOL K_12 ns0) K_27 ns0)) K_48 (nsS (Exa.nostat X_42) ns0))
            have F_125 : Fld Z h_53 o_SYMBOL "java/lang/Enum" "ordinal" "I" (.int (3 : Int32)) := (Fld.keep (Fld.ext E_40 (Fld.keep (Fld.keep F_SYMBOL_ordinal K_12 nin0) K_27 nin0)) K_48 (ninS (nne (by omega)) nin0))
            have F_126 : Fld Z h_53 o_KEYWORD "java/lang/Enum" "ordinal" "I" (.int (2 : Int32)) := (Fld.keep (Fld.ext E_40 (Fld.keep (Fld.keep F_KEYWORD_ordinal K_12 nin0) K_27 nin0)) K_48 (ninS (nne (by omega)) nin0))
            have F_127 : Sta Z h_53 "java/lang/String" "COMPACT_STRINGS" "Z" (.int cs) := (sta_keep (Sta.ext E_40 (sta_keep F_32 K_27 ns0)) K_48 (nsS (Exa.nostat X_42) ns0))
            refine Go.callV (a1 := a0) (pc' := 189) (argsL := [(.ref a_22)]) (rest := []) (ct_isK l Z a0 hw n0 h_53 a_38 a_7 a_22 b_8 b_23 k_9 k_24 (own_mk ((p1 &&& (2147483647 : Int32)) % (3 : Int32)) (nar .char ((usr p1 (8 : Int32)) &&& (255 : Int32))) (nar .char ((usr p1 (16 : Int32)) &&& (255 : Int32)))) (own_mk ((p2 &&& (2147483647 : Int32)) % (3 : Int32)) (nar .char (((nar .char ((usr p1 (8 : Int32)) &&& (255 : Int32))) + ((usr p2 (8 : Int32)) &&& (3 : Int32))) &&& (255 : Int32))) (nar .char (((nar .char ((usr p1 (16 : Int32)) &&& (255 : Int32))) + ((usr p2 (10 : Int32)) &&& (3 : Int32))) &&& (255 : Int32)))) (own_mk_len _ _ _) (own_mk_len _ _ _) (nne (by omega)) cs F_127 hcs F_115 F_116 F_117 F_118 F_119 F_120 F_121 F_122 o_KEYWORD F_123 o_SYMBOL F_124 X_49  F_50 F_51) at_186 (hw _ (List.mem_of_getElem? (i := 64) rfl)) (hw _ (List.mem_of_getElem? (i := 65) rfl)) (hw _ (List.mem_of_getElem? (i := 67) rfl)) (hw _ (List.mem_of_getElem? (i := 67) rfl)) (hw _ (List.mem_of_getElem? (i := 66) rfl)) (hw _ (List.mem_of_getElem? (i := 46) rfl)) (hw _ (List.mem_of_getElem? (i := 68) rfl)) X_49 (by decide) (lenOf pd__28Ljava_2flang_2fString_3b_29Z rfl) rfl 0 rfl rfl (by decide) (by decide) (by decide) (by decide) (fun _ q => nomatch q) rfl (fun v_128 h_129 N_130 hQ_131 hle_132 => ?_)
            obtain ⟨rfl, rfl⟩ := hQ_131
            refine Go.re (pc' := 189) (L' := #[.val (.int p0), .val (.int p1), .val (.int p2), .val (.int p3), .val (.int p4), .val (.int ((p0 &&& (2147483647 : Int32)) % (5 : Int32))), .val (.ref o_KEYWORD), .val (.int ((p1 &&& (2147483647 : Int32)) % (3 : Int32))), .val (.int (nar .char ((usr p1 (8 : Int32)) &&& (255 : Int32)))), .val (.int (nar .char ((usr p1 (16 : Int32)) &&& (255 : Int32)))), .val (.int ((p2 &&& (2147483647 : Int32)) % (3 : Int32))), .val (.int (nar .char (((nar .char ((usr p1 (8 : Int32)) &&& (255 : Int32))) + ((usr p2 (8 : Int32)) &&& (3 : Int32))) &&& (255 : Int32)))), .val (.int (nar .char (((nar .char ((usr p1 (16 : Int32)) &&& (255 : Int32))) + ((usr p2 (10 : Int32)) &&& (3 : Int32))) &&& (255 : Int32)))), .val (.ref a_7), .val (.ref a_22), .val (.ref a_38), .val (.int (1 : Int32)), .val (.int (1 : Int32))]) (S' := [(.int (if (own_mk ((p1 &&& (2147483647 : Int32)) % (3 : Int32)) (nar .char ((usr p1 (8 : Int32)) &&& (255 : Int32))) (nar .char ((usr p1 (16 : Int32)) &&& (255 : Int32)))) = (own_mk ((p2 &&& (2147483647 : Int32)) % (3 : Int32)) (nar .char (((nar .char ((usr p1 (8 : Int32)) &&& (255 : Int32))) + ((usr p2 (8 : Int32)) &&& (3 : Int32))) &&& (255 : Int32))) (nar .char (((nar .char ((usr p1 (16 : Int32)) &&& (255 : Int32))) + ((usr p2 (10 : Int32)) &&& (3 : Int32))) &&& (255 : Int32)))) then (1 : Int32) else 0))]) rfl rfl rfl ?_
            refine Go.iload (pc' := 191) at_189 rfl rfl ?_
            refine Go.ifF (pc' := 194) at_191 (show ¬ ((1 : Int32) = (0 : Int32)) by decide) rfl ?_
            refine Go.iload (pc' := 196) at_194 rfl rfl ?_
            refine Go.ifF (pc' := 199) at_196 (show ¬ ((1 : Int32) = (0 : Int32)) by decide) rfl ?_
            refine Go.iconst (pc' := 200) 1 at_199 rfl rfl ?_
            refine Go.goto (pc' := 204) at_200 (by decide) (by decide) ?_
            refine Go.icmpF (pc' := 207) at_204 (by show (if (own_mk ((p1 &&& (2147483647 : Int32)) % (3 : Int32)) (nar .char ((usr p1 (8 : Int32)) &&& (255 : Int32))) (nar .char ((usr p1 (16 : Int32)) &&& (255 : Int32)))) = (own_mk ((p2 &&& (2147483647 : Int32)) % (3 : Int32)) (nar .char (((nar .char ((usr p1 (8 : Int32)) &&& (255 : Int32))) + ((usr p2 (8 : Int32)) &&& (3 : Int32))) &&& (255 : Int32))) (nar .char (((nar .char ((usr p1 (16 : Int32)) &&& (255 : Int32))) + ((usr p2 (10 : Int32)) &&& (3 : Int32))) &&& (255 : Int32)))) then (1 : Int32) else 0) = (1 : Int32); exact if_pos (own_eq1 (own_m3 _) hc_57 hc_76 hc_114 hc_95)) rfl ?_
            refine Go.iconst (pc' := 208) 1 at_207 rfl rfl ?_
            refine Go.goto (pc' := 212) at_208 (by decide) (by decide) ?_
            refine Go.retN (t := .boolean) (1 : Int32) rfl (by simp) rfl [] (fun _ q => nomatch q) at_212 (by decide) (by decide) ?_
            exact rfl
          · have hc_114 : ¬ (((p1 &&& (2147483647 : Int32)) % (3 : Int32)) < (2 : Int32)) := hc_114
            refine Go.iload (pc' := 170) at_168 rfl rfl ?_
            refine Go.iload (pc' := 172) at_170 rfl rfl ?_
            refine Go.icmp (pc' := 179) (pc'' := 175) at_172 (by decide) (by decide) rfl (fun hc_133 => ?_) (fun hc_133 => ?_)
            · have hc_133 : ¬ ((nar .char ((usr p1 (16 : Int32)) &&& (255 : Int32))) = (nar .char (((nar .char ((usr p1 (16 : Int32)) &&& (255 : Int32))) + ((usr p2 (10 : Int32)) &&& (3 : Int32))) &&& (255 : Int32)))) := hc_133
              refine Go.iconst (pc' := 180) 0 at_179 rfl rfl ?_
              refine Go.istore (pc' := 182) #[.val (.int p0), .val (.int p1), .val (.int p2), .val (.int p3), .val (.int p4), .val (.int ((p0 &&& (2147483647 : Int32)) % (5 : Int32))), .val (.ref o_KEYWORD), .val (.int ((p1 &&& (2147483647 : Int32)) % (3 : Int32))), .val (.int (nar .char ((usr p1 (8 : Int32)) &&& (255 : Int32)))), .val (.int (nar .char ((usr p1 (16 : Int32)) &&& (255 : Int32)))), .val (.int ((p2 &&& (2147483647 : Int32)) % (3 : Int32))), .val (.int (nar .char (((nar .char ((usr p1 (8 : Int32)) &&& (255 : Int32))) + ((usr p2 (8 : Int32)) &&& (3 : Int32))) &&& (255 : Int32)))), .val (.int (nar .char (((nar .char ((usr p1 (16 : Int32)) &&& (255 : Int32))) + ((usr p2 (10 : Int32)) &&& (3 : Int32))) &&& (255 : Int32)))), .val (.ref a_7), .val (.ref a_22), .val (.ref a_38), .val (.int (1 : Int32)), .val (.int (0 : Int32))] at_180 rfl rfl ?_
              refine Go.aload (pc' := 184) at_182 rfl rfl rfl ?_
              refine Go.aload (pc' := 186) at_184 rfl rfl rfl ?_
              have F_134 : Exa Z h_53 a_7 "java/lang/String" := (Exa.keep (Exa.ext E_40 (Exa.keep X_13 K_27)) K_48)
              have F_135 : Fld Z h_53 a_7 "java/lang/String" "coder" "B" (.int (0 : Int32)) := (Fld.keep (Fld.ext E_40 (Fld.keep F_14 K_27 nin0)) K_48 (ninS (nne (by omega)) nin0))
              have F_136 : Fld Z h_53 a_7 "java/lang/String" "value" "[B" (.ref b_8) := (Fld.keep (Fld.ext E_40 (Fld.keep F_15 K_27 nin0)) K_48 (ninS (nne (by omega)) nin0))
              have F_137 : Arv Z h_53 b_8 k_9 .byte (Int32.ofNat (own_mk ((p1 &&& (2147483647 : Int32)) % (3 : Int32)) (nar .char ((usr p1 (8 : Int32)) &&& (255 : Int32))) (nar .char ((usr p1 (16 : Int32)) &&& (255 : Int32)))).length) ((own_mk ((p1 &&& (2147483647 : Int32)) % (3 : Int32)) (nar .char ((usr p1 (8 : Int32)) &&& (255 : Int32))) (nar .char ((usr p1 (16 : Int32)) &&& (255 : Int32)))).map Value.int) (.int 0) := (Arv.keep (Arv.ext (Arv.keep A_16 K_27 nin0) E_40) K_48 (ninS (nne (by omega)) nin0))
              have F_138 : Exa Z h_53 a_22 "java/lang/String" := (Exa.keep (Exa.ext E_40 X_28) K_48)
              have F_139 : Fld Z h_53 a_22 "java/lang/String" "coder" "B" (.int (0 : Int32)) := (Fld.keep (Fld.ext E_40 F_29) K_48 (ninS (nne (by omega)) nin0))
              have F_140 : Fld Z h_53 a_22 "java/lang/String" "value" "[B" (.ref b_23) := (Fld.keep (Fld.ext E_40 F_30) K_48 (ninS (nne (by omega)) nin0))
              have F_141 : Arv Z h_53 b_23 k_24 .byte (Int32.ofNat (own_mk ((p2 &&& (2147483647 : Int32)) % (3 : Int32)) (nar .char (((nar .char ((usr p1 (8 : Int32)) &&& (255 : Int32))) + ((usr p2 (8 : Int32)) &&& (3 : Int32))) &&& (255 : Int32))) (nar .char (((nar .char ((usr p1 (16 : Int32)) &&& (255 : Int32))) + ((usr p2 (10 : Int32)) &&& (3 : Int32))) &&& (255 : Int32)))).length) ((own_mk ((p2 &&& (2147483647 : Int32)) % (3 : Int32)) (nar .char (((nar .char ((usr p1 (8 : Int32)) &&& (255 : Int32))) + ((usr p2 (8 : Int32)) &&& (3 : Int32))) &&& (255 : Int32))) (nar .char (((nar .char ((usr p1 (16 : Int32)) &&& (255 : Int32))) + ((usr p2 (10 : Int32)) &&& (3 : Int32))) &&& (255 : Int32)))).map Value.int) (.int 0) := (Arv.keep (Arv.ext A_31 E_40) K_48 (ninS (nne (by omega)) nin0))
              have F_142 : Sta Z h_53 "com/example/relations_into_instances/relationsintoinstances/parse/Token$Kind" "KEYWORD" "Lcom/example/relations_into_instances/relationsintoinstances/parse/Token$Kind;" (.ref o_KEYWORD) := (sta_keep (Sta.ext E_40 (sta_keep (sta_keep S_KEYWORD K_12 ns0) K_27 ns0)) K_48 (nsS (Exa.nostat X_42) ns0))
              have F_143 : Sta Z h_53 "com/example/relations_into_instances/relationsintoinstances/parse/Token$Kind" "SYMBOL" "Lcom/example/relations_into_instances/relationsintoinstances/parse/Token$Kind;" (.ref o_SYMBOL) := (sta_keep (Sta.ext E_40 (sta_keep (sta_keep S_SYMBOL K_12 ns0) K_27 ns0)) K_48 (nsS (Exa.nostat X_42) ns0))
              have F_144 : Fld Z h_53 o_SYMBOL "java/lang/Enum" "ordinal" "I" (.int (3 : Int32)) := (Fld.keep (Fld.ext E_40 (Fld.keep (Fld.keep F_SYMBOL_ordinal K_12 nin0) K_27 nin0)) K_48 (ninS (nne (by omega)) nin0))
              have F_145 : Fld Z h_53 o_KEYWORD "java/lang/Enum" "ordinal" "I" (.int (2 : Int32)) := (Fld.keep (Fld.ext E_40 (Fld.keep (Fld.keep F_KEYWORD_ordinal K_12 nin0) K_27 nin0)) K_48 (ninS (nne (by omega)) nin0))
              have F_146 : Sta Z h_53 "java/lang/String" "COMPACT_STRINGS" "Z" (.int cs) := (sta_keep (Sta.ext E_40 (sta_keep F_32 K_27 ns0)) K_48 (nsS (Exa.nostat X_42) ns0))
              refine Go.callV (a1 := a0) (pc' := 189) (argsL := [(.ref a_22)]) (rest := []) (ct_isK l Z a0 hw n0 h_53 a_38 a_7 a_22 b_8 b_23 k_9 k_24 (own_mk ((p1 &&& (2147483647 : Int32)) % (3 : Int32)) (nar .char ((usr p1 (8 : Int32)) &&& (255 : Int32))) (nar .char ((usr p1 (16 : Int32)) &&& (255 : Int32)))) (own_mk ((p2 &&& (2147483647 : Int32)) % (3 : Int32)) (nar .char (((nar .char ((usr p1 (8 : Int32)) &&& (255 : Int32))) + ((usr p2 (8 : Int32)) &&& (3 : Int32))) &&& (255 : Int32))) (nar .char (((nar .char ((usr p1 (16 : Int32)) &&& (255 : Int32))) + ((usr p2 (10 : Int32)) &&& (3 : Int32))) &&& (255 : Int32)))) (own_mk_len _ _ _) (own_mk_len _ _ _) (nne (by omega)) cs F_146 hcs F_134 F_135 F_136 F_137 F_138 F_139 F_140 F_141 o_KEYWORD F_142 o_SYMBOL F_143 X_49  F_50 F_51) at_186 (hw _ (List.mem_of_getElem? (i := 64) rfl)) (hw _ (List.mem_of_getElem? (i := 65) rfl)) (hw _ (List.mem_of_getElem? (i := 67) rfl)) (hw _ (List.mem_of_getElem? (i := 67) rfl)) (hw _ (List.mem_of_getElem? (i := 66) rfl)) (hw _ (List.mem_of_getElem? (i := 46) rfl)) (hw _ (List.mem_of_getElem? (i := 68) rfl)) X_49 (by decide) (lenOf pd__28Ljava_2flang_2fString_3b_29Z rfl) rfl 0 rfl rfl (by decide) (by decide) (by decide) (by decide) (fun _ q => nomatch q) rfl (fun v_147 h_148 N_149 hQ_150 hle_151 => ?_)
              obtain ⟨rfl, rfl⟩ := hQ_150
              refine Go.re (pc' := 189) (L' := #[.val (.int p0), .val (.int p1), .val (.int p2), .val (.int p3), .val (.int p4), .val (.int ((p0 &&& (2147483647 : Int32)) % (5 : Int32))), .val (.ref o_KEYWORD), .val (.int ((p1 &&& (2147483647 : Int32)) % (3 : Int32))), .val (.int (nar .char ((usr p1 (8 : Int32)) &&& (255 : Int32)))), .val (.int (nar .char ((usr p1 (16 : Int32)) &&& (255 : Int32)))), .val (.int ((p2 &&& (2147483647 : Int32)) % (3 : Int32))), .val (.int (nar .char (((nar .char ((usr p1 (8 : Int32)) &&& (255 : Int32))) + ((usr p2 (8 : Int32)) &&& (3 : Int32))) &&& (255 : Int32)))), .val (.int (nar .char (((nar .char ((usr p1 (16 : Int32)) &&& (255 : Int32))) + ((usr p2 (10 : Int32)) &&& (3 : Int32))) &&& (255 : Int32)))), .val (.ref a_7), .val (.ref a_22), .val (.ref a_38), .val (.int (1 : Int32)), .val (.int (0 : Int32))]) (S' := [(.int (if (own_mk ((p1 &&& (2147483647 : Int32)) % (3 : Int32)) (nar .char ((usr p1 (8 : Int32)) &&& (255 : Int32))) (nar .char ((usr p1 (16 : Int32)) &&& (255 : Int32)))) = (own_mk ((p2 &&& (2147483647 : Int32)) % (3 : Int32)) (nar .char (((nar .char ((usr p1 (8 : Int32)) &&& (255 : Int32))) + ((usr p2 (8 : Int32)) &&& (3 : Int32))) &&& (255 : Int32))) (nar .char (((nar .char ((usr p1 (16 : Int32)) &&& (255 : Int32))) + ((usr p2 (10 : Int32)) &&& (3 : Int32))) &&& (255 : Int32)))) then (1 : Int32) else 0))]) rfl rfl rfl ?_
              refine Go.iload (pc' := 191) at_189 rfl rfl ?_
              refine Go.ifF (pc' := 194) at_191 (show ¬ ((1 : Int32) = (0 : Int32)) by decide) rfl ?_
              refine Go.iload (pc' := 196) at_194 rfl rfl ?_
              refine Go.ifT (pc' := 203) at_196 (show (0 : Int32) = (0 : Int32) by decide) (by decide) (by decide) ?_
              refine Go.iconst (pc' := 204) 0 at_203 rfl rfl ?_
              refine Go.icmpF (pc' := 207) at_204 (by show (if (own_mk ((p1 &&& (2147483647 : Int32)) % (3 : Int32)) (nar .char ((usr p1 (8 : Int32)) &&& (255 : Int32))) (nar .char ((usr p1 (16 : Int32)) &&& (255 : Int32)))) = (own_mk ((p2 &&& (2147483647 : Int32)) % (3 : Int32)) (nar .char (((nar .char ((usr p1 (8 : Int32)) &&& (255 : Int32))) + ((usr p2 (8 : Int32)) &&& (3 : Int32))) &&& (255 : Int32))) (nar .char (((nar .char ((usr p1 (16 : Int32)) &&& (255 : Int32))) + ((usr p2 (10 : Int32)) &&& (3 : Int32))) &&& (255 : Int32)))) then (1 : Int32) else 0) = (0 : Int32); exact if_neg (own_ne1 (own_m3 _) hc_57 hc_114 hc_133)) rfl ?_
              refine Go.iconst (pc' := 208) 1 at_207 rfl rfl ?_
              refine Go.goto (pc' := 212) at_208 (by decide) (by decide) ?_
              refine Go.retN (t := .boolean) (1 : Int32) rfl (by simp) rfl [] (fun _ q => nomatch q) at_212 (by decide) (by decide) ?_
              exact rfl
            · have hc_133 : (nar .char ((usr p1 (16 : Int32)) &&& (255 : Int32))) = (nar .char (((nar .char ((usr p1 (16 : Int32)) &&& (255 : Int32))) + ((usr p2 (10 : Int32)) &&& (3 : Int32))) &&& (255 : Int32))) := hc_133
              refine Go.iconst (pc' := 176) 1 at_175 rfl rfl ?_
              refine Go.goto (pc' := 180) at_176 (by decide) (by decide) ?_
              refine Go.istore (pc' := 182) #[.val (.int p0), .val (.int p1), .val (.int p2), .val (.int p3), .val (.int p4), .val (.int ((p0 &&& (2147483647 : Int32)) % (5 : Int32))), .val (.ref o_KEYWORD), .val (.int ((p1 &&& (2147483647 : Int32)) % (3 : Int32))), .val (.int (nar .char ((usr p1 (8 : Int32)) &&& (255 : Int32)))), .val (.int (nar .char ((usr p1 (16 : Int32)) &&& (255 : Int32)))), .val (.int ((p2 &&& (2147483647 : Int32)) % (3 : Int32))), .val (.int (nar .char (((nar .char ((usr p1 (8 : Int32)) &&& (255 : Int32))) + ((usr p2 (8 : Int32)) &&& (3 : Int32))) &&& (255 : Int32)))), .val (.int (nar .char (((nar .char ((usr p1 (16 : Int32)) &&& (255 : Int32))) + ((usr p2 (10 : Int32)) &&& (3 : Int32))) &&& (255 : Int32)))), .val (.ref a_7), .val (.ref a_22), .val (.ref a_38), .val (.int (1 : Int32)), .val (.int (1 : Int32))] at_180 rfl rfl ?_
              refine Go.aload (pc' := 184) at_182 rfl rfl rfl ?_
              refine Go.aload (pc' := 186) at_184 rfl rfl rfl ?_
              have F_152 : Exa Z h_53 a_7 "java/lang/String" := (Exa.keep (Exa.ext E_40 (Exa.keep X_13 K_27)) K_48)
              have F_153 : Fld Z h_53 a_7 "java/lang/String" "coder" "B" (.int (0 : Int32)) := (Fld.keep (Fld.ext E_40 (Fld.keep F_14 K_27 nin0)) K_48 (ninS (nne (by omega)) nin0))
              have F_154 : Fld Z h_53 a_7 "java/lang/String" "value" "[B" (.ref b_8) := (Fld.keep (Fld.ext E_40 (Fld.keep F_15 K_27 nin0)) K_48 (ninS (nne (by omega)) nin0))
              have F_155 : Arv Z h_53 b_8 k_9 .byte (Int32.ofNat (own_mk ((p1 &&& (2147483647 : Int32)) % (3 : Int32)) (nar .char ((usr p1 (8 : Int32)) &&& (255 : Int32))) (nar .char ((usr p1 (16 : Int32)) &&& (255 : Int32)))).length) ((own_mk ((p1 &&& (2147483647 : Int32)) % (3 : Int32)) (nar .char ((usr p1 (8 : Int32)) &&& (255 : Int32))) (nar .char ((usr p1 (16 : Int32)) &&& (255 : Int32)))).map Value.int) (.int 0) := (Arv.keep (Arv.ext (Arv.keep A_16 K_27 nin0) E_40) K_48 (ninS (nne (by omega)) nin0))
              have F_156 : Exa Z h_53 a_22 "java/lang/String" := (Exa.keep (Exa.ext E_40 X_28) K_48)
              have F_157 : Fld Z h_53 a_22 "java/lang/String" "coder" "B" (.int (0 : Int32)) := (Fld.keep (Fld.ext E_40 F_29) K_48 (ninS (nne (by omega)) nin0))
              have F_158 : Fld Z h_53 a_22 "java/lang/String" "value" "[B" (.ref b_23) := (Fld.keep (Fld.ext E_40 F_30) K_48 (ninS (nne (by omega)) nin0))
              have F_159 : Arv Z h_53 b_23 k_24 .byte (Int32.ofNat (own_mk ((p2 &&& (2147483647 : Int32)) % (3 : Int32)) (nar .char (((nar .char ((usr p1 (8 : Int32)) &&& (255 : Int32))) + ((usr p2 (8 : Int32)) &&& (3 : Int32))) &&& (255 : Int32))) (nar .char (((nar .char ((usr p1 (16 : Int32)) &&& (255 : Int32))) + ((usr p2 (10 : Int32)) &&& (3 : Int32))) &&& (255 : Int32)))).length) ((own_mk ((p2 &&& (2147483647 : Int32)) % (3 : Int32)) (nar .char (((nar .char ((usr p1 (8 : Int32)) &&& (255 : Int32))) + ((usr p2 (8 : Int32)) &&& (3 : Int32))) &&& (255 : Int32))) (nar .char (((nar .char ((usr p1 (16 : Int32)) &&& (255 : Int32))) + ((usr p2 (10 : Int32)) &&& (3 : Int32))) &&& (255 : Int32)))).map Value.int) (.int 0) := (Arv.keep (Arv.ext A_31 E_40) K_48 (ninS (nne (by omega)) nin0))
              have F_160 : Sta Z h_53 "com/example/relations_into_instances/relationsintoinstances/parse/Token$Kind" "KEYWORD" "Lcom/example/relations_into_instances/relationsintoinstances/parse/Token$Kind;" (.ref o_KEYWORD) := (sta_keep (Sta.ext E_40 (sta_keep (sta_keep S_KEYWORD K_12 ns0) K_27 ns0)) K_48 (nsS (Exa.nostat X_42) ns0))
              have F_161 : Sta Z h_53 "com/example/relations_into_instances/relationsintoinstances/parse/Token$Kind" "SYMBOL" "Lcom/example/relations_into_instances/relationsintoinstances/parse/Token$Kind;" (.ref o_SYMBOL) := (sta_keep (Sta.ext E_40 (sta_keep (sta_keep S_SYMBOL K_12 ns0) K_27 ns0)) K_48 (nsS (Exa.nostat X_42) ns0))
              have F_162 : Fld Z h_53 o_SYMBOL "java/lang/Enum" "ordinal" "I" (.int (3 : Int32)) := (Fld.keep (Fld.ext E_40 (Fld.keep (Fld.keep F_SYMBOL_ordinal K_12 nin0) K_27 nin0)) K_48 (ninS (nne (by omega)) nin0))
              have F_163 : Fld Z h_53 o_KEYWORD "java/lang/Enum" "ordinal" "I" (.int (2 : Int32)) := (Fld.keep (Fld.ext E_40 (Fld.keep (Fld.keep F_KEYWORD_ordinal K_12 nin0) K_27 nin0)) K_48 (ninS (nne (by omega)) nin0))
              have F_164 : Sta Z h_53 "java/lang/String" "COMPACT_STRINGS" "Z" (.int cs) := (sta_keep (Sta.ext E_40 (sta_keep F_32 K_27 ns0)) K_48 (nsS (Exa.nostat X_42) ns0))
              refine Go.callV (a1 := a0) (pc' := 189) (argsL := [(.ref a_22)]) (rest := []) (ct_isK l Z a0 hw n0 h_53 a_38 a_7 a_22 b_8 b_23 k_9 k_24 (own_mk ((p1 &&& (2147483647 : Int32)) % (3 : Int32)) (nar .char ((usr p1 (8 : Int32)) &&& (255 : Int32))) (nar .char ((usr p1 (16 : Int32)) &&& (255 : Int32)))) (own_mk ((p2 &&& (2147483647 : Int32)) % (3 : Int32)) (nar .char (((nar .char ((usr p1 (8 : Int32)) &&& (255 : Int32))) + ((usr p2 (8 : Int32)) &&& (3 : Int32))) &&& (255 : Int32))) (nar .char (((nar .char ((usr p1 (16 : Int32)) &&& (255 : Int32))) + ((usr p2 (10 : Int32)) &&& (3 : Int32))) &&& (255 : Int32)))) (own_mk_len _ _ _) (own_mk_len _ _ _) (nne (by omega)) cs F_164 hcs F_152 F_153 F_154 F_155 F_156 F_157 F_158 F_159 o_KEYWORD F_160 o_SYMBOL F_161 X_49  F_50 F_51) at_186 (hw _ (List.mem_of_getElem? (i := 64) rfl)) (hw _ (List.mem_of_getElem? (i := 65) rfl)) (hw _ (List.mem_of_getElem? (i := 67) rfl)) (hw _ (List.mem_of_getElem? (i := 67) rfl)) (hw _ (List.mem_of_getElem? (i := 66) rfl)) (hw _ (List.mem_of_getElem? (i := 46) rfl)) (hw _ (List.mem_of_getElem? (i := 68) rfl)) X_49 (by decide) (lenOf pd__28Ljava_2flang_2fString_3b_29Z rfl) rfl 0 rfl rfl (by decide) (by decide) (by decide) (by decide) (fun _ q => nomatch q) rfl (fun v_165 h_166 N_167 hQ_168 hle_169 => ?_)
              obtain ⟨rfl, rfl⟩ := hQ_168
              refine Go.re (pc' := 189) (L' := #[.val (.int p0), .val (.int p1), .val (.int p2), .val (.int p3), .val (.int p4), .val (.int ((p0 &&& (2147483647 : Int32)) % (5 : Int32))), .val (.ref o_KEYWORD), .val (.int ((p1 &&& (2147483647 : Int32)) % (3 : Int32))), .val (.int (nar .char ((usr p1 (8 : Int32)) &&& (255 : Int32)))), .val (.int (nar .char ((usr p1 (16 : Int32)) &&& (255 : Int32)))), .val (.int ((p2 &&& (2147483647 : Int32)) % (3 : Int32))), .val (.int (nar .char (((nar .char ((usr p1 (8 : Int32)) &&& (255 : Int32))) + ((usr p2 (8 : Int32)) &&& (3 : Int32))) &&& (255 : Int32)))), .val (.int (nar .char (((nar .char ((usr p1 (16 : Int32)) &&& (255 : Int32))) + ((usr p2 (10 : Int32)) &&& (3 : Int32))) &&& (255 : Int32)))), .val (.ref a_7), .val (.ref a_22), .val (.ref a_38), .val (.int (1 : Int32)), .val (.int (1 : Int32))]) (S' := [(.int (if (own_mk ((p1 &&& (2147483647 : Int32)) % (3 : Int32)) (nar .char ((usr p1 (8 : Int32)) &&& (255 : Int32))) (nar .char ((usr p1 (16 : Int32)) &&& (255 : Int32)))) = (own_mk ((p2 &&& (2147483647 : Int32)) % (3 : Int32)) (nar .char (((nar .char ((usr p1 (8 : Int32)) &&& (255 : Int32))) + ((usr p2 (8 : Int32)) &&& (3 : Int32))) &&& (255 : Int32))) (nar .char (((nar .char ((usr p1 (16 : Int32)) &&& (255 : Int32))) + ((usr p2 (10 : Int32)) &&& (3 : Int32))) &&& (255 : Int32)))) then (1 : Int32) else 0))]) rfl rfl rfl ?_
              refine Go.iload (pc' := 191) at_189 rfl rfl ?_
              refine Go.ifF (pc' := 194) at_191 (show ¬ ((1 : Int32) = (0 : Int32)) by decide) rfl ?_
              refine Go.iload (pc' := 196) at_194 rfl rfl ?_
              refine Go.ifF (pc' := 199) at_196 (show ¬ ((1 : Int32) = (0 : Int32)) by decide) rfl ?_
              refine Go.iconst (pc' := 200) 1 at_199 rfl rfl ?_
              refine Go.goto (pc' := 204) at_200 (by decide) (by decide) ?_
              refine Go.icmpF (pc' := 207) at_204 (by show (if (own_mk ((p1 &&& (2147483647 : Int32)) % (3 : Int32)) (nar .char ((usr p1 (8 : Int32)) &&& (255 : Int32))) (nar .char ((usr p1 (16 : Int32)) &&& (255 : Int32)))) = (own_mk ((p2 &&& (2147483647 : Int32)) % (3 : Int32)) (nar .char (((nar .char ((usr p1 (8 : Int32)) &&& (255 : Int32))) + ((usr p2 (8 : Int32)) &&& (3 : Int32))) &&& (255 : Int32))) (nar .char (((nar .char ((usr p1 (16 : Int32)) &&& (255 : Int32))) + ((usr p2 (10 : Int32)) &&& (3 : Int32))) &&& (255 : Int32)))) then (1 : Int32) else 0) = (1 : Int32); exact if_pos (own_eq2 hc_57 hc_95 hc_133)) rfl ?_
              refine Go.iconst (pc' := 208) 1 at_207 rfl rfl ?_
              refine Go.goto (pc' := 212) at_208 (by decide) (by decide) ?_
              refine Go.retN (t := .boolean) (1 : Int32) rfl (by simp) rfl [] (fun _ q => nomatch q) at_212 (by decide) (by decide) ?_
              exact rfl
  · refine Go.re (pc' := 13) (L' := #[.val (.int p0), .val (.int p1), .val (.int p2), .val (.int p3), .val (.int p4), .val (.int ((p0 &&& (2147483647 : Int32)) % (5 : Int32))), .unset, .unset, .unset, .unset, .unset, .unset, .unset, .unset, .unset, .unset, .unset, .unset]) (S' := [(.ref o_SYMBOL)]) rfl rfl rfl ?_
    refine Go.astore (pc' := 15) #[.val (.int p0), .val (.int p1), .val (.int p2), .val (.int p3), .val (.int p4), .val (.int ((p0 &&& (2147483647 : Int32)) % (5 : Int32))), .val (.ref o_SYMBOL), .unset, .unset, .unset, .unset, .unset, .unset, .unset, .unset, .unset, .unset, .unset] at_13 rfl rfl rfl ?_
    refine Go.iloadN (pc' := 16) at_15 rfl rfl ?_
    refine Go.ldcI (pc' := 18) (a1 := a0) at_16 (hw _ (List.mem_of_getElem? (i := 0) rfl)) rfl ?_
    refine Go.iand (pc' := 19) at_18 rfl ?_
    refine Go.iconst (pc' := 20) 3 at_19 rfl rfl ?_
    refine Go.irem (pc' := 21) at_20 (by decide) rfl ?_
    refine Go.istore (pc' := 23) #[.val (.int p0), .val (.int p1), .val (.int p2), .val (.int p3), .val (.int p4), .val (.int ((p0 &&& (2147483647 : Int32)) % (5 : Int32))), .val (.ref o_SYMBOL), .val (.int ((p1 &&& (2147483647 : Int32)) % (3 : Int32))), .unset, .unset, .unset, .unset, .unset, .unset, .unset, .unset, .unset, .unset] at_21 rfl rfl ?_
    refine Go.iloadN (pc' := 24) at_23 rfl rfl ?_
    refine Go.bipush (pc' := 26) 8 at_24 rfl rfl ?_
    refine Go.iushr (pc' := 27) at_26 rfl ?_
    refine Go.sipush (pc' := 30) 255 at_27 rfl rfl ?_
    refine Go.iand (pc' := 31) at_30 rfl ?_
    refine Go.i2c (pc' := 32) at_31 rfl ?_
    refine Go.istore (pc' := 34) #[.val (.int p0), .val (.int p1), .val (.int p2), .val (.int p3), .val (.int p4), .val (.int ((p0 &&& (2147483647 : Int32)) % (5 : Int32))), .val (.ref o_SYMBOL), .val (.int ((p1 &&& (2147483647 : Int32)) % (3 : Int32))), .val (.int (nar .char ((usr p1 (8 : Int32)) &&& (255 : Int32)))), .unset, .unset, .unset, .unset, .unset, .unset, .unset, .unset, .unset] at_32 rfl rfl ?_
    refine Go.iloadN (pc' := 35) at_34 rfl rfl ?_
    refine Go.bipush (pc' := 37) 16 at_35 rfl rfl ?_
    refine Go.iushr (pc' := 38) at_37 rfl ?_
    refine Go.sipush (pc' := 41) 255 at_38 rfl rfl ?_
    refine Go.iand (pc' := 42) at_41 rfl ?_
    refine Go.i2c (pc' := 43) at_42 rfl ?_
    refine Go.istore (pc' := 45) #[.val (.int p0), .val (.int p1), .val (.int p2), .val (.int p3), .val (.int p4), .val (.int ((p0 &&& (2147483647 : Int32)) % (5 : Int32))), .val (.ref o_SYMBOL), .val (.int ((p1 &&& (2147483647 : Int32)) % (3 : Int32))), .val (.int (nar .char ((usr p1 (8 : Int32)) &&& (255 : Int32)))), .val (.int (nar .char ((usr p1 (16 : Int32)) &&& (255 : Int32)))), .unset, .unset, .unset, .unset, .unset, .unset, .unset, .unset] at_43 rfl rfl ?_
    refine Go.iloadN (pc' := 46) at_45 rfl rfl ?_
    refine Go.ldcI (pc' := 48) (a1 := a0) at_46 (hw _ (List.mem_of_getElem? (i := 0) rfl)) rfl ?_
    refine Go.iand (pc' := 49) at_48 rfl ?_
    refine Go.iconst (pc' := 50) 3 at_49 rfl rfl ?_
    refine Go.irem (pc' := 51) at_50 (by decide) rfl ?_
    refine Go.istore (pc' := 53) #[.val (.int p0), .val (.int p1), .val (.int p2), .val (.int p3), .val (.int p4), .val (.int ((p0 &&& (2147483647 : Int32)) % (5 : Int32))), .val (.ref o_SYMBOL), .val (.int ((p1 &&& (2147483647 : Int32)) % (3 : Int32))), .val (.int (nar .char ((usr p1 (8 : Int32)) &&& (255 : Int32)))), .val (.int (nar .char ((usr p1 (16 : Int32)) &&& (255 : Int32)))), .val (.int ((p2 &&& (2147483647 : Int32)) % (3 : Int32))), .unset, .unset, .unset, .unset, .unset, .unset, .unset] at_51 rfl rfl ?_
    refine Go.iload (pc' := 55) at_53 rfl rfl ?_
    refine Go.iloadN (pc' := 56) at_55 rfl rfl ?_
    refine Go.bipush (pc' := 58) 8 at_56 rfl rfl ?_
    refine Go.iushr (pc' := 59) at_58 rfl ?_
    refine Go.iconst (pc' := 60) 3 at_59 rfl rfl ?_
    refine Go.iand (pc' := 61) at_60 rfl ?_
    refine Go.iadd (pc' := 62) at_61 rfl ?_
    refine Go.sipush (pc' := 65) 255 at_62 rfl rfl ?_
    refine Go.iand (pc' := 66) at_65 rfl ?_
    refine Go.i2c (pc' := 67) at_66 rfl ?_
    refine Go.istore (pc' := 69) #[.val (.int p0), .val (.int p1), .val (.int p2), .val (.int p3), .val (.int p4), .val (.int ((p0 &&& (2147483647 : Int32)) % (5 : Int32))), .val (.ref o_SYMBOL), .val (.int ((p1 &&& (2147483647 : Int32)) % (3 : Int32))), .val (.int (nar .char ((usr p1 (8 : Int32)) &&& (255 : Int32)))), .val (.int (nar .char ((usr p1 (16 : Int32)) &&& (255 : Int32)))), .val (.int ((p2 &&& (2147483647 : Int32)) % (3 : Int32))), .val (.int (nar .char (((nar .char ((usr p1 (8 : Int32)) &&& (255 : Int32))) + ((usr p2 (8 : Int32)) &&& (3 : Int32))) &&& (255 : Int32)))), .unset, .unset, .unset, .unset, .unset, .unset] at_67 rfl rfl ?_
    refine Go.iload (pc' := 71) at_69 rfl rfl ?_
    refine Go.iloadN (pc' := 72) at_71 rfl rfl ?_
    refine Go.bipush (pc' := 74) 10 at_72 rfl rfl ?_
    refine Go.iushr (pc' := 75) at_74 rfl ?_
    refine Go.iconst (pc' := 76) 3 at_75 rfl rfl ?_
    refine Go.iand (pc' := 77) at_76 rfl ?_
    refine Go.iadd (pc' := 78) at_77 rfl ?_
    refine Go.sipush (pc' := 81) 255 at_78 rfl rfl ?_
    refine Go.iand (pc' := 82) at_81 rfl ?_
    refine Go.i2c (pc' := 83) at_82 rfl ?_
    refine Go.istore (pc' := 85) #[.val (.int p0), .val (.int p1), .val (.int p2), .val (.int p3), .val (.int p4), .val (.int ((p0 &&& (2147483647 : Int32)) % (5 : Int32))), .val (.ref o_SYMBOL), .val (.int ((p1 &&& (2147483647 : Int32)) % (3 : Int32))), .val (.int (nar .char ((usr p1 (8 : Int32)) &&& (255 : Int32)))), .val (.int (nar .char ((usr p1 (16 : Int32)) &&& (255 : Int32)))), .val (.int ((p2 &&& (2147483647 : Int32)) % (3 : Int32))), .val (.int (nar .char (((nar .char ((usr p1 (8 : Int32)) &&& (255 : Int32))) + ((usr p2 (8 : Int32)) &&& (3 : Int32))) &&& (255 : Int32)))), .val (.int (nar .char (((nar .char ((usr p1 (16 : Int32)) &&& (255 : Int32))) + ((usr p2 (10 : Int32)) &&& (3 : Int32))) &&& (255 : Int32)))), .unset, .unset, .unset, .unset, .unset] at_83 rfl rfl ?_
    refine Go.iload (pc' := 87) at_85 rfl rfl ?_
    refine Go.iload (pc' := 89) at_87 rfl rfl ?_
    refine Go.iload (pc' := 91) at_89 rfl rfl ?_
    refine Go.callS (a1 := a0) (pc' := 94) (argsL := [(.int ((p1 &&& (2147483647 : Int32)) % (3 : Int32))), (.int (nar .char ((usr p1 (8 : Int32)) &&& (255 : Int32)))), (.int (nar .char ((usr p1 (16 : Int32)) &&& (255 : Int32))))]) (rest := []) (ct_mk l Z a0 hw n0 h0 ((p1 &&& (2147483647 : Int32)) % (3 : Int32)) (nar .char ((usr p1 (8 : Int32)) &&& (255 : Int32))) (nar .char ((usr p1 (16 : Int32)) &&& (255 : Int32))) (own_ch (usr p1 (8 : Int32))).1 (own_ch (usr p1 (16 : Int32))).1 (own_ch (usr p1 (8 : Int32))).2.1 (own_ch (usr p1 (16 : Int32))).2.1 (by omega) cs S_cs hcs) at_91 (hw _ (List.mem_of_getElem? (i := 8) rfl)) (hw _ (List.mem_of_getElem? (i := 9) rfl)) (hw _ (List.mem_of_getElem? (i := 3) rfl)) (hw _ (List.mem_of_getElem? (i := 10) rfl)) (by decide) (lenOf pd__28ICC_29Ljava_2flang_2fString_3b rfl) rfl 0 rfl rfl (by decide) (by decide) (by decide) (by decide) (fun _ q => nomatch q) rfl (fun v_180 h_181 N_182 hQ_183 hle_184 => ?_)
    obtain ⟨a_170, b_171, k_172, rfl, g_173, g_174, K_175, X_176, F_177, F_178, A_179⟩ := hQ_183
    have szh_181 : h0.size ≤ h_181.size := K_175.1
    have ltb_171 := nlt A_179.lt
    have lta_170 := nlt g_174
    refine Go.re (pc' := 94) (L' := #[.val (.int p0), .val (.int p1), .val (.int p2), .val (.int p3), .val (.int p4), .val (.int ((p0 &&& (2147483647 : Int32)) % (5 : Int32))), .val (.ref o_SYMBOL), .val (.int ((p1 &&& (2147483647 : Int32)) % (3 : Int32))), .val (.int (nar .char ((usr p1 (8 : Int32)) &&& (255 : Int32)))), .val (.int (nar .char ((usr p1 (16 : Int32)) &&& (255 : Int32)))), .val (.int ((p2 &&& (2147483647 : Int32)) % (3 : Int32))), .val (.int (nar .char (((nar .char ((usr p1 (8 : Int32)) &&& (255 : Int32))) + ((usr p2 (8 : Int32)) &&& (3 : Int32))) &&& (255 : Int32)))), .val (.int (nar .char (((nar .char ((usr p1 (16 : Int32)) &&& (255 : Int32))) + ((usr p2 (10 : Int32)) &&& (3 : Int32))) &&& (255 : Int32)))), .unset, .unset, .unset, .unset, .unset]) (S' := [(.ref a_170)]) rfl rfl rfl ?_
    refine Go.astore (pc' := 96) #[.val (.int p0), .val (.int p1), .val (.int p2), .val (.int p3), .val (.int p4), .val (.int ((p0 &&& (2147483647 : Int32)) % (5 : Int32))), .val (.ref o_SYMBOL), .val (.int ((p1 &&& (2147483647 : Int32)) % (3 : Int32))), .val (.int (nar .char ((usr p1 (8 : Int32)) &&& (255 : Int32)))), .val (.int (nar .char ((usr p1 (16 : Int32)) &&& (255 : Int32)))), .val (.int ((p2 &&& (2147483647 : Int32)) % (3 : Int32))), .val (.int (nar .char (((nar .char ((usr p1 (8 : Int32)) &&& (255 : Int32))) + ((usr p2 (8 : Int32)) &&& (3 : Int32))) &&& (255 : Int32)))), .val (.int (nar .char (((nar .char ((usr p1 (16 : Int32)) &&& (255 : Int32))) + ((usr p2 (10 : Int32)) &&& (3 : Int32))) &&& (255 : Int32)))), .val (.ref a_170), .unset, .unset, .unset, .unset] at_94 rfl rfl rfl ?_
    refine Go.iload (pc' := 98) at_96 rfl rfl ?_
    refine Go.iload (pc' := 100) at_98 rfl rfl ?_
    refine Go.iload (pc' := 102) at_100 rfl rfl ?_
    have F_195 : Sta Z h_181 "java/lang/String" "COMPACT_STRINGS" "Z" (.int cs) := (sta_keep S_cs K_175 ns0)
    refine Go.callS (a1 := a0) (pc' := 105) (argsL := [(.int ((p2 &&& (2147483647 : Int32)) % (3 : Int32))), (.int (nar .char (((nar .char ((usr p1 (8 : Int32)) &&& (255 : Int32))) + ((usr p2 (8 : Int32)) &&& (3 : Int32))) &&& (255 : Int32)))), (.int (nar .char (((nar .char ((usr p1 (16 : Int32)) &&& (255 : Int32))) + ((usr p2 (10 : Int32)) &&& (3 : Int32))) &&& (255 : Int32))))]) (rest := []) (ct_mk l Z a0 hw n0 h_181 ((p2 &&& (2147483647 : Int32)) % (3 : Int32)) (nar .char (((nar .char ((usr p1 (8 : Int32)) &&& (255 : Int32))) + ((usr p2 (8 : Int32)) &&& (3 : Int32))) &&& (255 : Int32))) (nar .char (((nar .char ((usr p1 (16 : Int32)) &&& (255 : Int32))) + ((usr p2 (10 : Int32)) &&& (3 : Int32))) &&& (255 : Int32))) (own_ch ((nar .char ((usr p1 (8 : Int32)) &&& (255 : Int32))) + ((usr p2 (8 : Int32)) &&& (3 : Int32)))).1 (own_ch ((nar .char ((usr p1 (16 : Int32)) &&& (255 : Int32))) + ((usr p2 (10 : Int32)) &&& (3 : Int32)))).1 (own_ch ((nar .char ((usr p1 (8 : Int32)) &&& (255 : Int32))) + ((usr p2 (8 : Int32)) &&& (3 : Int32)))).2.1 (own_ch ((nar .char ((usr p1 (16 : Int32)) &&& (255 : Int32))) + ((usr p2 (10 : Int32)) &&& (3 : Int32)))).2.1 (by omega) cs F_195 hcs) at_102 (hw _ (List.mem_of_getElem? (i := 8) rfl)) (hw _ (List.mem_of_getElem? (i := 9) rfl)) (hw _ (List.mem_of_getElem? (i := 3) rfl)) (hw _ (List.mem_of_getElem? (i := 10) rfl)) (by decide) (lenOf pd__28ICC_29Ljava_2flang_2fString_3b rfl) rfl 0 rfl rfl (by decide) (by decide) (by decide) (by decide) (fun _ q => nomatch q) rfl (fun v_196 h_197 N_198 hQ_199 hle_200 => ?_)
    obtain ⟨a_185, b_186, k_187, rfl, g_188, g_189, K_190, X_191, F_192, F_193, A_194⟩ := hQ_199
    have szh_197 : h_181.size ≤ h_197.size := K_190.1
    have ltb_186 := nlt A_194.lt
    have lta_185 := nlt g_189
    refine Go.re (pc' := 105) (L' := #[.val (.int p0), .val (.int p1), .val (.int p2), .val (.int p3), .val (.int p4), .val (.int ((p0 &&& (2147483647 : Int32)) % (5 : Int32))), .val (.ref o_SYMBOL), .val (.int ((p1 &&& (2147483647 : Int32)) % (3 : Int32))), .val (.int (nar .char ((usr p1 (8 : Int32)) &&& (255 : Int32)))), .val (.int (nar .char ((usr p1 (16 : Int32)) &&& (255 : Int32)))), .val (.int ((p2 &&& (2147483647 : Int32)) % (3 : Int32))), .val (.int (nar .char (((nar .char ((usr p1 (8 : Int32)) &&& (255 : Int32))) + ((usr p2 (8 : Int32)) &&& (3 : Int32))) &&& (255 : Int32)))), .val (.int (nar .char (((nar .char ((usr p1 (16 : Int32)) &&& (255 : Int32))) + ((usr p2 (10 : Int32)) &&& (3 : Int32))) &&& (255 : Int32)))), .val (.ref a_170), .unset, .unset, .unset, .unset]) (S' := [(.ref a_185)]) rfl rfl rfl ?_
    refine Go.astore (pc' := 107) #[.val (.int p0), .val (.int p1), .val (.int p2), .val (.int p3), .val (.int p4), .val (.int ((p0 &&& (2147483647 : Int32)) % (5 : Int32))), .val (.ref o_SYMBOL), .val (.int ((p1 &&& (2147483647 : Int32)) % (3 : Int32))), .val (.int (nar .char ((usr p1 (8 : Int32)) &&& (255 : Int32)))), .val (.int (nar .char ((usr p1 (16 : Int32)) &&& (255 : Int32)))), .val (.int ((p2 &&& (2147483647 : Int32)) % (3 : Int32))), .val (.int (nar .char (((nar .char ((usr p1 (8 : Int32)) &&& (255 : Int32))) + ((usr p2 (8 : Int32)) &&& (3 : Int32))) &&& (255 : Int32)))), .val (.int (nar .char (((nar .char ((usr p1 (16 : Int32)) &&& (255 : Int32))) + ((usr p2 (10 : Int32)) &&& (3 : Int32))) &&& (255 : Int32)))), .val (.ref a_170), .val (.ref a_185), .unset, .unset, .unset] at_105 rfl rfl rfl ?_
    refine Go.newO (pc' := 110) (a1 := a0) at_107 (hw _ (List.mem_of_getElem? (i := 44) rfl)) (hw _ (List.mem_of_getElem? (i := 45) rfl)) (hw _ (List.mem_of_getElem? (i := 46) rfl)) (by decide) (by decide) rfl (fun a_201 h_202 ha_204 E_203 X_205 Df_206 => ?_)
    have szh_202 : h_197.size ≤ h_202.size := E_203.1
    have lta_201 := nlt X_205.lt
    have qa_201 := neq ha_204
    have F_207 : Fld Z h_202 a_201 "com/example/relations_into_instances/relationsintoinstances/parse/Token" "kind" "Lcom/example/relations_into_instances/relationsintoinstances/parse/Token$Kind;" (.null) := Df_206 (Or.inr (hw _ (List.mem_of_getElem? (i := 57) rfl))) (ty := (.object "com/example/relations_into_instances/relationsintoinstances/parse/Token$Kind")) (by decide)
    have F_208 : Fld Z h_202 a_201 "com/example/relations_into_instances/relationsintoinstances/parse/Token" "text" "Ljava/lang/String;" (.null) := Df_206 (Or.inr (hw _ (List.mem_of_getElem? (i := 59) rfl))) (ty := (.object "java/lang/String")) (by decide)
    have F_209 : Fld Z h_202 a_201 "com/example/relations_into_instances/relationsintoinstances/parse/Token" "line" "I" (.int (0 : Int32)) := Df_206 (Or.inr (hw _ (List.mem_of_getElem? (i := 61) rfl))) (ty := .int) (by decide)
    have F_210 : Fld Z h_202 a_201 "com/example/relations_into_instances/relationsintoinstances/parse/Token" "column" "I" (.int (0 : Int32)) := Df_206 (Or.inr (hw _ (List.mem_of_getElem? (i := 63) rfl))) (ty := .int) (by decide)
    refine Go.dup (pc' := 111) at_110 rfl rfl ?_
    refine Go.aload (pc' := 113) at_111 rfl rfl rfl ?_
    refine Go.aload (pc' := 115) at_113 rfl rfl rfl ?_
    refine Go.iloadN (pc' := 116) at_115 rfl rfl ?_
    refine Go.iload (pc' := 118) at_116 rfl rfl ?_
    refine Go.callN (a1 := a0) (pc' := 121) (argsL := [(.ref o_SYMBOL), (.ref a_170), (.int p3), (.int p4)]) (rest := [(.ref a_201)]) (ct_tok l Z a0 hw n0 h_202 a_201 o_SYMBOL a_170 p3 p4 (by omega) X_205 F_207 F_208 F_209 F_210) at_118 rfl (hw _ (List.mem_of_getElem? (i := 47) rfl)) (hw _ (List.mem_of_getElem? (i := 48) rfl)) (hw _ (List.mem_of_getElem? (i := 46) rfl)) (hw _ (List.mem_of_getElem? (i := 49) rfl)) (by decide) (lenOf pd__28Lcom_2fexample_2frelations_into_instances_2frelationsintoinstances_2fparse_2fToken_24Kind_3bLjava_2flang_2fString_3bII_29V rfl) rfl 1 rfl rfl (by decide) (by decide) (by decide) (by decide) (fun _ q => nomatch q) rfl (fun v_215 h_216 N_217 hQ_218 hle_219 => ?_)
    obtain ⟨rfl, K_211, X_212, F_213, F_214⟩ := hQ_218
    have szh_216 : h_202.size ≤ h_216.size := K_211.1
    refine Go.re (pc' := 121) (L' := #[.val (.int p0), .val (.int p1), .val (.int p2), .val (.int p3), .val (.int p4), .val (.int ((p0 &&& (2147483647 : Int32)) % (5 : Int32))), .val (.ref o_SYMBOL), .val (.int ((p1 &&& (2147483647 : Int32)) % (3 : Int32))), .val (.int (nar .char ((usr p1 (8 : Int32)) &&& (255 : Int32)))), .val (.int (nar .char ((usr p1 (16 : Int32)) &&& (255 : Int32)))), .val (.int ((p2 &&& (2147483647 : Int32)) % (3 : Int32))), .val (.int (nar .char (((nar .char ((usr p1 (8 : Int32)) &&& (255 : Int32))) + ((usr p2 (8 : Int32)) &&& (3 : Int32))) &&& (255 : Int32)))), .val (.int (nar .char (((nar .char ((usr p1 (16 : Int32)) &&& (255 : Int32))) + ((usr p2 (10 : Int32)) &&& (3 : Int32))) &&& (255 : Int32)))), .val (.ref a_170), .val (.ref a_185), .unset, .unset, .unset]) (S' := [(.ref a_201)]) rfl rfl rfl ?_
    refine Go.astore (pc' := 123) #[.val (.int p0), .val (.int p1), .val (.int p2), .val (.int p3), .val (.int p4), .val (.int ((p0 &&& (2147483647 : Int32)) % (5 : Int32))), .val (.ref o_SYMBOL), .val (.int ((p1 &&& (2147483647 : Int32)) % (3 : Int32))), .val (.int (nar .char ((usr p1 (8 : Int32)) &&& (255 : Int32)))), .val (.int (nar .char ((usr p1 (16 : Int32)) &&& (255 : Int32)))), .val (.int ((p2 &&& (2147483647 : Int32)) % (3 : Int32))), .val (.int (nar .char (((nar .char ((usr p1 (8 : Int32)) &&& (255 : Int32))) + ((usr p2 (8 : Int32)) &&& (3 : Int32))) &&& (255 : Int32)))), .val (.int (nar .char (((nar .char ((usr p1 (16 : Int32)) &&& (255 : Int32))) + ((usr p2 (10 : Int32)) &&& (3 : Int32))) &&& (255 : Int32)))), .val (.ref a_170), .val (.ref a_185), .val (.ref a_201), .unset, .unset] at_121 rfl rfl rfl ?_
    refine Go.iload (pc' := 125) at_123 rfl rfl ?_
    refine Go.iconst (pc' := 126) 2 at_125 rfl rfl ?_
    refine Go.icmpF (pc' := 129) at_126 (fun q => by rw [hi_1] at q; revert q; decide) rfl ?_
    refine Go.iload (pc' := 131) at_129 rfl rfl ?_
    refine Go.iconst (pc' := 132) 3 at_131 rfl rfl ?_
    refine Go.icmpF (pc' := 135) at_132 (hi_1) rfl ?_
    refine Go.iconst (pc' := 136) 1 at_135 rfl rfl ?_
    refine Go.goto (pc' := 140) at_136 (by decide) (by decide) ?_
    refine Go.istore (pc' := 142) #[.val (.int p0), .val (.int p1), .val (.int p2), .val (.int p3), .val (.int p4), .val (.int ((p0 &&& (2147483647 : Int32)) % (5 : Int32))), .val (.ref o_SYMBOL), .val (.int ((p1 &&& (2147483647 : Int32)) % (3 : Int32))), .val (.int (nar .char ((usr p1 (8 : Int32)) &&& (255 : Int32)))), .val (.int (nar .char ((usr p1 (16 : Int32)) &&& (255 : Int32)))), .val (.int ((p2 &&& (2147483647 : Int32)) % (3 : Int32))), .val (.int (nar .char (((nar .char ((usr p1 (8 : Int32)) &&& (255 : Int32))) + ((usr p2 (8 : Int32)) &&& (3 : Int32))) &&& (255 : Int32)))), .val (.int (nar .char (((nar .char ((usr p1 (16 : Int32)) &&& (255 : Int32))) + ((usr p2 (10 : Int32)) &&& (3 : Int32))) &&& (255 : Int32)))), .val (.ref a_170), .val (.ref a_185), .val (.ref a_201), .val (.int (1 : Int32)), .unset] at_140 rfl rfl ?_
    refine Go.iload (pc' := 144) at_142 rfl rfl ?_
    refine Go.iload (pc' := 146) at_144 rfl rfl ?_
    refine Go.icmp (pc' := 179) (pc'' := 149) at_146 (by decide) (by decide) rfl (fun hc_220 => ?_) (fun hc_220 => ?_)
    · have hc_220 : ¬ (((p1 &&& (2147483647 : Int32)) % (3 : Int32)) = ((p2 &&& (2147483647 : Int32)) % (3 : Int32))) := hc_220
      refine Go.iconst (pc' := 180) 0 at_179 rfl rfl ?_
      refine Go.istore (pc' := 182) #[.val (.int p0), .val (.int p1), .val (.int p2), .val (.int p3), .val (.int p4), .val (.int ((p0 &&& (2147483647 : Int32)) % (5 : Int32))), .val (.ref o_SYMBOL), .val (.int ((p1 &&& (2147483647 : Int32)) % (3 : Int32))), .val (.int (nar .char ((usr p1 (8 : Int32)) &&& (255 : Int32)))), .val (.int (nar .char ((usr p1 (16 : Int32)) &&& (255 : Int32)))), .val (.int ((p2 &&& (2147483647 : Int32)) % (3 : Int32))), .val (.int (nar .char (((nar .char ((usr p1 (8 : Int32)) &&& (255 : Int32))) + ((usr p2 (8 : Int32)) &&& (3 : Int32))) &&& (255 : Int32)))), .val (.int (nar .char (((nar .char ((usr p1 (16 : Int32)) &&& (255 : Int32))) + ((usr p2 (10 : Int32)) &&& (3 : Int32))) &&& (255 : Int32)))), .val (.ref a_170), .val (.ref a_185), .val (.ref a_201), .val (.int (1 : Int32)), .val (.int (0 : Int32))] at_180 rfl rfl ?_
      refine Go.aload (pc' := 184) at_182 rfl rfl rfl ?_
      refine Go.aload (pc' := 186) at_184 rfl rfl rfl ?_
      have F_221 : Exa Z h_216 a_170 "java/lang/String" := (Exa.keep (Exa.ext E_203 (Exa.keep X_176 K_190)) K_211)
      have F_222 : Fld Z h_216 a_170 "java/lang/String" "coder" "B" (.int (0 : Int32)) := (Fld.keep (Fld.ext E_203 (Fld.keep F_177 K_190 nin0)) K_211 (ninS (nne (by omega)) nin0))
      have F_223 : Fld Z h_216 a_170 "java/lang/String" "value" "[B" (.ref b_171) := (Fld.keep (Fld.ext E_203 (Fld.keep F_178 K_190 nin0)) K_211 (ninS (nne (by omega)) nin0))
      have F_224 : Arv Z h_216 b_171 k_172 .byte (Int32.ofNat (own_mk ((p1 &&& (2147483647 : Int32)) % (3 : Int32)) (nar .char ((usr p1 (8 : Int32)) &&& (255 : Int32))) (nar .char ((usr p1 (16 : Int32)) &&& (255 : Int32)))).length) ((own_mk ((p1 &&& (2147483647 : Int32)) % (3 : Int32)) (nar .char ((usr p1 (8 : Int32)) &&& (255 : Int32))) (nar .char ((usr p1 (16 : Int32)) &&& (255 : Int32)))).map Value.int) (.int 0) := (Arv.keep (Arv.ext (Arv.keep A_179 K_190 nin0) E_203) K_211 (ninS (nne (by omega)) nin0))
      have F_225 : Exa Z h_216 a_185 "java/lang/String" := (Exa.keep (Exa.ext E_203 X_191) K_211)
      have F_226 : Fld Z h_216 a_185 "java/lang/String" "coder" "B" (.int (0 : Int32)) := (Fld.keep (Fld.ext E_203 F_192) K_211 (ninS (nne (by omega)) nin0))
      have F_227 : Fld Z h_216 a_185 "java/lang/String" "value" "[B" (.ref b_186) := (Fld.keep (Fld.ext E_203 F_193) K_211 (ninS (nne (by omega)) nin0))
      have F_228 : Arv Z h_216 b_186 k_187 .byte (Int32.ofNat (own_mk ((p2 &&& (2147483647 : Int32)) % (3 : Int32)) (nar .char (((nar .char ((usr p1 (8 : Int32)) &&& (255 : Int32))) + ((usr p2 (8 : Int32)) &&& (3 : Int32))) &&& (255 : Int32))) (nar .char (((nar .char ((usr p1 (16 : Int32)) &&& (255 : Int32))) + ((usr p2 (10 : Int32)) &&& (3 : Int32))) &&& (255 : Int32)))).length) ((own_mk ((p2 &&& (2147483647 : Int32)) % (3 : Int32)) (nar .char (((nar .char ((usr p1 (8 : Int32)) &&& (255 : Int32))) + ((usr p2 (8 : Int32)) &&& (3 : Int32))) &&& (255 : Int32))) (nar .char (((nar .char ((usr p1 (16 : Int32)) &&& (255 : Int32))) + ((usr p2 (10 : Int32)) &&& (3 : Int32))) &&& (255 : Int32)))).map Value.int) (.int 0) := (Arv.keep (Arv.ext A_194 E_203) K_211 (ninS (nne (by omega)) nin0))
      have F_229 : Sta Z h_216 "com/example/relations_into_instances/relationsintoinstances/parse/Token$Kind" "KEYWORD" "Lcom/example/relations_into_instances/relationsintoinstances/parse/Token$Kind;" (.ref o_KEYWORD) := (sta_keep (Sta.ext E_203 (sta_keep (sta_keep S_KEYWORD K_175 ns0) K_190 ns0)) K_211 (nsS (Exa.nostat X_205) ns0))
      have F_230 : Sta Z h_216 "com/example/relations_into_instances/relationsintoinstances/parse/Token$Kind" "SYMBOL" "Lcom/example/relations_into_instances/relationsintoinstances/parse/Token$Kind;" (.ref o_SYMBOL) := (sta_keep (Sta.ext E_203 (sta_keep (sta_keep S_SYMBOL K_175 ns0) K_190 ns0)) K_211 (nsS (Exa.nostat X_205) ns0))
      have F_231 : Fld Z h_216 o_SYMBOL "java/lang/Enum" "ordinal" "I" (.int (3 : Int32)) := (Fld.keep (Fld.ext E_203 (Fld.keep (Fld.keep F_SYMBOL_ordinal K_175 nin0) K_190 nin0)) K_211 (ninS (nne (by omega)) nin0))
      have F_232 : Fld Z h_216 o_KEYWORD "java/lang/Enum" "ordinal" "I" (.int (2 : Int32)) := (Fld.keep (Fld.ext E_203 (Fld.keep (Fld.keep F_KEYWORD_ordinal K_175 nin0) K_190 nin0)) K_211 (ninS (nne (by omega)) nin0))
      have F_233 : Sta Z h_216 "java/lang/String" "COMPACT_STRINGS" "Z" (.int cs) := (sta_keep (Sta.ext E_203 (sta_keep F_195 K_190 ns0)) K_211 (nsS (Exa.nostat X_205) ns0))
      refine Go.callV (a1 := a0) (pc' := 189) (argsL := [(.ref a_185)]) (rest := []) (ct_isS l Z a0 hw n0 h_216 a_201 a_170 a_185 b_171 b_186 k_172 k_187 (own_mk ((p1 &&& (2147483647 : Int32)) % (3 : Int32)) (nar .char ((usr p1 (8 : Int32)) &&& (255 : Int32))) (nar .char ((usr p1 (16 : Int32)) &&& (255 : Int32)))) (own_mk ((p2 &&& (2147483647 : Int32)) % (3 : Int32)) (nar .char (((nar .char ((usr p1 (8 : Int32)) &&& (255 : Int32))) + ((usr p2 (8 : Int32)) &&& (3 : Int32))) &&& (255 : Int32))) (nar .char (((nar .char ((usr p1 (16 : Int32)) &&& (255 : Int32))) + ((usr p2 (10 : Int32)) &&& (3 : Int32))) &&& (255 : Int32)))) (own_mk_len _ _ _) (own_mk_len _ _ _) (nne (by omega)) cs F_233 hcs F_221 F_222 F_223 F_224 F_225 F_226 F_227 F_228 o_KEYWORD F_229 o_SYMBOL F_230 X_212 (Fld.ne F_231 F_232 (by decide)) F_213 F_214) at_186 (hw _ (List.mem_of_getElem? (i := 64) rfl)) (hw _ (List.mem_of_getElem? (i := 65) rfl)) (hw _ (List.mem_of_getElem? (i := 67) rfl)) (hw _ (List.mem_of_getElem? (i := 67) rfl)) (hw _ (List.mem_of_getElem? (i := 66) rfl)) (hw _ (List.mem_of_getElem? (i := 46) rfl)) (hw _ (List.mem_of_getElem? (i := 68) rfl)) X_212 (by decide) (lenOf pd__28Ljava_2flang_2fString_3b_29Z rfl) rfl 0 rfl rfl (by decide) (by decide) (by decide) (by decide) (fun _ q => nomatch q) rfl (fun v_234 h_235 N_236 hQ_237 hle_238 => ?_)
      obtain ⟨rfl, rfl⟩ := hQ_237
      refine Go.re (pc' := 189) (L' := #[.val (.int p0), .val (.int p1), .val (.int p2), .val (.int p3), .val (.int p4), .val (.int ((p0 &&& (2147483647 : Int32)) % (5 : Int32))), .val (.ref o_SYMBOL), .val (.int ((p1 &&& (2147483647 : Int32)) % (3 : Int32))), .val (.int (nar .char ((usr p1 (8 : Int32)) &&& (255 : Int32)))), .val (.int (nar .char ((usr p1 (16 : Int32)) &&& (255 : Int32)))), .val (.int ((p2 &&& (2147483647 : Int32)) % (3 : Int32))), .val (.int (nar .char (((nar .char ((usr p1 (8 : Int32)) &&& (255 : Int32))) + ((usr p2 (8 : Int32)) &&& (3 : Int32))) &&& (255 : Int32)))), .val (.int (nar .char (((nar .char ((usr p1 (16 : Int32)) &&& (255 : Int32))) + ((usr p2 (10 : Int32)) &&& (3 : Int32))) &&& (255 : Int32)))), .val (.ref a_170), .val (.ref a_185), .val (.ref a_201), .val (.int (1 : Int32)), .val (.int (0 : Int32))]) (S' := [(.int (if (own_mk ((p1 &&& (2147483647 : Int32)) % (3 : Int32)) (nar .char ((usr p1 (8 : Int32)) &&& (255 : Int32))) (nar .char ((usr p1 (16 : Int32)) &&& (255 : Int32)))) = (own_mk ((p2 &&& (2147483647 : Int32)) % (3 : Int32)) (nar .char (((nar .char ((usr p1 (8 : Int32)) &&& (255 : Int32))) + ((usr p2 (8 : Int32)) &&& (3 : Int32))) &&& (255 : Int32))) (nar .char (((nar .char ((usr p1 (16 : Int32)) &&& (255 : Int32))) + ((usr p2 (10 : Int32)) &&& (3 : Int32))) &&& (255 : Int32)))) then (1 : Int32) else 0))]) rfl rfl rfl ?_
      refine Go.iload (pc' := 191) at_189 rfl rfl ?_
      refine Go.ifF (pc' := 194) at_191 (show ¬ ((1 : Int32) = (0 : Int32)) by decide) rfl ?_
      refine Go.iload (pc' := 196) at_194 rfl rfl ?_
      refine Go.ifT (pc' := 203) at_196 (show (0 : Int32) = (0 : Int32) by decide) (by decide) (by decide) ?_
      refine Go.iconst (pc' := 204) 0 at_203 rfl rfl ?_
      refine Go.icmpF (pc' := 207) at_204 (by show (if (own_mk ((p1 &&& (2147483647 : Int32)) % (3 : Int32)) (nar .char ((usr p1 (8 : Int32)) &&& (255 : Int32))) (nar .char ((usr p1 (16 : Int32)) &&& (255 : Int32)))) = (own_mk ((p2 &&& (2147483647 : Int32)) % (3 : Int32)) (nar .char (((nar .char ((usr p1 (8 : Int32)) &&& (255 : Int32))) + ((usr p2 (8 : Int32)) &&& (3 : Int32))) &&& (255 : Int32))) (nar .char (((nar .char ((usr p1 (16 : Int32)) &&& (255 : Int32))) + ((usr p2 (10 : Int32)) &&& (3 : Int32))) &&& (255 : Int32)))) then (1 : Int32) else 0) = (0 : Int32); exact if_neg (own_ne_len (own_m3 _) (own_m3 _) hc_220 _ _ _ _)) rfl ?_
      refine Go.iconst (pc' := 208) 1 at_207 rfl rfl ?_
      refine Go.goto (pc' := 212) at_208 (by decide) (by decide) ?_
      refine Go.retN (t := .boolean) (1 : Int32) rfl (by simp) rfl [] (fun _ q => nomatch q) at_212 (by decide) (by decide) ?_
      exact rfl
    · have hc_220 : ((p1 &&& (2147483647 : Int32)) % (3 : Int32)) = ((p2 &&& (2147483647 : Int32)) % (3 : Int32)) := hc_220
      refine Go.iload (pc' := 151) at_149 rfl rfl ?_
      refine Go.iconst (pc' := 152) 1 at_151 rfl rfl ?_
      refine Go.icmp (pc' := 162) (pc'' := 155) at_152 (by decide) (by decide) rfl (fun hc_239 => ?_) (fun hc_239 => ?_)
      · have hc_239 : ((p1 &&& (2147483647 : Int32)) % (3 : Int32)) < (1 : Int32) := hc_239
        refine Go.iload (pc' := 164) at_162 rfl rfl ?_
        refine Go.iconst (pc' := 165) 2 at_164 rfl rfl ?_
        refine Go.icmpT (pc' := 175) at_165 (own_lt12 hc_239) (by decide) (by decide) ?_
        refine Go.iconst (pc' := 176) 1 at_175 rfl rfl ?_
        refine Go.goto (pc' := 180) at_176 (by decide) (by decide) ?_
        refine Go.istore (pc' := 182) #[.val (.int p0), .val (.int p1), .val (.int p2), .val (.int p3), .val (.int p4), .val (.int ((p0 &&& (2147483647 : Int32)) % (5 : Int32))), .val (.ref o_SYMBOL), .val (.int ((p1 &&& (2147483647 : Int32)) % (3 : Int32))), .val (.int (nar .char ((usr p1 (8 : Int32)) &&& (255 : Int32)))), .val (.int (nar .char ((usr p1 (16 : Int32)) &&& (255 : Int32)))), .val (.int ((p2 &&& (2147483647 : Int32)) % (3 : Int32))), .val (.int (nar .char (((nar .char ((usr p1 (8 : Int32)) &&& (255 : Int32))) + ((usr p2 (8 : Int32)) &&& (3 : Int32))) &&& (255 : Int32)))), .val (.int (nar .char (((nar .char ((usr p1 (16 : Int32)) &&& (255 : Int32))) + ((usr p2 (10 : Int32)) &&& (3 : Int32))) &&& (255 : Int32)))), .val (.ref a_170), .val (.ref a_185), .val (.ref a_201), .val (.int (1 : Int32)), .val (.int (1 : Int32))] at_180 rfl rfl ?_
        refine Go.aload (pc' := 184) at_182 rfl rfl rfl ?_
        refine Go.aload (pc' := 186) at_184 rfl rfl rfl ?_
        have F_240 : Exa Z h_216 a_170 "java/lang/String" := (Exa.keep (Exa.ext E_203 (Exa.keep X_176 K_190)) K_211)
        have F_241 : Fld Z h_216 a_170 "java/lang/String" "coder" "B" (.int (0 : Int32)) := (Fld.keep (Fld.ext E_203 (Fld.keep F_177 K_190 nin0)) K_211 (ninS (nne (by omega)) nin0))
        have F_242 : Fld Z h_216 a_170 "java/lang/String" "value" "[B" (.ref b_171) := (Fld.keep (Fld.ext E_203 (Fld.keep F_178 K_190 nin0)) K_211 (ninS (nne (by omega)) nin0))
        have F_243 : Arv Z h_216 b_171 k_172 .byte (Int32.ofNat (own_mk ((p1 &&& (2147483647 : Int32)) % (3 : Int32)) (nar .char ((usr p1 (8 : Int32)) &&& (255 : Int32))) (nar .char ((usr p1 (16 : Int32)) &&& (255 : Int32)))).length) ((own_mk ((p1 &&& (2147483647 : Int32)) % (3 : Int32)) (nar .char ((usr p1 (8 : Int32)) &&& (255 : Int32))) (nar .char ((usr p1 (16 : Int32)) &&& (255 : Int32)))).map Value.int) (.int 0) := (Arv.keep (Arv.ext (Arv.keep A_179 K_190 nin0) E_203) K_211 (ninS (nne (by omega)) nin0))
        have F_244 : Exa Z h_216 a_185 "java/lang/String" := (Exa.keep (Exa.ext E_203 X_191) K_211)
        have F_245 : Fld Z h_216 a_185 "java/lang/String" "coder" "B" (.int (0 : Int32)) := (Fld.keep (Fld.ext E_203 F_192) K_211 (ninS (nne (by omega)) nin0))
        have F_246 : Fld Z h_216 a_185 "java/lang/String" "value" "[B" (.ref b_186) := (Fld.keep (Fld.ext E_203 F_193) K_211 (ninS (nne (by omega)) nin0))
        have F_247 : Arv Z h_216 b_186 k_187 .byte (Int32.ofNat (own_mk ((p2 &&& (2147483647 : Int32)) % (3 : Int32)) (nar .char (((nar .char ((usr p1 (8 : Int32)) &&& (255 : Int32))) + ((usr p2 (8 : Int32)) &&& (3 : Int32))) &&& (255 : Int32))) (nar .char (((nar .char ((usr p1 (16 : Int32)) &&& (255 : Int32))) + ((usr p2 (10 : Int32)) &&& (3 : Int32))) &&& (255 : Int32)))).length) ((own_mk ((p2 &&& (2147483647 : Int32)) % (3 : Int32)) (nar .char (((nar .char ((usr p1 (8 : Int32)) &&& (255 : Int32))) + ((usr p2 (8 : Int32)) &&& (3 : Int32))) &&& (255 : Int32))) (nar .char (((nar .char ((usr p1 (16 : Int32)) &&& (255 : Int32))) + ((usr p2 (10 : Int32)) &&& (3 : Int32))) &&& (255 : Int32)))).map Value.int) (.int 0) := (Arv.keep (Arv.ext A_194 E_203) K_211 (ninS (nne (by omega)) nin0))
        have F_248 : Sta Z h_216 "com/example/relations_into_instances/relationsintoinstances/parse/Token$Kind" "KEYWORD" "Lcom/example/relations_into_instances/relationsintoinstances/parse/Token$Kind;" (.ref o_KEYWORD) := (sta_keep (Sta.ext E_203 (sta_keep (sta_keep S_KEYWORD K_175 ns0) K_190 ns0)) K_211 (nsS (Exa.nostat X_205) ns0))
        have F_249 : Sta Z h_216 "com/example/relations_into_instances/relationsintoinstances/parse/Token$Kind" "SYMBOL" "Lcom/example/relations_into_instances/relationsintoinstances/parse/Token$Kind;" (.ref o_SYMBOL) := (sta_keep (Sta.ext E_203 (sta_keep (sta_keep S_SYMBOL K_175 ns0) K_190 ns0)) K_211 (nsS (Exa.nostat X_205) ns0))
        have F_250 : Fld Z h_216 o_SYMBOL "java/lang/Enum" "ordinal" "I" (.int (3 : Int32)) := (Fld.keep (Fld.ext E_203 (Fld.keep (Fld.keep F_SYMBOL_ordinal K_175 nin0) K_190 nin0)) K_211 (ninS (nne (by omega)) nin0))
        have F_251 : Fld Z h_216 o_KEYWORD "java/lang/Enum" "ordinal" "I" (.int (2 : Int32)) := (Fld.keep (Fld.ext E_203 (Fld.keep (Fld.keep F_KEYWORD_ordinal K_175 nin0) K_190 nin0)) K_211 (ninS (nne (by omega)) nin0))
        have F_252 : Sta Z h_216 "java/lang/String" "COMPACT_STRINGS" "Z" (.int cs) := (sta_keep (Sta.ext E_203 (sta_keep F_195 K_190 ns0)) K_211 (nsS (Exa.nostat X_205) ns0))
        refine Go.callV (a1 := a0) (pc' := 189) (argsL := [(.ref a_185)]) (rest := []) (ct_isS l Z a0 hw n0 h_216 a_201 a_170 a_185 b_171 b_186 k_172 k_187 (own_mk ((p1 &&& (2147483647 : Int32)) % (3 : Int32)) (nar .char ((usr p1 (8 : Int32)) &&& (255 : Int32))) (nar .char ((usr p1 (16 : Int32)) &&& (255 : Int32)))) (own_mk ((p2 &&& (2147483647 : Int32)) % (3 : Int32)) (nar .char (((nar .char ((usr p1 (8 : Int32)) &&& (255 : Int32))) + ((usr p2 (8 : Int32)) &&& (3 : Int32))) &&& (255 : Int32))) (nar .char (((nar .char ((usr p1 (16 : Int32)) &&& (255 : Int32))) + ((usr p2 (10 : Int32)) &&& (3 : Int32))) &&& (255 : Int32)))) (own_mk_len _ _ _) (own_mk_len _ _ _) (nne (by omega)) cs F_252 hcs F_240 F_241 F_242 F_243 F_244 F_245 F_246 F_247 o_KEYWORD F_248 o_SYMBOL F_249 X_212 (Fld.ne F_250 F_251 (by decide)) F_213 F_214) at_186 (hw _ (List.mem_of_getElem? (i := 64) rfl)) (hw _ (List.mem_of_getElem? (i := 65) rfl)) (hw _ (List.mem_of_getElem? (i := 67) rfl)) (hw _ (List.mem_of_getElem? (i := 67) rfl)) (hw _ (List.mem_of_getElem? (i := 66) rfl)) (hw _ (List.mem_of_getElem? (i := 46) rfl)) (hw _ (List.mem_of_getElem? (i := 68) rfl)) X_212 (by decide) (lenOf pd__28Ljava_2flang_2fString_3b_29Z rfl) rfl 0 rfl rfl (by decide) (by decide) (by decide) (by decide) (fun _ q => nomatch q) rfl (fun v_253 h_254 N_255 hQ_256 hle_257 => ?_)
        obtain ⟨rfl, rfl⟩ := hQ_256
        refine Go.re (pc' := 189) (L' := #[.val (.int p0), .val (.int p1), .val (.int p2), .val (.int p3), .val (.int p4), .val (.int ((p0 &&& (2147483647 : Int32)) % (5 : Int32))), .val (.ref o_SYMBOL), .val (.int ((p1 &&& (2147483647 : Int32)) % (3 : Int32))), .val (.int (nar .char ((usr p1 (8 : Int32)) &&& (255 : Int32)))), .val (.int (nar .char ((usr p1 (16 : Int32)) &&& (255 : Int32)))), .val (.int ((p2 &&& (2147483647 : Int32)) % (3 : Int32))), .val (.int (nar .char (((nar .char ((usr p1 (8 : Int32)) &&& (255 : Int32))) + ((usr p2 (8 : Int32)) &&& (3 : Int32))) &&& (255 : Int32)))), .val (.int (nar .char (((nar .char ((usr p1 (16 : Int32)) &&& (255 : Int32))) + ((usr p2 (10 : Int32)) &&& (3 : Int32))) &&& (255 : Int32)))), .val (.ref a_170), .val (.ref a_185), .val (.ref a_201), .val (.int (1 : Int32)), .val (.int (1 : Int32))]) (S' := [(.int (if (own_mk ((p1 &&& (2147483647 : Int32)) % (3 : Int32)) (nar .char ((usr p1 (8 : Int32)) &&& (255 : Int32))) (nar .char ((usr p1 (16 : Int32)) &&& (255 : Int32)))) = (own_mk ((p2 &&& (2147483647 : Int32)) % (3 : Int32)) (nar .char (((nar .char ((usr p1 (8 : Int32)) &&& (255 : Int32))) + ((usr p2 (8 : Int32)) &&& (3 : Int32))) &&& (255 : Int32))) (nar .char (((nar .char ((usr p1 (16 : Int32)) &&& (255 : Int32))) + ((usr p2 (10 : Int32)) &&& (3 : Int32))) &&& (255 : Int32)))) then (1 : Int32) else 0))]) rfl rfl rfl ?_
        refine Go.iload (pc' := 191) at_189 rfl rfl ?_
        refine Go.ifF (pc' := 194) at_191 (show ¬ ((1 : Int32) = (0 : Int32)) by decide) rfl ?_
        refine Go.iload (pc' := 196) at_194 rfl rfl ?_
        refine Go.ifF (pc' := 199) at_196 (show ¬ ((1 : Int32) = (0 : Int32)) by decide) rfl ?_
        refine Go.iconst (pc' := 200) 1 at_199 rfl rfl ?_
        refine Go.goto (pc' := 204) at_200 (by decide) (by decide) ?_
        refine Go.icmpF (pc' := 207) at_204 (by show (if (own_mk ((p1 &&& (2147483647 : Int32)) % (3 : Int32)) (nar .char ((usr p1 (8 : Int32)) &&& (255 : Int32))) (nar .char ((usr p1 (16 : Int32)) &&& (255 : Int32)))) = (own_mk ((p2 &&& (2147483647 : Int32)) % (3 : Int32)) (nar .char (((nar .char ((usr p1 (8 : Int32)) &&& (255 : Int32))) + ((usr p2 (8 : Int32)) &&& (3 : Int32))) &&& (255 : Int32))) (nar .char (((nar .char ((usr p1 (16 : Int32)) &&& (255 : Int32))) + ((usr p2 (10 : Int32)) &&& (3 : Int32))) &&& (255 : Int32)))) then (1 : Int32) else 0) = (1 : Int32); exact if_pos (own_eq0 (own_m3 _) hc_220 hc_239)) rfl ?_
        refine Go.iconst (pc' := 208) 1 at_207 rfl rfl ?_
        refine Go.goto (pc' := 212) at_208 (by decide) (by decide) ?_
        refine Go.retN (t := .boolean) (1 : Int32) rfl (by simp) rfl [] (fun _ q => nomatch q) at_212 (by decide) (by decide) ?_
        exact rfl
      · have hc_239 : ¬ (((p1 &&& (2147483647 : Int32)) % (3 : Int32)) < (1 : Int32)) := hc_239
        refine Go.iload (pc' := 157) at_155 rfl rfl ?_
        refine Go.iload (pc' := 159) at_157 rfl rfl ?_
        refine Go.icmp (pc' := 179) (pc'' := 162) at_159 (by decide) (by decide) rfl (fun hc_258 => ?_) (fun hc_258 => ?_)
        · have hc_258 : ¬ ((nar .char ((usr p1 (8 : Int32)) &&& (255 : Int32))) = (nar .char (((nar .char ((usr p1 (8 : Int32)) &&& (255 : Int32))) + ((usr p2 (8 : Int32)) &&& (3 : Int32))) &&& (255 : Int32)))) := hc_258
          refine Go.iconst (pc' := 180) 0 at_179 rfl rfl ?_
          refine Go.istore (pc' := 182) #[.val (.int p0), .val (.int p1), .val (.int p2), .val (.int p3), .val (.int p4), .val (.int ((p0 &&& (2147483647 : Int32)) % (5 : Int32))), .val (.ref o_SYMBOL), .val (.int ((p1 &&& (2147483647 : Int32)) % (3 : Int32))), .val (.int (nar .char ((usr p1 (8 : Int32)) &&& (255 : Int32)))), .val (.int (nar .char ((usr p1 (16 : Int32)) &&& (255 : Int32)))), .val (.int ((p2 &&& (2147483647 : Int32)) % (3 : Int32))), .val (.int (nar .char (((nar .char ((usr p1 (8 : Int32)) &&& (255 : Int32))) + ((usr p2 (8 : Int32)) &&& (3 : Int32))) &&& (255 : Int32)))), .val (.int (nar .char (((nar .char ((usr p1 (16 : Int32)) &&& (255 : Int32))) + ((usr p2 (10 : Int32)) &&& (3 : Int32))) &&& (255 : Int32)))), .val (.ref a_170), .val (.ref a_185), .val (.ref a_201), .val (.int (1 : Int32)), .val (.int (0 : Int32))] at_180 rfl rfl ?_
          refine Go.aload (pc' := 184) at_182 rfl rfl rfl ?_
          refine Go.aload (pc' := 186) at_184 rfl rfl rfl ?_
          have F_259 : Exa Z h_216 a_170 "java/lang/String" := (Exa.keep (Exa.ext E_203 (Exa.keep X_176 K_190)) K_211)
          have F_260 : Fld Z h_216 a_170 "java/lang/String" "coder" "B" (.int (0 : Int32)) := (Fld.keep (Fld.ext E_203 (Fld.keep F_177 K_190 nin0)) K_211 (ninS (nne (by omega)) nin0))
          have F_261 : Fld Z h_216 a_170 "java/lang/String" "value" "[B" (.ref b_171) := (Fld.keep (Fld.ext E_203 (Fld.keep F_178 K_190 nin0)) K_211 (ninS (nne (by omega)) nin0))
          have F_262 : Arv Z h_216 b_171 k_172 .byte (Int32.ofNat (own_mk ((p1 &&& (2147483647 : Int32)) % (3 : Int32)) (nar .char ((usr p1 (8 : Int32)) &&& (255 : Int32))) (nar .char ((usr p1 (16 : Int32)) &&& (255 : Int32)))).length) ((own_mk ((p1 &&& (2147483647 : Int32)) % (3 : Int32)) (nar .char ((usr p1 (8 : Int32)) &&& (255 : Int32))) (nar .char ((usr p1 (16 : Int32)) &&& (255 : Int32)))).map Value.int) (.int 0) := (Arv.keep (Arv.ext (Arv.keep A_179 K_190 nin0) E_203) K_211 (ninS (nne (by omega)) nin0))
          have F_263 : Exa Z h_216 a_185 "java/lang/String" := (Exa.keep (Exa.ext E_203 X_191) K_211)
          have F_264 : Fld Z h_216 a_185 "java/lang/String" "coder" "B" (.int (0 : Int32)) := (Fld.keep (Fld.ext E_203 F_192) K_211 (ninS (nne (by omega)) nin0))
          have F_265 : Fld Z h_216 a_185 "java/lang/String" "value" "[B" (.ref b_186) := (Fld.keep (Fld.ext E_203 F_193) K_211 (ninS (nne (by omega)) nin0))
          have F_266 : Arv Z h_216 b_186 k_187 .byte (Int32.ofNat (own_mk ((p2 &&& (2147483647 : Int32)) % (3 : Int32)) (nar .char (((nar .char ((usr p1 (8 : Int32)) &&& (255 : Int32))) + ((usr p2 (8 : Int32)) &&& (3 : Int32))) &&& (255 : Int32))) (nar .char (((nar .char ((usr p1 (16 : Int32)) &&& (255 : Int32))) + ((usr p2 (10 : Int32)) &&& (3 : Int32))) &&& (255 : Int32)))).length) ((own_mk ((p2 &&& (2147483647 : Int32)) % (3 : Int32)) (nar .char (((nar .char ((usr p1 (8 : Int32)) &&& (255 : Int32))) + ((usr p2 (8 : Int32)) &&& (3 : Int32))) &&& (255 : Int32))) (nar .char (((nar .char ((usr p1 (16 : Int32)) &&& (255 : Int32))) + ((usr p2 (10 : Int32)) &&& (3 : Int32))) &&& (255 : Int32)))).map Value.int) (.int 0) := (Arv.keep (Arv.ext A_194 E_203) K_211 (ninS (nne (by omega)) nin0))
          have F_267 : Sta Z h_216 "com/example/relations_into_instances/relationsintoinstances/parse/Token$Kind" "KEYWORD" "Lcom/example/relations_into_instances/relationsintoinstances/parse/Token$Kind;" (.ref o_KEYWORD) := (sta_keep (Sta.ext E_203 (sta_keep (sta_keep S_KEYWORD K_175 ns0) K_190 ns0)) K_211 (nsS (Exa.nostat X_205) ns0))
          have F_268 : Sta Z h_216 "com/example/relations_into_instances/relationsintoinstances/parse/Token$Kind" "SYMBOL" "Lcom/example/relations_into_instances/relationsintoinstances/parse/Token$Kind;" (.ref o_SYMBOL) := (sta_keep (Sta.ext E_203 (sta_keep (sta_keep S_SYMBOL K_175 ns0) K_190 ns0)) K_211 (nsS (Exa.nostat X_205) ns0))
          have F_269 : Fld Z h_216 o_SYMBOL "java/lang/Enum" "ordinal" "I" (.int (3 : Int32)) := (Fld.keep (Fld.ext E_203 (Fld.keep (Fld.keep F_SYMBOL_ordinal K_175 nin0) K_190 nin0)) K_211 (ninS (nne (by omega)) nin0))
          have F_270 : Fld Z h_216 o_KEYWORD "java/lang/Enum" "ordinal" "I" (.int (2 : Int32)) := (Fld.keep (Fld.ext E_203 (Fld.keep (Fld.keep F_KEYWORD_ordinal K_175 nin0) K_190 nin0)) K_211 (ninS (nne (by omega)) nin0))
          have F_271 : Sta Z h_216 "java/lang/String" "COMPACT_STRINGS" "Z" (.int cs) := (sta_keep (Sta.ext E_203 (sta_keep F_195 K_190 ns0)) K_211 (nsS (Exa.nostat X_205) ns0))
          refine Go.callV (a1 := a0) (pc' := 189) (argsL := [(.ref a_185)]) (rest := []) (ct_isS l Z a0 hw n0 h_216 a_201 a_170 a_185 b_171 b_186 k_172 k_187 (own_mk ((p1 &&& (2147483647 : Int32)) % (3 : Int32)) (nar .char ((usr p1 (8 : Int32)) &&& (255 : Int32))) (nar .char ((usr p1 (16 : Int32)) &&& (255 : Int32)))) (own_mk ((p2 &&& (2147483647 : Int32)) % (3 : Int32)) (nar .char (((nar .char ((usr p1 (8 : Int32)) &&& (255 : Int32))) + ((usr p2 (8 : Int32)) &&& (3 : Int32))) &&& (255 : Int32))) (nar .char (((nar .char ((usr p1 (16 : Int32)) &&& (255 : Int32))) + ((usr p2 (10 : Int32)) &&& (3 : Int32))) &&& (255 : Int32)))) (own_mk_len _ _ _) (own_mk_len _ _ _) (nne (by omega)) cs F_271 hcs F_259 F_260 F_261 F_262 F_263 F_264 F_265 F_266 o_KEYWORD F_267 o_SYMBOL F_268 X_212 (Fld.ne F_269 F_270 (by decide)) F_213 F_214) at_186 (hw _ (List.mem_of_getElem? (i := 64) rfl)) (hw _ (List.mem_of_getElem? (i := 65) rfl)) (hw _ (List.mem_of_getElem? (i := 67) rfl)) (hw _ (List.mem_of_getElem? (i := 67) rfl)) (hw _ (List.mem_of_getElem? (i := 66) rfl)) (hw _ (List.mem_of_getElem? (i := 46) rfl)) (hw _ (List.mem_of_getElem? (i := 68) rfl)) X_212 (by decide) (lenOf pd__28Ljava_2flang_2fString_3b_29Z rfl) rfl 0 rfl rfl (by decide) (by decide) (by decide) (by decide) (fun _ q => nomatch q) rfl (fun v_272 h_273 N_274 hQ_275 hle_276 => ?_)
          obtain ⟨rfl, rfl⟩ := hQ_275
          refine Go.re (pc' := 189) (L' := #[.val (.int p0), .val (.int p1), .val (.int p2), .val (.int p3), .val (.int p4), .val (.int ((p0 &&& (2147483647 : Int32)) % (5 : Int32))), .val (.ref o_SYMBOL), .val (.int ((p1 &&& (2147483647 : Int32)) % (3 : Int32))), .val (.int (nar .char ((usr p1 (8 : Int32)) &&& (255 : Int32)))), .val (.int (nar .char ((usr p1 (16 : Int32)) &&& (255 : Int32)))), .val (.int ((p2 &&& (2147483647 : Int32)) % (3 : Int32))), .val (.int (nar .char (((nar .char ((usr p1 (8 : Int32)) &&& (255 : Int32))) + ((usr p2 (8 : Int32)) &&& (3 : Int32))) &&& (255 : Int32)))), .val (.int (nar .char (((nar .char ((usr p1 (16 : Int32)) &&& (255 : Int32))) + ((usr p2 (10 : Int32)) &&& (3 : Int32))) &&& (255 : Int32)))), .val (.ref a_170), .val (.ref a_185), .val (.ref a_201), .val (.int (1 : Int32)), .val (.int (0 : Int32))]) (S' := [(.int (if (own_mk ((p1 &&& (2147483647 : Int32)) % (3 : Int32)) (nar .char ((usr p1 (8 : Int32)) &&& (255 : Int32))) (nar .char ((usr p1 (16 : Int32)) &&& (255 : Int32)))) = (own_mk ((p2 &&& (2147483647 : Int32)) % (3 : Int32)) (nar .char (((nar .char ((usr p1 (8 : Int32)) &&& (255 : Int32))) + ((usr p2 (8 : Int32)) &&& (3 : Int32))) &&& (255 : Int32))) (nar .char (((nar .char ((usr p1 (16 : Int32)) &&& (255 : Int32))) + ((usr p2 (10 : Int32)) &&& (3 : Int32))) &&& (255 : Int32)))) then (1 : Int32) else 0))]) rfl rfl rfl ?_
          refine Go.iload (pc' := 191) at_189 rfl rfl ?_
          refine Go.ifF (pc' := 194) at_191 (show ¬ ((1 : Int32) = (0 : Int32)) by decide) rfl ?_
          refine Go.iload (pc' := 196) at_194 rfl rfl ?_
          refine Go.ifT (pc' := 203) at_196 (show (0 : Int32) = (0 : Int32) by decide) (by decide) (by decide) ?_
          refine Go.iconst (pc' := 204) 0 at_203 rfl rfl ?_
          refine Go.icmpF (pc' := 207) at_204 (by show (if (own_mk ((p1 &&& (2147483647 : Int32)) % (3 : Int32)) (nar .char ((usr p1 (8 : Int32)) &&& (255 : Int32))) (nar .char ((usr p1 (16 : Int32)) &&& (255 : Int32)))) = (own_mk ((p2 &&& (2147483647 : Int32)) % (3 : Int32)) (nar .char (((nar .char ((usr p1 (8 : Int32)) &&& (255 : Int32))) + ((usr p2 (8 : Int32)) &&& (3 : Int32))) &&& (255 : Int32))) (nar .char (((nar .char ((usr p1 (16 : Int32)) &&& (255 : Int32))) + ((usr p2 (10 : Int32)) &&& (3 : Int32))) &&& (255 : Int32)))) then (1 : Int32) else 0) = (0 : Int32); exact if_neg (own_ne0 (own_m3 _) hc_220 hc_239 hc_258)) rfl ?_
          refine Go.iconst (pc' := 208) 1 at_207 rfl rfl ?_
          refine Go.goto (pc' := 212) at_208 (by decide) (by decide) ?_
          refine Go.retN (t := .boolean) (1 : Int32) rfl (by simp) rfl [] (fun _ q => nomatch q) at_212 (by decide) (by decide) ?_
          exact rfl
        · have hc_258 : (nar .char ((usr p1 (8 : Int32)) &&& (255 : Int32))) = (nar .char (((nar .char ((usr p1 (8 : Int32)) &&& (255 : Int32))) + ((usr p2 (8 : Int32)) &&& (3 : Int32))) &&& (255 : Int32))) := hc_258
          refine Go.iload (pc' := 164) at_162 rfl rfl ?_
          refine Go.iconst (pc' := 165) 2 at_164 rfl rfl ?_
          refine Go.icmp (pc' := 175) (pc'' := 168) at_165 (by decide) (by decide) rfl (fun hc_277 => ?_) (fun hc_277 => ?_)
          · have hc_277 : ((p1 &&& (2147483647 : Int32)) % (3 : Int32)) < (2 : Int32) := hc_277
            refine Go.iconst (pc' := 176) 1 at_175 rfl rfl ?_
            refine Go.goto (pc' := 180) at_176 (by decide) (by decide) ?_
            refine Go.istore (pc' := 182) #[.val (.int p0), .val (.int p1), .val (.int p2), .val (.int p3), .val (.int p4), .val (.int ((p0 &&& (2147483647 : Int32)) % (5 : Int32))), .val (.ref o_SYMBOL), .val (.int ((p1 &&& (2147483647 : Int32)) % (3 : Int32))), .val (.int (nar .char ((usr p1 (8 : Int32)) &&& (255 : Int32)))), .val (.int (nar .char ((usr p1 (16 : Int32)) &&& (255 : Int32)))), .val (.int ((p2 &&& (2147483647 : Int32)) % (3 : Int32))), .val (.int (nar .char (((nar .char ((usr p1 (8 : Int32)) &&& (255 : Int32))) + ((usr p2 (8 : Int32)) &&& (3 : Int32))) &&& (255 : Int32)))), .val (.int (nar .char (((nar .char ((usr p1 (16 : Int32)) &&& (255 : Int32))) + ((usr p2 (10 : Int32)) &&& (3 : Int32))) &&& (255 : Int32)))), .val (.ref a_170), .val (.ref a_185), .val (.ref a_201), .val (.int (1 : Int32)), .val (.int (1 : Int32))] at_180 rfl rfl ?_
            refine Go.aload (pc' := 184) at_182 rfl rfl rfl ?_
            refine Go.aload (pc' := 186) at_184 rfl rfl rfl ?_
            have F_278 : Exa Z h_216 a_170 "java/lang/String" := (Exa.keep (Exa.ext E_203 (Exa.keep X_176 K_190)) K_211)
            have F_279 : Fld Z h_216 a_170 "java/lang/String" "coder" "B" (.int (0 : Int32)) := (Fld.keep (Fld.ext E_203 (Fld.keep F_177 K_190 nin0)) K_211 (ninS (nne (by omega)) nin0))
            have F_280 : Fld Z h_216 a_170 "java/lang/String" "value" "[B" (.ref b_171) := (Fld.keep (Fld.ext E_203 (Fld.keep F_178 K_190 nin0)) K_211 (ninS (nne (by omega)) nin0))
            have F_281 : Arv Z h_216 b_171 k_172 .byte (Int32.ofNat (own_mk ((p1 &&& (2147483647 : Int32)) % (3 : Int32)) (nar .char ((usr p1 (8 : Int32)) &&& (255 : Int32))) (nar .char ((usr p1 (16 : Int32)) &&& (255 : Int32)))).length) ((own_mk ((p1 &&& (2147483647 : Int32)) % (3 : Int32)) (nar .char ((usr p1 (8 : Int32)) &&& (255 : Int32))) (nar .char ((usr p1 (16 : Int32)) &&& (255 : Int32)))).map Value.int) (.int 0) := (Arv.keep (Arv.ext (Arv.keep A_179 K_190 nin0) E_203) K_211 (ninS (nne (by omega)) nin0))
            have F_282 : Exa Z h_216 a_185 "java/lang/String" := (Exa.keep (Exa.ext E_203 X_191) K_211)
            have F_283 : Fld Z h_216 a_185 "java/lang/String" "coder" "B" (.int (0 : Int32)) := (Fld.keep (Fld.ext E_203 F_192) K_211 (ninS (nne (by omega)) nin0))
            have F_284 : Fld Z h_216 a_185 "java/lang/String" "value" "[B" (.ref b_186) := (Fld.keep (Fld.ext E_203 F_193) K_211 (ninS (nne (by omega)) nin0))
            have F_285 : Arv Z h_216 b_186 k_187 .byte (Int32.ofNat (own_mk ((p2 &&& (2147483647 : Int32)) % (3 : Int32)) (nar .char (((nar .char ((usr p1 (8 : Int32)) &&& (255 : Int32))) + ((usr p2 (8 : Int32)) &&& (3 : Int32))) &&& (255 : Int32))) (nar .char (((nar .char ((usr p1 (16 : Int32)) &&& (255 : Int32))) + ((usr p2 (10 : Int32)) &&& (3 : Int32))) &&& (255 : Int32)))).length) ((own_mk ((p2 &&& (2147483647 : Int32)) % (3 : Int32)) (nar .char (((nar .char ((usr p1 (8 : Int32)) &&& (255 : Int32))) + ((usr p2 (8 : Int32)) &&& (3 : Int32))) &&& (255 : Int32))) (nar .char (((nar .char ((usr p1 (16 : Int32)) &&& (255 : Int32))) + ((usr p2 (10 : Int32)) &&& (3 : Int32))) &&& (255 : Int32)))).map Value.int) (.int 0) := (Arv.keep (Arv.ext A_194 E_203) K_211 (ninS (nne (by omega)) nin0))
            have F_286 : Sta Z h_216 "com/example/relations_into_instances/relationsintoinstances/parse/Token$Kind" "KEYWORD" "Lcom/example/relations_into_instances/relationsintoinstances/parse/Token$Kind;" (.ref o_KEYWORD) := (sta_keep (Sta.ext E_203 (sta_keep (sta_keep S_KEYWORD K_175 ns0) K_190 ns0)) K_211 (nsS (Exa.nostat X_205) ns0))
            have F_287 : Sta Z h_216 "com/example/relations_into_instances/relationsintoinstances/parse/Token$Kind" "SYMBOL" "Lcom/example/relations_into_instances/relationsintoinstances/parse/Token$Kind;" (.ref o_SYMBOL) := (sta_keep (Sta.ext E_203 (sta_keep (sta_keep S_SYMBOL K_175 ns0) K_190 ns0)) K_211 (nsS (Exa.nostat X_205) ns0))
            have F_288 : Fld Z h_216 o_SYMBOL "java/lang/Enum" "ordinal" "I" (.int (3 : Int32)) := (Fld.keep (Fld.ext E_203 (Fld.keep (Fld.keep F_SYMBOL_ordinal K_175 nin0) K_190 nin0)) K_211 (ninS (nne (by omega)) nin0))
            have F_289 : Fld Z h_216 o_KEYWORD "java/lang/Enum" "ordinal" "I" (.int (2 : Int32)) := (Fld.keep (Fld.ext E_203 (Fld.keep (Fld.keep F_KEYWORD_ordinal K_175 nin0) K_190 nin0)) K_211 (ninS (nne (by omega)) nin0))
            have F_290 : Sta Z h_216 "java/lang/String" "COMPACT_STRINGS" "Z" (.int cs) := (sta_keep (Sta.ext E_203 (sta_keep F_195 K_190 ns0)) K_211 (nsS (Exa.nostat X_205) ns0))
            refine Go.callV (a1 := a0) (pc' := 189) (argsL := [(.ref a_185)]) (rest := []) (ct_isS l Z a0 hw n0 h_216 a_201 a_170 a_185 b_171 b_186 k_172 k_187 (own_mk ((p1 &&& (2147483647 : Int32)) % (3 : Int32)) (nar .char ((usr p1 (8 : Int32)) &&& (255 : Int32))) (nar .char ((usr p1 (16 : Int32)) &&& (255 : Int32)))) (own_mk ((p2 &&& (2147483647 : Int32)) % (3 : Int32)) (nar .char (((nar .char ((usr p1 (8 : Int32)) &&& (255 : Int32))) + ((usr p2 (8 : Int32)) &&& (3 : Int32))) &&& (255 : Int32))) (nar .char (((nar .char ((usr p1 (16 : Int32)) &&& (255 : Int32))) + ((usr p2 (10 : Int32)) &&& (3 : Int32))) &&& (255 : Int32)))) (own_mk_len _ _ _) (own_mk_len _ _ _) (nne (by omega)) cs F_290 hcs F_278 F_279 F_280 F_281 F_282 F_283 F_284 F_285 o_KEYWORD F_286 o_SYMBOL F_287 X_212 (Fld.ne F_288 F_289 (by decide)) F_213 F_214) at_186 (hw _ (List.mem_of_getElem? (i := 64) rfl)) (hw _ (List.mem_of_getElem? (i := 65) rfl)) (hw _ (List.mem_of_getElem? (i := 67) rfl)) (hw _ (List.mem_of_getElem? (i := 67) rfl)) (hw _ (List.mem_of_getElem? (i := 66) rfl)) (hw _ (List.mem_of_getElem? (i := 46) rfl)) (hw _ (List.mem_of_getElem? (i := 68) rfl)) X_212 (by decide) (lenOf pd__28Ljava_2flang_2fString_3b_29Z rfl) rfl 0 rfl rfl (by decide) (by decide) (by decide) (by decide) (fun _ q => nomatch q) rfl (fun v_291 h_292 N_293 hQ_294 hle_295 => ?_)
            obtain ⟨rfl, rfl⟩ := hQ_294
            refine Go.re (pc' := 189) (L' := #[.val (.int p0), .val (.int p1), .val (.int p2), .val (.int p3), .val (.int p4), .val (.int ((p0 &&& (2147483647 : Int32)) % (5 : Int32))), .val (.ref o_SYMBOL), .val (.int ((p1 &&& (2147483647 : Int32)) % (3 : Int32))), .val (.int (nar .char ((usr p1 (8 : Int32)) &&& (255 : Int32)))), .val (.int (nar .char ((usr p1 (16 : Int32)) &&& (255 : Int32)))), .val (.int ((p2 &&& (2147483647 : Int32)) % (3 : Int32))), .val (.int (nar .char (((nar .char ((usr p1 (8 : Int32)) &&& (255 : Int32))) + ((usr p2 (8 : Int32)) &&& (3 : Int32))) &&& (255 : Int32)))), .val (.int (nar .char (((nar .char ((usr p1 (16 : Int32)) &&& (255 : Int32))) + ((usr p2 (10 : Int32)) &&& (3 : Int32))) &&& (255 : Int32)))), .val (.ref a_170), .val (.ref a_185), .val (.ref a_201), .val (.int (1 : Int32)), .val (.int (1 : Int32))]) (S' := [(.int (if (own_mk ((p1 &&& (2147483647 : Int32)) % (3 : Int32)) (nar .char ((usr p1 (8 : Int32)) &&& (255 : Int32))) (nar .char ((usr p1 (16 : Int32)) &&& (255 : Int32)))) = (own_mk ((p2 &&& (2147483647 : Int32)) % (3 : Int32)) (nar .char (((nar .char ((usr p1 (8 : Int32)) &&& (255 : Int32))) + ((usr p2 (8 : Int32)) &&& (3 : Int32))) &&& (255 : Int32))) (nar .char (((nar .char ((usr p1 (16 : Int32)) &&& (255 : Int32))) + ((usr p2 (10 : Int32)) &&& (3 : Int32))) &&& (255 : Int32)))) then (1 : Int32) else 0))]) rfl rfl rfl ?_
            refine Go.iload (pc' := 191) at_189 rfl rfl ?_
            refine Go.ifF (pc' := 194) at_191 (show ¬ ((1 : Int32) = (0 : Int32)) by decide) rfl ?_
            refine Go.iload (pc' := 196) at_194 rfl rfl ?_
            refine Go.ifF (pc' := 199) at_196 (show ¬ ((1 : Int32) = (0 : Int32)) by decide) rfl ?_
            refine Go.iconst (pc' := 200) 1 at_199 rfl rfl ?_
            refine Go.goto (pc' := 204) at_200 (by decide) (by decide) ?_
            refine Go.icmpF (pc' := 207) at_204 (by show (if (own_mk ((p1 &&& (2147483647 : Int32)) % (3 : Int32)) (nar .char ((usr p1 (8 : Int32)) &&& (255 : Int32))) (nar .char ((usr p1 (16 : Int32)) &&& (255 : Int32)))) = (own_mk ((p2 &&& (2147483647 : Int32)) % (3 : Int32)) (nar .char (((nar .char ((usr p1 (8 : Int32)) &&& (255 : Int32))) + ((usr p2 (8 : Int32)) &&& (3 : Int32))) &&& (255 : Int32))) (nar .char (((nar .char ((usr p1 (16 : Int32)) &&& (255 : Int32))) + ((usr p2 (10 : Int32)) &&& (3 : Int32))) &&& (255 : Int32)))) then (1 : Int32) else 0) = (1 : Int32); exact if_pos (own_eq1 (own_m3 _) hc_220 hc_239 hc_277 hc_258)) rfl ?_
            refine Go.iconst (pc' := 208) 1 at_207 rfl rfl ?_
            refine Go.goto (pc' := 212) at_208 (by decide) (by decide) ?_
            refine Go.retN (t := .boolean) (1 : Int32) rfl (by simp) rfl [] (fun _ q => nomatch q) at_212 (by decide) (by decide) ?_
            exact rfl
          · have hc_277 : ¬ (((p1 &&& (2147483647 : Int32)) % (3 : Int32)) < (2 : Int32)) := hc_277
            refine Go.iload (pc' := 170) at_168 rfl rfl ?_
            refine Go.iload (pc' := 172) at_170 rfl rfl ?_
            refine Go.icmp (pc' := 179) (pc'' := 175) at_172 (by decide) (by decide) rfl (fun hc_296 => ?_) (fun hc_296 => ?_)
            · have hc_296 : ¬ ((nar .char ((usr p1 (16 : Int32)) &&& (255 : Int32))) = (nar .char (((nar .char ((usr p1 (16 : Int32)) &&& (255 : Int32))) + ((usr p2 (10 : Int32)) &&& (3 : Int32))) &&& (255 : Int32)))) := hc_296
              refine Go.iconst (pc' := 180) 0 at_179 rfl rfl ?_
              refine Go.istore (pc' := 182) #[.val (.int p0), .val (.int p1), .val (.int p2), .val (.int p3), .val (.int p4), .val (.int ((p0 &&& (2147483647 : Int32)) % (5 : Int32))), .val (.ref o_SYMBOL), .val (.int ((p1 &&& (2147483647 : Int32)) % (3 : Int32))), .val (.int (nar .char ((usr p1 (8 : Int32)) &&& (255 : Int32)))), .val (.int (nar .char ((usr p1 (16 : Int32)) &&& (255 : Int32)))), .val (.int ((p2 &&& (2147483647 : Int32)) % (3 : Int32))), .val (.int (nar .char (((nar .char ((usr p1 (8 : Int32)) &&& (255 : Int32))) + ((usr p2 (8 : Int32)) &&& (3 : Int32))) &&& (255 : Int32)))), .val (.int (nar .char (((nar .char ((usr p1 (16 : Int32)) &&& (255 : Int32))) + ((usr p2 (10 : Int32)) &&& (3 : Int32))) &&& (255 : Int32)))), .val (.ref a_170), .val (.ref a_185), .val (.ref a_201), .val (.int (1 : Int32)), .val (.int (0 : Int32))] at_180 rfl rfl ?_
              refine Go.aload (pc' := 184) at_182 rfl rfl rfl ?_
              refine Go.aload (pc' := 186) at_184 rfl rfl rfl ?_
              have F_297 : Exa Z h_216 a_170 "java/lang/String" := (Exa.keep (Exa.ext E_203 (Exa.keep X_176 K_190)) K_211)
              have F_298 : Fld Z h_216 a_170 "java/lang/String" "coder" "B" (.int (0 : Int32)) := (Fld.keep (Fld.ext E_203 (Fld.keep F_177 K_190 nin0)) K_211 (ninS (nne (by omega)) nin0))
              have F_299 : Fld Z h_216 a_170 "java/lang/String" "value" "[B" (.ref b_171) := (Fld.keep (Fld.ext E_203 (Fld.keep F_178 K_190 nin0)) K_211 (ninS (nne (by omega)) nin0))
              have F_300 : Arv Z h_216 b_171 k_172 .byte (Int32.ofNat (own_mk ((p1 &&& (2147483647 : Int32)) % (3 : Int32)) (nar .char ((usr p1 (8 : Int32)) &&& (255 : Int32))) (nar .char ((usr p1 (16 : Int32)) &&& (255 : Int32)))).length) ((own_mk ((p1 &&& (2147483647 : Int32)) % (3 : Int32)) (nar .char ((usr p1 (8 : Int32)) &&& (255 : Int32))) (nar .char ((usr p1 (16 : Int32)) &&& (255 : Int32)))).map Value.int) (.int 0) := (Arv.keep (Arv.ext (Arv.keep A_179 K_190 nin0) E_203) K_211 (ninS (nne (by omega)) nin0))
              have F_301 : Exa Z h_216 a_185 "java/lang/String" := (Exa.keep (Exa.ext E_203 X_191) K_211)
              have F_302 : Fld Z h_216 a_185 "java/lang/String" "coder" "B" (.int (0 : Int32)) := (Fld.keep (Fld.ext E_203 F_192) K_211 (ninS (nne (by omega)) nin0))
              have F_303 : Fld Z h_216 a_185 "java/lang/String" "value" "[B" (.ref b_186) := (Fld.keep (Fld.ext E_203 F_193) K_211 (ninS (nne (by omega)) nin0))
              have F_304 : Arv Z h_216 b_186 k_187 .byte (Int32.ofNat (own_mk ((p2 &&& (2147483647 : Int32)) % (3 : Int32)) (nar .char (((nar .char ((usr p1 (8 : Int32)) &&& (255 : Int32))) + ((usr p2 (8 : Int32)) &&& (3 : Int32))) &&& (255 : Int32))) (nar .char (((nar .char ((usr p1 (16 : Int32)) &&& (255 : Int32))) + ((usr p2 (10 : Int32)) &&& (3 : Int32))) &&& (255 : Int32)))).length) ((own_mk ((p2 &&& (2147483647 : Int32)) % (3 : Int32)) (nar .char (((nar .char ((usr p1 (8 : Int32)) &&& (255 : Int32))) + ((usr p2 (8 : Int32)) &&& (3 : Int32))) &&& (255 : Int32))) (nar .char (((nar .char ((usr p1 (16 : Int32)) &&& (255 : Int32))) + ((usr p2 (10 : Int32)) &&& (3 : Int32))) &&& (255 : Int32)))).map Value.int) (.int 0) := (Arv.keep (Arv.ext A_194 E_203) K_211 (ninS (nne (by omega)) nin0))
              have F_305 : Sta Z h_216 "com/example/relations_into_instances/relationsintoinstances/parse/Token$Kind" "KEYWORD" "Lcom/example/relations_into_instances/relationsintoinstances/parse/Token$Kind;" (.ref o_KEYWORD) := (sta_keep (Sta.ext E_203 (sta_keep (sta_keep S_KEYWORD K_175 ns0) K_190 ns0)) K_211 (nsS (Exa.nostat X_205) ns0))
              have F_306 : Sta Z h_216 "com/example/relations_into_instances/relationsintoinstances/parse/Token$Kind" "SYMBOL" "Lcom/example/relations_into_instances/relationsintoinstances/parse/Token$Kind;" (.ref o_SYMBOL) := (sta_keep (Sta.ext E_203 (sta_keep (sta_keep S_SYMBOL K_175 ns0) K_190 ns0)) K_211 (nsS (Exa.nostat X_205) ns0))
              have F_307 : Fld Z h_216 o_SYMBOL "java/lang/Enum" "ordinal" "I" (.int (3 : Int32)) := (Fld.keep (Fld.ext E_203 (Fld.keep (Fld.keep F_SYMBOL_ordinal K_175 nin0) K_190 nin0)) K_211 (ninS (nne (by omega)) nin0))
              have F_308 : Fld Z h_216 o_KEYWORD "java/lang/Enum" "ordinal" "I" (.int (2 : Int32)) := (Fld.keep (Fld.ext E_203 (Fld.keep (Fld.keep F_KEYWORD_ordinal K_175 nin0) K_190 nin0)) K_211 (ninS (nne (by omega)) nin0))
              have F_309 : Sta Z h_216 "java/lang/String" "COMPACT_STRINGS" "Z" (.int cs) := (sta_keep (Sta.ext E_203 (sta_keep F_195 K_190 ns0)) K_211 (nsS (Exa.nostat X_205) ns0))
              refine Go.callV (a1 := a0) (pc' := 189) (argsL := [(.ref a_185)]) (rest := []) (ct_isS l Z a0 hw n0 h_216 a_201 a_170 a_185 b_171 b_186 k_172 k_187 (own_mk ((p1 &&& (2147483647 : Int32)) % (3 : Int32)) (nar .char ((usr p1 (8 : Int32)) &&& (255 : Int32))) (nar .char ((usr p1 (16 : Int32)) &&& (255 : Int32)))) (own_mk ((p2 &&& (2147483647 : Int32)) % (3 : Int32)) (nar .char (((nar .char ((usr p1 (8 : Int32)) &&& (255 : Int32))) + ((usr p2 (8 : Int32)) &&& (3 : Int32))) &&& (255 : Int32))) (nar .char (((nar .char ((usr p1 (16 : Int32)) &&& (255 : Int32))) + ((usr p2 (10 : Int32)) &&& (3 : Int32))) &&& (255 : Int32)))) (own_mk_len _ _ _) (own_mk_len _ _ _) (nne (by omega)) cs F_309 hcs F_297 F_298 F_299 F_300 F_301 F_302 F_303 F_304 o_KEYWORD F_305 o_SYMBOL F_306 X_212 (Fld.ne F_307 F_308 (by decide)) F_213 F_214) at_186 (hw _ (List.mem_of_getElem? (i := 64) rfl)) (hw _ (List.mem_of_getElem? (i := 65) rfl)) (hw _ (List.mem_of_getElem? (i := 67) rfl)) (hw _ (List.mem_of_getElem? (i := 67) rfl)) (hw _ (List.mem_of_getElem? (i := 66) rfl)) (hw _ (List.mem_of_getElem? (i := 46) rfl)) (hw _ (List.mem_of_getElem? (i := 68) rfl)) X_212 (by decide) (lenOf pd__28Ljava_2flang_2fString_3b_29Z rfl) rfl 0 rfl rfl (by decide) (by decide) (by decide) (by decide) (fun _ q => nomatch q) rfl (fun v_310 h_311 N_312 hQ_313 hle_314 => ?_)
              obtain ⟨rfl, rfl⟩ := hQ_313
              refine Go.re (pc' := 189) (L' := #[.val (.int p0), .val (.int p1), .val (.int p2), .val (.int p3), .val (.int p4), .val (.int ((p0 &&& (2147483647 : Int32)) % (5 : Int32))), .val (.ref o_SYMBOL), .val (.int ((p1 &&& (2147483647 : Int32)) % (3 : Int32))), .val (.int (nar .char ((usr p1 (8 : Int32)) &&& (255 : Int32)))), .val (.int (nar .char ((usr p1 (16 : Int32)) &&& (255 : Int32)))), .val (.int ((p2 &&& (2147483647 : Int32)) % (3 : Int32))), .val (.int (nar .char (((nar .char ((usr p1 (8 : Int32)) &&& (255 : Int32))) + ((usr p2 (8 : Int32)) &&& (3 : Int32))) &&& (255 : Int32)))), .val (.int (nar .char (((nar .char ((usr p1 (16 : Int32)) &&& (255 : Int32))) + ((usr p2 (10 : Int32)) &&& (3 : Int32))) &&& (255 : Int32)))), .val (.ref a_170), .val (.ref a_185), .val (.ref a_201), .val (.int (1 : Int32)), .val (.int (0 : Int32))]) (S' := [(.int (if (own_mk ((p1 &&& (2147483647 : Int32)) % (3 : Int32)) (nar .char ((usr p1 (8 : Int32)) &&& (255 : Int32))) (nar .char ((usr p1 (16 : Int32)) &&& (255 : Int32)))) = (own_mk ((p2 &&& (2147483647 : Int32)) % (3 : Int32)) (nar .char (((nar .char ((usr p1 (8 : Int32)) &&& (255 : Int32))) + ((usr p2 (8 : Int32)) &&& (3 : Int32))) &&& (255 : Int32))) (nar .char (((nar .char ((usr p1 (16 : Int32)) &&& (255 : Int32))) + ((usr p2 (10 : Int32)) &&& (3 : Int32))) &&& (255 : Int32)))) then (1 : Int32) else 0))]) rfl rfl rfl ?_
              refine Go.iload (pc' := 191) at_189 rfl rfl ?_
              refine Go.ifF (pc' := 194) at_191 (show ¬ ((1 : Int32) = (0 : Int32)) by decide) rfl ?_
              refine Go.iload (pc' := 196) at_194 rfl rfl ?_
              refine Go.ifT (pc' := 203) at_196 (show (0 : Int32) = (0 : Int32) by decide) (by decide) (by decide) ?_
              refine Go.iconst (pc' := 204) 0 at_203 rfl rfl ?_
              refine Go.icmpF (pc' := 207) at_204 (by show (if (own_mk ((p1 &&& (2147483647 : Int32)) % (3 : Int32)) (nar .char ((usr p1 (8 : Int32)) &&& (255 : Int32))) (nar .char ((usr p1 (16 : Int32)) &&& (255 : Int32)))) = (own_mk ((p2 &&& (2147483647 : Int32)) % (3 : Int32)) (nar .char (((nar .char ((usr p1 (8 : Int32)) &&& (255 : Int32))) + ((usr p2 (8 : Int32)) &&& (3 : Int32))) &&& (255 : Int32))) (nar .char (((nar .char ((usr p1 (16 : Int32)) &&& (255 : Int32))) + ((usr p2 (10 : Int32)) &&& (3 : Int32))) &&& (255 : Int32)))) then (1 : Int32) else 0) = (0 : Int32); exact if_neg (own_ne1 (own_m3 _) hc_220 hc_277 hc_296)) rfl ?_
              refine Go.iconst (pc' := 208) 1 at_207 rfl rfl ?_
              refine Go.goto (pc' := 212) at_208 (by decide) (by decide) ?_
              refine Go.retN (t := .boolean) (1 : Int32) rfl (by simp) rfl [] (fun _ q => nomatch q) at_212 (by decide) (by decide) ?_
              exact rfl
            · have hc_296 : (nar .char ((usr p1 (16 : Int32)) &&& (255 : Int32))) = (nar .char (((nar .char ((usr p1 (16 : Int32)) &&& (255 : Int32))) + ((usr p2 (10 : Int32)) &&& (3 : Int32))) &&& (255 : Int32))) := hc_296
              refine Go.iconst (pc' := 176) 1 at_175 rfl rfl ?_
              refine Go.goto (pc' := 180) at_176 (by decide) (by decide) ?_
              refine Go.istore (pc' := 182) #[.val (.int p0), .val (.int p1), .val (.int p2), .val (.int p3), .val (.int p4), .val (.int ((p0 &&& (2147483647 : Int32)) % (5 : Int32))), .val (.ref o_SYMBOL), .val (.int ((p1 &&& (2147483647 : Int32)) % (3 : Int32))), .val (.int (nar .char ((usr p1 (8 : Int32)) &&& (255 : Int32)))), .val (.int (nar .char ((usr p1 (16 : Int32)) &&& (255 : Int32)))), .val (.int ((p2 &&& (2147483647 : Int32)) % (3 : Int32))), .val (.int (nar .char (((nar .char ((usr p1 (8 : Int32)) &&& (255 : Int32))) + ((usr p2 (8 : Int32)) &&& (3 : Int32))) &&& (255 : Int32)))), .val (.int (nar .char (((nar .char ((usr p1 (16 : Int32)) &&& (255 : Int32))) + ((usr p2 (10 : Int32)) &&& (3 : Int32))) &&& (255 : Int32)))), .val (.ref a_170), .val (.ref a_185), .val (.ref a_201), .val (.int (1 : Int32)), .val (.int (1 : Int32))] at_180 rfl rfl ?_
              refine Go.aload (pc' := 184) at_182 rfl rfl rfl ?_
              refine Go.aload (pc' := 186) at_184 rfl rfl rfl ?_
              have F_315 : Exa Z h_216 a_170 "java/lang/String" := (Exa.keep (Exa.ext E_203 (Exa.keep X_176 K_190)) K_211)
              have F_316 : Fld Z h_216 a_170 "java/lang/String" "coder" "B" (.int (0 : Int32)) := (Fld.keep (Fld.ext E_203 (Fld.keep F_177 K_190 nin0)) K_211 (ninS (nne (by omega)) nin0))
              have F_317 : Fld Z h_216 a_170 "java/lang/String" "value" "[B" (.ref b_171) := (Fld.keep (Fld.ext E_203 (Fld.keep F_178 K_190 nin0)) K_211 (ninS (nne (by omega)) nin0))
              have F_318 : Arv Z h_216 b_171 k_172 .byte (Int32.ofNat (own_mk ((p1 &&& (2147483647 : Int32)) % (3 : Int32)) (nar .char ((usr p1 (8 : Int32)) &&& (255 : Int32))) (nar .char ((usr p1 (16 : Int32)) &&& (255 : Int32)))).length) ((own_mk ((p1 &&& (2147483647 : Int32)) % (3 : Int32)) (nar .char ((usr p1 (8 : Int32)) &&& (255 : Int32))) (nar .char ((usr p1 (16 : Int32)) &&& (255 : Int32)))).map Value.int) (.int 0) := (Arv.keep (Arv.ext (Arv.keep A_179 K_190 nin0) E_203) K_211 (ninS (nne (by omega)) nin0))
              have F_319 : Exa Z h_216 a_185 "java/lang/String" := (Exa.keep (Exa.ext E_203 X_191) K_211)
              have F_320 : Fld Z h_216 a_185 "java/lang/String" "coder" "B" (.int (0 : Int32)) := (Fld.keep (Fld.ext E_203 F_192) K_211 (ninS (nne (by omega)) nin0))
              have F_321 : Fld Z h_216 a_185 "java/lang/String" "value" "[B" (.ref b_186) := (Fld.keep (Fld.ext E_203 F_193) K_211 (ninS (nne (by omega)) nin0))
              have F_322 : Arv Z h_216 b_186 k_187 .byte (Int32.ofNat (own_mk ((p2 &&& (2147483647 : Int32)) % (3 : Int32)) (nar .char (((nar .char ((usr p1 (8 : Int32)) &&& (255 : Int32))) + ((usr p2 (8 : Int32)) &&& (3 : Int32))) &&& (255 : Int32))) (nar .char (((nar .char ((usr p1 (16 : Int32)) &&& (255 : Int32))) + ((usr p2 (10 : Int32)) &&& (3 : Int32))) &&& (255 : Int32)))).length) ((own_mk ((p2 &&& (2147483647 : Int32)) % (3 : Int32)) (nar .char (((nar .char ((usr p1 (8 : Int32)) &&& (255 : Int32))) + ((usr p2 (8 : Int32)) &&& (3 : Int32))) &&& (255 : Int32))) (nar .char (((nar .char ((usr p1 (16 : Int32)) &&& (255 : Int32))) + ((usr p2 (10 : Int32)) &&& (3 : Int32))) &&& (255 : Int32)))).map Value.int) (.int 0) := (Arv.keep (Arv.ext A_194 E_203) K_211 (ninS (nne (by omega)) nin0))
              have F_323 : Sta Z h_216 "com/example/relations_into_instances/relationsintoinstances/parse/Token$Kind" "KEYWORD" "Lcom/example/relations_into_instances/relationsintoinstances/parse/Token$Kind;" (.ref o_KEYWORD) := (sta_keep (Sta.ext E_203 (sta_keep (sta_keep S_KEYWORD K_175 ns0) K_190 ns0)) K_211 (nsS (Exa.nostat X_205) ns0))
              have F_324 : Sta Z h_216 "com/example/relations_into_instances/relationsintoinstances/parse/Token$Kind" "SYMBOL" "Lcom/example/relations_into_instances/relationsintoinstances/parse/Token$Kind;" (.ref o_SYMBOL) := (sta_keep (Sta.ext E_203 (sta_keep (sta_keep S_SYMBOL K_175 ns0) K_190 ns0)) K_211 (nsS (Exa.nostat X_205) ns0))
              have F_325 : Fld Z h_216 o_SYMBOL "java/lang/Enum" "ordinal" "I" (.int (3 : Int32)) := (Fld.keep (Fld.ext E_203 (Fld.keep (Fld.keep F_SYMBOL_ordinal K_175 nin0) K_190 nin0)) K_211 (ninS (nne (by omega)) nin0))
              have F_326 : Fld Z h_216 o_KEYWORD "java/lang/Enum" "ordinal" "I" (.int (2 : Int32)) := (Fld.keep (Fld.ext E_203 (Fld.keep (Fld.keep F_KEYWORD_ordinal K_175 nin0) K_190 nin0)) K_211 (ninS (nne (by omega)) nin0))
              have F_327 : Sta Z h_216 "java/lang/String" "COMPACT_STRINGS" "Z" (.int cs) := (sta_keep (Sta.ext E_203 (sta_keep F_195 K_190 ns0)) K_211 (nsS (Exa.nostat X_205) ns0))
              refine Go.callV (a1 := a0) (pc' := 189) (argsL := [(.ref a_185)]) (rest := []) (ct_isS l Z a0 hw n0 h_216 a_201 a_170 a_185 b_171 b_186 k_172 k_187 (own_mk ((p1 &&& (2147483647 : Int32)) % (3 : Int32)) (nar .char ((usr p1 (8 : Int32)) &&& (255 : Int32))) (nar .char ((usr p1 (16 : Int32)) &&& (255 : Int32)))) (own_mk ((p2 &&& (2147483647 : Int32)) % (3 : Int32)) (nar .char (((nar .char ((usr p1 (8 : Int32)) &&& (255 : Int32))) + ((usr p2 (8 : Int32)) &&& (3 : Int32))) &&& (255 : Int32))) (nar .char (((nar .char ((usr p1 (16 : Int32)) &&& (255 : Int32))) + ((usr p2 (10 : Int32)) &&& (3 : Int32))) &&& (255 : Int32)))) (own_mk_len _ _ _) (own_mk_len _ _ _) (nne (by omega)) cs F_327 hcs F_315 F_316 F_317 F_318 F_319 F_320 F_321 F_322 o_KEYWORD F_323 o_SYMBOL F_324 X_212 (Fld.ne F_325 F_326 (by decide)) F_213 F_214) at_186 (hw _ (List.mem_of_getElem? (i := 64) rfl)) (hw _ (List.mem_of_getElem? (i := 65) rfl)) (hw _ (List.mem_of_getElem? (i := 67) rfl)) (hw _ (List.mem_of_getElem? (i := 67) rfl)) (hw _ (List.mem_of_getElem? (i := 66) rfl)) (hw _ (List.mem_of_getElem? (i := 46) rfl)) (hw _ (List.mem_of_getElem? (i := 68) rfl)) X_212 (by decide) (lenOf pd__28Ljava_2flang_2fString_3b_29Z rfl) rfl 0 rfl rfl (by decide) (by decide) (by decide) (by decide) (fun _ q => nomatch q) rfl (fun v_328 h_329 N_330 hQ_331 hle_332 => ?_)
              obtain ⟨rfl, rfl⟩ := hQ_331
              refine Go.re (pc' := 189) (L' := #[.val (.int p0), .val (.int p1), .val (.int p2), .val (.int p3), .val (.int p4), .val (.int ((p0 &&& (2147483647 : Int32)) % (5 : Int32))), .val (.ref o_SYMBOL), .val (.int ((p1 &&& (2147483647 : Int32)) % (3 : Int32))), .val (.int (nar .char ((usr p1 (8 : Int32)) &&& (255 : Int32)))), .val (.int (nar .char ((usr p1 (16 : Int32)) &&& (255 : Int32)))), .val (.int ((p2 &&& (2147483647 : Int32)) % (3 : Int32))), .val (.int (nar .char (((nar .char ((usr p1 (8 : Int32)) &&& (255 : Int32))) + ((usr p2 (8 : Int32)) &&& (3 : Int32))) &&& (255 : Int32)))), .val (.int (nar .char (((nar .char ((usr p1 (16 : Int32)) &&& (255 : Int32))) + ((usr p2 (10 : Int32)) &&& (3 : Int32))) &&& (255 : Int32)))), .val (.ref a_170), .val (.ref a_185), .val (.ref a_201), .val (.int (1 : Int32)), .val (.int (1 : Int32))]) (S' := [(.int (if (own_mk ((p1 &&& (2147483647 : Int32)) % (3 : Int32)) (nar .char ((usr p1 (8 : Int32)) &&& (255 : Int32))) (nar .char ((usr p1 (16 : Int32)) &&& (255 : Int32)))) = (own_mk ((p2 &&& (2147483647 : Int32)) % (3 : Int32)) (nar .char (((nar .char ((usr p1 (8 : Int32)) &&& (255 : Int32))) + ((usr p2 (8 : Int32)) &&& (3 : Int32))) &&& (255 : Int32))) (nar .char (((nar .char ((usr p1 (16 : Int32)) &&& (255 : Int32))) + ((usr p2 (10 : Int32)) &&& (3 : Int32))) &&& (255 : Int32)))) then (1 : Int32) else 0))]) rfl rfl rfl ?_
              refine Go.iload (pc' := 191) at_189 rfl rfl ?_
              refine Go.ifF (pc' := 194) at_191 (show ¬ ((1 : Int32) = (0 : Int32)) by decide) rfl ?_
              refine Go.iload (pc' := 196) at_194 rfl rfl ?_
              refine Go.ifF (pc' := 199) at_196 (show ¬ ((1 : Int32) = (0 : Int32)) by decide) rfl ?_
              refine Go.iconst (pc' := 200) 1 at_199 rfl rfl ?_
              refine Go.goto (pc' := 204) at_200 (by decide) (by decide) ?_
              refine Go.icmpF (pc' := 207) at_204 (by show (if (own_mk ((p1 &&& (2147483647 : Int32)) % (3 : Int32)) (nar .char ((usr p1 (8 : Int32)) &&& (255 : Int32))) (nar .char ((usr p1 (16 : Int32)) &&& (255 : Int32)))) = (own_mk ((p2 &&& (2147483647 : Int32)) % (3 : Int32)) (nar .char (((nar .char ((usr p1 (8 : Int32)) &&& (255 : Int32))) + ((usr p2 (8 : Int32)) &&& (3 : Int32))) &&& (255 : Int32))) (nar .char (((nar .char ((usr p1 (16 : Int32)) &&& (255 : Int32))) + ((usr p2 (10 : Int32)) &&& (3 : Int32))) &&& (255 : Int32)))) then (1 : Int32) else 0) = (1 : Int32); exact if_pos (own_eq2 hc_220 hc_258 hc_296)) rfl ?_
              refine Go.iconst (pc' := 208) 1 at_207 rfl rfl ?_
              refine Go.goto (pc' := 212) at_208 (by decide) (by decide) ?_
              refine Go.retN (t := .boolean) (1 : Int32) rfl (by simp) rfl [] (fun _ q => nomatch q) at_212 (by decide) (by decide) ?_
              exact rfl
  · refine Go.re (pc' := 13) (L' := #[.val (.int p0), .val (.int p1), .val (.int p2), .val (.int p3), .val (.int p4), .val (.int ((p0 &&& (2147483647 : Int32)) % (5 : Int32))), .unset, .unset, .unset, .unset, .unset, .unset, .unset, .unset, .unset, .unset, .unset, .unset]) (S' := [(.ref r1)]) rfl rfl rfl ?_
    refine Go.astore (pc' := 15) #[.val (.int p0), .val (.int p1), .val (.int p2), .val (.int p3), .val (.int p4), .val (.int ((p0 &&& (2147483647 : Int32)) % (5 : Int32))), .val (.ref r1), .unset, .unset, .unset, .unset, .unset, .unset, .unset, .unset, .unset, .unset, .unset] at_13 rfl rfl rfl ?_
    refine Go.iloadN (pc' := 16) at_15 rfl rfl ?_
    refine Go.ldcI (pc' := 18) (a1 := a0) at_16 (hw _ (List.mem_of_getElem? (i := 0) rfl)) rfl ?_
    refine Go.iand (pc' := 19) at_18 rfl ?_
    refine Go.iconst (pc' := 20) 3 at_19 rfl rfl ?_
    refine Go.irem (pc' := 21) at_20 (by decide) rfl ?_
    refine Go.istore (pc' := 23) #[.val (.int p0), .val (.int p1), .val (.int p2), .val (.int p3), .val (.int p4), .val (.int ((p0 &&& (2147483647 : Int32)) % (5 : Int32))), .val (.ref r1), .val (.int ((p1 &&& (2147483647 : Int32)) % (3 : Int32))), .unset, .unset, .unset, .unset, .unset, .unset, .unset, .unset, .unset, .unset] at_21 rfl rfl ?_
    refine Go.iloadN (pc' := 24) at_23 rfl rfl ?_
    refine Go.bipush (pc' := 26) 8 at_24 rfl rfl ?_
    refine Go.iushr (pc' := 27) at_26 rfl ?_
    refine Go.sipush (pc' := 30) 255 at_27 rfl rfl ?_
    refine Go.iand (pc' := 31) at_30 rfl ?_
    refine Go.i2c (pc' := 32) at_31 rfl ?_
    refine Go.istore (pc' := 34) #[.val (.int p0), .val (.int p1), .val (.int p2), .val (.int p3), .val (.int p4), .val (.int ((p0 &&& (2147483647 : Int32)) % (5 : Int32))), .val (.ref r1), .val (.int ((p1 &&& (2147483647 : Int32)) % (3 : Int32))), .val (.int (nar .char ((usr p1 (8 : Int32)) &&& (255 : Int32)))), .unset, .unset, .unset, .unset, .unset, .unset, .unset, .unset, .unset] at_32 rfl rfl ?_
    refine Go.iloadN (pc' := 35) at_34 rfl rfl ?_
    refine Go.bipush (pc' := 37) 16 at_35 rfl rfl ?_
    refine Go.iushr (pc' := 38) at_37 rfl ?_
    refine Go.sipush (pc' := 41) 255 at_38 rfl rfl ?_
    refine Go.iand (pc' := 42) at_41 rfl ?_
    refine Go.i2c (pc' := 43) at_42 rfl ?_
    refine Go.istore (pc' := 45) #[.val (.int p0), .val (.int p1), .val (.int p2), .val (.int p3), .val (.int p4), .val (.int ((p0 &&& (2147483647 : Int32)) % (5 : Int32))), .val (.ref r1), .val (.int ((p1 &&& (2147483647 : Int32)) % (3 : Int32))), .val (.int (nar .char ((usr p1 (8 : Int32)) &&& (255 : Int32)))), .val (.int (nar .char ((usr p1 (16 : Int32)) &&& (255 : Int32)))), .unset, .unset, .unset, .unset, .unset, .unset, .unset, .unset] at_43 rfl rfl ?_
    refine Go.iloadN (pc' := 46) at_45 rfl rfl ?_
    refine Go.ldcI (pc' := 48) (a1 := a0) at_46 (hw _ (List.mem_of_getElem? (i := 0) rfl)) rfl ?_
    refine Go.iand (pc' := 49) at_48 rfl ?_
    refine Go.iconst (pc' := 50) 3 at_49 rfl rfl ?_
    refine Go.irem (pc' := 51) at_50 (by decide) rfl ?_
    refine Go.istore (pc' := 53) #[.val (.int p0), .val (.int p1), .val (.int p2), .val (.int p3), .val (.int p4), .val (.int ((p0 &&& (2147483647 : Int32)) % (5 : Int32))), .val (.ref r1), .val (.int ((p1 &&& (2147483647 : Int32)) % (3 : Int32))), .val (.int (nar .char ((usr p1 (8 : Int32)) &&& (255 : Int32)))), .val (.int (nar .char ((usr p1 (16 : Int32)) &&& (255 : Int32)))), .val (.int ((p2 &&& (2147483647 : Int32)) % (3 : Int32))), .unset, .unset, .unset, .unset, .unset, .unset, .unset] at_51 rfl rfl ?_
    refine Go.iload (pc' := 55) at_53 rfl rfl ?_
    refine Go.iloadN (pc' := 56) at_55 rfl rfl ?_
    refine Go.bipush (pc' := 58) 8 at_56 rfl rfl ?_
    refine Go.iushr (pc' := 59) at_58 rfl ?_
    refine Go.iconst (pc' := 60) 3 at_59 rfl rfl ?_
    refine Go.iand (pc' := 61) at_60 rfl ?_
    refine Go.iadd (pc' := 62) at_61 rfl ?_
    refine Go.sipush (pc' := 65) 255 at_62 rfl rfl ?_
    refine Go.iand (pc' := 66) at_65 rfl ?_
    refine Go.i2c (pc' := 67) at_66 rfl ?_
    refine Go.istore (pc' := 69) #[.val (.int p0), .val (.int p1), .val (.int p2), .val (.int p3), .val (.int p4), .val (.int ((p0 &&& (2147483647 : Int32)) % (5 : Int32))), .val (.ref r1), .val (.int ((p1 &&& (2147483647 : Int32)) % (3 : Int32))), .val (.int (nar .char ((usr p1 (8 : Int32)) &&& (255 : Int32)))), .val (.int (nar .char ((usr p1 (16 : Int32)) &&& (255 : Int32)))), .val (.int ((p2 &&& (2147483647 : Int32)) % (3 : Int32))), .val (.int (nar .char (((nar .char ((usr p1 (8 : Int32)) &&& (255 : Int32))) + ((usr p2 (8 : Int32)) &&& (3 : Int32))) &&& (255 : Int32)))), .unset, .unset, .unset, .unset, .unset, .unset] at_67 rfl rfl ?_
    refine Go.iload (pc' := 71) at_69 rfl rfl ?_
    refine Go.iloadN (pc' := 72) at_71 rfl rfl ?_
    refine Go.bipush (pc' := 74) 10 at_72 rfl rfl ?_
    refine Go.iushr (pc' := 75) at_74 rfl ?_
    refine Go.iconst (pc' := 76) 3 at_75 rfl rfl ?_
    refine Go.iand (pc' := 77) at_76 rfl ?_
    refine Go.iadd (pc' := 78) at_77 rfl ?_
    refine Go.sipush (pc' := 81) 255 at_78 rfl rfl ?_
    refine Go.iand (pc' := 82) at_81 rfl ?_
    refine Go.i2c (pc' := 83) at_82 rfl ?_
    refine Go.istore (pc' := 85) #[.val (.int p0), .val (.int p1), .val (.int p2), .val (.int p3), .val (.int p4), .val (.int ((p0 &&& (2147483647 : Int32)) % (5 : Int32))), .val (.ref r1), .val (.int ((p1 &&& (2147483647 : Int32)) % (3 : Int32))), .val (.int (nar .char ((usr p1 (8 : Int32)) &&& (255 : Int32)))), .val (.int (nar .char ((usr p1 (16 : Int32)) &&& (255 : Int32)))), .val (.int ((p2 &&& (2147483647 : Int32)) % (3 : Int32))), .val (.int (nar .char (((nar .char ((usr p1 (8 : Int32)) &&& (255 : Int32))) + ((usr p2 (8 : Int32)) &&& (3 : Int32))) &&& (255 : Int32)))), .val (.int (nar .char (((nar .char ((usr p1 (16 : Int32)) &&& (255 : Int32))) + ((usr p2 (10 : Int32)) &&& (3 : Int32))) &&& (255 : Int32)))), .unset, .unset, .unset, .unset, .unset] at_83 rfl rfl ?_
    refine Go.iload (pc' := 87) at_85 rfl rfl ?_
    refine Go.iload (pc' := 89) at_87 rfl rfl ?_
    refine Go.iload (pc' := 91) at_89 rfl rfl ?_
    refine Go.callS (a1 := a0) (pc' := 94) (argsL := [(.int ((p1 &&& (2147483647 : Int32)) % (3 : Int32))), (.int (nar .char ((usr p1 (8 : Int32)) &&& (255 : Int32)))), (.int (nar .char ((usr p1 (16 : Int32)) &&& (255 : Int32))))]) (rest := []) (ct_mk l Z a0 hw n0 h0 ((p1 &&& (2147483647 : Int32)) % (3 : Int32)) (nar .char ((usr p1 (8 : Int32)) &&& (255 : Int32))) (nar .char ((usr p1 (16 : Int32)) &&& (255 : Int32))) (own_ch (usr p1 (8 : Int32))).1 (own_ch (usr p1 (16 : Int32))).1 (own_ch (usr p1 (8 : Int32))).2.1 (own_ch (usr p1 (16 : Int32))).2.1 (by omega) cs S_cs hcs) at_91 (hw _ (List.mem_of_getElem? (i := 8) rfl)) (hw _ (List.mem_of_getElem? (i := 9) rfl)) (hw _ (List.mem_of_getElem? (i := 3) rfl)) (hw _ (List.mem_of_getElem? (i := 10) rfl)) (by decide) (lenOf pd__28ICC_29Ljava_2flang_2fString_3b rfl) rfl 0 rfl rfl (by decide) (by decide) (by decide) (by decide) (fun _ q => nomatch q) rfl (fun v_343 h_344 N_345 hQ_346 hle_347 => ?_)
    obtain ⟨a_333, b_334, k_335, rfl, g_336, g_337, K_338, X_339, F_340, F_341, A_342⟩ := hQ_346
    have szh_344 : h0.size ≤ h_344.size := K_338.1
    have ltb_334 := nlt A_342.lt
    have lta_333 := nlt g_337
    refine Go.re (pc' := 94) (L' := #[.val (.int p0), .val (.int p1), .val (.int p2), .val (.int p3), .val (.int p4), .val (.int ((p0 &&& (2147483647 : Int32)) % (5 : Int32))), .val (.ref r1), .val (.int ((p1 &&& (2147483647 : Int32)) % (3 : Int32))), .val (.int (nar .char ((usr p1 (8 : Int32)) &&& (255 : Int32)))), .val (.int (nar .char ((usr p1 (16 : Int32)) &&& (255 : Int32)))), .val (.int ((p2 &&& (2147483647 : Int32)) % (3 : Int32))), .val (.int (nar .char (((nar .char ((usr p1 (8 : Int32)) &&& (255 : Int32))) + ((usr p2 (8 : Int32)) &&& (3 : Int32))) &&& (255 : Int32)))), .val (.int (nar .char (((nar .char ((usr p1 (16 : Int32)) &&& (255 : Int32))) + ((usr p2 (10 : Int32)) &&& (3 : Int32))) &&& (255 : Int32)))), .unset, .unset, .unset, .unset, .unset]) (S' := [(.ref a_333)]) rfl rfl rfl ?_
    refine Go.astore (pc' := 96) #[.val (.int p0), .val (.int p1), .val (.int p2), .val (.int p3), .val (.int p4), .val (.int ((p0 &&& (2147483647 : Int32)) % (5 : Int32))), .val (.ref r1), .val (.int ((p1 &&& (2147483647 : Int32)) % (3 : Int32))), .val (.int (nar .char ((usr p1 (8 : Int32)) &&& (255 : Int32)))), .val (.int (nar .char ((usr p1 (16 : Int32)) &&& (255 : Int32)))), .val (.int ((p2 &&& (2147483647 : Int32)) % (3 : Int32))), .val (.int (nar .char (((nar .char ((usr p1 (8 : Int32)) &&& (255 : Int32))) + ((usr p2 (8 : Int32)) &&& (3 : Int32))) &&& (255 : Int32)))), .val (.int (nar .char (((nar .char ((usr p1 (16 : Int32)) &&& (255 : Int32))) + ((usr p2 (10 : Int32)) &&& (3 : Int32))) &&& (255 : Int32)))), .val (.ref a_333), .unset, .unset, .unset, .unset] at_94 rfl rfl rfl ?_
    refine Go.iload (pc' := 98) at_96 rfl rfl ?_
    refine Go.iload (pc' := 100) at_98 rfl rfl ?_
    refine Go.iload (pc' := 102) at_100 rfl rfl ?_
    have F_358 : Sta Z h_344 "java/lang/String" "COMPACT_STRINGS" "Z" (.int cs) := (sta_keep S_cs K_338 ns0)
    refine Go.callS (a1 := a0) (pc' := 105) (argsL := [(.int ((p2 &&& (2147483647 : Int32)) % (3 : Int32))), (.int (nar .char (((nar .char ((usr p1 (8 : Int32)) &&& (255 : Int32))) + ((usr p2 (8 : Int32)) &&& (3 : Int32))) &&& (255 : Int32)))), (.int (nar .char (((nar .char ((usr p1 (16 : Int32)) &&& (255 : Int32))) + ((usr p2 (10 : Int32)) &&& (3 : Int32))) &&& (255 : Int32))))]) (rest := []) (ct_mk l Z a0 hw n0 h_344 ((p2 &&& (2147483647 : Int32)) % (3 : Int32)) (nar .char (((nar .char ((usr p1 (8 : Int32)) &&& (255 : Int32))) + ((usr p2 (8 : Int32)) &&& (3 : Int32))) &&& (255 : Int32))) (nar .char (((nar .char ((usr p1 (16 : Int32)) &&& (255 : Int32))) + ((usr p2 (10 : Int32)) &&& (3 : Int32))) &&& (255 : Int32))) (own_ch ((nar .char ((usr p1 (8 : Int32)) &&& (255 : Int32))) + ((usr p2 (8 : Int32)) &&& (3 : Int32)))).1 (own_ch ((nar .char ((usr p1 (16 : Int32)) &&& (255 : Int32))) + ((usr p2 (10 : Int32)) &&& (3 : Int32)))).1 (own_ch ((nar .char ((usr p1 (8 : Int32)) &&& (255 : Int32))) + ((usr p2 (8 : Int32)) &&& (3 : Int32)))).2.1 (own_ch ((nar .char ((usr p1 (16 : Int32)) &&& (255 : Int32))) + ((usr p2 (10 : Int32)) &&& (3 : Int32)))).2.1 (by omega) cs F_358 hcs) at_102 (hw _ (List.mem_of_getElem? (i := 8) rfl)) (hw _ (List.mem_of_getElem? (i := 9) rfl)) (hw _ (List.mem_of_getElem? (i := 3) rfl)) (hw _ (List.mem_of_getElem? (i := 10) rfl)) (by decide) (lenOf pd__28ICC_29Ljava_2flang_2fString_3b rfl) rfl 0 rfl rfl (by decide) (by decide) (by decide) (by decide) (fun _ q => nomatch q) rfl (fun v_359 h_360 N_361 hQ_362 hle_363 => ?_)
    obtain ⟨a_348, b_349, k_350, rfl, g_351, g_352, K_353, X_354, F_355, F_356, A_357⟩ := hQ_362
    have szh_360 : h_344.size ≤ h_360.size := K_353.1
    have ltb_349 := nlt A_357.lt
    have lta_348 := nlt g_352
    refine Go.re (pc' := 105) (L' := #[.val (.int p0), .val (.int p1), .val (.int p2), .val (.int p3), .val (.int p4), .val (.int ((p0 &&& (2147483647 : Int32)) % (5 : Int32))), .val (.ref r1), .val (.int ((p1 &&& (2147483647 : Int32)) % (3 : Int32))), .val (.int (nar .char ((usr p1 (8 : Int32)) &&& (255 : Int32)))), .val (.int (nar .char ((usr p1 (16 : Int32)) &&& (255 : Int32)))), .val (.int ((p2 &&& (2147483647 : Int32)) % (3 : Int32))), .val (.int (nar .char (((nar .char ((usr p1 (8 : Int32)) &&& (255 : Int32))) + ((usr p2 (8 : Int32)) &&& (3 : Int32))) &&& (255 : Int32)))), .val (.int (nar .char (((nar .char ((usr p1 (16 : Int32)) &&& (255 : Int32))) + ((usr p2 (10 : Int32)) &&& (3 : Int32))) &&& (255 : Int32)))), .val (.ref a_333), .unset, .unset, .unset, .unset]) (S' := [(.ref a_348)]) rfl rfl rfl ?_
    refine Go.astore (pc' := 107) #[.val (.int p0), .val (.int p1), .val (.int p2), .val (.int p3), .val (.int p4), .val (.int ((p0 &&& (2147483647 : Int32)) % (5 : Int32))), .val (.ref r1), .val (.int ((p1 &&& (2147483647 : Int32)) % (3 : Int32))), .val (.int (nar .char ((usr p1 (8 : Int32)) &&& (255 : Int32)))), .val (.int (nar .char ((usr p1 (16 : Int32)) &&& (255 : Int32)))), .val (.int ((p2 &&& (2147483647 : Int32)) % (3 : Int32))), .val (.int (nar .char (((nar .char ((usr p1 (8 : Int32)) &&& (255 : Int32))) + ((usr p2 (8 : Int32)) &&& (3 : Int32))) &&& (255 : Int32)))), .val (.int (nar .char (((nar .char ((usr p1 (16 : Int32)) &&& (255 : Int32))) + ((usr p2 (10 : Int32)) &&& (3 : Int32))) &&& (255 : Int32)))), .val (.ref a_333), .val (.ref a_348), .unset, .unset, .unset] at_105 rfl rfl rfl ?_
    refine Go.newO (pc' := 110) (a1 := a0) at_107 (hw _ (List.mem_of_getElem? (i := 44) rfl)) (hw _ (List.mem_of_getElem? (i := 45) rfl)) (hw _ (List.mem_of_getElem? (i := 46) rfl)) (by decide) (by decide) rfl (fun a_364 h_365 ha_367 E_366 X_368 Df_369 => ?_)
    have szh_365 : h_360.size ≤ h_365.size := E_366.1
    have lta_364 := nlt X_368.lt
    have qa_364 := neq ha_367
    have F_370 : Fld Z h_365 a_364 "com/example/relations_into_instances/relationsintoinstances/parse/Token" "kind" "Lcom/example/relations_into_instances/relationsintoinstances/parse/Token$Kind;" (.null) := Df_369 (Or.inr (hw _ (List.mem_of_getElem? (i := 57) rfl))) (ty := (.object "com/example/relations_into_instances/relationsintoinstances/parse/Token$Kind")) (by decide)
    have F_371 : Fld Z h_365 a_364 "com/example/relations_into_instances/relationsintoinstances/parse/Token" "text" "Ljava/lang/String;" (.null) := Df_369 (Or.inr (hw _ (List.mem_of_getElem? (i := 59) rfl))) (ty := (.object "java/lang/String")) (by decide)
    have F_372 : Fld Z h_365 a_364 "com/example/relations_into_instances/relationsintoinstances/parse/Token" "line" "I" (.int (0 : Int32)) := Df_369 (Or.inr (hw _ (List.mem_of_getElem? (i := 61) rfl))) (ty := .int) (by decide)
    have F_373 : Fld Z h_365 a_364 "com/example/relations_into_instances/relationsintoinstances/parse/Token" "column" "I" (.int (0 : Int32)) := Df_369 (Or.inr (hw _ (List.mem_of_getElem? (i := 63) rfl))) (ty := .int) (by decide)
    refine Go.dup (pc' := 111) at_110 rfl rfl ?_
    refine Go.aload (pc' := 113) at_111 rfl rfl rfl ?_
    refine Go.aload (pc' := 115) at_113 rfl rfl rfl ?_
    refine Go.iloadN (pc' := 116) at_115 rfl rfl ?_
    refine Go.iload (pc' := 118) at_116 rfl rfl ?_
    refine Go.callN (a1 := a0) (pc' := 121) (argsL := [(.ref r1), (.ref a_333), (.int p3), (.int p4)]) (rest := [(.ref a_364)]) (ct_tok l Z a0 hw n0 h_365 a_364 r1 a_333 p3 p4 (by omega) X_368 F_370 F_371 F_372 F_373) at_118 rfl (hw _ (List.mem_of_getElem? (i := 47) rfl)) (hw _ (List.mem_of_getElem? (i := 48) rfl)) (hw _ (List.mem_of_getElem? (i := 46) rfl)) (hw _ (List.mem_of_getElem? (i := 49) rfl)) (by decide) (lenOf pd__28Lcom_2fexample_2frelations_into_instances_2frelationsintoinstances_2fparse_2fToken_24Kind_3bLjava_2flang_2fString_3bII_29V rfl) rfl 1 rfl rfl (by decide) (by decide) (by decide) (by decide) (fun _ q => nomatch q) rfl (fun v_378 h_379 N_380 hQ_381 hle_382 => ?_)
    obtain ⟨rfl, K_374, X_375, F_376, F_377⟩ := hQ_381
    have szh_379 : h_365.size ≤ h_379.size := K_374.1
    refine Go.re (pc' := 121) (L' := #[.val (.int p0), .val (.int p1), .val (.int p2), .val (.int p3), .val (.int p4), .val (.int ((p0 &&& (2147483647 : Int32)) % (5 : Int32))), .val (.ref r1), .val (.int ((p1 &&& (2147483647 : Int32)) % (3 : Int32))), .val (.int (nar .char ((usr p1 (8 : Int32)) &&& (255 : Int32)))), .val (.int (nar .char ((usr p1 (16 : Int32)) &&& (255 : Int32)))), .val (.int ((p2 &&& (2147483647 : Int32)) % (3 : Int32))), .val (.int (nar .char (((nar .char ((usr p1 (8 : Int32)) &&& (255 : Int32))) + ((usr p2 (8 : Int32)) &&& (3 : Int32))) &&& (255 : Int32)))), .val (.int (nar .char (((nar .char ((usr p1 (16 : Int32)) &&& (255 : Int32))) + ((usr p2 (10 : Int32)) &&& (3 : Int32))) &&& (255 : Int32)))), .val (.ref a_333), .val (.ref a_348), .unset, .unset, .unset]) (S' := [(.ref a_364)]) rfl rfl rfl ?_
    refine Go.astore (pc' := 123) #[.val (.int p0), .val (.int p1), .val (.int p2), .val (.int p3), .val (.int p4), .val (.int ((p0 &&& (2147483647 : Int32)) % (5 : Int32))), .val (.ref r1), .val (.int ((p1 &&& (2147483647 : Int32)) % (3 : Int32))), .val (.int (nar .char ((usr p1 (8 : Int32)) &&& (255 : Int32)))), .val (.int (nar .char ((usr p1 (16 : Int32)) &&& (255 : Int32)))), .val (.int ((p2 &&& (2147483647 : Int32)) % (3 : Int32))), .val (.int (nar .char (((nar .char ((usr p1 (8 : Int32)) &&& (255 : Int32))) + ((usr p2 (8 : Int32)) &&& (3 : Int32))) &&& (255 : Int32)))), .val (.int (nar .char (((nar .char ((usr p1 (16 : Int32)) &&& (255 : Int32))) + ((usr p2 (10 : Int32)) &&& (3 : Int32))) &&& (255 : Int32)))), .val (.ref a_333), .val (.ref a_348), .val (.ref a_364), .unset, .unset] at_121 rfl rfl rfl ?_
    refine Go.iload (pc' := 125) at_123 rfl rfl ?_
    refine Go.iconst (pc' := 126) 2 at_125 rfl rfl ?_
    refine Go.icmpF (pc' := 129) at_126 (hi_1) rfl ?_
    refine Go.iload (pc' := 131) at_129 rfl rfl ?_
    refine Go.iconst (pc' := 132) 3 at_131 rfl rfl ?_
    refine Go.icmpT (pc' := 139) at_132 (hj) (by decide) (by decide) ?_
    refine Go.iconst (pc' := 140) 0 at_139 rfl rfl ?_
    refine Go.istore (pc' := 142) #[.val (.int p0), .val (.int p1), .val (.int p2), .val (.int p3), .val (.int p4), .val (.int ((p0 &&& (2147483647 : Int32)) % (5 : Int32))), .val (.ref r1), .val (.int ((p1 &&& (2147483647 : Int32)) % (3 : Int32))), .val (.int (nar .char ((usr p1 (8 : Int32)) &&& (255 : Int32)))), .val (.int (nar .char ((usr p1 (16 : Int32)) &&& (255 : Int32)))), .val (.int ((p2 &&& (2147483647 : Int32)) % (3 : Int32))), .val (.int (nar .char (((nar .char ((usr p1 (8 : Int32)) &&& (255 : Int32))) + ((usr p2 (8 : Int32)) &&& (3 : Int32))) &&& (255 : Int32)))), .val (.int (nar .char (((nar .char ((usr p1 (16 : Int32)) &&& (255 : Int32))) + ((usr p2 (10 : Int32)) &&& (3 : Int32))) &&& (255 : Int32)))), .val (.ref a_333), .val (.ref a_348), .val (.ref a_364), .val (.int (0 : Int32)), .unset] at_140 rfl rfl ?_
    refine Go.iload (pc' := 144) at_142 rfl rfl ?_
    refine Go.iload (pc' := 146) at_144 rfl rfl ?_
    refine Go.icmp (pc' := 179) (pc'' := 149) at_146 (by decide) (by decide) rfl (fun hc_383 => ?_) (fun hc_383 => ?_)
    · have hc_383 : ¬ (((p1 &&& (2147483647 : Int32)) % (3 : Int32)) = ((p2 &&& (2147483647 : Int32)) % (3 : Int32))) := hc_383
      refine Go.iconst (pc' := 180) 0 at_179 rfl rfl ?_
      refine Go.istore (pc' := 182) #[.val (.int p0), .val (.int p1), .val (.int p2), .val (.int p3), .val (.int p4), .val (.int ((p0 &&& (2147483647 : Int32)) % (5 : Int32))), .val (.ref r1), .val (.int ((p1 &&& (2147483647 : Int32)) % (3 : Int32))), .val (.int (nar .char ((usr p1 (8 : Int32)) &&& (255 : Int32)))), .val (.int (nar .char ((usr p1 (16 : Int32)) &&& (255 : Int32)))), .val (.int ((p2 &&& (2147483647 : Int32)) % (3 : Int32))), .val (.int (nar .char (((nar .char ((usr p1 (8 : Int32)) &&& (255 : Int32))) + ((usr p2 (8 : Int32)) &&& (3 : Int32))) &&& (255 : Int32)))), .val (.int (nar .char (((nar .char ((usr p1 (16 : Int32)) &&& (255 : Int32))) + ((usr p2 (10 : Int32)) &&& (3 : Int32))) &&& (255 : Int32)))), .val (.ref a_333), .val (.ref a_348), .val (.ref a_364), .val (.int (0 : Int32)), .val (.int (0 : Int32))] at_180 rfl rfl ?_
      refine Go.aload (pc' := 184) at_182 rfl rfl rfl ?_
      refine Go.aload (pc' := 186) at_184 rfl rfl rfl ?_
      have F_384 : Exa Z h_379 a_333 "java/lang/String" := (Exa.keep (Exa.ext E_366 (Exa.keep X_339 K_353)) K_374)
      have F_385 : Fld Z h_379 a_333 "java/lang/String" "coder" "B" (.int (0 : Int32)) := (Fld.keep (Fld.ext E_366 (Fld.keep F_340 K_353 nin0)) K_374 (ninS (nne (by omega)) nin0))
      have F_386 : Fld Z h_379 a_333 "java/lang/String" "value" "[B" (.ref b_334) := (Fld.keep (Fld.ext E_366 (Fld.keep F_341 K_353 nin0)) K_374 (ninS (nne (by omega)) nin0))
      have F_387 : Arv Z h_379 b_334 k_335 .byte (Int32.ofNat (own_mk ((p1 &&& (2147483647 : Int32)) % (3 : Int32)) (nar .char ((usr p1 (8 : Int32)) &&& (255 : Int32))) (nar .char ((usr p1 (16 : Int32)) &&& (255 : Int32)))).length) ((own_mk ((p1 &&& (2147483647 : Int32)) % (3 : Int32)) (nar .char ((usr p1 (8 : Int32)) &&& (255 : Int32))) (nar .char ((usr p1 (16 : Int32)) &&& (255 : Int32)))).map Value.int) (.int 0) := (Arv.keep (Arv.ext (Arv.keep A_342 K_353 nin0) E_366) K_374 (ninS (nne (by omega)) nin0))
      have F_388 : Exa Z h_379 a_348 "java/lang/String" := (Exa.keep (Exa.ext E_366 X_354) K_374)
      have F_389 : Fld Z h_379 a_348 "java/lang/String" "coder" "B" (.int (0 : Int32)) := (Fld.keep (Fld.ext E_366 F_355) K_374 (ninS (nne (by omega)) nin0))
      have F_390 : Fld Z h_379 a_348 "java/lang/String" "value" "[B" (.ref b_349) := (Fld.keep (Fld.ext E_366 F_356) K_374 (ninS (nne (by omega)) nin0))
      have F_391 : Arv Z h_379 b_349 k_350 .byte (Int32.ofNat (own_mk ((p2 &&& (2147483647 : Int32)) % (3 : Int32)) (nar .char (((nar .char ((usr p1 (8 : Int32)) &&& (255 : Int32))) + ((usr p2 (8 : Int32)) &&& (3 : Int32))) &&& (255 : Int32))) (nar .char (((nar .char ((usr p1 (16 : Int32)) &&& (255 : Int32))) + ((usr p2 (10 : Int32)) &&& (3 : Int32))) &&& (255 : Int32)))).length) ((own_mk ((p2 &&& (2147483647 : Int32)) % (3 : Int32)) (nar .char (((nar .char ((usr p1 (8 : Int32)) &&& (255 : Int32))) + ((usr p2 (8 : Int32)) &&& (3 : Int32))) &&& (255 : Int32))) (nar .char (((nar .char ((usr p1 (16 : Int32)) &&& (255 : Int32))) + ((usr p2 (10 : Int32)) &&& (3 : Int32))) &&& (255 : Int32)))).map Value.int) (.int 0) := (Arv.keep (Arv.ext A_357 E_366) K_374 (ninS (nne (by omega)) nin0))
      have F_392 : Sta Z h_379 "com/example/relations_into_instances/relationsintoinstances/parse/Token$Kind" "KEYWORD" "Lcom/example/relations_into_instances/relationsintoinstances/parse/Token$Kind;" (.ref o_KEYWORD) := (sta_keep (Sta.ext E_366 (sta_keep (sta_keep S_KEYWORD K_338 ns0) K_353 ns0)) K_374 (nsS (Exa.nostat X_368) ns0))
      have F_393 : Sta Z h_379 "com/example/relations_into_instances/relationsintoinstances/parse/Token$Kind" "SYMBOL" "Lcom/example/relations_into_instances/relationsintoinstances/parse/Token$Kind;" (.ref o_SYMBOL) := (sta_keep (Sta.ext E_366 (sta_keep (sta_keep S_SYMBOL K_338 ns0) K_353 ns0)) K_374 (nsS (Exa.nostat X_368) ns0))
      have F_394 : Fld Z h_379 o_SYMBOL "java/lang/Enum" "ordinal" "I" (.int (3 : Int32)) := (Fld.keep (Fld.ext E_366 (Fld.keep (Fld.keep F_SYMBOL_ordinal K_338 nin0) K_353 nin0)) K_374 (ninS (nne (by omega)) nin0))
      have F_395 : Fld Z h_379 o_KEYWORD "java/lang/Enum" "ordinal" "I" (.int (2 : Int32)) := (Fld.keep (Fld.ext E_366 (Fld.keep (Fld.keep F_KEYWORD_ordinal K_338 nin0) K_353 nin0)) K_374 (ninS (nne (by omega)) nin0))
      have F_396 : Sta Z h_379 "java/lang/String" "COMPACT_STRINGS" "Z" (.int cs) := (sta_keep (Sta.ext E_366 (sta_keep F_358 K_353 ns0)) K_374 (nsS (Exa.nostat X_368) ns0))
      refine Go.callV (a1 := a0) (pc' := 189) (argsL := [(.ref a_348)]) (rest := []) (ct_isO l Z a0 hw n0 h_379 a_364 a_333 a_348 b_334 b_349 k_335 k_350 (own_mk ((p1 &&& (2147483647 : Int32)) % (3 : Int32)) (nar .char ((usr p1 (8 : Int32)) &&& (255 : Int32))) (nar .char ((usr p1 (16 : Int32)) &&& (255 : Int32)))) (own_mk ((p2 &&& (2147483647 : Int32)) % (3 : Int32)) (nar .char (((nar .char ((usr p1 (8 : Int32)) &&& (255 : Int32))) + ((usr p2 (8 : Int32)) &&& (3 : Int32))) &&& (255 : Int32))) (nar .char (((nar .char ((usr p1 (16 : Int32)) &&& (255 : Int32))) + ((usr p2 (10 : Int32)) &&& (3 : Int32))) &&& (255 : Int32)))) (own_mk_len _ _ _) (own_mk_len _ _ _) (nne (by omega)) cs F_396 hcs F_384 F_385 F_386 F_387 F_388 F_389 F_390 F_391 o_KEYWORD F_392 o_SYMBOL F_393 X_375 r1 hr1 hr2 F_376 F_377) at_186 (hw _ (List.mem_of_getElem? (i := 64) rfl)) (hw _ (List.mem_of_getElem? (i := 65) rfl)) (hw _ (List.mem_of_getElem? (i := 67) rfl)) (hw _ (List.mem_of_getElem? (i := 67) rfl)) (hw _ (List.mem_of_getElem? (i := 66) rfl)) (hw _ (List.mem_of_getElem? (i := 46) rfl)) (hw _ (List.mem_of_getElem? (i := 68) rfl)) X_375 (by decide) (lenOf pd__28Ljava_2flang_2fString_3b_29Z rfl) rfl 0 rfl rfl (by decide) (by decide) (by decide) (by decide) (fun _ q => nomatch q) rfl (fun v_397 h_398 N_399 hQ_400 hle_401 => ?_)
      obtain ⟨rfl, rfl⟩ := hQ_400
      refine Go.re (pc' := 189) (L' := #[.val (.int p0), .val (.int p1), .val (.int p2), .val (.int p3), .val (.int p4), .val (.int ((p0 &&& (2147483647 : Int32)) % (5 : Int32))), .val (.ref r1), .val (.int ((p1 &&& (2147483647 : Int32)) % (3 : Int32))), .val (.int (nar .char ((usr p1 (8 : Int32)) &&& (255 : Int32)))), .val (.int (nar .char ((usr p1 (16 : Int32)) &&& (255 : Int32)))), .val (.int ((p2 &&& (2147483647 : Int32)) % (3 : Int32))), .val (.int (nar .char (((nar .char ((usr p1 (8 : Int32)) &&& (255 : Int32))) + ((usr p2 (8 : Int32)) &&& (3 : Int32))) &&& (255 : Int32)))), .val (.int (nar .char (((nar .char ((usr p1 (16 : Int32)) &&& (255 : Int32))) + ((usr p2 (10 : Int32)) &&& (3 : Int32))) &&& (255 : Int32)))), .val (.ref a_333), .val (.ref a_348), .val (.ref a_364), .val (.int (0 : Int32)), .val (.int (0 : Int32))]) (S' := [(.int (0 : Int32))]) rfl rfl rfl ?_
      refine Go.iload (pc' := 191) at_189 rfl rfl ?_
      refine Go.ifT (pc' := 203) at_191 (show (0 : Int32) = (0 : Int32) by decide) (by decide) (by decide) ?_
      refine Go.iconst (pc' := 204) 0 at_203 rfl rfl ?_
      refine Go.icmpF (pc' := 207) at_204 (rfl) rfl ?_
      refine Go.iconst (pc' := 208) 1 at_207 rfl rfl ?_
      refine Go.goto (pc' := 212) at_208 (by decide) (by decide) ?_
      refine Go.retN (t := .boolean) (1 : Int32) rfl (by simp) rfl [] (fun _ q => nomatch q) at_212 (by decide) (by decide) ?_
      exact rfl
    · have hc_383 : ((p1 &&& (2147483647 : Int32)) % (3 : Int32)) = ((p2 &&& (2147483647 : Int32)) % (3 : Int32)) := hc_383
      refine Go.iload (pc' := 151) at_149 rfl rfl ?_
      refine Go.iconst (pc' := 152) 1 at_151 rfl rfl ?_
      refine Go.icmp (pc' := 162) (pc'' := 155) at_152 (by decide) (by decide) rfl (fun hc_402 => ?_) (fun hc_402 => ?_)
      · have hc_402 : ((p1 &&& (2147483647 : Int32)) % (3 : Int32)) < (1 : Int32) := hc_402
        refine Go.iload (pc' := 164) at_162 rfl rfl ?_
        refine Go.iconst (pc' := 165) 2 at_164 rfl rfl ?_
        refine Go.icmpT (pc' := 175) at_165 (own_lt12 hc_402) (by decide) (by decide) ?_
        refine Go.iconst (pc' := 176) 1 at_175 rfl rfl ?_
        refine Go.goto (pc' := 180) at_176 (by decide) (by decide) ?_
        refine Go.istore (pc' := 182) #[.val (.int p0), .val (.int p1), .val (.int p2), .val (.int p3), .val (.int p4), .val (.int ((p0 &&& (2147483647 : Int32)) % (5 : Int32))), .val (.ref r1), .val (.int ((p1 &&& (2147483647 : Int32)) % (3 : Int32))), .val (.int (nar .char ((usr p1 (8 : Int32)) &&& (255 : Int32)))), .val (.int (nar .char ((usr p1 (16 : Int32)) &&& (255 : Int32)))), .val (.int ((p2 &&& (2147483647 : Int32)) % (3 : Int32))), .val (.int (nar .char (((nar .char ((usr p1 (8 : Int32)) &&& (255 : Int32))) + ((usr p2 (8 : Int32)) &&& (3 : Int32))) &&& (255 : Int32)))), .val (.int (nar .char (((nar .char ((usr p1 (16 : Int32)) &&& (255 : Int32))) + ((usr p2 (10 : Int32)) &&& (3 : Int32))) &&& (255 : Int32)))), .val (.ref a_333), .val (.ref a_348), .val (.ref a_364), .val (.int (0 : Int32)), .val (.int (1 : Int32))] at_180 rfl rfl ?_
        refine Go.aload (pc' := 184) at_182 rfl rfl rfl ?_
        refine Go.aload (pc' := 186) at_184 rfl rfl rfl ?_
        have F_403 : Exa Z h_379 a_333 "java/lang/String" := (Exa.keep (Exa.ext E_366 (Exa.keep X_339 K_353)) K_374)
        have F_404 : Fld Z h_379 a_333 "java/lang/String" "coder" "B" (.int (0 : Int32)) := (Fld.keep (Fld.ext E_366 (Fld.keep F_340 K_353 nin0)) K_374 (ninS (nne (by omega)) nin0))
        have F_405 : Fld Z h_379 a_333 "java/lang/String" "value" "[B" (.ref b_334) := (Fld.keep (Fld.ext E_366 (Fld.keep F_341 K_353 nin0)) K_374 (ninS (nne (by omega)) nin0))
        have F_406 : Arv Z h_379 b_334 k_335 .byte (Int32.ofNat (own_mk ((p1 &&& (2147483647 : Int32)) % (3 : Int32)) (nar .char ((usr p1 (8 : Int32)) &&& (255 : Int32))) (nar .char ((usr p1 (16 : Int32)) &&& (255 : Int32)))).length) ((own_mk ((p1 &&& (2147483647 : Int32)) % (3 : Int32)) (nar .char ((usr p1 (8 : Int32)) &&& (255 : Int32))) (nar .char ((usr p1 (16 : Int32)) &&& (255 : Int32)))).map Value.int) (.int 0) := (Arv.keep (Arv.ext (Arv.keep A_342 K_353 nin0) E_366) K_374 (ninS (nne (by omega)) nin0))
        have F_407 : Exa Z h_379 a_348 "java/lang/String" := (Exa.keep (Exa.ext E_366 X_354) K_374)
        have F_408 : Fld Z h_379 a_348 "java/lang/String" "coder" "B" (.int (0 : Int32)) := (Fld.keep (Fld.ext E_366 F_355) K_374 (ninS (nne (by omega)) nin0))
        have F_409 : Fld Z h_379 a_348 "java/lang/String" "value" "[B" (.ref b_349) := (Fld.keep (Fld.ext E_366 F_356) K_374 (ninS (nne (by omega)) nin0))
        have F_410 : Arv Z h_379 b_349 k_350 .byte (Int32.ofNat (own_mk ((p2 &&& (2147483647 : Int32)) % (3 : Int32)) (nar .char (((nar .char ((usr p1 (8 : Int32)) &&& (255 : Int32))) + ((usr p2 (8 : Int32)) &&& (3 : Int32))) &&& (255 : Int32))) (nar .char (((nar .char ((usr p1 (16 : Int32)) &&& (255 : Int32))) + ((usr p2 (10 : Int32)) &&& (3 : Int32))) &&& (255 : Int32)))).length) ((own_mk ((p2 &&& (2147483647 : Int32)) % (3 : Int32)) (nar .char (((nar .char ((usr p1 (8 : Int32)) &&& (255 : Int32))) + ((usr p2 (8 : Int32)) &&& (3 : Int32))) &&& (255 : Int32))) (nar .char (((nar .char ((usr p1 (16 : Int32)) &&& (255 : Int32))) + ((usr p2 (10 : Int32)) &&& (3 : Int32))) &&& (255 : Int32)))).map Value.int) (.int 0) := (Arv.keep (Arv.ext A_357 E_366) K_374 (ninS (nne (by omega)) nin0))
        have F_411 : Sta Z h_379 "com/example/relations_into_instances/relationsintoinstances/parse/Token$Kind" "KEYWORD" "Lcom/example/relations_into_instances/relationsintoinstances/parse/Token$Kind;" (.ref o_KEYWORD) := (sta_keep (Sta.ext E_366 (sta_keep (sta_keep S_KEYWORD K_338 ns0) K_353 ns0)) K_374 (nsS (Exa.nostat X_368) ns0))
        have F_412 : Sta Z h_379 "com/example/relations_into_instances/relationsintoinstances/parse/Token$Kind" "SYMBOL" "Lcom/example/relations_into_instances/relationsintoinstances/parse/Token$Kind;" (.ref o_SYMBOL) := (sta_keep (Sta.ext E_366 (sta_keep (sta_keep S_SYMBOL K_338 ns0) K_353 ns0)) K_374 (nsS (Exa.nostat X_368) ns0))
        have F_413 : Fld Z h_379 o_SYMBOL "java/lang/Enum" "ordinal" "I" (.int (3 : Int32)) := (Fld.keep (Fld.ext E_366 (Fld.keep (Fld.keep F_SYMBOL_ordinal K_338 nin0) K_353 nin0)) K_374 (ninS (nne (by omega)) nin0))
        have F_414 : Fld Z h_379 o_KEYWORD "java/lang/Enum" "ordinal" "I" (.int (2 : Int32)) := (Fld.keep (Fld.ext E_366 (Fld.keep (Fld.keep F_KEYWORD_ordinal K_338 nin0) K_353 nin0)) K_374 (ninS (nne (by omega)) nin0))
        have F_415 : Sta Z h_379 "java/lang/String" "COMPACT_STRINGS" "Z" (.int cs) := (sta_keep (Sta.ext E_366 (sta_keep F_358 K_353 ns0)) K_374 (nsS (Exa.nostat X_368) ns0))
        refine Go.callV (a1 := a0) (pc' := 189) (argsL := [(.ref a_348)]) (rest := []) (ct_isO l Z a0 hw n0 h_379 a_364 a_333 a_348 b_334 b_349 k_335 k_350 (own_mk ((p1 &&& (2147483647 : Int32)) % (3 : Int32)) (nar .char ((usr p1 (8 : Int32)) &&& (255 : Int32))) (nar .char ((usr p1 (16 : Int32)) &&& (255 : Int32)))) (own_mk ((p2 &&& (2147483647 : Int32)) % (3 : Int32)) (nar .char (((nar .char ((usr p1 (8 : Int32)) &&& (255 : Int32))) + ((usr p2 (8 : Int32)) &&& (3 : Int32))) &&& (255 : Int32))) (nar .char (((nar .char ((usr p1 (16 : Int32)) &&& (255 : Int32))) + ((usr p2 (10 : Int32)) &&& (3 : Int32))) &&& (255 : Int32)))) (own_mk_len _ _ _) (own_mk_len _ _ _) (nne (by omega)) cs F_415 hcs F_403 F_404 F_405 F_406 F_407 F_408 F_409 F_410 o_KEYWORD F_411 o_SYMBOL F_412 X_375 r1 hr1 hr2 F_376 F_377) at_186 (hw _ (List.mem_of_getElem? (i := 64) rfl)) (hw _ (List.mem_of_getElem? (i := 65) rfl)) (hw _ (List.mem_of_getElem? (i := 67) rfl)) (hw _ (List.mem_of_getElem? (i := 67) rfl)) (hw _ (List.mem_of_getElem? (i := 66) rfl)) (hw _ (List.mem_of_getElem? (i := 46) rfl)) (hw _ (List.mem_of_getElem? (i := 68) rfl)) X_375 (by decide) (lenOf pd__28Ljava_2flang_2fString_3b_29Z rfl) rfl 0 rfl rfl (by decide) (by decide) (by decide) (by decide) (fun _ q => nomatch q) rfl (fun v_416 h_417 N_418 hQ_419 hle_420 => ?_)
        obtain ⟨rfl, rfl⟩ := hQ_419
        refine Go.re (pc' := 189) (L' := #[.val (.int p0), .val (.int p1), .val (.int p2), .val (.int p3), .val (.int p4), .val (.int ((p0 &&& (2147483647 : Int32)) % (5 : Int32))), .val (.ref r1), .val (.int ((p1 &&& (2147483647 : Int32)) % (3 : Int32))), .val (.int (nar .char ((usr p1 (8 : Int32)) &&& (255 : Int32)))), .val (.int (nar .char ((usr p1 (16 : Int32)) &&& (255 : Int32)))), .val (.int ((p2 &&& (2147483647 : Int32)) % (3 : Int32))), .val (.int (nar .char (((nar .char ((usr p1 (8 : Int32)) &&& (255 : Int32))) + ((usr p2 (8 : Int32)) &&& (3 : Int32))) &&& (255 : Int32)))), .val (.int (nar .char (((nar .char ((usr p1 (16 : Int32)) &&& (255 : Int32))) + ((usr p2 (10 : Int32)) &&& (3 : Int32))) &&& (255 : Int32)))), .val (.ref a_333), .val (.ref a_348), .val (.ref a_364), .val (.int (0 : Int32)), .val (.int (1 : Int32))]) (S' := [(.int (0 : Int32))]) rfl rfl rfl ?_
        refine Go.iload (pc' := 191) at_189 rfl rfl ?_
        refine Go.ifT (pc' := 203) at_191 (show (0 : Int32) = (0 : Int32) by decide) (by decide) (by decide) ?_
        refine Go.iconst (pc' := 204) 0 at_203 rfl rfl ?_
        refine Go.icmpF (pc' := 207) at_204 (rfl) rfl ?_
        refine Go.iconst (pc' := 208) 1 at_207 rfl rfl ?_
        refine Go.goto (pc' := 212) at_208 (by decide) (by decide) ?_
        refine Go.retN (t := .boolean) (1 : Int32) rfl (by simp) rfl [] (fun _ q => nomatch q) at_212 (by decide) (by decide) ?_
        exact rfl
      · have hc_402 : ¬ (((p1 &&& (2147483647 : Int32)) % (3 : Int32)) < (1 : Int32)) := hc_402
        refine Go.iload (pc' := 157) at_155 rfl rfl ?_
        refine Go.iload (pc' := 159) at_157 rfl rfl ?_
        refine Go.icmp (pc' := 179) (pc'' := 162) at_159 (by decide) (by decide) rfl (fun hc_421 => ?_) (fun hc_421 => ?_)
        · have hc_421 : ¬ ((nar .char ((usr p1 (8 : Int32)) &&& (255 : Int32))) = (nar .char (((nar .char ((usr p1 (8 : Int32)) &&& (255 : Int32))) + ((usr p2 (8 : Int32)) &&& (3 : Int32))) &&& (255 : Int32)))) := hc_421
          refine Go.iconst (pc' := 180) 0 at_179 rfl rfl ?_
          refine Go.istore (pc' := 182) #[.val (.int p0), .val (.int p1), .val (.int p2), .val (.int p3), .val (.int p4), .val (.int ((p0 &&& (2147483647 : Int32)) % (5 : Int32))), .val (.ref r1), .val (.int ((p1 &&& (2147483647 : Int32)) % (3 : Int32))), .val (.int (nar .char ((usr p1 (8 : Int32)) &&& (255 : Int32)))), .val (.int (nar .char ((usr p1 (16 : Int32)) &&& (255 : Int32)))), .val (.int ((p2 &&& (2147483647 : Int32)) % (3 : Int32))), .val (.int (nar .char (((nar .char ((usr p1 (8 : Int32)) &&& (255 : Int32))) + ((usr p2 (8 : Int32)) &&& (3 : Int32))) &&& (255 : Int32)))), .val (.int (nar .char (((nar .char ((usr p1 (16 : Int32)) &&& (255 : Int32))) + ((usr p2 (10 : Int32)) &&& (3 : Int32))) &&& (255 : Int32)))), .val (.ref a_333), .val (.ref a_348), .val (.ref a_364), .val (.int (0 : Int32)), .val (.int (0 : Int32))] at_180 rfl rfl ?_
          refine Go.aload (pc' := 184) at_182 rfl rfl rfl ?_
          refine Go.aload (pc' := 186) at_184 rfl rfl rfl ?_
          have F_422 : Exa Z h_379 a_333 "java/lang/String" := (Exa.keep (Exa.ext E_366 (Exa.keep X_339 K_353)) K_374)
          have F_423 : Fld Z h_379 a_333 "java/lang/String" "coder" "B" (.int (0 : Int32)) := (Fld.keep (Fld.ext E_366 (Fld.keep F_340 K_353 nin0)) K_374 (ninS (nne (by omega)) nin0))
          have F_424 : Fld Z h_379 a_333 "java/lang/String" "value" "[B" (.ref b_334) := (Fld.keep (Fld.ext E_366 (Fld.keep F_341 K_353 nin0)) K_374 (ninS (nne (by omega)) nin0))
          have F_425 : Arv Z h_379 b_334 k_335 .byte (Int32.ofNat (own_mk ((p1 &&& (2147483647 : Int32)) % (3 : Int32)) (nar .char ((usr p1 (8 : Int32)) &&& (255 : Int32))) (nar .char ((usr p1 (16 : Int32)) &&& (255 : Int32)))).length) ((own_mk ((p1 &&& (2147483647 : Int32)) % (3 : Int32)) (nar .char ((usr p1 (8 : Int32)) &&& (255 : Int32))) (nar .char ((usr p1 (16 : Int32)) &&& (255 : Int32)))).map Value.int) (.int 0) := (Arv.keep (Arv.ext (Arv.keep A_342 K_353 nin0) E_366) K_374 (ninS (nne (by omega)) nin0))
          have F_426 : Exa Z h_379 a_348 "java/lang/String" := (Exa.keep (Exa.ext E_366 X_354) K_374)
          have F_427 : Fld Z h_379 a_348 "java/lang/String" "coder" "B" (.int (0 : Int32)) := (Fld.keep (Fld.ext E_366 F_355) K_374 (ninS (nne (by omega)) nin0))
          have F_428 : Fld Z h_379 a_348 "java/lang/String" "value" "[B" (.ref b_349) := (Fld.keep (Fld.ext E_366 F_356) K_374 (ninS (nne (by omega)) nin0))
          have F_429 : Arv Z h_379 b_349 k_350 .byte (Int32.ofNat (own_mk ((p2 &&& (2147483647 : Int32)) % (3 : Int32)) (nar .char (((nar .char ((usr p1 (8 : Int32)) &&& (255 : Int32))) + ((usr p2 (8 : Int32)) &&& (3 : Int32))) &&& (255 : Int32))) (nar .char (((nar .char ((usr p1 (16 : Int32)) &&& (255 : Int32))) + ((usr p2 (10 : Int32)) &&& (3 : Int32))) &&& (255 : Int32)))).length) ((own_mk ((p2 &&& (2147483647 : Int32)) % (3 : Int32)) (nar .char (((nar .char ((usr p1 (8 : Int32)) &&& (255 : Int32))) + ((usr p2 (8 : Int32)) &&& (3 : Int32))) &&& (255 : Int32))) (nar .char (((nar .char ((usr p1 (16 : Int32)) &&& (255 : Int32))) + ((usr p2 (10 : Int32)) &&& (3 : Int32))) &&& (255 : Int32)))).map Value.int) (.int 0) := (Arv.keep (Arv.ext A_357 E_366) K_374 (ninS (nne (by omega)) nin0))
          have F_430 : Sta Z h_379 "com/example/relations_into_instances/relationsintoinstances/parse/Token$Kind" "KEYWORD" "Lcom/example/relations_into_instances/relationsintoinstances/parse/Token$Kind;" (.ref o_KEYWORD) := (sta_keep (Sta.ext E_366 (sta_keep (sta_keep S_KEYWORD K_338 ns0) K_353 ns0)) K_374 (nsS (Exa.nostat X_368) ns0))
          have F_431 : Sta Z h_379 "com/example/relations_into_instances/relationsintoinstances/parse/Token$Kind" "SYMBOL" "Lcom/example/relations_into_instances/relationsintoinstances/parse/Token$Kind;" (.ref o_SYMBOL) := (sta_keep (Sta.ext E_366 (sta_keep (sta_keep S_SYMBOL K_338 ns0) K_353 ns0)) K_374 (nsS (Exa.nostat X_368) ns0))
          have F_432 : Fld Z h_379 o_SYMBOL "java/lang/Enum" "ordinal" "I" (.int (3 : Int32)) := (Fld.keep (Fld.ext E_366 (Fld.keep (Fld.keep F_SYMBOL_ordinal K_338 nin0) K_353 nin0)) K_374 (ninS (nne (by omega)) nin0))
          have F_433 : Fld Z h_379 o_KEYWORD "java/lang/Enum" "ordinal" "I" (.int (2 : Int32)) := (Fld.keep (Fld.ext E_366 (Fld.keep (Fld.keep F_KEYWORD_ordinal K_338 nin0) K_353 nin0)) K_374 (ninS (nne (by omega)) nin0))
          have F_434 : Sta Z h_379 "java/lang/String" "COMPACT_STRINGS" "Z" (.int cs) := (sta_keep (Sta.ext E_366 (sta_keep F_358 K_353 ns0)) K_374 (nsS (Exa.nostat X_368) ns0))
          refine Go.callV (a1 := a0) (pc' := 189) (argsL := [(.ref a_348)]) (rest := []) (ct_isO l Z a0 hw n0 h_379 a_364 a_333 a_348 b_334 b_349 k_335 k_350 (own_mk ((p1 &&& (2147483647 : Int32)) % (3 : Int32)) (nar .char ((usr p1 (8 : Int32)) &&& (255 : Int32))) (nar .char ((usr p1 (16 : Int32)) &&& (255 : Int32)))) (own_mk ((p2 &&& (2147483647 : Int32)) % (3 : Int32)) (nar .char (((nar .char ((usr p1 (8 : Int32)) &&& (255 : Int32))) + ((usr p2 (8 : Int32)) &&& (3 : Int32))) &&& (255 : Int32))) (nar .char (((nar .char ((usr p1 (16 : Int32)) &&& (255 : Int32))) + ((usr p2 (10 : Int32)) &&& (3 : Int32))) &&& (255 : Int32)))) (own_mk_len _ _ _) (own_mk_len _ _ _) (nne (by omega)) cs F_434 hcs F_422 F_423 F_424 F_425 F_426 F_427 F_428 F_429 o_KEYWORD F_430 o_SYMBOL F_431 X_375 r1 hr1 hr2 F_376 F_377) at_186 (hw _ (List.mem_of_getElem? (i := 64) rfl)) (hw _ (List.mem_of_getElem? (i := 65) rfl)) (hw _ (List.mem_of_getElem? (i := 67) rfl)) (hw _ (List.mem_of_getElem? (i := 67) rfl)) (hw _ (List.mem_of_getElem? (i := 66) rfl)) (hw _ (List.mem_of_getElem? (i := 46) rfl)) (hw _ (List.mem_of_getElem? (i := 68) rfl)) X_375 (by decide) (lenOf pd__28Ljava_2flang_2fString_3b_29Z rfl) rfl 0 rfl rfl (by decide) (by decide) (by decide) (by decide) (fun _ q => nomatch q) rfl (fun v_435 h_436 N_437 hQ_438 hle_439 => ?_)
          obtain ⟨rfl, rfl⟩ := hQ_438
          refine Go.re (pc' := 189) (L' := #[.val (.int p0), .val (.int p1), .val (.int p2), .val (.int p3), .val (.int p4), .val (.int ((p0 &&& (2147483647 : Int32)) % (5 : Int32))), .val (.ref r1), .val (.int ((p1 &&& (2147483647 : Int32)) % (3 : Int32))), .val (.int (nar .char ((usr p1 (8 : Int32)) &&& (255 : Int32)))), .val (.int (nar .char ((usr p1 (16 : Int32)) &&& (255 : Int32)))), .val (.int ((p2 &&& (2147483647 : Int32)) % (3 : Int32))), .val (.int (nar .char (((nar .char ((usr p1 (8 : Int32)) &&& (255 : Int32))) + ((usr p2 (8 : Int32)) &&& (3 : Int32))) &&& (255 : Int32)))), .val (.int (nar .char (((nar .char ((usr p1 (16 : Int32)) &&& (255 : Int32))) + ((usr p2 (10 : Int32)) &&& (3 : Int32))) &&& (255 : Int32)))), .val (.ref a_333), .val (.ref a_348), .val (.ref a_364), .val (.int (0 : Int32)), .val (.int (0 : Int32))]) (S' := [(.int (0 : Int32))]) rfl rfl rfl ?_
          refine Go.iload (pc' := 191) at_189 rfl rfl ?_
          refine Go.ifT (pc' := 203) at_191 (show (0 : Int32) = (0 : Int32) by decide) (by decide) (by decide) ?_
          refine Go.iconst (pc' := 204) 0 at_203 rfl rfl ?_
          refine Go.icmpF (pc' := 207) at_204 (rfl) rfl ?_
          refine Go.iconst (pc' := 208) 1 at_207 rfl rfl ?_
          refine Go.goto (pc' := 212) at_208 (by decide) (by decide) ?_
          refine Go.retN (t := .boolean) (1 : Int32) rfl (by simp) rfl [] (fun _ q => nomatch q) at_212 (by decide) (by decide) ?_
          exact rfl
        · have hc_421 : (nar .char ((usr p1 (8 : Int32)) &&& (255 : Int32))) = (nar .char (((nar .char ((usr p1 (8 : Int32)) &&& (255 : Int32))) + ((usr p2 (8 : Int32)) &&& (3 : Int32))) &&& (255 : Int32))) := hc_421
          refine Go.iload (pc' := 164) at_162 rfl rfl ?_
          refine Go.iconst (pc' := 165) 2 at_164 rfl rfl ?_
          refine Go.icmp (pc' := 175) (pc'' := 168) at_165 (by decide) (by decide) rfl (fun hc_440 => ?_) (fun hc_440 => ?_)
          · have hc_440 : ((p1 &&& (2147483647 : Int32)) % (3 : Int32)) < (2 : Int32) := hc_440
            refine Go.iconst (pc' := 176) 1 at_175 rfl rfl ?_
            refine Go.goto (pc' := 180) at_176 (by decide) (by decide) ?_
            refine Go.istore (pc' := 182) #[.val (.int p0), .val (.int p1), .val (.int p2), .val (.int p3), .val (.int p4), .val (.int ((p0 &&& (2147483647 : Int32)) % (5 : Int32))), .val (.ref r1), .val (.int ((p1 &&& (2147483647 : Int32)) % (3 : Int32))), .val (.int (nar .char ((usr p1 (8 : Int32)) &&& (255 : Int32)))), .val (.int (nar .char ((usr p1 (16 : Int32)) &&& (255 : Int32)))), .val (.int ((p2 &&& (2147483647 : Int32)) % (3 : Int32))), .val (.int (nar .char (((nar .char ((usr p1 (8 : Int32)) &&& (255 : Int32))) + ((usr p2 (8 : Int32)) &&& (3 : Int32))) &&& (255 : Int32)))), .val (.int (nar .char (((nar .char ((usr p1 (16 : Int32)) &&& (255 : Int32))) + ((usr p2 (10 : Int32)) &&& (3 : Int32))) &&& (255 : Int32)))), .val (.ref a_333), .val (.ref a_348), .val (.ref a_364), .val (.int (0 : Int32)), .val (.int (1 : Int32))] at_180 rfl rfl ?_
            refine Go.aload (pc' := 184) at_182 rfl rfl rfl ?_
            refine Go.aload (pc' := 186) at_184 rfl rfl rfl ?_
            have F_441 : Exa Z h_379 a_333 "java/lang/String" := (Exa.keep (Exa.ext E_366 (Exa.keep X_339 K_353)) K_374)
            have F_442 : Fld Z h_379 a_333 "java/lang/String" "coder" "B" (.int (0 : Int32)) := (Fld.keep (Fld.ext E_366 (Fld.keep F_340 K_353 nin0)) K_374 (ninS (nne (by omega)) nin0))
            have F_443 : Fld Z h_379 a_333 "java/lang/String" "value" "[B" (.ref b_334) := (Fld.keep (Fld.ext E_366 (Fld.keep F_341 K_353 nin0)) K_374 (ninS (nne (by omega)) nin0))
            have F_444 : Arv Z h_379 b_334 k_335 .byte (Int32.ofNat (own_mk ((p1 &&& (2147483647 : Int32)) % (3 : Int32)) (nar .char ((usr p1 (8 : Int32)) &&& (255 : Int32))) (nar .char ((usr p1 (16 : Int32)) &&& (255 : Int32)))).length) ((own_mk ((p1 &&& (2147483647 : Int32)) % (3 : Int32)) (nar .char ((usr p1 (8 : Int32)) &&& (255 : Int32))) (nar .char ((usr p1 (16 : Int32)) &&& (255 : Int32)))).map Value.int) (.int 0) := (Arv.keep (Arv.ext (Arv.keep A_342 K_353 nin0) E_366) K_374 (ninS (nne (by omega)) nin0))
            have F_445 : Exa Z h_379 a_348 "java/lang/String" := (Exa.keep (Exa.ext E_366 X_354) K_374)
            have F_446 : Fld Z h_379 a_348 "java/lang/String" "coder" "B" (.int (0 : Int32)) := (Fld.keep (Fld.ext E_366 F_355) K_374 (ninS (nne (by omega)) nin0))
            have F_447 : Fld Z h_379 a_348 "java/lang/String" "value" "[B" (.ref b_349) := (Fld.keep (Fld.ext E_366 F_356) K_374 (ninS (nne (by omega)) nin0))
            have F_448 : Arv Z h_379 b_349 k_350 .byte (Int32.ofNat (own_mk ((p2 &&& (2147483647 : Int32)) % (3 : Int32)) (nar .char (((nar .char ((usr p1 (8 : Int32)) &&& (255 : Int32))) + ((usr p2 (8 : Int32)) &&& (3 : Int32))) &&& (255 : Int32))) (nar .char (((nar .char ((usr p1 (16 : Int32)) &&& (255 : Int32))) + ((usr p2 (10 : Int32)) &&& (3 : Int32))) &&& (255 : Int32)))).length) ((own_mk ((p2 &&& (2147483647 : Int32)) % (3 : Int32)) (nar .char (((nar .char ((usr p1 (8 : Int32)) &&& (255 : Int32))) + ((usr p2 (8 : Int32)) &&& (3 : Int32))) &&& (255 : Int32))) (nar .char (((nar .char ((usr p1 (16 : Int32)) &&& (255 : Int32))) + ((usr p2 (10 : Int32)) &&& (3 : Int32))) &&& (255 : Int32)))).map Value.int) (.int 0) := (Arv.keep (Arv.ext A_357 E_366) K_374 (ninS (nne (by omega)) nin0))
            have F_449 : Sta Z h_379 "com/example/relations_into_instances/relationsintoinstances/parse/Token$Kind" "KEYWORD" "Lcom/example/relations_into_instances/relationsintoinstances/parse/Token$Kind;" (.ref o_KEYWORD) := (sta_keep (Sta.ext E_366 (sta_keep (sta_keep S_KEYWORD K_338 ns0) K_353 ns0)) K_374 (nsS (Exa.nostat X_368) ns0))
            have F_450 : Sta Z h_379 "com/example/relations_into_instances/relationsintoinstances/parse/Token$Kind" "SYMBOL" "Lcom/example/relations_into_instances/relationsintoinstances/parse/Token$Kind;" (.ref o_SYMBOL) := (sta_keep (Sta.ext E_366 (sta_keep (sta_keep S_SYMBOL K_338 ns0) K_353 ns0)) K_374 (nsS (Exa.nostat X_368) ns0))
            have F_451 : Fld Z h_379 o_SYMBOL "java/lang/Enum" "ordinal" "I" (.int (3 : Int32)) := (Fld.keep (Fld.ext E_366 (Fld.keep (Fld.keep F_SYMBOL_ordinal K_338 nin0) K_353 nin0)) K_374 (ninS (nne (by omega)) nin0))
            have F_452 : Fld Z h_379 o_KEYWORD "java/lang/Enum" "ordinal" "I" (.int (2 : Int32)) := (Fld.keep (Fld.ext E_366 (Fld.keep (Fld.keep F_KEYWORD_ordinal K_338 nin0) K_353 nin0)) K_374 (ninS (nne (by omega)) nin0))
            have F_453 : Sta Z h_379 "java/lang/String" "COMPACT_STRINGS" "Z" (.int cs) := (sta_keep (Sta.ext E_366 (sta_keep F_358 K_353 ns0)) K_374 (nsS (Exa.nostat X_368) ns0))
            refine Go.callV (a1 := a0) (pc' := 189) (argsL := [(.ref a_348)]) (rest := []) (ct_isO l Z a0 hw n0 h_379 a_364 a_333 a_348 b_334 b_349 k_335 k_350 (own_mk ((p1 &&& (2147483647 : Int32)) % (3 : Int32)) (nar .char ((usr p1 (8 : Int32)) &&& (255 : Int32))) (nar .char ((usr p1 (16 : Int32)) &&& (255 : Int32)))) (own_mk ((p2 &&& (2147483647 : Int32)) % (3 : Int32)) (nar .char (((nar .char ((usr p1 (8 : Int32)) &&& (255 : Int32))) + ((usr p2 (8 : Int32)) &&& (3 : Int32))) &&& (255 : Int32))) (nar .char (((nar .char ((usr p1 (16 : Int32)) &&& (255 : Int32))) + ((usr p2 (10 : Int32)) &&& (3 : Int32))) &&& (255 : Int32)))) (own_mk_len _ _ _) (own_mk_len _ _ _) (nne (by omega)) cs F_453 hcs F_441 F_442 F_443 F_444 F_445 F_446 F_447 F_448 o_KEYWORD F_449 o_SYMBOL F_450 X_375 r1 hr1 hr2 F_376 F_377) at_186 (hw _ (List.mem_of_getElem? (i := 64) rfl)) (hw _ (List.mem_of_getElem? (i := 65) rfl)) (hw _ (List.mem_of_getElem? (i := 67) rfl)) (hw _ (List.mem_of_getElem? (i := 67) rfl)) (hw _ (List.mem_of_getElem? (i := 66) rfl)) (hw _ (List.mem_of_getElem? (i := 46) rfl)) (hw _ (List.mem_of_getElem? (i := 68) rfl)) X_375 (by decide) (lenOf pd__28Ljava_2flang_2fString_3b_29Z rfl) rfl 0 rfl rfl (by decide) (by decide) (by decide) (by decide) (fun _ q => nomatch q) rfl (fun v_454 h_455 N_456 hQ_457 hle_458 => ?_)
            obtain ⟨rfl, rfl⟩ := hQ_457
            refine Go.re (pc' := 189) (L' := #[.val (.int p0), .val (.int p1), .val (.int p2), .val (.int p3), .val (.int p4), .val (.int ((p0 &&& (2147483647 : Int32)) % (5 : Int32))), .val (.ref r1), .val (.int ((p1 &&& (2147483647 : Int32)) % (3 : Int32))), .val (.int (nar .char ((usr p1 (8 : Int32)) &&& (255 : Int32)))), .val (.int (nar .char ((usr p1 (16 : Int32)) &&& (255 : Int32)))), .val (.int ((p2 &&& (2147483647 : Int32)) % (3 : Int32))), .val (.int (nar .char (((nar .char ((usr p1 (8 : Int32)) &&& (255 : Int32))) + ((usr p2 (8 : Int32)) &&& (3 : Int32))) &&& (255 : Int32)))), .val (.int (nar .char (((nar .char ((usr p1 (16 : Int32)) &&& (255 : Int32))) + ((usr p2 (10 : Int32)) &&& (3 : Int32))) &&& (255 : Int32)))), .val (.ref a_333), .val (.ref a_348), .val (.ref a_364), .val (.int (0 : Int32)), .val (.int (1 : Int32))]) (S' := [(.int (0 : Int32))]) rfl rfl rfl ?_
            refine Go.iload (pc' := 191) at_189 rfl rfl ?_
            refine Go.ifT (pc' := 203) at_191 (show (0 : Int32) = (0 : Int32) by decide) (by decide) (by decide) ?_
            refine Go.iconst (pc' := 204) 0 at_203 rfl rfl ?_
            refine Go.icmpF (pc' := 207) at_204 (rfl) rfl ?_
            refine Go.iconst (pc' := 208) 1 at_207 rfl rfl ?_
            refine Go.goto (pc' := 212) at_208 (by decide) (by decide) ?_
            refine Go.retN (t := .boolean) (1 : Int32) rfl (by simp) rfl [] (fun _ q => nomatch q) at_212 (by decide) (by decide) ?_
            exact rfl
          · have hc_440 : ¬ (((p1 &&& (2147483647 : Int32)) % (3 : Int32)) < (2 : Int32)) := hc_440
            refine Go.iload (pc' := 170) at_168 rfl rfl ?_
            refine Go.iload (pc' := 172) at_170 rfl rfl ?_
            refine Go.icmp (pc' := 179) (pc'' := 175) at_172 (by decide) (by decide) rfl (fun hc_459 => ?_) (fun hc_459 => ?_)
            · have hc_459 : ¬ ((nar .char ((usr p1 (16 : Int32)) &&& (255 : Int32))) = (nar .char (((nar .char ((usr p1 (16 : Int32)) &&& (255 : Int32))) + ((usr p2 (10 : Int32)) &&& (3 : Int32))) &&& (255 : Int32)))) := hc_459
              refine Go.iconst (pc' := 180) 0 at_179 rfl rfl ?_
              refine Go.istore (pc' := 182) #[.val (.int p0), .val (.int p1), .val (.int p2), .val (.int p3), .val (.int p4), .val (.int ((p0 &&& (2147483647 : Int32)) % (5 : Int32))), .val (.ref r1), .val (.int ((p1 &&& (2147483647 : Int32)) % (3 : Int32))), .val (.int (nar .char ((usr p1 (8 : Int32)) &&& (255 : Int32)))), .val (.int (nar .char ((usr p1 (16 : Int32)) &&& (255 : Int32)))), .val (.int ((p2 &&& (2147483647 : Int32)) % (3 : Int32))), .val (.int (nar .char (((nar .char ((usr p1 (8 : Int32)) &&& (255 : Int32))) + ((usr p2 (8 : Int32)) &&& (3 : Int32))) &&& (255 : Int32)))), .val (.int (nar .char (((nar .char ((usr p1 (16 : Int32)) &&& (255 : Int32))) + ((usr p2 (10 : Int32)) &&& (3 : Int32))) &&& (255 : Int32)))), .val (.ref a_333), .val (.ref a_348), .val (.ref a_364), .val (.int (0 : Int32)), .val (.int (0 : Int32))] at_180 rfl rfl ?_
              refine Go.aload (pc' := 184) at_182 rfl rfl rfl ?_
              refine Go.aload (pc' := 186) at_184 rfl rfl rfl ?_
              have F_460 : Exa Z h_379 a_333 "java/lang/String" := (Exa.keep (Exa.ext E_366 (Exa.keep X_339 K_353)) K_374)
              have F_461 : Fld Z h_379 a_333 "java/lang/String" "coder" "B" (.int (0 : Int32)) := (Fld.keep (Fld.ext E_366 (Fld.keep F_340 K_353 nin0)) K_374 (ninS (nne (by omega)) nin0))
              have F_462 : Fld Z h_379 a_333 "java/lang/String" "value" "[B" (.ref b_334) := (Fld.keep (Fld.ext E_366 (Fld.keep F_341 K_353 nin0)) K_374 (ninS (nne (by omega)) nin0))
              have F_463 : Arv Z h_379 b_334 k_335 .byte (Int32.ofNat (own_mk ((p1 &&& (2147483647 : Int32)) % (3 : Int32)) (nar .char ((usr p1 (8 : Int32)) &&& (255 : Int32))) (nar .char ((usr p1 (16 : Int32)) &&& (255 : Int32)))).length) ((own_mk ((p1 &&& (2147483647 : Int32)) % (3 : Int32)) (nar .char ((usr p1 (8 : Int32)) &&& (255 : Int32))) (nar .char ((usr p1 (16 : Int32)) &&& (255 : Int32)))).map Value.int) (.int 0) := (Arv.keep (Arv.ext (Arv.keep A_342 K_353 nin0) E_366) K_374 (ninS (nne (by omega)) nin0))
              have F_464 : Exa Z h_379 a_348 "java/lang/String" := (Exa.keep (Exa.ext E_366 X_354) K_374)
              have F_465 : Fld Z h_379 a_348 "java/lang/String" "coder" "B" (.int (0 : Int32)) := (Fld.keep (Fld.ext E_366 F_355) K_374 (ninS (nne (by omega)) nin0))
              have F_466 : Fld Z h_379 a_348 "java/lang/String" "value" "[B" (.ref b_349) := (Fld.keep (Fld.ext E_366 F_356) K_374 (ninS (nne (by omega)) nin0))
              have F_467 : Arv Z h_379 b_349 k_350 .byte (Int32.ofNat (own_mk ((p2 &&& (2147483647 : Int32)) % (3 : Int32)) (nar .char (((nar .char ((usr p1 (8 : Int32)) &&& (255 : Int32))) + ((usr p2 (8 : Int32)) &&& (3 : Int32))) &&& (255 : Int32))) (nar .char (((nar .char ((usr p1 (16 : Int32)) &&& (255 : Int32))) + ((usr p2 (10 : Int32)) &&& (3 : Int32))) &&& (255 : Int32)))).length) ((own_mk ((p2 &&& (2147483647 : Int32)) % (3 : Int32)) (nar .char (((nar .char ((usr p1 (8 : Int32)) &&& (255 : Int32))) + ((usr p2 (8 : Int32)) &&& (3 : Int32))) &&& (255 : Int32))) (nar .char (((nar .char ((usr p1 (16 : Int32)) &&& (255 : Int32))) + ((usr p2 (10 : Int32)) &&& (3 : Int32))) &&& (255 : Int32)))).map Value.int) (.int 0) := (Arv.keep (Arv.ext A_357 E_366) K_374 (ninS (nne (by omega)) nin0))
              have F_468 : Sta Z h_379 "com/example/relations_into_instances/relationsintoinstances/parse/Token$Kind" "KEYWORD" "Lcom/example/relations_into_instances/relationsintoinstances/parse/Token$Kind;" (.ref o_KEYWORD) := (sta_keep (Sta.ext E_366 (sta_keep (sta_keep S_KEYWORD K_338 ns0) K_353 ns0)) K_374 (nsS (Exa.nostat X_368) ns0))
              have F_469 : Sta Z h_379 "com/example/relations_into_instances/relationsintoinstances/parse/Token$Kind" "SYMBOL" "Lcom/example/relations_into_instances/relationsintoinstances/parse/Token$Kind;" (.ref o_SYMBOL) := (sta_keep (Sta.ext E_366 (sta_keep (sta_keep S_SYMBOL K_338 ns0) K_353 ns0)) K_374 (nsS (Exa.nostat X_368) ns0))
              have F_470 : Fld Z h_379 o_SYMBOL "java/lang/Enum" "ordinal" "I" (.int (3 : Int32)) := (Fld.keep (Fld.ext E_366 (Fld.keep (Fld.keep F_SYMBOL_ordinal K_338 nin0) K_353 nin0)) K_374 (ninS (nne (by omega)) nin0))
              have F_471 : Fld Z h_379 o_KEYWORD "java/lang/Enum" "ordinal" "I" (.int (2 : Int32)) := (Fld.keep (Fld.ext E_366 (Fld.keep (Fld.keep F_KEYWORD_ordinal K_338 nin0) K_353 nin0)) K_374 (ninS (nne (by omega)) nin0))
              have F_472 : Sta Z h_379 "java/lang/String" "COMPACT_STRINGS" "Z" (.int cs) := (sta_keep (Sta.ext E_366 (sta_keep F_358 K_353 ns0)) K_374 (nsS (Exa.nostat X_368) ns0))
              refine Go.callV (a1 := a0) (pc' := 189) (argsL := [(.ref a_348)]) (rest := []) (ct_isO l Z a0 hw n0 h_379 a_364 a_333 a_348 b_334 b_349 k_335 k_350 (own_mk ((p1 &&& (2147483647 : Int32)) % (3 : Int32)) (nar .char ((usr p1 (8 : Int32)) &&& (255 : Int32))) (nar .char ((usr p1 (16 : Int32)) &&& (255 : Int32)))) (own_mk ((p2 &&& (2147483647 : Int32)) % (3 : Int32)) (nar .char (((nar .char ((usr p1 (8 : Int32)) &&& (255 : Int32))) + ((usr p2 (8 : Int32)) &&& (3 : Int32))) &&& (255 : Int32))) (nar .char (((nar .char ((usr p1 (16 : Int32)) &&& (255 : Int32))) + ((usr p2 (10 : Int32)) &&& (3 : Int32))) &&& (255 : Int32)))) (own_mk_len _ _ _) (own_mk_len _ _ _) (nne (by omega)) cs F_472 hcs F_460 F_461 F_462 F_463 F_464 F_465 F_466 F_467 o_KEYWORD F_468 o_SYMBOL F_469 X_375 r1 hr1 hr2 F_376 F_377) at_186 (hw _ (List.mem_of_getElem? (i := 64) rfl)) (hw _ (List.mem_of_getElem? (i := 65) rfl)) (hw _ (List.mem_of_getElem? (i := 67) rfl)) (hw _ (List.mem_of_getElem? (i := 67) rfl)) (hw _ (List.mem_of_getElem? (i := 66) rfl)) (hw _ (List.mem_of_getElem? (i := 46) rfl)) (hw _ (List.mem_of_getElem? (i := 68) rfl)) X_375 (by decide) (lenOf pd__28Ljava_2flang_2fString_3b_29Z rfl) rfl 0 rfl rfl (by decide) (by decide) (by decide) (by decide) (fun _ q => nomatch q) rfl (fun v_473 h_474 N_475 hQ_476 hle_477 => ?_)
              obtain ⟨rfl, rfl⟩ := hQ_476
              refine Go.re (pc' := 189) (L' := #[.val (.int p0), .val (.int p1), .val (.int p2), .val (.int p3), .val (.int p4), .val (.int ((p0 &&& (2147483647 : Int32)) % (5 : Int32))), .val (.ref r1), .val (.int ((p1 &&& (2147483647 : Int32)) % (3 : Int32))), .val (.int (nar .char ((usr p1 (8 : Int32)) &&& (255 : Int32)))), .val (.int (nar .char ((usr p1 (16 : Int32)) &&& (255 : Int32)))), .val (.int ((p2 &&& (2147483647 : Int32)) % (3 : Int32))), .val (.int (nar .char (((nar .char ((usr p1 (8 : Int32)) &&& (255 : Int32))) + ((usr p2 (8 : Int32)) &&& (3 : Int32))) &&& (255 : Int32)))), .val (.int (nar .char (((nar .char ((usr p1 (16 : Int32)) &&& (255 : Int32))) + ((usr p2 (10 : Int32)) &&& (3 : Int32))) &&& (255 : Int32)))), .val (.ref a_333), .val (.ref a_348), .val (.ref a_364), .val (.int (0 : Int32)), .val (.int (0 : Int32))]) (S' := [(.int (0 : Int32))]) rfl rfl rfl ?_
              refine Go.iload (pc' := 191) at_189 rfl rfl ?_
              refine Go.ifT (pc' := 203) at_191 (show (0 : Int32) = (0 : Int32) by decide) (by decide) (by decide) ?_
              refine Go.iconst (pc' := 204) 0 at_203 rfl rfl ?_
              refine Go.icmpF (pc' := 207) at_204 (rfl) rfl ?_
              refine Go.iconst (pc' := 208) 1 at_207 rfl rfl ?_
              refine Go.goto (pc' := 212) at_208 (by decide) (by decide) ?_
              refine Go.retN (t := .boolean) (1 : Int32) rfl (by simp) rfl [] (fun _ q => nomatch q) at_212 (by decide) (by decide) ?_
              exact rfl
            · have hc_459 : (nar .char ((usr p1 (16 : Int32)) &&& (255 : Int32))) = (nar .char (((nar .char ((usr p1 (16 : Int32)) &&& (255 : Int32))) + ((usr p2 (10 : Int32)) &&& (3 : Int32))) &&& (255 : Int32))) := hc_459
              refine Go.iconst (pc' := 176) 1 at_175 rfl rfl ?_
              refine Go.goto (pc' := 180) at_176 (by decide) (by decide) ?_
              refine Go.istore (pc' := 182) #[.val (.int p0), .val (.int p1), .val (.int p2), .val (.int p3), .val (.int p4), .val (.int ((p0 &&& (2147483647 : Int32)) % (5 : Int32))), .val (.ref r1), .val (.int ((p1 &&& (2147483647 : Int32)) % (3 : Int32))), .val (.int (nar .char ((usr p1 (8 : Int32)) &&& (255 : Int32)))), .val (.int (nar .char ((usr p1 (16 : Int32)) &&& (255 : Int32)))), .val (.int ((p2 &&& (2147483647 : Int32)) % (3 : Int32))), .val (.int (nar .char (((nar .char ((usr p1 (8 : Int32)) &&& (255 : Int32))) + ((usr p2 (8 : Int32)) &&& (3 : Int32))) &&& (255 : Int32)))), .val (.int (nar .char (((nar .char ((usr p1 (16 : Int32)) &&& (255 : Int32))) + ((usr p2 (10 : Int32)) &&& (3 : Int32))) &&& (255 : Int32)))), .val (.ref a_333), .val (.ref a_348), .val (.ref a_364), .val (.int (0 : Int32)), .val (.int (1 : Int32))] at_180 rfl rfl ?_
              refine Go.aload (pc' := 184) at_182 rfl rfl rfl ?_
              refine Go.aload (pc' := 186) at_184 rfl rfl rfl ?_
              have F_478 : Exa Z h_379 a_333 "java/lang/String" := (Exa.keep (Exa.ext E_366 (Exa.keep X_339 K_353)) K_374)
              have F_479 : Fld Z h_379 a_333 "java/lang/String" "coder" "B" (.int (0 : Int32)) := (Fld.keep (Fld.ext E_366 (Fld.keep F_340 K_353 nin0)) K_374 (ninS (nne (by omega)) nin0))
              have F_480 : Fld Z h_379 a_333 "java/lang/String" "value" "[B" (.ref b_334) := (Fld.keep (Fld.ext E_366 (Fld.keep F_341 K_353 nin0)) K_374 (ninS (nne (by omega)) nin0))
              have F_481 : Arv Z h_379 b_334 k_335 .byte (Int32.ofNat (own_mk ((p1 &&& (2147483647 : Int32)) % (3 : Int32)) (nar .char ((usr p1 (8 : Int32)) &&& (255 : Int32))) (nar .char ((usr p1 (16 : Int32)) &&& (255 : Int32)))).length) ((own_mk ((p1 &&& (2147483647 : Int32)) % (3 : Int32)) (nar .char ((usr p1 (8 : Int32)) &&& (255 : Int32))) (nar .char ((usr p1 (16 : Int32)) &&& (255 : Int32)))).map Value.int) (.int 0) := (Arv.keep (Arv.ext (Arv.keep A_342 K_353 nin0) E_366) K_374 (ninS (nne (by omega)) nin0))
              have F_482 : Exa Z h_379 a_348 "java/lang/String" := (Exa.keep (Exa.ext E_366 X_354) K_374)
              have F_483 : Fld Z h_379 a_348 "java/lang/String" "coder" "B" (.int (0 : Int32)) := (Fld.keep (Fld.ext E_366 F_355) K_374 (ninS (nne (by omega)) nin0))
              have F_484 : Fld Z h_379 a_348 "java/lang/String" "value" "[B" (.ref b_349) := (Fld.keep (Fld.ext E_366 F_356) K_374 (ninS (nne (by omega)) nin0))
              have F_485 : Arv Z h_379 b_349 k_350 .byte (Int32.ofNat (own_mk ((p2 &&& (2147483647 : Int32)) % (3 : Int32)) (nar .char (((nar .char ((usr p1 (8 : Int32)) &&& (255 : Int32))) + ((usr p2 (8 : Int32)) &&& (3 : Int32))) &&& (255 : Int32))) (nar .char (((nar .char ((usr p1 (16 : Int32)) &&& (255 : Int32))) + ((usr p2 (10 : Int32)) &&& (3 : Int32))) &&& (255 : Int32)))).length) ((own_mk ((p2 &&& (2147483647 : Int32)) % (3 : Int32)) (nar .char (((nar .char ((usr p1 (8 : Int32)) &&& (255 : Int32))) + ((usr p2 (8 : Int32)) &&& (3 : Int32))) &&& (255 : Int32))) (nar .char (((nar .char ((usr p1 (16 : Int32)) &&& (255 : Int32))) + ((usr p2 (10 : Int32)) &&& (3 : Int32))) &&& (255 : Int32)))).map Value.int) (.int 0) := (Arv.keep (Arv.ext A_357 E_366) K_374 (ninS (nne (by omega)) nin0))
              have F_486 : Sta Z h_379 "com/example/relations_into_instances/relationsintoinstances/parse/Token$Kind" "KEYWORD" "Lcom/example/relations_into_instances/relationsintoinstances/parse/Token$Kind;" (.ref o_KEYWORD) := (sta_keep (Sta.ext E_366 (sta_keep (sta_keep S_KEYWORD K_338 ns0) K_353 ns0)) K_374 (nsS (Exa.nostat X_368) ns0))
              have F_487 : Sta Z h_379 "com/example/relations_into_instances/relationsintoinstances/parse/Token$Kind" "SYMBOL" "Lcom/example/relations_into_instances/relationsintoinstances/parse/Token$Kind;" (.ref o_SYMBOL) := (sta_keep (Sta.ext E_366 (sta_keep (sta_keep S_SYMBOL K_338 ns0) K_353 ns0)) K_374 (nsS (Exa.nostat X_368) ns0))
              have F_488 : Fld Z h_379 o_SYMBOL "java/lang/Enum" "ordinal" "I" (.int (3 : Int32)) := (Fld.keep (Fld.ext E_366 (Fld.keep (Fld.keep F_SYMBOL_ordinal K_338 nin0) K_353 nin0)) K_374 (ninS (nne (by omega)) nin0))
              have F_489 : Fld Z h_379 o_KEYWORD "java/lang/Enum" "ordinal" "I" (.int (2 : Int32)) := (Fld.keep (Fld.ext E_366 (Fld.keep (Fld.keep F_KEYWORD_ordinal K_338 nin0) K_353 nin0)) K_374 (ninS (nne (by omega)) nin0))
              have F_490 : Sta Z h_379 "java/lang/String" "COMPACT_STRINGS" "Z" (.int cs) := (sta_keep (Sta.ext E_366 (sta_keep F_358 K_353 ns0)) K_374 (nsS (Exa.nostat X_368) ns0))
              refine Go.callV (a1 := a0) (pc' := 189) (argsL := [(.ref a_348)]) (rest := []) (ct_isO l Z a0 hw n0 h_379 a_364 a_333 a_348 b_334 b_349 k_335 k_350 (own_mk ((p1 &&& (2147483647 : Int32)) % (3 : Int32)) (nar .char ((usr p1 (8 : Int32)) &&& (255 : Int32))) (nar .char ((usr p1 (16 : Int32)) &&& (255 : Int32)))) (own_mk ((p2 &&& (2147483647 : Int32)) % (3 : Int32)) (nar .char (((nar .char ((usr p1 (8 : Int32)) &&& (255 : Int32))) + ((usr p2 (8 : Int32)) &&& (3 : Int32))) &&& (255 : Int32))) (nar .char (((nar .char ((usr p1 (16 : Int32)) &&& (255 : Int32))) + ((usr p2 (10 : Int32)) &&& (3 : Int32))) &&& (255 : Int32)))) (own_mk_len _ _ _) (own_mk_len _ _ _) (nne (by omega)) cs F_490 hcs F_478 F_479 F_480 F_481 F_482 F_483 F_484 F_485 o_KEYWORD F_486 o_SYMBOL F_487 X_375 r1 hr1 hr2 F_376 F_377) at_186 (hw _ (List.mem_of_getElem? (i := 64) rfl)) (hw _ (List.mem_of_getElem? (i := 65) rfl)) (hw _ (List.mem_of_getElem? (i := 67) rfl)) (hw _ (List.mem_of_getElem? (i := 67) rfl)) (hw _ (List.mem_of_getElem? (i := 66) rfl)) (hw _ (List.mem_of_getElem? (i := 46) rfl)) (hw _ (List.mem_of_getElem? (i := 68) rfl)) X_375 (by decide) (lenOf pd__28Ljava_2flang_2fString_3b_29Z rfl) rfl 0 rfl rfl (by decide) (by decide) (by decide) (by decide) (fun _ q => nomatch q) rfl (fun v_491 h_492 N_493 hQ_494 hle_495 => ?_)
              obtain ⟨rfl, rfl⟩ := hQ_494
              refine Go.re (pc' := 189) (L' := #[.val (.int p0), .val (.int p1), .val (.int p2), .val (.int p3), .val (.int p4), .val (.int ((p0 &&& (2147483647 : Int32)) % (5 : Int32))), .val (.ref r1), .val (.int ((p1 &&& (2147483647 : Int32)) % (3 : Int32))), .val (.int (nar .char ((usr p1 (8 : Int32)) &&& (255 : Int32)))), .val (.int (nar .char ((usr p1 (16 : Int32)) &&& (255 : Int32)))), .val (.int ((p2 &&& (2147483647 : Int32)) % (3 : Int32))), .val (.int (nar .char (((nar .char ((usr p1 (8 : Int32)) &&& (255 : Int32))) + ((usr p2 (8 : Int32)) &&& (3 : Int32))) &&& (255 : Int32)))), .val (.int (nar .char (((nar .char ((usr p1 (16 : Int32)) &&& (255 : Int32))) + ((usr p2 (10 : Int32)) &&& (3 : Int32))) &&& (255 : Int32)))), .val (.ref a_333), .val (.ref a_348), .val (.ref a_364), .val (.int (0 : Int32)), .val (.int (1 : Int32))]) (S' := [(.int (0 : Int32))]) rfl rfl rfl ?_
              refine Go.iload (pc' := 191) at_189 rfl rfl ?_
              refine Go.ifT (pc' := 203) at_191 (show (0 : Int32) = (0 : Int32) by decide) (by decide) (by decide) ?_
              refine Go.iconst (pc' := 204) 0 at_203 rfl rfl ?_
              refine Go.icmpF (pc' := 207) at_204 (rfl) rfl ?_
              refine Go.iconst (pc' := 208) 1 at_207 rfl rfl ?_
              refine Go.goto (pc' := 212) at_208 (by decide) (by decide) ?_
              refine Go.retN (t := .boolean) (1 : Int32) rfl (by simp) rfl [] (fun _ q => nomatch q) at_212 (by decide) (by decide) ?_
              exact rfl
set_option maxRecDepth 65536 in
set_option maxHeartbeats 40000000 in
theorem comes_1 {Post : Tables → Env → Array Value → State → Outcome → State → Prop} (hpost : ∀ tb e args s v u, (limb_1_1.after args s (.returned v) u = true ∧ limb_1_2.after args s (.returned v) u = true ∧ True) → ReturnedEndW s (.returned v) u (Jvm.fieldLocs frame_1_writes args s ++ Jvm.arrayLocs frame_1_arrays args s ++ Jvm.staticLocs frame_1_statics s) 24 1152 → Post tb e args s (.returned v) u) :
    ArmFor flags0 classFile x code maxLocals ret World_1 tables_1 room_1 Calls_1 rest_1 Pre_1 Post := by
  intro l hfl _ _ p e ha hc hk s m args below hf hA hF happ hP
  obtain ⟨hcalls, hrest, hpre⟩ := hP
  obtain ⟨-, -, -, hnamed, -, -, -, hat⟩ := (Spec.applies_iff hf).mp happ
  obtain ⟨hg, hn⟩ := and_e (Cond.before_iff.mp (show (Jvm.Cond.and given_1 narrow_1).before args s = true from hpre))
  obtain ⟨g0, hg⟩ := and_e hg
  obtain ⟨w0, w1, w2, w3, w4, rfl⟩ : ∃ w0 w1 w2 w3 w4 : Value, args = #[w0, w1, w2, w3, w4] := by
    have hs : args.size = 5 := by simpa [Cond.value, given_1] using g0
    obtain ⟨L⟩ := args
    match L, hs with
    | [w0, w1, w2, w3, w4], _ => exact ⟨w0, w1, w2, w3, w4, rfl⟩
  have hw := fun d (hd : d ∈ tables_1) => atoms_spec (ws := Jvm.Cond.code x code maxLocals ret :: tables_1) hat d (List.mem_cons_of_mem _ hd)
  have hfit : Fit s := fun {y c} hc i hi => by
    obtain ⟨ha, rfl⟩ := Array.getElem?_eq_some_iff.mp hc
    have q := List.all_eq_true.mp ((Array.all_eq_true_iff_forall_mem.mp hF) _ (Array.getElem_mem ha)) i (List.mem_range.mpr hi)
    simpa [Array.getElem?_eq_getElem hi] using q
  obtain ⟨g1, hg⟩ := and_e hg
  obtain ⟨g2, hg⟩ := and_e hg
  obtain ⟨g3, hg⟩ := and_e hg
  obtain ⟨g4, hg⟩ := and_e hg
  have g5 := hg
  obtain ⟨p0, e0⟩ := is_v g1
  obtain rfl : w0 = (.int p0) := Option.some.inj e0
  obtain ⟨p1, e1⟩ := is_v g2
  obtain rfl : w1 = (.int p1) := Option.some.inj e1
  obtain ⟨p2, e2⟩ := is_v g3
  obtain rfl : w2 = (.int p2) := Option.some.inj e2
  obtain ⟨p3, e3⟩ := is_v g4
  obtain rfl : w3 = (.int p3) := Option.some.inj e3
  obtain ⟨p4, e4⟩ := is_v g5
  obtain rfl : w4 = (.int p4) := Option.some.inj e4
  obtain ⟨c0, hn⟩ := and_e hn
  obtain ⟨c1, hn⟩ := and_e hn
  obtain ⟨c2, hn⟩ := and_e hn
  obtain ⟨c3, hn⟩ := and_e hn
  obtain ⟨c4, hn⟩ := and_e hn
  obtain ⟨c5, hn⟩ := and_e hn
  obtain ⟨c6, hn⟩ := and_e hn
  obtain ⟨c7, hn⟩ := and_e hn
  obtain ⟨c8, hn⟩ := and_e hn
  have c9 := hn
  obtain ⟨o_NAME, ev_NAME⟩ := exa_v c0
  have S_NAME := Sta.start ev_NAME (Or.inr ⟨(hw _ (List.mem_of_getElem? (i := 6) rfl)), (hw _ (List.mem_of_getElem? (i := 7) rfl))⟩)
  have X_NAME := Exa.start ev_NAME c0
  obtain ⟨o_KEYWORD, ev_KEYWORD⟩ := exa_v c1
  have S_KEYWORD := Sta.start ev_KEYWORD (Or.inr ⟨(hw _ (List.mem_of_getElem? (i := 6) rfl)), (hw _ (List.mem_of_getElem? (i := 70) rfl))⟩)
  have X_KEYWORD := Exa.start ev_KEYWORD c1
  have F_NAME_ordinal := Fld.start ((fld_at ev_NAME).symm.trans (eqv_i (Term.int_eval (0)) c2))
  have F_KEYWORD_ordinal := Fld.start ((fld_at ev_KEYWORD).symm.trans (eqv_i (Term.int_eval (2)) c3))
  obtain ⟨o_SYMBOL, ev_SYMBOL⟩ := exa_v c4
  have S_SYMBOL := Sta.start ev_SYMBOL (Or.inr ⟨(hw _ (List.mem_of_getElem? (i := 6) rfl)), (hw _ (List.mem_of_getElem? (i := 72) rfl))⟩)
  have X_SYMBOL := Exa.start ev_SYMBOL c4
  have F_SYMBOL_ordinal := Fld.start ((fld_at ev_SYMBOL).symm.trans (eqv_i (Term.int_eval (3)) c5))
  obtain ⟨o_NUMBER, ev_NUMBER⟩ := exa_v c6
  have S_NUMBER := Sta.start ev_NUMBER (Or.inr ⟨(hw _ (List.mem_of_getElem? (i := 6) rfl)), (hw _ (List.mem_of_getElem? (i := 86) rfl))⟩)
  have X_NUMBER := Exa.start ev_NUMBER c6
  have F_NUMBER_ordinal := Fld.start ((fld_at ev_NUMBER).symm.trans (eqv_i (Term.int_eval (1)) c7))
  obtain ⟨o_END, ev_END⟩ := exa_v c8
  have S_END := Sta.start ev_END (Or.inr ⟨(hw _ (List.mem_of_getElem? (i := 6) rfl)), (hw _ (List.mem_of_getElem? (i := 88) rfl))⟩)
  have X_END := Exa.start ev_END c8
  have F_END_ordinal := Fld.start ((fld_at ev_END).symm.trans (eqv_i (Term.int_eval (4)) c9))
  obtain ⟨hsets, hown0⟩ := atoms_of _ (rest_1_c_eq ▸ (show rest_1_c.before _ s = true from hrest))
  have ncs := not_v (Cond.before_iff.mp (hsets _ (List.mem_of_getElem? (i := 2) rfl)))
  obtain ⟨cs, ecs⟩ := is_v (Cond.before_iff.mp (hsets _ (List.mem_of_getElem? (i := 1) rfl)))
  have S_cs : Sta s s.heap "java/lang/String" "COMPACT_STRINGS" "Z" (.int cs) := Sta.start ecs (Or.inl (hsets _ (List.mem_of_getElem? (i := 0) rfl)))
  have hcs : ¬ (cs = (0 : Int32)) := gotF (Cond.eq_ints ecs (Term.int_eval (0))) ncs
  obtain ⟨n, o, h1, h2, h3, v, Ls, N, rfl, rfl, hFr, -, -, hEn⟩ := ct_law l s _ hw s.heap.size s.heap p0 p1 p2 p3 p4 (Nat.le_refl _) o_NAME S_NAME X_NAME o_KEYWORD S_KEYWORD X_KEYWORD F_NAME_ordinal F_KEYWORD_ordinal o_SYMBOL S_SYMBOL X_SYMBOL F_SYMBOL_ordinal o_NUMBER S_NUMBER X_NUMBER F_NUMBER_ordinal o_END S_END X_END F_END_ordinal cs S_cs hcs p e ha hc hk s m _ below hf ((Spec.applies_iff_loose hf).mp happ).1 ⟨rfl, State.Warmed39.refl s, rfl, (CHv.start (own_ew hw) (fun p hp => hcalls.1 p hp) (hsets _ (List.mem_of_getElem? (i := 2) rfl)) (hw _ (List.mem_of_getElem? (i := 26) rfl)) (hw _ (List.mem_of_getElem? (i := 12) rfl))), (fun x q => nomatch q)⟩ trivial
  refine ⟨n, _, h1, h2, h3, hpost _ _ _ _ _ _ ⟨Cond.after_iff.mpr rfl, Cond.after_iff.mpr (eq_i res_at (Term.int_eval (1)) rfl), trivial⟩ ⟨⟨_, rfl⟩, hEn.1.2.1, hEn.1.2.2.1, (hEn.1.2.2.2.sift fun y hy => Or.inr (hFr y hy)).mono (by decide) (by decide)⟩⟩
theorem main_1_1 : Claimed_1_1 := comes_1 fun _ _ _ _ _ _ h hF => ⟨h.1, hF⟩
theorem main_1_2 : Claimed_1_2 := comes_1 fun _ _ _ _ _ _ h hF => ⟨h.2.1, hF⟩
end Jvm.Pilot.@@N@@
namespace Jvm.Pilot.@@N@@
open Jvm Jvm.ClassFile Sem Op Lib Jvm.Free Jvm.Stand Jvm.Pilot.@@N@@.Jvm.D
/-! MADE BY PROGRAM (witnessworld.py) out of the Statement's table words and the real class files: 23 classes; the members and pool entries that the words name. The judged class is class 1, her method 3. -/
namespace start1
open Jvm.ClassFile
def u (s : String) : CpInfo := .utf8 (stringToUtf16 s)
/-- a pool by its gaps: so many unusable entries, then the entry; so many at the end -/
def gap : Nat → List CpInfo → List CpInfo
  | 0, r => r
  | n + 1, r => .unusable :: gap n r
def poolList (es : List (Nat × CpInfo)) (last : Nat) : List CpInfo := es.foldr (fun e r => gap e.1 (e.2 :: r)) (gap last [])
def pool (es : List (Nat × CpInfo)) (last : Nat) : Array CpInfo := ⟨poolList es last⟩
def fileOf (pool : Array CpInfo) (this : Nat) (attrs : Array Attribute := #[]) (ms : Array MethodInfo := #[]) (fl : Nat := 33) (sup : Nat := 0) (ifs : Array Nat := #[]) (fds : Array FieldInfo := #[]) : ClassFile where
  minorVersion := 0
  majorVersion := 65
  constantPool := pool
  accessFlags := fl
  thisClass := this
  superClass := sup
  interfaces := ifs
  fields := fds
  methods := ms
  attributes := attrs
def plain (name : String) (sup : Option ClassId) : Class where
  name := name
  kind := .ordinary
  loader := none
  accessFlags := 33
  super := sup
  interfaces := #[]
  cf := none
  fields := #[]
  methods := #[]
  instanceTypes := #[]
  staticTypes := #[]
  resolved := #[]
  callSites := []
  init := .initialized
  statics := none
  mirror := none

def pool0 : Array CpInfo := pool [(5, u "<init>"), (0, u "()V"), (1, .class_ 10), (1, u "java/lang/Object")] 113

def k0c0 : Code := { maxStack := 0, maxLocals := 1, code := object_method_1_code, exceptionTable := #[], attributes := #[] }
def k0m0 : Method := { name := "<init>", desc := "()V", sig := { parameters := [], returnType := none }, accessFlags := 1, code := some k0c0 }
/-- java/lang/Object -/
def k0 : Class := { plain "java/lang/Object" none with
  accessFlags := 33
  interfaces := #[]
  cf := some (fileOf pool0 8 #[] #[{ accessFlags := 1, nameIndex := 5, descriptorIndex := 6, attributes := #[] }] 33 0 #[] #[])
  fields := #[]
  methods := #[k0m0]
  instanceTypes := #[]
  staticTypes := #[]
  resolved := Array.replicate 124 none
  statics := none }

def pool1 : Array CpInfo := pool [(2, .class_ 4), (1, u "java/lang/Object"), (0, u "<init>"), (0, u "()V"), (0, .fieldref 8 9), (0, .class_ 10), (0, .nameAndType 11 12), (0, u "com/example/relations_into_instances/relationsintoinstances/parse/Token$Kind"), (0, u "NAME"), (0, u "Lcom/example/relations_into_instances/relationsintoinstances/parse/Token$Kind;"), (0, .fieldref 8 14), (0, .nameAndType 15 12), (0, u "NUMBER"), (0, .fieldref 8 17), (0, .nameAndType 18 12), (0, u "KEYWORD"), (0, .fieldref 8 20), (0, .nameAndType 21 12), (0, u "SYMBOL"), (0, .fieldref 8 23), (0, .nameAndType 24 12), (0, u "END"), (0, .class_ 26), (0, u "java/lang/String"), (0, .methodref 25 28), (0, .nameAndType 5 29), (0, u "([C)V"), (0, .integer 2147483647), (0, .methodref 32 33), (0, .class_ 34), (0, .nameAndType 35 36), (0, u "com/example/relations_into_instances/relationsintoinstances/parse/TokenIsPinLaw"), (0, u "pick"), (0, u "(I)Lcom/example/relations_into_instances/relationsintoinstances/parse/Token$Kind;"), (0, .methodref 32 38), (0, .nameAndType 39 40), (0, u "mk"), (0, u "(ICC)Ljava/lang/String;"), (0, .class_ 42), (0, u "com/example/relations_into_instances/relationsintoinstances/parse/Token"), (0, .methodref 41 44), (0, .nameAndType 5 45), (0, u "(Lcom/example/relations_into_instances/relationsintoinstances/parse/Token$Kind;Ljava/lang/String;II)V"), (0, .methodref 41 47), (0, .nameAndType 48 49), (0, u "is"), (0, u "(Ljava/lang/String;)Z"), (3, u "law"), (0, u "(IIIII)Z")] 4

def k1m0 : Method := { name := "<init>", desc := "()V", sig := { parameters := [], returnType := none }, accessFlags := 1, code := none }
def k1c1 : Code := { maxStack := 2, maxLocals := 1, code := method_2_code, exceptionTable := #[], attributes := #[] }
def k1m1 : Method := { name := "pick", desc := "(I)Lcom/example/relations_into_instances/relationsintoinstances/parse/Token$Kind;", sig := { parameters := [.int], returnType := some (.object "com/example/relations_into_instances/relationsintoinstances/parse/Token$Kind") }, accessFlags := 10, code := some k1c1 }
def k1c2 : Code := { maxStack := 3, maxLocals := 4, code := method_3_code, exceptionTable := #[], attributes := #[] }
def k1m2 : Method := { name := "mk", desc := "(ICC)Ljava/lang/String;", sig := { parameters := [.int, .char, .char], returnType := some (.object "java/lang/String") }, accessFlags := 10, code := some k1c2 }
def k1c3 : Code := { maxStack := 6, maxLocals := 18, code := code, exceptionTable := #[], attributes := #[] }
def k1m3 : Method := { name := "law", desc := "(IIIII)Z", sig := { parameters := [.int, .int, .int, .int, .int], returnType := some .boolean }, accessFlags := 9, code := some k1c3 }
/-- com/example/relations_into_instances/relationsintoinstances/parse/TokenIsPinLaw -/
def k1 : Class := { plain "com/example/relations_into_instances/relationsintoinstances/parse/TokenIsPinLaw" (some 0) with
  accessFlags := 49
  interfaces := #[]
  cf := some (fileOf pool1 32 #[] #[{ accessFlags := 1, nameIndex := 5, descriptorIndex := 6, attributes := #[] }, { accessFlags := 10, nameIndex := 35, descriptorIndex := 36, attributes := #[] }, { accessFlags := 10, nameIndex := 39, descriptorIndex := 40, attributes := #[] }, { accessFlags := 9, nameIndex := 53, descriptorIndex := 54, attributes := #[] }] 49 2 #[] #[])
  fields := #[]
  methods := #[k1m0, k1m1, k1m2, k1m3]
  instanceTypes := #[]
  staticTypes := #[]
  resolved := Array.replicate 59 none
  statics := none }

def pool2 : Array CpInfo := pool [(1, .class_ 2), (0, u "java/lang/constant/Constable"), (0, .class_ 4), (0, u "java/lang/Object")] 6

/-- java/lang/constant/Constable -/
def k2 : Class := { plain "java/lang/constant/Constable" (some 0) with
  accessFlags := 1537
  interfaces := #[]
  cf := some (fileOf pool2 1 #[] #[] 1537 3 #[] #[])
  fields := #[]
  methods := #[]
  instanceTypes := #[]
  staticTypes := #[]
  resolved := Array.replicate 11 none
  statics := none }

def pool3 : Array CpInfo := pool [(1, .class_ 2), (0, u "java/lang/Comparable"), (0, .class_ 4), (0, u "java/lang/Object")] 7

/-- java/lang/Comparable -/
def k3 : Class := { plain "java/lang/Comparable" (some 0) with
  accessFlags := 1537
  interfaces := #[]
  cf := some (fileOf pool3 1 #[] #[] 1537 3 #[] #[])
  fields := #[]
  methods := #[]
  instanceTypes := #[]
  staticTypes := #[]
  resolved := Array.replicate 12 none
  statics := none }

def pool4 : Array CpInfo := pool [(1, .class_ 2), (0, u "java/io/Serializable"), (0, .class_ 4), (0, u "java/lang/Object")] 2

/-- java/io/Serializable -/
def k4 : Class := { plain "java/io/Serializable" (some 0) with
  accessFlags := 1537
  interfaces := #[]
  cf := some (fileOf pool4 1 #[] #[] 1537 3 #[] #[])
  fields := #[]
  methods := #[]
  instanceTypes := #[]
  staticTypes := #[]
  resolved := Array.replicate 7 none
  statics := none }

def pool5 : Array CpInfo := pool [(2, .class_ 4), (1, u "java/lang/Enum"), (0, u "name"), (0, u "Ljava/lang/String;"), (2, u "ordinal"), (0, u "I"), (1, .class_ 14), (1, u "java/lang/Object"), (4, u "hash"), (86, .class_ 108), (1, u "java/lang/Enum$EnumDesc"), (2, .class_ 112), (0, u "java/lang/constant/Constable"), (0, .class_ 114), (0, u "java/lang/Comparable"), (0, .class_ 116), (0, u "java/io/Serializable")] 87

/-- java/lang/Enum -/
def k5 : Class := { plain "java/lang/Enum" (some 0) with
  accessFlags := 1057
  interfaces := #[2, 3, 4]
  cf := some (fileOf pool5 2 #[.nestMembers #[106]] #[] 1057 12 #[111, 113, 115] #[{ accessFlags := 18, nameIndex := 5, descriptorIndex := 6, attributes := #[] }, { accessFlags := 18, nameIndex := 9, descriptorIndex := 10, attributes := #[] }, { accessFlags := 2, nameIndex := 19, descriptorIndex := 10, attributes := #[] }])
  fields := #[{ name := "name", type := (.object "java/lang/String"), accessFlags := 18, slot := 0, constantValue := 0 }, { name := "ordinal", type := .int, accessFlags := 18, slot := 1, constantValue := 0 }, { name := "hash", type := .int, accessFlags := 2, slot := 2, constantValue := 0 }]
  methods := #[]
  instanceTypes := #[(.object "java/lang/String"), .int, .int]
  staticTypes := #[]
  resolved := Array.replicate 204 none
  statics := none }

def pool6 : Array CpInfo := pool [(1, .class_ 2), (0, u "com/example/relations_into_instances/relationsintoinstances/parse/Token$Kind"), (2, u "NAME"), (0, u "Lcom/example/relations_into_instances/relationsintoinstances/parse/Token$Kind;"), (2, u "NUMBER"), (2, u "KEYWORD"), (2, u "SYMBOL"), (2, u "END"), (2, u "$VALUES"), (0, u "[Lcom/example/relations_into_instances/relationsintoinstances/parse/Token$Kind;"), (6, .class_ 31), (1, u "java/lang/Enum"), (28, .class_ 61), (0, u "com/example/relations_into_instances/relationsintoinstances/parse/Token")] 2

/-- com/example/relations_into_instances/relationsintoinstances/parse/Token$Kind -/
def k6 : Class := { plain "com/example/relations_into_instances/relationsintoinstances/parse/Token$Kind" (some 5) with
  accessFlags := 16432
  interfaces := #[]
  cf := some (fileOf pool6 1 #[.nestHost 60] #[] 16432 29 #[] #[{ accessFlags := 16409, nameIndex := 5, descriptorIndex := 6, attributes := #[] }, { accessFlags := 16409, nameIndex := 9, descriptorIndex := 6, attributes := #[] }, { accessFlags := 16409, nameIndex := 12, descriptorIndex := 6, attributes := #[] }, { accessFlags := 16409, nameIndex := 15, descriptorIndex := 6, attributes := #[] }, { accessFlags := 16409, nameIndex := 18, descriptorIndex := 6, attributes := #[] }, { accessFlags := 4122, nameIndex := 21, descriptorIndex := 22, attributes := #[] }])
  fields := #[{ name := "NAME", type := (.object "com/example/relations_into_instances/relationsintoinstances/parse/Token$Kind"), accessFlags := 16409, slot := 0, constantValue := 0 }, { name := "NUMBER", type := (.object "com/example/relations_into_instances/relationsintoinstances/parse/Token$Kind"), accessFlags := 16409, slot := 1, constantValue := 0 }, { name := "KEYWORD", type := (.object "com/example/relations_into_instances/relationsintoinstances/parse/Token$Kind"), accessFlags := 16409, slot := 2, constantValue := 0 }, { name := "SYMBOL", type := (.object "com/example/relations_into_instances/relationsintoinstances/parse/Token$Kind"), accessFlags := 16409, slot := 3, constantValue := 0 }, { name := "END", type := (.object "com/example/relations_into_instances/relationsintoinstances/parse/Token$Kind"), accessFlags := 16409, slot := 4, constantValue := 0 }, { name := "$VALUES", type := (.array (.object "com/example/relations_into_instances/relationsintoinstances/parse/Token$Kind")), accessFlags := 4122, slot := 5, constantValue := 0 }]
  methods := #[]
  instanceTypes := #[(.object "java/lang/String"), .int, .int]
  staticTypes := #[(.object "com/example/relations_into_instances/relationsintoinstances/parse/Token$Kind"), (.object "com/example/relations_into_instances/relationsintoinstances/parse/Token$Kind"), (.object "com/example/relations_into_instances/relationsintoinstances/parse/Token$Kind"), (.object "com/example/relations_into_instances/relationsintoinstances/parse/Token$Kind"), (.object "com/example/relations_into_instances/relationsintoinstances/parse/Token$Kind"), (.array (.object "com/example/relations_into_instances/relationsintoinstances/parse/Token$Kind"))]
  resolved := Array.replicate 64 none
  statics := some 0 }

def pool7 : Array CpInfo := pool [(2, .class_ 4), (1, u "java/lang/CharSequence"), (42, .class_ 48), (0, u "java/lang/CharSequence$1CodePointIterator"), (10, .class_ 60), (0, u "java/lang/CharSequence$1CharIterator"), (5, .class_ 67), (0, u "java/lang/Object")] 63

/-- java/lang/CharSequence -/
def k7 : Class := { plain "java/lang/CharSequence" (some 0) with
  accessFlags := 1537
  interfaces := #[]
  cf := some (fileOf pool7 2 #[.nestMembers #[47, 59]] #[] 1537 66 #[] #[])
  fields := #[]
  methods := #[]
  instanceTypes := #[]
  staticTypes := #[]
  resolved := Array.replicate 131 none
  statics := none }

def pool8 : Array CpInfo := pool [(1, .class_ 2), (0, u "java/lang/constant/ConstantDesc"), (0, .class_ 4), (0, u "java/lang/Object")] 32

/-- java/lang/constant/ConstantDesc -/
def k8 : Class := { plain "java/lang/constant/ConstantDesc" (some 0) with
  accessFlags := 1537
  interfaces := #[]
  cf := some (fileOf pool8 1 #[] #[] 1537 3 #[] #[])
  fields := #[]
  methods := #[]
  instanceTypes := #[]
  staticTypes := #[]
  resolved := Array.replicate 37 none
  statics := none }

def pool9 : Array CpInfo := pool [(1, .methodref 2 3), (0, .class_ 4), (0, .nameAndType 5 6), (0, u "java/lang/Object"), (0, u "<init>"), (0, u "()V"), (0, .string 8), (0, u ""), (0, .fieldref 10 11), (0, .class_ 12), (0, .nameAndType 13 14), (0, u "java/lang/String"), (0, u "value"), (0, u "[B"), (0, .fieldref 10 16), (0, .nameAndType 17 18), (0, u "coder"), (0, u "B"), (2, u "hash"), (0, u "I"), (2, u "hashIsZero"), (0, u "Z"), (0, .methodref 10 28), (0, .nameAndType 5 29), (0, u "([CIILjava/lang/Void;)V"), (8, .fieldref 10 39), (0, .nameAndType 40 26), (0, u "COMPACT_STRINGS"), (1, .class_ 44), (1, u "java/lang/StringUTF16"), (0, u "compress"), (1, .methodref 42 48), (0, .nameAndType 49 50), (0, u "coderFromArrayLen"), (0, u "([BI)B"), (56, .class_ 109), (1, u "java/lang/StringLatin1"), (67, .methodref 42 178), (0, .nameAndType 45 179), (0, u "([CII)[B"), (361, .methodref 107 542), (0, .nameAndType 543 544), (0, u "equals"), (0, u "([B[B)Z"), (28, u "(Ljava/lang/Object;)Z"), (1, .class_ 576), (0, u "java/lang/CharSequence"), (22, u "CASE_INSENSITIVE_ORDER"), (0, u "Ljava/util/Comparator;"), (409, u "([C)V"), (90, u "serialPersistentFields"), (0, u "[Ljava/io/ObjectStreamField;"), (0, .class_ 1104), (0, u "java/lang/String$CaseInsensitiveComparator"), (1, .class_ 1107), (0, u "java/io/Serializable"), (0, .class_ 1109), (0, u "java/lang/Comparable"), (0, .class_ 1111), (0, u "java/lang/constant/Constable"), (0, .class_ 1113), (0, u "java/lang/constant/ConstantDesc"), (2, u "serialVersionUID"), (0, u "J"), (3, u "REPL"), (0, u "C"), (2, u "LATIN1"), (1, u "UTF16")] 323

def k9m0 : Method := { name := "<init>", desc := "()V", sig := { parameters := [], returnType := none }, accessFlags := 1, code := none }
def k9c1 : Code := { maxStack := 5, maxLocals := 2, code := jdk_42_method_3_code, exceptionTable := #[], attributes := #[] }
def k9m1 : Method := { name := "<init>", desc := "([C)V", sig := { parameters := [(.array .char)], returnType := none }, accessFlags := 1, code := some k9c1 }
def k9c2 : Code := { maxStack := 2, maxLocals := 3, code := jdk_42_method_66_code, exceptionTable := #[], attributes := #[] }
def k9m2 : Method := { name := "equals", desc := "(Ljava/lang/Object;)Z", sig := { parameters := [(.object "java/lang/Object")], returnType := some .boolean }, accessFlags := 1, code := some k9c2 }
def k9c3 : Code := { maxStack := 4, maxLocals := 6, code := jdk_42_method_149_code, exceptionTable := #[], attributes := #[] }
def k9m3 : Method := { name := "<init>", desc := "([CIILjava/lang/Void;)V", sig := { parameters := [(.array .char), .int, .int, (.object "java/lang/Void")], returnType := none }, accessFlags := 2, code := some k9c3 }
/-- java/lang/String -/
def k9 : Class := { plain "java/lang/String" (some 0) with
  accessFlags := 49
  interfaces := #[4, 3, 7, 2, 8]
  cf := some (fileOf pool9 10 #[.nestMembers #[1103]] #[{ accessFlags := 1, nameIndex := 5, descriptorIndex := 6, attributes := #[] }, { accessFlags := 1, nameIndex := 5, descriptorIndex := 1010, attributes := #[] }, { accessFlags := 1, nameIndex := 543, descriptorIndex := 573, attributes := #[] }, { accessFlags := 2, nameIndex := 5, descriptorIndex := 29, attributes := #[] }] 49 2 #[1106, 1108, 575, 1110, 1112] #[{ accessFlags := 18, nameIndex := 13, descriptorIndex := 14, attributes := #[] }, { accessFlags := 18, nameIndex := 17, descriptorIndex := 18, attributes := #[] }, { accessFlags := 2, nameIndex := 21, descriptorIndex := 22, attributes := #[] }, { accessFlags := 2, nameIndex := 25, descriptorIndex := 26, attributes := #[] }, { accessFlags := 26, nameIndex := 1116, descriptorIndex := 1117, attributes := #[] }, { accessFlags := 24, nameIndex := 40, descriptorIndex := 26, attributes := #[] }, { accessFlags := 26, nameIndex := 1101, descriptorIndex := 1102, attributes := #[] }, { accessFlags := 26, nameIndex := 1121, descriptorIndex := 1122, attributes := #[] }, { accessFlags := 25, nameIndex := 599, descriptorIndex := 600, attributes := #[] }, { accessFlags := 24, nameIndex := 1125, descriptorIndex := 18, attributes := #[] }, { accessFlags := 24, nameIndex := 1127, descriptorIndex := 18, attributes := #[] }])
  fields := #[{ name := "value", type := (.array .byte), accessFlags := 18, slot := 0, constantValue := 0 }, { name := "coder", type := .byte, accessFlags := 18, slot := 1, constantValue := 0 }, { name := "hash", type := .int, accessFlags := 2, slot := 2, constantValue := 0 }, { name := "hashIsZero", type := .boolean, accessFlags := 2, slot := 3, constantValue := 0 }, { name := "serialVersionUID", type := .long, accessFlags := 26, slot := 0, constantValue := 0 }, { name := "COMPACT_STRINGS", type := .boolean, accessFlags := 24, slot := 1, constantValue := 0 }, { name := "serialPersistentFields", type := (.array (.object "java/io/ObjectStreamField")), accessFlags := 26, slot := 2, constantValue := 0 }, { name := "REPL", type := .char, accessFlags := 26, slot := 3, constantValue := 0 }, { name := "CASE_INSENSITIVE_ORDER", type := (.object "java/util/Comparator"), accessFlags := 25, slot := 4, constantValue := 0 }, { name := "LATIN1", type := .byte, accessFlags := 24, slot := 5, constantValue := 0 }, { name := "UTF16", type := .byte, accessFlags := 24, slot := 6, constantValue := 0 }]
  methods := #[k9m0, k9m1, k9m2, k9m3]
  instanceTypes := #[(.array .byte), .byte, .int, .boolean]
  staticTypes := #[.long, .boolean, (.array (.object "java/io/ObjectStreamField")), .char, (.object "java/util/Comparator"), .byte, .byte]
  resolved := Array.replicate 1451 none
  statics := some 1 }

def pool10 : Array CpInfo := pool [(6, .class_ 8), (1, u "java/lang/Object"), (0, u "<init>"), (0, u "()V"), (1, .class_ 14), (1, u "java/lang/StringUTF16"), (31, u "$assertionsDisabled"), (0, u "Z"), (13, u "HI_BYTE_SHIFT"), (0, u "I"), (2, u "LO_BYTE_SHIFT"), (49, .methodref 12 116), (0, .nameAndType 117 118), (0, u "compress"), (0, u "([CI[BII)I"), (3, u "([CII)[B"), (138, u "coderFromArrayLen"), (0, u "([BI)B"), (106, .class_ 371), (1, u "java/lang/StringUTF16$LinesSpliterator"), (58, u "MAX_LENGTH"), (196, .class_ 628), (0, u "java/lang/StringUTF16$CodePointsSpliterator"), (0, .class_ 630), (0, u "java/lang/StringUTF16$CharsSpliterator")] 4

def k10m0 : Method := { name := "<init>", desc := "()V", sig := { parameters := [], returnType := none }, accessFlags := 0, code := none }
def k10c1 : Code := { maxStack := 2, maxLocals := 2, code := jdk_52_method_15_code, exceptionTable := #[], attributes := #[] }
def k10m1 : Method := { name := "coderFromArrayLen", desc := "([BI)B", sig := { parameters := [(.array .byte), .int], returnType := some .byte }, accessFlags := 8, code := some k10c1 }
def k10c2 : Code := { maxStack := 5, maxLocals := 6, code := jdk_52_method_16_code, exceptionTable := #[], attributes := #[] }
def k10m2 : Method := { name := "compress", desc := "([CII)[B", sig := { parameters := [(.array .char), .int, .int], returnType := some (.array .byte) }, accessFlags := 9, code := some k10c2 }
def k10c3 : Code := { maxStack := 3, maxLocals := 7, code := jdk_52_method_21_code, exceptionTable := #[], attributes := #[] }
def k10m3 : Method := { name := "compress", desc := "([CI[BII)I", sig := { parameters := [(.array .char), .int, (.array .byte), .int, .int], returnType := some .int }, accessFlags := 9, code := some k10c3 }
/-- java/lang/StringUTF16 -/
def k10 : Class := { plain "java/lang/StringUTF16" (some 0) with
  accessFlags := 48
  interfaces := #[]
  cf := some (fileOf pool10 12 #[.nestMembers #[627, 629, 369]] #[{ accessFlags := 0, nameIndex := 9, descriptorIndex := 10, attributes := #[] }, { accessFlags := 8, nameIndex := 261, descriptorIndex := 262, attributes := #[] }, { accessFlags := 9, nameIndex := 117, descriptorIndex := 122, attributes := #[] }, { accessFlags := 9, nameIndex := 117, descriptorIndex := 118, attributes := #[] }] 48 6 #[] #[{ accessFlags := 26, nameIndex := 61, descriptorIndex := 62, attributes := #[] }, { accessFlags := 26, nameIndex := 65, descriptorIndex := 62, attributes := #[] }, { accessFlags := 24, nameIndex := 430, descriptorIndex := 62, attributes := #[] }, { accessFlags := 4120, nameIndex := 46, descriptorIndex := 47, attributes := #[] }])
  fields := #[{ name := "HI_BYTE_SHIFT", type := .int, accessFlags := 26, slot := 0, constantValue := 0 }, { name := "LO_BYTE_SHIFT", type := .int, accessFlags := 26, slot := 1, constantValue := 0 }, { name := "MAX_LENGTH", type := .int, accessFlags := 24, slot := 2, constantValue := 0 }, { name := "$assertionsDisabled", type := .boolean, accessFlags := 4120, slot := 3, constantValue := 0 }]
  methods := #[k10m0, k10m1, k10m2, k10m3]
  instanceTypes := #[]
  staticTypes := #[.int, .int, .int, .boolean]
  resolved := Array.replicate 635 none
  statics := none }

def pool11 : Array CpInfo := pool [(1, .methodref 2 3), (0, .class_ 4), (0, .nameAndType 5 6), (0, u "java/lang/Object"), (0, u "<init>"), (0, u "()V"), (0, .class_ 8), (0, u "java/lang/Record")] 13

def k11c0 : Code := { maxStack := 1, maxLocals := 1, code := jdk_30_method_1_code, exceptionTable := #[], attributes := #[] }
def k11m0 : Method := { name := "<init>", desc := "()V", sig := { parameters := [], returnType := none }, accessFlags := 4, code := some k11c0 }
/-- java/lang/Record -/
def k11 : Class := { plain "java/lang/Record" (some 0) with
  accessFlags := 1057
  interfaces := #[]
  cf := some (fileOf pool11 7 #[] #[{ accessFlags := 4, nameIndex := 5, descriptorIndex := 6, attributes := #[] }] 1057 2 #[] #[])
  fields := #[]
  methods := #[k11m0]
  instanceTypes := #[]
  staticTypes := #[]
  resolved := Array.replicate 22 none
  statics := none }

def pool12 : Array CpInfo := pool [(1, .methodref 2 3), (0, .class_ 4), (0, .nameAndType 5 6), (0, u "java/lang/Record"), (0, u "<init>"), (0, u "()V"), (0, .fieldref 8 9), (0, .class_ 10), (0, .nameAndType 11 12), (0, u "com/example/relations_into_instances/relationsintoinstances/parse/Token"), (0, u "kind"), (0, u "Lcom/example/relations_into_instances/relationsintoinstances/parse/Token$Kind;"), (0, .fieldref 8 14), (0, .nameAndType 15 16), (0, u "text"), (0, u "Ljava/lang/String;"), (0, .fieldref 8 18), (0, .nameAndType 19 20), (0, u "line"), (0, u "I"), (0, .fieldref 8 22), (0, .nameAndType 23 20), (0, u "column"), (0, .fieldref 25 26), (0, .class_ 27), (0, .nameAndType 28 12), (0, u "com/example/relations_into_instances/relationsintoinstances/parse/Token$Kind"), (0, u "KEYWORD"), (0, .fieldref 25 30), (0, .nameAndType 31 12), (0, u "SYMBOL"), (0, .methodref 33 34), (0, .class_ 35), (0, .nameAndType 36 37), (0, u "java/lang/String"), (0, u "equals"), (0, u "(Ljava/lang/Object;)Z"), (20, u "(Lcom/example/relations_into_instances/relationsintoinstances/parse/Token$Kind;Ljava/lang/String;II)V"), (3, u "is"), (0, u "(Ljava/lang/String;)Z")] 38

def k12c0 : Code := { maxStack := 2, maxLocals := 5, code := prog_44_method_1_code, exceptionTable := #[], attributes := #[] }
def k12m0 : Method := { name := "<init>", desc := "(Lcom/example/relations_into_instances/relationsintoinstances/parse/Token$Kind;Ljava/lang/String;II)V", sig := { parameters := [(.object "com/example/relations_into_instances/relationsintoinstances/parse/Token$Kind"), (.object "java/lang/String"), .int, .int], returnType := none }, accessFlags := 0, code := some k12c0 }
def k12c1 : Code := { maxStack := 2, maxLocals := 2, code := prog_44_method_2_code, exceptionTable := #[], attributes := #[] }
def k12m1 : Method := { name := "is", desc := "(Ljava/lang/String;)Z", sig := { parameters := [(.object "java/lang/String")], returnType := some .boolean }, accessFlags := 0, code := some k12c1 }
/-- com/example/relations_into_instances/relationsintoinstances/parse/Token -/
def k12 : Class := { plain "com/example/relations_into_instances/relationsintoinstances/parse/Token" (some 11) with
  accessFlags := 48
  interfaces := #[]
  cf := some (fileOf pool12 8 #[.nestMembers #[25]] #[{ accessFlags := 0, nameIndex := 5, descriptorIndex := 58, attributes := #[] }, { accessFlags := 0, nameIndex := 62, descriptorIndex := 63, attributes := #[] }] 48 2 #[] #[{ accessFlags := 18, nameIndex := 11, descriptorIndex := 12, attributes := #[] }, { accessFlags := 18, nameIndex := 15, descriptorIndex := 16, attributes := #[] }, { accessFlags := 18, nameIndex := 19, descriptorIndex := 20, attributes := #[] }, { accessFlags := 18, nameIndex := 23, descriptorIndex := 20, attributes := #[] }])
  fields := #[{ name := "kind", type := (.object "com/example/relations_into_instances/relationsintoinstances/parse/Token$Kind"), accessFlags := 18, slot := 0, constantValue := 0 }, { name := "text", type := (.object "java/lang/String"), accessFlags := 18, slot := 1, constantValue := 0 }, { name := "line", type := .int, accessFlags := 18, slot := 2, constantValue := 0 }, { name := "column", type := .int, accessFlags := 18, slot := 3, constantValue := 0 }]
  methods := #[k12m0, k12m1]
  instanceTypes := #[(.object "com/example/relations_into_instances/relationsintoinstances/parse/Token$Kind"), (.object "java/lang/String"), .int, .int]
  staticTypes := #[]
  resolved := Array.replicate 102 none
  statics := none }

def pool13 : Array CpInfo := pool [(4, .class_ 6), (1, u "java/lang/Object"), (0, u "<init>"), (0, u "()V"), (5, .class_ 16), (1, u "java/lang/StringLatin1"), (104, u "$assertionsDisabled"), (0, u "Z"), (98, .class_ 223), (1, u "java/lang/StringLatin1$LinesSpliterator"), (57, u "equals"), (0, u "([B[B)Z"), (107, .class_ 391), (0, u "java/lang/StringLatin1$CharsSpliterator")] 3

def k13m0 : Method := { name := "<init>", desc := "()V", sig := { parameters := [], returnType := none }, accessFlags := 0, code := none }
def k13c1 : Code := { maxStack := 3, maxLocals := 3, code := jdk_43_method_13_code, exceptionTable := #[], attributes := #[] }
def k13m1 : Method := { name := "equals", desc := "([B[B)Z", sig := { parameters := [(.array .byte), (.array .byte)], returnType := some .boolean }, accessFlags := 9, code := some k13c1 }
/-- java/lang/StringLatin1 -/
def k13 : Class := { plain "java/lang/StringLatin1" (some 0) with
  accessFlags := 48
  interfaces := #[]
  cf := some (fileOf pool13 14 #[.nestMembers #[390, 221]] #[{ accessFlags := 0, nameIndex := 7, descriptorIndex := 8, attributes := #[] }, { accessFlags := 9, nameIndex := 281, descriptorIndex := 282, attributes := #[] }] 48 4 #[] #[{ accessFlags := 4120, nameIndex := 121, descriptorIndex := 122, attributes := #[] }])
  fields := #[{ name := "$assertionsDisabled", type := .boolean, accessFlags := 4120, slot := 0, constantValue := 0 }]
  methods := #[k13m0, k13m1]
  instanceTypes := #[]
  staticTypes := #[.boolean]
  resolved := Array.replicate 395 none
  statics := none }

def pool14 : Array CpInfo := pool [(2, .class_ 4), (1, u "java/lang/Object"), (0, u "<init>"), (0, u "()V"), (17, .class_ 26), (1, u "jdk/internal/util/Preconditions"), (28, .class_ 56), (0, u "jdk/internal/util/Preconditions$4"), (57, .class_ 115), (0, u "jdk/internal/util/Preconditions$1"), (7, u "SIOOBE_FORMATTER"), (0, u "Ljava/util/function/BiFunction;"), (0, .class_ 126), (0, u "jdk/internal/util/Preconditions$2"), (3, u "AIOOBE_FORMATTER"), (0, .class_ 132), (0, u "jdk/internal/util/Preconditions$3"), (3, u "IOOBE_FORMATTER")] 57

def k14m0 : Method := { name := "<init>", desc := "()V", sig := { parameters := [], returnType := none }, accessFlags := 1, code := none }
/-- jdk/internal/util/Preconditions -/
def k14 : Class := { plain "jdk/internal/util/Preconditions" (some 0) with
  accessFlags := 33
  interfaces := #[]
  cf := some (fileOf pool14 24 #[.nestMembers #[55, 131, 125, 114]] #[{ accessFlags := 1, nameIndex := 5, descriptorIndex := 6, attributes := #[] }] 33 2 #[] #[{ accessFlags := 25, nameIndex := 123, descriptorIndex := 124, attributes := #[] }, { accessFlags := 25, nameIndex := 130, descriptorIndex := 124, attributes := #[] }, { accessFlags := 25, nameIndex := 136, descriptorIndex := 124, attributes := #[] }])
  fields := #[{ name := "SIOOBE_FORMATTER", type := (.object "java/util/function/BiFunction"), accessFlags := 25, slot := 0, constantValue := 0 }, { name := "AIOOBE_FORMATTER", type := (.object "java/util/function/BiFunction"), accessFlags := 25, slot := 1, constantValue := 0 }, { name := "IOOBE_FORMATTER", type := (.object "java/util/function/BiFunction"), accessFlags := 25, slot := 2, constantValue := 0 }]
  methods := #[k14m0]
  instanceTypes := #[]
  staticTypes := #[(.object "java/util/function/BiFunction"), (.object "java/util/function/BiFunction"), (.object "java/util/function/BiFunction")]
  resolved := Array.replicate 194 none
  statics := some 2 }

def pool15 : Array CpInfo := pool [(9, u "<init>"), (6, .class_ 18), (1, u "java/lang/Object"), (0, u "()V"), (1, .class_ 23), (1, u "jdk/internal/util/ArraysSupport"), (0, u "LOG2_ARRAY_LONG_INDEX_SCALE"), (0, u "I"), (2, u "U"), (0, u "Ljdk/internal/misc/Unsafe;"), (8, u "BIG_ENDIAN"), (0, u "Z"), (8, u "LOG2_BYTE_BIT_SIZE"), (4, u "LOG2_ARRAY_INT_INDEX_SCALE"), (54, u "JLA"), (0, u "Ljdk/internal/access/JavaLangAccess;"), (11, u "LOG2_ARRAY_BOOLEAN_INDEX_SCALE"), (9, u "LOG2_ARRAY_BYTE_INDEX_SCALE"), (5, u "LOG2_ARRAY_CHAR_INDEX_SCALE"), (5, u "LOG2_ARRAY_SHORT_INDEX_SCALE"), (18, u "LOG2_ARRAY_FLOAT_INDEX_SCALE"), (24, u "LOG2_ARRAY_DOUBLE_INDEX_SCALE"), (89, u "T_BOOLEAN"), (2, u "T_CHAR"), (1, u "T_FLOAT"), (1, u "T_DOUBLE"), (1, u "T_BYTE"), (1, u "T_SHORT"), (1, u "T_INT"), (1, u "T_LONG"), (1, u "SOFT_MAX_ARRAY_LENGTH")] 83

def k15m0 : Method := { name := "<init>", desc := "()V", sig := { parameters := [], returnType := none }, accessFlags := 2, code := none }
/-- jdk/internal/util/ArraysSupport -/
def k15 : Class := { plain "jdk/internal/util/ArraysSupport" (some 0) with
  accessFlags := 33
  interfaces := #[]
  cf := some (fileOf pool15 21 #[] #[{ accessFlags := 2, nameIndex := 9, descriptorIndex := 19, attributes := #[] }] 33 16 #[] #[{ accessFlags := 24, nameIndex := 28, descriptorIndex := 29, attributes := #[] }, { accessFlags := 26, nameIndex := 38, descriptorIndex := 39, attributes := #[] }, { accessFlags := 25, nameIndex := 121, descriptorIndex := 25, attributes := #[] }, { accessFlags := 25, nameIndex := 131, descriptorIndex := 25, attributes := #[] }, { accessFlags := 25, nameIndex := 137, descriptorIndex := 25, attributes := #[] }, { accessFlags := 25, nameIndex := 143, descriptorIndex := 25, attributes := #[] }, { accessFlags := 25, nameIndex := 53, descriptorIndex := 25, attributes := #[] }, { accessFlags := 25, nameIndex := 24, descriptorIndex := 25, attributes := #[] }, { accessFlags := 25, nameIndex := 162, descriptorIndex := 25, attributes := #[] }, { accessFlags := 25, nameIndex := 187, descriptorIndex := 25, attributes := #[] }, { accessFlags := 26, nameIndex := 48, descriptorIndex := 25, attributes := #[] }, { accessFlags := 25, nameIndex := 277, descriptorIndex := 25, attributes := #[] }, { accessFlags := 25, nameIndex := 280, descriptorIndex := 25, attributes := #[] }, { accessFlags := 25, nameIndex := 282, descriptorIndex := 25, attributes := #[] }, { accessFlags := 25, nameIndex := 284, descriptorIndex := 25, attributes := #[] }, { accessFlags := 25, nameIndex := 286, descriptorIndex := 25, attributes := #[] }, { accessFlags := 25, nameIndex := 288, descriptorIndex := 25, attributes := #[] }, { accessFlags := 25, nameIndex := 290, descriptorIndex := 25, attributes := #[] }, { accessFlags := 25, nameIndex := 292, descriptorIndex := 25, attributes := #[] }, { accessFlags := 26, nameIndex := 108, descriptorIndex := 109, attributes := #[] }, { accessFlags := 25, nameIndex := 294, descriptorIndex := 25, attributes := #[] }])
  fields := #[{ name := "U", type := (.object "jdk/internal/misc/Unsafe"), accessFlags := 24, slot := 0, constantValue := 0 }, { name := "BIG_ENDIAN", type := .boolean, accessFlags := 26, slot := 1, constantValue := 0 }, { name := "LOG2_ARRAY_BOOLEAN_INDEX_SCALE", type := .int, accessFlags := 25, slot := 2, constantValue := 0 }, { name := "LOG2_ARRAY_BYTE_INDEX_SCALE", type := .int, accessFlags := 25, slot := 3, constantValue := 0 }, { name := "LOG2_ARRAY_CHAR_INDEX_SCALE", type := .int, accessFlags := 25, slot := 4, constantValue := 0 }, { name := "LOG2_ARRAY_SHORT_INDEX_SCALE", type := .int, accessFlags := 25, slot := 5, constantValue := 0 }, { name := "LOG2_ARRAY_INT_INDEX_SCALE", type := .int, accessFlags := 25, slot := 6, constantValue := 0 }, { name := "LOG2_ARRAY_LONG_INDEX_SCALE", type := .int, accessFlags := 25, slot := 7, constantValue := 0 }, { name := "LOG2_ARRAY_FLOAT_INDEX_SCALE", type := .int, accessFlags := 25, slot := 8, constantValue := 0 }, { name := "LOG2_ARRAY_DOUBLE_INDEX_SCALE", type := .int, accessFlags := 25, slot := 9, constantValue := 0 }, { name := "LOG2_BYTE_BIT_SIZE", type := .int, accessFlags := 26, slot := 10, constantValue := 0 }, { name := "T_BOOLEAN", type := .int, accessFlags := 25, slot := 11, constantValue := 0 }, { name := "T_CHAR", type := .int, accessFlags := 25, slot := 12, constantValue := 0 }, { name := "T_FLOAT", type := .int, accessFlags := 25, slot := 13, constantValue := 0 }, { name := "T_DOUBLE", type := .int, accessFlags := 25, slot := 14, constantValue := 0 }, { name := "T_BYTE", type := .int, accessFlags := 25, slot := 15, constantValue := 0 }, { name := "T_SHORT", type := .int, accessFlags := 25, slot := 16, constantValue := 0 }, { name := "T_INT", type := .int, accessFlags := 25, slot := 17, constantValue := 0 }, { name := "T_LONG", type := .int, accessFlags := 25, slot := 18, constantValue := 0 }, { name := "JLA", type := (.object "jdk/internal/access/JavaLangAccess"), accessFlags := 26, slot := 19, constantValue := 0 }, { name := "SOFT_MAX_ARRAY_LENGTH", type := .int, accessFlags := 25, slot := 20, constantValue := 0 }]
  methods := #[k15m0]
  instanceTypes := #[]
  staticTypes := #[(.object "jdk/internal/misc/Unsafe"), .boolean, .int, .int, .int, .int, .int, .int, .int, .int, .int, .int, .int, .int, .int, .int, .int, .int, .int, (.object "jdk/internal/access/JavaLangAccess"), .int]
  resolved := Array.replicate 378 none
  statics := none }

def pool16 : Array CpInfo := pool [(1, u "java/lang/Cloneable"), (0, .class_ 1), (0, u "java/lang/Object"), (0, .class_ 3)] 3

/-- java/lang/Cloneable -/
def k16 : Class := { plain "java/lang/Cloneable" (some 0) with
  accessFlags := 1537
  interfaces := #[]
  cf := some (fileOf pool16 2 #[] #[] 1537 4 #[] #[])
  fields := #[]
  methods := #[]
  instanceTypes := #[]
  staticTypes := #[]
  resolved := Array.replicate 8 none
  statics := none }

/-- the primitive byte -/
def k17 : Class := { plain "byte" none with kind := .primitive 'B', accessFlags := 0x411 }
/-- [B -/
def k18 : Class := { plain "[B" (some 0) with kind := .array 17 .byte, interfaces := #[16, 4], accessFlags := 1041 }

/-- the primitive char -/
def k19 : Class := { plain "char" none with kind := .primitive 'C', accessFlags := 0x411 }
/-- [C -/
def k20 : Class := { plain "[C" (some 0) with kind := .array 19 .char, interfaces := #[16, 4], accessFlags := 1041 }

/-- the primitive int -/
def k21 : Class := { plain "int" none with kind := .primitive 'I', accessFlags := 0x411 }
/-- [I -/
def k22 : Class := { plain "[I" (some 0) with kind := .array 21 .int, interfaces := #[16, 4], accessFlags := 1041 }

def heap : Heap := #[{ cls := 6, slots := #[.ref 3, .ref 6, .ref 4, .ref 5, .ref 7, .null], vm := .statics 6 },
  { cls := 9, slots := #[.long 0, .int 1, .null, .int 0, .null, .int 0, .int 0], vm := .statics 9 },
  { cls := 14, slots := #[.null, .null, .null], vm := .statics 14 },
  { cls := 6, slots := #[.null, .int 0, .int 0], vm := .none },
  { cls := 6, slots := #[.null, .int 2, .int 0], vm := .none },
  { cls := 6, slots := #[.null, .int 3, .int 0], vm := .none },
  { cls := 6, slots := #[.null, .int 1, .int 0], vm := .none },
  { cls := 6, slots := #[.null, .int 4, .int 0], vm := .none }]
def classes : Array Class := #[k0, k1, k2, k3, k4, k5, k6, k7, k8, k9, k10, k11, k12, k13, k14, k15, k16, k17, k18, k19, k20, k21, k22]
def interned : List (Array UInt16 × Addr) := []
def slotsUsed : Nat := 31
def theMethod : MethodId := ⟨1, 3⟩
def args0 : Array Value := #[.int 5, .int 5, .int 5, .int 5, .int 5]
def aboutOver (below : List Frame) : State where
  vm := { classes := classes, interned := interned.toArray }
  heap := heap
  slotsUsed := slotsUsed
  threads := #[{ frames := .invoking theMethod args0 :: below }]
def below0 : List Frame := [.native { method := ⟨0, 0⟩, args := #[] }]
def about1 : State := aboutOver below0
def p0 : Program := .bare "" "" ""
def e0 : Env := launch0.env 0 0 0
theorem w_frames : about1.frames = Frame.invoking theMethod args0 :: below0 := rfl
set_option maxRecDepth 65536 in
theorem w_args : argsFit about1.vm theMethod args0 = true := by decide +kernel
set_option maxRecDepth 65536 in
theorem w_heap : heapFits about1 = true := by decide +kernel
set_option maxRecDepth 65536 in
theorem w_runnable : about1.curStatus? = some .runnable := by decide +kernel
set_option maxRecDepth 65536 in
theorem w_alone : about1.alone = true := by decide +kernel
set_option maxRecDepth 65536 in
theorem w_named : about1.methodNamed? x = some theMethod := by decide +kernel
set_option maxRecDepth 65536 in
theorem w_hears : about1.hears theMethod below0 = true := by decide +kernel
set_option maxRecDepth 65536 in
theorem w_ripe : about1.ripe theMethod args0 below0 = true := by decide +kernel
theorem w_running : about1.status = .running := rfl
set_option maxRecDepth 65536 in
theorem w_room : about1.hasRoom e0.platform room_1 = true :=
  launch0.hasRoom_least _ room_1 (by decide +kernel) (by decide +kernel) (by decide +kernel) (by decide +kernel) (by decide +kernel) (by decide +kernel)
theorem allAtoms_all (ts : List Jvm.Cond) (a : Array Jvm.Value) (st : Jvm.State) : (allAtoms ts).before a st = ts.all (fun c => c.before a st) := by
  induction ts with
  | nil => rfl
  | cons c t ih =>
    show (Jvm.Cond.and c (allAtoms t)).before a st = _
    rw [Jvm.Cond.before_and, ih, List.all_cons]
def words1 : List Jvm.Cond := Jvm.Cond.code x code maxLocals ret :: tables_1
/-- a 'code' word, met by the world's own term for the bytes: nothing is compared byte by byte -/
theorem code_word {y : MethodName} {bytes : ByteArray} {mx : Nat} {rt : Option FieldType} {a : Array Value} {s : State} {m : MethodId} {meth : Method} {c : Code} (h1 : s.methodNamed? y = some m) (h2 : s.vm.method? m = some meth) (h3 : meth.code = some c) (h4 : c.code = bytes)
    (h5 : (c.maxLocals == mx && c.exceptionTable.isEmpty && decide (c.maxStack ≤ mostOperands) && decide (meth.sig.returnType = rt) && !meth.locks && decide (parseMethodDescriptor y.desc = some meth.sig)) = true) : (Jvm.Cond.code y bytes mx rt).before a s = true := by
  simp only [Bool.and_eq_true, beq_iff_eq, Bool.not_eq_true', decide_eq_true_eq] at h5
  obtain ⟨⟨⟨⟨⟨g1, g2⟩, g3⟩, g4⟩, g5⟩, g6⟩ := h5
  simp [Cond.before, Cond.holds, Cond.value, h1, h2, h3, h4, g1, g2, g3, g4, g5, g6]
def isCode : Jvm.Cond → Bool
  | .code _ _ _ _ => true
  | _ => false
theorem all_split {L : List Jvm.Cond} {P : Jvm.Cond → Bool} (h1 : L.all (fun c => isCode c || P c) = true) (h2 : ∀ c ∈ L.filter isCode, P c = true) : L.all P = true := by
  refine List.all_eq_true.mpr fun c hc => ?_
  have h := List.all_eq_true.mp h1 c hc
  rcases Bool.eq_false_or_eq_true (isCode c) with hi | hi
  · exact h2 c (List.mem_filter.mpr ⟨hc, hi⟩)
  · simpa [hi] using h
set_option maxRecDepth 65536 in
theorem w_c0 : (Jvm.Cond.code x code maxLocals ret).before args0 about1 = true := code_word (m := ⟨1, 3⟩) (meth := k1m3) (c := k1c3) (by decide +kernel) rfl rfl rfl (by decide +kernel)
set_option maxRecDepth 65536 in
theorem w_c1 : (Jvm.Cond.code ({ cls := "com/example/relations_into_instances/relationsintoinstances/parse/TokenIsPinLaw", name := "pick", desc := "(I)Lcom/example/relations_into_instances/relationsintoinstances/parse/Token$Kind;" } : Jvm.MethodName) method_2_code (1 : Nat) (Option.some (Jvm.ClassFile.FieldType.object "com/example/relations_into_instances/relationsintoinstances/parse/Token$Kind"))).before args0 about1 = true := code_word (m := ⟨1, 1⟩) (meth := k1m1) (c := k1c1) (by decide +kernel) rfl rfl rfl (by decide +kernel)
set_option maxRecDepth 65536 in
theorem w_c2 : (Jvm.Cond.code ({ cls := "com/example/relations_into_instances/relationsintoinstances/parse/TokenIsPinLaw", name := "mk", desc := "(ICC)Ljava/lang/String;" } : Jvm.MethodName) method_3_code (4 : Nat) (Option.some (Jvm.ClassFile.FieldType.object "java/lang/String"))).before args0 about1 = true := code_word (m := ⟨1, 2⟩) (meth := k1m2) (c := k1c2) (by decide +kernel) rfl rfl rfl (by decide +kernel)
set_option maxRecDepth 65536 in
theorem w_c3 : (Jvm.Cond.code ({ cls := "java/lang/String", name := "<init>", desc := "([C)V" } : Jvm.MethodName) jdk_42_method_3_code (2 : Nat) (Option.none : Option Jvm.ClassFile.FieldType)).before args0 about1 = true := code_word (m := ⟨9, 1⟩) (meth := k9m1) (c := k9c1) (by decide +kernel) rfl rfl rfl (by decide +kernel)
set_option maxRecDepth 65536 in
theorem w_c4 : (Jvm.Cond.code ({ cls := "java/lang/String", name := "<init>", desc := "([CIILjava/lang/Void;)V" } : Jvm.MethodName) jdk_42_method_149_code (6 : Nat) (Option.none : Option Jvm.ClassFile.FieldType)).before args0 about1 = true := code_word (m := ⟨9, 3⟩) (meth := k9m3) (c := k9c3) (by decide +kernel) rfl rfl rfl (by decide +kernel)
set_option maxRecDepth 65536 in
theorem w_c5 : (Jvm.Cond.code ({ cls := "java/lang/Object", name := "<init>", desc := "()V" } : Jvm.MethodName) object_method_1_code (1 : Nat) (Option.none : Option Jvm.ClassFile.FieldType)).before args0 about1 = true := code_word (m := ⟨0, 0⟩) (meth := k0m0) (c := k0c0) (by decide +kernel) rfl rfl rfl (by decide +kernel)
set_option maxRecDepth 65536 in
theorem w_c6 : (Jvm.Cond.code ({ cls := "java/lang/StringUTF16", name := "compress", desc := "([CII)[B" } : Jvm.MethodName) jdk_52_method_16_code (6 : Nat) (Option.some (Jvm.ClassFile.FieldType.array Jvm.ClassFile.FieldType.byte))).before args0 about1 = true := code_word (m := ⟨10, 2⟩) (meth := k10m2) (c := k10c2) (by decide +kernel) rfl rfl rfl (by decide +kernel)
set_option maxRecDepth 65536 in
theorem w_c7 : (Jvm.Cond.code ({ cls := "java/lang/StringUTF16", name := "compress", desc := "([CI[BII)I" } : Jvm.MethodName) jdk_52_method_21_code (7 : Nat) (Option.some Jvm.ClassFile.FieldType.int)).before args0 about1 = true := code_word (m := ⟨10, 3⟩) (meth := k10m3) (c := k10c3) (by decide +kernel) rfl rfl rfl (by decide +kernel)
set_option maxRecDepth 65536 in
theorem w_c8 : (Jvm.Cond.code ({ cls := "java/lang/StringUTF16", name := "coderFromArrayLen", desc := "([BI)B" } : Jvm.MethodName) jdk_52_method_15_code (2 : Nat) (Option.some Jvm.ClassFile.FieldType.byte)).before args0 about1 = true := code_word (m := ⟨10, 1⟩) (meth := k10m1) (c := k10c1) (by decide +kernel) rfl rfl rfl (by decide +kernel)
set_option maxRecDepth 65536 in
theorem w_c9 : (Jvm.Cond.code ({ cls := "com/example/relations_into_instances/relationsintoinstances/parse/Token", name := "<init>", desc := "(Lcom/example/relations_into_instances/relationsintoinstances/parse/Token$Kind;Ljava/lang/String;II)V" } : Jvm.MethodName) prog_44_method_1_code (5 : Nat) (Option.none : Option Jvm.ClassFile.FieldType)).before args0 about1 = true := code_word (m := ⟨12, 0⟩) (meth := k12m0) (c := k12c0) (by decide +kernel) rfl rfl rfl (by decide +kernel)
set_option maxRecDepth 65536 in
theorem w_c10 : (Jvm.Cond.code ({ cls := "java/lang/Record", name := "<init>", desc := "()V" } : Jvm.MethodName) jdk_30_method_1_code (1 : Nat) (Option.none : Option Jvm.ClassFile.FieldType)).before args0 about1 = true := code_word (m := ⟨11, 0⟩) (meth := k11m0) (c := k11c0) (by decide +kernel) rfl rfl rfl (by decide +kernel)
set_option maxRecDepth 65536 in
theorem w_c11 : (Jvm.Cond.code ({ cls := "com/example/relations_into_instances/relationsintoinstances/parse/Token", name := "is", desc := "(Ljava/lang/String;)Z" } : Jvm.MethodName) prog_44_method_2_code (2 : Nat) (Option.some Jvm.ClassFile.FieldType.boolean)).before args0 about1 = true := code_word (m := ⟨12, 1⟩) (meth := k12m1) (c := k12c1) (by decide +kernel) rfl rfl rfl (by decide +kernel)
set_option maxRecDepth 65536 in
theorem w_c12 : (Jvm.Cond.code ({ cls := "java/lang/String", name := "equals", desc := "(Ljava/lang/Object;)Z" } : Jvm.MethodName) jdk_42_method_66_code (3 : Nat) (Option.some Jvm.ClassFile.FieldType.boolean)).before args0 about1 = true := code_word (m := ⟨9, 2⟩) (meth := k9m2) (c := k9c2) (by decide +kernel) rfl rfl rfl (by decide +kernel)
set_option maxRecDepth 65536 in
theorem w_c13 : (Jvm.Cond.code ({ cls := "java/lang/StringLatin1", name := "equals", desc := "([B[B)Z" } : Jvm.MethodName) jdk_43_method_13_code (3 : Nat) (Option.some Jvm.ClassFile.FieldType.boolean)).before args0 about1 = true := code_word (m := ⟨13, 1⟩) (meth := k13m1) (c := k13c1) (by decide +kernel) rfl rfl rfl (by decide +kernel)
def codes1 : List Jvm.Cond := [Jvm.Cond.code x code maxLocals ret, Jvm.Cond.code ({ cls := "com/example/relations_into_instances/relationsintoinstances/parse/TokenIsPinLaw", name := "pick", desc := "(I)Lcom/example/relations_into_instances/relationsintoinstances/parse/Token$Kind;" } : Jvm.MethodName) method_2_code (1 : Nat) (Option.some (Jvm.ClassFile.FieldType.object "com/example/relations_into_instances/relationsintoinstances/parse/Token$Kind")), Jvm.Cond.code ({ cls := "com/example/relations_into_instances/relationsintoinstances/parse/TokenIsPinLaw", name := "mk", desc := "(ICC)Ljava/lang/String;" } : Jvm.MethodName) method_3_code (4 : Nat) (Option.some (Jvm.ClassFile.FieldType.object "java/lang/String")), Jvm.Cond.code ({ cls := "java/lang/String", name := "<init>", desc := "([C)V" } : Jvm.MethodName) jdk_42_method_3_code (2 : Nat) (Option.none : Option Jvm.ClassFile.FieldType), Jvm.Cond.code ({ cls := "java/lang/String", name := "<init>", desc := "([CIILjava/lang/Void;)V" } : Jvm.MethodName) jdk_42_method_149_code (6 : Nat) (Option.none : Option Jvm.ClassFile.FieldType), Jvm.Cond.code ({ cls := "java/lang/Object", name := "<init>", desc := "()V" } : Jvm.MethodName) object_method_1_code (1 : Nat) (Option.none : Option Jvm.ClassFile.FieldType), Jvm.Cond.code ({ cls := "java/lang/StringUTF16", name := "compress", desc := "([CII)[B" } : Jvm.MethodName) jdk_52_method_16_code (6 : Nat) (Option.some (Jvm.ClassFile.FieldType.array Jvm.ClassFile.FieldType.byte)), Jvm.Cond.code ({ cls := "java/lang/StringUTF16", name := "compress", desc := "([CI[BII)I" } : Jvm.MethodName) jdk_52_method_21_code (7 : Nat) (Option.some Jvm.ClassFile.FieldType.int), Jvm.Cond.code ({ cls := "java/lang/StringUTF16", name := "coderFromArrayLen", desc := "([BI)B" } : Jvm.MethodName) jdk_52_method_15_code (2 : Nat) (Option.some Jvm.ClassFile.FieldType.byte), Jvm.Cond.code ({ cls := "com/example/relations_into_instances/relationsintoinstances/parse/Token", name := "<init>", desc := "(Lcom/example/relations_into_instances/relationsintoinstances/parse/Token$Kind;Ljava/lang/String;II)V" } : Jvm.MethodName) prog_44_method_1_code (5 : Nat) (Option.none : Option Jvm.ClassFile.FieldType), Jvm.Cond.code ({ cls := "java/lang/Record", name := "<init>", desc := "()V" } : Jvm.MethodName) jdk_30_method_1_code (1 : Nat) (Option.none : Option Jvm.ClassFile.FieldType), Jvm.Cond.code ({ cls := "com/example/relations_into_instances/relationsintoinstances/parse/Token", name := "is", desc := "(Ljava/lang/String;)Z" } : Jvm.MethodName) prog_44_method_2_code (2 : Nat) (Option.some Jvm.ClassFile.FieldType.boolean), Jvm.Cond.code ({ cls := "java/lang/String", name := "equals", desc := "(Ljava/lang/Object;)Z" } : Jvm.MethodName) jdk_42_method_66_code (3 : Nat) (Option.some Jvm.ClassFile.FieldType.boolean), Jvm.Cond.code ({ cls := "java/lang/StringLatin1", name := "equals", desc := "([B[B)Z" } : Jvm.MethodName) jdk_43_method_13_code (3 : Nat) (Option.some Jvm.ClassFile.FieldType.boolean)]
set_option maxRecDepth 65536 in
theorem codes_eq : words1.filter isCode = codes1 := rfl
theorem w_codes : ∀ c ∈ words1.filter isCode, c.before args0 about1 = true := by
  rw [codes_eq]
  intro c hc
  simp only [codes1, List.mem_cons, List.not_mem_nil, or_false] at hc
  rcases hc with rfl | rfl | rfl | rfl | rfl | rfl | rfl | rfl | rfl | rfl | rfl | rfl | rfl | rfl
  · exact w_c0
  · exact w_c1
  · exact w_c2
  · exact w_c3
  · exact w_c4
  · exact w_c5
  · exact w_c6
  · exact w_c7
  · exact w_c8
  · exact w_c9
  · exact w_c10
  · exact w_c11
  · exact w_c12
  · exact w_c13
set_option maxRecDepth 65536 in
theorem w_t1 : (words1.take 24).all (fun c => isCode c || c.before args0 about1) = true := by decide +kernel
set_option maxRecDepth 65536 in
theorem w_t2 : ((words1.drop 24).take 24).all (fun c => isCode c || c.before args0 about1) = true := by decide +kernel
set_option maxRecDepth 65536 in
theorem w_t3 : (((words1.drop 24).drop 24).take 24).all (fun c => isCode c || c.before args0 about1) = true := by decide +kernel
set_option maxRecDepth 65536 in
theorem w_t4 : (((words1.drop 24).drop 24).drop 24).all (fun c => isCode c || c.before args0 about1) = true := by decide +kernel
theorem w_tables : (allAtoms (Jvm.Cond.code x code maxLocals ret :: tables_1)).before args0 about1 = true := by
  rw [allAtoms_all]
  show words1.all (fun c => c.before args0 about1) = true
  refine all_split ?_ w_codes
  rw [← List.take_append_drop 24 words1, List.all_append, w_t1, ← List.take_append_drop 24 (words1.drop 24), List.all_append, w_t2, ← List.take_append_drop 24 ((words1.drop 24).drop 24), List.all_append, w_t3, w_t4]
  rfl
set_option maxRecDepth 65536 in
theorem w_rest : rest_1_c.before args0 about1 = true := by decide +kernel
set_option maxRecDepth 65536 in
theorem w_case : (Jvm.Cond.and given_1 narrow_1).before args0 about1 = true := by decide +kernel
set_option maxRecDepth 65536 in
theorem w_consts : constsHeld consts_1 about1 := Jvm.Lit.constsHeldB_iff.mp (by decide +kernel)
theorem w_applies : (headSpec (Jvm.Cond.code x code maxLocals ret :: tables_1) room_1).applies x e0.platform about1 = true :=
  (Spec.applies_iff w_frames).mpr ⟨w_running, w_runnable, w_alone, w_named, w_hears, w_ripe, w_room, w_tables⟩
theorem atStart : AtStart classFile x code maxLocals ret World_1 tables_1 room_1 Calls_1 rest_1 Pre_1 launch0 p0 e0 about1 theMethod args0 below0 :=
  ⟨lists_1, trivial, launch0.admits_env _ _ _, launch0.least_env, fairChoices_fair.cas, fairChoices_fair.clock, w_frames, w_args, w_heap, w_applies, ⟨w_consts, trivial⟩, w_rest, w_case⟩
end start1
theorem witness_1 : WitnessClaimed_1 := ⟨start1.p0, start1.e0, start1.about1, start1.theMethod, start1.args0, start1.below0, start1.atStart⟩
end Jvm.Pilot.@@N@@
