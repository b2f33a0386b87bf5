import JvmDerived
import JvmDerived.Pilot.@@N@@Statement
import JvmDerived.Pilot.@@N@@Code
set_option linter.unusedVariables false
set_option linter.unusedSimpArgs false
namespace Jvm.Pilot.@@N@@
open Jvm Jvm.ClassFile Sem Op Lib Jvm.Free Jvm.Stand Jvm.LawKit Jvm.RoadKit Bundle Jvm.Pilot.@@N@@.Jvm.D
section Own
variable {p : Program} {l : Launch} {e : Env} {R : Room} {s : State} {m : MethodId} {args : Array Value} {below : List Frame} {meth : Method} {c : Code} {Z : State} {a0 : Array Value} {own : String} {cd : ByteArray} {mx : Nat} {ret : Option FieldType} {nm : String}
variable {EL : List (String × Nat)} {n0 bk : Nat} {eb : Heap → Nat} {Q : Option Value → Heap → Prop} {h h' h1 h2 : Heap} {k n : Nat} {vm0 : Vm}
/-- the cells that P names stand in h' as they stood in h -/
def OKp (P : Nat → Prop) (h h' : Heap) : Prop := h.size ≤ h'.size ∧ ∀ (x : Nat) (cl : Cell), P x → h[x]? = some cl → h'[x]? = some cl
section Facts
variable {P P' : Nat → Prop} {a b : Nat} {C O nn d : String} {v w : Value} {sl : Nat} {ty : FieldType}
theorem OKp.refl : OKp P h h := ⟨Nat.le_refl _, fun _ _ _ q => q⟩
theorem OKp.trans (A : OKp P h h1) (B : OKp P h1 h2) : OKp P h h2 := ⟨Nat.le_trans A.1 B.1, fun x cl q r => B.2 x cl q (A.2 x cl q r)⟩
theorem OKp.weak (A : OKp P h h') (q : ∀ x, P' x → P x) : OKp P' h h' := ⟨A.1, fun x cl r => A.2 x cl (q x r)⟩
theorem OKp.ofExt (E : Ext h h') : OKp P h h' := ⟨E.1, fun x cl _ r => E.2 x cl r⟩
theorem OKp.ofWr (W : Wr h h' a sl v) : OKp (fun x => x ≠ a) h h' := ⟨Nat.le_of_eq W.size.symm, fun x cl q r => by obtain ⟨c', e1, -, -, -, e5, -⟩ := wr_at W r; rw [← e5 q]; exact e1⟩
theorem OKp.ext (A : OKp P h h1) (E : Ext h1 h2) : OKp P h h2 := A.trans (OKp.ofExt E)
theorem OKp.wr (A : OKp P h h1) (W : Wr h1 h2 a sl v) (q : ∀ x, P x → x ≠ a) : OKp P h h2 := A.trans ((OKp.ofWr W).weak q)
theorem own_exa (K : OKp P h h') (F : Exa Z h a C) (q : P a) : Exa Z h' a C := by obtain ⟨cell, kk, g1, r⟩ := F; exact ⟨cell, kk, K.2 _ _ q g1, r⟩
theorem own_fld (K : OKp P h h') (F : Fld Z h a O nn d v) (q : P a) : Fld Z h' a O nn d v := by obtain ⟨cell, cf, kk, i, f, g1, r⟩ := F; exact ⟨cell, cf, kk, i, f, K.2 _ _ q g1, r⟩
theorem own_arr {cl : Cell} (K : OKp P h h') (F : Arr Z h a cl ty) (q : P a) : Arr Z h' a cl ty := ⟨K.2 _ _ q F.1, F.2⟩
theorem own_ins {bo : Bool} (K : OKp P h h') (F : Ins Z h a C bo) (q : P a) : Ins Z h' a C bo := by obtain ⟨cell, kk, g1, r⟩ := F; exact ⟨cell, kk, K.2 _ _ q g1, r⟩
/-- an array of ints (bytes, chars ..) with these components -/
def Ar (Z : State) (h : Heap) (a : Nat) (ty : FieldType) (xs : List Int32) : Prop := ∃ cl : Cell, Arr Z h a cl ty ∧ cl.slots.size = xs.length ∧ xs.length < 2147483648 ∧ (∀ (i : Nat) (x : Int32), xs[i]? = some x → cl.slots[i]? = some (Value.int x)) ∧ ∀ x ∈ xs, fits ty (Value.int x) = true
theorem Ar.kp {xs : List Int32} (K : OKp P h h') (F : Ar Z h a ty xs) (q : P a) : Ar Z h' a ty xs := by obtain ⟨cl, A, r⟩ := F; exact ⟨cl, own_arr K A q, r⟩
theorem Ar.lt {xs : List Int32} (F : Ar Z h a ty xs) : a < h.size := by obtain ⟨cl, A, r⟩ := F; exact A.lt
theorem Ar.ext {xs : List Int32} (F : Ar Z h a ty xs) (E : Ext h h') : Ar Z h' a ty xs := F.kp (P := fun _ => True) (OKp.ofExt E) trivial
theorem Ar.other {xs : List Int32} (F : Ar Z h b ty xs) (W : Wr h h' a sl v) (q : b ≠ a) : Ar Z h' b ty xs := F.kp (OKp.ofWr W) q
theorem own_len31 {i : Nat} {j : Int32} (hi : i < 2147483648) (hj : j = Int32.ofNat i) : ¬ j < 0 ∧ j.toNatClampNeg = i := by
  subst hj
  have e : (Int32.ofNat i).toInt = i := Int32.toInt_ofNat_small (by omega)
  refine ⟨?_, by simp only [Int32.toNatClampNeg, e]; omega⟩
  rw [Int32.lt_iff_toInt_lt, e]; have : (0 : Int32).toInt = 0 := rfl; omega
theorem Ar.set {xs : List Int32} {i : Nat} {x : Int32} (F : Ar Z h a ty xs) (W : Wr h h' a i (.int x)) (hi : i < xs.length) (hf : fits ty (.int x) = true) : Ar Z h' a ty (xs.set i x) := by
  obtain ⟨cl, A, g1, g2, g3, g4⟩ := F
  refine ⟨cl.setSlot i (.int x), A.same W, by rw [sz_set, List.length_set, g1], by rw [List.length_set]; exact g2, fun j y hy => ?_, fun y hy => ?_⟩
  · rw [List.getElem?_set] at hy
    by_cases q : i = j
    · subst q; rw [if_pos rfl, if_pos hi] at hy; cases hy; simp [Cell.setSlot, g1, hi]
    · rw [if_neg q] at hy; simp only [Cell.setSlot]; rw [Array.getElem?_setIfInBounds_ne q]; exact g3 j y hy
  · rcases List.mem_or_eq_of_mem_set hy with q | rfl
    · exact g4 y q
    · exact hf
theorem Ar.arv {xs : List Int32} (F : Ar Z h a ty xs) : ∃ kb, Arv Z h a kb ty (Int32.ofNat xs.length) (xs.map Value.int) (.int 0) := by
  obtain ⟨cl, A, g1, g2, g3, g4⟩ := F
  obtain ⟨q1, q2⟩ := own_len31 g2 rfl
  refine ⟨cl.cls, cl, A, rfl, by rw [q2, g1], q1, fun i hi => ?_, fun i hi => ?_⟩
  · rw [g1] at hi
    have e : xs[i]? = some xs[i] := List.getElem?_eq_getElem hi
    rw [g3 i _ e, List.getD_eq_getElem?_getD, List.getElem?_map, e]; rfl
  · rw [g1] at hi
    have e : xs[i]? = some xs[i] := List.getElem?_eq_getElem hi
    rw [List.getD_eq_getElem?_getD, List.getElem?_map, e]
    exact g4 _ (List.getElem_mem hi)
theorem Ar.ofArv {xs : List Int32} {kb : ClassId} (F : Arv Z h a kb ty (Int32.ofNat xs.length) (xs.map Value.int) (.int 0)) (hn : xs.length < 2147483648) : Ar Z h a ty xs := by
  obtain ⟨cl, A, -, g1, -, H, G⟩ := F
  rw [(own_len31 hn rfl).2] at g1
  refine ⟨cl, A, g1, hn, fun i x hx => ?_, fun x hx => ?_⟩
  · have hi : i < xs.length := (List.getElem?_eq_some_iff.mp hx).1
    rw [H i (by omega), List.getD_eq_getElem?_getD, List.getElem?_map, hx]; rfl
  · obtain ⟨i, hi, rfl⟩ := List.getElem_of_mem hx
    have q := G i (by omega)
    rw [List.getD_eq_getElem?_getD, List.getElem?_map, List.getElem?_eq_getElem hi] at q
    exact q
theorem own_ne_exa_ar {kk : Nat} {xs : List Int32} (E : Exa Z h a C) (wi : (Cond.instantiable C kk).before a0 Z = true) (F : Ar Z h b ty xs) : a ≠ b := by obtain ⟨cl, A, -⟩ := F; exact ne_arr E wi A
end Facts
/-- what may be written although String constants are booked -/
def Sf (Z : State) (h : Heap) (bk : Nat) (a : Nat) : Prop := bk ≤ a ∨ (∃ C, Exa Z h a C ∧ C ≠ "java/lang/String" ∧ C ≠ "[B") ∨ ∃ ty xs, Ar Z h a ty xs ∧ ty ≠ .byte
/-- what a walk bears along -/
def OInv (s Z : State) (own : String) (EL : List (String × Nat)) (m : MethodId) (n0 bk : Nat) (vm0 : Vm) (h : Heap) : Prop :=
  (∃ k0, s.Since vm0 k0 ∧ k0 ≤ h.size) ∧ Z.Warmed39 vm0 ∧ vm0.findClass own = some m.cls ∧ CHr Z EL s.vm s.heap vm0 h ∧ (∀ y, Bk Z EL vm0 h y → y < bk) ∧ OKp (fun x => x < n0) s.heap h ∧ Ext Z.heap h ∧ Z.heap.size ≤ n0
theorem own_exttrans {g : Heap} (A : Ext g h) (B : Ext h h') : Ext g h' := ⟨Nat.le_trans A.1 B.1, fun x cl q => B.2 x cl (A.2 x cl q)⟩
theorem OInv.ext (I : OInv s Z own EL m n0 bk vm0 h) (E : Ext h h') : OInv s Z own EL m n0 bk vm0 h' := by
  obtain ⟨⟨k0, i1, i2⟩, i3, i4, i5, i6, i7, i8, i9⟩ := I
  exact ⟨⟨k0, i1, Nat.le_trans i2 E.1⟩, i3, i4, i5.trans (CHr.ext E i5.1), fun y B => i6 y ((i5.1.step fun _ _ _ q => E.2 _ _ q).2 y B), i7.ext E, own_exttrans i8 E, i9⟩
theorem OInv.safe {a : Nat} (I : OInv s Z own EL m n0 bk vm0 h) (S : Sf Z h bk a) : Safe Z EL vm0 h a := by
  rcases S with q | ⟨C, E, q1, q2⟩ | ⟨ty, xs, ⟨cl, A, -⟩, q⟩
  · exact fun B => absurd (I.2.2.2.2.1 a B) (Nat.not_lt.mpr q)
  · exact Safe.exa I.2.1.alike E q1 q2
  · exact Safe.arr I.2.1.alike A q
theorem OInv.wr {a : Nat} {sl : Nat} {v : Value} (I : OInv s Z own EL m n0 bk vm0 h) (W : Wr h h' a sl v) (hn : n0 ≤ a) (S : Sf Z h bk a) : OInv s Z own EL m n0 bk vm0 h' := by
  have hs := I.safe S
  obtain ⟨⟨k0, i1, i2⟩, i3, i4, i5, i6, i7, i8, i9⟩ := I
  refine ⟨⟨k0, i1, by rw [W.size]; exact i2⟩, i3, i4, i5.trans (CHr.wr W hs i5.1), fun y B => i6 y ((i5.1.wrStep W hs).2 y B), i7.wr W (fun x q e => absurd (show x < n0 from q) (by rw [show x = a from e]; exact Nat.not_lt.mpr hn)), ?_, i9⟩
  refine ⟨by rw [W.size]; exact i8.1, fun x cl q => ?_⟩
  have hx := (Array.getElem?_eq_some_iff.mp q).1
  obtain ⟨c', e1, -, -, -, e5, -⟩ := wr_at W (i8.2 x cl q)
  rw [← e5 (fun e => by rw [show x = a from e] at hx; omega)]; exact e1
/-- .. over a law of the library that keeps all but one cell -/
theorem OInv.keep {a : Nat} (I : OInv s Z own EL m n0 bk vm0 h) (W : Keep h h' [a]) (hn : n0 ≤ a) (S : Sf Z h bk a) : OInv s Z own EL m n0 bk vm0 h' := by
  have hs : ∀ x ∈ [a], Safe Z EL vm0 h x := fun x hx => by cases List.mem_singleton.mp hx; exact I.safe S
  obtain ⟨⟨k0, i1, i2⟩, i3, i4, i5, i6, i7, i8, i9⟩ := I
  refine ⟨⟨k0, i1, Nat.le_trans i2 W.1⟩, i3, i4, i5.trans (CHr.keep W hs i5.1), fun y B => i6 y ((i5.1.keepStep W hs).2 y B), i7.trans ⟨W.1, fun x cl q r => W.2.1 x cl r fun hm => ?_⟩, ?_, i9⟩
  · cases List.mem_singleton.mp hm; exact absurd (show a < n0 from q) (Nat.not_lt.mpr hn)
  · refine ⟨Nat.le_trans i8.1 W.1, fun x cl q => W.2.1 x cl (i8.2 x cl q) fun hm => ?_⟩
    have hx := (Array.getElem?_eq_some_iff.mp q).1
    cases List.mem_singleton.mp hm; omega
/-- what a walk knows of its own method -/
def Ctx (p : Program) (meth : Method) (c : Code) (Z : State) (a0 : Array Value) (EL : List (String × Nat)) (cd : ByteArray) (mx : Nat) (ret : Option FieldType) (nm : String) : Prop :=
  p.tables.exec = Jvm.exec ∧ EW Z a0 EL ∧ True ∧ meth.sig.returnType = ret ∧ meth.locks = false ∧ c.code = cd ∧ c.maxLocals = mx ∧ meth.name = nm
/-- from this frame, over the heap h, the run returns, and Q holds of what it returns and leaves -/
def Go (p : Program) (l : Launch) (e : Env) (R : Room) (s : State) (m : MethodId) (args : Array Value) (below : List Frame) (meth : Method) (c : Code) (Z : State) (own : String) (EL : List (String × Nat)) (n0 : Nat) (eb : Heap → Nat) (Q : Option Value → Heap → Prop) (bk : Nat) (h : Heap) (k n : Nat) (pc : Nat) (Ls : Array Slot) (st : List Value) : Prop :=
  ∀ T L vm0, Stand p l e R (s.setVm vm0) m args below meth c T L k n → T.heap = h → Fr n0 L → OInv s Z own EL m n0 bk vm0 h →
    ∃ t v L', Steps p.tables e below (T.setTop (mkF m pc Ls st)) t ∧ t.status = .running ∧ Ended t below (.returned v) ∧ Fr n0 L' ∧ (∃ k' n', k' ≤ R.cells ∧ n' ≤ R.slots ∧ ReturnedEndW s (.returned v) t L' k' n') ∧ CHr Z EL s.vm s.heap t.vm t.heap ∧ (∀ y, Bk Z EL t.vm t.heap y → y < eb t.heap) ∧ OKp (fun x => x < n0) s.heap t.heap ∧ Ext Z.heap t.heap ∧ Q v t.heap
theorem Go.pure {pc pc' : Nat} {Ls Ls' : Array Slot} {st st' : List Value} (hs : ∀ T t, At T m c below → Steps p.tables e below (T.setTop (mkF m pc' Ls' st')) t → Steps p.tables e below (T.setTop (mkF m pc Ls st)) t) (K : Go p l e R s m args below meth c Z own EL n0 eb Q bk h k n pc' Ls' st') : Go p l e R s m args below meth c Z own EL n0 eb Q bk h k n pc Ls st := fun T L vm0 X eh hF I => by
  obtain ⟨t, v, L', h1, r⟩ := K T L vm0 X eh hF I
  exact ⟨t, v, L', hs T t X.here h1, r⟩
theorem Go.more {pc : Nat} {Ls : Array Slot} {st : List Value} (k2 n2 : Nat) (hk : k ≤ k2) (hn : n ≤ n2) (K : Go p l e R s m args below meth c Z own EL n0 eb Q bk h k2 n2 pc Ls st) : Go p l e R s m args below meth c Z own EL n0 eb Q bk h k n pc Ls st := fun T L vm0 X eh hF I => K T L vm0 (X.more hk hn) eh hF I
theorem Go.upbk {pc : Nat} {Ls : Array Slot} {st : List Value} (bk2 : Nat) (hb : bk ≤ bk2 ∨ h.size ≤ bk2) (K : Go p l e R s m args below meth c Z own EL n0 eb Q bk2 h k n pc Ls st) : Go p l e R s m args below meth c Z own EL n0 eb Q bk h k n pc Ls st := fun T L vm0 X eh hF I => K T L vm0 X eh hF (by
  obtain ⟨i1, i3, i4, i5, i6, i7, i8, i9⟩ := I
  refine ⟨i1, i3, i4, i5, fun y B => ?_, i7, i8, i9⟩
  rcases hb with q | q
  · exact Nat.lt_of_lt_of_le (i6 y B) q
  · obtain ⟨cell, g⟩ := B.there
    exact Nat.lt_of_lt_of_le (Array.getElem?_eq_some_iff.mp g).1 q)
theorem Go.rebk {pc : Nat} {Ls : Array Slot} {st : List Value} (bk2 : Nat) (e2 : bk = bk2) (K : Go p l e R s m args below meth c Z own EL n0 eb Q bk2 h k n pc Ls st) : Go p l e R s m args below meth c Z own EL n0 eb Q bk h k n pc Ls st := e2 ▸ K
/-- a contract -/
def Met (l : Launch) (Z : State) (EL : List (String × Nat)) (y : MethodName) (cd : ByteArray) (mx : Nat) (ret : Option FieldType) (ws : List Jvm.Cond) (rm : Room) (as : Array Value) (n0 bk : Nat) (h : Heap) (eb : Heap → Nat) (Q : Option Value → Heap → Prop) : Prop :=
  MetFree l y (head1 (Jvm.Cond.code y cd mx ret :: ws) rm) (fun a U => a = as ∧ Z.Warmed39 U.vm ∧ U.heap = h ∧ Ext Z.heap h ∧ CHv Z EL U.vm h ∧ ∀ y, Bk Z EL U.vm h y → y < bk) (fun _ _ _ _ _ => True) (fun _ U o U' => ∃ v L, o = .returned v ∧ (Fr n0 L ∧ OKp (fun x => x < n0) h U'.heap ∧ Ext Z.heap U'.heap ∧ (∀ y, Bk Z EL U'.vm U'.heap y → y < eb U'.heap) ∧ Q v U'.heap) ∧ CHr Z EL U.vm U.heap U'.vm U'.heap ∧ ReturnedEndW U o U' L rm.cells rm.slots)
theorem Met.intro {y : MethodName} {ws : List Jvm.Cond} {rm : Room} {as : Array Value} {Ls : Array Slot} (hpl : plainFor y = true) (hent : ∀ m, entryFrame m as mx = mkF m 0 Ls []) (hn0 : Z.heap.size ≤ n0) (hEL : EW Z a0 EL)
    (K : Ext Z.heap h → ∀ p e s m below meth c, Ctx p meth c Z a0 EL cd mx ret y.name → Go p l e rm s m as below meth c Z y.cls EL n0 eb Q bk h 0 0 0 Ls []) : Met l Z EL y cd mx ret ws rm as n0 bk h eb Q := by
  refine MetFree.of_bodySF hpl hisR ?_
  intro p e s m args below meth c s₁ Bd hml0 hP hK
  obtain ⟨rfl, hZ, rfl, hE, hH, hB⟩ := hP
  have X0 : Stand p l e rm s m args below meth c s₁ [] 0 0 := Stand.of_body Bd
  have e0 : s₁.heap = s.heap := by rw [Bd.state]; rfl
  have hv : s₁.vm = s.vm := by rw [Bd.state]; rfl
  have hS : s.Since s.vm 0 := by have q := X0.warmed.since 0; rw [hv] at q; exact q
  obtain ⟨t, v, L', h1, h2, h3, h4, ⟨k', n', h5, h6, h7⟩, h8, h9, h10, h11, h12⟩ := K hE p e s m below meth c ⟨Bd.exec, hEL, trivial, Bd.returns, Bd.notSynchronized, Bd.bytes, hml0, (name_of_methodNamed Bd.named Bd.method).1⟩ s₁ [] s.vm X0 e0 (Fr.nil _) ⟨⟨0, hS, Nat.zero_le _⟩, hZ, findClass_of_methodNamed Bd.named, CHr.refl hH, hB, OKp.refl, hE, hn0⟩
  exact ⟨t, _, castTop (hent m) h1, h2, h3, v, L', rfl, ⟨h4, h10, h11, h9, h12⟩, h8, h7.1, h7.2.1, h7.2.2.1, h7.2.2.2.mono h5 h6⟩
theorem Met.back {y : MethodName} {rm : Room} {as : Array Value} {cd' : ByteArray} {mx' : Nat} {ret' : Option FieldType} {b bkc : Nat} {eb' : Heap → Nat} {Q' : Option Value → Heap → Prop} {len W : Nat} (hM : Met l Z EL y cd' mx' ret' [] rm as b bkc h eb' Q') (hZ : Z.Warmed39 vm0) (hX : Ext Z.heap h) (wc : (Cond.code y cd' mx' ret').before a0 Z = true) (wz : (Cond.initialized y.cls).before a0 Z = true) (hf : rm.frames + 1 ≤ R.frames) (hl : W + (mx' + 11) + rm.locals ≤ R.locals) (hEL : EW Z a0 EL) (H : CHv Z EL vm0 h) (hB : ∀ y, Bk Z EL vm0 h y → y < bkc) :
    BackS l R p e below (s.setVm vm0) args y len W (fun A a => a = as ∧ A.U.heap = h ∧ A.cells + rm.cells ≤ R.cells ∧ A.slots + rm.slots ≤ R.slots)
      (fun A _ v B => ∃ L, (Fr b L ∧ OKp (fun x => x < b) h B.U.heap ∧ Ext Z.heap B.U.heap ∧ (∀ y, Bk Z EL B.U.vm B.U.heap y → y < eb' B.U.heap) ∧ Q' v B.U.heap) ∧ B.locs = A.locs ++ L ∧ B.cells = A.cells + rm.cells ∧ B.slots = A.slots + rm.slots ∧ CHr Z EL vm0 h B.U.vm B.U.heap) :=
  BackS.of_freeW (bytes := cd') (maxL := mx') (ret := ret') (E := fun _ first o t L k n => k = rm.cells ∧ n = rm.slots ∧ (∃ v, o = .returned v ∧ Fr b L ∧ OKp (fun x => x < b) h t.heap ∧ Ext Z.heap t.heap ∧ (∀ y, Bk Z EL t.vm t.heap y → y < eb' t.heap) ∧ Q' v t.heap) ∧ CHr Z EL first.vm first.heap t.vm t.heap) hM hf hl
    (fun m meth c A a Y hp => have hU : Z.Warmed39 A.U.vm := wtrans (s := s.setVm vm0) hZ Y.warmed
      ⟨by show (Cond.and _ .tt).before a A.U = true; rw [Cond.before_and, mv hU wc]; rfl, mv hU wc, mv hU wz, hp.2.2.1, hp.2.2.2⟩)
    (fun m meth c A a g mk Y hp => ⟨hp.1, wtrans (s := s.setVm vm0) hZ Y.warmed, hp.2.1, hX, (CHv.at Y hZ hEL H).1, fun y B => by
      rcases (CHv.at Y hZ hEL H).2.2 y B with q | q
      · exact hB y q
      · obtain ⟨cell, g⟩ := Bk.there B
        exact absurd (Array.getElem?_eq_some_iff.mp g).1 (Nat.not_lt.mpr q)⟩) (fun _ _ _ _ _ _ _ _ _ => trivial)
    (fun _ _ _ _ ⟨v, L, g1, g2, g3, g4⟩ => ⟨L, _, _, g4, rfl, rfl, ⟨v, g1, g2⟩, g3⟩)
    (fun m meth c A a g mk v t L k n Y hp _ _ ⟨e1, e2, ⟨v', e3, e4⟩, e5⟩ => by
      cases e3; subst e1 e2
      refine ⟨L, e4, rfl, rfl, rfl, (CHv.at Y hZ hEL H).trans ?_⟩
      rw [← hp.2.1]; exact e5)
/-- behind a call: the walk goes on -/
theorem Go.behind {pc pc' : Nat} {Ls : Array Slot} {st st' : List Value} {T T2 : State} {L Lc : List Loc} {vm1 : Vm} {b k2 n2 : Nat} {h2 : Heap} {eb' : Heap → Nat} (hT : T.heap = h) (hF : Fr n0 L) (I : OInv s Z own EL m n0 bk vm0 h) (hnb : n0 ≤ b) (X2 : Stand p l e R ((s.setVm vm0).setVm vm1) m args below meth c T2 (L ++ Lc) k2 n2) (e2 : T2.heap = h2)
    (hS2 : (s.setVm vm0).Since vm1 h2.size) (hgr : h.size ≤ h2.size) (q1 : Fr b Lc) (q2 : OKp (fun x => x < b) h h2) (q3 : Ext Z.heap h2) (q4 : ∀ y, Bk Z EL vm1 h2 y → y < eb' h2) (q5 : CHr Z EL vm0 h vm1 h2)
    (hst : Steps p.tables e below (T.setTop (mkF m pc Ls st)) (T2.setTop (mkF m pc' Ls st'))) (K : Go p l e R s m args below meth c Z own EL n0 eb Q (eb' h2) h2 k2 n2 pc' Ls st') :
    ∃ t v L', Steps p.tables e below (T.setTop (mkF m pc Ls st)) t ∧ t.status = .running ∧ Ended t below (.returned v) ∧ Fr n0 L' ∧ (∃ k' n', k' ≤ R.cells ∧ n' ≤ R.slots ∧ ReturnedEndW s (.returned v) t L' k' n') ∧ CHr Z EL s.vm s.heap t.vm t.heap ∧ (∀ y, Bk Z EL t.vm t.heap y → y < eb t.heap) ∧ OKp (fun x => x < n0) s.heap t.heap ∧ Ext Z.heap t.heap ∧ Q v t.heap := by
  obtain ⟨⟨k0, i1, i2⟩, i3, i4, i5, i6, i7, i8, i9⟩ := I
  obtain ⟨t, v, L', g1, r⟩ := K T2 (L ++ Lc) vm1 X2 e2 (hF.app fun y hy => Nat.le_trans hnb (q1 y hy)) ⟨⟨_, i1.trans hS2 (Nat.le_trans i2 hgr), Nat.le_refl _⟩, State.Warmed39.trans (t := s.setVm vm0) i3 hS2.1, (hS2.1.alike.findClass _ _).trans i4, i5.trans q5, q4, i7.trans (q2.weak fun x q => Nat.lt_of_lt_of_le q hnb), q3, i9⟩
  exact ⟨t, v, L', hst.trans g1, r⟩
theorem own_bkc {bkc : Nat} (I : OInv s Z own EL m n0 bk vm0 h) (hb : bk ≤ bkc ∨ h.size ≤ bkc) : ∀ y, Bk Z EL vm0 h y → y < bkc := fun y B => by
  rcases hb with q | q
  · exact Nat.lt_of_lt_of_le (I.2.2.2.2.1 y B) q
  · obtain ⟨cell, g⟩ := B.there
    exact Nat.lt_of_lt_of_le (Array.getElem?_eq_some_iff.mp g).1 q
section Calls
variable {pc : Nat} {Ls : Array Slot} {st : List Value} {i : Nat} {y y0 : MethodName} {cd' : ByteArray} {mx' : Nat} {ret' : Option FieldType} {rm : Room} {Q' : Option Value → Heap → Prop} {b bkc : Nat} {eb' : Heap → Nat} {W : Nat}
theorem Ctx.callS (C : Ctx p meth c Z a0 EL cd mx ret nm) (pc' : Nat) (argsL rest : List Value) (hd : decode cd pc = .ok (.invokestatic i, 3)) (hM : Met l Z EL y cd' mx' ret' [] rm argsL.toArray b bkc h eb' Q') (hnb : n0 ≤ b) (hb : bk ≤ bkc ∨ h.size ≤ bkc) (w1 : (Cond.methodLink own i y).before a0 Z = true) (w2 : (Cond.static y).before a0 Z = true) (w3 : (Cond.initialized y.cls).before a0 Z = true) (w4 : (Cond.code y cd' mx' ret').before a0 Z = true)
    (hy : y.cls ≠ "java/lang/invoke/MethodHandle" ∧ y.cls ≠ "java/lang/invoke/VarHandle") (hsz : Ls.size = mx) (hlen : ∀ sig, parseMethodDescriptor y.desc = some sig → argsL.length = sig.parameters.length) (hf : rm.frames + 1 ≤ R.frames) (hW : 2 * 0 + (rest.map fun v => v.category).sum ≤ W) (hl : W + (mx' + 11) + rm.locals ≤ R.locals) (hrc : k + rm.cells ≤ R.cells) (hrs : n + rm.slots ≤ R.slots) (hst : st = argsL.reverse ++ rest)
    (K : ∀ v h2, OKp (fun x => x < b) h h2 → Q' v h2 → Go p l e R s m args below meth c Z own EL n0 eb Q (eb' h2) h2 (k + rm.cells) (n + rm.slots) pc' Ls (v.toList ++ rest)) (hp : pc + 3 = pc' := by rfl) : Go p l e R s m args below meth c Z own EL n0 eb Q bk h k n pc Ls st := by
  subst hp hst
  obtain ⟨hx, hEL, -, hret, hlk, hby, hmx, -⟩ := C
  intro T L vm0 X eh hF I
  obtain ⟨⟨k0, i1, i2⟩, hZ, hown, i5, i6, i7, i8, i9⟩ := id I
  have hZ' : Z.Warmed39 (s.setVm vm0).vm := hZ
  obtain ⟨v, vm₁, ⟨T2, L2, k2, n2⟩, -, X2, hS2, hgr, ⟨Lc, ⟨q1, q2, q3, q4, q5⟩, l2, y2, z2, q6⟩, st2⟩ := callSS X hx hown (mvT hZ' w1) (mvT hZ' w2) (mvT hZ' w3) (mvT hZ' w4) hy (hM.back (W := W) hZ i8 w4 w3 hf hl hEL i5.1 (own_bkc I hb)) (g := mkF m pc Ls (argsL.reverse ++ rest)) rfl (hsz.trans hmx.symm) hlen rfl hW (Jvm.hb hby hd) (fun _ _ => ⟨rfl, eh, hrc, hrs⟩)
  dsimp only [Pt.U, Pt.locs, Pt.cells, Pt.slots] at X2 l2 y2 z2 st2 q1 q2 q3 q4 q5 q6 hS2 hgr
  subst l2 y2 z2
  exact Go.behind eh hF I hnb X2 rfl hS2 (eh ▸ hgr) q1 q2 q3 q4 q6 st2 (K v _ q2 q5)
theorem Ctx.callI (C : Ctx p meth c Z a0 EL cd mx ret nm) (pc' : Nat) {a : Nat} (argsL rest : List Value) (hd : decode cd pc = .ok (.invokespecial i, 3)) (hM : Met l Z EL y cd' mx' none [] rm (.ref a :: argsL).toArray b bkc h eb' Q') (hy1 : y.name = "<init>") (hnb : n0 ≤ b) (hb : bk ≤ bkc ∨ h.size ≤ bkc) (w1 : (Cond.methodLink own i y).before a0 Z = true) (w2 : (Cond.instanceMethod y).before a0 Z = true) (w3 : (Cond.initialized y.cls).before a0 Z = true) (w4 : (Cond.code y cd' mx' none).before a0 Z = true)
    (hy : y.cls ≠ "java/lang/invoke/MethodHandle" ∧ y.cls ≠ "java/lang/invoke/VarHandle") (hsz : Ls.size = mx) (hlen : ∀ sig, parseMethodDescriptor y.desc = some sig → argsL.length = sig.parameters.length) (hf : rm.frames + 1 ≤ R.frames) (hW : 2 * 0 + (rest.map fun v => v.category).sum ≤ W) (hl : W + (mx' + 11) + rm.locals ≤ R.locals) (hrc : k + rm.cells ≤ R.cells) (hrs : n + rm.slots ≤ R.slots) (hst : st = argsL.reverse ++ .ref a :: rest)
    (K : ∀ v h2, OKp (fun x => x < b) h h2 → Q' v h2 → Go p l e R s m args below meth c Z own EL n0 eb Q (eb' h2) h2 (k + rm.cells) (n + rm.slots) pc' Ls (v.toList ++ rest)) (hp : pc + 3 = pc' := by rfl) : Go p l e R s m args below meth c Z own EL n0 eb Q bk h k n pc Ls st := by
  subst hp hst
  obtain ⟨hx, hEL, -, hret, hlk, hby, hmx, -⟩ := C
  intro T L vm0 X eh hF I
  obtain ⟨⟨k0, i1, i2⟩, hZ, hown, i5, i6, i7, i8, i9⟩ := id I
  have hZ' : Z.Warmed39 (s.setVm vm0).vm := hZ
  obtain ⟨v, vm₁, ⟨T2, L2, k2, n2⟩, -, X2, hS2, hgr, ⟨Lc, ⟨q1, q2, q3, q4, q5⟩, l2, y2, z2, q6⟩, st2⟩ := X.specialBackS hx hy1 hown (mvT hZ' w1) (mvT hZ' w2) (mvT hZ' w4) hy (hM.back (W := W) hZ i8 w4 w3 hf hl hEL i5.1 (own_bkc I hb)) (g := mkF m pc Ls (argsL.reverse ++ .ref a :: rest)) rfl (hsz.trans hmx.symm) (Steps.refl _) hlen rfl hW (Jvm.hb hby hd) (fun _ _ => ⟨rfl, eh, hrc, hrs⟩)
  dsimp only [Pt.U, Pt.locs, Pt.cells, Pt.slots] at X2 l2 y2 z2 st2 q1 q2 q3 q4 q5 q6 hS2 hgr
  subst l2 y2 z2
  exact Go.behind eh hF I hnb X2 rfl hS2 (eh ▸ hgr) q1 q2 q3 q4 q6 st2 (K v _ q2 q5)
theorem own_nf {s' : State} {a1 : Array Value} {x y z : MethodName} {K : String} (ws : (Cond.selects K x z).before a1 s' = true) (hc : z.cls = y.cls) : NotFace s' y := fun r0 h0 => by
  obtain ⟨c, r1, m1, q1, q2, q3, q4, mk, q5, q6⟩ := Cond.selects_spec ws
  have hcl := findClass_of_methodNamed h0
  have hcl2 := findClass_of_methodNamed q3
  rw [hc, hcl] at hcl2
  have e : r0.cls = m1.cls := Option.some.inj hcl2
  rw [← e] at q5
  exact ⟨mk, q5, q6⟩
theorem Ctx.callV (C : Ctx p meth c Z a0 EL cd mx ret nm) (pc' : Nat) {a : Nat} {K0 : String} (argsL rest : List Value) (hd : decode cd pc = .ok (.invokevirtual i, 3)) (hM : Met l Z EL y cd' mx' ret' [] rm (.ref a :: argsL).toArray b bkc h eb' Q') (E : Exa Z h a K0) (hnb : n0 ≤ b) (hb : bk ≤ bkc ∨ h.size ≤ bkc) (w1 : (Cond.methodLink own i y0).before a0 Z = true) (w5 : (Cond.declares y0).before a0 Z = true) (w6 : (Cond.selects K0 y0 y).before a0 Z = true) (w2 : (Cond.instanceMethod y).before a0 Z = true) (w3 : (Cond.initialized y.cls).before a0 Z = true) (w4 : (Cond.code y cd' mx' ret').before a0 Z = true) (nf : ∀ {s' : State}, Z.Warmed39 s'.vm → NotFace s' y0)
    (hy : y0.cls ≠ "java/lang/invoke/MethodHandle" ∧ y0.cls ≠ "java/lang/invoke/VarHandle") (hsz : Ls.size = mx) (hlen : ∀ sig, parseMethodDescriptor y0.desc = some sig → argsL.length = sig.parameters.length) (hf : rm.frames + 1 ≤ R.frames) (hW : 2 * 0 + (rest.map fun v => v.category).sum ≤ W) (hl : W + (mx' + 11) + rm.locals ≤ R.locals) (hrc : k + rm.cells ≤ R.cells) (hrs : n + rm.slots ≤ R.slots) (hst : st = argsL.reverse ++ .ref a :: rest)
    (K : ∀ v h2, OKp (fun x => x < b) h h2 → Q' v h2 → Go p l e R s m args below meth c Z own EL n0 eb Q (eb' h2) h2 (k + rm.cells) (n + rm.slots) pc' Ls (v.toList ++ rest)) (hp : pc + 3 = pc' := by rfl) : Go p l e R s m args below meth c Z own EL n0 eb Q bk h k n pc Ls st := by
  subst hp hst
  obtain ⟨hx, hEL, -, hret, hlk, hby, hmx, -⟩ := C
  intro T L vm0 X eh hF I
  obtain ⟨⟨k0, i1, i2⟩, hZ, hown, i5, i6, i7, i8, i9⟩ := id I
  have hZ' : Z.Warmed39 (s.setVm vm0).vm := hZ
  obtain ⟨cq, kq, qa, qb, qc⟩ := isOf hZ' eh E
  obtain ⟨v, vm₁, ⟨T2, L2, k2, n2⟩, -, X2, hS2, hgr, ⟨Lc, ⟨q1, q2, q3, q4, q5⟩, l2, y2, z2, q6⟩, st2⟩ := X.virtualBackS hx hown (mvT hZ' w1) (mvT hZ' w5) (nf hZ') (mvT hZ' w6) (mvT hZ' w2) hy (hM.back (W := W) hZ i8 w4 w3 hf hl hEL i5.1 (own_bkc I hb)) qa qc (g := mkF m pc Ls (argsL.reverse ++ .ref a :: rest)) rfl (hsz.trans hmx.symm) (Steps.refl _) hlen rfl hW (Jvm.hb hby hd) (fun _ _ => ⟨rfl, eh, hrc, hrs⟩)
  dsimp only [Pt.U, Pt.locs, Pt.cells, Pt.slots] at X2 l2 y2 z2 st2 q1 q2 q3 q4 q5 q6 hS2 hgr
  subst l2 y2 z2
  exact Go.behind eh hF I hnb X2 rfl hS2 (eh ▸ hgr) q1 q2 q3 q4 q6 st2 (K v _ q2 q5)
theorem Ctx.callU (C : Ctx p meth c Z a0 EL cd mx ret nm) (pc' : Nat) {a : Nat} {K0 : String} (argsL rest : List Value) (hd : decode cd pc = .ok (.invokespecial i, 3)) (hM : Met l Z EL y cd' mx' ret' [] rm (.ref a :: argsL).toArray b bkc h eb' Q') (E : Ins Z h a K0 true) (hnm : y.name ≠ "<init>") (hnb : n0 ≤ b) (hb : bk ≤ bkc ∨ h.size ≤ bkc) (w1 : (Cond.methodLink own i y).before a0 Z = true) (w5 : (Cond.sameMethod y.cls y.cls y.name y.desc).before a0 Z = true) (w6 : (Cond.superclass own y.cls).before a0 Z = true) (w2 : (Cond.instanceMethod y).before a0 Z = true) (w3 : (Cond.initialized y.cls).before a0 Z = true) (w4 : (Cond.code y cd' mx' ret').before a0 Z = true)
    (hsz : Ls.size = mx) (hlen : ∀ sig, parseMethodDescriptor y.desc = some sig → argsL.length = sig.parameters.length) (hf : rm.frames + 1 ≤ R.frames) (hW : 2 * 0 + (rest.map fun v => v.category).sum ≤ W) (hl : W + (mx' + 11) + rm.locals ≤ R.locals) (hrc : k + rm.cells ≤ R.cells) (hrs : n + rm.slots ≤ R.slots) (hst : st = argsL.reverse ++ .ref a :: rest)
    (K : ∀ v h2, OKp (fun x => x < b) h h2 → Q' v h2 → Go p l e R s m args below meth c Z own EL n0 eb Q (eb' h2) h2 (k + rm.cells) (n + rm.slots) pc' Ls (v.toList ++ rest)) (hp : pc + 3 = pc' := by rfl) : Go p l e R s m args below meth c Z own EL n0 eb Q bk h k n pc Ls st := by
  subst hp hst
  obtain ⟨hx, hEL, -, hret, hlk, hby, hmx, -⟩ := C
  intro T L vm0 X eh hF I
  obtain ⟨⟨k0, i1, i2⟩, hZ, hown, i5, i6, i7, i8, i9⟩ := id I
  have hZ' : Z.Warmed39 (s.setVm vm0).vm := hZ
  obtain ⟨v, vm₁, ⟨T2, L2, k2, n2⟩, -, X2, hS2, hgr, ⟨Lc, ⟨q1, q2, q3, q4, q5⟩, l2, y2, z2, q6⟩, st2⟩ := superBackS X hx hZ' hown w1 w5 w2 w6 hnm (hM.back (W := W) hZ i8 w4 w3 hf hl hEL i5.1 (own_bkc I hb)) eh E (g := mkF m pc Ls (argsL.reverse ++ .ref a :: rest)) rfl (hsz.trans hmx.symm) w4 hlen rfl hW (Jvm.hb hby hd) (fun _ _ => ⟨rfl, eh, hrc, hrs⟩)
  dsimp only [Pt.U, Pt.locs, Pt.cells, Pt.slots] at X2 l2 y2 z2 st2 q1 q2 q3 q4 q5 q6 hS2 hgr
  subst l2 y2 z2
  exact Go.behind eh hF I hnb X2 rfl hS2 (eh ▸ hgr) q1 q2 q3 q4 q6 st2 (K v _ q2 q5)
end Calls
section Steps1
variable {pc : Nat} {Ls : Array Slot} {st : List Value} {i : Nat}
theorem Ctx.ldcI (C : Ctx p meth c Z a0 EL cd mx ret nm) (pc' : Nat) {v : Int32} (hd : decode cd pc = .ok (.ldc i, 2)) (w : (Cond.constant own i v).before a0 Z = true) (K : Go p l e R s m args below meth c Z own EL n0 eb Q bk h k n pc' Ls (.int v :: st)) (hp : pc + 2 = pc' := by rfl) : Go p l e R s m args below meth c Z own EL n0 eb Q bk h k n pc Ls st := by
  subst hp
  intro T L vm0 X eh hF I
  obtain ⟨t, v', L', g1, r⟩ := K T L vm0 X eh hF I
  exact ⟨t, v', L', Jvm.Stand.ldcI X C.1 I.2.2.1 (mvT (show Z.Warmed39 (s.setVm vm0).vm from I.2.1) w) rfl (Jvm.hb C.2.2.2.2.2.1 hd) g1, r⟩
theorem Ctx.ldc2 (C : Ctx p meth c Z a0 EL cd mx ret nm) (pc' : Nat) {v : Int64} (hd : decode cd pc = .ok (.ldc2_w i, 3)) (w : (Cond.constantLong own i v).before a0 Z = true) (K : Go p l e R s m args below meth c Z own EL n0 eb Q bk h k n pc' Ls (.long v :: st)) (hp : pc + 3 = pc' := by rfl) : Go p l e R s m args below meth c Z own EL n0 eb Q bk h k n pc Ls st := by
  subst hp
  intro T L vm0 X eh hF I
  obtain ⟨t, v', L', g1, r⟩ := K T L vm0 X eh hF I
  exact ⟨t, v', L', Jvm.Stand.ldc2J X C.1 I.2.2.1 (mvT (show Z.Warmed39 (s.setVm vm0).vm from I.2.1) w) rfl (Jvm.hb C.2.2.2.2.2.1 hd) g1, r⟩
/-- ldc of a String constant whose text is read -/
theorem Ctx.ldcT (C : Ctx p meth c Z a0 EL cd mx ret nm) (pc' : Nat) {text : String} {vs : List Value} {z : Int32} {nn : Nat} (hd : decode cd pc = .ok (.ldc i, 2)) (w : (Cond.stringLink own i text).before a0 Z = true) (wS : ∀ a ∈ Bundle.stringAtoms, a.before a0 Z = true) (hmem : (own, i) ∈ EL) (ht : (∀ c ∈ text.toList, c.toNat < 256) ∧ text.toList.map (fun c => Value.int (Jvm.Lit.byteI c.toNat.toUInt16)) = vs) (hz : ¬ z < 0) (hl : z.toNatClampNeg = vs.length) (hn : 4 * text.toList.length ≤ nn) (hbig : nn ≤ 536870912) (hc : k + 2 ≤ R.cells) (hs : n + (nn + 4) ≤ R.slots)
    (K : ∀ a t kb h2, Ext h h2 → Exa Z h2 a "java/lang/String" → Fld Z h2 a "java/lang/String" "coder" "B" (.int 0) → Fld Z h2 a "java/lang/String" "value" "[B" (.ref t) → Arv Z h2 t kb .byte z vs (.int 0) → Go p l e R s m args below meth c Z own EL n0 eb Q (h2.size) h2 (k + 2) (n + (nn + 4)) pc' Ls (.ref a :: st)) (hp : pc + 2 = pc' := by rfl) : Go p l e R s m args below meth c Z own EL n0 eb Q bk h k n pc Ls st := by
  subst hp
  intro T L vm0 X eh hF I
  obtain ⟨⟨k0, i1, i2⟩, i3, i4, i5, i6, i7, i8, i9⟩ := I
  obtain ⟨a, T', h2, k1, t, kb, X', e', E, hS, hk, hW, hf, A1, A2, A3, A4, -, -, hC, -, -, st1⟩ := ldcCH X C.1 i3 i4 w wS eh i1 i2 C.2.1 hmem i5.1 ht hz hl (g := mkF m pc Ls st) rfl (Jvm.hb C.2.2.2.2.2.1 hd) hn hbig hc hs
  obtain ⟨t', v', L', g1, r⟩ := K a t kb h2 E A1 A2 A3 A4 T' L T'.vm X' e' hF ⟨⟨k1, hS, hk⟩, hW, hf, i5.trans hC, fun y B => (Array.getElem?_eq_some_iff.mp B.there.choose_spec).1, i7.ext E, own_exttrans i8 E, i9⟩
  exact ⟨t', v', L', st1 _ g1, r⟩
/-- ldc of a String constant that is handed on unread -/
theorem Ctx.ldcO (C : Ctx p meth c Z a0 EL cd mx ret nm) (pc' : Nat) {text : String} {nn : Nat} (hd : decode cd pc = .ok (.ldc i, 2)) (w : (Cond.stringLink own i text).before a0 Z = true) (wS : ∀ a ∈ Bundle.stringAtoms, a.before a0 Z = true) (hn : 4 * text.toList.length ≤ nn) (hbig : nn ≤ 536870912) (hc : k + 2 ≤ R.cells) (hs : n + (nn + 4) ≤ R.slots)
    (K : ∀ a h2, Ext h h2 → Go p l e R s m args below meth c Z own EL n0 eb Q (h2.size) h2 (k + 2) (n + (nn + 4)) pc' Ls (.ref a :: st)) (hp : pc + 2 = pc' := by rfl) : Go p l e R s m args below meth c Z own EL n0 eb Q bk h k n pc Ls st := by
  subst hp
  intro T L vm0 X eh hF I
  obtain ⟨⟨k0, i1, i2⟩, i3, i4, i5, i6, i7, i8, i9⟩ := I
  obtain ⟨a, T', h2, k1, X', e', E, hS, hk, hW, hf, hC, -, st1⟩ := ldcOH X C.1 i3 i4 w wS eh i1 i2 C.2.1 i5.1 (g := mkF m pc Ls st) rfl (Jvm.hb C.2.2.2.2.2.1 hd) hn hbig hc hs
  obtain ⟨t', v', L', g1, r⟩ := K a h2 E T' L T'.vm X' e' hF ⟨⟨k1, hS, hk⟩, hW, hf, i5.trans hC, fun y B => (Array.getElem?_eq_some_iff.mp B.there.choose_spec).1, i7.ext E, own_exttrans i8 E, i9⟩
  exact ⟨t', v', L', st1 _ g1, r⟩
theorem Ctx.gets (C : Ctx p meth c Z a0 EL cd mx ret nm) (pc' : Nat) {O nn d : String} {v : Value} (hd : decode cd pc = .ok (.getstatic i, 3)) (w : (Cond.fieldLink own i O nn d).before a0 Z = true) (S : Sta Z Z.heap O nn d v) (K : Go p l e R s m args below meth c Z own EL n0 eb Q bk h k n pc' Ls (v :: st)) (hp : pc + 3 = pc' := by rfl) : Go p l e R s m args below meth c Z own EL n0 eb Q bk h k n pc Ls st := by
  subst hp
  intro T L vm0 X eh hF I
  obtain ⟨T2, X2, e2, st2⟩ := getS (host := "") X C.1 (show Z.Warmed39 (s.setVm vm0).vm from I.2.1) I.2.2.1 w Via.refl eh (S.ext I.2.2.2.2.2.2.1) (g := mkF m pc Ls st) rfl (Jvm.hb C.2.2.2.2.2.1 hd)
  obtain ⟨t, v', L', g1, r⟩ := K T2 L vm0 X2 e2 hF I
  exact ⟨t, v', L', st2 _ g1, r⟩
theorem Ctx.getf (C : Ctx p meth c Z a0 EL cd mx ret nm) (pc' : Nat) {R0 O nn d : String} {a : Nat} {v : Value} (hd : decode cd pc = .ok (.getfield i, 3)) (w : (Cond.fieldLink own i R0 nn d).before a0 Z = true) (via : Via Z R0 O nn d) (F : Fld Z h a O nn d v) (K : Go p l e R s m args below meth c Z own EL n0 eb Q bk h k n pc' Ls (v :: st)) (hp : pc + 3 = pc' := by rfl) : Go p l e R s m args below meth c Z own EL n0 eb Q bk h k n pc Ls (.ref a :: st) := by
  subst hp
  intro T L vm0 X eh hF I
  obtain ⟨T2, X2, e2, st2⟩ := getF X C.1 (show Z.Warmed39 (s.setVm vm0).vm from I.2.1) (host := "") I.2.2.1 (Or.inl w) via eh F (g := mkF m pc Ls (.ref a :: st)) rfl rfl (Jvm.hb C.2.2.2.2.2.1 hd)
  obtain ⟨t, v', L', g1, r⟩ := K T2 L vm0 X2 e2 hF I
  exact ⟨t, v', L', st2 _ g1, r⟩
theorem Ctx.putf (C : Ctx p meth c Z a0 EL cd mx ret nm) (pc' : Nat) {R0 O nn d C0 : String} {kk : Nat} {ty : FieldType} {a : Nat} {v old : Value} (hd : decode cd pc = .ok (.putfield i, 3)) (w : (Cond.fieldLink own i R0 nn d).before a0 Z = true) (via : Via Z R0 O nn d) (F : Fld Z h a O nn d old) (E : Exa Z h a C0) (Ly : (Cond.lays C0 O nn d).before a0 Z = true ∨ ((Cond.laysFinal C0 O nn d).before a0 Z = true ∧ own = O ∧ nm = "<init>")) (wi : (Cond.instantiable C0 kk).before a0 Z = true) (hty : parseFieldDescriptor d = some ty) (hnr : narrow ty v = v) (hf : fits ty v = true) (hn0 : n0 ≤ a) (S : Sf Z h bk a)
    (K : ∀ h2, Wr h h2 a (Jvm.RoadKit.slotOf Z O nn d) v → Go p l e R s m args below meth c Z own EL n0 eb Q bk h2 k n pc' Ls st) (hp : pc + 3 = pc' := by rfl) : Go p l e R s m args below meth c Z own EL n0 eb Q bk h k n pc Ls (v :: .ref a :: st) := by
  subst hp
  intro T L vm0 X eh hF I
  obtain ⟨T2, h2, X2, e2, W, st2⟩ := putF X C.1 (show Z.Warmed39 (s.setVm vm0).vm from I.2.1) (host := "") I.2.2.1 (Or.inl w) via eh F E (Ly.imp id fun q => ⟨q.1, q.2.1, C.2.2.2.2.2.2.2.trans q.2.2⟩) wi hty hnr hf (g := mkF m pc Ls (v :: .ref a :: st)) rfl rfl (Jvm.hb C.2.2.2.2.2.1 hd)
  obtain ⟨t, v', L', g1, r⟩ := K h2 W T2 _ vm0 X2 e2 (Fr.snoc X2 hF hn0) (I.wr W hn0 S)
  exact ⟨t, v', L', st2 _ g1, r⟩
theorem Ctx.newo (C : Ctx p meth c Z a0 EL cd mx ret nm) (pc' : Nat) {C0 : String} {kk : Nat} (hd : decode cd pc = .ok (.new i, 3)) (w : (Cond.classLink own i C0).before a0 Z = true) (wi : (Cond.instantiable C0 kk).before a0 Z = true) (wz : (Cond.initialized C0).before a0 Z = true) (hc : k + 1 ≤ R.cells) (hl : n + kk ≤ R.slots)
    (K : ∀ a h2, a = h.size → Ext h h2 → Exa Z h2 a C0 → (∀ {O nn d : String} {ty : FieldType}, Laid Z a0 C0 O nn d → parseFieldDescriptor d = some ty → Fld Z h2 a O nn d (defaultValue ty)) → Go p l e R s m args below meth c Z own EL n0 eb Q bk h2 (k + 1) (n + kk) pc' Ls (.ref a :: st)) (hp : pc + 3 = pc' := by rfl) : Go p l e R s m args below meth c Z own EL n0 eb Q bk h k n pc Ls st := by
  subst hp
  intro T L vm0 X eh hF I
  obtain ⟨T2, h2, X2, e2, E, A, D, -, st2⟩ := newO X C.1 (show Z.Warmed39 (s.setVm vm0).vm from I.2.1) I.2.2.1 w wi wz eh (g := mkF m pc Ls st) rfl (Jvm.hb C.2.2.2.2.2.1 hd) hc hl
  obtain ⟨t, v', L', g1, r⟩ := K h.size h2 rfl E A D T2 L vm0 X2 e2 hF (I.ext E)
  exact ⟨t, v', L', st2 _ g1, r⟩
theorem own_newar {cA : ClassId} {ty : FieldType} {z : Int32} {zn : Nat} {a : Nat} (A : Arr Z h a (newA cA ty z) ty) (hz : z = Int32.ofNat zn) (hb : zn < 2147483648) (ht : defaultValue ty = .int 0) (hf : fits ty (.int 0) = true) : Ar Z h a ty (List.replicate zn 0) := by
  obtain ⟨q1, q2⟩ := own_len31 hb hz
  refine ⟨_, A, by rw [sz_new, q2, List.length_replicate], by rw [List.length_replicate]; exact hb, fun j x hx => ?_, fun x hx => by cases List.eq_of_mem_replicate hx; exact hf⟩
  rw [List.getElem?_replicate] at hx
  split at hx
  · cases hx; rename_i hj; simp [newA, q2, hj, ht]
  · cases hx
theorem Ctx.newarr (C : Ctx p meth c Z a0 EL cd mx ret nm) (pc' : Nat) {aty : ArrayType} {z : Int32} {zn cap : Nat} (hd : decode cd pc = .ok (.newarray aty, 2)) (w : (Cond.arrayClass (newarray.typeOf aty)).before a0 Z = true) (hz : z = Int32.ofNat zn) (hcap : zn ≤ cap) (hbig : cap * 8 ≤ 536870912) (ht : defaultValue (newarray.typeOf aty) = .int 0) (hf : fits (newarray.typeOf aty) (.int 0) = true) (hc : k + 1 ≤ R.cells) (hl : n + cap ≤ R.slots)
    (K : ∀ a h2, a = h.size → Ext h h2 → Ar Z h2 a (newarray.typeOf aty) (List.replicate zn 0) → Go p l e R s m args below meth c Z own EL n0 eb Q bk h2 (k + 1) (n + cap) pc' Ls (.ref a :: st)) (hp : pc + 2 = pc' := by rfl) : Go p l e R s m args below meth c Z own EL n0 eb Q bk h k n pc Ls (.int z :: st) := by
  subst hp
  intro T L vm0 X eh hF I
  obtain ⟨q1, q2⟩ := own_len31 (by omega) hz
  obtain ⟨T2, h2, cA, X2, e2, E, A, st2⟩ := newP X C.1 (show Z.Warmed39 (s.setVm vm0).vm from I.2.1) w eh (g := mkF m pc Ls (.int z :: st)) rfl (Jvm.hb C.2.2.2.2.2.1 hd) rfl q1 (cap := cap) (by rw [q2]; exact hcap) hbig hc hl
  obtain ⟨t, v', L', g1, r⟩ := K h.size h2 rfl E (own_newar A hz (by omega) ht hf) T2 L vm0 X2 e2 hF (I.ext E)
  exact ⟨t, v', L', st2 _ g1, r⟩
theorem Ctx.alen (C : Ctx p meth c Z a0 EL cd mx ret nm) (pc' : Nat) {a : Nat} {ty : FieldType} {xs : List Int32} {z : Int32} (hd : decode cd pc = .ok (.arraylength, 1)) (A : Ar Z h a ty xs) (hz : Int32.ofNat xs.length = z) (K : Go p l e R s m args below meth c Z own EL n0 eb Q bk h k n pc' Ls (.int z :: st)) (hp : pc + 1 = pc' := by rfl) : Go p l e R s m args below meth c Z own EL n0 eb Q bk h k n pc Ls (.ref a :: st) := by
  subst hp hz
  intro T L vm0 X eh hF I
  obtain ⟨cl, A, g1, g2, g3, g4⟩ := A
  obtain ⟨t, v', L', f1, r⟩ := K T L vm0 X eh hF I
  exact ⟨t, v', L', X.arraylength C.1 (cell := cl) (by rw [eh]; exact A.1) (State.isArrayOf_alike (show Z.vm.Alike (s.setVm vm0).vm from I.2.1.alike) A.2.1) (g := mkF m pc Ls (.ref a :: st)) rfl rfl (Jvm.hb C.2.2.2.2.2.1 hd) _ (by rw [g1]; exact f1), r⟩
theorem Ctx.iaload (C : Ctx p meth c Z a0 EL cd mx ret nm) (pc' : Nat) {a : Nat} {xs : List Int32} {j x : Int32} (ji : Nat) (hd : decode cd pc = .ok (.iaload, 1)) (A : Ar Z h a .int xs) (hj : j = Int32.ofNat ji) (hx : xs[ji]? = some x) (K : Go p l e R s m args below meth c Z own EL n0 eb Q bk h k n pc' Ls (.int x :: st)) (hp : pc + 1 = pc' := by rfl) : Go p l e R s m args below meth c Z own EL n0 eb Q bk h k n pc Ls (.int j :: .ref a :: st) := by
  subst hp
  intro T L vm0 X eh hF I
  obtain ⟨cl, A, g1, g2, g3, g4⟩ := A
  have hlt : ji < xs.length := (List.getElem?_eq_some_iff.mp hx).1
  obtain ⟨q1, q2⟩ := own_len31 (by omega) hj
  obtain ⟨t, v', L', f1, r⟩ := K T L vm0 X eh hF I
  exact ⟨t, v', L', X.iaload C.1 (cell := cl) (by rw [eh]; exact A.1) (State.isArrayOf_alike (show Z.vm.Alike (s.setVm vm0).vm from I.2.1.alike) A.2.1) A.2.2 (fun o => o.elim q1 fun q => by omega) (by rw [q2]; exact g3 _ _ hx) (g := mkF m pc Ls (.int j :: .ref a :: st)) rfl rfl (Jvm.hb C.2.2.2.2.2.1 hd) _ f1, r⟩
theorem Ctx.caload (C : Ctx p meth c Z a0 EL cd mx ret nm) (pc' : Nat) {a : Nat} {xs : List Int32} {j x : Int32} (ji : Nat) (hd : decode cd pc = .ok (.caload, 1)) (A : Ar Z h a .char xs) (hj : j = Int32.ofNat ji) (hx : xs[ji]? = some x) (K : Go p l e R s m args below meth c Z own EL n0 eb Q bk h k n pc' Ls (.int x :: st)) (hp : pc + 1 = pc' := by rfl) : Go p l e R s m args below meth c Z own EL n0 eb Q bk h k n pc Ls (.int j :: .ref a :: st) := by
  subst hp
  intro T L vm0 X eh hF I
  obtain ⟨cl, A, g1, g2, g3, g4⟩ := A
  have hlt : ji < xs.length := (List.getElem?_eq_some_iff.mp hx).1
  obtain ⟨q1, q2⟩ := own_len31 (by omega) hj
  obtain ⟨t, v', L', f1, r⟩ := K T L vm0 X eh hF I
  exact ⟨t, v', L', X.caload C.1 (cell := cl) (by rw [eh]; exact A.1) (State.isArrayOf_alike (show Z.vm.Alike (s.setVm vm0).vm from I.2.1.alike) A.2.1) A.2.2 (fun o => o.elim q1 fun q => by omega) (by rw [q2]; exact g3 _ _ hx) (g := mkF m pc Ls (.int j :: .ref a :: st)) rfl rfl (Jvm.hb C.2.2.2.2.2.1 hd) _ f1, r⟩
theorem Ctx.baload (C : Ctx p meth c Z a0 EL cd mx ret nm) (pc' : Nat) {a : Nat} {xs : List Int32} {j x : Int32} (ji : Nat) (hd : decode cd pc = .ok (.baload, 1)) (A : Ar Z h a .byte xs) (hj : j = Int32.ofNat ji) (hx : xs[ji]? = some x) (K : Go p l e R s m args below meth c Z own EL n0 eb Q bk h k n pc' Ls (.int x :: st)) (hp : pc + 1 = pc' := by rfl) : Go p l e R s m args below meth c Z own EL n0 eb Q bk h k n pc Ls (.int j :: .ref a :: st) := by
  subst hp
  intro T L vm0 X eh hF I
  obtain ⟨cl, A, g1, g2, g3, g4⟩ := A
  have hlt : ji < xs.length := (List.getElem?_eq_some_iff.mp hx).1
  obtain ⟨q1, q2⟩ := own_len31 (by omega) hj
  obtain ⟨t, v', L', f1, r⟩ := K T L vm0 X eh hF I
  exact ⟨t, v', L', X.baloadBytes C.1 (cell := cl) (by rw [eh]; exact A.1) (State.isArrayOf_alike (show Z.vm.Alike (s.setVm vm0).vm from I.2.1.alike) A.2.1) A.2.2 (fun o => o.elim q1 fun q => by omega) (by rw [q2]; exact g3 _ _ hx) (g := mkF m pc Ls (.int j :: .ref a :: st)) rfl rfl (Jvm.hb C.2.2.2.2.2.1 hd) _ f1, r⟩
theorem Ctx.iastore (C : Ctx p meth c Z a0 EL cd mx ret nm) (pc' : Nat) {a : Nat} {xs : List Int32} {j x : Int32} (ji : Nat) (hd : decode cd pc = .ok (.iastore, 1)) (A : Ar Z h a .int xs) (hj : j = Int32.ofNat ji) (hlt : ji < xs.length) (hf : fits .int (.int x) = true) (hn0 : n0 ≤ a) (S : Sf Z h bk a) (K : ∀ h2, Wr h h2 a ji (.int x) → Ar Z h2 a .int (xs.set ji x) → Go p l e R s m args below meth c Z own EL n0 eb Q bk h2 k n pc' Ls st) (hp : pc + 1 = pc' := by rfl) : Go p l e R s m args below meth c Z own EL n0 eb Q bk h k n pc Ls (.int x :: .int j :: .ref a :: st) := by
  subst hp
  intro T L vm0 X eh hF I
  have A0 := A
  obtain ⟨cl, A, g1, g2, g3, g4⟩ := A
  obtain ⟨q1, q2⟩ := own_len31 (by omega) hj
  obtain ⟨T2, h2, X2, e2, W, st2⟩ := stI X C.1 (show Z.Warmed39 (s.setVm vm0).vm from I.2.1) eh A (fun o => o.elim q1 fun q => by omega) (g := mkF m pc Ls (.int x :: .int j :: .ref a :: st)) rfl rfl (Jvm.hb C.2.2.2.2.2.1 hd)
  rw [q2] at W
  obtain ⟨t, v', L', f1, r⟩ := K h2 W (A0.set W hlt hf) T2 _ vm0 X2 e2 (Fr.snoc X2 hF hn0) (I.wr W hn0 S)
  exact ⟨t, v', L', st2 _ f1, r⟩
theorem Ctx.castore (C : Ctx p meth c Z a0 EL cd mx ret nm) (pc' : Nat) {a : Nat} {xs : List Int32} {j x : Int32} (ji : Nat) (hd : decode cd pc = .ok (.castore, 1)) (A : Ar Z h a .char xs) (hj : j = Int32.ofNat ji) (hlt : ji < xs.length) (hf : fits .char (.int (nar .char x)) = true) (hn0 : n0 ≤ a) (S : Sf Z h bk a) (K : ∀ h2, Wr h h2 a ji (.int (nar .char x)) → Ar Z h2 a .char (xs.set ji (nar .char x)) → Go p l e R s m args below meth c Z own EL n0 eb Q bk h2 k n pc' Ls st) (hp : pc + 1 = pc' := by rfl) : Go p l e R s m args below meth c Z own EL n0 eb Q bk h k n pc Ls (.int x :: .int j :: .ref a :: st) := by
  subst hp
  intro T L vm0 X eh hF I
  have A0 := A
  obtain ⟨cl, A, g1, g2, g3, g4⟩ := A
  obtain ⟨q1, q2⟩ := own_len31 (by omega) hj
  obtain ⟨T2, h2, X2, e2, W, st2⟩ := stC X C.1 (show Z.Warmed39 (s.setVm vm0).vm from I.2.1) eh A (fun o => o.elim q1 fun q => by omega) (g := mkF m pc Ls (.int x :: .int j :: .ref a :: st)) rfl rfl (Jvm.hb C.2.2.2.2.2.1 hd)
  rw [q2] at W
  obtain ⟨t, v', L', f1, r⟩ := K h2 W (A0.set W hlt hf) T2 _ vm0 X2 e2 (Fr.snoc X2 hF hn0) (I.wr W hn0 S)
  exact ⟨t, v', L', st2 _ f1, r⟩
theorem Ctx.bastore (C : Ctx p meth c Z a0 EL cd mx ret nm) (pc' : Nat) {a : Nat} {xs : List Int32} {j x : Int32} (ji : Nat) (hd : decode cd pc = .ok (.bastore, 1)) (A : Ar Z h a .byte xs) (hj : j = Int32.ofNat ji) (hlt : ji < xs.length) (hf : fits .byte (.int (nar .byte x)) = true) (hn0 : n0 ≤ a) (S : Sf Z h bk a) (K : ∀ h2, Wr h h2 a ji (.int (nar .byte x)) → Ar Z h2 a .byte (xs.set ji (nar .byte x)) → Go p l e R s m args below meth c Z own EL n0 eb Q bk h2 k n pc' Ls st) (hp : pc + 1 = pc' := by rfl) : Go p l e R s m args below meth c Z own EL n0 eb Q bk h k n pc Ls (.int x :: .int j :: .ref a :: st) := by
  subst hp
  intro T L vm0 X eh hF I
  have A0 := A
  obtain ⟨cl, A, g1, g2, g3, g4⟩ := A
  obtain ⟨q1, q2⟩ := own_len31 (by omega) hj
  obtain ⟨T2, h2, X2, e2, W, st2⟩ := stB X C.1 (show Z.Warmed39 (s.setVm vm0).vm from I.2.1) eh A (fun o => o.elim q1 fun q => by omega) (g := mkF m pc Ls (.int x :: .int j :: .ref a :: st)) rfl rfl (Jvm.hb C.2.2.2.2.2.1 hd)
  rw [q2] at W
  obtain ⟨t, v', L', f1, r⟩ := K h2 W (A0.set W hlt hf) T2 _ vm0 X2 e2 (Fr.snoc X2 hF hn0) (I.wr W hn0 S)
  exact ⟨t, v', L', st2 _ f1, r⟩

theorem Ctx.cast (C : Ctx p meth c Z a0 EL cd mx ret nm) (pc' : Nat) {K0 : String} {a : Nat} (hd : decode cd pc = .ok (.checkcast i, 3)) (w : (Cond.classLink own i K0).before a0 Z = true) (F : Ins Z h a K0 true) (K : Go p l e R s m args below meth c Z own EL n0 eb Q bk h k n pc' Ls (.ref a :: st)) (hp : pc + 3 = pc' := by rfl) : Go p l e R s m args below meth c Z own EL n0 eb Q bk h k n pc Ls (.ref a :: st) := by
  subst hp
  intro T L vm0 X eh hF I
  obtain ⟨T2, X2, e2, st2⟩ := castY X C.1 (show Z.Warmed39 (s.setVm vm0).vm from I.2.1) I.2.2.1 w eh F (g := mkF m pc Ls (.ref a :: st)) rfl rfl (Jvm.hb C.2.2.2.2.2.1 hd)
  obtain ⟨t, v', L', g1, r⟩ := K T2 L vm0 X2 e2 hF I
  exact ⟨t, v', L', st2 _ g1, r⟩
theorem Ctx.instY (C : Ctx p meth c Z a0 EL cd mx ret nm) (pc' : Nat) {K0 : String} {a : Nat} (hd : decode cd pc = .ok (.instanceof i, 3)) (w : (Cond.classLink own i K0).before a0 Z = true) (F : Ins Z h a K0 true) (K : Go p l e R s m args below meth c Z own EL n0 eb Q bk h k n pc' Ls (.int 1 :: st)) (hp : pc + 3 = pc' := by rfl) : Go p l e R s m args below meth c Z own EL n0 eb Q bk h k n pc Ls (.ref a :: st) := by
  subst hp
  intro T L vm0 X eh hF I
  obtain ⟨T2, X2, e2, st2⟩ := RoadKit.instY X C.1 (show Z.Warmed39 (s.setVm vm0).vm from I.2.1) I.2.2.1 w eh F (g := mkF m pc Ls (.ref a :: st)) rfl rfl (Jvm.hb C.2.2.2.2.2.1 hd)
  obtain ⟨t, v', L', g1, r⟩ := K T2 L vm0 X2 e2 hF I
  exact ⟨t, v', L', st2 _ g1, r⟩
theorem Ctx.instN (C : Ctx p meth c Z a0 EL cd mx ret nm) (pc' : Nat) {K0 C0 : String} {a : Nat} (hd : decode cd pc = .ok (.instanceof i, 3)) (w : (Cond.classLink own i K0).before a0 Z = true) (E : Exa Z h a C0) (F : ∃ c t, Z.vm.findClass C0 = some c ∧ Z.vm.findClass K0 = some t ∧ Z.vm.assignable c t = false) (K : Go p l e R s m args below meth c Z own EL n0 eb Q bk h k n pc' Ls (.int 0 :: st)) (hp : pc + 3 = pc' := by rfl) : Go p l e R s m args below meth c Z own EL n0 eb Q bk h k n pc Ls (.ref a :: st) := by
  subst hp
  intro T L vm0 X eh hF I
  obtain ⟨T2, X2, e2, st2⟩ := instNo X C.1 (show Z.Warmed39 (s.setVm vm0).vm from I.2.1) I.2.2.1 w eh E F (g := mkF m pc Ls (.ref a :: st)) rfl rfl (Jvm.hb C.2.2.2.2.2.1 hd)
  obtain ⟨t, v', L', g1, r⟩ := K T2 L vm0 X2 e2 hF I
  exact ⟨t, v', L', st2 _ g1, r⟩
theorem Ctx.instNull (C : Ctx p meth c Z a0 EL cd mx ret nm) (pc' : Nat) (hd : decode cd pc = .ok (.instanceof i, 3)) (K : Go p l e R s m args below meth c Z own EL n0 eb Q bk h k n pc' Ls (.int 0 :: st)) (hp : pc + 3 = pc' := by rfl) : Go p l e R s m args below meth c Z own EL n0 eb Q bk h k n pc Ls (.null :: st) := by
  subst hp
  intro T L vm0 X eh hF I
  obtain ⟨t, v', L', g1, r⟩ := K T L vm0 X eh hF I
  exact ⟨t, v', L', X.instanceofNull C.1 (g := mkF m pc Ls (.null :: st)) rfl rfl (Jvm.hb C.2.2.2.2.2.1 hd) _ g1, r⟩
theorem Ctx.objInit (C : Ctx p meth c Z a0 EL cd mx ret nm) (pc' : Nat) {a : Nat} {W : Nat} (hd : decode cd pc = .ok (.invokespecial i, 3)) (w1 : (Cond.methodLink own i Lib.objectInit).before a0 Z = true) (w2 : (Cond.instanceMethod Lib.objectInit).before a0 Z = true) (w3 : (Cond.code Lib.objectInit ⟨#[0xb1]⟩ 1 none).before a0 Z = true) (hsz : Ls.size = mx) (hf : 1 ≤ R.frames) (hW : 2 * 0 + (st.map fun v => v.category).sum ≤ W) (hl : W + 12 ≤ R.locals) (K : Go p l e R s m args below meth c Z own EL n0 eb Q bk h k n pc' Ls st) (hp : pc + 3 = pc' := by rfl) : Go p l e R s m args below meth c Z own EL n0 eb Q bk h k n pc Ls (.ref a :: st) := by
  subst hp
  intro T L vm0 X eh hF I
  obtain ⟨T2, X2, e2, st2⟩ := initO X C.1 (show Z.Warmed39 (s.setVm vm0).vm from I.2.1) I.2.2.1 w1 w2 w3 eh (g := mkF m pc Ls (.ref a :: st)) rfl (hsz.trans C.2.2.2.2.2.2.1.symm) rfl (Jvm.hb C.2.2.2.2.2.1 hd) hf hW hl
  obtain ⟨t, v', L', g1, r⟩ := K T2 L vm0 X2 e2 hF I
  exact ⟨t, v', L', st2 _ g1, r⟩
theorem own_eqcopy (xs : List Int32) (si ni : Nat) (h : si + ni ≤ xs.length) {V : Type} (f : Int32 → V) (d : V) : (List.range ni).map (fun j => (xs.map f).getD (si + j) d) = ((xs.drop si).take ni).map f := by
  refine List.ext_getElem? fun j => ?_
  simp only [List.getElem?_map, List.getElem?_take, List.getElem?_drop]
  by_cases q : j < ni
  · rw [List.getElem?_range q, if_pos q]
    have q2 : si + j < xs.length := by omega
    simp [q2]
  · rw [if_neg q, List.getElem?_eq_none (by simp; omega)]; rfl
/-- System.arraycopy between two arrays of one primitive kind -/
theorem own_exav {C : String} {b : Nat} {kb : ClassId} {ty : FieldType} {z z' : Int32} {vs vs' : List Value} {dv : Value} (E : Exa Z h b C) (B : Arv Z h b kb ty z vs dv) (V : Arv Z h2 b kb ty z' vs' dv) : Exa Z h2 b C := by
  obtain ⟨cell, k, e1, e2, e3, e4, e5⟩ := E
  obtain ⟨c1, A1, rfl, -⟩ := B
  obtain ⟨c2, A2, hc, -⟩ := V
  cases A1.1.symm.trans e1
  obtain ⟨hs, k', hk, comp, hkind⟩ := A2.2.1
  refine ⟨c2, k, A2.1, by rw [hc]; exact e2, by rw [hc]; exact e3, ?_, fun q => ?_⟩
  · cases hq : c2.vm <;> first | rfl | exact absurd hq (hs _)
  · rw [hc] at hk
    cases e3.symm.trans hk
    rw [hkind] at q; cases q
theorem Ctx.acopy (C : Ctx p meth c Z a0 EL cd mx ret nm) (pc' : Nat) {a b : Nat} {ty : FieldType} {xs ys : List Int32} {sp dp nn : Int32} {si di ni W : Nat} (hd : decode cd pc = .ok (.invokestatic i, 3)) (w1 : (Cond.methodLink own i Jvm.Stand.acN).before a0 Z = true) (w2 : (Cond.native Jvm.Stand.acN).before a0 Z = true) (w3 : (Cond.static Jvm.Stand.acN).before a0 Z = true) (w4 : (Cond.initialized "java/lang/System").before a0 Z = true) (A : Ar Z h a ty xs) (B : Ar Z h b ty ys) (hty : refKind ty = false)
    (e1 : sp = Int32.ofNat si) (e2 : dp = Int32.ofNat di) (e3 : nn = Int32.ofNat ni) (h4 : si + ni ≤ xs.length) (h5 : di + ni ≤ ys.length) (hn0 : n0 ≤ b) (S : Sf Z h bk b) (hsz : Ls.size = mx) (hf : 1 ≤ R.frames) (hW : 2 * 0 + (st.map fun v => v.category).sum ≤ W) (hlo : W + (nativeFrameWords "java/lang/System" "arraycopy" 5 + 11) ≤ R.locals)
    (K : ∀ h2, OKp (fun x => x ≠ b) h h2 → Ar Z h2 b ty (ys.take di ++ (xs.drop si).take ni ++ ys.drop (di + ni)) → (∀ {C : String}, Exa Z h b C → Exa Z h2 b C) → Go p l e R s m args below meth c Z own EL n0 eb Q bk h2 k n pc' Ls st) (hp : pc + 3 = pc' := by rfl) : Go p l e R s m args below meth c Z own EL n0 eb Q bk h k n pc Ls (.int nn :: .int dp :: .ref b :: .int sp :: .ref a :: st) := by
  subst hp
  intro T L vm0 X eh hF I
  obtain ⟨ka, A'⟩ := A.arv
  obtain ⟨kb, B'⟩ := B.arv
  have lx : xs.length < 2147483648 := by obtain ⟨_, _, _, g, _⟩ := A; exact g
  have ly : ys.length < 2147483648 := by obtain ⟨_, _, _, g, _⟩ := B; exact g
  obtain ⟨s1, s2⟩ := own_len31 (show si < 2147483648 by omega) e1
  obtain ⟨d1, d2⟩ := own_len31 (show di < 2147483648 by omega) e2
  obtain ⟨m1, m2⟩ := own_len31 (show ni < 2147483648 by omega) e3
  obtain ⟨T2, h2, L2, X2, e2', F2, K2, V2, st2⟩ := cpA X C.1 (show Z.Warmed39 (s.setVm vm0).vm from I.2.1) I.2.2.1 w1 w2 w3 w4 eh A' B' (Or.inl ⟨rfl, hty⟩) s1 d1 m1 (by rw [s2, m2, (own_len31 lx rfl).2]; exact h4) (by rw [d2, m2, (own_len31 ly rfl).2]; exact h5) rfl (by rw [d2, m2, List.length_map]; exact h5) hF hn0 (g := mkF m pc Ls (.int nn :: .int dp :: .ref b :: .int sp :: .ref a :: st)) rfl (hsz.trans C.2.2.2.2.2.2.1.symm) rfl (Jvm.hb C.2.2.2.2.2.1 hd) hf hW hlo
  have eq : (ys.map Value.int).take dp.toNatClampNeg ++ (List.range nn.toNatClampNeg).map (fun j => (xs.map Value.int).getD (sp.toNatClampNeg + j) (.int 0)) ++ (ys.map Value.int).drop (dp.toNatClampNeg + nn.toNatClampNeg) = (ys.take di ++ (xs.drop si).take ni ++ ys.drop (di + ni)).map Value.int := by
    rw [d2, m2, s2, own_eqcopy xs si ni h4 Value.int (.int 0)]
    simp only [List.map_append, List.map_take, List.map_drop]
  rw [eq] at V2
  have hlen : (ys.take di ++ (xs.drop si).take ni ++ ys.drop (di + ni)).length = ys.length := by simp only [List.length_append, List.length_take, List.length_drop]; omega
  obtain ⟨t, v', L', g1, r⟩ := K h2 ⟨K2.1, fun x cl q r => K2.2.1 x cl r fun hm => q (List.mem_singleton.mp hm)⟩ (Ar.ofArv (by rw [hlen]; exact V2) (by rw [hlen]; exact ly)) (fun E => own_exav E B' V2) T2 _ vm0 X2 e2' F2 (I.keep K2 hn0 S)
  exact ⟨t, v', L', st2 _ g1, r⟩
theorem own_leave {T : State} {L : List Loc} {fs : List Frame} {v : Option Value} (C : Ctx p meth c Z a0 EL cd mx ret nm) (X : Stand p l e R (s.setVm vm0) m args below meth c T L k n) (eh : T.heap = h) (hF : Fr n0 L) (I : OInv s Z own EL m n0 bk vm0 h) (hk : k ≤ R.cells) (hn : n ≤ R.slots) (hE : bk ≤ eb h ∨ h.size ≤ eb h) (hw : ReturnedEndW s (.returned v) (T.setFrames fs) L k n) (K : Q v h) :
    Fr n0 L ∧ (∃ k' n', k' ≤ R.cells ∧ n' ≤ R.slots ∧ ReturnedEndW s (.returned v) (T.setFrames fs) L k' n') ∧ CHr Z EL s.vm s.heap (T.setFrames fs).vm (T.setFrames fs).heap ∧ (∀ y, Bk Z EL (T.setFrames fs).vm (T.setFrames fs).heap y → y < eb (T.setFrames fs).heap) ∧ OKp (fun x => x < n0) s.heap (T.setFrames fs).heap ∧ Ext Z.heap (T.setFrames fs).heap ∧ Q v (T.setFrames fs).heap := by
  have e1 : (T.setFrames fs).heap = h := eh
  have e2 : (T.setFrames fs).vm = T.vm := rfl
  rw [e1, e2]
  obtain ⟨i1, i3, i4, i5, i6, i7, i8, i9⟩ := id I
  have A := CHv.at X i3 C.2.1 i5.1
  refine ⟨hF, ⟨k, n, hk, hn, hw⟩, i5.trans A, fun y B => ?_, i7, i8, K⟩
  rcases A.2.2 y B with q | q
  · exact own_bkc I hE y q
  · obtain ⟨cell, g⟩ := B.there
    exact absurd (Array.getElem?_eq_some_iff.mp g).1 (Nat.not_lt.mpr q)
theorem Ctx.retN (C : Ctx p meth c Z a0 EL cd mx ret nm) {z : Int32} {t : FieldType} (hret : ret = some t) (ht : t = .boolean ∨ t = .byte ∨ t = .char ∨ t = .short) (hd : decode cd pc = .ok (.ireturn, 1)) (hk : k ≤ R.cells) (hn : n ≤ R.slots) (hE : bk ≤ eb h ∨ h.size ≤ eb h) (K : Q (some (.int (nar t z))) h) : Go p l e R s m args below meth c Z own EL n0 eb Q bk h k n pc Ls (.int z :: st) := by
  intro T L vm0 X eh hF I
  obtain ⟨k0, i1, i2⟩ := I.1
  obtain ⟨fs, hr, hrun, hended, hw⟩ := X.leaveW i1 (eh ▸ i2) (v := some (.int (nar t z))) (fun g => by rw [C.2.2.2.1, hret] at g; cases g) C.2.2.2.2.1
  exact ⟨_, _, L, RoadKit.retN X C.1 (C.2.2.2.1.trans hret) ht (Jvm.hb C.2.2.2.2.2.1 hd) hr, hrun, hended, own_leave C X eh hF I hk hn hE hw K⟩
theorem Ctx.retI (C : Ctx p meth c Z a0 EL cd mx ret nm) {z : Int32} (hret : ret = some .int) (hd : decode cd pc = .ok (.ireturn, 1)) (hk : k ≤ R.cells) (hn : n ≤ R.slots) (hE : bk ≤ eb h ∨ h.size ≤ eb h) (K : Q (some (.int z)) h) : Go p l e R s m args below meth c Z own EL n0 eb Q bk h k n pc Ls (.int z :: st) := by
  intro T L vm0 X eh hF I
  obtain ⟨k0, i1, i2⟩ := I.1
  obtain ⟨fs, hr, hrun, hended, hw⟩ := X.leaveW i1 (eh ▸ i2) (v := some (.int z)) (fun g => by rw [C.2.2.2.1, hret] at g; cases g) C.2.2.2.2.1
  exact ⟨_, _, L, retOut X C.1 (C.2.2.2.1.trans hret) rfl (Or.inl ⟨rfl, Or.inl rfl, _, rfl⟩) (Jvm.hb C.2.2.2.2.2.1 hd) hr, hrun, hended, own_leave C X eh hF I hk hn hE hw K⟩
theorem Ctx.retA (C : Ctx p meth c Z a0 EL cd mx ret nm) {w : Value} {t : FieldType} (hret : ret = some t) (ht : t.isReference = true) (hd : decode cd pc = .ok (.areturn, 1)) (hv : w.isRef = true) (hk : k ≤ R.cells) (hn : n ≤ R.slots) (hE : bk ≤ eb h ∨ h.size ≤ eb h) (K : Q (some w) h) : Go p l e R s m args below meth c Z own EL n0 eb Q bk h k n pc Ls (w :: st) := by
  intro T L vm0 X eh hF I
  obtain ⟨k0, i1, i2⟩ := I.1
  obtain ⟨fs, hr, hrun, hended, hw⟩ := X.leaveW i1 (eh ▸ i2) (v := some w) (fun g => by rw [C.2.2.2.1, hret] at g; cases g) C.2.2.2.2.1
  have hnr : narrow t w = w := by rcases ref_cases hv with rfl | ⟨a, rfl⟩ <;> cases t <;> rfl
  exact ⟨_, _, L, retOut X C.1 (C.2.2.2.1.trans hret) hnr (Or.inr (Or.inr (Or.inr (Or.inr ⟨rfl, ht, hv⟩)))) (Jvm.hb C.2.2.2.2.2.1 hd) hr, hrun, hended, own_leave C X eh hF I hk hn hE hw K⟩
theorem Ctx.retV (C : Ctx p meth c Z a0 EL cd mx ret nm) (hret : ret = none) (hd : decode cd pc = .ok (.return_, 1)) (hk : k ≤ R.cells) (hn : n ≤ R.slots) (hE : bk ≤ eb h ∨ h.size ≤ eb h) (K : Q none h) : Go p l e R s m args below meth c Z own EL n0 eb Q bk h k n pc Ls [] := by
  intro T L vm0 X eh hF I
  obtain ⟨k0, i1, i2⟩ := I.1
  obtain ⟨fs, hr, hrun, hended, hw⟩ := X.leaveW i1 (eh ▸ i2) (v := none) (fun _ => rfl) C.2.2.2.2.1
  exact ⟨_, _, L, X.returnOut C.1 (C.2.2.2.1.trans hret) (Jvm.hb C.2.2.2.2.2.1 hd) hr, hrun, hended, own_leave C X eh hF I hk hn hE hw K⟩
end Steps1
theorem Ctx.iloadN (C : Ctx p meth c Z a0 EL cd mx ret nm) {pc : Nat} {Ls : Array Slot} {st : List Value} (pc' : Nat) {j : Fin 4} {v : Int32} (hd : decode cd pc = .ok (.iload_n j, 1)) (hl : Ls[j.val]? = some (.val (.int v))) (K : Go p l e R s m args below meth c Z own EL n0 eb Q bk h k n pc' Ls (.int v :: st)) (hp : pc + 1 = pc' := by rfl) : Go p l e R s m args below meth c Z own EL n0 eb Q bk h k n pc Ls (st) := by
  subst hp
  exact Go.pure (fun T t h hr => XS.iloadN h C.1 rfl (Jvm.hb C.2.2.2.2.2.1 hd) hl hr) K
theorem Ctx.iload (C : Ctx p meth c Z a0 EL cd mx ret nm) {pc : Nat} {Ls : Array Slot} {st : List Value} (pc' : Nat) {j : Nat} {v : Int32} (hd : decode cd pc = .ok (.iload j, 2)) (hl : Ls[j]? = some (.val (.int v))) (K : Go p l e R s m args below meth c Z own EL n0 eb Q bk h k n pc' Ls (.int v :: st)) (hp : pc + 2 = pc' := by rfl) : Go p l e R s m args below meth c Z own EL n0 eb Q bk h k n pc Ls (st) := by
  subst hp
  exact Go.pure (fun T t h hr => XS.iload h C.1 rfl (Jvm.hb C.2.2.2.2.2.1 hd) hl hr) K
theorem Ctx.lloadN (C : Ctx p meth c Z a0 EL cd mx ret nm) {pc : Nat} {Ls : Array Slot} {st : List Value} (pc' : Nat) {j : Fin 4} {v : Int64} (hd : decode cd pc = .ok (.lload_n j, 1)) (hl : Ls[j.val]? = some (.val (.long v))) (K : Go p l e R s m args below meth c Z own EL n0 eb Q bk h k n pc' Ls (.long v :: st)) (hp : pc + 1 = pc' := by rfl) : Go p l e R s m args below meth c Z own EL n0 eb Q bk h k n pc Ls (st) := by
  subst hp
  exact Go.pure (fun T t h hr => XT.lloadN h C.1 rfl (Jvm.hb C.2.2.2.2.2.1 hd) hl hr) K
theorem Ctx.lload (C : Ctx p meth c Z a0 EL cd mx ret nm) {pc : Nat} {Ls : Array Slot} {st : List Value} (pc' : Nat) {j : Nat} {v : Int64} (hd : decode cd pc = .ok (.lload j, 2)) (hl : Ls[j]? = some (.val (.long v))) (K : Go p l e R s m args below meth c Z own EL n0 eb Q bk h k n pc' Ls (.long v :: st)) (hp : pc + 2 = pc' := by rfl) : Go p l e R s m args below meth c Z own EL n0 eb Q bk h k n pc Ls (st) := by
  subst hp
  exact Go.pure (fun T t h hr => XT.lload h C.1 rfl (Jvm.hb C.2.2.2.2.2.1 hd) hl hr) K
theorem Ctx.aloadN (C : Ctx p meth c Z a0 EL cd mx ret nm) {pc : Nat} {Ls : Array Slot} {st : List Value} (pc' : Nat) {j : Fin 4} {v : Value} (hd : decode cd pc = .ok (.aload_n j, 1)) (hl : Ls[j.val]? = some (.val v)) (hv : v.isRef = true) (K : Go p l e R s m args below meth c Z own EL n0 eb Q bk h k n pc' Ls (v :: st)) (hp : pc + 1 = pc' := by rfl) : Go p l e R s m args below meth c Z own EL n0 eb Q bk h k n pc Ls (st) := by
  subst hp
  exact Go.pure (fun T t h hr => XS.aloadN h C.1 rfl (Jvm.hb C.2.2.2.2.2.1 hd) hl hv hr) K
theorem Ctx.aload (C : Ctx p meth c Z a0 EL cd mx ret nm) {pc : Nat} {Ls : Array Slot} {st : List Value} (pc' : Nat) {j : Nat} {v : Value} (hd : decode cd pc = .ok (.aload j, 2)) (hl : Ls[j]? = some (.val v)) (hv : v.isRef = true) (K : Go p l e R s m args below meth c Z own EL n0 eb Q bk h k n pc' Ls (v :: st)) (hp : pc + 2 = pc' := by rfl) : Go p l e R s m args below meth c Z own EL n0 eb Q bk h k n pc Ls (st) := by
  subst hp
  exact Go.pure (fun T t h hr => XS.aload h C.1 rfl (Jvm.hb C.2.2.2.2.2.1 hd) hl hv hr) K
theorem Ctx.istoreN (C : Ctx p meth c Z a0 EL cd mx ret nm) {pc : Nat} {Ls : Array Slot} {st : List Value} (pc' : Nat) {j : Fin 4} {v : Int32} {L' : Array Slot} (hd : decode cd pc = .ok (.istore_n j, 1)) (hl : storeLocals Ls j.val (.int v) = some L') (K : Go p l e R s m args below meth c Z own EL n0 eb Q bk h k n pc' L' (st)) (hp : pc + 1 = pc' := by rfl) : Go p l e R s m args below meth c Z own EL n0 eb Q bk h k n pc Ls (.int v :: st) := by
  subst hp
  exact Go.pure (fun T t h hr => XS.istoreN h C.1 rfl (Jvm.hb C.2.2.2.2.2.1 hd) rfl hl hr) K
theorem Ctx.istore (C : Ctx p meth c Z a0 EL cd mx ret nm) {pc : Nat} {Ls : Array Slot} {st : List Value} (pc' : Nat) {j : Nat} {v : Int32} {L' : Array Slot} (hd : decode cd pc = .ok (.istore j, 2)) (hl : storeLocals Ls j (.int v) = some L') (K : Go p l e R s m args below meth c Z own EL n0 eb Q bk h k n pc' L' (st)) (hp : pc + 2 = pc' := by rfl) : Go p l e R s m args below meth c Z own EL n0 eb Q bk h k n pc Ls (.int v :: st) := by
  subst hp
  exact Go.pure (fun T t h hr => XS.istore h C.1 rfl (Jvm.hb C.2.2.2.2.2.1 hd) rfl hl hr) K
theorem Ctx.lstoreN (C : Ctx p meth c Z a0 EL cd mx ret nm) {pc : Nat} {Ls : Array Slot} {st : List Value} (pc' : Nat) {j : Fin 4} {v : Int64} {L' : Array Slot} (hd : decode cd pc = .ok (.lstore_n j, 1)) (hl : storeLocals Ls j.val (.long v) = some L') (K : Go p l e R s m args below meth c Z own EL n0 eb Q bk h k n pc' L' (st)) (hp : pc + 1 = pc' := by rfl) : Go p l e R s m args below meth c Z own EL n0 eb Q bk h k n pc Ls (.long v :: st) := by
  subst hp
  exact Go.pure (fun T t h hr => XT.lstoreN h C.1 rfl (Jvm.hb C.2.2.2.2.2.1 hd) rfl hl hr) K
theorem Ctx.lstore (C : Ctx p meth c Z a0 EL cd mx ret nm) {pc : Nat} {Ls : Array Slot} {st : List Value} (pc' : Nat) {j : Nat} {v : Int64} {L' : Array Slot} (hd : decode cd pc = .ok (.lstore j, 2)) (hl : storeLocals Ls j (.long v) = some L') (K : Go p l e R s m args below meth c Z own EL n0 eb Q bk h k n pc' L' (st)) (hp : pc + 2 = pc' := by rfl) : Go p l e R s m args below meth c Z own EL n0 eb Q bk h k n pc Ls (.long v :: st) := by
  subst hp
  exact Go.pure (fun T t h hr => XT.lstore h C.1 rfl (Jvm.hb C.2.2.2.2.2.1 hd) rfl hl hr) K
theorem Ctx.astoreN (C : Ctx p meth c Z a0 EL cd mx ret nm) {pc : Nat} {Ls : Array Slot} {st : List Value} (pc' : Nat) {j : Fin 4} {v : Value} {L' : Array Slot} (hd : decode cd pc = .ok (.astore_n j, 1)) (hl : storeLocals Ls j.val v = some L') (hv : v.isRef = true) (K : Go p l e R s m args below meth c Z own EL n0 eb Q bk h k n pc' L' (st)) (hp : pc + 1 = pc' := by rfl) : Go p l e R s m args below meth c Z own EL n0 eb Q bk h k n pc Ls (v :: st) := by
  subst hp
  exact Go.pure (fun T t h hr => XS.astoreN h C.1 rfl (Jvm.hb C.2.2.2.2.2.1 hd) rfl hv hl hr) K
theorem Ctx.astore (C : Ctx p meth c Z a0 EL cd mx ret nm) {pc : Nat} {Ls : Array Slot} {st : List Value} (pc' : Nat) {j : Nat} {v : Value} {L' : Array Slot} (hd : decode cd pc = .ok (.astore j, 2)) (hl : storeLocals Ls j v = some L') (hv : v.isRef = true) (K : Go p l e R s m args below meth c Z own EL n0 eb Q bk h k n pc' L' (st)) (hp : pc + 2 = pc' := by rfl) : Go p l e R s m args below meth c Z own EL n0 eb Q bk h k n pc Ls (v :: st) := by
  subst hp
  exact Go.pure (fun T t h hr => XS.astore h C.1 rfl (Jvm.hb C.2.2.2.2.2.1 hd) rfl hv hl hr) K
theorem Ctx.iconst (C : Ctx p meth c Z a0 EL cd mx ret nm) {pc : Nat} {Ls : Array Slot} {st : List Value} (pc' : Nat) {i : Int} (v : Int32) (hd : decode cd pc = .ok (.iconst i, 1)) (hv : Int32.ofInt i = v) (K : Go p l e R s m args below meth c Z own EL n0 eb Q bk h k n pc' Ls (.int v :: st)) (hp : pc + 1 = pc' := by rfl) : Go p l e R s m args below meth c Z own EL n0 eb Q bk h k n pc Ls (st) := by
  subst hp
  exact Go.pure (fun T t h hr => XT.iconstV h C.1 rfl v (Jvm.hb C.2.2.2.2.2.1 hd) hv hr) K
theorem Ctx.bipush (C : Ctx p meth c Z a0 EL cd mx ret nm) {pc : Nat} {Ls : Array Slot} {st : List Value} (pc' : Nat) {i : Int} (v : Int32) (hd : decode cd pc = .ok (.bipush i, 2)) (hv : (Int8.ofInt i).toInt32 = v) (K : Go p l e R s m args below meth c Z own EL n0 eb Q bk h k n pc' Ls (.int v :: st)) (hp : pc + 2 = pc' := by rfl) : Go p l e R s m args below meth c Z own EL n0 eb Q bk h k n pc Ls (st) := by
  subst hp
  exact Go.pure (fun T t h hr => XT.bipushV h C.1 rfl v (Jvm.hb C.2.2.2.2.2.1 hd) hv hr) K
theorem Ctx.sipush (C : Ctx p meth c Z a0 EL cd mx ret nm) {pc : Nat} {Ls : Array Slot} {st : List Value} (pc' : Nat) {i : Int} (v : Int32) (hd : decode cd pc = .ok (.sipush i, 3)) (hv : (Int16.ofInt i).toInt32 = v) (K : Go p l e R s m args below meth c Z own EL n0 eb Q bk h k n pc' Ls (.int v :: st)) (hp : pc + 3 = pc' := by rfl) : Go p l e R s m args below meth c Z own EL n0 eb Q bk h k n pc Ls (st) := by
  subst hp
  exact Go.pure (fun T t h hr => XT.sipushV h C.1 rfl v (Jvm.hb C.2.2.2.2.2.1 hd) hv hr) K
theorem Ctx.lconst (C : Ctx p meth c Z a0 EL cd mx ret nm) {pc : Nat} {Ls : Array Slot} {st : List Value} (pc' : Nat) {i : Fin 2} (v : Int64) (hd : decode cd pc = .ok (.lconst i, 1)) (hv : Int64.ofNat i = v) (K : Go p l e R s m args below meth c Z own EL n0 eb Q bk h k n pc' Ls (.long v :: st)) (hp : pc + 1 = pc' := by rfl) : Go p l e R s m args below meth c Z own EL n0 eb Q bk h k n pc Ls (st) := by
  subst hp
  exact Go.pure (fun T t h hr => XT.lconstV h C.1 rfl v (Jvm.hb C.2.2.2.2.2.1 hd) hv hr) K
theorem Ctx.aconstNull (C : Ctx p meth c Z a0 EL cd mx ret nm) {pc : Nat} {Ls : Array Slot} {st : List Value} (pc' : Nat)  (hd : decode cd pc = .ok (.aconst_null, 1))  (K : Go p l e R s m args below meth c Z own EL n0 eb Q bk h k n pc' Ls (.null :: st)) (hp : pc + 1 = pc' := by rfl) : Go p l e R s m args below meth c Z own EL n0 eb Q bk h k n pc Ls (st) := by
  subst hp
  exact Go.pure (fun T t h hr => XS.aconstNull h C.1 rfl (Jvm.hb C.2.2.2.2.2.1 hd)  hr) K
theorem Ctx.iadd (C : Ctx p meth c Z a0 EL cd mx ret nm) {pc : Nat} {Ls : Array Slot} {st : List Value} (pc' : Nat) {x y : Int32} (hd : decode cd pc = .ok (.iadd, 1))  (K : Go p l e R s m args below meth c Z own EL n0 eb Q bk h k n pc' Ls (.int (x + y) :: st)) (hp : pc + 1 = pc' := by rfl) : Go p l e R s m args below meth c Z own EL n0 eb Q bk h k n pc Ls (.int y :: .int x :: st) := by
  subst hp
  exact Go.pure (fun T t h hr => XS.iadd h C.1 rfl (Jvm.hb C.2.2.2.2.2.1 hd) rfl hr) K
theorem Ctx.isub (C : Ctx p meth c Z a0 EL cd mx ret nm) {pc : Nat} {Ls : Array Slot} {st : List Value} (pc' : Nat) {x y : Int32} (hd : decode cd pc = .ok (.isub, 1))  (K : Go p l e R s m args below meth c Z own EL n0 eb Q bk h k n pc' Ls (.int (x - y) :: st)) (hp : pc + 1 = pc' := by rfl) : Go p l e R s m args below meth c Z own EL n0 eb Q bk h k n pc Ls (.int y :: .int x :: st) := by
  subst hp
  exact Go.pure (fun T t h hr => XS.isub h C.1 rfl (Jvm.hb C.2.2.2.2.2.1 hd) rfl hr) K
theorem Ctx.imul (C : Ctx p meth c Z a0 EL cd mx ret nm) {pc : Nat} {Ls : Array Slot} {st : List Value} (pc' : Nat) {x y : Int32} (hd : decode cd pc = .ok (.imul, 1))  (K : Go p l e R s m args below meth c Z own EL n0 eb Q bk h k n pc' Ls (.int (x * y) :: st)) (hp : pc + 1 = pc' := by rfl) : Go p l e R s m args below meth c Z own EL n0 eb Q bk h k n pc Ls (.int y :: .int x :: st) := by
  subst hp
  exact Go.pure (fun T t h hr => XS.imul h C.1 rfl (Jvm.hb C.2.2.2.2.2.1 hd) rfl hr) K
theorem Ctx.iand (C : Ctx p meth c Z a0 EL cd mx ret nm) {pc : Nat} {Ls : Array Slot} {st : List Value} (pc' : Nat) {x y : Int32} (hd : decode cd pc = .ok (.iand, 1))  (K : Go p l e R s m args below meth c Z own EL n0 eb Q bk h k n pc' Ls (.int (x &&& y) :: st)) (hp : pc + 1 = pc' := by rfl) : Go p l e R s m args below meth c Z own EL n0 eb Q bk h k n pc Ls (.int y :: .int x :: st) := by
  subst hp
  exact Go.pure (fun T t h hr => XS.iand h C.1 rfl (Jvm.hb C.2.2.2.2.2.1 hd) rfl hr) K
theorem Ctx.ior (C : Ctx p meth c Z a0 EL cd mx ret nm) {pc : Nat} {Ls : Array Slot} {st : List Value} (pc' : Nat) {x y : Int32} (hd : decode cd pc = .ok (.ior, 1))  (K : Go p l e R s m args below meth c Z own EL n0 eb Q bk h k n pc' Ls (.int (x ||| y) :: st)) (hp : pc + 1 = pc' := by rfl) : Go p l e R s m args below meth c Z own EL n0 eb Q bk h k n pc Ls (.int y :: .int x :: st) := by
  subst hp
  exact Go.pure (fun T t h hr => XT.ior h C.1 rfl (Jvm.hb C.2.2.2.2.2.1 hd) rfl hr) K
theorem Ctx.ixor (C : Ctx p meth c Z a0 EL cd mx ret nm) {pc : Nat} {Ls : Array Slot} {st : List Value} (pc' : Nat) {x y : Int32} (hd : decode cd pc = .ok (.ixor, 1))  (K : Go p l e R s m args below meth c Z own EL n0 eb Q bk h k n pc' Ls (.int (x ^^^ y) :: st)) (hp : pc + 1 = pc' := by rfl) : Go p l e R s m args below meth c Z own EL n0 eb Q bk h k n pc Ls (.int y :: .int x :: st) := by
  subst hp
  exact Go.pure (fun T t h hr => XT.ixor h C.1 rfl (Jvm.hb C.2.2.2.2.2.1 hd) rfl hr) K
theorem Ctx.ishl (C : Ctx p meth c Z a0 EL cd mx ret nm) {pc : Nat} {Ls : Array Slot} {st : List Value} (pc' : Nat) {x y : Int32} (hd : decode cd pc = .ok (.ishl, 1))  (K : Go p l e R s m args below meth c Z own EL n0 eb Q bk h k n pc' Ls (.int (x <<< (y &&& 31)) :: st)) (hp : pc + 1 = pc' := by rfl) : Go p l e R s m args below meth c Z own EL n0 eb Q bk h k n pc Ls (.int y :: .int x :: st) := by
  subst hp
  exact Go.pure (fun T t h hr => XT.ishl h C.1 rfl (Jvm.hb C.2.2.2.2.2.1 hd) rfl hr) K
theorem Ctx.ishr (C : Ctx p meth c Z a0 EL cd mx ret nm) {pc : Nat} {Ls : Array Slot} {st : List Value} (pc' : Nat) {x y : Int32} (hd : decode cd pc = .ok (.ishr, 1))  (K : Go p l e R s m args below meth c Z own EL n0 eb Q bk h k n pc' Ls (.int (x >>> (y &&& 31)) :: st)) (hp : pc + 1 = pc' := by rfl) : Go p l e R s m args below meth c Z own EL n0 eb Q bk h k n pc Ls (.int y :: .int x :: st) := by
  subst hp
  exact Go.pure (fun T t h hr => XT.ishr h C.1 rfl (Jvm.hb C.2.2.2.2.2.1 hd) rfl hr) K
theorem Ctx.iushr (C : Ctx p meth c Z a0 EL cd mx ret nm) {pc : Nat} {Ls : Array Slot} {st : List Value} (pc' : Nat) {x y : Int32} (hd : decode cd pc = .ok (.iushr, 1))  (K : Go p l e R s m args below meth c Z own EL n0 eb Q bk h k n pc' Ls (.int (XT.ushr x y) :: st)) (hp : pc + 1 = pc' := by rfl) : Go p l e R s m args below meth c Z own EL n0 eb Q bk h k n pc Ls (.int y :: .int x :: st) := by
  subst hp
  exact Go.pure (fun T t h hr => XT.iushr h C.1 rfl (Jvm.hb C.2.2.2.2.2.1 hd) rfl hr) K
theorem Ctx.ineg (C : Ctx p meth c Z a0 EL cd mx ret nm) {pc : Nat} {Ls : Array Slot} {st : List Value} (pc' : Nat) {x : Int32} (hd : decode cd pc = .ok (.ineg, 1))  (K : Go p l e R s m args below meth c Z own EL n0 eb Q bk h k n pc' Ls (.int (-x) :: st)) (hp : pc + 1 = pc' := by rfl) : Go p l e R s m args below meth c Z own EL n0 eb Q bk h k n pc Ls (.int x :: st) := by
  subst hp
  exact Go.pure (fun T t h hr => XS.ineg h C.1 rfl (Jvm.hb C.2.2.2.2.2.1 hd) rfl hr) K
theorem Ctx.ladd (C : Ctx p meth c Z a0 EL cd mx ret nm) {pc : Nat} {Ls : Array Slot} {st : List Value} (pc' : Nat) {x y : Int64} (hd : decode cd pc = .ok (.ladd, 1))  (K : Go p l e R s m args below meth c Z own EL n0 eb Q bk h k n pc' Ls (.long (x + y) :: st)) (hp : pc + 1 = pc' := by rfl) : Go p l e R s m args below meth c Z own EL n0 eb Q bk h k n pc Ls (.long y :: .long x :: st) := by
  subst hp
  exact Go.pure (fun T t h hr => XT.ladd h C.1 rfl (Jvm.hb C.2.2.2.2.2.1 hd) rfl hr) K
theorem Ctx.lsub (C : Ctx p meth c Z a0 EL cd mx ret nm) {pc : Nat} {Ls : Array Slot} {st : List Value} (pc' : Nat) {x y : Int64} (hd : decode cd pc = .ok (.lsub, 1))  (K : Go p l e R s m args below meth c Z own EL n0 eb Q bk h k n pc' Ls (.long (x - y) :: st)) (hp : pc + 1 = pc' := by rfl) : Go p l e R s m args below meth c Z own EL n0 eb Q bk h k n pc Ls (.long y :: .long x :: st) := by
  subst hp
  exact Go.pure (fun T t h hr => XT.lsub h C.1 rfl (Jvm.hb C.2.2.2.2.2.1 hd) rfl hr) K
theorem Ctx.lmul (C : Ctx p meth c Z a0 EL cd mx ret nm) {pc : Nat} {Ls : Array Slot} {st : List Value} (pc' : Nat) {x y : Int64} (hd : decode cd pc = .ok (.lmul, 1))  (K : Go p l e R s m args below meth c Z own EL n0 eb Q bk h k n pc' Ls (.long (x * y) :: st)) (hp : pc + 1 = pc' := by rfl) : Go p l e R s m args below meth c Z own EL n0 eb Q bk h k n pc Ls (.long y :: .long x :: st) := by
  subst hp
  exact Go.pure (fun T t h hr => XT.lmul h C.1 rfl (Jvm.hb C.2.2.2.2.2.1 hd) rfl hr) K
theorem Ctx.land (C : Ctx p meth c Z a0 EL cd mx ret nm) {pc : Nat} {Ls : Array Slot} {st : List Value} (pc' : Nat) {x y : Int64} (hd : decode cd pc = .ok (.land, 1))  (K : Go p l e R s m args below meth c Z own EL n0 eb Q bk h k n pc' Ls (.long (x &&& y) :: st)) (hp : pc + 1 = pc' := by rfl) : Go p l e R s m args below meth c Z own EL n0 eb Q bk h k n pc Ls (.long y :: .long x :: st) := by
  subst hp
  exact Go.pure (fun T t h hr => XT.land h C.1 rfl (Jvm.hb C.2.2.2.2.2.1 hd) rfl hr) K
theorem Ctx.lor (C : Ctx p meth c Z a0 EL cd mx ret nm) {pc : Nat} {Ls : Array Slot} {st : List Value} (pc' : Nat) {x y : Int64} (hd : decode cd pc = .ok (.lor, 1))  (K : Go p l e R s m args below meth c Z own EL n0 eb Q bk h k n pc' Ls (.long (x ||| y) :: st)) (hp : pc + 1 = pc' := by rfl) : Go p l e R s m args below meth c Z own EL n0 eb Q bk h k n pc Ls (.long y :: .long x :: st) := by
  subst hp
  exact Go.pure (fun T t h hr => XT.lor h C.1 rfl (Jvm.hb C.2.2.2.2.2.1 hd) rfl hr) K
theorem Ctx.lxor (C : Ctx p meth c Z a0 EL cd mx ret nm) {pc : Nat} {Ls : Array Slot} {st : List Value} (pc' : Nat) {x y : Int64} (hd : decode cd pc = .ok (.lxor, 1))  (K : Go p l e R s m args below meth c Z own EL n0 eb Q bk h k n pc' Ls (.long (x ^^^ y) :: st)) (hp : pc + 1 = pc' := by rfl) : Go p l e R s m args below meth c Z own EL n0 eb Q bk h k n pc Ls (.long y :: .long x :: st) := by
  subst hp
  exact Go.pure (fun T t h hr => XT.lxor h C.1 rfl (Jvm.hb C.2.2.2.2.2.1 hd) rfl hr) K
theorem Ctx.ldiv (C : Ctx p meth c Z a0 EL cd mx ret nm) {pc : Nat} {Ls : Array Slot} {st : List Value} (pc' : Nat) {x y : Int64} (hd : decode cd pc = .ok (.ldiv, 1)) (hy : y ≠ 0) (K : Go p l e R s m args below meth c Z own EL n0 eb Q bk h k n pc' Ls (.long (x / y) :: st)) (hp : pc + 1 = pc' := by rfl) : Go p l e R s m args below meth c Z own EL n0 eb Q bk h k n pc Ls (.long y :: .long x :: st) := by
  subst hp
  exact Go.pure (fun T t h hr => XT.ldiv h C.1 rfl (Jvm.hb C.2.2.2.2.2.1 hd) rfl hy hr) K
theorem Ctx.i2l (C : Ctx p meth c Z a0 EL cd mx ret nm) {pc : Nat} {Ls : Array Slot} {st : List Value} (pc' : Nat) {x : Int32} (hd : decode cd pc = .ok (.i2l, 1))  (K : Go p l e R s m args below meth c Z own EL n0 eb Q bk h k n pc' Ls (.long x.toInt64 :: st)) (hp : pc + 1 = pc' := by rfl) : Go p l e R s m args below meth c Z own EL n0 eb Q bk h k n pc Ls (.int x :: st) := by
  subst hp
  exact Go.pure (fun T t h hr => XT.i2l h C.1 rfl (Jvm.hb C.2.2.2.2.2.1 hd) rfl hr) K
theorem Ctx.l2i (C : Ctx p meth c Z a0 EL cd mx ret nm) {pc : Nat} {Ls : Array Slot} {st : List Value} (pc' : Nat) {x : Int64} (hd : decode cd pc = .ok (.l2i, 1))  (K : Go p l e R s m args below meth c Z own EL n0 eb Q bk h k n pc' Ls (.int x.toInt32 :: st)) (hp : pc + 1 = pc' := by rfl) : Go p l e R s m args below meth c Z own EL n0 eb Q bk h k n pc Ls (.long x :: st) := by
  subst hp
  exact Go.pure (fun T t h hr => XT.l2i h C.1 rfl (Jvm.hb C.2.2.2.2.2.1 hd) rfl hr) K
theorem Ctx.i2b (C : Ctx p meth c Z a0 EL cd mx ret nm) {pc : Nat} {Ls : Array Slot} {st : List Value} (pc' : Nat) {x : Int32} (hd : decode cd pc = .ok (.i2b, 1))  (K : Go p l e R s m args below meth c Z own EL n0 eb Q bk h k n pc' Ls (.int x.toInt8.toInt32 :: st)) (hp : pc + 1 = pc' := by rfl) : Go p l e R s m args below meth c Z own EL n0 eb Q bk h k n pc Ls (.int x :: st) := by
  subst hp
  exact Go.pure (fun T t h hr => XT.i2b h C.1 rfl (Jvm.hb C.2.2.2.2.2.1 hd) rfl hr) K
theorem Ctx.i2c (C : Ctx p meth c Z a0 EL cd mx ret nm) {pc : Nat} {Ls : Array Slot} {st : List Value} (pc' : Nat) {x : Int32} (hd : decode cd pc = .ok (.i2c, 1))  (K : Go p l e R s m args below meth c Z own EL n0 eb Q bk h k n pc' Ls (.int x.toUInt32.toUInt16.toUInt32.toInt32 :: st)) (hp : pc + 1 = pc' := by rfl) : Go p l e R s m args below meth c Z own EL n0 eb Q bk h k n pc Ls (.int x :: st) := by
  subst hp
  exact Go.pure (fun T t h hr => XT.i2c h C.1 rfl (Jvm.hb C.2.2.2.2.2.1 hd) rfl hr) K
theorem Ctx.lcmp (C : Ctx p meth c Z a0 EL cd mx ret nm) {pc : Nat} {Ls : Array Slot} {st : List Value} (pc' : Nat) {x y : Int64} (hd : decode cd pc = .ok (.lcmp, 1))  (K : Go p l e R s m args below meth c Z own EL n0 eb Q bk h k n pc' Ls (.int (XT.cmpL x y) :: st)) (hp : pc + 1 = pc' := by rfl) : Go p l e R s m args below meth c Z own EL n0 eb Q bk h k n pc Ls (.long y :: .long x :: st) := by
  subst hp
  exact Go.pure (fun T t h hr => XT.lcmp h C.1 rfl (Jvm.hb C.2.2.2.2.2.1 hd) rfl hr) K
theorem Ctx.pop (C : Ctx p meth c Z a0 EL cd mx ret nm) {pc : Nat} {Ls : Array Slot} {st : List Value} (pc' : Nat) {x : Value} (hd : decode cd pc = .ok (.pop, 1)) (hc : x.category = 1) (K : Go p l e R s m args below meth c Z own EL n0 eb Q bk h k n pc' Ls (st)) (hp : pc + 1 = pc' := by rfl) : Go p l e R s m args below meth c Z own EL n0 eb Q bk h k n pc Ls (x :: st) := by
  subst hp
  exact Go.pure (fun T t h hr => XT.pop h C.1 rfl (Jvm.hb C.2.2.2.2.2.1 hd) rfl hc hr) K
theorem Ctx.dup (C : Ctx p meth c Z a0 EL cd mx ret nm) {pc : Nat} {Ls : Array Slot} {st : List Value} (pc' : Nat) {x : Value} (hd : decode cd pc = .ok (.dup, 1)) (hc : x.category = 1) (K : Go p l e R s m args below meth c Z own EL n0 eb Q bk h k n pc' Ls (x :: x :: st)) (hp : pc + 1 = pc' := by rfl) : Go p l e R s m args below meth c Z own EL n0 eb Q bk h k n pc Ls (x :: st) := by
  subst hp
  exact Go.pure (fun T t h hr => XS.dup h C.1 rfl (Jvm.hb C.2.2.2.2.2.1 hd) rfl hc hr) K
theorem Ctx.dupX1 (C : Ctx p meth c Z a0 EL cd mx ret nm) {pc : Nat} {Ls : Array Slot} {st : List Value} (pc' : Nat) {x y : Value} (hd : decode cd pc = .ok (.dup_x1, 1)) (hc : x.category = 1) (hc' : y.category = 1) (K : Go p l e R s m args below meth c Z own EL n0 eb Q bk h k n pc' Ls (x :: y :: x :: st)) (hp : pc + 1 = pc' := by rfl) : Go p l e R s m args below meth c Z own EL n0 eb Q bk h k n pc Ls (x :: y :: st) := by
  subst hp
  exact Go.pure (fun T t h hr => XT.dupX1 h C.1 rfl (Jvm.hb C.2.2.2.2.2.1 hd) rfl hc hc' hr) K
theorem Ctx.dup2 (C : Ctx p meth c Z a0 EL cd mx ret nm) {pc : Nat} {Ls : Array Slot} {st : List Value} (pc' : Nat) {x y : Value} (hd : decode cd pc = .ok (.dup2, 1)) (hc : x.category = 1) (hc' : y.category = 1) (K : Go p l e R s m args below meth c Z own EL n0 eb Q bk h k n pc' Ls (x :: y :: x :: y :: st)) (hp : pc + 1 = pc' := by rfl) : Go p l e R s m args below meth c Z own EL n0 eb Q bk h k n pc Ls (x :: y :: st) := by
  subst hp
  exact Go.pure (fun T t h hr => XT.dup2 h C.1 rfl (Jvm.hb C.2.2.2.2.2.1 hd) rfl hc hc' hr) K

theorem Ctx.goto (C : Ctx p meth c Z a0 EL cd mx ret nm) {pc : Nat} {Ls : Array Slot} {st : List Value} (pc' : Nat) {o : Int} (hd : decode cd pc = .ok (.goto o, 3)) (ho : 0 ≤ (pc : Int) + o) (hp : ((pc : Int) + o).toNat = pc') (K : Go p l e R s m args below meth c Z own EL n0 eb Q bk h k n pc' Ls st) : Go p l e R s m args below meth c Z own EL n0 eb Q bk h k n pc Ls st :=
  Go.pure (fun T t h hr => XS.goto h C.1 rfl (pc0 := pc) rfl (Jvm.hb C.2.2.2.2.2.1 hd) ho hp hr) K
theorem Ctx.ifY (C : Ctx p meth c Z a0 EL cd mx ret nm) {pc : Nat} {Ls : Array Slot} {st : List Value} (pc' : Nat) {o : Int} {kc : ClassFile.Cond} {x : Int32} (hd : decode cd pc = .ok (.ifCond kc o, 3)) (ho : 0 ≤ (pc : Int) + o) (hp : ((pc : Int) + o).toNat = pc') (hc : ifCond.holds kc x = true) (K : Go p l e R s m args below meth c Z own EL n0 eb Q bk h k n pc' Ls st) : Go p l e R s m args below meth c Z own EL n0 eb Q bk h k n pc Ls (.int x :: st) :=
  Go.pure (fun T t h hr => XS.ifYes h C.1 rfl (pc0 := pc) rfl (Jvm.hb C.2.2.2.2.2.1 hd) rfl hc ho hp hr) K
theorem Ctx.ifN (C : Ctx p meth c Z a0 EL cd mx ret nm) {pc : Nat} {Ls : Array Slot} {st : List Value} (pc' : Nat) {o : Int} {kc : ClassFile.Cond} {x : Int32} (hd : decode cd pc = .ok (.ifCond kc o, 3)) (hp : pc + 3 = pc') (hc : ifCond.holds kc x = false) (K : Go p l e R s m args below meth c Z own EL n0 eb Q bk h k n pc' Ls st) : Go p l e R s m args below meth c Z own EL n0 eb Q bk h k n pc Ls (.int x :: st) := by
  subst hp
  exact Go.pure (fun T t h hr => XS.ifNo h C.1 rfl (Jvm.hb C.2.2.2.2.2.1 hd) rfl hc hr) K
theorem Ctx.icY (C : Ctx p meth c Z a0 EL cd mx ret nm) {pc : Nat} {Ls : Array Slot} {st : List Value} (pc' : Nat) {o : Int} {kc : ClassFile.Cond} {x y : Int32} (hd : decode cd pc = .ok (.if_icmp kc o, 3)) (ho : 0 ≤ (pc : Int) + o) (hp : ((pc : Int) + o).toNat = pc') (hc : if_icmp.holds kc x y = true) (K : Go p l e R s m args below meth c Z own EL n0 eb Q bk h k n pc' Ls st) : Go p l e R s m args below meth c Z own EL n0 eb Q bk h k n pc Ls (.int y :: .int x :: st) :=
  Go.pure (fun T t h hr => XS.icmpYes h C.1 rfl (pc0 := pc) rfl (Jvm.hb C.2.2.2.2.2.1 hd) rfl hc ho hp hr) K
theorem Ctx.icN (C : Ctx p meth c Z a0 EL cd mx ret nm) {pc : Nat} {Ls : Array Slot} {st : List Value} (pc' : Nat) {o : Int} {kc : ClassFile.Cond} {x y : Int32} (hd : decode cd pc = .ok (.if_icmp kc o, 3)) (hp : pc + 3 = pc') (hc : if_icmp.holds kc x y = false) (K : Go p l e R s m args below meth c Z own EL n0 eb Q bk h k n pc' Ls st) : Go p l e R s m args below meth c Z own EL n0 eb Q bk h k n pc Ls (.int y :: .int x :: st) := by
  subst hp
  exact Go.pure (fun T t h hr => XS.icmpNo h C.1 rfl (Jvm.hb C.2.2.2.2.2.1 hd) rfl hc hr) K
theorem Ctx.nullY (C : Ctx p meth c Z a0 EL cd mx ret nm) {pc : Nat} {Ls : Array Slot} {st : List Value} (pc' : Nat) {o : Int} (hd : decode cd pc = .ok (.ifnull o, 3)) (ho : 0 ≤ (pc : Int) + o) (hp : ((pc : Int) + o).toNat = pc') (K : Go p l e R s m args below meth c Z own EL n0 eb Q bk h k n pc' Ls st) : Go p l e R s m args below meth c Z own EL n0 eb Q bk h k n pc Ls (.null :: st) :=
  Go.pure (fun T t h hr => XS.ifnullYes h C.1 rfl (pc0 := pc) rfl (Jvm.hb C.2.2.2.2.2.1 hd) rfl ho hp hr) K
theorem Ctx.nullN (C : Ctx p meth c Z a0 EL cd mx ret nm) {pc : Nat} {Ls : Array Slot} {st : List Value} (pc' : Nat) {o : Int} {a : Addr} (hd : decode cd pc = .ok (.ifnull o, 3)) (hp : pc + 3 = pc') (K : Go p l e R s m args below meth c Z own EL n0 eb Q bk h k n pc' Ls st) : Go p l e R s m args below meth c Z own EL n0 eb Q bk h k n pc Ls (.ref a :: st) := by
  subst hp
  exact Go.pure (fun T t h hr => XS.ifnullNo h C.1 rfl (Jvm.hb C.2.2.2.2.2.1 hd) rfl hr) K
theorem Ctx.nonY (C : Ctx p meth c Z a0 EL cd mx ret nm) {pc : Nat} {Ls : Array Slot} {st : List Value} (pc' : Nat) {o : Int} {a : Addr} (hd : decode cd pc = .ok (.ifnonnull o, 3)) (ho : 0 ≤ (pc : Int) + o) (hp : ((pc : Int) + o).toNat = pc') (K : Go p l e R s m args below meth c Z own EL n0 eb Q bk h k n pc' Ls st) : Go p l e R s m args below meth c Z own EL n0 eb Q bk h k n pc Ls (.ref a :: st) :=
  Go.pure (fun T t h hr => XT.ifnonnullYes h C.1 rfl (pc0 := pc) rfl (Jvm.hb C.2.2.2.2.2.1 hd) rfl ho hp hr) K
theorem Ctx.nonN (C : Ctx p meth c Z a0 EL cd mx ret nm) {pc : Nat} {Ls : Array Slot} {st : List Value} (pc' : Nat) {o : Int} (hd : decode cd pc = .ok (.ifnonnull o, 3)) (hp : pc + 3 = pc') (K : Go p l e R s m args below meth c Z own EL n0 eb Q bk h k n pc' Ls st) : Go p l e R s m args below meth c Z own EL n0 eb Q bk h k n pc Ls (.null :: st) := by
  subst hp
  exact Go.pure (fun T t h hr => XT.ifnonnullNo h C.1 rfl (Jvm.hb C.2.2.2.2.2.1 hd) rfl hr) K
theorem Ctx.acY (C : Ctx p meth c Z a0 EL cd mx ret nm) {pc : Nat} {Ls : Array Slot} {st : List Value} (pc' : Nat) {o : Int} {kc : ClassFile.ACond} {x y : Value} (hd : decode cd pc = .ok (.if_acmp kc o, 3)) (ho : 0 ≤ (pc : Int) + o) (hp : ((pc : Int) + o).toNat = pc') (hx : x.isRef = true) (hy : y.isRef = true) (hc : XT.acmp kc x y = true) (K : Go p l e R s m args below meth c Z own EL n0 eb Q bk h k n pc' Ls st) : Go p l e R s m args below meth c Z own EL n0 eb Q bk h k n pc Ls (y :: x :: st) :=
  Go.pure (fun T t h hr => XT.acmpYes h C.1 rfl (pc0 := pc) rfl (Jvm.hb C.2.2.2.2.2.1 hd) rfl hx hy hc ho hp hr) K
theorem Ctx.acN (C : Ctx p meth c Z a0 EL cd mx ret nm) {pc : Nat} {Ls : Array Slot} {st : List Value} (pc' : Nat) {o : Int} {kc : ClassFile.ACond} {x y : Value} (hd : decode cd pc = .ok (.if_acmp kc o, 3)) (hp : pc + 3 = pc') (hx : x.isRef = true) (hy : y.isRef = true) (hc : XT.acmp kc x y = false) (K : Go p l e R s m args below meth c Z own EL n0 eb Q bk h k n pc' Ls st) : Go p l e R s m args below meth c Z own EL n0 eb Q bk h k n pc Ls (y :: x :: st) := by
  subst hp
  exact Go.pure (fun T t h hr => XT.acmpNo h C.1 rfl (Jvm.hb C.2.2.2.2.2.1 hd) rfl hx hy hc hr) K
theorem Ctx.iinc (C : Ctx p meth c Z a0 EL cd mx ret nm) {pc : Nat} {Ls : Array Slot} {st : List Value} (pc' : Nat) {j : Nat} {i : Int} {x : Int32} {L' : Array Slot} (v : Int32) (hd : decode cd pc = .ok (.iinc j i, 3)) (hv : Int32.ofInt i = v) (hl : Ls[j]? = some (.val (.int x))) (hl' : storeLocals Ls j (.int (x + v)) = some L') (K : Go p l e R s m args below meth c Z own EL n0 eb Q bk h k n pc' L' st) (hp : pc + 3 = pc' := by rfl) : Go p l e R s m args below meth c Z own EL n0 eb Q bk h k n pc Ls st := by
  subst hp
  exact Go.pure (fun T t h hr => XT.iincV h C.1 rfl v (Jvm.hb C.2.2.2.2.2.1 hd) hv hl hl' hr) K
theorem Ctx.irem (C : Ctx p meth c Z a0 EL cd mx ret nm) {pc : Nat} {Ls : Array Slot} {st : List Value} (pc' : Nat) {x y : Int32} (hd : decode cd pc = .ok (.irem, 1)) (hy : y ≠ 0) (K : Go p l e R s m args below meth c Z own EL n0 eb Q bk h k n pc' Ls (.int (x % y) :: st)) (hp : pc + 1 = pc' := by rfl) : Go p l e R s m args below meth c Z own EL n0 eb Q bk h k n pc Ls (.int y :: .int x :: st) := by
  subst hp
  exact Go.pure (fun T t h hr => XS.irem h C.1 rfl (Jvm.hb C.2.2.2.2.2.1 hd) rfl hy (by rw [irem_eq_mod]; exact hr)) K
theorem Ctx.idiv (C : Ctx p meth c Z a0 EL cd mx ret nm) {pc : Nat} {Ls : Array Slot} {st : List Value} (pc' : Nat) {x y : Int32} (hd : decode cd pc = .ok (.idiv, 1)) (hy : y ≠ 0) (K : Go p l e R s m args below meth c Z own EL n0 eb Q bk h k n pc' Ls (.int (x / y) :: st)) (hp : pc + 1 = pc' := by rfl) : Go p l e R s m args below meth c Z own EL n0 eb Q bk h k n pc Ls (.int y :: .int x :: st) := by
  subst hp
  exact Go.pure (fun T t h hr => XS.idiv h C.1 rfl (Jvm.hb C.2.2.2.2.2.1 hd) rfl hy hr) K
theorem Ctx.lrem (C : Ctx p meth c Z a0 EL cd mx ret nm) {pc : Nat} {Ls : Array Slot} {st : List Value} (pc' : Nat) {x y : Int64} (hd : decode cd pc = .ok (.lrem, 1)) (hy : y ≠ 0) (K : Go p l e R s m args below meth c Z own EL n0 eb Q bk h k n pc' Ls (.long (x % y) :: st)) (hp : pc + 1 = pc' := by rfl) : Go p l e R s m args below meth c Z own EL n0 eb Q bk h k n pc Ls (.long y :: .long x :: st) := by
  subst hp
  exact Go.pure (fun T t h hr => XT.lrem h C.1 rfl (Jvm.hb C.2.2.2.2.2.1 hd) rfl hy (by rw [lrem_mod]; exact hr)) K
theorem Ctx.lushr (C : Ctx p meth c Z a0 EL cd mx ret nm) {pc : Nat} {Ls : Array Slot} {st : List Value} (pc' : Nat) {x : Int64} {y : Int32} (hd : decode cd pc = .ok (.lushr, 1)) (K : Go p l e R s m args below meth c Z own EL n0 eb Q bk h k n pc' Ls (.long (XT.ushrL x y) :: st)) (hp : pc + 1 = pc' := by rfl) : Go p l e R s m args below meth c Z own EL n0 eb Q bk h k n pc Ls (.int y :: .long x :: st) := by
  subst hp
  exact Go.pure (fun T t h hr => XT.lushr h C.1 rfl (Jvm.hb C.2.2.2.2.2.1 hd) rfl hr) K
theorem Ctx.lshl (C : Ctx p meth c Z a0 EL cd mx ret nm) {pc : Nat} {Ls : Array Slot} {st : List Value} (pc' : Nat) {x : Int64} {y : Int32} (hd : decode cd pc = .ok (.lshl, 1)) (K : Go p l e R s m args below meth c Z own EL n0 eb Q bk h k n pc' Ls (.long (x <<< (y.toInt64 &&& 63)) :: st)) (hp : pc + 1 = pc' := by rfl) : Go p l e R s m args below meth c Z own EL n0 eb Q bk h k n pc Ls (.int y :: .long x :: st) := by
  subst hp
  exact Go.pure (fun T t h hr => XT.lshl h C.1 rfl (Jvm.hb C.2.2.2.2.2.1 hd) rfl hr) K
end Own

section Own4
variable {p : Program} {l : Launch} {e : Env} {R : Room} {s : State} {m : MethodId} {args : Array Value} {below : List Frame} {meth : Method} {c : Code} {Z : State} {a0 : Array Value} {own : String} {cd : ByteArray} {mx : Nat} {ret : Option FieldType} {nm : String}
variable {EL : List (String × Nat)} {n0 bk : Nat} {eb : Heap → Nat} {Q : Option Value → Heap → Prop} {h h' h1 h2 : Heap} {k n : Nat} {vm0 : Vm}
variable {pc : Nat} {Ls : Array Slot} {st : List Value} {i : Nat}
theorem Ctx.newarrE (C : Ctx p meth c Z a0 EL cd mx ret nm) (pc' : Nat) {z : Int32} {zn cap : Nat} (hd : decode cd pc = .ok (.newarray .byte, 2)) (w : (Cond.arrayClass (newarray.typeOf .byte)).before a0 Z = true) (hz : z = Int32.ofNat zn) (hcap : zn ≤ cap) (hbig : cap * 8 ≤ 536870912) (ht : defaultValue (newarray.typeOf .byte) = .int 0) (hf : fits (newarray.typeOf .byte) (.int 0) = true) (hc : k + 1 ≤ R.cells) (hl : n + cap ≤ R.slots)
    (K : ∀ (a : Nat) h2, a = h.size → Ext h h2 → Ar Z h2 a (newarray.typeOf .byte) (List.replicate zn 0) → Exa Z h2 a "[B" → Go p l e R s m args below meth c Z own EL n0 eb Q bk h2 (k + 1) (n + cap) pc' Ls (.ref a :: st)) (hp : pc + 2 = pc' := by rfl) : Go p l e R s m args below meth c Z own EL n0 eb Q bk h k n pc Ls (.int z :: st) := by
  subst hp
  intro T L vm0 X eh hF I
  obtain ⟨q1, q2⟩ := own_len31 (by omega) hz
  obtain ⟨T2, h2, cA, X2, e2, E, A, XA, st2⟩ := newPE X C.1 (show Z.Warmed39 (s.setVm vm0).vm from I.2.1) w eh (g := mkF m pc Ls (.int z :: st)) rfl (Jvm.hb C.2.2.2.2.2.1 hd) rfl q1 (cap := cap) (by rw [q2]; exact hcap) hbig hc hl (ad := "[B") (by decide)
  obtain ⟨t, v', L', g1, r⟩ := K h.size h2 rfl E (own_newar A hz (by omega) ht hf) XA T2 L vm0 X2 e2 hF (I.ext E)
  exact ⟨t, v', L', st2 _ g1, r⟩
theorem Ctx.cloneB (C : Ctx p meth c Z a0 EL cd mx ret nm) (pc' : Nat) {a : Nat} {xs : List Int32} {cap W : Nat} (hd : decode cd pc = .ok (.invokevirtual i, 3)) (w1 : (Cond.methodLink own i ⟨"[B", "clone", "()Ljava/lang/Object;"⟩).before a0 Z = true) (w2 : (Cond.sameMethod "[B" "java/lang/Object" "clone" "()Ljava/lang/Object;").before a0 Z = true) (w3 : (Cond.native ⟨"java/lang/Object", "clone", "()Ljava/lang/Object;"⟩).before a0 Z = true) (w4 : (Cond.instanceMethod ⟨"java/lang/Object", "clone", "()Ljava/lang/Object;"⟩).before a0 Z = true) (w5 : (Cond.selects "[B" ⟨"[B", "clone", "()Ljava/lang/Object;"⟩ ⟨"java/lang/Object", "clone", "()Ljava/lang/Object;"⟩).before a0 Z = true) (w6 : (Cond.castable "[B" "java/lang/Cloneable").before a0 Z = true)
    (A : Ar Z h a .byte xs) (E : Exa Z h a "[B") (hcap : xs.length ≤ cap) (hsz : Ls.size = mx) (hf : 1 ≤ R.frames) (hW : 2 * 0 + (st.map fun v => v.category).sum ≤ W) (hl : W + 14 ≤ R.locals) (hc : k + 1 ≤ R.cells) (hsl : n + cap ≤ R.slots)
    (K : ∀ (u : Nat) h2, u = h.size → Ext h h2 → Ar Z h2 u .byte xs → Exa Z h2 u "[B" → Go p l e R s m args below meth c Z own EL n0 eb Q bk h2 (k + 1) (n + cap) pc' Ls (.ref u :: st)) (hp : pc + 3 = pc' := by rfl) : Go p l e R s m args below meth c Z own EL n0 eb Q bk h k n pc Ls (.ref a :: st) := by
  subst hp
  intro T L vm0 X eh hF I
  obtain ⟨cl, A, g1, g2, g3, g4⟩ := A
  have FC : FitC Z cl := fitC_of A fun j hj v hv => by
    have e : xs[j]? = some xs[j] := List.getElem?_eq_getElem (by omega)
    rw [g3 j _ e] at hv; cases hv; exact g4 _ (List.getElem_mem _)
  obtain ⟨T2, h2, X2, e2, E2, A2, XA, st2⟩ := cloneA X C.1 (show Z.Warmed39 (s.setVm vm0).vm from I.2.1) I.2.2.1 w1 w2 w3 w4 w5 w6 eh A E FC (g := mkF m pc Ls (.ref a :: st)) rfl (hsz.trans C.2.2.2.2.2.2.1.symm) rfl (Jvm.hb C.2.2.2.2.2.1 hd) hf hW hl (cap := cap) (by rw [g1]; exact hcap) hc hsl
  obtain ⟨t, v', L', f1, r⟩ := K h.size h2 rfl E2 ⟨_, A2, g1, g2, g3, g4⟩ XA T2 L vm0 X2 e2 hF (I.ext E2)
  exact ⟨t, v', L', st2 _ f1, r⟩
end Own4
namespace N
section Own
variable {p : Program} {l : Launch} {e : Env} {R : Room} {s : State} {m : MethodId} {args : Array Value} {below : List Frame} {meth : Method} {c : Code} {Z : State} {a0 : Array Value} {own : String} {cd : ByteArray} {mx : Nat} {ret : Option FieldType} {Q : Option Value → Prop} {hq : Heap}
/-- what a walk knows of its own method -/
def Ctx (p : Program) (s : State) (m : MethodId) (meth : Method) (c : Code) (Z : State) (own : String) (cd : ByteArray) (mx : Nat) (ret : Option FieldType) : Prop :=
  p.tables.exec = Jvm.exec ∧ Z.Warmed39 s.vm ∧ s.vm.findClass own = some m.cls ∧ meth.sig.returnType = ret ∧ meth.locks = false ∧ c.code = cd ∧ c.maxLocals = mx
/-- from this frame the run returns, and Q holds of what it returns -/
def Go (p : Program) (l : Launch) (e : Env) (R : Room) (s : State) (m : MethodId) (args : Array Value) (below : List Frame) (meth : Method) (c : Code) (Z : State) (hq : Heap) (Q : Option Value → Prop) (pc : Nat) (Ls : Array Slot) (st : List Value) : Prop :=
  ∀ T, Stand p l e R s m args below meth c T [] 0 0 → T.heap = hq → ∃ t v, Steps p.tables e below (T.setTop (mkF m pc Ls st)) t ∧ t.status = .running ∧ Ended t below (.returned v) ∧ FrameEnd s (.returned v) t [] 0 0 ∧ t.heap = hq ∧ Q v
theorem Go.pure {pc pc' : Nat} {Ls Ls' : Array Slot} {st st' : List Value} (hs : ∀ T t, At T m c below → Steps p.tables e below (T.setTop (mkF m pc' Ls' st')) t → Steps p.tables e below (T.setTop (mkF m pc Ls st)) t) (K : Go p l e R s m args below meth c Z hq Q pc' Ls' st') : Go p l e R s m args below meth c Z hq Q pc Ls st := fun T X eh => by
  obtain ⟨t, v, h1, r⟩ := K T X eh
  exact ⟨t, v, hs T t X.here h1, r⟩
/-- a contract: called with these arguments it returns, changes nothing, and Q holds of what it returns -/
def Met (l : Launch) (Z : State) (hq : Heap) (y : MethodName) (cd : ByteArray) (mx : Nat) (ret : Option FieldType) (ws : List Jvm.Cond) (rm : Room) (as : Array Value) (Q : Option Value → Prop) : Prop :=
  MetFree l y (head1 (Jvm.Cond.code y cd mx ret :: ws) rm) (fun a U => a = as ∧ Z.Warmed39 U.vm ∧ U.heap = hq) (fun _ _ _ _ _ => True) (fun _ U o U' => ∃ v L, o = .returned v ∧ (L = [] ∧ U'.heap = hq ∧ Q v) ∧ FrameEnd U o U' L rm.cells rm.slots)
theorem Met.intro {y : MethodName} {ws : List Jvm.Cond} {rm : Room} {as : Array Value} {Ls : Array Slot} (hpl : plainFor y = true) (hent : ∀ m, entryFrame m as mx = mkF m 0 Ls []) (hc : rm.cells = 0) (hn : rm.slots = 0)
    (K : ∀ p e s m below meth c, Ctx p s m meth c Z y.cls cd mx ret → Go p l e rm s m as below meth c Z hq Q 0 Ls []) : Met l Z hq y cd mx ret ws rm as Q := by
  refine MetFree.of_bodySF hpl hisR ?_
  intro p e s m args below meth c s₁ Bd hml0 hP hK
  obtain ⟨rfl, hZ, hh⟩ := hP
  have X0 : Stand p l e rm s m args below meth c s₁ [] 0 0 := Stand.of_body Bd
  have e0 : s₁.heap = hq := by rw [← hh, Bd.state]; rfl
  obtain ⟨t, v, h1, h2, h3, h4, h5, h6⟩ := K p e s m below meth c ⟨Bd.exec, hZ, findClass_of_methodNamed Bd.named, Bd.returns, Bd.notSynchronized, Bd.bytes, hml0⟩ s₁ X0 e0
  exact ⟨t, _, castTop (hent m) h1, h2, h3, v, [], rfl, ⟨rfl, h5, h6⟩, by rw [hc, hn]; exact h4⟩
theorem Ctx.call (C : Ctx p s m meth c Z own cd mx ret) {pc : Nat} {Ls : Array Slot} {st : List Value} (pc' : Nat) {i : Nat} {y : MethodName} {cd' : ByteArray} {mx' : Nat} {ret' : Option FieldType} {rm : Room} {Q' : Option Value → Prop} (argsL rest : List Value)
    (hd : decode cd pc = .ok (.invokestatic i, 3)) (hM : Met l Z hq y cd' mx' ret' [] rm argsL.toArray Q') (w1 : (Cond.methodLink own i y).before a0 Z = true) (w2 : (Cond.static y).before a0 Z = true) (w3 : (Cond.initialized y.cls).before a0 Z = true) (w4 : (Cond.code y cd' mx' ret').before a0 Z = true)
    (hy : y.cls ≠ "java/lang/invoke/MethodHandle" ∧ y.cls ≠ "java/lang/invoke/VarHandle") (hsz : Ls.size = mx) (hlen : ∀ sig, parseMethodDescriptor y.desc = some sig → argsL.length = sig.parameters.length) (hf : rm.frames + 1 ≤ R.frames) {W : Nat} (hW : 2 * 0 + (rest.map fun v => v.category).sum ≤ W) (hl : W + (mx' + 11) + rm.locals ≤ R.locals) (hrc : rm.cells = 0) (hrs : rm.slots = 0) (hst : st = argsL.reverse ++ rest)
    (K : ∀ v, Q' v → Go p l e R s m args below meth c Z hq Q pc' Ls (v.toList ++ rest)) (hpc : pc + 3 = pc' := by rfl) : Go p l e R s m args below meth c Z hq Q pc Ls st := by
  subst hpc hst
  obtain ⟨hx, hZ, hown, hret, hlk, hby, hmx⟩ := C
  intro T X eh
  obtain ⟨v, vm₁, ⟨T2, L2, k2, n2⟩, -, X2, ⟨Lc, hQ, l2, y2, z2⟩, st2⟩ := Jvm.LawKit.callS X hx hown (mvT hZ w1) (mvT hZ w2) (mvT hZ w3) (mvT hZ w4) hy (backOf (W := W) (h := hq) (as' := argsL.toArray) (Q := fun v hh L => L = [] ∧ hh = hq ∧ Q' v) hM hZ w4 w3 hf hl) (g := mkF m pc Ls (argsL.reverse ++ rest)) rfl (hsz.trans hmx.symm) hlen rfl hW (hb hby hd) (fun _ _ => ⟨rfl, eh, by rw [hrc]; exact Nat.zero_le _, by rw [hrs]; exact Nat.zero_le _⟩)
  dsimp only [Pt.U, Pt.locs, Pt.cells, Pt.slots] at X2 l2 y2 z2 st2 hQ
  obtain ⟨rfl, h2, hq⟩ := hQ
  rw [hrc] at y2
  rw [hrs] at z2
  subst l2 y2 z2
  obtain ⟨t, v', h1, r⟩ := K v hq T2 X2 h2
  exact ⟨t, v', st2 _ h1, r⟩
theorem Ctx.ldcI (C : Ctx p s m meth c Z own cd mx ret) {pc : Nat} {Ls : Array Slot} {st : List Value} (pc' : Nat) {i : Nat} {v : Int32} (hd : decode cd pc = .ok (.ldc i, 2)) (w : (Cond.constant own i v).before a0 Z = true) (K : Go p l e R s m args below meth c Z hq Q pc' Ls (.int v :: st)) (hpc : pc + 2 = pc' := by rfl) : Go p l e R s m args below meth c Z hq Q pc Ls st := by
  subst hpc
  intro T X eh
  obtain ⟨t, v', h1, r⟩ := K T X eh
  exact ⟨t, v', Jvm.Stand.ldcI X C.1 C.2.2.1 (mvT C.2.1 w) rfl (hb C.2.2.2.2.2.1 hd) h1, r⟩
theorem Ctx.ldc2 (C : Ctx p s m meth c Z own cd mx ret) {pc : Nat} {Ls : Array Slot} {st : List Value} (pc' : Nat) {i : Nat} {v : Int64} (hd : decode cd pc = .ok (.ldc2_w i, 3)) (w : (Cond.constantLong own i v).before a0 Z = true) (K : Go p l e R s m args below meth c Z hq Q pc' Ls (.long v :: st)) (hpc : pc + 3 = pc' := by rfl) : Go p l e R s m args below meth c Z hq Q pc Ls st := by
  subst hpc
  intro T X eh
  obtain ⟨t, v', h1, r⟩ := K T X eh
  exact ⟨t, v', Jvm.Stand.ldc2J X C.1 C.2.2.1 (mvT C.2.1 w) rfl (hb C.2.2.2.2.2.1 hd) h1, r⟩
theorem Ctx.retN (C : Ctx p s m meth c Z own cd mx ret) {pc : Nat} {Ls : Array Slot} {st : List Value} {z : Int32} {t : FieldType} (hret : ret = some t) (ht : t = .boolean ∨ t = .byte ∨ t = .char ∨ t = .short) (hd : decode cd pc = .ok (.ireturn, 1)) (K : Q (some (.int (nar t z)))) : Go p l e R s m args below meth c Z hq Q pc Ls (.int z :: st) := by
  intro T X eh
  obtain ⟨fs, hr, hrun, hended, hW, hsame⟩ := X.leave (v := some (.int (nar t z))) (fun h => by rw [C.2.2.2.1, hret] at h; cases h) C.2.2.2.2.1
  exact ⟨_, _, RoadKit.retN X C.1 (C.2.2.2.1.trans hret) ht (hb C.2.2.2.2.2.1 hd) hr, hrun, hended, ⟨⟨_, rfl⟩, hW, hsame⟩, eh, K⟩
theorem Ctx.retI (C : Ctx p s m meth c Z own cd mx ret) {pc : Nat} {Ls : Array Slot} {st : List Value} {z : Int32} (hret : ret = some .int) (hd : decode cd pc = .ok (.ireturn, 1)) (K : Q (some (.int z))) : Go p l e R s m args below meth c Z hq Q pc Ls (.int z :: st) := by
  intro T X eh
  obtain ⟨fs, hr, hrun, hended, hW, hsame⟩ := X.leave (v := some (.int z)) (fun h => by rw [C.2.2.2.1, hret] at h; cases h) C.2.2.2.2.1
  exact ⟨_, _, retOut X C.1 (C.2.2.2.1.trans hret) rfl (Or.inl ⟨rfl, Or.inl rfl, _, rfl⟩) (hb C.2.2.2.2.2.1 hd) hr, hrun, hended, ⟨⟨_, rfl⟩, hW, hsame⟩, eh, K⟩
theorem Ctx.retL (C : Ctx p s m meth c Z own cd mx ret) {pc : Nat} {Ls : Array Slot} {st : List Value} {z : Int64} (hret : ret = some .long) (hd : decode cd pc = .ok (.lreturn, 1)) (K : Q (some (.long z))) : Go p l e R s m args below meth c Z hq Q pc Ls (.long z :: st) := by
  intro T X eh
  obtain ⟨fs, hr, hrun, hended, hW, hsame⟩ := X.leave (v := some (.long z)) (fun h => by rw [C.2.2.2.1, hret] at h; cases h) C.2.2.2.2.1
  exact ⟨_, _, retOut X C.1 (C.2.2.2.1.trans hret) rfl (Or.inr (Or.inl ⟨rfl, rfl, _, rfl⟩)) (hb C.2.2.2.2.2.1 hd) hr, hrun, hended, ⟨⟨_, rfl⟩, hW, hsame⟩, eh, K⟩
theorem Ctx.iloadN (C : Ctx p s m meth c Z own cd mx ret) {pc : Nat} {Ls : Array Slot} {st : List Value} (pc' : Nat) {j : Fin 4} {v : Int32} (hd : decode cd pc = .ok (.iload_n j, 1)) (hl : Ls[j.val]? = some (.val (.int v))) (K : Go p l e R s m args below meth c Z hq Q pc' Ls (.int v :: st)) (hp : pc + 1 = pc' := by rfl) : Go p l e R s m args below meth c Z hq Q pc Ls (st) := by
  subst hp
  exact Go.pure (fun T t h hr => XS.iloadN h C.1 rfl (hb C.2.2.2.2.2.1 hd) hl hr) K
theorem Ctx.iload (C : Ctx p s m meth c Z own cd mx ret) {pc : Nat} {Ls : Array Slot} {st : List Value} (pc' : Nat) {j : Nat} {v : Int32} (hd : decode cd pc = .ok (.iload j, 2)) (hl : Ls[j]? = some (.val (.int v))) (K : Go p l e R s m args below meth c Z hq Q pc' Ls (.int v :: st)) (hp : pc + 2 = pc' := by rfl) : Go p l e R s m args below meth c Z hq Q pc Ls (st) := by
  subst hp
  exact Go.pure (fun T t h hr => XS.iload h C.1 rfl (hb C.2.2.2.2.2.1 hd) hl hr) K
theorem Ctx.lloadN (C : Ctx p s m meth c Z own cd mx ret) {pc : Nat} {Ls : Array Slot} {st : List Value} (pc' : Nat) {j : Fin 4} {v : Int64} (hd : decode cd pc = .ok (.lload_n j, 1)) (hl : Ls[j.val]? = some (.val (.long v))) (K : Go p l e R s m args below meth c Z hq Q pc' Ls (.long v :: st)) (hp : pc + 1 = pc' := by rfl) : Go p l e R s m args below meth c Z hq Q pc Ls (st) := by
  subst hp
  exact Go.pure (fun T t h hr => XT.lloadN h C.1 rfl (hb C.2.2.2.2.2.1 hd) hl hr) K
theorem Ctx.lload (C : Ctx p s m meth c Z own cd mx ret) {pc : Nat} {Ls : Array Slot} {st : List Value} (pc' : Nat) {j : Nat} {v : Int64} (hd : decode cd pc = .ok (.lload j, 2)) (hl : Ls[j]? = some (.val (.long v))) (K : Go p l e R s m args below meth c Z hq Q pc' Ls (.long v :: st)) (hp : pc + 2 = pc' := by rfl) : Go p l e R s m args below meth c Z hq Q pc Ls (st) := by
  subst hp
  exact Go.pure (fun T t h hr => XT.lload h C.1 rfl (hb C.2.2.2.2.2.1 hd) hl hr) K
theorem Ctx.aloadN (C : Ctx p s m meth c Z own cd mx ret) {pc : Nat} {Ls : Array Slot} {st : List Value} (pc' : Nat) {j : Fin 4} {v : Value} (hd : decode cd pc = .ok (.aload_n j, 1)) (hl : Ls[j.val]? = some (.val v)) (hv : v.isRef = true) (K : Go p l e R s m args below meth c Z hq Q pc' Ls (v :: st)) (hp : pc + 1 = pc' := by rfl) : Go p l e R s m args below meth c Z hq Q pc Ls (st) := by
  subst hp
  exact Go.pure (fun T t h hr => XS.aloadN h C.1 rfl (hb C.2.2.2.2.2.1 hd) hl hv hr) K
theorem Ctx.aload (C : Ctx p s m meth c Z own cd mx ret) {pc : Nat} {Ls : Array Slot} {st : List Value} (pc' : Nat) {j : Nat} {v : Value} (hd : decode cd pc = .ok (.aload j, 2)) (hl : Ls[j]? = some (.val v)) (hv : v.isRef = true) (K : Go p l e R s m args below meth c Z hq Q pc' Ls (v :: st)) (hp : pc + 2 = pc' := by rfl) : Go p l e R s m args below meth c Z hq Q pc Ls (st) := by
  subst hp
  exact Go.pure (fun T t h hr => XS.aload h C.1 rfl (hb C.2.2.2.2.2.1 hd) hl hv hr) K
theorem Ctx.istoreN (C : Ctx p s m meth c Z own cd mx ret) {pc : Nat} {Ls : Array Slot} {st : List Value} (pc' : Nat) {j : Fin 4} {v : Int32} {L' : Array Slot} (hd : decode cd pc = .ok (.istore_n j, 1)) (hl : storeLocals Ls j.val (.int v) = some L') (K : Go p l e R s m args below meth c Z hq Q pc' L' (st)) (hp : pc + 1 = pc' := by rfl) : Go p l e R s m args below meth c Z hq Q pc Ls (.int v :: st) := by
  subst hp
  exact Go.pure (fun T t h hr => XS.istoreN h C.1 rfl (hb C.2.2.2.2.2.1 hd) rfl hl hr) K
theorem Ctx.istore (C : Ctx p s m meth c Z own cd mx ret) {pc : Nat} {Ls : Array Slot} {st : List Value} (pc' : Nat) {j : Nat} {v : Int32} {L' : Array Slot} (hd : decode cd pc = .ok (.istore j, 2)) (hl : storeLocals Ls j (.int v) = some L') (K : Go p l e R s m args below meth c Z hq Q pc' L' (st)) (hp : pc + 2 = pc' := by rfl) : Go p l e R s m args below meth c Z hq Q pc Ls (.int v :: st) := by
  subst hp
  exact Go.pure (fun T t h hr => XS.istore h C.1 rfl (hb C.2.2.2.2.2.1 hd) rfl hl hr) K
theorem Ctx.lstoreN (C : Ctx p s m meth c Z own cd mx ret) {pc : Nat} {Ls : Array Slot} {st : List Value} (pc' : Nat) {j : Fin 4} {v : Int64} {L' : Array Slot} (hd : decode cd pc = .ok (.lstore_n j, 1)) (hl : storeLocals Ls j.val (.long v) = some L') (K : Go p l e R s m args below meth c Z hq Q pc' L' (st)) (hp : pc + 1 = pc' := by rfl) : Go p l e R s m args below meth c Z hq Q pc Ls (.long v :: st) := by
  subst hp
  exact Go.pure (fun T t h hr => XT.lstoreN h C.1 rfl (hb C.2.2.2.2.2.1 hd) rfl hl hr) K
theorem Ctx.lstore (C : Ctx p s m meth c Z own cd mx ret) {pc : Nat} {Ls : Array Slot} {st : List Value} (pc' : Nat) {j : Nat} {v : Int64} {L' : Array Slot} (hd : decode cd pc = .ok (.lstore j, 2)) (hl : storeLocals Ls j (.long v) = some L') (K : Go p l e R s m args below meth c Z hq Q pc' L' (st)) (hp : pc + 2 = pc' := by rfl) : Go p l e R s m args below meth c Z hq Q pc Ls (.long v :: st) := by
  subst hp
  exact Go.pure (fun T t h hr => XT.lstore h C.1 rfl (hb C.2.2.2.2.2.1 hd) rfl hl hr) K
theorem Ctx.astoreN (C : Ctx p s m meth c Z own cd mx ret) {pc : Nat} {Ls : Array Slot} {st : List Value} (pc' : Nat) {j : Fin 4} {v : Value} {L' : Array Slot} (hd : decode cd pc = .ok (.astore_n j, 1)) (hl : storeLocals Ls j.val v = some L') (hv : v.isRef = true) (K : Go p l e R s m args below meth c Z hq Q pc' L' (st)) (hp : pc + 1 = pc' := by rfl) : Go p l e R s m args below meth c Z hq Q pc Ls (v :: st) := by
  subst hp
  exact Go.pure (fun T t h hr => XS.astoreN h C.1 rfl (hb C.2.2.2.2.2.1 hd) rfl hv hl hr) K
theorem Ctx.astore (C : Ctx p s m meth c Z own cd mx ret) {pc : Nat} {Ls : Array Slot} {st : List Value} (pc' : Nat) {j : Nat} {v : Value} {L' : Array Slot} (hd : decode cd pc = .ok (.astore j, 2)) (hl : storeLocals Ls j v = some L') (hv : v.isRef = true) (K : Go p l e R s m args below meth c Z hq Q pc' L' (st)) (hp : pc + 2 = pc' := by rfl) : Go p l e R s m args below meth c Z hq Q pc Ls (v :: st) := by
  subst hp
  exact Go.pure (fun T t h hr => XS.astore h C.1 rfl (hb C.2.2.2.2.2.1 hd) rfl hv hl hr) K
theorem Ctx.iconst (C : Ctx p s m meth c Z own cd mx ret) {pc : Nat} {Ls : Array Slot} {st : List Value} (pc' : Nat) {i : Int} (v : Int32) (hd : decode cd pc = .ok (.iconst i, 1)) (hv : Int32.ofInt i = v) (K : Go p l e R s m args below meth c Z hq Q pc' Ls (.int v :: st)) (hp : pc + 1 = pc' := by rfl) : Go p l e R s m args below meth c Z hq Q pc Ls (st) := by
  subst hp
  exact Go.pure (fun T t h hr => XT.iconstV h C.1 rfl v (hb C.2.2.2.2.2.1 hd) hv hr) K
theorem Ctx.bipush (C : Ctx p s m meth c Z own cd mx ret) {pc : Nat} {Ls : Array Slot} {st : List Value} (pc' : Nat) {i : Int} (v : Int32) (hd : decode cd pc = .ok (.bipush i, 2)) (hv : (Int8.ofInt i).toInt32 = v) (K : Go p l e R s m args below meth c Z hq Q pc' Ls (.int v :: st)) (hp : pc + 2 = pc' := by rfl) : Go p l e R s m args below meth c Z hq Q pc Ls (st) := by
  subst hp
  exact Go.pure (fun T t h hr => XT.bipushV h C.1 rfl v (hb C.2.2.2.2.2.1 hd) hv hr) K
theorem Ctx.sipush (C : Ctx p s m meth c Z own cd mx ret) {pc : Nat} {Ls : Array Slot} {st : List Value} (pc' : Nat) {i : Int} (v : Int32) (hd : decode cd pc = .ok (.sipush i, 3)) (hv : (Int16.ofInt i).toInt32 = v) (K : Go p l e R s m args below meth c Z hq Q pc' Ls (.int v :: st)) (hp : pc + 3 = pc' := by rfl) : Go p l e R s m args below meth c Z hq Q pc Ls (st) := by
  subst hp
  exact Go.pure (fun T t h hr => XT.sipushV h C.1 rfl v (hb C.2.2.2.2.2.1 hd) hv hr) K
theorem Ctx.lconst (C : Ctx p s m meth c Z own cd mx ret) {pc : Nat} {Ls : Array Slot} {st : List Value} (pc' : Nat) {i : Fin 2} (v : Int64) (hd : decode cd pc = .ok (.lconst i, 1)) (hv : Int64.ofNat i = v) (K : Go p l e R s m args below meth c Z hq Q pc' Ls (.long v :: st)) (hp : pc + 1 = pc' := by rfl) : Go p l e R s m args below meth c Z hq Q pc Ls (st) := by
  subst hp
  exact Go.pure (fun T t h hr => XT.lconstV h C.1 rfl v (hb C.2.2.2.2.2.1 hd) hv hr) K
theorem Ctx.aconstNull (C : Ctx p s m meth c Z own cd mx ret) {pc : Nat} {Ls : Array Slot} {st : List Value} (pc' : Nat)  (hd : decode cd pc = .ok (.aconst_null, 1))  (K : Go p l e R s m args below meth c Z hq Q pc' Ls (.null :: st)) (hp : pc + 1 = pc' := by rfl) : Go p l e R s m args below meth c Z hq Q pc Ls (st) := by
  subst hp
  exact Go.pure (fun T t h hr => XS.aconstNull h C.1 rfl (hb C.2.2.2.2.2.1 hd)  hr) K
theorem Ctx.iadd (C : Ctx p s m meth c Z own cd mx ret) {pc : Nat} {Ls : Array Slot} {st : List Value} (pc' : Nat) {x y : Int32} (hd : decode cd pc = .ok (.iadd, 1))  (K : Go p l e R s m args below meth c Z hq Q pc' Ls (.int (x + y) :: st)) (hp : pc + 1 = pc' := by rfl) : Go p l e R s m args below meth c Z hq Q pc Ls (.int y :: .int x :: st) := by
  subst hp
  exact Go.pure (fun T t h hr => XS.iadd h C.1 rfl (hb C.2.2.2.2.2.1 hd) rfl hr) K
theorem Ctx.isub (C : Ctx p s m meth c Z own cd mx ret) {pc : Nat} {Ls : Array Slot} {st : List Value} (pc' : Nat) {x y : Int32} (hd : decode cd pc = .ok (.isub, 1))  (K : Go p l e R s m args below meth c Z hq Q pc' Ls (.int (x - y) :: st)) (hp : pc + 1 = pc' := by rfl) : Go p l e R s m args below meth c Z hq Q pc Ls (.int y :: .int x :: st) := by
  subst hp
  exact Go.pure (fun T t h hr => XS.isub h C.1 rfl (hb C.2.2.2.2.2.1 hd) rfl hr) K
theorem Ctx.imul (C : Ctx p s m meth c Z own cd mx ret) {pc : Nat} {Ls : Array Slot} {st : List Value} (pc' : Nat) {x y : Int32} (hd : decode cd pc = .ok (.imul, 1))  (K : Go p l e R s m args below meth c Z hq Q pc' Ls (.int (x * y) :: st)) (hp : pc + 1 = pc' := by rfl) : Go p l e R s m args below meth c Z hq Q pc Ls (.int y :: .int x :: st) := by
  subst hp
  exact Go.pure (fun T t h hr => XS.imul h C.1 rfl (hb C.2.2.2.2.2.1 hd) rfl hr) K
theorem Ctx.iand (C : Ctx p s m meth c Z own cd mx ret) {pc : Nat} {Ls : Array Slot} {st : List Value} (pc' : Nat) {x y : Int32} (hd : decode cd pc = .ok (.iand, 1))  (K : Go p l e R s m args below meth c Z hq Q pc' Ls (.int (x &&& y) :: st)) (hp : pc + 1 = pc' := by rfl) : Go p l e R s m args below meth c Z hq Q pc Ls (.int y :: .int x :: st) := by
  subst hp
  exact Go.pure (fun T t h hr => XS.iand h C.1 rfl (hb C.2.2.2.2.2.1 hd) rfl hr) K
theorem Ctx.ior (C : Ctx p s m meth c Z own cd mx ret) {pc : Nat} {Ls : Array Slot} {st : List Value} (pc' : Nat) {x y : Int32} (hd : decode cd pc = .ok (.ior, 1))  (K : Go p l e R s m args below meth c Z hq Q pc' Ls (.int (x ||| y) :: st)) (hp : pc + 1 = pc' := by rfl) : Go p l e R s m args below meth c Z hq Q pc Ls (.int y :: .int x :: st) := by
  subst hp
  exact Go.pure (fun T t h hr => XT.ior h C.1 rfl (hb C.2.2.2.2.2.1 hd) rfl hr) K
theorem Ctx.ixor (C : Ctx p s m meth c Z own cd mx ret) {pc : Nat} {Ls : Array Slot} {st : List Value} (pc' : Nat) {x y : Int32} (hd : decode cd pc = .ok (.ixor, 1))  (K : Go p l e R s m args below meth c Z hq Q pc' Ls (.int (x ^^^ y) :: st)) (hp : pc + 1 = pc' := by rfl) : Go p l e R s m args below meth c Z hq Q pc Ls (.int y :: .int x :: st) := by
  subst hp
  exact Go.pure (fun T t h hr => XT.ixor h C.1 rfl (hb C.2.2.2.2.2.1 hd) rfl hr) K
theorem Ctx.ishl (C : Ctx p s m meth c Z own cd mx ret) {pc : Nat} {Ls : Array Slot} {st : List Value} (pc' : Nat) {x y : Int32} (hd : decode cd pc = .ok (.ishl, 1))  (K : Go p l e R s m args below meth c Z hq Q pc' Ls (.int (x <<< (y &&& 31)) :: st)) (hp : pc + 1 = pc' := by rfl) : Go p l e R s m args below meth c Z hq Q pc Ls (.int y :: .int x :: st) := by
  subst hp
  exact Go.pure (fun T t h hr => XT.ishl h C.1 rfl (hb C.2.2.2.2.2.1 hd) rfl hr) K
theorem Ctx.ishr (C : Ctx p s m meth c Z own cd mx ret) {pc : Nat} {Ls : Array Slot} {st : List Value} (pc' : Nat) {x y : Int32} (hd : decode cd pc = .ok (.ishr, 1))  (K : Go p l e R s m args below meth c Z hq Q pc' Ls (.int (x >>> (y &&& 31)) :: st)) (hp : pc + 1 = pc' := by rfl) : Go p l e R s m args below meth c Z hq Q pc Ls (.int y :: .int x :: st) := by
  subst hp
  exact Go.pure (fun T t h hr => XT.ishr h C.1 rfl (hb C.2.2.2.2.2.1 hd) rfl hr) K
theorem Ctx.iushr (C : Ctx p s m meth c Z own cd mx ret) {pc : Nat} {Ls : Array Slot} {st : List Value} (pc' : Nat) {x y : Int32} (hd : decode cd pc = .ok (.iushr, 1))  (K : Go p l e R s m args below meth c Z hq Q pc' Ls (.int (XT.ushr x y) :: st)) (hp : pc + 1 = pc' := by rfl) : Go p l e R s m args below meth c Z hq Q pc Ls (.int y :: .int x :: st) := by
  subst hp
  exact Go.pure (fun T t h hr => XT.iushr h C.1 rfl (hb C.2.2.2.2.2.1 hd) rfl hr) K
theorem Ctx.ineg (C : Ctx p s m meth c Z own cd mx ret) {pc : Nat} {Ls : Array Slot} {st : List Value} (pc' : Nat) {x : Int32} (hd : decode cd pc = .ok (.ineg, 1))  (K : Go p l e R s m args below meth c Z hq Q pc' Ls (.int (-x) :: st)) (hp : pc + 1 = pc' := by rfl) : Go p l e R s m args below meth c Z hq Q pc Ls (.int x :: st) := by
  subst hp
  exact Go.pure (fun T t h hr => XS.ineg h C.1 rfl (hb C.2.2.2.2.2.1 hd) rfl hr) K
theorem Ctx.ladd (C : Ctx p s m meth c Z own cd mx ret) {pc : Nat} {Ls : Array Slot} {st : List Value} (pc' : Nat) {x y : Int64} (hd : decode cd pc = .ok (.ladd, 1))  (K : Go p l e R s m args below meth c Z hq Q pc' Ls (.long (x + y) :: st)) (hp : pc + 1 = pc' := by rfl) : Go p l e R s m args below meth c Z hq Q pc Ls (.long y :: .long x :: st) := by
  subst hp
  exact Go.pure (fun T t h hr => XT.ladd h C.1 rfl (hb C.2.2.2.2.2.1 hd) rfl hr) K
theorem Ctx.lsub (C : Ctx p s m meth c Z own cd mx ret) {pc : Nat} {Ls : Array Slot} {st : List Value} (pc' : Nat) {x y : Int64} (hd : decode cd pc = .ok (.lsub, 1))  (K : Go p l e R s m args below meth c Z hq Q pc' Ls (.long (x - y) :: st)) (hp : pc + 1 = pc' := by rfl) : Go p l e R s m args below meth c Z hq Q pc Ls (.long y :: .long x :: st) := by
  subst hp
  exact Go.pure (fun T t h hr => XT.lsub h C.1 rfl (hb C.2.2.2.2.2.1 hd) rfl hr) K
theorem Ctx.lmul (C : Ctx p s m meth c Z own cd mx ret) {pc : Nat} {Ls : Array Slot} {st : List Value} (pc' : Nat) {x y : Int64} (hd : decode cd pc = .ok (.lmul, 1))  (K : Go p l e R s m args below meth c Z hq Q pc' Ls (.long (x * y) :: st)) (hp : pc + 1 = pc' := by rfl) : Go p l e R s m args below meth c Z hq Q pc Ls (.long y :: .long x :: st) := by
  subst hp
  exact Go.pure (fun T t h hr => XT.lmul h C.1 rfl (hb C.2.2.2.2.2.1 hd) rfl hr) K
theorem Ctx.land (C : Ctx p s m meth c Z own cd mx ret) {pc : Nat} {Ls : Array Slot} {st : List Value} (pc' : Nat) {x y : Int64} (hd : decode cd pc = .ok (.land, 1))  (K : Go p l e R s m args below meth c Z hq Q pc' Ls (.long (x &&& y) :: st)) (hp : pc + 1 = pc' := by rfl) : Go p l e R s m args below meth c Z hq Q pc Ls (.long y :: .long x :: st) := by
  subst hp
  exact Go.pure (fun T t h hr => XT.land h C.1 rfl (hb C.2.2.2.2.2.1 hd) rfl hr) K
theorem Ctx.lor (C : Ctx p s m meth c Z own cd mx ret) {pc : Nat} {Ls : Array Slot} {st : List Value} (pc' : Nat) {x y : Int64} (hd : decode cd pc = .ok (.lor, 1))  (K : Go p l e R s m args below meth c Z hq Q pc' Ls (.long (x ||| y) :: st)) (hp : pc + 1 = pc' := by rfl) : Go p l e R s m args below meth c Z hq Q pc Ls (.long y :: .long x :: st) := by
  subst hp
  exact Go.pure (fun T t h hr => XT.lor h C.1 rfl (hb C.2.2.2.2.2.1 hd) rfl hr) K
theorem Ctx.lxor (C : Ctx p s m meth c Z own cd mx ret) {pc : Nat} {Ls : Array Slot} {st : List Value} (pc' : Nat) {x y : Int64} (hd : decode cd pc = .ok (.lxor, 1))  (K : Go p l e R s m args below meth c Z hq Q pc' Ls (.long (x ^^^ y) :: st)) (hp : pc + 1 = pc' := by rfl) : Go p l e R s m args below meth c Z hq Q pc Ls (.long y :: .long x :: st) := by
  subst hp
  exact Go.pure (fun T t h hr => XT.lxor h C.1 rfl (hb C.2.2.2.2.2.1 hd) rfl hr) K
theorem Ctx.ldiv (C : Ctx p s m meth c Z own cd mx ret) {pc : Nat} {Ls : Array Slot} {st : List Value} (pc' : Nat) {x y : Int64} (hd : decode cd pc = .ok (.ldiv, 1)) (hy : y ≠ 0) (K : Go p l e R s m args below meth c Z hq Q pc' Ls (.long (x / y) :: st)) (hp : pc + 1 = pc' := by rfl) : Go p l e R s m args below meth c Z hq Q pc Ls (.long y :: .long x :: st) := by
  subst hp
  exact Go.pure (fun T t h hr => XT.ldiv h C.1 rfl (hb C.2.2.2.2.2.1 hd) rfl hy hr) K
theorem Ctx.i2l (C : Ctx p s m meth c Z own cd mx ret) {pc : Nat} {Ls : Array Slot} {st : List Value} (pc' : Nat) {x : Int32} (hd : decode cd pc = .ok (.i2l, 1))  (K : Go p l e R s m args below meth c Z hq Q pc' Ls (.long x.toInt64 :: st)) (hp : pc + 1 = pc' := by rfl) : Go p l e R s m args below meth c Z hq Q pc Ls (.int x :: st) := by
  subst hp
  exact Go.pure (fun T t h hr => XT.i2l h C.1 rfl (hb C.2.2.2.2.2.1 hd) rfl hr) K
theorem Ctx.l2i (C : Ctx p s m meth c Z own cd mx ret) {pc : Nat} {Ls : Array Slot} {st : List Value} (pc' : Nat) {x : Int64} (hd : decode cd pc = .ok (.l2i, 1))  (K : Go p l e R s m args below meth c Z hq Q pc' Ls (.int x.toInt32 :: st)) (hp : pc + 1 = pc' := by rfl) : Go p l e R s m args below meth c Z hq Q pc Ls (.long x :: st) := by
  subst hp
  exact Go.pure (fun T t h hr => XT.l2i h C.1 rfl (hb C.2.2.2.2.2.1 hd) rfl hr) K
theorem Ctx.i2b (C : Ctx p s m meth c Z own cd mx ret) {pc : Nat} {Ls : Array Slot} {st : List Value} (pc' : Nat) {x : Int32} (hd : decode cd pc = .ok (.i2b, 1))  (K : Go p l e R s m args below meth c Z hq Q pc' Ls (.int x.toInt8.toInt32 :: st)) (hp : pc + 1 = pc' := by rfl) : Go p l e R s m args below meth c Z hq Q pc Ls (.int x :: st) := by
  subst hp
  exact Go.pure (fun T t h hr => XT.i2b h C.1 rfl (hb C.2.2.2.2.2.1 hd) rfl hr) K
theorem Ctx.i2c (C : Ctx p s m meth c Z own cd mx ret) {pc : Nat} {Ls : Array Slot} {st : List Value} (pc' : Nat) {x : Int32} (hd : decode cd pc = .ok (.i2c, 1))  (K : Go p l e R s m args below meth c Z hq Q pc' Ls (.int x.toUInt32.toUInt16.toUInt32.toInt32 :: st)) (hp : pc + 1 = pc' := by rfl) : Go p l e R s m args below meth c Z hq Q pc Ls (.int x :: st) := by
  subst hp
  exact Go.pure (fun T t h hr => XT.i2c h C.1 rfl (hb C.2.2.2.2.2.1 hd) rfl hr) K
theorem Ctx.lcmp (C : Ctx p s m meth c Z own cd mx ret) {pc : Nat} {Ls : Array Slot} {st : List Value} (pc' : Nat) {x y : Int64} (hd : decode cd pc = .ok (.lcmp, 1))  (K : Go p l e R s m args below meth c Z hq Q pc' Ls (.int (XT.cmpL x y) :: st)) (hp : pc + 1 = pc' := by rfl) : Go p l e R s m args below meth c Z hq Q pc Ls (.long y :: .long x :: st) := by
  subst hp
  exact Go.pure (fun T t h hr => XT.lcmp h C.1 rfl (hb C.2.2.2.2.2.1 hd) rfl hr) K
theorem Ctx.pop (C : Ctx p s m meth c Z own cd mx ret) {pc : Nat} {Ls : Array Slot} {st : List Value} (pc' : Nat) {x : Value} (hd : decode cd pc = .ok (.pop, 1)) (hc : x.category = 1) (K : Go p l e R s m args below meth c Z hq Q pc' Ls (st)) (hp : pc + 1 = pc' := by rfl) : Go p l e R s m args below meth c Z hq Q pc Ls (x :: st) := by
  subst hp
  exact Go.pure (fun T t h hr => XT.pop h C.1 rfl (hb C.2.2.2.2.2.1 hd) rfl hc hr) K
theorem Ctx.dup (C : Ctx p s m meth c Z own cd mx ret) {pc : Nat} {Ls : Array Slot} {st : List Value} (pc' : Nat) {x : Value} (hd : decode cd pc = .ok (.dup, 1)) (hc : x.category = 1) (K : Go p l e R s m args below meth c Z hq Q pc' Ls (x :: x :: st)) (hp : pc + 1 = pc' := by rfl) : Go p l e R s m args below meth c Z hq Q pc Ls (x :: st) := by
  subst hp
  exact Go.pure (fun T t h hr => XS.dup h C.1 rfl (hb C.2.2.2.2.2.1 hd) rfl hc hr) K
theorem Ctx.dupX1 (C : Ctx p s m meth c Z own cd mx ret) {pc : Nat} {Ls : Array Slot} {st : List Value} (pc' : Nat) {x y : Value} (hd : decode cd pc = .ok (.dup_x1, 1)) (hc : x.category = 1) (hc' : y.category = 1) (K : Go p l e R s m args below meth c Z hq Q pc' Ls (x :: y :: x :: st)) (hp : pc + 1 = pc' := by rfl) : Go p l e R s m args below meth c Z hq Q pc Ls (x :: y :: st) := by
  subst hp
  exact Go.pure (fun T t h hr => XT.dupX1 h C.1 rfl (hb C.2.2.2.2.2.1 hd) rfl hc hc' hr) K
theorem Ctx.dup2 (C : Ctx p s m meth c Z own cd mx ret) {pc : Nat} {Ls : Array Slot} {st : List Value} (pc' : Nat) {x y : Value} (hd : decode cd pc = .ok (.dup2, 1)) (hc : x.category = 1) (hc' : y.category = 1) (K : Go p l e R s m args below meth c Z hq Q pc' Ls (x :: y :: x :: y :: st)) (hp : pc + 1 = pc' := by rfl) : Go p l e R s m args below meth c Z hq Q pc Ls (x :: y :: st) := by
  subst hp
  exact Go.pure (fun T t h hr => XT.dup2 h C.1 rfl (hb C.2.2.2.2.2.1 hd) rfl hc hc' hr) K

theorem Ctx.goto (C : Ctx p s m meth c Z own cd mx ret) {pc : Nat} {Ls : Array Slot} {st : List Value} (pc' : Nat) {o : Int} (hd : decode cd pc = .ok (.goto o, 3)) (ho : 0 ≤ (pc : Int) + o) (hp : ((pc : Int) + o).toNat = pc') (K : Go p l e R s m args below meth c Z hq Q pc' Ls st) : Go p l e R s m args below meth c Z hq Q pc Ls st :=
  Go.pure (fun T t h hr => XS.goto h C.1 rfl (pc0 := pc) rfl (hb C.2.2.2.2.2.1 hd) ho hp hr) K
theorem Ctx.ifY (C : Ctx p s m meth c Z own cd mx ret) {pc : Nat} {Ls : Array Slot} {st : List Value} (pc' : Nat) {o : Int} {kc : ClassFile.Cond} {x : Int32} (hd : decode cd pc = .ok (.ifCond kc o, 3)) (ho : 0 ≤ (pc : Int) + o) (hp : ((pc : Int) + o).toNat = pc') (hc : ifCond.holds kc x = true) (K : Go p l e R s m args below meth c Z hq Q pc' Ls st) : Go p l e R s m args below meth c Z hq Q pc Ls (.int x :: st) :=
  Go.pure (fun T t h hr => XS.ifYes h C.1 rfl (pc0 := pc) rfl (hb C.2.2.2.2.2.1 hd) rfl hc ho hp hr) K
theorem Ctx.ifN (C : Ctx p s m meth c Z own cd mx ret) {pc : Nat} {Ls : Array Slot} {st : List Value} (pc' : Nat) {o : Int} {kc : ClassFile.Cond} {x : Int32} (hd : decode cd pc = .ok (.ifCond kc o, 3)) (hp : pc + 3 = pc') (hc : ifCond.holds kc x = false) (K : Go p l e R s m args below meth c Z hq Q pc' Ls st) : Go p l e R s m args below meth c Z hq Q pc Ls (.int x :: st) := by
  subst hp
  exact Go.pure (fun T t h hr => XS.ifNo h C.1 rfl (hb C.2.2.2.2.2.1 hd) rfl hc hr) K
theorem Ctx.icY (C : Ctx p s m meth c Z own cd mx ret) {pc : Nat} {Ls : Array Slot} {st : List Value} (pc' : Nat) {o : Int} {kc : ClassFile.Cond} {x y : Int32} (hd : decode cd pc = .ok (.if_icmp kc o, 3)) (ho : 0 ≤ (pc : Int) + o) (hp : ((pc : Int) + o).toNat = pc') (hc : if_icmp.holds kc x y = true) (K : Go p l e R s m args below meth c Z hq Q pc' Ls st) : Go p l e R s m args below meth c Z hq Q pc Ls (.int y :: .int x :: st) :=
  Go.pure (fun T t h hr => XS.icmpYes h C.1 rfl (pc0 := pc) rfl (hb C.2.2.2.2.2.1 hd) rfl hc ho hp hr) K
theorem Ctx.icN (C : Ctx p s m meth c Z own cd mx ret) {pc : Nat} {Ls : Array Slot} {st : List Value} (pc' : Nat) {o : Int} {kc : ClassFile.Cond} {x y : Int32} (hd : decode cd pc = .ok (.if_icmp kc o, 3)) (hp : pc + 3 = pc') (hc : if_icmp.holds kc x y = false) (K : Go p l e R s m args below meth c Z hq Q pc' Ls st) : Go p l e R s m args below meth c Z hq Q pc Ls (.int y :: .int x :: st) := by
  subst hp
  exact Go.pure (fun T t h hr => XS.icmpNo h C.1 rfl (hb C.2.2.2.2.2.1 hd) rfl hc hr) K
theorem Ctx.nullY (C : Ctx p s m meth c Z own cd mx ret) {pc : Nat} {Ls : Array Slot} {st : List Value} (pc' : Nat) {o : Int} (hd : decode cd pc = .ok (.ifnull o, 3)) (ho : 0 ≤ (pc : Int) + o) (hp : ((pc : Int) + o).toNat = pc') (K : Go p l e R s m args below meth c Z hq Q pc' Ls st) : Go p l e R s m args below meth c Z hq Q pc Ls (.null :: st) :=
  Go.pure (fun T t h hr => XS.ifnullYes h C.1 rfl (pc0 := pc) rfl (hb C.2.2.2.2.2.1 hd) rfl ho hp hr) K
theorem Ctx.nullN (C : Ctx p s m meth c Z own cd mx ret) {pc : Nat} {Ls : Array Slot} {st : List Value} (pc' : Nat) {o : Int} {a : Addr} (hd : decode cd pc = .ok (.ifnull o, 3)) (hp : pc + 3 = pc') (K : Go p l e R s m args below meth c Z hq Q pc' Ls st) : Go p l e R s m args below meth c Z hq Q pc Ls (.ref a :: st) := by
  subst hp
  exact Go.pure (fun T t h hr => XS.ifnullNo h C.1 rfl (hb C.2.2.2.2.2.1 hd) rfl hr) K
theorem Ctx.nonY (C : Ctx p s m meth c Z own cd mx ret) {pc : Nat} {Ls : Array Slot} {st : List Value} (pc' : Nat) {o : Int} {a : Addr} (hd : decode cd pc = .ok (.ifnonnull o, 3)) (ho : 0 ≤ (pc : Int) + o) (hp : ((pc : Int) + o).toNat = pc') (K : Go p l e R s m args below meth c Z hq Q pc' Ls st) : Go p l e R s m args below meth c Z hq Q pc Ls (.ref a :: st) :=
  Go.pure (fun T t h hr => XT.ifnonnullYes h C.1 rfl (pc0 := pc) rfl (hb C.2.2.2.2.2.1 hd) rfl ho hp hr) K
theorem Ctx.nonN (C : Ctx p s m meth c Z own cd mx ret) {pc : Nat} {Ls : Array Slot} {st : List Value} (pc' : Nat) {o : Int} (hd : decode cd pc = .ok (.ifnonnull o, 3)) (hp : pc + 3 = pc') (K : Go p l e R s m args below meth c Z hq Q pc' Ls st) : Go p l e R s m args below meth c Z hq Q pc Ls (.null :: st) := by
  subst hp
  exact Go.pure (fun T t h hr => XT.ifnonnullNo h C.1 rfl (hb C.2.2.2.2.2.1 hd) rfl hr) K
theorem Ctx.acY (C : Ctx p s m meth c Z own cd mx ret) {pc : Nat} {Ls : Array Slot} {st : List Value} (pc' : Nat) {o : Int} {kc : ClassFile.ACond} {x y : Value} (hd : decode cd pc = .ok (.if_acmp kc o, 3)) (ho : 0 ≤ (pc : Int) + o) (hp : ((pc : Int) + o).toNat = pc') (hx : x.isRef = true) (hy : y.isRef = true) (hc : XT.acmp kc x y = true) (K : Go p l e R s m args below meth c Z hq Q pc' Ls st) : Go p l e R s m args below meth c Z hq Q pc Ls (y :: x :: st) :=
  Go.pure (fun T t h hr => XT.acmpYes h C.1 rfl (pc0 := pc) rfl (hb C.2.2.2.2.2.1 hd) rfl hx hy hc ho hp hr) K
theorem Ctx.acN (C : Ctx p s m meth c Z own cd mx ret) {pc : Nat} {Ls : Array Slot} {st : List Value} (pc' : Nat) {o : Int} {kc : ClassFile.ACond} {x y : Value} (hd : decode cd pc = .ok (.if_acmp kc o, 3)) (hp : pc + 3 = pc') (hx : x.isRef = true) (hy : y.isRef = true) (hc : XT.acmp kc x y = false) (K : Go p l e R s m args below meth c Z hq Q pc' Ls st) : Go p l e R s m args below meth c Z hq Q pc Ls (y :: x :: st) := by
  subst hp
  exact Go.pure (fun T t h hr => XT.acmpNo h C.1 rfl (hb C.2.2.2.2.2.1 hd) rfl hx hy hc hr) K
theorem Ctx.iinc (C : Ctx p s m meth c Z own cd mx ret) {pc : Nat} {Ls : Array Slot} {st : List Value} (pc' : Nat) {j : Nat} {i : Int} {x : Int32} {L' : Array Slot} (v : Int32) (hd : decode cd pc = .ok (.iinc j i, 3)) (hv : Int32.ofInt i = v) (hl : Ls[j]? = some (.val (.int x))) (hl' : storeLocals Ls j (.int (x + v)) = some L') (K : Go p l e R s m args below meth c Z hq Q pc' L' st) (hp : pc + 3 = pc' := by rfl) : Go p l e R s m args below meth c Z hq Q pc Ls st := by
  subst hp
  exact Go.pure (fun T t h hr => XT.iincV h C.1 rfl v (hb C.2.2.2.2.2.1 hd) hv hl hl' hr) K
theorem Ctx.irem (C : Ctx p s m meth c Z own cd mx ret) {pc : Nat} {Ls : Array Slot} {st : List Value} (pc' : Nat) {x y : Int32} (hd : decode cd pc = .ok (.irem, 1)) (hy : y ≠ 0) (K : Go p l e R s m args below meth c Z hq Q pc' Ls (.int (x % y) :: st)) (hp : pc + 1 = pc' := by rfl) : Go p l e R s m args below meth c Z hq Q pc Ls (.int y :: .int x :: st) := by
  subst hp
  exact Go.pure (fun T t h hr => XS.irem h C.1 rfl (hb C.2.2.2.2.2.1 hd) rfl hy (by rw [irem_eq_mod]; exact hr)) K
theorem Ctx.idiv (C : Ctx p s m meth c Z own cd mx ret) {pc : Nat} {Ls : Array Slot} {st : List Value} (pc' : Nat) {x y : Int32} (hd : decode cd pc = .ok (.idiv, 1)) (hy : y ≠ 0) (K : Go p l e R s m args below meth c Z hq Q pc' Ls (.int (x / y) :: st)) (hp : pc + 1 = pc' := by rfl) : Go p l e R s m args below meth c Z hq Q pc Ls (.int y :: .int x :: st) := by
  subst hp
  exact Go.pure (fun T t h hr => XS.idiv h C.1 rfl (hb C.2.2.2.2.2.1 hd) rfl hy hr) K
theorem Ctx.lrem (C : Ctx p s m meth c Z own cd mx ret) {pc : Nat} {Ls : Array Slot} {st : List Value} (pc' : Nat) {x y : Int64} (hd : decode cd pc = .ok (.lrem, 1)) (hy : y ≠ 0) (K : Go p l e R s m args below meth c Z hq Q pc' Ls (.long (x % y) :: st)) (hp : pc + 1 = pc' := by rfl) : Go p l e R s m args below meth c Z hq Q pc Ls (.long y :: .long x :: st) := by
  subst hp
  exact Go.pure (fun T t h hr => XT.lrem h C.1 rfl (hb C.2.2.2.2.2.1 hd) rfl hy (by rw [lrem_mod]; exact hr)) K
theorem Ctx.lushr (C : Ctx p s m meth c Z own cd mx ret) {pc : Nat} {Ls : Array Slot} {st : List Value} (pc' : Nat) {x : Int64} {y : Int32} (hd : decode cd pc = .ok (.lushr, 1)) (K : Go p l e R s m args below meth c Z hq Q pc' Ls (.long (XT.ushrL x y) :: st)) (hp : pc + 1 = pc' := by rfl) : Go p l e R s m args below meth c Z hq Q pc Ls (.int y :: .long x :: st) := by
  subst hp
  exact Go.pure (fun T t h hr => XT.lushr h C.1 rfl (hb C.2.2.2.2.2.1 hd) rfl hr) K
theorem Ctx.lshl (C : Ctx p s m meth c Z own cd mx ret) {pc : Nat} {Ls : Array Slot} {st : List Value} (pc' : Nat) {x : Int64} {y : Int32} (hd : decode cd pc = .ok (.lshl, 1)) (K : Go p l e R s m args below meth c Z hq Q pc' Ls (.long (x <<< (y.toInt64 &&& 63)) :: st)) (hp : pc + 1 = pc' := by rfl) : Go p l e R s m args below meth c Z hq Q pc Ls (.int y :: .long x :: st) := by
  subst hp
  exact Go.pure (fun T t h hr => XT.lshl h C.1 rfl (hb C.2.2.2.2.2.1 hd) rfl hr) K
theorem Ctx.getf (C : Ctx p s m meth c Z own cd mx ret) {pc : Nat} {Ls : Array Slot} {st : List Value} (pc' : Nat) {i : Nat} {R0 O nn d : String} {a : Nat} {v : Value} (hd : decode cd pc = .ok (.getfield i, 3)) (w : (Cond.fieldLink own i R0 nn d).before a0 Z = true) (via : Via Z R0 O nn d) (F : Fld Z hq a O nn d v) (K : Go p l e R s m args below meth c Z hq Q pc' Ls (v :: st)) (hpc : pc + 3 = pc' := by rfl) : Go p l e R s m args below meth c Z hq Q pc Ls (.ref a :: st) := by
  subst hpc
  intro T X eh
  obtain ⟨T2, X2, e2, st2⟩ := getF X C.1 C.2.1 (host := "") C.2.2.1 (Or.inl w) via eh F (g := mkF m pc Ls (.ref a :: st)) rfl rfl (Jvm.hb C.2.2.2.2.2.1 hd)
  obtain ⟨t, v', h1, r⟩ := K T2 X2 e2
  exact ⟨t, v', st2 _ h1, r⟩
/-- a contract of a method with an exception table -/
def MetW (l : Launch) (Z : State) (hq : Heap) (y : MethodName) (cd : ByteArray) (mx : Nat) (ret : Option FieldType) (hs : List (Nat × Nat × Nat × Nat)) (rm : Room) (as : Array Value) (Q : Option Value → Prop) : Prop :=
  MetFree l y (head1 [Jvm.Cond.codeWith y cd mx ret hs] rm) (fun a U => a = as ∧ Z.Warmed39 U.vm ∧ U.heap = hq) (fun _ _ _ _ _ => True) (fun _ U o U' => ∃ v L, o = .returned v ∧ (L = [] ∧ U'.heap = hq ∧ Q v) ∧ FrameEnd U o U' L rm.cells rm.slots)
theorem MetW.intro {y : MethodName} {hs : List (Nat × Nat × Nat × Nat)} {rm : Room} {as : Array Value} {Ls : Array Slot} (hpl : plainFor y = true) (hent : ∀ m, entryFrame m as mx = mkF m 0 Ls []) (hc : rm.cells = 0) (hn : rm.slots = 0)
    (K : ∀ p e s m below meth c, Ctx p s m meth c Z y.cls cd mx ret → Go p l e rm s m as below meth c Z hq Q 0 Ls []) : MetW l Z hq y cd mx ret hs rm as Q := by
  refine MetFree.of_bodySF hpl hisWith ?_
  intro p e s m args below meth c s₁ Bd hml0 hP hK
  obtain ⟨rfl, hZ, hh⟩ := hP
  have X0 : Stand p l e rm s m args below meth c s₁ [] 0 0 := Stand.of_body Bd
  have e0 : s₁.heap = hq := by rw [← hh, Bd.state]; rfl
  obtain ⟨t, v, h1, h2, h3, h4, h5, h6⟩ := K p e s m below meth c ⟨Bd.exec, hZ, findClass_of_methodNamed Bd.named, Bd.returns, Bd.notSynchronized, Bd.bytes, hml0⟩ s₁ X0 e0
  exact ⟨t, _, castTop (hent m) h1, h2, h3, v, [], rfl, ⟨rfl, h5, h6⟩, by rw [hc, hn]; exact h4⟩
end Own
end N
section Own5
variable {p : Program} {l : Launch} {e : Env} {R : Room} {s : State} {m : MethodId} {args : Array Value} {below : List Frame} {meth : Method} {c : Code} {Z : State} {a0 : Array Value} {own : String} {cd : ByteArray} {mx : Nat} {ret : Option FieldType} {nm : String}
variable {EL : List (String × Nat)} {n0 bk : Nat} {eb : Heap → Nat} {Q : Option Value → Heap → Prop} {h h' h1 h2 : Heap} {k n : Nat} {vm0 : Vm}
variable {pc : Nat} {Ls : Array Slot} {st : List Value} {i : Nat}
theorem own_declaresW {y : MethodName} {cd : ByteArray} {mx : Nat} {ret : Option FieldType} {hs : List (Nat × Nat × Nat × Nat)} (w2 : (Cond.instanceMethod y).before a0 Z = true) (w4 : (Cond.codeWith y cd mx ret hs).before a0 Z = true) : (Cond.declares y).before a0 Z = true := by
  obtain ⟨mk, methM, hn, hm, hs, -⟩ := Cond.instanceMethod_spec w2
  obtain ⟨m1, m2, c2, q0, q1, -, -, -, -, -, -, hsig⟩ := Cond.codeWith_spec w4
  cases hn.symm.trans q0
  cases hm.symm.trans q1
  simp [Cond.before, Cond.holds, Cond.value, hn, hm, hs, hsig]
theorem Ctx.callVW (C : Ctx p meth c Z a0 EL cd mx ret nm) (pc' : Nat) {a : Nat} {K0 : String} {y : MethodName} {cd' : ByteArray} {mx' : Nat} {ret' : Option FieldType} {hs : List (Nat × Nat × Nat × Nat)} {rm : Room} {Q' : Option Value → Prop} {W : Nat} (argsL rest : List Value) (hd : decode cd pc = .ok (.invokevirtual i, 3)) (hM : N.MetW l Z h y cd' mx' ret' hs rm (.ref a :: argsL).toArray Q') (E : Exa Z h a K0) (w1 : (Cond.methodLink own i y).before a0 Z = true) (w5 : (Cond.declares y).before a0 Z = true) (w6 : (Cond.selects K0 y y).before a0 Z = true) (w2 : (Cond.instanceMethod y).before a0 Z = true) (w3 : (Cond.initialized y.cls).before a0 Z = true) (w4 : (Cond.codeWith y cd' mx' ret' hs).before a0 Z = true) (nf : ∀ {s' : State}, Z.Warmed39 s'.vm → NotFace s' y)
    (hy : y.cls ≠ "java/lang/invoke/MethodHandle" ∧ y.cls ≠ "java/lang/invoke/VarHandle") (hsz : Ls.size = mx) (hlen : ∀ sig, parseMethodDescriptor y.desc = some sig → argsL.length = sig.parameters.length) (hf : rm.frames + 1 ≤ R.frames) (hW : 2 * 0 + (rest.map fun v => v.category).sum ≤ W) (hl : W + (mx' + 11) + rm.locals ≤ R.locals) (hkc : k ≤ R.cells) (hks : n ≤ R.slots) (hrc : rm.cells = 0) (hrs : rm.slots = 0) (hst : st = argsL.reverse ++ .ref a :: rest)
    (K : ∀ v, Q' v → Go p l e R s m args below meth c Z own EL n0 eb Q bk h k n pc' Ls (v.toList ++ rest)) (hp : pc + 3 = pc' := by rfl) : Go p l e R s m args below meth c Z own EL n0 eb Q bk h k n pc Ls st := by
  subst hp hst
  obtain ⟨hx, hEL, -, hret, hlk, hby, hmx, -⟩ := C
  intro T L vm0 X eh hF I
  have hZ' : Z.Warmed39 (s.setVm vm0).vm := I.2.1
  obtain ⟨cq, kq, qa, qb, qc⟩ := isOf hZ' eh E
  obtain ⟨v, vm₁, ⟨T2, L2, k2, n2⟩, -, X2, ⟨Lc, hQ, l2, y2, z2⟩, st2⟩ := X.virtualBack hx I.2.2.1 (mvT hZ' w1) (mvT hZ' w5) (nf hZ') (mvT hZ' w6) (mvT hZ' w2) hy (backOfWith (bytes := cd') (maxL := mx') (ret := ret') (hs := hs) (rm := rm) (Z := Z) (W := W) (h := h) (as' := (Value.ref a :: argsL).toArray) (Q := fun v hh L => L = [] ∧ hh = h ∧ Q' v) hM hZ' w4 w3 hf hl) qa qc (g := mkF m pc Ls (argsL.reverse ++ .ref a :: rest)) rfl (hsz.trans hmx.symm) (Steps.refl _) hlen rfl hW (Jvm.hb hby hd) (fun _ _ => ⟨rfl, eh, by rw [hrc]; exact hkc, by rw [hrs]; exact hks⟩)
  dsimp only [Pt.U, Pt.locs, Pt.cells, Pt.slots] at X2 l2 y2 z2 st2 hQ
  obtain ⟨rfl, h2, hq⟩ := hQ
  rw [hrc] at y2
  rw [hrs] at z2
  rw [List.append_nil] at l2
  subst l2 y2 z2
  obtain ⟨t, v', L', g1, r⟩ := K v hq T2 L2 vm0 X2 h2 hF I
  exact ⟨t, v', L', st2.trans g1, r⟩
end Own5

section Own2
variable {Z : State} {h h' h1 h2 : Heap} {a t : Nat} {b b' : Nat} {cs : List Int32} {P : Nat → Prop} {a0 : Array Value}
def own_lo (x : Int32) : Int32 := x.toInt8.toInt32
theorem own_narb (x : Int32) : nar .byte x.toInt8.toInt32 = own_lo x := by show x.toInt8.toInt32.toInt8.toInt32 = x.toInt8.toInt32; simp
theorem own_fitsb (x : Int32) : fits .byte (.int (nar .byte x)) = true := fits_nar_byte x
/-- a String of Latin-1 chars; its two cells lie below b -/
def Str (Z : State) (h : Heap) (b : Nat) (a : Nat) (cs : List Int32) : Prop := ∃ t : Nat, a < b ∧ t < b ∧ Exa Z h a "java/lang/String" ∧ Fld Z h a "java/lang/String" "coder" "B" (.int 0) ∧ Fld Z h a "java/lang/String" "value" "[B" (.ref t) ∧ Ar Z h t .byte (cs.map own_lo) ∧ ∀ x ∈ cs, ¬ x < 0 ∧ ¬ 255 < x
theorem Str.kp (F : Str Z h b a cs) (K : OKp P h h') (q : ∀ x, x < b → P x) : Str Z h' b a cs := by
  obtain ⟨t, f1, f2, f3, f4, f5, f6, f7⟩ := F
  exact ⟨t, f1, f2, own_exa K f3 (q _ f1), own_fld K f4 (q _ f1), own_fld K f5 (q _ f1), f6.kp K (q _ f2), f7⟩
theorem Str.ext (F : Str Z h b a cs) (E : Ext h h') : Str Z h' b a cs := F.kp (P := fun _ => True) (OKp.ofExt E) fun _ _ => trivial
theorem Str.wr {a' : Nat} {sl : Nat} {v : Value} (F : Str Z h b a cs) (W : Wr h h' a' sl v) (q : b ≤ a') : Str Z h' b a cs := F.kp (OKp.ofWr W) fun x r e => by rw [show x = a' from e] at r; omega
theorem Str.mono (F : Str Z h b a cs) (q : b ≤ b') : Str Z h b' a cs := by
  obtain ⟨t, f1, f2, r⟩ := F
  exact ⟨t, Nat.lt_of_lt_of_le f1 q, Nat.lt_of_lt_of_le f2 q, r⟩
theorem Str.lt (F : Str Z h b a cs) : a < h.size := by obtain ⟨t, f1, f2, f3, r⟩ := F; exact f3.lt
theorem Str.exa (F : Str Z h b a cs) : Exa Z h a "java/lang/String" := by obtain ⟨t, f1, f2, f3, r⟩ := F; exact f3
theorem Str.made (X : Exa Z h a "java/lang/String") (C : Fld Z h a "java/lang/String" "coder" "B" (.int 0)) (V : Fld Z h a "java/lang/String" "value" "[B" (.ref t)) (R : Ar Z h t .byte (cs.map own_lo)) (q : ∀ x ∈ cs, ¬ x < 0 ∧ ¬ 255 < x) : Str Z h h.size a cs := ⟨t, X.lt, R.lt, X, C, V, R, q⟩
theorem Str.lit {kb : ClassId} (X : Exa Z h a "java/lang/String") (C : Fld Z h a "java/lang/String" "coder" "B" (.int 0)) (V : Fld Z h a "java/lang/String" "value" "[B" (.ref t)) (W : Arv Z h t kb .byte (Int32.ofNat (cs.map own_lo).length) ((cs.map own_lo).map Value.int) (.int 0)) (hl : (cs.map own_lo).length < 2147483648) (q : ∀ x ∈ cs, ¬ x < 0 ∧ ¬ 255 < x) : Str Z h h.size a cs :=
  Str.made X C V (Ar.ofArv W hl) q
theorem Str.obj {C : String} {kk : Nat} {x : Nat} (F : Str Z h b a cs) (K : OKp (fun y => y ≠ x) h h') (E : Exa Z h x C) (hC : "java/lang/String" ≠ C) (wi : (Cond.instantiable C kk).before a0 Z = true) : Str Z h' b a cs := by
  obtain ⟨t, f1, f2, f3, f4, f5, f6, f7⟩ := F
  have n1 : a ≠ x := ne_exa f3 E hC
  have n2 : t ≠ x := Ne.symm (own_ne_exa_ar E wi f6)
  exact ⟨t, f1, f2, own_exa K f3 n1, own_fld K f4 n1, own_fld K f5 n1, f6.kp K n2, f7⟩
theorem own_c0 {x : Int32} (h1 : ¬ x < 0) (h2 : ¬ 255 < x) : x.toUInt32.toUInt16.toUInt32.toInt32 = x := by
  have q := c_i2c x
  rw [Int32.lt_iff_toInt_lt] at h1 h2
  have e1 : (0 : Int32).toInt = 0 := rfl
  have e2 : (255 : Int32).toInt = 255 := by decide
  rw [← Int32.toInt_inj]
  omega
theorem own_lo_inj {x y : Int32} (h1 : ¬ x < 0) (h2 : ¬ 255 < x) (k1 : ¬ y < 0) (k2 : ¬ 255 < y) (e : own_lo x = own_lo y) : x = y := by
  have q1 := c_i2b x
  have q2 := c_i2b y
  simp only [own_lo] at e
  rw [e] at q1
  rw [Int32.lt_iff_toInt_lt] at h1 h2 k1 k2
  have e1 : (0 : Int32).toInt = 0 := rfl
  have e2 : (255 : Int32).toInt = 255 := by decide
  rw [← Int32.toInt_inj]
  omega
theorem own_mapinj : ∀ {xs ys : List Int32}, (∀ x ∈ xs, ¬ x < 0 ∧ ¬ 255 < x) → (∀ x ∈ ys, ¬ x < 0 ∧ ¬ 255 < x) → (xs.map own_lo = ys.map own_lo ↔ xs = ys)
  | [], [], _, _ => by simp
  | [], _ :: _, _, _ => by simp
  | _ :: _, [], _, _ => by simp
  | x :: xs, y :: ys, p, q => by
    have ih := own_mapinj (xs := xs) (ys := ys) (fun z hz => p z (List.mem_cons_of_mem _ hz)) (fun z hz => q z (List.mem_cons_of_mem _ hz))
    have px := p x List.mem_cons_self
    have qy := q y List.mem_cons_self
    simp only [List.map_cons, List.cons.injEq, ih]
    exact ⟨fun ⟨u, v⟩ => ⟨own_lo_inj px.1 px.2 qy.1 qy.2 u, v⟩, fun ⟨u, v⟩ => ⟨by rw [u], v⟩⟩
theorem own_ofNat {i j : Nat} (hi : i < 2147483648) (hj : j < 2147483648) : (Int32.ofNat i = Int32.ofNat j ↔ i = j) ∧ (Int32.ofNat i < Int32.ofNat j ↔ i < j) := by
  have e1 : (Int32.ofNat i).toInt = i := Int32.toInt_ofNat_small (by omega)
  have e2 : (Int32.ofNat j).toInt = j := Int32.toInt_ofNat_small (by omega)
  rw [← Int32.toInt_inj, Int32.lt_iff_toInt_lt, e1, e2]
  omega
theorem own_succ (i : Nat) : Int32.ofNat i + 1 = Int32.ofNat (i + 1) := (Int32.ofNat_add i 1).symm
/-- an int that says whether P -/
def OB (r : Int32) (P : Prop) : Prop := (r = 1 ∧ P) ∨ (r = 0 ∧ ¬ P)
theorem OB.y {u : Int32} {P : Prop} (h : OB u P) (q : ¬ u = 0) : P := h.elim (·.2) fun r => absurd r.1 q
theorem OB.n {u : Int32} {P : Prop} (h : OB u P) (q : u = 0) : ¬ P := h.elim (fun r => absurd (r.1.symm.trans q) (by decide)) (·.2)
theorem OB.one {u : Int32} {P : Prop} (h : OB u P) (q : P) : u = 1 := h.elim (·.1) fun r => absurd q r.2
theorem OB.zero {u : Int32} {P : Prop} (h : OB u P) (q : ¬ P) : u = 0 := h.elim (fun r => absurd r.2 q) (·.1)
theorem own_arlen {xs : List Int32} {ty : FieldType} (A : Ar Z h a ty xs) : xs.length < 2147483648 := by obtain ⟨_, _, _, g, _⟩ := A; exact g
theorem own_arfun {xs ys : List Int32} {ty ty' : FieldType} (A : Ar Z h a ty xs) (B : Ar Z h a ty' ys) : xs = ys := by
  obtain ⟨c1, A1, a1, a2, a3, a4⟩ := A
  obtain ⟨c2, B1, b1, b2, b3, b4⟩ := B
  cases A1.1.symm.trans B1.1
  refine List.ext_getElem? fun i => ?_
  by_cases q : i < xs.length
  · have e1 := List.getElem?_eq_getElem q
    have e2 := List.getElem?_eq_getElem (show i < ys.length by omega)
    rw [e1, e2]
    have := (a3 i _ e1).symm.trans (b3 i _ e2)
    simpa using this
  · rw [List.getElem?_eq_none (by omega), List.getElem?_eq_none (by omega)]
theorem own_fldfun {C n d : String} {v w : Value} (F : Fld Z h a C n d v) (G : Fld Z h a C n d w) : v = w := by
  obtain ⟨c1, cf1, k1, i1, f1, p1, p2, p3, p4, p5, p6, p7⟩ := F
  obtain ⟨c2, cf2, k2, i2, f2, q1, q2, q3, q4, q5, q6, q7⟩ := G
  cases p1.symm.trans q1
  cases p2.symm.trans q2
  exact Option.some.inj (p7.symm.trans q7)
theorem own_strfun {b' : Nat} {ds : List Int32} (F : Str Z h b a cs) (G : Str Z h b' a ds) : cs = ds := by
  obtain ⟨t, f1, f2, f3, f4, f5, f6, f7⟩ := F
  obtain ⟨u, g1, g2, g3, g4, g5, g6, g7⟩ := G
  cases own_fldfun f5 g5
  exact (own_mapinj f7 g7).mp (own_arfun f6 g6)
theorem own_sub0 (z : Int32) : XT.ushr (z - z) 31 = 0 := by
  have e : z - z = 0 := Int32.sub_self z
  rw [e]; decide
theorem own_shr0 (z : Int32) : z >>> ((0 : Int32) &&& 31) = z := by
  have q := c_ishr z 0 0 (by decide)
  rw [← Int32.toInt_inj, q]; simp
theorem own_loand {x : Int32} (h1 : ¬ x < 0) (h2 : ¬ 255 < x) : own_lo x &&& 255 = x := by
  have q1 := c_i2b x
  have q2 := c_mask (own_lo x) 255 8 (by decide) (by decide)
  rw [Int32.lt_iff_toInt_lt] at h1 h2
  have e1 : (0 : Int32).toInt = 0 := rfl
  have e2 : (255 : Int32).toInt = 255 := by decide
  rw [← Int32.toInt_inj, q2]
  simp only [own_lo]
  omega
theorem own_ch {x : Int32} (h1 : ¬ x < 0) (h2 : ¬ 255 < x) : nar .char (own_lo x &&& 255).toUInt32.toUInt16.toUInt32.toInt32 = x := by
  rw [own_loand h1 h2, own_c0 h1 h2]; exact own_c0 h1 h2
theorem own_chget {cs : List Int32} {i : Nat} {x : Int32} (h : cs[i]? = some x) : (cs.map own_lo)[i]? = some (own_lo x) := by rw [List.getElem?_map, h]; rfl
end Own2

section Own3
variable {Z : State} {h h' h1 h2 : Heap} {sb t : Nat} {cap : Nat} {cs : List Int32} {P : Nat → Prop} {a0 : Array Value}
theorem own_declares {y : MethodName} {cd : ByteArray} {mx : Nat} {ret : Option FieldType} (w2 : (Cond.instanceMethod y).before a0 Z = true) (w4 : (Cond.code y cd mx ret).before a0 Z = true) : (Cond.declares y).before a0 Z = true := by
  obtain ⟨mk, methM, hn, hm, hs, -⟩ := Cond.instanceMethod_spec w2
  obtain ⟨m2, c2, q1, -, -, -, -, -, -, hsig⟩ := Cond.code_spec hn w4
  cases hm.symm.trans q1
  simp [Cond.before, Cond.holds, Cond.value, hn, hm, hs, hsig]
theorem own_same {x y z : MethodName} {K : String} (wd : (Cond.declares y).before a0 Z = true) (ws : (Cond.selects K x z).before a0 Z = true) (hc : z.cls = y.cls) (hy : y.cls ≠ "java/lang/invoke/MethodHandle" ∧ y.cls ≠ "java/lang/invoke/VarHandle") : (Cond.sameMethod y.cls y.cls y.name y.desc).before a0 Z = true := by
  obtain ⟨r0, r, hn, hrm, -, -⟩ := Cond.declares_spec wd
  obtain ⟨c, r1, m1, q1, q2, q3, q4, mk, q5, q6⟩ := Cond.selects_spec ws
  have hf := State.methodFound?_of_named hn hy
  have hcl := findClass_of_methodNamed hn
  have hcl2 := findClass_of_methodNamed q3
  rw [hc, hcl] at hcl2
  have e : r0.cls = m1.cls := Option.some.inj hcl2
  rw [← e] at q5
  simp [Cond.before, Cond.holds, Cond.value, hcl, hf, hn, q5, q6]
/-- a StringBuilder of Latin-1 chars, with its array and capacity -/
def SB (Z : State) (h : Heap) (sb t : Nat) (cap : Nat) (cs : List Int32) : Prop := Exa Z h sb "java/lang/StringBuilder" ∧ Fld Z h sb "java/lang/AbstractStringBuilder" "value" "[B" (.ref t) ∧ Fld Z h sb "java/lang/AbstractStringBuilder" "coder" "B" (.int 0) ∧ Fld Z h sb "java/lang/AbstractStringBuilder" "count" "I" (.int (Int32.ofNat cs.length)) ∧ Ar Z h t .byte (cs.map own_lo ++ List.replicate (cap - cs.length) 0) ∧ cs.length ≤ cap ∧ ∀ x ∈ cs, ¬ x < 0 ∧ ¬ 255 < x
theorem SB.kp (F : SB Z h sb t cap cs) (K : OKp P h h') (q1 : P sb) (q2 : P t) : SB Z h' sb t cap cs := by
  obtain ⟨f1, f2, f3, f4, f5, f6, f7⟩ := F
  exact ⟨own_exa K f1 q1, own_fld K f2 q1, own_fld K f3 q1, own_fld K f4 q1, f5.kp K q2, f6, f7⟩
theorem SB.ext (F : SB Z h sb t cap cs) (E : Ext h h') : SB Z h' sb t cap cs := F.kp (P := fun _ => True) (OKp.ofExt E) trivial trivial
theorem SB.lts (F : SB Z h sb t cap cs) : sb < h.size := F.1.lt
theorem SB.ltt (F : SB Z h sb t cap cs) : t < h.size := F.2.2.2.2.1.lt
theorem own_sblen (hc : cs.length ≤ cap) : (cs.map own_lo ++ List.replicate (cap - cs.length) (0 : Int32)).length = cap := by simp; omega
theorem own_subneg {k : Nat} (hk : k ≤ cap) (hc : cap < 2147483648) : ¬ 0 < Int32.ofNat k - Int32.ofNat cap := by
  have q := c_isub (Int32.ofNat k) (Int32.ofNat cap)
  have r := rng32 (Int32.ofNat k - Int32.ofNat cap)
  have e1 : (Int32.ofNat k).toInt = k := Int32.toInt_ofNat_small (by omega)
  have e2 : (Int32.ofNat cap).toInt = cap := Int32.toInt_ofNat_small (by omega)
  rw [Int32.lt_iff_toInt_lt]
  have : (0 : Int32).toInt = 0 := rfl
  omega
theorem own_shl0 (z : Int32) : z <<< ((0 : Int32) &&& 31) = z := by
  have q := c_ishl z 0 0 (by decide)
  have r := rng32 z
  have r2 := rng32 (z <<< ((0 : Int32) &&& 31))
  rw [← Int32.toInt_inj]
  simp only [show (2 : Nat) ^ 0 = 1 from rfl] at q
  omega
theorem own_addn (i j : Nat) : Int32.ofNat i + Int32.ofNat j = Int32.ofNat (i + j) := (Int32.ofNat_add i j).symm
theorem own_sbput {ds : List Int32} (hc : cs.length + ds.length ≤ cap) : (cs.map own_lo ++ List.replicate (cap - cs.length) (0 : Int32)).take cs.length ++ ds.map own_lo ++ (cs.map own_lo ++ List.replicate (cap - cs.length) (0 : Int32)).drop (cs.length + ds.length) = (cs ++ ds).map own_lo ++ List.replicate (cap - (cs ++ ds).length) 0 := by
  have l1 : (cs.map own_lo).length = cs.length := List.length_map _
  rw [List.take_append_of_le_length (by omega), List.take_of_length_le (by omega), List.drop_append, List.drop_of_length_le (by omega), l1, List.nil_append, List.drop_replicate, List.map_append, List.length_append]
  congr 2
  omega
theorem own_sbset {x : Int32} (hc : cs.length + 1 ≤ cap) : (cs.map own_lo ++ List.replicate (cap - cs.length) (0 : Int32)).set cs.length (own_lo x) = (cs ++ [x]).map own_lo ++ List.replicate (cap - (cs ++ [x]).length) 0 := by
  have l1 : (cs.map own_lo).length = cs.length := List.length_map _
  rw [List.set_append_right _ _ (by omega), l1, Nat.sub_self]
  obtain ⟨d, hd⟩ : ∃ d, cap - cs.length = d + 1 := ⟨cap - cs.length - 1, by omega⟩
  rw [hd, List.replicate_succ, List.set_cons_zero, List.map_append, List.length_append, show cap - (cs.length + [x].length) = d by simp; omega]
  simp
theorem own_sbtake (hc : cs.length ≤ cap) : (cs.map own_lo ++ List.replicate (cap - cs.length) (0 : Int32)).take cs.length = cs.map own_lo := by
  have l1 : (cs.map own_lo).length = cs.length := List.length_map _
  rw [List.take_append_of_le_length (by omega), List.take_of_length_le (by omega)]
theorem own_ranges {ds : List Int32} (h1 : ∀ x ∈ cs, ¬ x < 0 ∧ ¬ 255 < x) (h2 : ∀ x ∈ ds, ¬ x < 0 ∧ ¬ 255 < x) : ∀ x ∈ cs ++ ds, ¬ x < 0 ∧ ¬ 255 < x := fun x hx => (List.mem_append.mp hx).elim (h1 x) (h2 x)
end Own3

def StrB (Z : State) (h : Heap) (a : Nat) (cs : List Int32) : Prop := ∃ t : Nat, Fld Z h a "java/lang/String" "value" "[B" (.ref t) ∧ Ar Z h t .byte (cs.map own_lo) ∧ Exa Z h t "[B"
def own_u8 (k : Nat) : List Nat := if k < 128 then [k] else [192 + k / 64, 128 + k % 64]
def own_utf (ks : List Nat) : List Nat := ks.flatMap own_u8
def own_al (k : Nat) : Int32 := if k < 26 then Int32.ofNat (65 + k) else if k < 52 then Int32.ofNat (71 + k) else if k < 62 then Int32.ofNat (k - 4) else if k = 62 then 45 else 95
def own_b64 : List Nat → List Int32
  | a :: b :: c :: r => own_al (a / 4) :: own_al (a % 4 * 16 + b / 16) :: own_al (b % 16 * 4 + c / 64) :: own_al (c % 64) :: own_b64 r
  | [a, b] => [own_al (a / 4), own_al (a % 4 * 16 + b / 16), own_al (b % 16 * 4)]
  | [a] => [own_al (a / 4), own_al (a % 4 * 16)]
  | [] => []
/-- how long the code of n bytes is -/
def own_ol (n : Nat) : Nat := 4 * (n / 3) + if n % 3 = 0 then 0 else n % 3 + 1
def own_T : List Int32 := (List.range 64).map own_al
theorem own_Tget {k : Nat} (h : k < 64) : own_T[k]? = some (own_al k) := by simp [own_T, h]
theorem own_Tlen : own_T.length = 64 := by simp [own_T]
theorem own_u8r {k : Nat} (h : k < 256) : ∀ x ∈ own_u8 k, x < 256 := by
  unfold own_u8; split
  · intro x hx; cases List.mem_singleton.mp hx; exact h
  · intro x hx; simp at hx; omega
theorem own_u8l (k : Nat) : 1 ≤ (own_u8 k).length ∧ (own_u8 k).length ≤ 2 := by unfold own_u8; split <;> simp
theorem own_utfr {ks : List Nat} (h : ∀ k ∈ ks, k < 256) : ∀ x ∈ own_utf ks, x < 256 := by
  intro x hx
  obtain ⟨k, hk, hx⟩ := List.mem_flatMap.mp hx
  exact own_u8r (h k hk) x hx
theorem own_utfl : ∀ (ks : List Nat), ks.length ≤ (own_utf ks).length ∧ (own_utf ks).length ≤ 2 * ks.length
  | [] => by simp [own_utf]
  | k :: ks => by
    have ih := own_utfl ks
    have q := own_u8l k
    simp only [own_utf, List.flatMap_cons, List.length_append, List.length_cons] at ih ⊢
    omega
theorem own_utfa {ks : List Nat} (h : ∀ k ∈ ks, k < 128) : own_utf ks = ks := by
  induction ks with
  | nil => rfl
  | cons k ks ih =>
    have e : own_u8 k = [k] := if_pos (h k List.mem_cons_self)
    show own_u8 k ++ own_utf ks = _
    rw [e, ih (fun x hx => h x (List.mem_cons_of_mem _ hx))]; rfl
theorem own_utft {ks : List Nat} {i k : Nat} (h : ks[i]? = some k) : own_utf (ks.take (i + 1)) = own_utf (ks.take i) ++ own_u8 k := by
  rw [List.take_succ, h]
  simp [own_utf]
theorem own_bl : ∀ (bs : List Nat), (own_b64 bs).length = own_ol bs.length
  | [] => rfl
  | [a] => by simp [own_b64, own_ol]
  | [a, b] => by simp [own_b64, own_ol]
  | a :: b :: c :: r => by
    have ih := own_bl r
    simp only [own_b64, List.length_cons, ih, own_ol]
    rw [show r.length + 1 + 1 + 1 = r.length + 3 by omega, show (r.length + 3) % 3 = r.length % 3 by omega, show (r.length + 3) / 3 = r.length / 3 + 1 by omega]
    omega
theorem own_bt : ∀ (q : Nat) (bs : List Nat), 3 * q ≤ bs.length → own_b64 bs = own_b64 (bs.take (3 * q)) ++ own_b64 (bs.drop (3 * q))
  | 0, bs, _ => by simp [own_b64]
  | q + 1, bs, h => by
    match bs, h with
    | a :: b :: c :: r, h =>
      have ih := own_bt q r (by simp at h; omega)
      rw [show 3 * (q + 1) = 3 * q + 1 + 1 + 1 by omega]
      simp only [List.take_succ_cons, List.drop_succ_cons, own_b64, List.cons_append]
      rw [ih]
    | [], h => simp at h
    | [a], h => simp at h; omega
    | [a, b], h => simp at h; omega
theorem own_btl {q : Nat} {bs : List Nat} (h : 3 * q ≤ bs.length) : (own_b64 (bs.take (3 * q))).length = 4 * q := by
  rw [own_bl, List.length_take, Nat.min_eq_left h, own_ol, show 3 * q % 3 = 0 by omega, if_pos rfl]; omega
theorem own_g1 {bs : List Nat} {st x1 : Nat} (h1 : bs[st]? = some x1) (hl : bs.length = st + 1) : bs.drop st = [x1] := by
  obtain ⟨hi, e⟩ := List.getElem?_eq_some_iff.mp h1
  rw [List.drop_eq_getElem_cons hi, e, List.drop_eq_nil_of_le (by omega)]
theorem own_g2 {bs : List Nat} {st x1 x2 : Nat} (h1 : bs[st]? = some x1) (h2 : bs[st + 1]? = some x2) (hl : bs.length = st + 2) : bs.drop st = [x1, x2] := by
  obtain ⟨hi, e⟩ := List.getElem?_eq_some_iff.mp h1
  rw [List.drop_eq_getElem_cons hi, e, own_g1 h2 (by omega)]
theorem own_g3 {bs : List Nat} {st x1 x2 x3 : Nat} (h1 : bs[st]? = some x1) (h2 : bs[st + 1]? = some x2) (h3 : bs[st + 2]? = some x3) : bs.drop st = x1 :: x2 :: x3 :: bs.drop (st + 3) := by
  obtain ⟨i1, e1⟩ := List.getElem?_eq_some_iff.mp h1
  obtain ⟨i2, e2⟩ := List.getElem?_eq_some_iff.mp h2
  obtain ⟨i3, e3⟩ := List.getElem?_eq_some_iff.mp h3
  rw [List.drop_eq_getElem_cons i1, e1, List.drop_eq_getElem_cons i2, e2, List.drop_eq_getElem_cons i3, e3]
theorem own_b3 {bs : List Nat} {q x1 x2 x3 : Nat} (h1 : bs[3 * q]? = some x1) (h2 : bs[3 * q + 1]? = some x2) (h3 : bs[3 * q + 2]? = some x3) : own_b64 (bs.take (3 * (q + 1))) = own_b64 (bs.take (3 * q)) ++ [own_al (x1 / 4), own_al (x1 % 4 * 16 + x2 / 16), own_al (x2 % 16 * 4 + x3 / 64), own_al (x3 % 64)] := by
  have i3 := (List.getElem?_eq_some_iff.mp h3).1
  rw [own_bt q (bs.take (3 * (q + 1))) (by rw [List.length_take]; omega), List.take_take, Nat.min_eq_left (by omega)]
  congr 1
  rw [List.drop_take, own_g3 h1 h2 h3, show 3 * (q + 1) - 3 * q = 3 by omega]
  simp [own_b64]
/-- the three groups that the law builds -/
theorem own_grp {bs : List Nat} (h : bs.length ≤ 7) : own_b64 ((bs.drop 0).take 3) ++ own_b64 ((bs.drop 3).take 3) ++ own_b64 ((bs.drop 6).take 3) = own_b64 bs := by
  match bs, h with
  | [], _ => rfl
  | [a], _ => rfl
  | [a, b], _ => rfl
  | [a, b, c], _ => rfl
  | [a, b, c, d], _ => rfl
  | [a, b, c, d, e], _ => rfl
  | [a, b, c, d, e, f], _ => rfl
  | [a, b, c, d, e, f, g], _ => rfl
theorem own_alr : ∀ k, k < 64 → ¬ own_al k < 0 ∧ ¬ 127 < own_al k := by decide +kernel
theorem own_nb : ∀ k, k < 64 → (own_al k).toInt8.toInt32.toInt8.toInt32 = own_al k := by decide +kernel
theorem own_nb1 : ∀ k, k < 64 → (own_al k).toInt8.toInt32 = own_al k := by decide +kernel
theorem own_nc : ∀ k, k < 64 → (own_al k).toUInt32.toUInt16.toUInt32.toInt32 = own_al k := by decide +kernel
/- alpha -/
theorem own_a1 : ∀ k, k < 26 → ((65 : Int32) + Int32.ofNat k).toUInt32.toUInt16.toUInt32.toInt32.toUInt32.toUInt16.toUInt32.toInt32 = own_al k := by decide +kernel
theorem own_a2 : ∀ k, k < 52 → ¬ k < 26 → (((97 : Int32) + Int32.ofNat k) - 26).toUInt32.toUInt16.toUInt32.toInt32.toUInt32.toUInt16.toUInt32.toInt32 = own_al k := by decide +kernel
theorem own_a3 : ∀ k, k < 62 → ¬ k < 52 → (((48 : Int32) + Int32.ofNat k) - 52).toUInt32.toUInt16.toUInt32.toInt32.toUInt32.toUInt16.toUInt32.toInt32 = own_al k := by decide +kernel
/- ints of small numbers -/
theorem own_f1 : ∀ k, k < 256 → ¬ k < 128 → ((192 : Int32) ||| (Int32.ofNat k >>> ((6 : Int32) &&& 31))) = Int32.ofNat (192 + k / 64) := by decide +kernel
theorem own_f2 : ∀ k, k < 256 → ((128 : Int32) ||| (Int32.ofNat k &&& 63)) = Int32.ofNat (128 + k % 64) := by decide +kernel
theorem own_s2 : ∀ k, k < 256 → (Int32.ofNat k >>> ((2 : Int32) &&& 31)) = Int32.ofNat (k / 4) := by decide +kernel
theorem own_s4 : ∀ k, k < 256 → (Int32.ofNat k >>> ((4 : Int32) &&& 31)) = Int32.ofNat (k / 16) := by decide +kernel
theorem own_s6 : ∀ k, k < 256 → (Int32.ofNat k >>> ((6 : Int32) &&& 31)) = Int32.ofNat (k / 64) := by decide +kernel
theorem own_p4 : ∀ k, k < 256 → ((Int32.ofNat k &&& 3) <<< ((4 : Int32) &&& 31)) = Int32.ofNat (k % 4 * 16) := by decide +kernel
theorem own_p2 : ∀ k, k < 256 → ((Int32.ofNat k &&& 15) <<< ((2 : Int32) &&& 31)) = Int32.ofNat (k % 16 * 4) := by decide +kernel
theorem own_p63 : ∀ k, k < 256 → (Int32.ofNat k &&& 63) = Int32.ofNat (k % 64) := by decide +kernel
theorem own_q4 : ∀ k, k < 256 → ((Int32.ofNat k <<< ((4 : Int32) &&& 31)) &&& 63) = Int32.ofNat (k % 4 * 16) := by decide +kernel
theorem own_q2 : ∀ k, k < 256 → ((Int32.ofNat k <<< ((2 : Int32) &&& 31)) &&& 63) = Int32.ofNat (k % 16 * 4) := by decide +kernel
theorem own_o4 : ∀ a, a < 4 → ∀ b, b < 16 → (Int32.ofNat (a * 16) ||| Int32.ofNat b) = Int32.ofNat (a * 16 + b) := by decide +kernel
theorem own_o2 : ∀ a, a < 16 → ∀ b, b < 4 → (Int32.ofNat (a * 4) ||| Int32.ofNat b) = Int32.ofNat (a * 4 + b) := by decide +kernel
theorem own_z4 {x y : Nat} (hx : x < 256) (hy : y < 256) : ((Int32.ofNat x &&& 3) <<< ((4 : Int32) &&& 31)) ||| (Int32.ofNat y >>> ((4 : Int32) &&& 31)) = Int32.ofNat (x % 4 * 16 + y / 16) := by
  rw [own_p4 x hx, own_s4 y hy, own_o4 _ (by omega) _ (by omega)]
theorem own_z2 {x y : Nat} (hx : x < 256) (hy : y < 256) : ((Int32.ofNat x &&& 15) <<< ((2 : Int32) &&& 31)) ||| (Int32.ofNat y >>> ((6 : Int32) &&& 31)) = Int32.ofNat (x % 16 * 4 + y / 64) := by
  rw [own_p2 x hx, own_s6 y hy, own_o2 _ (by omega) _ (by omega)]
theorem own_y4 {x y : Nat} (hx : x < 256) (hy : y < 256) : ((Int32.ofNat x <<< ((4 : Int32) &&& 31)) &&& 63) ||| (Int32.ofNat y >>> ((4 : Int32) &&& 31)) = Int32.ofNat (x % 4 * 16 + y / 16) := by
  rw [own_q4 x hx, own_s4 y hy, own_o4 _ (by omega) _ (by omega)]
/- bytes -/
theorem own_m255 : ∀ k, k < 256 → ((Int32.ofNat k).toInt8.toInt32 &&& 255) = Int32.ofNat k := by decide +kernel
theorem own_neg : ∀ k, k < 256 → ((Int32.ofNat k).toInt8.toInt32 < 0 ↔ ¬ k < 128) := by decide +kernel
theorem own_e1 : ∀ k, k < 256 → ¬ k < 128 → ((192 : Int32) ||| (((Int32.ofNat k).toInt8.toInt32 &&& 255) >>> ((6 : Int32) &&& 31))).toInt8.toInt32.toInt8.toInt32 = (Int32.ofNat (192 + k / 64)).toInt8.toInt32 := by decide +kernel
theorem own_e2 : ∀ k, k < 256 → ((128 : Int32) ||| ((Int32.ofNat k).toInt8.toInt32 &&& 63)).toInt8.toInt32.toInt8.toInt32 = (Int32.ofNat (128 + k % 64)).toInt8.toInt32 := by decide +kernel
theorem own_e3 : ∀ k, k < 256 → (Int32.ofNat k).toInt8.toInt32.toInt8.toInt32 = (Int32.ofNat k).toInt8.toInt32 := by decide +kernel
theorem own_h16 : ∀ k, k < 256 → (Int32.ofNat k <<< ((16 : Int32) &&& 31)) = Int32.ofNat (k * 65536) := by decide +kernel
theorem own_h8 : ∀ k, k < 256 → (Int32.ofNat k <<< ((8 : Int32) &&& 31)) = Int32.ofNat (k * 256) := by decide +kernel
theorem own_ior (a b : Nat) : Int32.ofNat a ||| Int32.ofNat b = Int32.ofNat (a ||| b) := by
  apply Int32.toBitVec_inj.mp
  show BitVec.ofNat 32 a ||| BitVec.ofNat 32 b = BitVec.ofNat 32 (a ||| b)
  apply BitVec.eq_of_toNat_eq
  simp [BitVec.toNat_or, Nat.or_mod_two_pow]
theorem own_h24 {x y z : Nat} (hx : x < 256) (hy : y < 256) (hz : z < 256) : ((Int32.ofNat x <<< ((16 : Int32) &&& 31)) ||| (Int32.ofNat y <<< ((8 : Int32) &&& 31))) ||| Int32.ofNat z = Int32.ofNat (x * 65536 + y * 256 + z) := by
  rw [own_h16 x hx, own_h8 y hy, own_ior, own_ior]
  congr 1
  have e1 : x * 65536 ||| y * 256 = x * 65536 + y * 256 := by
    rw [show x * 65536 = x <<< 16 by rw [Nat.shiftLeft_eq], ← Nat.shiftLeft_add_eq_or_of_lt (by omega)]
  rw [e1, show x * 65536 + y * 256 = (x * 256 + y) <<< 8 by rw [Nat.shiftLeft_eq]; omega, ← Nat.shiftLeft_add_eq_or_of_lt (by omega)]
theorem own_div3 : ∀ n, n < 8 → (Int32.ofNat n - 0) / 3 * 3 = Int32.ofNat (3 * (n / 3)) := by decide +kernel
theorem own_olI : ∀ n, n < 8 → Int32.ofNat (4 * (n / 3)) + (if n % 3 = 0 then 0 else Int32.ofNat (n % 3 + 1)) = Int32.ofNat (own_ol n) := by decide +kernel

theorem pn_0 : plainName "java/lang/StringLatin1" = true := by first | (simp [plainName, overriddenIn]; done) | decide +kernel
theorem d0_0 : decode jdk_43_method_3_code 0 = .ok (.iload_n 0, 1) := by decide +kernel
theorem d0_1 : decode jdk_43_method_3_code 1 = .ok (.sipush 255, 3) := by decide +kernel
theorem d0_4 : decode jdk_43_method_3_code 4 = .ok (.if_icmp .gt 7, 3) := by decide +kernel
theorem d0_7 : decode jdk_43_method_3_code 7 = .ok (.iconst 1, 1) := by decide +kernel
theorem d0_8 : decode jdk_43_method_3_code 8 = .ok (.goto 4, 3) := by decide +kernel
theorem d0_12 : decode jdk_43_method_3_code 12 = .ok (.ireturn, 1) := by decide +kernel
theorem ef_1 (m : MethodId) (x0 : Int32) : entryFrame m #[(.int x0)] 1 = mkF m 0 #[.val (.int x0)] [] := by first | (simp [entryFrame, mkF, argsToLocals, Value.category]; done) | rfl
set_option maxRecDepth 65536 in
set_option maxHeartbeats 40000000 in
theorem met_can (l : Launch) (Z : State) (a0 : Array Value) (hw : ∀ d ∈ tables_1, d.before a0 Z = true) (EL : List (String × Nat)) (hEL : EW Z a0 EL) (n0 bk : Nat) (h0 : Heap) (hz0 : Z.heap.size ≤ n0) (hn0 : n0 ≤ h0.size) (x : Int32) (q : ¬ 255 < x) : Met l Z EL (⟨"java/lang/StringLatin1", "canEncode", "(C)Z"⟩ : MethodName) jdk_43_method_3_code 1 (some .boolean) [] ({ frames := 0, cells := 0, slots := 0, locals := 0 } : Room) #[(.int x)] n0 bk h0 (fun _ => bk) (fun v h => v = some (.int 1) ∧ h0 = h) := by
  refine Met.intro (plainFor_of_name pn_0) (fun m => ef_1 m x) hz0 hEL ?_
  intro hE0 p e s m below meth c C
  refine C.iloadN 1 d0_0 rfl ?_
  refine C.sipush 4 (255 : Int32) d0_1 (by decide) ?_
  refine C.icN 7 d0_4 rfl (XT.ii_gt_f (show ¬ ((255 : Int32) < x) from q)) ?_
  refine C.iconst 8 (1 : Int32) d0_7 (by decide) ?_
  refine C.goto 12 d0_8 (by decide) (by decide) ?_
  refine C.retN (t := .boolean) rfl (by simp) d0_12 (by decide) (by decide) (Or.inl (Nat.le_refl _)) ?_
  exact ⟨rfl, rfl⟩
theorem d1_0 : decode jdk_43_method_46_code 0 = .ok (.iconst 1, 1) := by decide +kernel
theorem d1_1 : decode jdk_43_method_46_code 1 = .ok (.newarray .byte, 2) := by decide +kernel
theorem d1_3 : decode jdk_43_method_46_code 3 = .ok (.dup, 1) := by decide +kernel
theorem d1_4 : decode jdk_43_method_46_code 4 = .ok (.iconst 0, 1) := by decide +kernel
theorem d1_5 : decode jdk_43_method_46_code 5 = .ok (.iload_n 0, 1) := by decide +kernel
theorem d1_6 : decode jdk_43_method_46_code 6 = .ok (.i2b, 1) := by decide +kernel
theorem d1_7 : decode jdk_43_method_46_code 7 = .ok (.bastore, 1) := by decide +kernel
theorem d1_8 : decode jdk_43_method_46_code 8 = .ok (.areturn, 1) := by decide +kernel
theorem ef_2 (m : MethodId) (x0 : Int32) : entryFrame m #[(.int x0)] 1 = mkF m 0 #[.val (.int x0)] [] := by first | (simp [entryFrame, mkF, argsToLocals, Value.category]; done) | rfl
set_option maxRecDepth 65536 in
set_option maxHeartbeats 40000000 in
theorem met_tb (l : Launch) (Z : State) (a0 : Array Value) (hw : ∀ d ∈ tables_1, d.before a0 Z = true) (EL : List (String × Nat)) (hEL : EW Z a0 EL) (n0 bk : Nat) (h0 : Heap) (hz0 : Z.heap.size ≤ n0) (hn0 : n0 ≤ h0.size) (x : Int32) (hbk : bk ≤ h0.size) : Met l Z EL (⟨"java/lang/StringLatin1", "toBytes", "(C)[B"⟩ : MethodName) jdk_43_method_46_code 1 (some (.array .byte)) [] ({ frames := 0, cells := 1, slots := 1, locals := 0 } : Room) #[(.int x)] n0 bk h0 (fun _ => bk) (fun v h => ∃ t, v = some (.ref t) ∧ n0 ≤ t ∧ h0.size ≤ t ∧ Ar Z h t .byte [own_lo x]) := by
  refine Met.intro (plainFor_of_name pn_0) (fun m => ef_2 m x) hz0 hEL ?_
  intro hE0 p e s m below meth c C
  refine C.iconst 1 (1 : Int32) d1_0 (by decide) ?_
  refine C.newarr (zn := 1) (cap := 1) 3 d1_1 (hw _ (List.mem_of_getElem? (i := 15) rfl)) rfl (by decide) (by decide) rfl (by decide) (by decide) (by decide) ?_
  intro t h1 g_t E1 R_t
  replace R_t : Ar Z h1 t .byte (List.replicate 1 0) := R_t
  have lt_t : t < h1.size := R_t.lt
  have sz_h1 : h0.size ≤ h1.size := E1.1
  have hbt : bk ≤ t := by omega
  refine C.dup 4 d1_3 rfl ?_
  refine C.iconst 5 (0 : Int32) d1_4 (by decide) ?_
  refine C.iloadN 6 d1_5 rfl ?_
  refine C.i2b 7 d1_6 ?_
  refine C.bastore 8 0 d1_7 R_t rfl (by decide) (own_fitsb _) (by omega) (Or.inl hbt) ?_
  intro h2 W2 N2
  have sz_h2 : h1.size ≤ h2.size := (Nat.le_of_eq W2.size.symm)
  replace R_t : Ar Z h2 t .byte [own_lo x] := (by have q := N2; rw [own_narb] at q; exact q)
  refine C.retA rfl rfl d1_8 rfl (by decide) (by decide) (Or.inl (Nat.le_refl _)) ?_
  exact ⟨t, rfl, by omega, by omega, R_t⟩
theorem pn_1 : plainName "java/lang/String" = true := by first | (simp [plainName, overriddenIn]; done) | decide +kernel
theorem d2_0 : decode jdk_42_method_151_code 0 = .ok (.aload_n 0, 1) := by decide +kernel
theorem d2_1 : decode jdk_42_method_151_code 1 = .ok (.invokespecial 1, 3) := by decide +kernel
theorem d2_4 : decode jdk_42_method_151_code 4 = .ok (.aload_n 0, 1) := by decide +kernel
theorem d2_5 : decode jdk_42_method_151_code 5 = .ok (.aload_n 1, 1) := by decide +kernel
theorem d2_6 : decode jdk_42_method_151_code 6 = .ok (.putfield 9, 3) := by decide +kernel
theorem d2_9 : decode jdk_42_method_151_code 9 = .ok (.aload_n 0, 1) := by decide +kernel
theorem d2_10 : decode jdk_42_method_151_code 10 = .ok (.iload_n 2, 1) := by decide +kernel
theorem d2_11 : decode jdk_42_method_151_code 11 = .ok (.putfield 15, 3) := by decide +kernel
theorem d2_14 : decode jdk_42_method_151_code 14 = .ok (.return_, 1) := by decide +kernel
theorem ef_3 (m : MethodId) (x0 : Nat) (x1 : Nat) (x2 : Int32) : entryFrame m #[(.ref x0), (.ref x1), (.int x2)] 3 = mkF m 0 #[.val (.ref x0), .val (.ref x1), .val (.int x2)] [] := by first | (simp [entryFrame, mkF, argsToLocals, Value.category]; done) | rfl
set_option maxRecDepth 65536 in
set_option maxHeartbeats 40000000 in
theorem met_si (l : Launch) (Z : State) (a0 : Array Value) (hw : ∀ d ∈ tables_1, d.before a0 Z = true) (EL : List (String × Nat)) (hEL : EW Z a0 EL) (n0 bk : Nat) (h0 : Heap) (hz0 : Z.heap.size ≤ n0) (hn0 : n0 ≤ h0.size) (a : Nat) (t : Nat) (X : Exa Z h0 a "java/lang/String") (FV : Fld Z h0 a "java/lang/String" "value" "[B" .null) (FC : Fld Z h0 a "java/lang/String" "coder" "B" (.int (0 : Int32))) (hna : n0 ≤ a) (hba : bk ≤ a) : Met l Z EL (⟨"java/lang/String", "<init>", "([BB)V"⟩ : MethodName) jdk_42_method_151_code 3 none [] ({ frames := 1, cells := 0, slots := 0, locals := 12 } : Room) #[(.ref a), (.ref t), (.int (0 : Int32))] n0 bk h0 (fun _ => bk) (fun v h => v = none ∧ OKp (fun x => x ≠ a) h0 h ∧ Exa Z h a "java/lang/String" ∧ Fld Z h a "java/lang/String" "value" "[B" (.ref t) ∧ Fld Z h a "java/lang/String" "coder" "B" (.int 0)) := by
  refine Met.intro (plainFor_of_name pn_1) (fun m => ef_3 m a t (0 : Int32)) hz0 hEL ?_
  intro hE0 p e s m below meth c C
  refine C.aloadN 1 d2_0 rfl rfl ?_
  refine C.objInit (W := 0) 4 d2_1 (hw _ (List.mem_of_getElem? (i := 20) rfl)) (hw _ (List.mem_of_getElem? (i := 21) rfl)) (hw _ (List.mem_of_getElem? (i := 22) rfl)) rfl (by decide) (Nat.le_of_eq rfl) (by decide) ?_
  refine C.aloadN 5 d2_4 rfl rfl ?_
  refine C.aloadN 6 d2_5 rfl rfl ?_
  refine C.putf (ty := (.array .byte)) 9 d2_6 (hw _ (List.mem_of_getElem? (i := 23) rfl)) Via.refl FV X (Or.inr ⟨(hw _ (List.mem_of_getElem? (i := 24) rfl)), rfl, rfl⟩) (hw _ (List.mem_of_getElem? (i := 11) rfl)) (by decide) rfl rfl (by omega) (Or.inl (by omega)) ?_
  intro h1 W1
  have sz_h1 : h0.size ≤ h1.size := (Nat.le_of_eq W1.size.symm)
  replace FC := FC.other W1 (Or.inr (slot_ne (t := .byte) (t' := (.array .byte)) (Or.inr (hw _ (List.mem_of_getElem? (i := 26) rfl))) (Or.inr (hw _ (List.mem_of_getElem? (i := 24) rfl))) (by decide) (by decide) (by decide)))
  replace FV := FV.same W1
  replace X := X.wr W1
  refine C.aloadN 10 d2_9 rfl rfl ?_
  refine C.iloadN 11 d2_10 rfl ?_
  refine C.putf (ty := .byte) 14 d2_11 (hw _ (List.mem_of_getElem? (i := 25) rfl)) Via.refl FC X (Or.inr ⟨(hw _ (List.mem_of_getElem? (i := 26) rfl)), rfl, rfl⟩) (hw _ (List.mem_of_getElem? (i := 11) rfl)) (by decide) rfl rfl (by omega) (Or.inl (by omega)) ?_
  intro h2 W2
  have sz_h2 : h1.size ≤ h2.size := (Nat.le_of_eq W2.size.symm)
  replace FV := FV.other W2 (Or.inr (slot_ne (t := (.array .byte)) (t' := .byte) (Or.inr (hw _ (List.mem_of_getElem? (i := 24) rfl))) (Or.inr (hw _ (List.mem_of_getElem? (i := 26) rfl))) (by decide) (by decide) (by decide)))
  replace FC := FC.same W2
  replace X := X.wr W2
  refine C.retV rfl d2_14 (by decide) (by decide) (Or.inl (Nat.le_refl _)) ?_
  exact ⟨rfl, (OKp.ofWr W1).trans (OKp.ofWr W2), X, FV, FC⟩
theorem pd__C_rZ : parseMethodDescriptor "(C)Z" = some ⟨[.char], some .boolean⟩ := by decide +kernel
theorem pd__C_rAB : parseMethodDescriptor "(C)[B" = some ⟨[.char], some (.array .byte)⟩ := by decide +kernel
theorem pd__ABB_rV : parseMethodDescriptor "([BB)V" = some ⟨[(.array .byte), .byte], none⟩ := by decide +kernel
theorem d3_0 : decode jdk_42_method_139_code 0 = .ok (.getstatic 38, 3) := by decide +kernel
theorem d3_3 : decode jdk_42_method_139_code 3 = .ok (.ifCond .eq 23, 3) := by decide +kernel
theorem d3_6 : decode jdk_42_method_139_code 6 = .ok (.iload_n 0, 1) := by decide +kernel
theorem d3_7 : decode jdk_42_method_139_code 7 = .ok (.invokestatic 1015, 3) := by decide +kernel
theorem d3_10 : decode jdk_42_method_139_code 10 = .ok (.ifCond .eq 16, 3) := by decide +kernel
theorem d3_13 : decode jdk_42_method_139_code 13 = .ok (.new 10, 3) := by decide +kernel
theorem d3_16 : decode jdk_42_method_139_code 16 = .ok (.dup, 1) := by decide +kernel
theorem d3_17 : decode jdk_42_method_139_code 17 = .ok (.iload_n 0, 1) := by decide +kernel
theorem d3_18 : decode jdk_42_method_139_code 18 = .ok (.invokestatic 1018, 3) := by decide +kernel
theorem d3_21 : decode jdk_42_method_139_code 21 = .ok (.iconst 0, 1) := by decide +kernel
theorem d3_22 : decode jdk_42_method_139_code 22 = .ok (.invokespecial 209, 3) := by decide +kernel
theorem d3_25 : decode jdk_42_method_139_code 25 = .ok (.areturn, 1) := by decide +kernel
theorem ef_4 (m : MethodId) (x0 : Int32) : entryFrame m #[(.int x0)] 1 = mkF m 0 #[.val (.int x0)] [] := by first | (simp [entryFrame, mkF, argsToLocals, Value.category]; done) | rfl
set_option maxRecDepth 65536 in
set_option maxHeartbeats 40000000 in
theorem met_vo (l : Launch) (Z : State) (a0 : Array Value) (hw : ∀ d ∈ tables_1, d.before a0 Z = true) (EL : List (String × Nat)) (hEL : EW Z a0 EL) (n0 bk : Nat) (h0 : Heap) (hz0 : Z.heap.size ≤ n0) (hn0 : n0 ≤ h0.size) (x : Int32) (z0 : Int32) (q0 : ¬ x < 0) (q : ¬ 255 < x) (SC : Sta Z Z.heap "java/lang/String" "COMPACT_STRINGS" "Z" (.int z0)) (hzc : ¬ z0 = 0) (hbk : bk ≤ h0.size) : Met l Z EL (⟨"java/lang/String", "valueOf", "(C)Ljava/lang/String;"⟩ : MethodName) jdk_42_method_139_code 1 (some (.object "java/lang/String")) [] ({ frames := 2, cells := 2, slots := 5, locals := 27 } : Room) #[(.int x)] n0 bk h0 (fun _ => bk) (fun v h => ∃ a, v = some (.ref a) ∧ Str Z h h.size a [x]) := by
  refine Met.intro (plainFor_of_name pn_1) (fun m => ef_4 m x) hz0 hEL ?_
  intro hE0 p e s m below meth c C
  refine C.gets 3 d3_0 (hw _ (List.mem_of_getElem? (i := 5) rfl)) SC ?_
  refine C.ifN 6 d3_3 rfl (XT.i0_eq_f (show ¬ (z0 = 0) from hzc)) ?_
  refine C.iloadN 7 d3_6 rfl ?_
  refine C.callS (b := h0.size) 10 [(.int x)] [] d3_7 (met_can l Z a0 hw EL hEL h0.size bk h0 (by omega) (by omega) x q) (by omega) (Or.inl (Nat.le_refl _)) (hw _ (List.mem_of_getElem? (i := 6) rfl)) (hw _ (List.mem_of_getElem? (i := 7) rfl)) (hw _ (List.mem_of_getElem? (i := 8) rfl)) (hw _ (List.mem_of_getElem? (i := 9) rfl)) (by decide) rfl (lenOf pd__C_rZ rfl) (by decide) (W := 0) (Nat.le_of_eq rfl) (by decide) (by decide) (by decide) rfl ?_
  rintro _ h7_2 K7_2 ⟨rfl, rfl⟩
  refine C.ifN 13 d3_10 rfl (XT.i0_eq_f (show ¬ ((1 : Int32) = 0) from (by decide))) ?_
  refine C.newo 16 d3_13 (hw _ (List.mem_of_getElem? (i := 10) rfl)) (hw _ (List.mem_of_getElem? (i := 11) rfl)) (hw _ (List.mem_of_getElem? (i := 3) rfl)) (by decide) (by decide) ?_
  intro a h1 g_a E1 X_a D1
  have lt_a : a < h1.size := X_a.lt
  have sz_h1 : h0.size ≤ h1.size := E1.1
  have FV : Fld Z h1 a "java/lang/String" "value" "[B" .null := D1 (Or.inr (hw _ (List.mem_of_getElem? (i := 24) rfl))) (ty := (.array .byte)) (by decide)
  have FC : Fld Z h1 a "java/lang/String" "coder" "B" (.int (0 : Int32)) := D1 (Or.inr (hw _ (List.mem_of_getElem? (i := 26) rfl))) (ty := .byte) (by decide)
  refine C.dup 17 d3_16 rfl ?_
  refine C.iloadN 18 d3_17 rfl ?_
  refine C.callS (b := h1.size) 21 [(.int x)] [(.ref a), (.ref a)] d3_18 (met_tb l Z a0 hw EL hEL h1.size bk h1 (by omega) (by omega) x (by omega)) (by omega) (Or.inl (Nat.le_refl _)) (hw _ (List.mem_of_getElem? (i := 12) rfl)) (hw _ (List.mem_of_getElem? (i := 13) rfl)) (hw _ (List.mem_of_getElem? (i := 8) rfl)) (hw _ (List.mem_of_getElem? (i := 14) rfl)) (by decide) rfl (lenOf pd__C_rAB rfl) (by decide) (W := 2) (Nat.le_of_eq rfl) (by decide) (by decide) (by decide) rfl ?_
  rintro _ h2 K2 ⟨t, rfl, gt1, gt2, Rt⟩
  have sz_h2 : h1.size ≤ h2.size := K2.1
  replace X_a := own_exa K2 X_a (by first | omega | (dsimp only; omega))
  replace FV := own_fld K2 FV (by first | omega | (dsimp only; omega))
  replace FC := own_fld K2 FC (by first | omega | (dsimp only; omega))
  have lt_t : t < h2.size := Rt.lt
  refine C.iconst 22 (0 : Int32) d3_21 (by decide) ?_
  refine C.callI (b := a) 25 [(.ref t), (.int (0 : Int32))] [(.ref a)] d3_22 (met_si l Z a0 hw EL hEL a bk h2 (by omega) (by omega) a t X_a FV FC (by omega) (by omega)) rfl (by omega) (Or.inl (Nat.le_refl _)) (hw _ (List.mem_of_getElem? (i := 16) rfl)) (hw _ (List.mem_of_getElem? (i := 17) rfl)) (hw _ (List.mem_of_getElem? (i := 3) rfl)) (hw _ (List.mem_of_getElem? (i := 19) rfl)) (by decide) rfl (lenOf pd__ABB_rV rfl) (by decide) (W := 1) (Nat.le_of_eq rfl) (by decide) (by decide) (by decide) rfl ?_
  rintro _ h3 K3 ⟨rfl, Kq, X_a2, FV2, FC2⟩
  have sz_h3 : h2.size ≤ h3.size := Kq.1
  replace Rt := Rt.kp Kq (by first | omega | (dsimp only; omega))
  refine C.retA rfl rfl d3_25 rfl (by decide) (by decide) (Or.inl (Nat.le_refl _)) ?_
  exact ⟨a, rfl, Str.made X_a2 FC2 FV2 (cs := [x]) Rt (fun y hy => by cases List.mem_singleton.mp hy; exact ⟨q0, q⟩)⟩
theorem d4_0 : decode jdk_42_method_152_code 0 = .ok (.getstatic 38, 3) := by decide +kernel
theorem d4_3 : decode jdk_42_method_152_code 3 = .ok (.ifCond .eq 10, 3) := by decide +kernel
theorem d4_6 : decode jdk_42_method_152_code 6 = .ok (.aload_n 0, 1) := by decide +kernel
theorem d4_7 : decode jdk_42_method_152_code 7 = .ok (.getfield 15, 3) := by decide +kernel
theorem d4_10 : decode jdk_42_method_152_code 10 = .ok (.goto 4, 3) := by decide +kernel
theorem d4_14 : decode jdk_42_method_152_code 14 = .ok (.ireturn, 1) := by decide +kernel
theorem ef_5 (m : MethodId) (x0 : Nat) : entryFrame m #[(.ref x0)] 1 = mkF m 0 #[.val (.ref x0)] [] := by first | (simp [entryFrame, mkF, argsToLocals, Value.category]; done) | rfl
set_option maxRecDepth 65536 in
set_option maxHeartbeats 40000000 in
theorem met_coder (l : Launch) (Z : State) (a0 : Array Value) (hw : ∀ d ∈ tables_1, d.before a0 Z = true) (EL : List (String × Nat)) (hEL : EW Z a0 EL) (n0 bk : Nat) (h0 : Heap) (hz0 : Z.heap.size ≤ n0) (hn0 : n0 ≤ h0.size) (a : Nat) (ba : Nat) (cs : List Int32) (z0 : Int32) (Sa : Str Z h0 ba a cs) (SC : Sta Z Z.heap "java/lang/String" "COMPACT_STRINGS" "Z" (.int z0)) (hzc : ¬ z0 = 0) : Met l Z EL (⟨"java/lang/String", "coder", "()B"⟩ : MethodName) jdk_42_method_152_code 1 (some .byte) [] ({ frames := 0, cells := 0, slots := 0, locals := 0 } : Room) #[(.ref a)] n0 bk h0 (fun _ => bk) (fun v h => v = some (.int 0) ∧ h0 = h) := by
  refine Met.intro (plainFor_of_name pn_1) (fun m => ef_5 m a) hz0 hEL ?_
  intro hE0 p e s m below meth c C
  obtain ⟨t, f1, f2, f3, f4, f5, f6, f7⟩ := Sa
  refine C.gets 3 d4_0 (hw _ (List.mem_of_getElem? (i := 5) rfl)) SC ?_
  refine C.ifN 6 d4_3 rfl (XT.i0_eq_f (show ¬ (z0 = 0) from hzc)) ?_
  refine C.aloadN 7 d4_6 rfl rfl ?_
  refine C.getf 10 d4_7 (hw _ (List.mem_of_getElem? (i := 25) rfl)) Via.refl f4 ?_
  refine C.goto 14 d4_10 (by decide) (by decide) ?_
  refine C.retN (t := .byte) rfl (by simp) d4_14 (by decide) (by decide) (Or.inl (Nat.le_refl _)) ?_
  exact ⟨rfl, rfl⟩
theorem d5_0 : decode jdk_42_method_154_code 0 = .ok (.getstatic 38, 3) := by decide +kernel
theorem d5_3 : decode jdk_42_method_154_code 3 = .ok (.ifCond .eq 14, 3) := by decide +kernel
theorem d5_6 : decode jdk_42_method_154_code 6 = .ok (.aload_n 0, 1) := by decide +kernel
theorem d5_7 : decode jdk_42_method_154_code 7 = .ok (.getfield 15, 3) := by decide +kernel
theorem d5_10 : decode jdk_42_method_154_code 10 = .ok (.ifCond .ne 7, 3) := by decide +kernel
theorem d5_13 : decode jdk_42_method_154_code 13 = .ok (.iconst 1, 1) := by decide +kernel
theorem d5_14 : decode jdk_42_method_154_code 14 = .ok (.goto 4, 3) := by decide +kernel
theorem d5_18 : decode jdk_42_method_154_code 18 = .ok (.ireturn, 1) := by decide +kernel
theorem ef_6 (m : MethodId) (x0 : Nat) : entryFrame m #[(.ref x0)] 1 = mkF m 0 #[.val (.ref x0)] [] := by first | (simp [entryFrame, mkF, argsToLocals, Value.category]; done) | rfl
set_option maxRecDepth 65536 in
set_option maxHeartbeats 40000000 in
theorem met_isl (l : Launch) (Z : State) (a0 : Array Value) (hw : ∀ d ∈ tables_1, d.before a0 Z = true) (EL : List (String × Nat)) (hEL : EW Z a0 EL) (n0 bk : Nat) (h0 : Heap) (hz0 : Z.heap.size ≤ n0) (hn0 : n0 ≤ h0.size) (a : Nat) (ba : Nat) (cs : List Int32) (z0 : Int32) (Sa : Str Z h0 ba a cs) (SC : Sta Z Z.heap "java/lang/String" "COMPACT_STRINGS" "Z" (.int z0)) (hzc : ¬ z0 = 0) : Met l Z EL (⟨"java/lang/String", "isLatin1", "()Z"⟩ : MethodName) jdk_42_method_154_code 1 (some .boolean) [] ({ frames := 0, cells := 0, slots := 0, locals := 0 } : Room) #[(.ref a)] n0 bk h0 (fun _ => bk) (fun v h => v = some (.int 1) ∧ h0 = h) := by
  refine Met.intro (plainFor_of_name pn_1) (fun m => ef_6 m a) hz0 hEL ?_
  intro hE0 p e s m below meth c C
  obtain ⟨t, f1, f2, f3, f4, f5, f6, f7⟩ := Sa
  refine C.gets 3 d5_0 (hw _ (List.mem_of_getElem? (i := 5) rfl)) SC ?_
  refine C.ifN 6 d5_3 rfl (XT.i0_eq_f (show ¬ (z0 = 0) from hzc)) ?_
  refine C.aloadN 7 d5_6 rfl rfl ?_
  refine C.getf 10 d5_7 (hw _ (List.mem_of_getElem? (i := 25) rfl)) Via.refl f4 ?_
  refine C.ifN 13 d5_10 rfl (XT.i0_ne_f (show (0 : Int32) = 0 from rfl)) ?_
  refine C.iconst 14 (1 : Int32) d5_13 (by decide) ?_
  refine C.goto 18 d5_14 (by decide) (by decide) ?_
  refine C.retN (t := .boolean) rfl (by simp) d5_18 (by decide) (by decide) (Or.inl (Nat.le_refl _)) ?_
  exact ⟨rfl, rfl⟩
theorem pd___rB : parseMethodDescriptor "()B" = some ⟨[], some .byte⟩ := by decide +kernel
theorem d6_0 : decode jdk_42_method_54_code 0 = .ok (.aload_n 0, 1) := by decide +kernel
theorem d6_1 : decode jdk_42_method_54_code 1 = .ok (.getfield 9, 3) := by decide +kernel
theorem d6_4 : decode jdk_42_method_54_code 4 = .ok (.arraylength, 1) := by decide +kernel
theorem d6_5 : decode jdk_42_method_54_code 5 = .ok (.aload_n 0, 1) := by decide +kernel
theorem d6_6 : decode jdk_42_method_54_code 6 = .ok (.invokevirtual 335, 3) := by decide +kernel
theorem d6_9 : decode jdk_42_method_54_code 9 = .ok (.ishr, 1) := by decide +kernel
theorem d6_10 : decode jdk_42_method_54_code 10 = .ok (.ireturn, 1) := by decide +kernel
theorem ef_7 (m : MethodId) (x0 : Nat) : entryFrame m #[(.ref x0)] 1 = mkF m 0 #[.val (.ref x0)] [] := by first | (simp [entryFrame, mkF, argsToLocals, Value.category]; done) | rfl
set_option maxRecDepth 65536 in
set_option maxHeartbeats 40000000 in
theorem met_len (l : Launch) (Z : State) (a0 : Array Value) (hw : ∀ d ∈ tables_1, d.before a0 Z = true) (EL : List (String × Nat)) (hEL : EW Z a0 EL) (n0 bk : Nat) (h0 : Heap) (hz0 : Z.heap.size ≤ n0) (hn0 : n0 ≤ h0.size) (a : Nat) (ba : Nat) (cs : List Int32) (z0 : Int32) (Sa : Str Z h0 ba a cs) (SC : Sta Z Z.heap "java/lang/String" "COMPACT_STRINGS" "Z" (.int z0)) (hzc : ¬ z0 = 0) : Met l Z EL (⟨"java/lang/String", "length", "()I"⟩ : MethodName) jdk_42_method_54_code 1 (some .int) [] ({ frames := 1, cells := 0, slots := 0, locals := 13 } : Room) #[(.ref a)] n0 bk h0 (fun _ => bk) (fun v h => v = some (.int (Int32.ofNat cs.length)) ∧ h0 = h) := by
  refine Met.intro (plainFor_of_name pn_1) (fun m => ef_7 m a) hz0 hEL ?_
  intro hE0 p e s m below meth c C
  have Sa0 := Sa
  obtain ⟨t, f1, f2, f3, f4, f5, f6, f7⟩ := Sa
  refine C.aloadN 1 d6_0 rfl rfl ?_
  refine C.getf 4 d6_1 (hw _ (List.mem_of_getElem? (i := 23) rfl)) Via.refl f5 ?_
  refine C.alen 5 d6_4 f6 (by rw [List.length_map]) ?_
  refine C.aloadN 6 d6_5 rfl rfl ?_
  refine C.callV (b := h0.size) 9 [] [(.int (Int32.ofNat cs.length))] d6_6 (met_coder l Z a0 hw EL hEL h0.size bk h0 (by omega) (by omega) a ba cs z0 Sa0 SC hzc) f3 (by omega) (Or.inl (Nat.le_refl _)) (hw _ (List.mem_of_getElem? (i := 84) rfl)) (hw _ (List.mem_of_getElem? (i := 85) rfl)) (hw _ (List.mem_of_getElem? (i := 87) rfl)) (hw _ (List.mem_of_getElem? (i := 86) rfl)) (hw _ (List.mem_of_getElem? (i := 3) rfl)) (hw _ (List.mem_of_getElem? (i := 88) rfl)) (fun hZ => notFace_of_selects (args := #[]) (mvT hZ (hw _ (List.mem_of_getElem? (i := 87) rfl)))) (by decide) rfl (lenOf pd___rB rfl) (by decide) (W := 1) (Nat.le_of_eq rfl) (by decide) (by decide) (by decide) rfl ?_
  rintro _ h6_3 K6_3 ⟨rfl, rfl⟩
  refine C.ishr 10 d6_9 ?_
  refine C.retI rfl d6_10 (by decide) (by decide) (Or.inl (Nat.le_refl _)) ?_
  exact ⟨by rw [own_shr0], rfl⟩
theorem pn_2 : plainName "jdk/internal/util/Preconditions" = true := by first | (simp [plainName, overriddenIn]; done) | decide +kernel
theorem d7_0 : decode jdk_41_method_11_code 0 = .ok (.iload_n 0, 1) := by decide +kernel
theorem d7_1 : decode jdk_41_method_11_code 1 = .ok (.ifCond .lt 8, 3) := by decide +kernel
theorem d7_4 : decode jdk_41_method_11_code 4 = .ok (.iload_n 0, 1) := by decide +kernel
theorem d7_5 : decode jdk_41_method_11_code 5 = .ok (.iload_n 1, 1) := by decide +kernel
theorem d7_6 : decode jdk_41_method_11_code 6 = .ok (.if_icmp .lt 10, 3) := by decide +kernel
theorem d7_16 : decode jdk_41_method_11_code 16 = .ok (.iload_n 0, 1) := by decide +kernel
theorem d7_17 : decode jdk_41_method_11_code 17 = .ok (.ireturn, 1) := by decide +kernel
theorem ef_8 (m : MethodId) (x0 : Int32) (x1 : Int32) (x2 : Value) (hx2 : x2.category = 1) : entryFrame m #[(.int x0), (.int x1), x2] 3 = mkF m 0 #[.val (.int x0), .val (.int x1), .val x2] [] := by first | (simp [entryFrame, mkF, argsToLocals, show ∀ z : Int32, (Value.int z).category = 1 from fun _ => rfl, show ∀ z : Nat, (Value.ref z).category = 1 from fun _ => rfl, hx2]; done) | rfl
set_option maxRecDepth 65536 in
set_option maxHeartbeats 40000000 in
theorem met_chk (l : Launch) (Z : State) (a0 : Array Value) (hw : ∀ d ∈ tables_1, d.before a0 Z = true) (EL : List (String × Nat)) (hEL : EW Z a0 EL) (n0 bk : Nat) (h0 : Heap) (hz0 : Z.heap.size ≤ n0) (hn0 : n0 ≤ h0.size) (i : Int32) (n : Int32) (fm : Value) (hi : ¬ i < 0) (hin : i < n) (hfm : fm.isRef = true) : Met l Z EL (⟨"jdk/internal/util/Preconditions", "checkIndex", "(IILjava/util/function/BiFunction;)I"⟩ : MethodName) jdk_41_method_11_code 3 (some .int) [] ({ frames := 0, cells := 0, slots := 0, locals := 0 } : Room) #[(.int i), (.int n), fm] n0 bk h0 (fun _ => bk) (fun v h => v = some (.int i) ∧ h0 = h) := by
  refine Met.intro (plainFor_of_name pn_2) (fun m => ef_8 m i n fm (XT.cat1 hfm)) hz0 hEL ?_
  intro hE0 p e s m below meth c C
  refine C.iloadN 1 d7_0 rfl ?_
  refine C.ifN 4 d7_1 rfl (XT.i0_lt_f (show ¬ (i < 0) from hi)) ?_
  refine C.iloadN 5 d7_4 rfl ?_
  refine C.iloadN 6 d7_5 rfl ?_
  refine C.icY 16 d7_6 (by decide) (by decide) (XT.ii_lt_t (show i < n from hin)) ?_
  refine C.iloadN 17 d7_16 rfl ?_
  refine C.retI rfl d7_17 (by decide) (by decide) (Or.inl (Nat.le_refl _)) ?_
  exact ⟨rfl, rfl⟩
theorem pd__IILjava_util_function_BiFunction_rI : parseMethodDescriptor "(IILjava/util/function/BiFunction;)I" = some ⟨[.int, .int, (.object "java/util/function/BiFunction")], some .int⟩ := by decide +kernel
theorem d8_0 : decode jdk_42_method_155_code 0 = .ok (.iload_n 0, 1) := by decide +kernel
theorem d8_1 : decode jdk_42_method_155_code 1 = .ok (.iload_n 1, 1) := by decide +kernel
theorem d8_2 : decode jdk_42_method_155_code 2 = .ok (.getstatic 1053, 3) := by decide +kernel
theorem d8_5 : decode jdk_42_method_155_code 5 = .ok (.invokestatic 1059, 3) := by decide +kernel
theorem d8_8 : decode jdk_42_method_155_code 8 = .ok (.pop, 1) := by decide +kernel
theorem d8_9 : decode jdk_42_method_155_code 9 = .ok (.return_, 1) := by decide +kernel
theorem ef_9 (m : MethodId) (x0 : Int32) (x1 : Int32) : entryFrame m #[(.int x0), (.int x1)] 2 = mkF m 0 #[.val (.int x0), .val (.int x1)] [] := by first | (simp [entryFrame, mkF, argsToLocals, Value.category]; done) | rfl
set_option maxRecDepth 65536 in
set_option maxHeartbeats 40000000 in
theorem met_chi (l : Launch) (Z : State) (a0 : Array Value) (hw : ∀ d ∈ tables_1, d.before a0 Z = true) (EL : List (String × Nat)) (hEL : EW Z a0 EL) (n0 bk : Nat) (h0 : Heap) (hz0 : Z.heap.size ≤ n0) (hn0 : n0 ≤ h0.size) (i : Int32) (n : Int32) (fm : Value) (hi : ¬ i < 0) (hin : i < n) (hfm : fm.isRef = true) (SF : Sta Z Z.heap "jdk/internal/util/Preconditions" "SIOOBE_FORMATTER" "Ljava/util/function/BiFunction;" fm) : Met l Z EL (⟨"java/lang/String", "checkIndex", "(II)V"⟩ : MethodName) jdk_42_method_155_code 2 none [] ({ frames := 1, cells := 0, slots := 0, locals := 14 } : Room) #[(.int i), (.int n)] n0 bk h0 (fun _ => bk) (fun v h => v = none ∧ h0 = h) := by
  refine Met.intro (plainFor_of_name pn_1) (fun m => ef_9 m i n) hz0 hEL ?_
  intro hE0 p e s m below meth c C
  refine C.iloadN 1 d8_0 rfl ?_
  refine C.iloadN 2 d8_1 rfl ?_
  refine C.gets 5 d8_2 (hw _ (List.mem_of_getElem? (i := 307) rfl)) SF ?_
  refine C.callS (b := h0.size) 8 [(.int i), (.int n), fm] [] d8_5 (met_chk l Z a0 hw EL hEL h0.size bk h0 (by omega) (by omega) i n fm hi hin hfm) (by omega) (Or.inl (Nat.le_refl _)) (hw _ (List.mem_of_getElem? (i := 329) rfl)) (hw _ (List.mem_of_getElem? (i := 330) rfl)) (hw _ (List.mem_of_getElem? (i := 308) rfl)) (hw _ (List.mem_of_getElem? (i := 331) rfl)) (by decide) rfl (lenOf pd__IILjava_util_function_BiFunction_rI rfl) (by decide) (W := 0) (Nat.le_of_eq rfl) (by decide) (by decide) (by decide) rfl ?_
  rintro _ h5_2 K5_2 ⟨rfl, rfl⟩
  refine C.pop 9 d8_8 rfl ?_
  refine C.retV rfl d8_9 (by decide) (by decide) (Or.inl (Nat.le_refl _)) ?_
  exact ⟨rfl, rfl⟩
theorem pd__II_rV : parseMethodDescriptor "(II)V" = some ⟨[.int, .int], none⟩ := by decide +kernel
theorem d9_0 : decode jdk_43_method_2_code 0 = .ok (.iload_n 1, 1) := by decide +kernel
theorem d9_1 : decode jdk_43_method_2_code 1 = .ok (.aload_n 0, 1) := by decide +kernel
theorem d9_2 : decode jdk_43_method_2_code 2 = .ok (.arraylength, 1) := by decide +kernel
theorem d9_3 : decode jdk_43_method_2_code 3 = .ok (.invokestatic 9, 3) := by decide +kernel
theorem d9_6 : decode jdk_43_method_2_code 6 = .ok (.aload_n 0, 1) := by decide +kernel
theorem d9_7 : decode jdk_43_method_2_code 7 = .ok (.iload_n 1, 1) := by decide +kernel
theorem d9_8 : decode jdk_43_method_2_code 8 = .ok (.baload, 1) := by decide +kernel
theorem d9_9 : decode jdk_43_method_2_code 9 = .ok (.sipush 255, 3) := by decide +kernel
theorem d9_12 : decode jdk_43_method_2_code 12 = .ok (.iand, 1) := by decide +kernel
theorem d9_13 : decode jdk_43_method_2_code 13 = .ok (.i2c, 1) := by decide +kernel
theorem d9_14 : decode jdk_43_method_2_code 14 = .ok (.ireturn, 1) := by decide +kernel
theorem ef_10 (m : MethodId) (x0 : Nat) (x1 : Int32) : entryFrame m #[(.ref x0), (.int x1)] 2 = mkF m 0 #[.val (.ref x0), .val (.int x1)] [] := by first | (simp [entryFrame, mkF, argsToLocals, Value.category]; done) | rfl
set_option maxRecDepth 65536 in
set_option maxHeartbeats 40000000 in
theorem met_lch (l : Launch) (Z : State) (a0 : Array Value) (hw : ∀ d ∈ tables_1, d.before a0 Z = true) (EL : List (String × Nat)) (hEL : EW Z a0 EL) (n0 bk : Nat) (h0 : Heap) (hz0 : Z.heap.size ≤ n0) (hn0 : n0 ≤ h0.size) (t : Nat) (cs : List Int32) (i : Nat) (x : Int32) (fm : Value) (R : Ar Z h0 t .byte (cs.map own_lo)) (hx : cs[i]? = some x) (q1 : ¬ x < 0) (q2 : ¬ 255 < x) (hfm : fm.isRef = true) (SF : Sta Z Z.heap "jdk/internal/util/Preconditions" "SIOOBE_FORMATTER" "Ljava/util/function/BiFunction;" fm) : Met l Z EL (⟨"java/lang/StringLatin1", "charAt", "([BI)C"⟩ : MethodName) jdk_43_method_2_code 2 (some .char) [] ({ frames := 2, cells := 0, slots := 0, locals := 27 } : Room) #[(.ref t), (.int (Int32.ofNat i))] n0 bk h0 (fun _ => bk) (fun v h => v = some (.int x) ∧ h0 = h) := by
  refine Met.intro (plainFor_of_name pn_0) (fun m => ef_10 m t (Int32.ofNat i)) hz0 hEL ?_
  intro hE0 p e s m below meth c C
  have hl := own_arlen R
  rw [List.length_map] at hl
  have hi : i < cs.length := (List.getElem?_eq_some_iff.mp hx).1
  refine C.iloadN 1 d9_0 rfl ?_
  refine C.aloadN 2 d9_1 rfl rfl ?_
  refine C.alen 3 d9_2 R (by rw [List.length_map]) ?_
  refine C.callS (b := h0.size) 6 [(.int (Int32.ofNat i)), (.int (Int32.ofNat cs.length))] [] d9_3 (met_chi l Z a0 hw EL hEL h0.size bk h0 (by omega) (by omega) _ _ fm (own_len31 (show i < 2147483648 by omega) rfl).1 ((own_ofNat (by omega) hl).2.mpr hi) hfm SF) (by omega) (Or.inl (Nat.le_refl _)) (hw _ (List.mem_of_getElem? (i := 326) rfl)) (hw _ (List.mem_of_getElem? (i := 327) rfl)) (hw _ (List.mem_of_getElem? (i := 3) rfl)) (hw _ (List.mem_of_getElem? (i := 328) rfl)) (by decide) rfl (lenOf pd__II_rV rfl) (by decide) (W := 0) (Nat.le_of_eq rfl) (by decide) (by decide) (by decide) rfl ?_
  rintro _ h3_2 K3_2 ⟨rfl, rfl⟩
  refine C.aloadN 7 d9_6 rfl rfl ?_
  refine C.iloadN 8 d9_7 rfl ?_
  refine C.baload 9 i d9_8 R rfl (own_chget hx) ?_
  refine C.sipush 12 (255 : Int32) d9_9 (by decide) ?_
  refine C.iand 13 d9_12 ?_
  refine C.i2c 14 d9_13 ?_
  refine C.retN (t := .char) rfl (by simp) d9_14 (by decide) (by decide) (Or.inl (Nat.le_refl _)) ?_
  exact ⟨by rw [own_ch q1 q2], rfl⟩
theorem pd___rZ : parseMethodDescriptor "()Z" = some ⟨[], some .boolean⟩ := by decide +kernel
theorem pd__ABI_rC : parseMethodDescriptor "([BI)C" = some ⟨[(.array .byte), .int], some .char⟩ := by decide +kernel
theorem d10_0 : decode jdk_42_method_56_code 0 = .ok (.aload_n 0, 1) := by decide +kernel
theorem d10_1 : decode jdk_42_method_56_code 1 = .ok (.invokevirtual 492, 3) := by decide +kernel
theorem d10_4 : decode jdk_42_method_56_code 4 = .ok (.ifCond .eq 12, 3) := by decide +kernel
theorem d10_7 : decode jdk_42_method_56_code 7 = .ok (.aload_n 0, 1) := by decide +kernel
theorem d10_8 : decode jdk_42_method_56_code 8 = .ok (.getfield 9, 3) := by decide +kernel
theorem d10_11 : decode jdk_42_method_56_code 11 = .ok (.iload_n 1, 1) := by decide +kernel
theorem d10_12 : decode jdk_42_method_56_code 12 = .ok (.invokestatic 495, 3) := by decide +kernel
theorem d10_15 : decode jdk_42_method_56_code 15 = .ok (.ireturn, 1) := by decide +kernel
theorem ef_11 (m : MethodId) (x0 : Nat) (x1 : Int32) : entryFrame m #[(.ref x0), (.int x1)] 2 = mkF m 0 #[.val (.ref x0), .val (.int x1)] [] := by first | (simp [entryFrame, mkF, argsToLocals, Value.category]; done) | rfl
set_option maxRecDepth 65536 in
set_option maxHeartbeats 40000000 in
theorem met_cha (l : Launch) (Z : State) (a0 : Array Value) (hw : ∀ d ∈ tables_1, d.before a0 Z = true) (EL : List (String × Nat)) (hEL : EW Z a0 EL) (n0 bk : Nat) (h0 : Heap) (hz0 : Z.heap.size ≤ n0) (hn0 : n0 ≤ h0.size) (a : Nat) (ba : Nat) (cs : List Int32) (i : Nat) (x : Int32) (z0 : Int32) (fm : Value) (Sa : Str Z h0 ba a cs) (hx : cs[i]? = some x) (SC : Sta Z Z.heap "java/lang/String" "COMPACT_STRINGS" "Z" (.int z0)) (hzc : ¬ z0 = 0) (hfm : fm.isRef = true) (SF : Sta Z Z.heap "jdk/internal/util/Preconditions" "SIOOBE_FORMATTER" "Ljava/util/function/BiFunction;" fm) : Met l Z EL (⟨"java/lang/String", "charAt", "(I)C"⟩ : MethodName) jdk_42_method_56_code 2 (some .char) [] ({ frames := 3, cells := 0, slots := 0, locals := 40 } : Room) #[(.ref a), (.int (Int32.ofNat i))] n0 bk h0 (fun _ => bk) (fun v h => v = some (.int x) ∧ h0 = h) := by
  refine Met.intro (plainFor_of_name pn_1) (fun m => ef_11 m a (Int32.ofNat i)) hz0 hEL ?_
  intro hE0 p e s m below meth c C
  have Sa0 := Sa
  obtain ⟨t, f1, f2, f3, f4, f5, f6, f7⟩ := Sa
  obtain ⟨q1, q2⟩ := f7 x (List.mem_of_getElem? hx)
  refine C.aloadN 1 d10_0 rfl rfl ?_
  refine C.callV (b := h0.size) 4 [] [] d10_1 (met_isl l Z a0 hw EL hEL h0.size bk h0 (by omega) (by omega) a ba cs z0 Sa0 SC hzc) f3 (by omega) (Or.inl (Nat.le_refl _)) (hw _ (List.mem_of_getElem? (i := 74) rfl)) (hw _ (List.mem_of_getElem? (i := 75) rfl)) (hw _ (List.mem_of_getElem? (i := 77) rfl)) (hw _ (List.mem_of_getElem? (i := 76) rfl)) (hw _ (List.mem_of_getElem? (i := 3) rfl)) (hw _ (List.mem_of_getElem? (i := 78) rfl)) (fun hZ => notFace_of_selects (args := #[]) (mvT hZ (hw _ (List.mem_of_getElem? (i := 77) rfl)))) (by decide) rfl (lenOf pd___rZ rfl) (by decide) (W := 0) (Nat.le_of_eq rfl) (by decide) (by decide) (by decide) rfl ?_
  rintro _ h1_1 K1_1 ⟨rfl, rfl⟩
  refine C.ifN 7 d10_4 rfl (XT.i0_eq_f (show ¬ ((1 : Int32) = 0) from (by decide))) ?_
  refine C.aloadN 8 d10_7 rfl rfl ?_
  refine C.getf 11 d10_8 (hw _ (List.mem_of_getElem? (i := 23) rfl)) Via.refl f5 ?_
  refine C.iloadN 12 d10_11 rfl ?_
  refine C.callS (b := h0.size) 15 [(.ref t), (.int (Int32.ofNat i))] [] d10_12 (met_lch l Z a0 hw EL hEL h0.size bk h0 (by omega) (by omega) t cs i x fm f6 hx q1 q2 hfm SF) (by omega) (Or.inl (Nat.le_refl _)) (hw _ (List.mem_of_getElem? (i := 323) rfl)) (hw _ (List.mem_of_getElem? (i := 324) rfl)) (hw _ (List.mem_of_getElem? (i := 8) rfl)) (hw _ (List.mem_of_getElem? (i := 325) rfl)) (by decide) rfl (lenOf pd__ABI_rC rfl) (by decide) (W := 0) (Nat.le_of_eq rfl) (by decide) (by decide) (by decide) rfl ?_
  rintro _ h12_3 K12_3 ⟨rfl, rfl⟩
  refine C.retN (t := .char) rfl (by simp) d10_15 (by decide) (by decide) (Or.inl (Nat.le_refl _)) ?_
  exact ⟨congrArg (fun z => some (Value.int z)) (own_c0 q1 q2), rfl⟩
theorem own_cmpset {xs : List Int32} {i : Nat} {x : Int32} (hx : xs[i]? = some x) : ((xs.take i).map own_lo ++ List.replicate (xs.length - i) 0).set i (own_lo x) = (xs.take (i + 1)).map own_lo ++ List.replicate (xs.length - (i + 1)) 0 := by
  have hi : i < xs.length := (List.getElem?_eq_some_iff.mp hx).1
  have e : xs[i] = x := (List.getElem?_eq_some_iff.mp hx).2
  have l1 : ((xs.take i).map own_lo).length = i := by rw [List.length_map, List.length_take]; omega
  rw [List.set_append_right _ _ (by omega), l1, Nat.sub_self]
  obtain ⟨d, hd⟩ : ∃ d, xs.length - i = d + 1 := ⟨xs.length - i - 1, by omega⟩
  rw [hd, List.replicate_succ, List.set_cons_zero, List.take_add_one, hx, show xs.length - (i + 1) = d by omega]
  simp
theorem own_fit {ty : FieldType} {Z : State} {h : Heap} {a : Nat} {xs : List Int32} (F : Ar Z h a ty xs) : ∀ x ∈ xs, fits ty (.int x) = true := by obtain ⟨_, _, _, _, _, g⟩ := F; exact g
theorem own_chr {Z : State} {h : Heap} {a : Nat} {xs : List Int32} (F : Ar Z h a .char xs) : ∀ x ∈ xs, ¬ x < 0 := fun x hx => (rng_char (own_fit F x hx)).1
theorem pn_3 : plainName "java/lang/StringUTF16" = true := by first | (simp [plainName, overriddenIn]; done) | decide +kernel
theorem d11_0 : decode jdk_52_method_21_code 0 = .ok (.iconst 0, 1) := by decide +kernel
theorem d11_1 : decode jdk_52_method_21_code 1 = .ok (.istore 5, 2) := by decide +kernel
theorem d11_3 : decode jdk_52_method_21_code 3 = .ok (.iload 5, 2) := by decide +kernel
theorem d11_5 : decode jdk_52_method_21_code 5 = .ok (.iload 4, 2) := by decide +kernel
theorem d11_7 : decode jdk_52_method_21_code 7 = .ok (.if_icmp .ge 37, 3) := by decide +kernel
theorem d11_10 : decode jdk_52_method_21_code 10 = .ok (.aload_n 0, 1) := by decide +kernel
theorem d11_11 : decode jdk_52_method_21_code 11 = .ok (.iload_n 1, 1) := by decide +kernel
theorem d11_12 : decode jdk_52_method_21_code 12 = .ok (.caload, 1) := by decide +kernel
theorem d11_13 : decode jdk_52_method_21_code 13 = .ok (.istore 6, 2) := by decide +kernel
theorem d11_15 : decode jdk_52_method_21_code 15 = .ok (.iload 6, 2) := by decide +kernel
theorem d11_17 : decode jdk_52_method_21_code 17 = .ok (.sipush 255, 3) := by decide +kernel
theorem d11_20 : decode jdk_52_method_21_code 20 = .ok (.if_icmp .le 6, 3) := by decide +kernel
theorem d11_26 : decode jdk_52_method_21_code 26 = .ok (.aload_n 2, 1) := by decide +kernel
theorem d11_27 : decode jdk_52_method_21_code 27 = .ok (.iload_n 3, 1) := by decide +kernel
theorem d11_28 : decode jdk_52_method_21_code 28 = .ok (.iload 6, 2) := by decide +kernel
theorem d11_30 : decode jdk_52_method_21_code 30 = .ok (.i2b, 1) := by decide +kernel
theorem d11_31 : decode jdk_52_method_21_code 31 = .ok (.bastore, 1) := by decide +kernel
theorem d11_32 : decode jdk_52_method_21_code 32 = .ok (.iinc 1 1, 3) := by decide +kernel
theorem d11_35 : decode jdk_52_method_21_code 35 = .ok (.iinc 3 1, 3) := by decide +kernel
theorem d11_38 : decode jdk_52_method_21_code 38 = .ok (.iinc 5 1, 3) := by decide +kernel
theorem d11_41 : decode jdk_52_method_21_code 41 = .ok (.goto (-38), 3) := by decide +kernel
theorem d11_44 : decode jdk_52_method_21_code 44 = .ok (.iload 4, 2) := by decide +kernel
theorem d11_46 : decode jdk_52_method_21_code 46 = .ok (.ireturn, 1) := by decide +kernel
theorem ef_12 (m : MethodId) (x0 : Nat) (x1 : Int32) (x2 : Nat) (x3 : Int32) (x4 : Int32) : entryFrame m #[(.ref x0), (.int x1), (.ref x2), (.int x3), (.int x4)] 7 = mkF m 0 #[.val (.ref x0), .val (.int x1), .val (.ref x2), .val (.int x3), .val (.int x4), .unset, .unset] [] := by first | (simp [entryFrame, mkF, argsToLocals, Value.category]; done) | rfl
set_option maxRecDepth 65536 in
set_option maxHeartbeats 40000000 in
theorem met_cmp5 (l : Launch) (Z : State) (a0 : Array Value) (hw : ∀ d ∈ tables_1, d.before a0 Z = true) (EL : List (String × Nat)) (hEL : EW Z a0 EL) (n0 bk : Nat) (h0 : Heap) (hz0 : Z.heap.size ≤ n0) (hn0 : n0 ≤ h0.size) (a : Nat) (t : Nat) (xs : List Int32) (Aa : Ar Z h0 a .char xs) (At : Ar Z h0 t .byte (List.replicate xs.length 0)) (hp : 0 < xs.length) (hq : ∀ x ∈ xs, ¬ 255 < x) (hat : a ≠ t) (hnt : n0 ≤ t) (hbt : bk ≤ t) : Met l Z EL (⟨"java/lang/StringUTF16", "compress", "([CI[BII)I"⟩ : MethodName) jdk_52_method_21_code 7 (some .int) [] ({ frames := 0, cells := 0, slots := 0, locals := 0 } : Room) #[(.ref a), (.int (0 : Int32)), (.ref t), (.int (0 : Int32)), (.int (Int32.ofNat xs.length))] n0 bk h0 (fun _ => bk) (fun v h => v = some (.int (Int32.ofNat xs.length)) ∧ OKp (fun y => y ≠ t) h0 h ∧ Ar Z h t .byte (xs.map own_lo)) := by
  refine Met.intro (plainFor_of_name pn_3) (fun m => ef_12 m a (0 : Int32) t (0 : Int32) (Int32.ofNat xs.length)) hz0 hEL ?_
  intro hE0 p e s m below meth c C
  have lx := own_arlen Aa
  have L3 : ∀ (n : Nat), ∀ (i : Nat) (hh : Heap) (c6 : Int32), (xs.length - i = n) → (i ≤ xs.length) → (Ar Z hh a .char xs) → (Ar Z hh t .byte ((xs.take i).map own_lo ++ List.replicate (xs.length - i) 0)) → (OKp (fun y => y ≠ t) h0 hh) → Go p l e ({ frames := 0, cells := 0, slots := 0, locals := 0 } : Room) s m #[(.ref a), (.int (0 : Int32)), (.ref t), (.int (0 : Int32)), (.int (Int32.ofNat xs.length))] below meth c Z "java/lang/StringUTF16" EL n0 (fun _ => bk) (fun v h => v = some (.int (Int32.ofNat xs.length)) ∧ OKp (fun y => y ≠ t) h0 h ∧ Ar Z h t .byte (xs.map own_lo)) bk hh 0 0 3 #[.val (.ref a), .val (.int (Int32.ofNat i)), .val (.ref t), .val (.int (Int32.ofNat i)), .val (.int (Int32.ofNat xs.length)), .val (.int (Int32.ofNat i)), .val (.int c6)] [] := by
    intro n
    induction n using Nat.strongRecOn with
    | ind n ih =>
      intro i hh c6 hn hi Aa At Kh
      refine C.iload 5 d11_3 rfl ?_
      refine C.iload 7 d11_5 rfl ?_
      rcases Decidable.em ((Int32.ofNat i) < (Int32.ofNat xs.length)) with h7 | h7
      · skip
        refine C.icN 10 d11_7 rfl (XT.ii_ge_f h7) ?_
        have hlt : i < xs.length := (own_ofNat (by omega) lx).2.mp h7
        obtain ⟨x1, hx1⟩ : ∃ x, xs[i]? = some x := ⟨_, List.getElem?_eq_getElem hlt⟩
        refine C.aloadN 11 d11_10 rfl rfl ?_
        refine C.iloadN 12 d11_11 rfl ?_
        refine C.caload 13 i d11_12 Aa rfl hx1 ?_
        refine C.istore 15 (L' := #[.val (.ref a), .val (.int (Int32.ofNat i)), .val (.ref t), .val (.int (Int32.ofNat i)), .val (.int (Int32.ofNat xs.length)), .val (.int (Int32.ofNat i)), .val (.int x1)]) d11_13 rfl ?_
        refine C.iload 17 d11_15 rfl ?_
        refine C.sipush 20 (255 : Int32) d11_17 (by decide) ?_
        refine C.icY 26 d11_20 (by decide) (by decide) (XT.ii_le_t (show ¬ ((255 : Int32) < x1) from (hq x1 (List.mem_of_getElem? hx1)))) ?_
        refine C.aloadN 27 d11_26 rfl rfl ?_
        refine C.iloadN 28 d11_27 rfl ?_
        refine C.iload 30 d11_28 rfl ?_
        refine C.i2b 31 d11_30 ?_
        refine C.bastore 32 i d11_31 At rfl (by simp; omega) (own_fitsb _) (by omega) (Or.inl hbt) ?_
        intro h2 W2 N2
        have sz_h2 : hh.size ≤ h2.size := (Nat.le_of_eq W2.size.symm)
        replace Aa := Aa.other W2 (by first | omega | (dsimp only; omega))
        replace At := N2
        refine C.iinc 35 (L' := #[.val (.ref a), .val (.int ((Int32.ofNat i) + (1 : Int32))), .val (.ref t), .val (.int (Int32.ofNat i)), .val (.int (Int32.ofNat xs.length)), .val (.int (Int32.ofNat i)), .val (.int x1)]) (1 : Int32) d11_32 (by decide) rfl rfl ?_
        refine C.iinc 38 (L' := #[.val (.ref a), .val (.int ((Int32.ofNat i) + (1 : Int32))), .val (.ref t), .val (.int ((Int32.ofNat i) + (1 : Int32))), .val (.int (Int32.ofNat xs.length)), .val (.int (Int32.ofNat i)), .val (.int x1)]) (1 : Int32) d11_35 (by decide) rfl rfl ?_
        refine C.iinc 41 (L' := #[.val (.ref a), .val (.int ((Int32.ofNat i) + (1 : Int32))), .val (.ref t), .val (.int ((Int32.ofNat i) + (1 : Int32))), .val (.int (Int32.ofNat xs.length)), .val (.int ((Int32.ofNat i) + (1 : Int32))), .val (.int x1)]) (1 : Int32) d11_38 (by decide) rfl rfl ?_
        refine C.goto 3 d11_41 (by decide) (by decide) ?_
        rw [own_succ i]
        refine ih _ (show xs.length - (i + 1) < n by omega) (i + 1) h2 x1 rfl (by omega) Aa (by have q := At; rw [own_narb, own_cmpset hx1] at q; exact q) (Kh.wr W2 (fun _ q => q))
      · skip
        refine C.icY 44 d11_7 (by decide) (by decide) (XT.ii_ge_t h7) ?_
        have hge : ¬ i < xs.length := fun q => h7 ((own_ofNat (by omega) lx).2.mpr q)
        refine C.iload 46 d11_44 rfl ?_
        refine C.retI rfl d11_46 (by decide) (by decide) (Or.inl (Nat.le_refl _)) ?_
        exact ⟨rfl, Kh, by have q := At; rw [show i = xs.length by omega, List.take_length, Nat.sub_self] at q; simpa using q⟩
  refine C.iconst 1 (0 : Int32) d11_0 (by decide) ?_
  refine C.istore 3 (L' := #[.val (.ref a), .val (.int (0 : Int32)), .val (.ref t), .val (.int (0 : Int32)), .val (.int (Int32.ofNat xs.length)), .val (.int (0 : Int32)), .unset]) d11_1 rfl ?_
  refine C.iload 5 d11_3 rfl ?_
  refine C.iload 7 d11_5 rfl ?_
  refine C.icN 10 d11_7 rfl (XT.ii_ge_f (show (0 : Int32) < (Int32.ofNat xs.length) from ((own_ofNat (show 0 < 2147483648 by decide) lx).2.mpr hp))) ?_
  have hlt : 0 < xs.length := hp
  obtain ⟨x1, hx1⟩ : ∃ x, xs[0]? = some x := ⟨_, List.getElem?_eq_getElem hlt⟩
  refine C.aloadN 11 d11_10 rfl rfl ?_
  refine C.iloadN 12 d11_11 rfl ?_
  refine C.caload 13 0 d11_12 Aa rfl hx1 ?_
  refine C.istore 15 (L' := #[.val (.ref a), .val (.int (0 : Int32)), .val (.ref t), .val (.int (0 : Int32)), .val (.int (Int32.ofNat xs.length)), .val (.int (0 : Int32)), .val (.int x1)]) d11_13 rfl ?_
  refine C.iload 17 d11_15 rfl ?_
  refine C.sipush 20 (255 : Int32) d11_17 (by decide) ?_
  refine C.icY 26 d11_20 (by decide) (by decide) (XT.ii_le_t (show ¬ ((255 : Int32) < x1) from (hq x1 (List.mem_of_getElem? hx1)))) ?_
  refine C.aloadN 27 d11_26 rfl rfl ?_
  refine C.iloadN 28 d11_27 rfl ?_
  refine C.iload 30 d11_28 rfl ?_
  refine C.i2b 31 d11_30 ?_
  refine C.bastore 32 0 d11_31 At rfl (by simp; omega) (own_fitsb _) (by omega) (Or.inl hbt) ?_
  intro h2 W2 N2
  have sz_h2 : h0.size ≤ h2.size := (Nat.le_of_eq W2.size.symm)
  replace Aa := Aa.other W2 (by first | omega | (dsimp only; omega))
  replace At := N2
  refine C.iinc 35 (L' := #[.val (.ref a), .val (.int ((0 : Int32) + (1 : Int32))), .val (.ref t), .val (.int (0 : Int32)), .val (.int (Int32.ofNat xs.length)), .val (.int (0 : Int32)), .val (.int x1)]) (1 : Int32) d11_32 (by decide) rfl rfl ?_
  refine C.iinc 38 (L' := #[.val (.ref a), .val (.int ((0 : Int32) + (1 : Int32))), .val (.ref t), .val (.int ((0 : Int32) + (1 : Int32))), .val (.int (Int32.ofNat xs.length)), .val (.int (0 : Int32)), .val (.int x1)]) (1 : Int32) d11_35 (by decide) rfl rfl ?_
  refine C.iinc 41 (L' := #[.val (.ref a), .val (.int ((0 : Int32) + (1 : Int32))), .val (.ref t), .val (.int ((0 : Int32) + (1 : Int32))), .val (.int (Int32.ofNat xs.length)), .val (.int ((0 : Int32) + (1 : Int32))), .val (.int x1)]) (1 : Int32) d11_38 (by decide) rfl rfl ?_
  refine C.goto 3 d11_41 (by decide) (by decide) ?_
  rw [show (0 : Int32) + 1 = Int32.ofNat 1 from rfl]
  refine L3 _ 1 h2 x1 rfl (by omega) Aa (by have q := At; rw [own_narb, show List.replicate xs.length (0 : Int32) = (xs.take 0).map own_lo ++ List.replicate (xs.length - 0) 0 from rfl, own_cmpset hx1] at q; exact q) (OKp.refl.wr W2 (fun _ q => q))
theorem d12_0 : decode jdk_52_method_15_code 0 = .ok (.iload_n 1, 1) := by decide +kernel
theorem d12_1 : decode jdk_52_method_15_code 1 = .ok (.aload_n 0, 1) := by decide +kernel
theorem d12_2 : decode jdk_52_method_15_code 2 = .ok (.arraylength, 1) := by decide +kernel
theorem d12_3 : decode jdk_52_method_15_code 3 = .ok (.isub, 1) := by decide +kernel
theorem d12_4 : decode jdk_52_method_15_code 4 = .ok (.bipush 31, 2) := by decide +kernel
theorem d12_6 : decode jdk_52_method_15_code 6 = .ok (.iushr, 1) := by decide +kernel
theorem d12_7 : decode jdk_52_method_15_code 7 = .ok (.i2b, 1) := by decide +kernel
theorem d12_8 : decode jdk_52_method_15_code 8 = .ok (.ireturn, 1) := by decide +kernel
theorem ef_13 (m : MethodId) (x0 : Nat) (x1 : Int32) : entryFrame m #[(.ref x0), (.int x1)] 2 = mkF m 0 #[.val (.ref x0), .val (.int x1)] [] := by first | (simp [entryFrame, mkF, argsToLocals, Value.category]; done) | rfl
set_option maxRecDepth 65536 in
set_option maxHeartbeats 40000000 in
theorem met_cfa (l : Launch) (Z : State) (a0 : Array Value) (hw : ∀ d ∈ tables_1, d.before a0 Z = true) (EL : List (String × Nat)) (hEL : EW Z a0 EL) (n0 bk : Nat) (h0 : Heap) (hz0 : Z.heap.size ≤ n0) (hn0 : n0 ≤ h0.size) (t : Nat) (xs : List Int32) (k : Nat) (R : Ar Z h0 t .byte xs) (hk : xs.length = k) : Met l Z EL (⟨"java/lang/StringUTF16", "coderFromArrayLen", "([BI)B"⟩ : MethodName) jdk_52_method_15_code 2 (some .byte) [] ({ frames := 0, cells := 0, slots := 0, locals := 0 } : Room) #[(.ref t), (.int (Int32.ofNat k))] n0 bk h0 (fun _ => bk) (fun v h => v = some (.int 0) ∧ h0 = h) := by
  refine Met.intro (plainFor_of_name pn_3) (fun m => ef_13 m t (Int32.ofNat k)) hz0 hEL ?_
  intro hE0 p e s m below meth c C
  refine C.iloadN 1 d12_0 rfl ?_
  refine C.aloadN 2 d12_1 rfl rfl ?_
  refine C.alen 3 d12_2 R (by rw [hk]) ?_
  refine C.isub 4 d12_3 ?_
  refine C.bipush 6 (31 : Int32) d12_4 (by decide) ?_
  refine C.iushr 7 d12_6 ?_
  refine C.i2b 8 d12_7 ?_
  refine C.retN (t := .byte) rfl (by simp) d12_8 (by decide) (by decide) (Or.inl (Nat.le_refl _)) ?_
  exact ⟨by rw [own_sub0]; rfl, rfl⟩
theorem pd__ACIABII_rI : parseMethodDescriptor "([CI[BII)I" = some ⟨[(.array .char), .int, (.array .byte), .int, .int], some .int⟩ := by decide +kernel
theorem d13_0 : decode jdk_52_method_16_code 0 = .ok (.iload_n 2, 1) := by decide +kernel
theorem d13_1 : decode jdk_52_method_16_code 1 = .ok (.newarray .byte, 2) := by decide +kernel
theorem d13_3 : decode jdk_52_method_16_code 3 = .ok (.astore_n 3, 1) := by decide +kernel
theorem d13_4 : decode jdk_52_method_16_code 4 = .ok (.aload_n 0, 1) := by decide +kernel
theorem d13_5 : decode jdk_52_method_16_code 5 = .ok (.iload_n 1, 1) := by decide +kernel
theorem d13_6 : decode jdk_52_method_16_code 6 = .ok (.aload_n 3, 1) := by decide +kernel
theorem d13_7 : decode jdk_52_method_16_code 7 = .ok (.iconst 0, 1) := by decide +kernel
theorem d13_8 : decode jdk_52_method_16_code 8 = .ok (.iload_n 2, 1) := by decide +kernel
theorem d13_9 : decode jdk_52_method_16_code 9 = .ok (.invokestatic 115, 3) := by decide +kernel
theorem d13_12 : decode jdk_52_method_16_code 12 = .ok (.istore 4, 2) := by decide +kernel
theorem d13_14 : decode jdk_52_method_16_code 14 = .ok (.iload 4, 2) := by decide +kernel
theorem d13_16 : decode jdk_52_method_16_code 16 = .ok (.iload_n 2, 1) := by decide +kernel
theorem d13_17 : decode jdk_52_method_16_code 17 = .ok (.if_icmp .eq 40, 3) := by decide +kernel
theorem d13_57 : decode jdk_52_method_16_code 57 = .ok (.aload_n 3, 1) := by decide +kernel
theorem d13_58 : decode jdk_52_method_16_code 58 = .ok (.areturn, 1) := by decide +kernel
theorem ef_14 (m : MethodId) (x0 : Nat) (x1 : Int32) (x2 : Int32) : entryFrame m #[(.ref x0), (.int x1), (.int x2)] 6 = mkF m 0 #[.val (.ref x0), .val (.int x1), .val (.int x2), .unset, .unset, .unset] [] := by first | (simp [entryFrame, mkF, argsToLocals, Value.category]; done) | rfl
set_option maxRecDepth 65536 in
set_option maxHeartbeats 40000000 in
theorem met_cmp3 (l : Launch) (Z : State) (a0 : Array Value) (hw : ∀ d ∈ tables_1, d.before a0 Z = true) (EL : List (String × Nat)) (hEL : EW Z a0 EL) (n0 bk : Nat) (h0 : Heap) (hz0 : Z.heap.size ≤ n0) (hn0 : n0 ≤ h0.size) (a : Nat) (xs : List Int32) (Aa : Ar Z h0 a .char xs) (hp : 0 < xs.length) (hcap : xs.length ≤ 2) (hq : ∀ x ∈ xs, ¬ 255 < x) (hbk : bk ≤ h0.size) : Met l Z EL (⟨"java/lang/StringUTF16", "compress", "([CII)[B"⟩ : MethodName) jdk_52_method_16_code 6 (some (.array .byte)) [] ({ frames := 1, cells := 1, slots := 2, locals := 18 } : Room) #[(.ref a), (.int (0 : Int32)), (.int (Int32.ofNat xs.length))] n0 bk h0 (fun _ => bk) (fun v h => ∃ t, v = some (.ref t) ∧ n0 ≤ t ∧ h0.size ≤ t ∧ Ar Z h t .byte (xs.map own_lo)) := by
  refine Met.intro (plainFor_of_name pn_3) (fun m => ef_14 m a (0 : Int32) (Int32.ofNat xs.length)) hz0 hEL ?_
  intro hE0 p e s m below meth c C
  have la : (_ : Nat) < _ := Aa.lt
  refine C.iloadN 1 d13_0 rfl ?_
  refine C.newarr (zn := xs.length) (cap := 2) 3 d13_1 (hw _ (List.mem_of_getElem? (i := 15) rfl)) rfl hcap (by decide) rfl (by decide) (by decide) (by decide) ?_
  intro t h1 g_t E1 R_t
  replace R_t : Ar Z h1 t .byte (List.replicate xs.length 0) := R_t
  have lt_t : t < h1.size := R_t.lt
  have sz_h1 : h0.size ≤ h1.size := E1.1
  replace Aa := Aa.ext E1
  refine C.astoreN 4 (L' := #[.val (.ref a), .val (.int (0 : Int32)), .val (.int (Int32.ofNat xs.length)), .val (.ref t), .unset, .unset]) d13_3 rfl rfl ?_
  refine C.aloadN 5 d13_4 rfl rfl ?_
  refine C.iloadN 6 d13_5 rfl ?_
  refine C.aloadN 7 d13_6 rfl rfl ?_
  refine C.iconst 8 (0 : Int32) d13_7 (by decide) ?_
  refine C.iloadN 9 d13_8 rfl ?_
  refine C.callS (b := h0.size) 12 [(.ref a), (.int (0 : Int32)), (.ref t), (.int (0 : Int32)), (.int (Int32.ofNat xs.length))] [] d13_9 (met_cmp5 l Z a0 hw EL hEL h0.size bk h1 (by omega) (by omega) a t xs Aa R_t hp hq (by omega) (by omega) (by omega)) (by omega) (Or.inl (Nat.le_refl _)) (hw _ (List.mem_of_getElem? (i := 353) rfl)) (hw _ (List.mem_of_getElem? (i := 354) rfl)) (hw _ (List.mem_of_getElem? (i := 334) rfl)) (hw _ (List.mem_of_getElem? (i := 355) rfl)) (by decide) rfl (lenOf pd__ACIABII_rI rfl) (by decide) (W := 0) (Nat.le_of_eq rfl) (by decide) (by decide) (by decide) rfl ?_
  rintro _ h2 K2 ⟨rfl, Kq, At⟩
  have sz_h2 : h1.size ≤ h2.size := Kq.1
  replace Aa := Aa.kp Kq (by first | omega | (dsimp only; omega))
  refine C.istore 14 (L' := #[.val (.ref a), .val (.int (0 : Int32)), .val (.int (Int32.ofNat xs.length)), .val (.ref t), .val (.int (Int32.ofNat xs.length)), .unset]) d13_12 rfl ?_
  refine C.iload 16 d13_14 rfl ?_
  refine C.iloadN 17 d13_16 rfl ?_
  refine C.icY 57 d13_17 (by decide) (by decide) (XT.ii_eq_t (show (Int32.ofNat xs.length) = (Int32.ofNat xs.length) from rfl)) ?_
  refine C.aloadN 58 d13_57 rfl rfl ?_
  refine C.retA rfl rfl d13_58 rfl (by decide) (by decide) (Or.inl (Nat.le_refl _)) ?_
  exact ⟨t, rfl, by omega, by omega, At⟩
theorem pd__ABI_rB : parseMethodDescriptor "([BI)B" = some ⟨[(.array .byte), .int], some .byte⟩ := by decide +kernel
theorem pd__ACII_rAB : parseMethodDescriptor "([CII)[B" = some ⟨[(.array .char), .int, .int], some (.array .byte)⟩ := by decide +kernel
theorem d14_0 : decode jdk_42_method_149_code 0 = .ok (.aload_n 0, 1) := by decide +kernel
theorem d14_1 : decode jdk_42_method_149_code 1 = .ok (.invokespecial 1, 3) := by decide +kernel
theorem d14_4 : decode jdk_42_method_149_code 4 = .ok (.iload_n 3, 1) := by decide +kernel
theorem d14_5 : decode jdk_42_method_149_code 5 = .ok (.ifCond .ne 22, 3) := by decide +kernel
theorem d14_27 : decode jdk_42_method_149_code 27 = .ok (.getstatic 38, 3) := by decide +kernel
theorem d14_30 : decode jdk_42_method_149_code 30 = .ok (.ifCond .eq 28, 3) := by decide +kernel
theorem d14_33 : decode jdk_42_method_149_code 33 = .ok (.aload_n 1, 1) := by decide +kernel
theorem d14_34 : decode jdk_42_method_149_code 34 = .ok (.iload_n 2, 1) := by decide +kernel
theorem d14_35 : decode jdk_42_method_149_code 35 = .ok (.iload_n 3, 1) := by decide +kernel
theorem d14_36 : decode jdk_42_method_149_code 36 = .ok (.invokestatic 177, 3) := by decide +kernel
theorem d14_39 : decode jdk_42_method_149_code 39 = .ok (.astore 5, 2) := by decide +kernel
theorem d14_41 : decode jdk_42_method_149_code 41 = .ok (.aload_n 0, 1) := by decide +kernel
theorem d14_42 : decode jdk_42_method_149_code 42 = .ok (.aload 5, 2) := by decide +kernel
theorem d14_44 : decode jdk_42_method_149_code 44 = .ok (.iload_n 3, 1) := by decide +kernel
theorem d14_45 : decode jdk_42_method_149_code 45 = .ok (.invokestatic 47, 3) := by decide +kernel
theorem d14_48 : decode jdk_42_method_149_code 48 = .ok (.putfield 15, 3) := by decide +kernel
theorem d14_51 : decode jdk_42_method_149_code 51 = .ok (.aload_n 0, 1) := by decide +kernel
theorem d14_52 : decode jdk_42_method_149_code 52 = .ok (.aload 5, 2) := by decide +kernel
theorem d14_54 : decode jdk_42_method_149_code 54 = .ok (.putfield 9, 3) := by decide +kernel
theorem d14_57 : decode jdk_42_method_149_code 57 = .ok (.return_, 1) := by decide +kernel
theorem ef_15 (m : MethodId) (x0 : Nat) (x1 : Nat) (x2 : Int32) (x3 : Int32) : entryFrame m #[(.ref x0), (.ref x1), (.int x2), (.int x3), .null] 6 = mkF m 0 #[.val (.ref x0), .val (.ref x1), .val (.int x2), .val (.int x3), .val .null, .unset] [] := by first | (simp [entryFrame, mkF, argsToLocals, Value.category]; done) | rfl
set_option maxRecDepth 65536 in
set_option maxHeartbeats 40000000 in
theorem met_s4 (l : Launch) (Z : State) (a0 : Array Value) (hw : ∀ d ∈ tables_1, d.before a0 Z = true) (EL : List (String × Nat)) (hEL : EW Z a0 EL) (n0 bk : Nat) (h0 : Heap) (hz0 : Z.heap.size ≤ n0) (hn0 : n0 ≤ h0.size) (a : Nat) (b : Nat) (xs : List Int32) (z0 : Int32) (X : Exa Z h0 a "java/lang/String") (FV : Fld Z h0 a "java/lang/String" "value" "[B" .null) (FC : Fld Z h0 a "java/lang/String" "coder" "B" (.int (0 : Int32))) (hna : n0 ≤ a) (hba : bk ≤ a) (Ac : Ar Z h0 b .char xs) (hp : 0 < xs.length) (hcap : xs.length ≤ 2) (hq : ∀ x ∈ xs, ¬ 255 < x) (SC : Sta Z Z.heap "java/lang/String" "COMPACT_STRINGS" "Z" (.int z0)) (hzc : ¬ z0 = 0) : Met l Z EL (⟨"java/lang/String", "<init>", "([CIILjava/lang/Void;)V"⟩ : MethodName) jdk_42_method_149_code 6 none [] ({ frames := 2, cells := 1, slots := 2, locals := 35 } : Room) #[(.ref a), (.ref b), (.int (0 : Int32)), (.int (Int32.ofNat xs.length)), .null] n0 bk h0 (fun _ => bk) (fun v h => v = none ∧ Str Z h h.size a xs ∧ OKp (fun y => y ≠ a ∧ y < h0.size) h0 h) := by
  refine Met.intro (plainFor_of_name pn_1) (fun m => ef_15 m a b (0 : Int32) (Int32.ofNat xs.length)) hz0 hEL ?_
  intro hE0 p e s m below meth c C
  have la : (_ : Nat) < _ := X.lt
  have lb : (_ : Nat) < _ := Ac.lt
  have lx := own_arlen Ac
  have hcr := own_chr Ac
  refine C.aloadN 1 d14_0 rfl rfl ?_
  refine C.objInit (W := 0) 4 d14_1 (hw _ (List.mem_of_getElem? (i := 20) rfl)) (hw _ (List.mem_of_getElem? (i := 21) rfl)) (hw _ (List.mem_of_getElem? (i := 22) rfl)) rfl (by decide) (Nat.le_of_eq rfl) (by decide) ?_
  refine C.iloadN 5 d14_4 rfl ?_
  refine C.ifY 27 d14_5 (by decide) (by decide) (XT.i0_ne_t (show ¬ ((Int32.ofNat xs.length) = 0) from (fun e => by have q := ((own_ofNat lx (show 0 < 2147483648 by decide)).1.mp e); omega))) ?_
  refine C.gets 30 d14_27 (hw _ (List.mem_of_getElem? (i := 5) rfl)) SC ?_
  refine C.ifN 33 d14_30 rfl (XT.i0_eq_f (show ¬ (z0 = 0) from hzc)) ?_
  refine C.aloadN 34 d14_33 rfl rfl ?_
  refine C.iloadN 35 d14_34 rfl ?_
  refine C.iloadN 36 d14_35 rfl ?_
  refine C.callS (b := h0.size) 39 [(.ref b), (.int (0 : Int32)), (.int (Int32.ofNat xs.length))] [] d14_36 (met_cmp3 l Z a0 hw EL hEL h0.size bk h0 (by omega) (by omega) b xs Ac hp hcap hq (by omega)) (by omega) (Or.inl (Nat.le_refl _)) (hw _ (List.mem_of_getElem? (i := 350) rfl)) (hw _ (List.mem_of_getElem? (i := 351) rfl)) (hw _ (List.mem_of_getElem? (i := 334) rfl)) (hw _ (List.mem_of_getElem? (i := 352) rfl)) (by decide) rfl (lenOf pd__ACII_rAB rfl) (by decide) (W := 0) (Nat.le_of_eq rfl) (by decide) (by decide) (by decide) rfl ?_
  rintro _ h1 K1 ⟨t, rfl, g1, g2, Rt⟩
  have sz_h1 : h0.size ≤ h1.size := K1.1
  replace X := own_exa K1 X (by first | omega | (dsimp only; omega))
  replace FV := own_fld K1 FV (by first | omega | (dsimp only; omega))
  replace FC := own_fld K1 FC (by first | omega | (dsimp only; omega))
  refine C.astore 41 (L' := #[.val (.ref a), .val (.ref b), .val (.int (0 : Int32)), .val (.int (Int32.ofNat xs.length)), .val .null, .val (.ref t)]) d14_39 rfl rfl ?_
  refine C.aloadN 42 d14_41 rfl rfl ?_
  refine C.aload 44 d14_42 rfl rfl ?_
  refine C.iloadN 45 d14_44 rfl ?_
  refine C.callS (b := h1.size) 48 [(.ref t), (.int (Int32.ofNat xs.length))] [(.ref a)] d14_45 (met_cfa l Z a0 hw EL hEL h1.size bk h1 (by omega) (by omega) t (xs.map own_lo) xs.length Rt (List.length_map _)) (by omega) (Or.inl (Nat.le_refl _)) (hw _ (List.mem_of_getElem? (i := 356) rfl)) (hw _ (List.mem_of_getElem? (i := 357) rfl)) (hw _ (List.mem_of_getElem? (i := 334) rfl)) (hw _ (List.mem_of_getElem? (i := 358) rfl)) (by decide) rfl (lenOf pd__ABI_rB rfl) (by decide) (W := 1) (Nat.le_of_eq rfl) (by decide) (by decide) (by decide) rfl ?_
  rintro _ h45_4 K45_4 ⟨rfl, rfl⟩
  refine C.putf (ty := .byte) 51 d14_48 (hw _ (List.mem_of_getElem? (i := 25) rfl)) Via.refl FC X (Or.inr ⟨(hw _ (List.mem_of_getElem? (i := 26) rfl)), rfl, rfl⟩) (hw _ (List.mem_of_getElem? (i := 11) rfl)) (by decide) rfl rfl (by omega) (Or.inl (by omega)) ?_
  intro h2 W2
  have sz_h2 : h1.size ≤ h2.size := (Nat.le_of_eq W2.size.symm)
  replace FV := FV.other W2 (Or.inr (slot_ne (t := (.array .byte)) (t' := .byte) (Or.inr (hw _ (List.mem_of_getElem? (i := 24) rfl))) (Or.inr (hw _ (List.mem_of_getElem? (i := 26) rfl))) (by decide) (by decide) (by decide)))
  replace FC := FC.same W2
  replace X := X.wr W2
  replace Rt := Rt.other W2 (by first | omega | (dsimp only; omega))
  refine C.aloadN 52 d14_51 rfl rfl ?_
  refine C.aload 54 d14_52 rfl rfl ?_
  refine C.putf (ty := (.array .byte)) 57 d14_54 (hw _ (List.mem_of_getElem? (i := 23) rfl)) Via.refl FV X (Or.inr ⟨(hw _ (List.mem_of_getElem? (i := 24) rfl)), rfl, rfl⟩) (hw _ (List.mem_of_getElem? (i := 11) rfl)) (by decide) rfl rfl (by omega) (Or.inl (by omega)) ?_
  intro h3 W3
  have sz_h3 : h2.size ≤ h3.size := (Nat.le_of_eq W3.size.symm)
  replace FC := FC.other W3 (Or.inr (slot_ne (t := .byte) (t' := (.array .byte)) (Or.inr (hw _ (List.mem_of_getElem? (i := 26) rfl))) (Or.inr (hw _ (List.mem_of_getElem? (i := 24) rfl))) (by decide) (by decide) (by decide)))
  replace FV := FV.same W3
  replace X := X.wr W3
  replace Rt := Rt.other W3 (by first | omega | (dsimp only; omega))
  refine C.retV rfl d14_57 (by decide) (by decide) (Or.inl (Nat.le_refl _)) ?_
  exact ⟨rfl, Str.made X FC FV Rt (fun y hy => ⟨hcr y hy, hq y hy⟩), (K1.weak (fun y q => q.2)).trans (((OKp.ofWr W2).trans (OKp.ofWr W3)).weak (fun y q => q.1))⟩
theorem pd__ACIILjava_lang_Void_rV : parseMethodDescriptor "([CIILjava/lang/Void;)V" = some ⟨[(.array .char), .int, .int, (.object "java/lang/Void")], none⟩ := by decide +kernel
theorem d15_0 : decode jdk_42_method_3_code 0 = .ok (.aload_n 0, 1) := by decide +kernel
theorem d15_1 : decode jdk_42_method_3_code 1 = .ok (.aload_n 1, 1) := by decide +kernel
theorem d15_2 : decode jdk_42_method_3_code 2 = .ok (.iconst 0, 1) := by decide +kernel
theorem d15_3 : decode jdk_42_method_3_code 3 = .ok (.aload_n 1, 1) := by decide +kernel
theorem d15_4 : decode jdk_42_method_3_code 4 = .ok (.arraylength, 1) := by decide +kernel
theorem d15_5 : decode jdk_42_method_3_code 5 = .ok (.aconst_null, 1) := by decide +kernel
theorem d15_6 : decode jdk_42_method_3_code 6 = .ok (.invokespecial 27, 3) := by decide +kernel
theorem d15_9 : decode jdk_42_method_3_code 9 = .ok (.return_, 1) := by decide +kernel
theorem ef_16 (m : MethodId) (x0 : Nat) (x1 : Nat) : entryFrame m #[(.ref x0), (.ref x1)] 2 = mkF m 0 #[.val (.ref x0), .val (.ref x1)] [] := by first | (simp [entryFrame, mkF, argsToLocals, Value.category]; done) | rfl
set_option maxRecDepth 65536 in
set_option maxHeartbeats 40000000 in
theorem met_s1 (l : Launch) (Z : State) (a0 : Array Value) (hw : ∀ d ∈ tables_1, d.before a0 Z = true) (EL : List (String × Nat)) (hEL : EW Z a0 EL) (n0 bk : Nat) (h0 : Heap) (hz0 : Z.heap.size ≤ n0) (hn0 : n0 ≤ h0.size) (a : Nat) (b : Nat) (xs : List Int32) (z0 : Int32) (X : Exa Z h0 a "java/lang/String") (FV : Fld Z h0 a "java/lang/String" "value" "[B" .null) (FC : Fld Z h0 a "java/lang/String" "coder" "B" (.int (0 : Int32))) (hna : n0 ≤ a) (hba : bk ≤ a) (Ac : Ar Z h0 b .char xs) (hp : 0 < xs.length) (hcap : xs.length ≤ 2) (hq : ∀ x ∈ xs, ¬ 255 < x) (SC : Sta Z Z.heap "java/lang/String" "COMPACT_STRINGS" "Z" (.int z0)) (hzc : ¬ z0 = 0) : Met l Z EL (⟨"java/lang/String", "<init>", "([C)V"⟩ : MethodName) jdk_42_method_3_code 2 none [] ({ frames := 3, cells := 1, slots := 2, locals := 52 } : Room) #[(.ref a), (.ref b)] n0 bk h0 (fun _ => bk) (fun v h => v = none ∧ Str Z h h.size a xs ∧ OKp (fun y => y ≠ a ∧ y < h0.size) h0 h) := by
  refine Met.intro (plainFor_of_name pn_1) (fun m => ef_16 m a b) hz0 hEL ?_
  intro hE0 p e s m below meth c C
  refine C.aloadN 1 d15_0 rfl rfl ?_
  refine C.aloadN 2 d15_1 rfl rfl ?_
  refine C.iconst 3 (0 : Int32) d15_2 (by decide) ?_
  refine C.aloadN 4 d15_3 rfl rfl ?_
  refine C.alen 5 d15_4 Ac rfl ?_
  refine C.aconstNull 6 d15_5 ?_
  refine C.callI (b := n0) 9 [(.ref b), (.int (0 : Int32)), (.int (Int32.ofNat xs.length)), .null] [] d15_6 (met_s4 l Z a0 hw EL hEL n0 bk h0 (by omega) (by omega) a b xs z0 X FV FC hna hba Ac hp hcap hq SC hzc) rfl (by omega) (Or.inl (Nat.le_refl _)) (hw _ (List.mem_of_getElem? (i := 347) rfl)) (hw _ (List.mem_of_getElem? (i := 348) rfl)) (hw _ (List.mem_of_getElem? (i := 3) rfl)) (hw _ (List.mem_of_getElem? (i := 349) rfl)) (by decide) rfl (lenOf pd__ACIILjava_lang_Void_rV rfl) (by decide) (W := 0) (Nat.le_of_eq rfl) (by decide) (by decide) (by decide) rfl ?_
  rintro _ h1 K1 ⟨rfl, Sa, Kq⟩
  have sz_h1 : h0.size ≤ h1.size := K1.1
  refine C.retV rfl d15_9 (by decide) (by decide) (Or.inl (Nat.le_refl _)) ?_
  exact ⟨rfl, Sa, Kq⟩
theorem pn_4 : plainName "java/lang/AbstractStringBuilder" = true := by first | (simp [plainName, overriddenIn]; done) | decide +kernel
theorem d16_0 : decode jdk_68_method_9_code 0 = .ok (.aload_n 0, 1) := by decide +kernel
theorem d16_1 : decode jdk_68_method_9_code 1 = .ok (.getfield 15, 3) := by decide +kernel
theorem d16_4 : decode jdk_68_method_9_code 4 = .ok (.arraylength, 1) := by decide +kernel
theorem d16_5 : decode jdk_68_method_9_code 5 = .ok (.aload_n 0, 1) := by decide +kernel
theorem d16_6 : decode jdk_68_method_9_code 6 = .ok (.getfield 22, 3) := by decide +kernel
theorem d16_9 : decode jdk_68_method_9_code 9 = .ok (.ishr, 1) := by decide +kernel
theorem d16_10 : decode jdk_68_method_9_code 10 = .ok (.istore_n 2, 1) := by decide +kernel
theorem d16_11 : decode jdk_68_method_9_code 11 = .ok (.iload_n 1, 1) := by decide +kernel
theorem d16_12 : decode jdk_68_method_9_code 12 = .ok (.iload_n 2, 1) := by decide +kernel
theorem d16_13 : decode jdk_68_method_9_code 13 = .ok (.isub, 1) := by decide +kernel
theorem d16_14 : decode jdk_68_method_9_code 14 = .ok (.ifCond .le 24, 3) := by decide +kernel
theorem d16_38 : decode jdk_68_method_9_code 38 = .ok (.return_, 1) := by decide +kernel
theorem ef_17 (m : MethodId) (x0 : Nat) (x1 : Int32) : entryFrame m #[(.ref x0), (.int x1)] 3 = mkF m 0 #[.val (.ref x0), .val (.int x1), .unset] [] := by first | (simp [entryFrame, mkF, argsToLocals, Value.category]; done) | rfl
set_option maxRecDepth 65536 in
set_option maxHeartbeats 40000000 in
theorem met_eci (l : Launch) (Z : State) (a0 : Array Value) (hw : ∀ d ∈ tables_1, d.before a0 Z = true) (EL : List (String × Nat)) (hEL : EW Z a0 EL) (n0 bk : Nat) (h0 : Heap) (hz0 : Z.heap.size ≤ n0) (hn0 : n0 ≤ h0.size) (sb : Nat) (t : Nat) (cap : Nat) (cs : List Int32) (k : Nat) (B : SB Z h0 sb t cap cs) (hk : k ≤ cap) : Met l Z EL (⟨"java/lang/AbstractStringBuilder", "ensureCapacityInternal", "(I)V"⟩ : MethodName) jdk_68_method_9_code 3 none [] ({ frames := 0, cells := 0, slots := 0, locals := 0 } : Room) #[(.ref sb), (.int (Int32.ofNat k))] n0 bk h0 (fun _ => bk) (fun v h => v = none ∧ h0 = h) := by
  refine Met.intro (plainFor_of_name pn_4) (fun m => ef_17 m sb (Int32.ofNat k)) hz0 hEL ?_
  intro hE0 p e s m below meth c C
  have B0 := B
  obtain ⟨x1, fv, fc, fn, ra, hcap, hrg⟩ := B
  have hcp : cap < 2147483648 := by have q := own_arlen ra; rw [own_sblen hcap] at q; exact q
  refine C.aloadN 1 d16_0 rfl rfl ?_
  refine C.getf 4 d16_1 (hw _ (List.mem_of_getElem? (i := 128) rfl)) Via.refl fv ?_
  refine C.alen 5 d16_4 ra (by rw [own_sblen hcap]) ?_
  refine C.aloadN 6 d16_5 rfl rfl ?_
  refine C.getf 9 d16_6 (hw _ (List.mem_of_getElem? (i := 130) rfl)) Via.refl fc ?_
  refine C.ishr 10 d16_9 ?_
  rw [own_shr0]
  refine C.istoreN 11 (L' := #[.val (.ref sb), .val (.int (Int32.ofNat k)), .val (.int (Int32.ofNat cap))]) d16_10 rfl ?_
  refine C.iloadN 12 d16_11 rfl ?_
  refine C.iloadN 13 d16_12 rfl ?_
  refine C.isub 14 d16_13 ?_
  refine C.ifY 38 d16_14 (by decide) (by decide) (XT.i0_le_t (show ¬ (0 < ((Int32.ofNat k) - (Int32.ofNat cap))) from (own_subneg hk hcp))) ?_
  refine C.retV rfl d16_38 (by decide) (by decide) (Or.inl (Nat.le_refl _)) ?_
  exact ⟨rfl, rfl⟩
theorem d17_0 : decode jdk_68_method_68_code 0 = .ok (.getstatic 18, 3) := by decide +kernel
theorem d17_3 : decode jdk_68_method_68_code 3 = .ok (.ifCond .eq 14, 3) := by decide +kernel
theorem d17_6 : decode jdk_68_method_68_code 6 = .ok (.aload_n 0, 1) := by decide +kernel
theorem d17_7 : decode jdk_68_method_68_code 7 = .ok (.getfield 22, 3) := by decide +kernel
theorem d17_10 : decode jdk_68_method_68_code 10 = .ok (.ifCond .ne 7, 3) := by decide +kernel
theorem d17_13 : decode jdk_68_method_68_code 13 = .ok (.iconst 1, 1) := by decide +kernel
theorem d17_14 : decode jdk_68_method_68_code 14 = .ok (.goto 4, 3) := by decide +kernel
theorem d17_18 : decode jdk_68_method_68_code 18 = .ok (.ireturn, 1) := by decide +kernel
theorem ef_18 (m : MethodId) (x0 : Nat) : entryFrame m #[(.ref x0)] 1 = mkF m 0 #[.val (.ref x0)] [] := by first | (simp [entryFrame, mkF, argsToLocals, Value.category]; done) | rfl
set_option maxRecDepth 65536 in
set_option maxHeartbeats 40000000 in
theorem met_asl (l : Launch) (Z : State) (a0 : Array Value) (hw : ∀ d ∈ tables_1, d.before a0 Z = true) (EL : List (String × Nat)) (hEL : EW Z a0 EL) (n0 bk : Nat) (h0 : Heap) (hz0 : Z.heap.size ≤ n0) (hn0 : n0 ≤ h0.size) (sb : Nat) (t : Nat) (cap : Nat) (cs : List Int32) (z0 : Int32) (B : SB Z h0 sb t cap cs) (SC : Sta Z Z.heap "java/lang/String" "COMPACT_STRINGS" "Z" (.int z0)) (hzc : ¬ z0 = 0) : Met l Z EL (⟨"java/lang/AbstractStringBuilder", "isLatin1", "()Z"⟩ : MethodName) jdk_68_method_68_code 1 (some .boolean) [] ({ frames := 0, cells := 0, slots := 0, locals := 0 } : Room) #[(.ref sb)] n0 bk h0 (fun _ => bk) (fun v h => v = some (.int 1) ∧ h0 = h) := by
  refine Met.intro (plainFor_of_name pn_4) (fun m => ef_18 m sb) hz0 hEL ?_
  intro hE0 p e s m below meth c C
  have B0 := B
  obtain ⟨x1, fv, fc, fn, ra, hcap, hrg⟩ := B
  have hcp : cap < 2147483648 := by have q := own_arlen ra; rw [own_sblen hcap] at q; exact q
  refine C.gets 3 d17_0 (hw _ (List.mem_of_getElem? (i := 127) rfl)) SC ?_
  refine C.ifN 6 d17_3 rfl (XT.i0_eq_f (show ¬ (z0 = 0) from hzc)) ?_
  refine C.aloadN 7 d17_6 rfl rfl ?_
  refine C.getf 10 d17_7 (hw _ (List.mem_of_getElem? (i := 130) rfl)) Via.refl fc ?_
  refine C.ifN 13 d17_10 rfl (XT.i0_ne_f (show (0 : Int32) = 0 from rfl)) ?_
  refine C.iconst 14 (1 : Int32) d17_13 (by decide) ?_
  refine C.goto 18 d17_14 (by decide) (by decide) ?_
  refine C.retN (t := .boolean) rfl (by simp) d17_18 (by decide) (by decide) (Or.inl (Nat.le_refl _)) ?_
  exact ⟨rfl, rfl⟩
theorem d18_0 : decode jdk_68_method_71_code 0 = .ok (.getstatic 18, 3) := by decide +kernel
theorem d18_3 : decode jdk_68_method_71_code 3 = .ok (.ifCond .eq 18, 3) := by decide +kernel
theorem d18_6 : decode jdk_68_method_71_code 6 = .ok (.aload_n 0, 1) := by decide +kernel
theorem d18_7 : decode jdk_68_method_71_code 7 = .ok (.getfield 22, 3) := by decide +kernel
theorem d18_10 : decode jdk_68_method_71_code 10 = .ok (.aload_n 1, 1) := by decide +kernel
theorem d18_11 : decode jdk_68_method_71_code 11 = .ok (.invokevirtual 40, 3) := by decide +kernel
theorem d18_14 : decode jdk_68_method_71_code 14 = .ok (.if_icmp .eq 7, 3) := by decide +kernel
theorem d18_21 : decode jdk_68_method_71_code 21 = .ok (.return_, 1) := by decide +kernel
theorem ef_19 (m : MethodId) (x0 : Nat) (x1 : Nat) : entryFrame m #[(.ref x0), (.ref x1)] 2 = mkF m 0 #[.val (.ref x0), .val (.ref x1)] [] := by first | (simp [entryFrame, mkF, argsToLocals, Value.category]; done) | rfl
set_option maxRecDepth 65536 in
set_option maxHeartbeats 40000000 in
theorem met_inf (l : Launch) (Z : State) (a0 : Array Value) (hw : ∀ d ∈ tables_1, d.before a0 Z = true) (EL : List (String × Nat)) (hEL : EW Z a0 EL) (n0 bk : Nat) (h0 : Heap) (hz0 : Z.heap.size ≤ n0) (hn0 : n0 ≤ h0.size) (sb : Nat) (t : Nat) (cap : Nat) (cs : List Int32) (a : Nat) (ba : Nat) (ds : List Int32) (z0 : Int32) (B : SB Z h0 sb t cap cs) (Sa : Str Z h0 ba a ds) (SC : Sta Z Z.heap "java/lang/String" "COMPACT_STRINGS" "Z" (.int z0)) (hzc : ¬ z0 = 0) : Met l Z EL (⟨"java/lang/AbstractStringBuilder", "inflateIfNeededFor", "(Ljava/lang/String;)V"⟩ : MethodName) jdk_68_method_71_code 2 none [] ({ frames := 1, cells := 0, slots := 0, locals := 13 } : Room) #[(.ref sb), (.ref a)] n0 bk h0 (fun _ => bk) (fun v h => v = none ∧ h0 = h) := by
  refine Met.intro (plainFor_of_name pn_4) (fun m => ef_19 m sb a) hz0 hEL ?_
  intro hE0 p e s m below meth c C
  have B0 := B
  obtain ⟨x1, fv, fc, fn, ra, hcap, hrg⟩ := B
  have hcp : cap < 2147483648 := by have q := own_arlen ra; rw [own_sblen hcap] at q; exact q
  have Xs := Sa.exa
  refine C.gets 3 d18_0 (hw _ (List.mem_of_getElem? (i := 127) rfl)) SC ?_
  refine C.ifN 6 d18_3 rfl (XT.i0_eq_f (show ¬ (z0 = 0) from hzc)) ?_
  refine C.aloadN 7 d18_6 rfl rfl ?_
  refine C.getf 10 d18_7 (hw _ (List.mem_of_getElem? (i := 130) rfl)) Via.refl fc ?_
  refine C.aloadN 11 d18_10 rfl rfl ?_
  refine C.callV (b := h0.size) 14 [] [(.int (0 : Int32))] d18_11 (met_coder l Z a0 hw EL hEL h0.size bk h0 (by omega) (by omega) a ba ds z0 Sa SC hzc) Xs (by omega) (Or.inl (Nat.le_refl _)) (hw _ (List.mem_of_getElem? (i := 160) rfl)) (hw _ (List.mem_of_getElem? (i := 85) rfl)) (hw _ (List.mem_of_getElem? (i := 87) rfl)) (hw _ (List.mem_of_getElem? (i := 86) rfl)) (hw _ (List.mem_of_getElem? (i := 3) rfl)) (hw _ (List.mem_of_getElem? (i := 88) rfl)) (fun hZ => notFace_of_selects (args := #[]) (mvT hZ (hw _ (List.mem_of_getElem? (i := 87) rfl)))) (by decide) rfl (lenOf pd___rB rfl) (by decide) (W := 1) (Nat.le_of_eq rfl) (by decide) (by decide) (by decide) rfl ?_
  rintro _ h11_3 K11_3 ⟨rfl, rfl⟩
  refine C.icY 21 d18_14 (by decide) (by decide) (XT.ii_eq_t (show (0 : Int32) = (0 : Int32) from rfl)) ?_
  refine C.retV rfl d18_21 (by decide) (by decide) (Or.inl (Nat.le_refl _)) ?_
  exact ⟨rfl, rfl⟩
theorem d19_0 : decode jdk_42_method_147_code 0 = .ok (.aload_n 0, 1) := by decide +kernel
theorem d19_1 : decode jdk_42_method_147_code 1 = .ok (.invokevirtual 335, 3) := by decide +kernel
theorem d19_4 : decode jdk_42_method_147_code 4 = .ok (.iload_n 3, 1) := by decide +kernel
theorem d19_5 : decode jdk_42_method_147_code 5 = .ok (.if_icmp .ne 23, 3) := by decide +kernel
theorem d19_8 : decode jdk_42_method_147_code 8 = .ok (.aload_n 0, 1) := by decide +kernel
theorem d19_9 : decode jdk_42_method_147_code 9 = .ok (.getfield 9, 3) := by decide +kernel
theorem d19_12 : decode jdk_42_method_147_code 12 = .ok (.iconst 0, 1) := by decide +kernel
theorem d19_13 : decode jdk_42_method_147_code 13 = .ok (.aload_n 1, 1) := by decide +kernel
theorem d19_14 : decode jdk_42_method_147_code 14 = .ok (.iload_n 2, 1) := by decide +kernel
theorem d19_15 : decode jdk_42_method_147_code 15 = .ok (.iload_n 3, 1) := by decide +kernel
theorem d19_16 : decode jdk_42_method_147_code 16 = .ok (.ishl, 1) := by decide +kernel
theorem d19_17 : decode jdk_42_method_147_code 17 = .ok (.aload_n 0, 1) := by decide +kernel
theorem d19_18 : decode jdk_42_method_147_code 18 = .ok (.getfield 9, 3) := by decide +kernel
theorem d19_21 : decode jdk_42_method_147_code 21 = .ok (.arraylength, 1) := by decide +kernel
theorem d19_22 : decode jdk_42_method_147_code 22 = .ok (.invokestatic 212, 3) := by decide +kernel
theorem d19_25 : decode jdk_42_method_147_code 25 = .ok (.goto 18, 3) := by decide +kernel
theorem d19_43 : decode jdk_42_method_147_code 43 = .ok (.return_, 1) := by decide +kernel
theorem ef_20 (m : MethodId) (x0 : Nat) (x1 : Nat) (x2 : Int32) (x3 : Int32) : entryFrame m #[(.ref x0), (.ref x1), (.int x2), (.int x3)] 4 = mkF m 0 #[.val (.ref x0), .val (.ref x1), .val (.int x2), .val (.int x3)] [] := by first | (simp [entryFrame, mkF, argsToLocals, Value.category]; done) | rfl
set_option maxRecDepth 65536 in
set_option maxHeartbeats 40000000 in
theorem met_gby (l : Launch) (Z : State) (a0 : Array Value) (hw : ∀ d ∈ tables_1, d.before a0 Z = true) (EL : List (String × Nat)) (hEL : EW Z a0 EL) (n0 bk : Nat) (h0 : Heap) (hz0 : Z.heap.size ≤ n0) (hn0 : n0 ≤ h0.size) (a : Nat) (ba : Nat) (ds : List Int32) (t : Nat) (ys : List Int32) (i : Nat) (z0 : Int32) (Sa : Str Z h0 ba a ds) (R : Ar Z h0 t .byte ys) (hi : i + ds.length ≤ ys.length) (hnt : n0 ≤ t) (hbt : bk ≤ t) (SC : Sta Z Z.heap "java/lang/String" "COMPACT_STRINGS" "Z" (.int z0)) (hzc : ¬ z0 = 0) : Met l Z EL (⟨"java/lang/String", "getBytes", "([BIB)V"⟩ : MethodName) jdk_42_method_147_code 4 none [] ({ frames := 1, cells := 0, slots := 0, locals := 18 } : Room) #[(.ref a), (.ref t), (.int (Int32.ofNat i)), (.int (0 : Int32))] n0 bk h0 (fun _ => bk) (fun v h => v = none ∧ OKp (fun x => x ≠ t) h0 h ∧ Ar Z h t .byte (ys.take i ++ ds.map own_lo ++ ys.drop (i + ds.length))) := by
  refine Met.intro (plainFor_of_name pn_1) (fun m => ef_20 m a t (Int32.ofNat i) (0 : Int32)) hz0 hEL ?_
  intro hE0 p e s m below meth c C
  have Sa0 := Sa
  obtain ⟨u, f1, f2, f3, f4, f5, f6, f7⟩ := Sa
  refine C.aloadN 1 d19_0 rfl rfl ?_
  refine C.callV (b := h0.size) 4 [] [] d19_1 (met_coder l Z a0 hw EL hEL h0.size bk h0 (by omega) (by omega) a ba ds z0 Sa0 SC hzc) f3 (by omega) (Or.inl (Nat.le_refl _)) (hw _ (List.mem_of_getElem? (i := 84) rfl)) (hw _ (List.mem_of_getElem? (i := 85) rfl)) (hw _ (List.mem_of_getElem? (i := 87) rfl)) (hw _ (List.mem_of_getElem? (i := 86) rfl)) (hw _ (List.mem_of_getElem? (i := 3) rfl)) (hw _ (List.mem_of_getElem? (i := 88) rfl)) (fun hZ => notFace_of_selects (args := #[]) (mvT hZ (hw _ (List.mem_of_getElem? (i := 87) rfl)))) (by decide) rfl (lenOf pd___rB rfl) (by decide) (W := 0) (Nat.le_of_eq rfl) (by decide) (by decide) (by decide) rfl ?_
  rintro _ h1_1 K1_1 ⟨rfl, rfl⟩
  refine C.iloadN 5 d19_4 rfl ?_
  refine C.icN 8 d19_5 rfl (XT.ii_ne_f (show (0 : Int32) = (0 : Int32) from rfl)) ?_
  refine C.aloadN 9 d19_8 rfl rfl ?_
  refine C.getf 12 d19_9 (hw _ (List.mem_of_getElem? (i := 23) rfl)) Via.refl f5 ?_
  refine C.iconst 13 (0 : Int32) d19_12 (by decide) ?_
  refine C.aloadN 14 d19_13 rfl rfl ?_
  refine C.iloadN 15 d19_14 rfl ?_
  refine C.iloadN 16 d19_15 rfl ?_
  refine C.ishl 17 d19_16 ?_
  rw [own_shl0]
  refine C.aloadN 18 d19_17 rfl rfl ?_
  refine C.getf 21 d19_18 (hw _ (List.mem_of_getElem? (i := 23) rfl)) Via.refl f5 ?_
  refine C.alen 22 d19_21 f6 rfl ?_
  refine C.acopy (si := 0) (di := i) (ni := (ds.map own_lo).length) (W := 0) 25 d19_22 (hw _ (List.mem_of_getElem? (i := 166) rfl)) (hw _ (List.mem_of_getElem? (i := 169) rfl)) (hw _ (List.mem_of_getElem? (i := 167) rfl)) (hw _ (List.mem_of_getElem? (i := 168) rfl)) f6 R rfl rfl rfl rfl (by omega) (by rw [List.length_map]; exact hi) (by omega) (Or.inl hbt) rfl (by decide) (Nat.le_of_eq rfl) (by decide) ?_
  intro h1 K1 N1 Y1
  have sz_h1 : h0.size ≤ h1.size := K1.1
  replace R : Ar Z h1 t .byte (ys.take i ++ ds.map own_lo ++ ys.drop (i + ds.length)) := (by have q := N1; rw [List.drop_zero, List.take_length, List.length_map] at q; exact q)
  refine C.goto 43 d19_25 (by decide) (by decide) ?_
  refine C.retV rfl d19_43 (by decide) (by decide) (Or.inl (Nat.le_refl _)) ?_
  exact ⟨rfl, K1, R⟩
theorem pd__Ljava_lang_String_rV : parseMethodDescriptor "(Ljava/lang/String;)V" = some ⟨[(.object "java/lang/String")], none⟩ := by decide +kernel
theorem pd__ABIB_rV : parseMethodDescriptor "([BIB)V" = some ⟨[(.array .byte), .int, .byte], none⟩ := by decide +kernel
theorem d20_0 : decode jdk_68_method_73_code 0 = .ok (.aload_n 0, 1) := by decide +kernel
theorem d20_1 : decode jdk_68_method_73_code 1 = .ok (.aload_n 2, 1) := by decide +kernel
theorem d20_2 : decode jdk_68_method_73_code 2 = .ok (.invokevirtual 397, 3) := by decide +kernel
theorem d20_5 : decode jdk_68_method_73_code 5 = .ok (.aload_n 2, 1) := by decide +kernel
theorem d20_6 : decode jdk_68_method_73_code 6 = .ok (.aload_n 0, 1) := by decide +kernel
theorem d20_7 : decode jdk_68_method_73_code 7 = .ok (.getfield 15, 3) := by decide +kernel
theorem d20_10 : decode jdk_68_method_73_code 10 = .ok (.iload_n 1, 1) := by decide +kernel
theorem d20_11 : decode jdk_68_method_73_code 11 = .ok (.aload_n 0, 1) := by decide +kernel
theorem d20_12 : decode jdk_68_method_73_code 12 = .ok (.getfield 22, 3) := by decide +kernel
theorem d20_15 : decode jdk_68_method_73_code 15 = .ok (.invokevirtual 399, 3) := by decide +kernel
theorem d20_18 : decode jdk_68_method_73_code 18 = .ok (.return_, 1) := by decide +kernel
theorem ef_21 (m : MethodId) (x0 : Nat) (x1 : Int32) (x2 : Nat) : entryFrame m #[(.ref x0), (.int x1), (.ref x2)] 3 = mkF m 0 #[.val (.ref x0), .val (.int x1), .val (.ref x2)] [] := by first | (simp [entryFrame, mkF, argsToLocals, Value.category]; done) | rfl
set_option maxRecDepth 65536 in
set_option maxHeartbeats 40000000 in
theorem met_psa (l : Launch) (Z : State) (a0 : Array Value) (hw : ∀ d ∈ tables_1, d.before a0 Z = true) (EL : List (String × Nat)) (hEL : EW Z a0 EL) (n0 bk : Nat) (h0 : Heap) (hz0 : Z.heap.size ≤ n0) (hn0 : n0 ≤ h0.size) (sb : Nat) (t : Nat) (cap : Nat) (cs : List Int32) (a : Nat) (ba : Nat) (ds : List Int32) (z0 : Int32) (B : SB Z h0 sb t cap cs) (Sa : Str Z h0 ba a ds) (hl : cs.length + ds.length ≤ cap) (hnt : n0 ≤ t) (hbt : bk ≤ t) (SC : Sta Z Z.heap "java/lang/String" "COMPACT_STRINGS" "Z" (.int z0)) (hzc : ¬ z0 = 0) : Met l Z EL (⟨"java/lang/AbstractStringBuilder", "putStringAt", "(ILjava/lang/String;)V"⟩ : MethodName) jdk_68_method_73_code 3 none [] ({ frames := 2, cells := 0, slots := 0, locals := 33 } : Room) #[(.ref sb), (.int (Int32.ofNat cs.length)), (.ref a)] n0 bk h0 (fun _ => bk) (fun v h => v = none ∧ OKp (fun x => x ≠ t) h0 h ∧ Ar Z h t .byte ((cs ++ ds).map own_lo ++ List.replicate (cap - (cs ++ ds).length) 0)) := by
  refine Met.intro (plainFor_of_name pn_4) (fun m => ef_21 m sb (Int32.ofNat cs.length) a) hz0 hEL ?_
  intro hE0 p e s m below meth c C
  have B0 := B
  obtain ⟨x1, fv, fc, fn, ra, hcap, hrg⟩ := B
  have hcp : cap < 2147483648 := by have q := own_arlen ra; rw [own_sblen hcap] at q; exact q
  have Xs := Sa.exa
  have lts : (_ : Nat) < _ := ra.lt
  refine C.aloadN 1 d20_0 rfl rfl ?_
  refine C.aloadN 2 d20_1 rfl rfl ?_
  refine C.callV (b := h0.size) 5 [(.ref a)] [] d20_2 (met_inf l Z a0 hw EL hEL h0.size bk h0 (by omega) (by omega) sb t cap cs a ba ds z0 B0 Sa SC hzc) x1 (by omega) (Or.inl (Nat.le_refl _)) (hw _ (List.mem_of_getElem? (i := 155) rfl)) (own_declares (hw _ (List.mem_of_getElem? (i := 156) rfl)) (hw _ (List.mem_of_getElem? (i := 159) rfl))) (hw _ (List.mem_of_getElem? (i := 158) rfl)) (hw _ (List.mem_of_getElem? (i := 156) rfl)) (hw _ (List.mem_of_getElem? (i := 124) rfl)) (hw _ (List.mem_of_getElem? (i := 159) rfl)) (fun hZ => notFace_of_selects (args := #[]) (mvT hZ (hw _ (List.mem_of_getElem? (i := 158) rfl)))) (by decide) rfl (lenOf pd__Ljava_lang_String_rV rfl) (by decide) (W := 0) (Nat.le_of_eq rfl) (by decide) (by decide) (by decide) rfl ?_
  rintro _ h2_1 K2_1 ⟨rfl, rfl⟩
  refine C.aloadN 6 d20_5 rfl rfl ?_
  refine C.aloadN 7 d20_6 rfl rfl ?_
  refine C.getf 10 d20_7 (hw _ (List.mem_of_getElem? (i := 128) rfl)) Via.refl fv ?_
  refine C.iloadN 11 d20_10 rfl ?_
  refine C.aloadN 12 d20_11 rfl rfl ?_
  refine C.getf 15 d20_12 (hw _ (List.mem_of_getElem? (i := 130) rfl)) Via.refl fc ?_
  refine C.callV (b := n0) 18 [(.ref t), (.int (Int32.ofNat cs.length)), (.int (0 : Int32))] [] d20_15 (met_gby l Z a0 hw EL hEL n0 bk h0 (by omega) (by omega) a ba ds t _ cs.length z0 Sa ra (by rw [own_sblen hcap]; exact hl) hnt hbt SC hzc) Xs (by omega) (Or.inl (Nat.le_refl _)) (hw _ (List.mem_of_getElem? (i := 161) rfl)) (hw _ (List.mem_of_getElem? (i := 162) rfl)) (hw _ (List.mem_of_getElem? (i := 164) rfl)) (hw _ (List.mem_of_getElem? (i := 163) rfl)) (hw _ (List.mem_of_getElem? (i := 3) rfl)) (hw _ (List.mem_of_getElem? (i := 165) rfl)) (fun hZ => notFace_of_selects (args := #[]) (mvT hZ (hw _ (List.mem_of_getElem? (i := 164) rfl)))) (by decide) rfl (lenOf pd__ABIB_rV rfl) (by decide) (W := 0) (Nat.le_of_eq rfl) (by decide) (by decide) (by decide) rfl ?_
  rintro _ h1 K1 ⟨rfl, Kq, Rq⟩
  have sz_h1 : h0.size ≤ h1.size := K1.1
  refine C.retV rfl d20_18 (by decide) (by decide) (Or.inl (Nat.le_refl _)) ?_
  exact ⟨rfl, Kq, by rw [← own_sbput hl]; exact Rq⟩
theorem pd___rI : parseMethodDescriptor "()I" = some ⟨[], some .int⟩ := by decide +kernel
theorem pd__I_rV : parseMethodDescriptor "(I)V" = some ⟨[.int], none⟩ := by decide +kernel
theorem pd__ILjava_lang_String_rV : parseMethodDescriptor "(ILjava/lang/String;)V" = some ⟨[.int, (.object "java/lang/String")], none⟩ := by decide +kernel
theorem d21_0 : decode jdk_68_method_22_code 0 = .ok (.aload_n 1, 1) := by decide +kernel
theorem d21_1 : decode jdk_68_method_22_code 1 = .ok (.ifnonnull 8, 3) := by decide +kernel
theorem d21_9 : decode jdk_68_method_22_code 9 = .ok (.aload_n 1, 1) := by decide +kernel
theorem d21_10 : decode jdk_68_method_22_code 10 = .ok (.invokevirtual 32, 3) := by decide +kernel
theorem d21_13 : decode jdk_68_method_22_code 13 = .ok (.istore_n 2, 1) := by decide +kernel
theorem d21_14 : decode jdk_68_method_22_code 14 = .ok (.aload_n 0, 1) := by decide +kernel
theorem d21_15 : decode jdk_68_method_22_code 15 = .ok (.aload_n 0, 1) := by decide +kernel
theorem d21_16 : decode jdk_68_method_22_code 16 = .ok (.getfield 79, 3) := by decide +kernel
theorem d21_19 : decode jdk_68_method_22_code 19 = .ok (.iload_n 2, 1) := by decide +kernel
theorem d21_20 : decode jdk_68_method_22_code 20 = .ok (.iadd, 1) := by decide +kernel
theorem d21_21 : decode jdk_68_method_22_code 21 = .ok (.invokevirtual 100, 3) := by decide +kernel
theorem d21_24 : decode jdk_68_method_22_code 24 = .ok (.aload_n 0, 1) := by decide +kernel
theorem d21_25 : decode jdk_68_method_22_code 25 = .ok (.aload_n 0, 1) := by decide +kernel
theorem d21_26 : decode jdk_68_method_22_code 26 = .ok (.getfield 79, 3) := by decide +kernel
theorem d21_29 : decode jdk_68_method_22_code 29 = .ok (.aload_n 1, 1) := by decide +kernel
theorem d21_30 : decode jdk_68_method_22_code 30 = .ok (.invokevirtual 208, 3) := by decide +kernel
theorem d21_33 : decode jdk_68_method_22_code 33 = .ok (.aload_n 0, 1) := by decide +kernel
theorem d21_34 : decode jdk_68_method_22_code 34 = .ok (.dup, 1) := by decide +kernel
theorem d21_35 : decode jdk_68_method_22_code 35 = .ok (.getfield 79, 3) := by decide +kernel
theorem d21_38 : decode jdk_68_method_22_code 38 = .ok (.iload_n 2, 1) := by decide +kernel
theorem d21_39 : decode jdk_68_method_22_code 39 = .ok (.iadd, 1) := by decide +kernel
theorem d21_40 : decode jdk_68_method_22_code 40 = .ok (.putfield 79, 3) := by decide +kernel
theorem d21_43 : decode jdk_68_method_22_code 43 = .ok (.aload_n 0, 1) := by decide +kernel
theorem d21_44 : decode jdk_68_method_22_code 44 = .ok (.areturn, 1) := by decide +kernel
theorem ef_22 (m : MethodId) (x0 : Nat) (x1 : Nat) : entryFrame m #[(.ref x0), (.ref x1)] 3 = mkF m 0 #[.val (.ref x0), .val (.ref x1), .unset] [] := by first | (simp [entryFrame, mkF, argsToLocals, Value.category]; done) | rfl
set_option maxRecDepth 65536 in
set_option maxHeartbeats 40000000 in
theorem met_asa (l : Launch) (Z : State) (a0 : Array Value) (hw : ∀ d ∈ tables_1, d.before a0 Z = true) (EL : List (String × Nat)) (hEL : EW Z a0 EL) (n0 bk : Nat) (h0 : Heap) (hz0 : Z.heap.size ≤ n0) (hn0 : n0 ≤ h0.size) (sb : Nat) (t : Nat) (cap : Nat) (cs : List Int32) (a : Nat) (ba : Nat) (ds : List Int32) (z0 : Int32) (B : SB Z h0 sb t cap cs) (Sa : Str Z h0 ba a ds) (hl : cs.length + ds.length ≤ cap) (hns : n0 ≤ sb) (hnt : n0 ≤ t) (hbt : bk ≤ t) (hst : sb ≠ t) (SC : Sta Z Z.heap "java/lang/String" "COMPACT_STRINGS" "Z" (.int z0)) (hzc : ¬ z0 = 0) : Met l Z EL (⟨"java/lang/AbstractStringBuilder", "append", "(Ljava/lang/String;)Ljava/lang/AbstractStringBuilder;"⟩ : MethodName) jdk_68_method_22_code 3 (some (.object "java/lang/AbstractStringBuilder")) [] ({ frames := 3, cells := 0, slots := 0, locals := 47 } : Room) #[(.ref sb), (.ref a)] n0 bk h0 (fun _ => bk) (fun v h => v = some (.ref sb) ∧ SB Z h sb t cap (cs ++ ds) ∧ OKp (fun x => x ≠ sb ∧ x ≠ t) h0 h) := by
  refine Met.intro (plainFor_of_name pn_4) (fun m => ef_22 m sb a) hz0 hEL ?_
  intro hE0 p e s m below meth c C
  have B0 := B
  obtain ⟨x1, fv, fc, fn, ra, hcap, hrg⟩ := B
  have hcp : cap < 2147483648 := by have q := own_arlen ra; rw [own_sblen hcap] at q; exact q
  have Xs := Sa.exa
  have l1 : (_ : Nat) < _ := x1.lt
  have l2 : (_ : Nat) < _ := ra.lt
  refine C.aloadN 1 d21_0 rfl rfl ?_
  refine C.nonY 9 d21_1 (by decide) (by decide) ?_
  refine C.aloadN 10 d21_9 rfl rfl ?_
  refine C.callV (b := h0.size) 13 [] [] d21_10 (met_len l Z a0 hw EL hEL h0.size bk h0 (by omega) (by omega) a ba ds z0 Sa SC hzc) Xs (by omega) (Or.inl (Nat.le_refl _)) (hw _ (List.mem_of_getElem? (i := 142) rfl)) (hw _ (List.mem_of_getElem? (i := 80) rfl)) (hw _ (List.mem_of_getElem? (i := 82) rfl)) (hw _ (List.mem_of_getElem? (i := 81) rfl)) (hw _ (List.mem_of_getElem? (i := 3) rfl)) (hw _ (List.mem_of_getElem? (i := 83) rfl)) (fun hZ => notFace_of_selects (args := #[]) (mvT hZ (hw _ (List.mem_of_getElem? (i := 82) rfl)))) (by decide) rfl (lenOf pd___rI rfl) (by decide) (W := 0) (Nat.le_of_eq rfl) (by decide) (by decide) (by decide) rfl ?_
  rintro _ h10_1 K10_1 ⟨rfl, rfl⟩
  refine C.istoreN 14 (L' := #[.val (.ref sb), .val (.ref a), .val (.int (Int32.ofNat ds.length))]) d21_13 rfl ?_
  refine C.aloadN 15 d21_14 rfl rfl ?_
  refine C.aloadN 16 d21_15 rfl rfl ?_
  refine C.getf 19 d21_16 (hw _ (List.mem_of_getElem? (i := 143) rfl)) Via.refl fn ?_
  refine C.iloadN 20 d21_19 rfl ?_
  refine C.iadd 21 d21_20 ?_
  rw [own_addn]
  refine C.callV (b := h0.size) 24 [(.int (Int32.ofNat (cs.length + ds.length)))] [] d21_21 (met_eci l Z a0 hw EL hEL h0.size bk h0 (by omega) (by omega) sb t cap cs _ B0 hl) x1 (by omega) (Or.inl (Nat.le_refl _)) (hw _ (List.mem_of_getElem? (i := 145) rfl)) (own_declares (hw _ (List.mem_of_getElem? (i := 146) rfl)) (hw _ (List.mem_of_getElem? (i := 149) rfl))) (hw _ (List.mem_of_getElem? (i := 148) rfl)) (hw _ (List.mem_of_getElem? (i := 146) rfl)) (hw _ (List.mem_of_getElem? (i := 124) rfl)) (hw _ (List.mem_of_getElem? (i := 149) rfl)) (fun hZ => notFace_of_selects (args := #[]) (mvT hZ (hw _ (List.mem_of_getElem? (i := 148) rfl)))) (by decide) rfl (lenOf pd__I_rV rfl) (by decide) (W := 0) (Nat.le_of_eq rfl) (by decide) (by decide) (by decide) rfl ?_
  rintro _ h21_3 K21_3 ⟨rfl, rfl⟩
  refine C.aloadN 25 d21_24 rfl rfl ?_
  refine C.aloadN 26 d21_25 rfl rfl ?_
  refine C.getf 29 d21_26 (hw _ (List.mem_of_getElem? (i := 143) rfl)) Via.refl fn ?_
  refine C.aloadN 30 d21_29 rfl rfl ?_
  refine C.callV (b := n0) 33 [(.int (Int32.ofNat cs.length)), (.ref a)] [] d21_30 (met_psa l Z a0 hw EL hEL n0 bk h0 (by omega) (by omega) sb t cap cs a ba ds z0 B0 Sa hl hnt hbt SC hzc) x1 (by omega) (Or.inl (Nat.le_refl _)) (hw _ (List.mem_of_getElem? (i := 150) rfl)) (own_declares (hw _ (List.mem_of_getElem? (i := 151) rfl)) (hw _ (List.mem_of_getElem? (i := 154) rfl))) (hw _ (List.mem_of_getElem? (i := 153) rfl)) (hw _ (List.mem_of_getElem? (i := 151) rfl)) (hw _ (List.mem_of_getElem? (i := 124) rfl)) (hw _ (List.mem_of_getElem? (i := 154) rfl)) (fun hZ => notFace_of_selects (args := #[]) (mvT hZ (hw _ (List.mem_of_getElem? (i := 153) rfl)))) (by decide) rfl (lenOf pd__ILjava_lang_String_rV rfl) (by decide) (W := 0) (Nat.le_of_eq rfl) (by decide) (by decide) (by decide) rfl ?_
  rintro _ h1 K1 ⟨rfl, Kq, Rq⟩
  have sz_h1 : h0.size ≤ h1.size := Kq.1
  replace x1 := own_exa Kq x1 (by first | omega | (dsimp only; omega))
  replace fv := own_fld Kq fv (by first | omega | (dsimp only; omega))
  replace fc := own_fld Kq fc (by first | omega | (dsimp only; omega))
  replace fn := own_fld Kq fn (by first | omega | (dsimp only; omega))
  refine C.aloadN 34 d21_33 rfl rfl ?_
  refine C.dup 35 d21_34 rfl ?_
  refine C.getf 38 d21_35 (hw _ (List.mem_of_getElem? (i := 143) rfl)) Via.refl fn ?_
  refine C.iloadN 39 d21_38 rfl ?_
  refine C.iadd 40 d21_39 ?_
  rw [own_addn]
  refine C.putf (ty := .int) 43 d21_40 (hw _ (List.mem_of_getElem? (i := 143) rfl)) Via.refl fn x1 (Or.inl (hw _ (List.mem_of_getElem? (i := 144) rfl))) (hw _ (List.mem_of_getElem? (i := 115) rfl)) (by decide) rfl rfl (by omega) (Or.inr (Or.inl ⟨_, x1, by decide, by decide⟩)) ?_
  intro h2 W2
  have sz_h2 : h1.size ≤ h2.size := (Nat.le_of_eq W2.size.symm)
  replace fv := fv.other W2 (Or.inr (slot_ne (t := (.array .byte)) (t' := .int) (Or.inl (hw _ (List.mem_of_getElem? (i := 129) rfl))) (Or.inl (hw _ (List.mem_of_getElem? (i := 144) rfl))) (by decide) (by decide) (by decide)))
  replace fc := fc.other W2 (Or.inr (slot_ne (t := .byte) (t' := .int) (Or.inl (hw _ (List.mem_of_getElem? (i := 131) rfl))) (Or.inl (hw _ (List.mem_of_getElem? (i := 144) rfl))) (by decide) (by decide) (by decide)))
  replace fn := fn.same W2
  replace x1 := x1.wr W2
  replace Rq := Rq.other W2 (by first | omega | (dsimp only; omega))
  refine C.aloadN 44 d21_43 rfl rfl ?_
  refine C.retA rfl rfl d21_44 rfl (by decide) (by decide) (Or.inl (Nat.le_refl _)) ?_
  obtain ⟨u, q1, q2, q3, q4, q5, q6, q7⟩ := Sa
  exact ⟨rfl, ⟨x1, fv, fc, by rw [List.length_append]; exact fn, Rq, by rw [List.length_append]; exact hl, own_ranges hrg q7⟩, (Kq.weak (fun x q => q.2)).trans ((OKp.ofWr W2).weak (fun x q => q.1))⟩
theorem pn_5 : plainName "java/lang/StringBuilder" = true := by first | (simp [plainName, overriddenIn]; done) | decide +kernel
theorem pd__Ljava_lang_String_rLjava_lang_AbstractStringBuilder : parseMethodDescriptor "(Ljava/lang/String;)Ljava/lang/AbstractStringBuilder;" = some ⟨[(.object "java/lang/String")], some (.object "java/lang/AbstractStringBuilder")⟩ := by decide +kernel
theorem d22_0 : decode jdk_67_method_7_code 0 = .ok (.aload_n 0, 1) := by decide +kernel
theorem d22_1 : decode jdk_67_method_7_code 1 = .ok (.aload_n 1, 1) := by decide +kernel
theorem d22_2 : decode jdk_67_method_7_code 2 = .ok (.invokespecial 29, 3) := by decide +kernel
theorem d22_5 : decode jdk_67_method_7_code 5 = .ok (.pop, 1) := by decide +kernel
theorem d22_6 : decode jdk_67_method_7_code 6 = .ok (.aload_n 0, 1) := by decide +kernel
theorem d22_7 : decode jdk_67_method_7_code 7 = .ok (.areturn, 1) := by decide +kernel
theorem ef_23 (m : MethodId) (x0 : Nat) (x1 : Nat) : entryFrame m #[(.ref x0), (.ref x1)] 2 = mkF m 0 #[.val (.ref x0), .val (.ref x1)] [] := by first | (simp [entryFrame, mkF, argsToLocals, Value.category]; done) | rfl
set_option maxRecDepth 65536 in
set_option maxHeartbeats 40000000 in
theorem met_sba (l : Launch) (Z : State) (a0 : Array Value) (hw : ∀ d ∈ tables_1, d.before a0 Z = true) (EL : List (String × Nat)) (hEL : EW Z a0 EL) (n0 bk : Nat) (h0 : Heap) (hz0 : Z.heap.size ≤ n0) (hn0 : n0 ≤ h0.size) (sb : Nat) (t : Nat) (cap : Nat) (cs : List Int32) (a : Nat) (ba : Nat) (ds : List Int32) (z0 : Int32) (B : SB Z h0 sb t cap cs) (Sa : Str Z h0 ba a ds) (hl : cs.length + ds.length ≤ cap) (hns : n0 ≤ sb) (hnt : n0 ≤ t) (hbt : bk ≤ t) (hst : sb ≠ t) (SC : Sta Z Z.heap "java/lang/String" "COMPACT_STRINGS" "Z" (.int z0)) (hzc : ¬ z0 = 0) : Met l Z EL (⟨"java/lang/StringBuilder", "append", "(Ljava/lang/String;)Ljava/lang/StringBuilder;"⟩ : MethodName) jdk_67_method_7_code 2 (some (.object "java/lang/StringBuilder")) [] ({ frames := 4, cells := 0, slots := 0, locals := 61 } : Room) #[(.ref sb), (.ref a)] n0 bk h0 (fun _ => bk) (fun v h => v = some (.ref sb) ∧ SB Z h sb t cap (cs ++ ds) ∧ OKp (fun x => x ≠ sb ∧ x ≠ t) h0 h) := by
  refine Met.intro (plainFor_of_name pn_5) (fun m => ef_23 m sb a) hz0 hEL ?_
  intro hE0 p e s m below meth c C
  have x1 := B.1
  have l1 := B.lts
  have l2 := B.ltt
  refine C.aloadN 1 d22_0 rfl rfl ?_
  refine C.aloadN 2 d22_1 rfl rfl ?_
  refine C.callU (b := n0) 5 [(.ref a)] [] d22_2 (met_asa l Z a0 hw EL hEL n0 bk h0 (by omega) (by omega) sb t cap cs a ba ds z0 B Sa hl hns hnt hbt hst SC hzc) (Ins.self x1) (by decide) (by omega) (Or.inl (Nat.le_refl _)) (hw _ (List.mem_of_getElem? (i := 137) rfl)) (own_same (y := (⟨"java/lang/AbstractStringBuilder", "append", "(Ljava/lang/String;)Ljava/lang/AbstractStringBuilder;"⟩ : MethodName)) (hw _ (List.mem_of_getElem? (i := 140) rfl)) (hw _ (List.mem_of_getElem? (i := 148) rfl)) rfl (by decide)) (hw _ (List.mem_of_getElem? (i := 139) rfl)) (hw _ (List.mem_of_getElem? (i := 138) rfl)) (hw _ (List.mem_of_getElem? (i := 124) rfl)) (hw _ (List.mem_of_getElem? (i := 141) rfl)) rfl (lenOf pd__Ljava_lang_String_rLjava_lang_AbstractStringBuilder rfl) (by decide) (W := 0) (Nat.le_of_eq rfl) (by decide) (by decide) (by decide) rfl ?_
  rintro _ h1 K1 ⟨rfl, B2, Kq⟩
  have sz_h1 : h0.size ≤ h1.size := K1.1
  refine C.pop 6 d22_5 rfl ?_
  refine C.aloadN 7 d22_6 rfl rfl ?_
  refine C.retA rfl rfl d22_7 rfl (by decide) (by decide) (Or.inl (Nat.le_refl _)) ?_
  exact ⟨rfl, B2, Kq⟩
theorem d23_0 : decode jdk_68_method_31_code 0 = .ok (.aload_n 0, 1) := by decide +kernel
theorem d23_1 : decode jdk_68_method_31_code 1 = .ok (.aload_n 0, 1) := by decide +kernel
theorem d23_2 : decode jdk_68_method_31_code 2 = .ok (.getfield 79, 3) := by decide +kernel
theorem d23_5 : decode jdk_68_method_31_code 5 = .ok (.iconst 1, 1) := by decide +kernel
theorem d23_6 : decode jdk_68_method_31_code 6 = .ok (.iadd, 1) := by decide +kernel
theorem d23_7 : decode jdk_68_method_31_code 7 = .ok (.invokevirtual 100, 3) := by decide +kernel
theorem d23_10 : decode jdk_68_method_31_code 10 = .ok (.aload_n 0, 1) := by decide +kernel
theorem d23_11 : decode jdk_68_method_31_code 11 = .ok (.invokevirtual 83, 3) := by decide +kernel
theorem d23_14 : decode jdk_68_method_31_code 14 = .ok (.ifCond .eq 31, 3) := by decide +kernel
theorem d23_17 : decode jdk_68_method_31_code 17 = .ok (.iload_n 1, 1) := by decide +kernel
theorem d23_18 : decode jdk_68_method_31_code 18 = .ok (.invokestatic 191, 3) := by decide +kernel
theorem d23_21 : decode jdk_68_method_31_code 21 = .ok (.ifCond .eq 24, 3) := by decide +kernel
theorem d23_24 : decode jdk_68_method_31_code 24 = .ok (.aload_n 0, 1) := by decide +kernel
theorem d23_25 : decode jdk_68_method_31_code 25 = .ok (.getfield 15, 3) := by decide +kernel
theorem d23_28 : decode jdk_68_method_31_code 28 = .ok (.aload_n 0, 1) := by decide +kernel
theorem d23_29 : decode jdk_68_method_31_code 29 = .ok (.dup, 1) := by decide +kernel
theorem d23_30 : decode jdk_68_method_31_code 30 = .ok (.getfield 79, 3) := by decide +kernel
theorem d23_33 : decode jdk_68_method_31_code 33 = .ok (.dup_x1, 1) := by decide +kernel
theorem d23_34 : decode jdk_68_method_31_code 34 = .ok (.iconst 1, 1) := by decide +kernel
theorem d23_35 : decode jdk_68_method_31_code 35 = .ok (.iadd, 1) := by decide +kernel
theorem d23_36 : decode jdk_68_method_31_code 36 = .ok (.putfield 79, 3) := by decide +kernel
theorem d23_39 : decode jdk_68_method_31_code 39 = .ok (.iload_n 1, 1) := by decide +kernel
theorem d23_40 : decode jdk_68_method_31_code 40 = .ok (.i2b, 1) := by decide +kernel
theorem d23_41 : decode jdk_68_method_31_code 41 = .ok (.bastore, 1) := by decide +kernel
theorem d23_42 : decode jdk_68_method_31_code 42 = .ok (.goto 33, 3) := by decide +kernel
theorem d23_75 : decode jdk_68_method_31_code 75 = .ok (.aload_n 0, 1) := by decide +kernel
theorem d23_76 : decode jdk_68_method_31_code 76 = .ok (.areturn, 1) := by decide +kernel
theorem ef_24 (m : MethodId) (x0 : Nat) (x1 : Int32) : entryFrame m #[(.ref x0), (.int x1)] 2 = mkF m 0 #[.val (.ref x0), .val (.int x1)] [] := by first | (simp [entryFrame, mkF, argsToLocals, Value.category]; done) | rfl
set_option maxRecDepth 65536 in
set_option maxHeartbeats 40000000 in
theorem met_asc (l : Launch) (Z : State) (a0 : Array Value) (hw : ∀ d ∈ tables_1, d.before a0 Z = true) (EL : List (String × Nat)) (hEL : EW Z a0 EL) (n0 bk : Nat) (h0 : Heap) (hz0 : Z.heap.size ≤ n0) (hn0 : n0 ≤ h0.size) (sb : Nat) (t : Nat) (cap : Nat) (cs : List Int32) (x : Int32) (z0 : Int32) (B : SB Z h0 sb t cap cs) (q0 : ¬ x < 0) (q : ¬ 255 < x) (hl : cs.length + 1 ≤ cap) (hns : n0 ≤ sb) (hnt : n0 ≤ t) (hbt : bk ≤ t) (hst : sb ≠ t) (SC : Sta Z Z.heap "java/lang/String" "COMPACT_STRINGS" "Z" (.int z0)) (hzc : ¬ z0 = 0) : Met l Z EL (⟨"java/lang/AbstractStringBuilder", "append", "(C)Ljava/lang/AbstractStringBuilder;"⟩ : MethodName) jdk_68_method_31_code 2 (some (.object "java/lang/AbstractStringBuilder")) [] ({ frames := 1, cells := 0, slots := 0, locals := 14 } : Room) #[(.ref sb), (.int x)] n0 bk h0 (fun _ => bk) (fun v h => v = some (.ref sb) ∧ SB Z h sb t cap (cs ++ [x]) ∧ OKp (fun x => x ≠ sb ∧ x ≠ t) h0 h) := by
  refine Met.intro (plainFor_of_name pn_4) (fun m => ef_24 m sb x) hz0 hEL ?_
  intro hE0 p e s m below meth c C
  have B0 := B
  obtain ⟨x1, fv, fc, fn, ra, hcap, hrg⟩ := B
  have hcp : cap < 2147483648 := by have q := own_arlen ra; rw [own_sblen hcap] at q; exact q
  have l1 : (_ : Nat) < _ := x1.lt
  have l2 : (_ : Nat) < _ := ra.lt
  refine C.aloadN 1 d23_0 rfl rfl ?_
  refine C.aloadN 2 d23_1 rfl rfl ?_
  refine C.getf 5 d23_2 (hw _ (List.mem_of_getElem? (i := 143) rfl)) Via.refl fn ?_
  refine C.iconst 6 (1 : Int32) d23_5 (by decide) ?_
  refine C.iadd 7 d23_6 ?_
  rw [own_succ]
  refine C.callV (b := h0.size) 10 [(.int (Int32.ofNat (cs.length + 1)))] [] d23_7 (met_eci l Z a0 hw EL hEL h0.size bk h0 (by omega) (by omega) sb t cap cs _ B0 hl) x1 (by omega) (Or.inl (Nat.le_refl _)) (hw _ (List.mem_of_getElem? (i := 145) rfl)) (own_declares (hw _ (List.mem_of_getElem? (i := 146) rfl)) (hw _ (List.mem_of_getElem? (i := 149) rfl))) (hw _ (List.mem_of_getElem? (i := 148) rfl)) (hw _ (List.mem_of_getElem? (i := 146) rfl)) (hw _ (List.mem_of_getElem? (i := 124) rfl)) (hw _ (List.mem_of_getElem? (i := 149) rfl)) (fun hZ => notFace_of_selects (args := #[]) (mvT hZ (hw _ (List.mem_of_getElem? (i := 148) rfl)))) (by decide) rfl (lenOf pd__I_rV rfl) (by decide) (W := 0) (Nat.le_of_eq rfl) (by decide) (by decide) (by decide) rfl ?_
  rintro _ h7_2 K7_2 ⟨rfl, rfl⟩
  refine C.aloadN 11 d23_10 rfl rfl ?_
  refine C.callV (b := h0.size) 14 [] [] d23_11 (met_asl l Z a0 hw EL hEL h0.size bk h0 (by omega) (by omega) sb t cap cs z0 B0 SC hzc) x1 (by omega) (Or.inl (Nat.le_refl _)) (hw _ (List.mem_of_getElem? (i := 179) rfl)) (hw _ (List.mem_of_getElem? (i := 180) rfl)) (hw _ (List.mem_of_getElem? (i := 182) rfl)) (hw _ (List.mem_of_getElem? (i := 181) rfl)) (hw _ (List.mem_of_getElem? (i := 124) rfl)) (hw _ (List.mem_of_getElem? (i := 183) rfl)) (fun hZ => notFace_of_selects (args := #[]) (mvT hZ (hw _ (List.mem_of_getElem? (i := 182) rfl)))) (by decide) rfl (lenOf pd___rZ rfl) (by decide) (W := 0) (Nat.le_of_eq rfl) (by decide) (by decide) (by decide) rfl ?_
  rintro _ h11_3 K11_3 ⟨rfl, rfl⟩
  refine C.ifN 17 d23_14 rfl (XT.i0_eq_f (show ¬ ((1 : Int32) = 0) from (by decide))) ?_
  refine C.iloadN 18 d23_17 rfl ?_
  refine C.callS (b := h0.size) 21 [(.int x)] [] d23_18 (met_can l Z a0 hw EL hEL h0.size bk h0 (by omega) (by omega) x q) (by omega) (Or.inl (Nat.le_refl _)) (hw _ (List.mem_of_getElem? (i := 184) rfl)) (hw _ (List.mem_of_getElem? (i := 7) rfl)) (hw _ (List.mem_of_getElem? (i := 8) rfl)) (hw _ (List.mem_of_getElem? (i := 9) rfl)) (by decide) rfl (lenOf pd__C_rZ rfl) (by decide) (W := 0) (Nat.le_of_eq rfl) (by decide) (by decide) (by decide) rfl ?_
  rintro _ h18_4 K18_4 ⟨rfl, rfl⟩
  refine C.ifN 24 d23_21 rfl (XT.i0_eq_f (show ¬ ((1 : Int32) = 0) from (by decide))) ?_
  refine C.aloadN 25 d23_24 rfl rfl ?_
  refine C.getf 28 d23_25 (hw _ (List.mem_of_getElem? (i := 128) rfl)) Via.refl fv ?_
  refine C.aloadN 29 d23_28 rfl rfl ?_
  refine C.dup 30 d23_29 rfl ?_
  refine C.getf 33 d23_30 (hw _ (List.mem_of_getElem? (i := 143) rfl)) Via.refl fn ?_
  refine C.dupX1 34 d23_33 rfl rfl ?_
  refine C.iconst 35 (1 : Int32) d23_34 (by decide) ?_
  refine C.iadd 36 d23_35 ?_
  rw [own_succ]
  refine C.putf (ty := .int) 39 d23_36 (hw _ (List.mem_of_getElem? (i := 143) rfl)) Via.refl fn x1 (Or.inl (hw _ (List.mem_of_getElem? (i := 144) rfl))) (hw _ (List.mem_of_getElem? (i := 115) rfl)) (by decide) rfl rfl (by omega) (Or.inr (Or.inl ⟨_, x1, by decide, by decide⟩)) ?_
  intro h1 W1
  have sz_h1 : h0.size ≤ h1.size := (Nat.le_of_eq W1.size.symm)
  replace fv := fv.other W1 (Or.inr (slot_ne (t := (.array .byte)) (t' := .int) (Or.inl (hw _ (List.mem_of_getElem? (i := 129) rfl))) (Or.inl (hw _ (List.mem_of_getElem? (i := 144) rfl))) (by decide) (by decide) (by decide)))
  replace fc := fc.other W1 (Or.inr (slot_ne (t := .byte) (t' := .int) (Or.inl (hw _ (List.mem_of_getElem? (i := 131) rfl))) (Or.inl (hw _ (List.mem_of_getElem? (i := 144) rfl))) (by decide) (by decide) (by decide)))
  replace fn := fn.same W1
  replace x1 := x1.wr W1
  replace ra := ra.other W1 (by first | omega | (dsimp only; omega))
  refine C.iloadN 40 d23_39 rfl ?_
  refine C.i2b 41 d23_40 ?_
  refine C.bastore 42 cs.length d23_41 ra rfl (by rw [own_sblen hcap]; omega) (own_fitsb _) (by omega) (Or.inl hbt) ?_
  intro h2 W2 N2
  have sz_h2 : h1.size ≤ h2.size := (Nat.le_of_eq W2.size.symm)
  replace x1 := x1.wr W2
  replace fv := fv.other W2 (Or.inl (show (_ : Nat) ≠ _ by omega))
  replace fc := fc.other W2 (Or.inl (show (_ : Nat) ≠ _ by omega))
  replace fn := fn.other W2 (Or.inl (show (_ : Nat) ≠ _ by omega))
  replace ra : Ar Z h2 t .byte ((cs ++ [x]).map own_lo ++ List.replicate (cap - (cs ++ [x]).length) 0) := (by have q := N2; rw [own_narb, own_sbset hl] at q; exact q)
  refine C.goto 75 d23_42 (by decide) (by decide) ?_
  refine C.aloadN 76 d23_75 rfl rfl ?_
  refine C.retA rfl rfl d23_76 rfl (by decide) (by decide) (Or.inl (Nat.le_refl _)) ?_
  exact ⟨rfl, ⟨x1, fv, fc, by rw [List.length_append]; exact fn, ra, by rw [List.length_append]; exact hl, own_ranges hrg (fun y hy => by cases List.mem_singleton.mp hy; exact ⟨q0, q⟩)⟩, ((OKp.ofWr W1).weak (fun x q => q.1)).trans ((OKp.ofWr W2).weak (fun x q => q.2))⟩
theorem pd__C_rLjava_lang_AbstractStringBuilder : parseMethodDescriptor "(C)Ljava/lang/AbstractStringBuilder;" = some ⟨[.char], some (.object "java/lang/AbstractStringBuilder")⟩ := by decide +kernel
theorem d24_0 : decode jdk_67_method_14_code 0 = .ok (.aload_n 0, 1) := by decide +kernel
theorem d24_1 : decode jdk_67_method_14_code 1 = .ok (.iload_n 1, 1) := by decide +kernel
theorem d24_2 : decode jdk_67_method_14_code 2 = .ok (.invokespecial 50, 3) := by decide +kernel
theorem d24_5 : decode jdk_67_method_14_code 5 = .ok (.pop, 1) := by decide +kernel
theorem d24_6 : decode jdk_67_method_14_code 6 = .ok (.aload_n 0, 1) := by decide +kernel
theorem d24_7 : decode jdk_67_method_14_code 7 = .ok (.areturn, 1) := by decide +kernel
theorem ef_25 (m : MethodId) (x0 : Nat) (x1 : Int32) : entryFrame m #[(.ref x0), (.int x1)] 2 = mkF m 0 #[.val (.ref x0), .val (.int x1)] [] := by first | (simp [entryFrame, mkF, argsToLocals, Value.category]; done) | rfl
set_option maxRecDepth 65536 in
set_option maxHeartbeats 40000000 in
theorem met_sbc (l : Launch) (Z : State) (a0 : Array Value) (hw : ∀ d ∈ tables_1, d.before a0 Z = true) (EL : List (String × Nat)) (hEL : EW Z a0 EL) (n0 bk : Nat) (h0 : Heap) (hz0 : Z.heap.size ≤ n0) (hn0 : n0 ≤ h0.size) (sb : Nat) (t : Nat) (cap : Nat) (cs : List Int32) (x : Int32) (z0 : Int32) (B : SB Z h0 sb t cap cs) (q0 : ¬ x < 0) (q : ¬ 255 < x) (hl : cs.length + 1 ≤ cap) (hns : n0 ≤ sb) (hnt : n0 ≤ t) (hbt : bk ≤ t) (hst : sb ≠ t) (SC : Sta Z Z.heap "java/lang/String" "COMPACT_STRINGS" "Z" (.int z0)) (hzc : ¬ z0 = 0) : Met l Z EL (⟨"java/lang/StringBuilder", "append", "(C)Ljava/lang/StringBuilder;"⟩ : MethodName) jdk_67_method_14_code 2 (some (.object "java/lang/StringBuilder")) [] ({ frames := 2, cells := 0, slots := 0, locals := 27 } : Room) #[(.ref sb), (.int x)] n0 bk h0 (fun _ => bk) (fun v h => v = some (.ref sb) ∧ SB Z h sb t cap (cs ++ [x]) ∧ OKp (fun x => x ≠ sb ∧ x ≠ t) h0 h) := by
  refine Met.intro (plainFor_of_name pn_5) (fun m => ef_25 m sb x) hz0 hEL ?_
  intro hE0 p e s m below meth c C
  have x1 := B.1
  have l1 := B.lts
  have l2 := B.ltt
  refine C.aloadN 1 d24_0 rfl rfl ?_
  refine C.iloadN 2 d24_1 rfl ?_
  refine C.callU (b := n0) 5 [(.int x)] [] d24_2 (met_asc l Z a0 hw EL hEL n0 bk h0 (by omega) (by omega) sb t cap cs x z0 B q0 q hl hns hnt hbt hst SC hzc) (Ins.self x1) (by decide) (by omega) (Or.inl (Nat.le_refl _)) (hw _ (List.mem_of_getElem? (i := 175) rfl)) (own_same (y := (⟨"java/lang/AbstractStringBuilder", "append", "(C)Ljava/lang/AbstractStringBuilder;"⟩ : MethodName)) (hw _ (List.mem_of_getElem? (i := 177) rfl)) (hw _ (List.mem_of_getElem? (i := 148) rfl)) rfl (by decide)) (hw _ (List.mem_of_getElem? (i := 139) rfl)) (hw _ (List.mem_of_getElem? (i := 176) rfl)) (hw _ (List.mem_of_getElem? (i := 124) rfl)) (hw _ (List.mem_of_getElem? (i := 178) rfl)) rfl (lenOf pd__C_rLjava_lang_AbstractStringBuilder rfl) (by decide) (W := 0) (Nat.le_of_eq rfl) (by decide) (by decide) (by decide) rfl ?_
  rintro _ h1 K1 ⟨rfl, B2, Kq⟩
  have sz_h1 : h0.size ≤ h1.size := K1.1
  refine C.pop 6 d24_5 rfl ?_
  refine C.aloadN 7 d24_6 rfl rfl ?_
  refine C.retA rfl rfl d24_7 rfl (by decide) (by decide) (Or.inl (Nat.le_refl _)) ?_
  exact ⟨rfl, B2, Kq⟩
theorem d25_0 : decode jdk_68_method_2_code 0 = .ok (.aload_n 0, 1) := by decide +kernel
theorem d25_1 : decode jdk_68_method_2_code 1 = .ok (.invokespecial 3, 3) := by decide +kernel
theorem d25_4 : decode jdk_68_method_2_code 4 = .ok (.getstatic 18, 3) := by decide +kernel
theorem d25_7 : decode jdk_68_method_2_code 7 = .ok (.ifCond .eq 18, 3) := by decide +kernel
theorem d25_10 : decode jdk_68_method_2_code 10 = .ok (.aload_n 0, 1) := by decide +kernel
theorem d25_11 : decode jdk_68_method_2_code 11 = .ok (.iload_n 1, 1) := by decide +kernel
theorem d25_12 : decode jdk_68_method_2_code 12 = .ok (.newarray .byte, 2) := by decide +kernel
theorem d25_14 : decode jdk_68_method_2_code 14 = .ok (.putfield 15, 3) := by decide +kernel
theorem d25_17 : decode jdk_68_method_2_code 17 = .ok (.aload_n 0, 1) := by decide +kernel
theorem d25_18 : decode jdk_68_method_2_code 18 = .ok (.iconst 0, 1) := by decide +kernel
theorem d25_19 : decode jdk_68_method_2_code 19 = .ok (.putfield 22, 3) := by decide +kernel
theorem d25_22 : decode jdk_68_method_2_code 22 = .ok (.goto 16, 3) := by decide +kernel
theorem d25_38 : decode jdk_68_method_2_code 38 = .ok (.return_, 1) := by decide +kernel
theorem ef_26 (m : MethodId) (x0 : Nat) (x1 : Int32) : entryFrame m #[(.ref x0), (.int x1)] 2 = mkF m 0 #[.val (.ref x0), .val (.int x1)] [] := by first | (simp [entryFrame, mkF, argsToLocals, Value.category]; done) | rfl
set_option maxRecDepth 65536 in
set_option maxHeartbeats 40000000 in
theorem met_asi0 (l : Launch) (Z : State) (a0 : Array Value) (hw : ∀ d ∈ tables_1, d.before a0 Z = true) (EL : List (String × Nat)) (hEL : EW Z a0 EL) (n0 bk : Nat) (h0 : Heap) (hz0 : Z.heap.size ≤ n0) (hn0 : n0 ≤ h0.size) (sb : Nat) (z0 : Int32) (x1 : Exa Z h0 sb "java/lang/StringBuilder") (fv : Fld Z h0 sb "java/lang/AbstractStringBuilder" "value" "[B" .null) (fc : Fld Z h0 sb "java/lang/AbstractStringBuilder" "coder" "B" (.int (0 : Int32))) (fn : Fld Z h0 sb "java/lang/AbstractStringBuilder" "count" "I" (.int (0 : Int32))) (hns : n0 ≤ sb) (hbk : bk ≤ h0.size) (SC : Sta Z Z.heap "java/lang/String" "COMPACT_STRINGS" "Z" (.int z0)) (hzc : ¬ z0 = 0) : Met l Z EL (⟨"java/lang/AbstractStringBuilder", "<init>", "(I)V"⟩ : MethodName) jdk_68_method_2_code 2 none [] ({ frames := 1, cells := 1, slots := 16, locals := 12 } : Room) #[(.ref sb), (.int (16 : Int32))] n0 bk h0 (fun _ => bk) (fun v h => ∃ t, v = none ∧ h0.size ≤ t ∧ SB Z h sb t 16 [] ∧ OKp (fun x => x ≠ sb ∧ x < h0.size) h0 h) := by
  refine Met.intro (plainFor_of_name pn_4) (fun m => ef_26 m sb (16 : Int32)) hz0 hEL ?_
  intro hE0 p e s m below meth c C
  have l1 : (_ : Nat) < _ := x1.lt
  refine C.aloadN 1 d25_0 rfl rfl ?_
  refine C.objInit (W := 0) 4 d25_1 (hw _ (List.mem_of_getElem? (i := 126) rfl)) (hw _ (List.mem_of_getElem? (i := 21) rfl)) (hw _ (List.mem_of_getElem? (i := 22) rfl)) rfl (by decide) (Nat.le_of_eq rfl) (by decide) ?_
  refine C.gets 7 d25_4 (hw _ (List.mem_of_getElem? (i := 127) rfl)) SC ?_
  refine C.ifN 10 d25_7 rfl (XT.i0_eq_f (show ¬ (z0 = 0) from hzc)) ?_
  refine C.aloadN 11 d25_10 rfl rfl ?_
  refine C.iloadN 12 d25_11 rfl ?_
  refine C.newarr (zn := 16) (cap := 16) 14 d25_12 (hw _ (List.mem_of_getElem? (i := 15) rfl)) rfl (by decide) (by decide) rfl (by decide) (by decide) (by decide) ?_
  intro t h1 g_t E1 R_t
  replace R_t : Ar Z h1 t .byte (List.replicate 16 0) := R_t
  have lt_t : t < h1.size := R_t.lt
  have sz_h1 : h0.size ≤ h1.size := E1.1
  replace x1 := x1.ext E1
  replace fv := fv.ext E1
  replace fc := fc.ext E1
  replace fn := fn.ext E1
  refine C.putf (ty := (.array .byte)) 17 d25_14 (hw _ (List.mem_of_getElem? (i := 128) rfl)) Via.refl fv x1 (Or.inl (hw _ (List.mem_of_getElem? (i := 129) rfl))) (hw _ (List.mem_of_getElem? (i := 115) rfl)) (by decide) rfl rfl (by omega) (Or.inr (Or.inl ⟨_, x1, by decide, by decide⟩)) ?_
  intro h2 W2
  have sz_h2 : h1.size ≤ h2.size := (Nat.le_of_eq W2.size.symm)
  replace fc := fc.other W2 (Or.inr (slot_ne (t := .byte) (t' := (.array .byte)) (Or.inl (hw _ (List.mem_of_getElem? (i := 131) rfl))) (Or.inl (hw _ (List.mem_of_getElem? (i := 129) rfl))) (by decide) (by decide) (by decide)))
  replace fn := fn.other W2 (Or.inr (slot_ne (t := .int) (t' := (.array .byte)) (Or.inl (hw _ (List.mem_of_getElem? (i := 144) rfl))) (Or.inl (hw _ (List.mem_of_getElem? (i := 129) rfl))) (by decide) (by decide) (by decide)))
  replace fv := fv.same W2
  replace x1 := x1.wr W2
  replace R_t := R_t.other W2 (by first | omega | (dsimp only; omega))
  refine C.aloadN 18 d25_17 rfl rfl ?_
  refine C.iconst 19 (0 : Int32) d25_18 (by decide) ?_
  refine C.putf (ty := .byte) 22 d25_19 (hw _ (List.mem_of_getElem? (i := 130) rfl)) Via.refl fc x1 (Or.inl (hw _ (List.mem_of_getElem? (i := 131) rfl))) (hw _ (List.mem_of_getElem? (i := 115) rfl)) (by decide) rfl rfl (by omega) (Or.inr (Or.inl ⟨_, x1, by decide, by decide⟩)) ?_
  intro h3 W3
  have sz_h3 : h2.size ≤ h3.size := (Nat.le_of_eq W3.size.symm)
  replace fv := fv.other W3 (Or.inr (slot_ne (t := (.array .byte)) (t' := .byte) (Or.inl (hw _ (List.mem_of_getElem? (i := 129) rfl))) (Or.inl (hw _ (List.mem_of_getElem? (i := 131) rfl))) (by decide) (by decide) (by decide)))
  replace fn := fn.other W3 (Or.inr (slot_ne (t := .int) (t' := .byte) (Or.inl (hw _ (List.mem_of_getElem? (i := 144) rfl))) (Or.inl (hw _ (List.mem_of_getElem? (i := 131) rfl))) (by decide) (by decide) (by decide)))
  replace fc := fc.same W3
  replace x1 := x1.wr W3
  replace R_t := R_t.other W3 (by first | omega | (dsimp only; omega))
  refine C.goto 38 d25_22 (by decide) (by decide) ?_
  refine C.retV rfl d25_38 (by decide) (by decide) (Or.inl (Nat.le_refl _)) ?_
  exact ⟨t, rfl, by omega, ⟨x1, fv, fc, fn, by simpa using R_t, Nat.zero_le _, fun x hx => nomatch hx⟩, (OKp.ofExt E1).trans (((OKp.ofWr W2).trans (OKp.ofWr W3)).weak (fun x q => q.1))⟩
theorem d26_0 : decode jdk_67_method_1_code 0 = .ok (.aload_n 0, 1) := by decide +kernel
theorem d26_1 : decode jdk_67_method_1_code 1 = .ok (.bipush 16, 2) := by decide +kernel
theorem d26_3 : decode jdk_67_method_1_code 3 = .ok (.invokespecial 1, 3) := by decide +kernel
theorem d26_6 : decode jdk_67_method_1_code 6 = .ok (.return_, 1) := by decide +kernel
theorem ef_27 (m : MethodId) (x0 : Nat) : entryFrame m #[(.ref x0)] 1 = mkF m 0 #[.val (.ref x0)] [] := by first | (simp [entryFrame, mkF, argsToLocals, Value.category]; done) | rfl
set_option maxRecDepth 65536 in
set_option maxHeartbeats 40000000 in
theorem met_sbi0 (l : Launch) (Z : State) (a0 : Array Value) (hw : ∀ d ∈ tables_1, d.before a0 Z = true) (EL : List (String × Nat)) (hEL : EW Z a0 EL) (n0 bk : Nat) (h0 : Heap) (hz0 : Z.heap.size ≤ n0) (hn0 : n0 ≤ h0.size) (sb : Nat) (z0 : Int32) (x1 : Exa Z h0 sb "java/lang/StringBuilder") (fv : Fld Z h0 sb "java/lang/AbstractStringBuilder" "value" "[B" .null) (fc : Fld Z h0 sb "java/lang/AbstractStringBuilder" "coder" "B" (.int (0 : Int32))) (fn : Fld Z h0 sb "java/lang/AbstractStringBuilder" "count" "I" (.int (0 : Int32))) (hns : n0 ≤ sb) (hbk : bk ≤ h0.size) (SC : Sta Z Z.heap "java/lang/String" "COMPACT_STRINGS" "Z" (.int z0)) (hzc : ¬ z0 = 0) : Met l Z EL (⟨"java/lang/StringBuilder", "<init>", "()V"⟩ : MethodName) jdk_67_method_1_code 1 none [] ({ frames := 2, cells := 1, slots := 16, locals := 25 } : Room) #[(.ref sb)] n0 bk h0 (fun _ => bk) (fun v h => ∃ t, v = none ∧ h0.size ≤ t ∧ SB Z h sb t 16 [] ∧ OKp (fun x => x ≠ sb ∧ x < h0.size) h0 h) := by
  refine Met.intro (plainFor_of_name pn_5) (fun m => ef_27 m sb) hz0 hEL ?_
  intro hE0 p e s m below meth c C
  refine C.aloadN 1 d26_0 rfl rfl ?_
  refine C.bipush 3 (16 : Int32) d26_1 (by decide) ?_
  refine C.callI (b := n0) 6 [(.int (16 : Int32))] [] d26_3 (met_asi0 l Z a0 hw EL hEL n0 bk h0 (by omega) (by omega) sb z0 x1 fv fc fn hns hbk SC hzc) rfl (by omega) (Or.inl (Nat.le_refl _)) (hw _ (List.mem_of_getElem? (i := 120) rfl)) (hw _ (List.mem_of_getElem? (i := 121) rfl)) (hw _ (List.mem_of_getElem? (i := 124) rfl)) (hw _ (List.mem_of_getElem? (i := 125) rfl)) (by decide) rfl (lenOf pd__I_rV rfl) (by decide) (W := 0) (Nat.le_of_eq rfl) (by decide) (by decide) (by decide) rfl ?_
  rintro _ h1 K1 ⟨t, rfl, g1, B2, Kq⟩
  have sz_h1 : h0.size ≤ h1.size := K1.1
  refine C.retV rfl d26_6 (by decide) (by decide) (Or.inl (Nat.le_refl _)) ?_
  exact ⟨t, rfl, g1, B2, Kq⟩
theorem d27_0 : decode jdk_68_method_64_code 0 = .ok (.aload_n 0, 1) := by decide +kernel
theorem d27_1 : decode jdk_68_method_64_code 1 = .ok (.getfield 15, 3) := by decide +kernel
theorem d27_4 : decode jdk_68_method_64_code 4 = .ok (.areturn, 1) := by decide +kernel
theorem ef_28 (m : MethodId) (x0 : Nat) : entryFrame m #[(.ref x0)] 1 = mkF m 0 #[.val (.ref x0)] [] := by first | (simp [entryFrame, mkF, argsToLocals, Value.category]; done) | rfl
set_option maxRecDepth 65536 in
set_option maxHeartbeats 40000000 in
theorem met_gv (l : Launch) (Z : State) (a0 : Array Value) (hw : ∀ d ∈ tables_1, d.before a0 Z = true) (EL : List (String × Nat)) (hEL : EW Z a0 EL) (n0 bk : Nat) (h0 : Heap) (hz0 : Z.heap.size ≤ n0) (hn0 : n0 ≤ h0.size) (sb : Nat) (t : Nat) (cap : Nat) (cs : List Int32) (B : SB Z h0 sb t cap cs) : Met l Z EL (⟨"java/lang/AbstractStringBuilder", "getValue", "()[B"⟩ : MethodName) jdk_68_method_64_code 1 (some (.array .byte)) [] ({ frames := 0, cells := 0, slots := 0, locals := 0 } : Room) #[(.ref sb)] n0 bk h0 (fun _ => bk) (fun v h => v = some (.ref t) ∧ h0 = h) := by
  refine Met.intro (plainFor_of_name pn_4) (fun m => ef_28 m sb) hz0 hEL ?_
  intro hE0 p e s m below meth c C
  have B0 := B
  obtain ⟨x1, fv, fc, fn, ra, hcap, hrg⟩ := B
  have hcp : cap < 2147483648 := by have q := own_arlen ra; rw [own_sblen hcap] at q; exact q
  refine C.aloadN 1 d27_0 rfl rfl ?_
  refine C.getf 4 d27_1 (hw _ (List.mem_of_getElem? (i := 128) rfl)) Via.refl fv ?_
  refine C.retA rfl rfl d27_4 rfl (by decide) (by decide) (Or.inl (Nat.le_refl _)) ?_
  exact ⟨rfl, rfl⟩
theorem d28_0 : decode jdk_68_method_6_code 0 = .ok (.aload_n 0, 1) := by decide +kernel
theorem d28_1 : decode jdk_68_method_6_code 1 = .ok (.getfield 79, 3) := by decide +kernel
theorem d28_4 : decode jdk_68_method_6_code 4 = .ok (.ireturn, 1) := by decide +kernel
theorem ef_29 (m : MethodId) (x0 : Nat) : entryFrame m #[(.ref x0)] 1 = mkF m 0 #[.val (.ref x0)] [] := by first | (simp [entryFrame, mkF, argsToLocals, Value.category]; done) | rfl
set_option maxRecDepth 65536 in
set_option maxHeartbeats 40000000 in
theorem met_al (l : Launch) (Z : State) (a0 : Array Value) (hw : ∀ d ∈ tables_1, d.before a0 Z = true) (EL : List (String × Nat)) (hEL : EW Z a0 EL) (n0 bk : Nat) (h0 : Heap) (hz0 : Z.heap.size ≤ n0) (hn0 : n0 ≤ h0.size) (sb : Nat) (t : Nat) (cap : Nat) (cs : List Int32) (B : SB Z h0 sb t cap cs) : Met l Z EL (⟨"java/lang/AbstractStringBuilder", "length", "()I"⟩ : MethodName) jdk_68_method_6_code 1 (some .int) [] ({ frames := 0, cells := 0, slots := 0, locals := 0 } : Room) #[(.ref sb)] n0 bk h0 (fun _ => bk) (fun v h => v = some (.int (Int32.ofNat cs.length)) ∧ h0 = h) := by
  refine Met.intro (plainFor_of_name pn_4) (fun m => ef_29 m sb) hz0 hEL ?_
  intro hE0 p e s m below meth c C
  have B0 := B
  obtain ⟨x1, fv, fc, fn, ra, hcap, hrg⟩ := B
  have hcp : cap < 2147483648 := by have q := own_arlen ra; rw [own_sblen hcap] at q; exact q
  refine C.aloadN 1 d28_0 rfl rfl ?_
  refine C.getf 4 d28_1 (hw _ (List.mem_of_getElem? (i := 143) rfl)) Via.refl fn ?_
  refine C.retI rfl d28_4 (by decide) (by decide) (Or.inl (Nat.le_refl _)) ?_
  exact ⟨rfl, rfl⟩
theorem d29_0 : decode jdk_67_method_93_code 0 = .ok (.aload_n 0, 1) := by decide +kernel
theorem d29_1 : decode jdk_67_method_93_code 1 = .ok (.invokespecial 343, 3) := by decide +kernel
theorem d29_4 : decode jdk_67_method_93_code 4 = .ok (.ireturn, 1) := by decide +kernel
theorem ef_30 (m : MethodId) (x0 : Nat) : entryFrame m #[(.ref x0)] 1 = mkF m 0 #[.val (.ref x0)] [] := by first | (simp [entryFrame, mkF, argsToLocals, Value.category]; done) | rfl
set_option maxRecDepth 65536 in
set_option maxHeartbeats 40000000 in
theorem met_sl (l : Launch) (Z : State) (a0 : Array Value) (hw : ∀ d ∈ tables_1, d.before a0 Z = true) (EL : List (String × Nat)) (hEL : EW Z a0 EL) (n0 bk : Nat) (h0 : Heap) (hz0 : Z.heap.size ≤ n0) (hn0 : n0 ≤ h0.size) (sb : Nat) (t : Nat) (cap : Nat) (cs : List Int32) (B : SB Z h0 sb t cap cs) : Met l Z EL (⟨"java/lang/StringBuilder", "length", "()I"⟩ : MethodName) jdk_67_method_93_code 1 (some .int) [] ({ frames := 1, cells := 0, slots := 0, locals := 12 } : Room) #[(.ref sb)] n0 bk h0 (fun _ => bk) (fun v h => v = some (.int (Int32.ofNat cs.length)) ∧ h0 = h) := by
  refine Met.intro (plainFor_of_name pn_5) (fun m => ef_30 m sb) hz0 hEL ?_
  intro hE0 p e s m below meth c C
  have x1 := B.1
  refine C.aloadN 1 d29_0 rfl rfl ?_
  refine C.callU (b := n0) 4 [] [] d29_1 (met_al l Z a0 hw EL hEL n0 bk h0 (by omega) (by omega) sb t cap cs B) (Ins.self x1) (by decide) (by omega) (Or.inl (Nat.le_refl _)) (hw _ (List.mem_of_getElem? (i := 208) rfl)) (own_same (y := (⟨"java/lang/AbstractStringBuilder", "length", "()I"⟩ : MethodName)) (hw _ (List.mem_of_getElem? (i := 203) rfl)) (hw _ (List.mem_of_getElem? (i := 148) rfl)) rfl (by decide)) (hw _ (List.mem_of_getElem? (i := 139) rfl)) (hw _ (List.mem_of_getElem? (i := 204) rfl)) (hw _ (List.mem_of_getElem? (i := 124) rfl)) (hw _ (List.mem_of_getElem? (i := 209) rfl)) rfl (lenOf pd___rI rfl) (by decide) (W := 0) (Nat.le_of_eq rfl) (by decide) (by decide) (by decide) rfl ?_
  rintro _ h1_1 K1_1 ⟨rfl, rfl⟩
  refine C.retI rfl d29_4 (by decide) (by decide) (Or.inl (Nat.le_refl _)) ?_
  exact ⟨rfl, rfl⟩
theorem d30_0 : decode jdk_29_method_69_code 0 = .ok (.iload_n 0, 1) := by decide +kernel
theorem d30_1 : decode jdk_29_method_69_code 1 = .ok (.iload_n 1, 1) := by decide +kernel
theorem d30_2 : decode jdk_29_method_69_code 2 = .ok (.if_icmp .gt 7, 3) := by decide +kernel
theorem d30_5 : decode jdk_29_method_69_code 5 = .ok (.iload_n 0, 1) := by decide +kernel
theorem d30_6 : decode jdk_29_method_69_code 6 = .ok (.goto 4, 3) := by decide +kernel
theorem d30_9 : decode jdk_29_method_69_code 9 = .ok (.iload_n 1, 1) := by decide +kernel
theorem d30_10 : decode jdk_29_method_69_code 10 = .ok (.ireturn, 1) := by decide +kernel
theorem ef_31 (m : MethodId) (x0 : Int32) (x1 : Int32) : entryFrame m #[(.int x0), (.int x1)] 2 = mkF m 0 #[.val (.int x0), .val (.int x1)] [] := by first | (simp [entryFrame, mkF, argsToLocals, Value.category]; done) | rfl
set_option maxRecDepth 65536 in
set_option maxHeartbeats 40000000 in
theorem met_min (l : Launch) (Z : State) (a0 : Array Value) (hw : ∀ d ∈ tables_1, d.before a0 Z = true) (EL : List (String × Nat)) (hEL : EW Z a0 EL) (n0 bk : Nat) (h0 : Heap) (hz0 : Z.heap.size ≤ n0) (hn0 : n0 ≤ h0.size) (x : Int32) (y : Int32) : Met l Z EL (⟨"java/lang/Math", "min", "(II)I"⟩ : MethodName) jdk_29_method_69_code 2 (some .int) [] ({ frames := 0, cells := 0, slots := 0, locals := 0 } : Room) #[(.int x), (.int y)] n0 bk h0 (fun _ => bk) (fun v h => v = some (.int (if y < x then y else x)) ∧ h0 = h) := by
  refine Met.intro ((by decide +kernel)) (fun m => ef_31 m x y) hz0 hEL ?_
  intro hE0 p e s m below meth c C
  refine C.iloadN 1 d30_0 rfl ?_
  refine C.iloadN 2 d30_1 rfl ?_
  rcases Decidable.em (y < x) with h2 | h2
  · skip
    refine C.icY 9 d30_2 (by decide) (by decide) (XT.ii_gt_t h2) ?_
    refine C.iloadN 10 d30_9 rfl ?_
    refine C.retI rfl d30_10 (by decide) (by decide) (Or.inl (Nat.le_refl _)) ?_
    exact ⟨by rw [if_pos h2], rfl⟩
  · skip
    refine C.icN 5 d30_2 rfl (XT.ii_gt_f h2) ?_
    refine C.iloadN 6 d30_5 rfl ?_
    refine C.goto 10 d30_6 (by decide) (by decide) ?_
    refine C.retI rfl d30_10 (by decide) (by decide) (Or.inl (Nat.le_refl _)) ?_
    exact ⟨by rw [if_neg h2], rfl⟩
theorem pn_6 : plainName "java/util/Arrays" = true := by first | (simp [plainName, overriddenIn]; done) | decide +kernel
theorem d31_0 : decode jdk_65_method_131_code 0 = .ok (.iload_n 1, 1) := by decide +kernel
theorem d31_1 : decode jdk_65_method_131_code 1 = .ok (.iload_n 0, 1) := by decide +kernel
theorem d31_2 : decode jdk_65_method_131_code 2 = .ok (.if_icmp .ge 35, 3) := by decide +kernel
theorem d31_37 : decode jdk_65_method_131_code 37 = .ok (.return_, 1) := by decide +kernel
theorem ef_32 (m : MethodId) (x0 : Int32) (x1 : Int32) : entryFrame m #[(.int x0), (.int x1)] 2 = mkF m 0 #[.val (.int x0), .val (.int x1)] [] := by first | (simp [entryFrame, mkF, argsToLocals, Value.category]; done) | rfl
set_option maxRecDepth 65536 in
set_option maxHeartbeats 40000000 in
theorem met_ckl (l : Launch) (Z : State) (a0 : Array Value) (hw : ∀ d ∈ tables_1, d.before a0 Z = true) (EL : List (String × Nat)) (hEL : EW Z a0 EL) (n0 bk : Nat) (h0 : Heap) (hz0 : Z.heap.size ≤ n0) (hn0 : n0 ≤ h0.size) (x : Int32) (y : Int32) (q : ¬ y < x) : Met l Z EL (⟨"java/util/Arrays", "checkLength", "(II)V"⟩ : MethodName) jdk_65_method_131_code 2 none [] ({ frames := 0, cells := 0, slots := 0, locals := 0 } : Room) #[(.int x), (.int y)] n0 bk h0 (fun _ => bk) (fun v h => v = none ∧ h0 = h) := by
  refine Met.intro (plainFor_of_name pn_6) (fun m => ef_32 m x y) hz0 hEL ?_
  intro hE0 p e s m below meth c C
  refine C.iloadN 1 d31_0 rfl ?_
  refine C.iloadN 2 d31_1 rfl ?_
  refine C.icY 37 d31_2 (by decide) (by decide) (XT.ii_ge_t (show ¬ (y < x) from q)) ?_
  refine C.retV rfl d31_37 (by decide) (by decide) (Or.inl (Nat.le_refl _)) ?_
  exact ⟨rfl, rfl⟩
theorem pd__II_rI : parseMethodDescriptor "(II)I" = some ⟨[.int, .int], some .int⟩ := by decide +kernel
theorem d32_0 : decode jdk_65_method_133_code 0 = .ok (.iload_n 1, 1) := by decide +kernel
theorem d32_1 : decode jdk_65_method_133_code 1 = .ok (.iload_n 2, 1) := by decide +kernel
theorem d32_2 : decode jdk_65_method_133_code 2 = .ok (.invokestatic 343, 3) := by decide +kernel
theorem d32_5 : decode jdk_65_method_133_code 5 = .ok (.iload_n 2, 1) := by decide +kernel
theorem d32_6 : decode jdk_65_method_133_code 6 = .ok (.iload_n 1, 1) := by decide +kernel
theorem d32_7 : decode jdk_65_method_133_code 7 = .ok (.isub, 1) := by decide +kernel
theorem d32_8 : decode jdk_65_method_133_code 8 = .ok (.istore_n 3, 1) := by decide +kernel
theorem d32_9 : decode jdk_65_method_133_code 9 = .ok (.iload_n 3, 1) := by decide +kernel
theorem d32_10 : decode jdk_65_method_133_code 10 = .ok (.newarray .byte, 2) := by decide +kernel
theorem d32_12 : decode jdk_65_method_133_code 12 = .ok (.astore 4, 2) := by decide +kernel
theorem d32_14 : decode jdk_65_method_133_code 14 = .ok (.aload_n 0, 1) := by decide +kernel
theorem d32_15 : decode jdk_65_method_133_code 15 = .ok (.iload_n 1, 1) := by decide +kernel
theorem d32_16 : decode jdk_65_method_133_code 16 = .ok (.aload 4, 2) := by decide +kernel
theorem d32_18 : decode jdk_65_method_133_code 18 = .ok (.iconst 0, 1) := by decide +kernel
theorem d32_19 : decode jdk_65_method_133_code 19 = .ok (.aload_n 0, 1) := by decide +kernel
theorem d32_20 : decode jdk_65_method_133_code 20 = .ok (.arraylength, 1) := by decide +kernel
theorem d32_21 : decode jdk_65_method_133_code 21 = .ok (.iload_n 1, 1) := by decide +kernel
theorem d32_22 : decode jdk_65_method_133_code 22 = .ok (.isub, 1) := by decide +kernel
theorem d32_23 : decode jdk_65_method_133_code 23 = .ok (.iload_n 3, 1) := by decide +kernel
theorem d32_24 : decode jdk_65_method_133_code 24 = .ok (.invokestatic 304, 3) := by decide +kernel
theorem d32_27 : decode jdk_65_method_133_code 27 = .ok (.invokestatic 150, 3) := by decide +kernel
theorem d32_30 : decode jdk_65_method_133_code 30 = .ok (.aload 4, 2) := by decide +kernel
theorem d32_32 : decode jdk_65_method_133_code 32 = .ok (.areturn, 1) := by decide +kernel
theorem ef_33 (m : MethodId) (x0 : Nat) (x1 : Int32) (x2 : Int32) : entryFrame m #[(.ref x0), (.int x1), (.int x2)] 5 = mkF m 0 #[.val (.ref x0), .val (.int x1), .val (.int x2), .unset, .unset] [] := by first | (simp [entryFrame, mkF, argsToLocals, Value.category]; done) | rfl
set_option maxRecDepth 65536 in
set_option maxHeartbeats 40000000 in
theorem met_corb (l : Launch) (Z : State) (a0 : Array Value) (hw : ∀ d ∈ tables_1, d.before a0 Z = true) (EL : List (String × Nat)) (hEL : EW Z a0 EL) (n0 bk : Nat) (h0 : Heap) (hz0 : Z.heap.size ≤ n0) (hn0 : n0 ≤ h0.size) (t : Nat) (xs : List Int32) (i : Nat) (R : Ar Z h0 t .byte xs) (hi : i ≤ xs.length) (hc : i ≤ 12) (hbk : bk ≤ h0.size) : Met l Z EL (⟨"java/util/Arrays", "copyOfRangeByte", "([BII)[B"⟩ : MethodName) jdk_65_method_133_code 5 (some (.array .byte)) [] ({ frames := 1, cells := 1, slots := 12, locals := 18 } : Room) #[(.ref t), (.int (0 : Int32)), (.int (Int32.ofNat i))] n0 bk h0 (fun _ => bk) (fun v h => ∃ u, v = some (.ref u) ∧ h0.size ≤ u ∧ Ar Z h u .byte (xs.take i) ∧ Exa Z h u "[B") := by
  refine Met.intro (plainFor_of_name pn_6) (fun m => ef_33 m t (0 : Int32) (Int32.ofNat i)) hz0 hEL ?_
  intro hE0 p e s m below meth c C
  have lt : (_ : Nat) < _ := R.lt
  have lx := own_arlen R
  refine C.iloadN 1 d32_0 rfl ?_
  refine C.iloadN 2 d32_1 rfl ?_
  refine C.callS (b := h0.size) 5 [(.int (0 : Int32)), (.int (Int32.ofNat i))] [] d32_2 (met_ckl l Z a0 hw EL hEL h0.size bk h0 (by omega) (by omega) _ _ (own_len31 (show i < 2147483648 by omega) rfl).1) (by omega) (Or.inl (Nat.le_refl _)) (hw _ (List.mem_of_getElem? (i := 218) rfl)) (hw _ (List.mem_of_getElem? (i := 219) rfl)) (hw _ (List.mem_of_getElem? (i := 213) rfl)) (hw _ (List.mem_of_getElem? (i := 220) rfl)) (by decide) rfl (lenOf pd__II_rV rfl) (by decide) (W := 0) (Nat.le_of_eq rfl) (by decide) (by decide) (by decide) rfl ?_
  rintro _ h2_1 K2_1 ⟨rfl, rfl⟩
  refine C.iloadN 6 d32_5 rfl ?_
  refine C.iloadN 7 d32_6 rfl ?_
  refine C.isub 8 d32_7 ?_
  rw [Int32.sub_zero]
  refine C.istoreN 9 (L' := #[.val (.ref t), .val (.int (0 : Int32)), .val (.int (Int32.ofNat i)), .val (.int (Int32.ofNat i)), .unset]) d32_8 rfl ?_
  refine C.iloadN 10 d32_9 rfl ?_
  refine C.newarrE (zn := i) (cap := 12) 12 d32_10 (hw _ (List.mem_of_getElem? (i := 15) rfl)) rfl hc (by decide) rfl (by decide) (by decide) (by decide) ?_
  intro u h1 g_u E1 R_u Xu
  replace R_u : Ar Z h1 u .byte (List.replicate i 0) := R_u
  have lt_u : u < h1.size := R_u.lt
  have sz_h1 : h0.size ≤ h1.size := E1.1
  replace R := R.ext E1
  refine C.astore 14 (L' := #[.val (.ref t), .val (.int (0 : Int32)), .val (.int (Int32.ofNat i)), .val (.int (Int32.ofNat i)), .val (.ref u)]) d32_12 rfl rfl ?_
  refine C.aloadN 15 d32_14 rfl rfl ?_
  refine C.iloadN 16 d32_15 rfl ?_
  refine C.aload 18 d32_16 rfl rfl ?_
  refine C.iconst 19 (0 : Int32) d32_18 (by decide) ?_
  refine C.aloadN 20 d32_19 rfl rfl ?_
  refine C.alen 21 d32_20 R rfl ?_
  refine C.iloadN 22 d32_21 rfl ?_
  refine C.isub 23 d32_22 ?_
  rw [Int32.sub_zero]
  refine C.iloadN 24 d32_23 rfl ?_
  refine C.callS (b := h1.size) 27 [(.int (Int32.ofNat xs.length)), (.int (Int32.ofNat i))] [(.int (0 : Int32)), (.ref u), (.int (0 : Int32)), (.ref t)] d32_24 (met_min l Z a0 hw EL hEL h1.size bk h1 (by omega) (by omega) _ _) (by omega) (Or.inl (Nat.le_refl _)) (hw _ (List.mem_of_getElem? (i := 221) rfl)) (hw _ (List.mem_of_getElem? (i := 100) rfl)) (hw _ (List.mem_of_getElem? (i := 97) rfl)) (hw _ (List.mem_of_getElem? (i := 101) rfl)) (by decide) rfl (lenOf pd__II_rI rfl) (by decide) (W := 4) (Nat.le_of_eq rfl) (by decide) (by decide) (by decide) rfl ?_
  rintro _ h24_4 K24_4 ⟨rfl, rfl⟩
  rw [show (if Int32.ofNat i < Int32.ofNat xs.length then Int32.ofNat i else Int32.ofNat xs.length) = Int32.ofNat i by split; rfl; rename_i q; rw [(own_ofNat (by omega) lx).2] at q; rw [show xs.length = i by omega]]
  refine C.acopy (si := 0) (di := 0) (ni := i) (W := 0) 30 d32_27 (hw _ (List.mem_of_getElem? (i := 222) rfl)) (hw _ (List.mem_of_getElem? (i := 169) rfl)) (hw _ (List.mem_of_getElem? (i := 167) rfl)) (hw _ (List.mem_of_getElem? (i := 168) rfl)) R R_u rfl rfl rfl rfl (by omega) (by simp) (by omega) (Or.inl (by omega)) rfl (by decide) (Nat.le_of_eq rfl) (by decide) ?_
  intro h2 K2 N2 Y2
  replace Xu := Y2 Xu
  have sz_h2 : h1.size ≤ h2.size := K2.1
  replace R := R.kp K2 (by first | omega | (dsimp only; omega))
  replace R_u : Ar Z h2 u .byte (xs.take i) := (by have q := N2; simpa using q)
  refine C.aload 32 d32_30 rfl rfl ?_
  refine C.retA rfl rfl d32_32 rfl (by decide) (by decide) (Or.inl (Nat.le_refl _)) ?_
  exact ⟨u, rfl, by omega, R_u, Xu⟩
theorem pd__ABII_rAB : parseMethodDescriptor "([BII)[B" = some ⟨[(.array .byte), .int, .int], some (.array .byte)⟩ := by decide +kernel
theorem d33_0 : decode jdk_65_method_132_code 0 = .ok (.iload_n 1, 1) := by decide +kernel
theorem d33_1 : decode jdk_65_method_132_code 1 = .ok (.ifCond .ne 9, 3) := by decide +kernel
theorem d33_4 : decode jdk_65_method_132_code 4 = .ok (.iload_n 2, 1) := by decide +kernel
theorem d33_5 : decode jdk_65_method_132_code 5 = .ok (.aload_n 0, 1) := by decide +kernel
theorem d33_6 : decode jdk_65_method_132_code 6 = .ok (.arraylength, 1) := by decide +kernel
theorem d33_7 : decode jdk_65_method_132_code 7 = .ok (.if_icmp .eq 10, 3) := by decide +kernel
theorem d33_10 : decode jdk_65_method_132_code 10 = .ok (.aload_n 0, 1) := by decide +kernel
theorem d33_11 : decode jdk_65_method_132_code 11 = .ok (.iload_n 1, 1) := by decide +kernel
theorem d33_12 : decode jdk_65_method_132_code 12 = .ok (.iload_n 2, 1) := by decide +kernel
theorem d33_13 : decode jdk_65_method_132_code 13 = .ok (.invokestatic 339, 3) := by decide +kernel
theorem d33_16 : decode jdk_65_method_132_code 16 = .ok (.areturn, 1) := by decide +kernel
theorem ef_34 (m : MethodId) (x0 : Nat) (x1 : Int32) (x2 : Int32) : entryFrame m #[(.ref x0), (.int x1), (.int x2)] 3 = mkF m 0 #[.val (.ref x0), .val (.int x1), .val (.int x2)] [] := by first | (simp [entryFrame, mkF, argsToLocals, Value.category]; done) | rfl
set_option maxRecDepth 65536 in
set_option maxHeartbeats 40000000 in
theorem met_cor (l : Launch) (Z : State) (a0 : Array Value) (hw : ∀ d ∈ tables_1, d.before a0 Z = true) (EL : List (String × Nat)) (hEL : EW Z a0 EL) (n0 bk : Nat) (h0 : Heap) (hz0 : Z.heap.size ≤ n0) (hn0 : n0 ≤ h0.size) (t : Nat) (xs : List Int32) (i : Nat) (R : Ar Z h0 t .byte xs) (hi : i < xs.length) (hc : i ≤ 12) (hbk : bk ≤ h0.size) : Met l Z EL (⟨"java/util/Arrays", "copyOfRange", "([BII)[B"⟩ : MethodName) jdk_65_method_132_code 3 (some (.array .byte)) [] ({ frames := 2, cells := 1, slots := 12, locals := 34 } : Room) #[(.ref t), (.int (0 : Int32)), (.int (Int32.ofNat i))] n0 bk h0 (fun _ => bk) (fun v h => ∃ u, v = some (.ref u) ∧ h0.size ≤ u ∧ Ar Z h u .byte (xs.take i) ∧ Exa Z h u "[B") := by
  refine Met.intro (plainFor_of_name pn_6) (fun m => ef_34 m t (0 : Int32) (Int32.ofNat i)) hz0 hEL ?_
  intro hE0 p e s m below meth c C
  have lx := own_arlen R
  refine C.iloadN 1 d33_0 rfl ?_
  refine C.ifN 4 d33_1 rfl (XT.i0_ne_f (show (0 : Int32) = 0 from rfl)) ?_
  refine C.iloadN 5 d33_4 rfl ?_
  refine C.aloadN 6 d33_5 rfl rfl ?_
  refine C.alen 7 d33_6 R rfl ?_
  refine C.icN 10 d33_7 rfl (XT.ii_eq_f (show ¬ ((Int32.ofNat i) = (Int32.ofNat xs.length)) from (fun e => by have := (own_ofNat (by omega) lx).1.mp e; omega))) ?_
  refine C.aloadN 11 d33_10 rfl rfl ?_
  refine C.iloadN 12 d33_11 rfl ?_
  refine C.iloadN 13 d33_12 rfl ?_
  refine C.callS (b := n0) 16 [(.ref t), (.int (0 : Int32)), (.int (Int32.ofNat i))] [] d33_13 (met_corb l Z a0 hw EL hEL n0 bk h0 (by omega) (by omega) t xs i R (by omega) hc hbk) (by omega) (Or.inl (Nat.le_refl _)) (hw _ (List.mem_of_getElem? (i := 215) rfl)) (hw _ (List.mem_of_getElem? (i := 216) rfl)) (hw _ (List.mem_of_getElem? (i := 213) rfl)) (hw _ (List.mem_of_getElem? (i := 217) rfl)) (by decide) rfl (lenOf pd__ABII_rAB rfl) (by decide) (W := 0) (Nat.le_of_eq rfl) (by decide) (by decide) (by decide) rfl ?_
  rintro _ h1 K1 ⟨u, rfl, g1, Ru, Xu⟩
  have sz_h1 : h0.size ≤ h1.size := K1.1
  refine C.retA rfl rfl d33_16 rfl (by decide) (by decide) (Or.inl (Nat.le_refl _)) ?_
  exact ⟨u, rfl, g1, Ru, Xu⟩
theorem pd___rAB : parseMethodDescriptor "()[B" = some ⟨[], some (.array .byte)⟩ := by decide +kernel
theorem d34_0 : decode jdk_42_method_150_code 0 = .ok (.aload_n 0, 1) := by decide +kernel
theorem d34_1 : decode jdk_42_method_150_code 1 = .ok (.invokespecial 1, 3) := by decide +kernel
theorem d34_4 : decode jdk_42_method_150_code 4 = .ok (.aload_n 1, 1) := by decide +kernel
theorem d34_5 : decode jdk_42_method_150_code 5 = .ok (.invokevirtual 552, 3) := by decide +kernel
theorem d34_8 : decode jdk_42_method_150_code 8 = .ok (.astore_n 3, 1) := by decide +kernel
theorem d34_9 : decode jdk_42_method_150_code 9 = .ok (.aload_n 1, 1) := by decide +kernel
theorem d34_10 : decode jdk_42_method_150_code 10 = .ok (.invokevirtual 549, 3) := by decide +kernel
theorem d34_13 : decode jdk_42_method_150_code 13 = .ok (.istore 4, 2) := by decide +kernel
theorem d34_15 : decode jdk_42_method_150_code 15 = .ok (.aload_n 1, 1) := by decide +kernel
theorem d34_16 : decode jdk_42_method_150_code 16 = .ok (.invokevirtual 1047, 3) := by decide +kernel
theorem d34_19 : decode jdk_42_method_150_code 19 = .ok (.ifCond .eq 22, 3) := by decide +kernel
theorem d34_22 : decode jdk_42_method_150_code 22 = .ok (.aload_n 0, 1) := by decide +kernel
theorem d34_23 : decode jdk_42_method_150_code 23 = .ok (.iconst 0, 1) := by decide +kernel
theorem d34_24 : decode jdk_42_method_150_code 24 = .ok (.putfield 15, 3) := by decide +kernel
theorem d34_27 : decode jdk_42_method_150_code 27 = .ok (.aload_n 0, 1) := by decide +kernel
theorem d34_28 : decode jdk_42_method_150_code 28 = .ok (.aload_n 3, 1) := by decide +kernel
theorem d34_29 : decode jdk_42_method_150_code 29 = .ok (.iconst 0, 1) := by decide +kernel
theorem d34_30 : decode jdk_42_method_150_code 30 = .ok (.iload 4, 2) := by decide +kernel
theorem d34_32 : decode jdk_42_method_150_code 32 = .ok (.invokestatic 54, 3) := by decide +kernel
theorem d34_35 : decode jdk_42_method_150_code 35 = .ok (.putfield 9, 3) := by decide +kernel
theorem d34_38 : decode jdk_42_method_150_code 38 = .ok (.goto 59, 3) := by decide +kernel
theorem d34_97 : decode jdk_42_method_150_code 97 = .ok (.return_, 1) := by decide +kernel
theorem ef_35 (m : MethodId) (x0 : Nat) (x1 : Nat) : entryFrame m #[(.ref x0), (.ref x1), .null] 5 = mkF m 0 #[.val (.ref x0), .val (.ref x1), .val .null, .unset, .unset] [] := by first | (simp [entryFrame, mkF, argsToLocals, Value.category]; done) | rfl
set_option maxRecDepth 65536 in
set_option maxHeartbeats 40000000 in
theorem met_sas (l : Launch) (Z : State) (a0 : Array Value) (hw : ∀ d ∈ tables_1, d.before a0 Z = true) (EL : List (String × Nat)) (hEL : EW Z a0 EL) (n0 bk : Nat) (h0 : Heap) (hz0 : Z.heap.size ≤ n0) (hn0 : n0 ≤ h0.size) (a : Nat) (sb : Nat) (t : Nat) (cap : Nat) (cs : List Int32) (z0 : Int32) (X : Exa Z h0 a "java/lang/String") (FV : Fld Z h0 a "java/lang/String" "value" "[B" .null) (FC : Fld Z h0 a "java/lang/String" "coder" "B" (.int (0 : Int32))) (hna : n0 ≤ a) (hba : bk ≤ a) (B : SB Z h0 sb t cap cs) (hlt : cs.length < cap) (hcN : cs.length ≤ 12) (SC : Sta Z Z.heap "java/lang/String" "COMPACT_STRINGS" "Z" (.int z0)) (hzc : ¬ z0 = 0) : Met l Z EL (⟨"java/lang/String", "<init>", "(Ljava/lang/AbstractStringBuilder;Ljava/lang/Void;)V"⟩ : MethodName) jdk_42_method_150_code 5 none [] ({ frames := 3, cells := 1, slots := 12, locals := 49 } : Room) #[(.ref a), (.ref sb), .null] n0 bk h0 (fun _ => bk) (fun v h => v = none ∧ Str Z h h.size a cs ∧ OKp (fun y => y ≠ a ∧ y < h0.size) h0 h ∧ StrB Z h a cs) := by
  refine Met.intro (plainFor_of_name pn_1) (fun m => ef_35 m a sb) hz0 hEL ?_
  intro hE0 p e s m below meth c C
  have B0 := B
  obtain ⟨x1, fv, fc, fn, ra, hcap, hrg⟩ := B
  have hcp : cap < 2147483648 := by have q := own_arlen ra; rw [own_sblen hcap] at q; exact q
  have la : (_ : Nat) < _ := X.lt
  have l2 : (_ : Nat) < _ := ra.lt
  refine C.aloadN 1 d34_0 rfl rfl ?_
  refine C.objInit (W := 0) 4 d34_1 (hw _ (List.mem_of_getElem? (i := 20) rfl)) (hw _ (List.mem_of_getElem? (i := 21) rfl)) (hw _ (List.mem_of_getElem? (i := 22) rfl)) rfl (by decide) (Nat.le_of_eq rfl) (by decide) ?_
  refine C.aloadN 5 d34_4 rfl rfl ?_
  refine C.callV (b := h0.size) 8 [] [] d34_5 (met_gv l Z a0 hw EL hEL h0.size bk h0 (by omega) (by omega) sb t cap cs B0) x1 (by omega) (Or.inl (Nat.le_refl _)) (hw _ (List.mem_of_getElem? (i := 197) rfl)) (hw _ (List.mem_of_getElem? (i := 198) rfl)) (hw _ (List.mem_of_getElem? (i := 200) rfl)) (hw _ (List.mem_of_getElem? (i := 199) rfl)) (hw _ (List.mem_of_getElem? (i := 124) rfl)) (hw _ (List.mem_of_getElem? (i := 201) rfl)) (fun hZ => notFace_of_selects (args := #[]) (mvT hZ (hw _ (List.mem_of_getElem? (i := 200) rfl)))) (by decide) rfl (lenOf pd___rAB rfl) (by decide) (W := 0) (Nat.le_of_eq rfl) (by decide) (by decide) (by decide) rfl ?_
  rintro _ h5_2 K5_2 ⟨rfl, rfl⟩
  refine C.astoreN 9 (L' := #[.val (.ref a), .val (.ref sb), .val .null, .val (.ref t), .unset]) d34_8 rfl rfl ?_
  refine C.aloadN 10 d34_9 rfl rfl ?_
  refine C.callV (b := h0.size) 13 [] [] d34_10 (met_sl l Z a0 hw EL hEL h0.size bk h0 (by omega) (by omega) sb t cap cs B0) x1 (by omega) (Or.inl (Nat.le_refl _)) (hw _ (List.mem_of_getElem? (i := 202) rfl)) (hw _ (List.mem_of_getElem? (i := 203) rfl)) (hw _ (List.mem_of_getElem? (i := 205) rfl)) (hw _ (List.mem_of_getElem? (i := 206) rfl)) (hw _ (List.mem_of_getElem? (i := 116) rfl)) (hw _ (List.mem_of_getElem? (i := 207) rfl)) (fun hZ => own_nf (a1 := #[]) (mvT hZ (hw _ (List.mem_of_getElem? (i := 148) rfl))) rfl) (by decide) rfl (lenOf pd___rI rfl) (by decide) (W := 0) (Nat.le_of_eq rfl) (by decide) (by decide) (by decide) rfl ?_
  rintro _ h10_3 K10_3 ⟨rfl, rfl⟩
  refine C.istore 15 (L' := #[.val (.ref a), .val (.ref sb), .val .null, .val (.ref t), .val (.int (Int32.ofNat cs.length))]) d34_13 rfl ?_
  refine C.aloadN 16 d34_15 rfl rfl ?_
  refine C.callV (b := h0.size) 19 [] [] d34_16 (met_asl l Z a0 hw EL hEL h0.size bk h0 (by omega) (by omega) sb t cap cs z0 B0 SC hzc) x1 (by omega) (Or.inl (Nat.le_refl _)) (hw _ (List.mem_of_getElem? (i := 210) rfl)) (hw _ (List.mem_of_getElem? (i := 180) rfl)) (hw _ (List.mem_of_getElem? (i := 182) rfl)) (hw _ (List.mem_of_getElem? (i := 181) rfl)) (hw _ (List.mem_of_getElem? (i := 124) rfl)) (hw _ (List.mem_of_getElem? (i := 183) rfl)) (fun hZ => notFace_of_selects (args := #[]) (mvT hZ (hw _ (List.mem_of_getElem? (i := 182) rfl)))) (by decide) rfl (lenOf pd___rZ rfl) (by decide) (W := 0) (Nat.le_of_eq rfl) (by decide) (by decide) (by decide) rfl ?_
  rintro _ h16_4 K16_4 ⟨rfl, rfl⟩
  refine C.ifN 22 d34_19 rfl (XT.i0_eq_f (show ¬ ((1 : Int32) = 0) from (by decide))) ?_
  have X0 := X
  refine C.aloadN 23 d34_22 rfl rfl ?_
  refine C.iconst 24 (0 : Int32) d34_23 (by decide) ?_
  refine C.putf (ty := .byte) 27 d34_24 (hw _ (List.mem_of_getElem? (i := 25) rfl)) Via.refl FC X (Or.inr ⟨(hw _ (List.mem_of_getElem? (i := 26) rfl)), rfl, rfl⟩) (hw _ (List.mem_of_getElem? (i := 11) rfl)) (by decide) rfl rfl (by omega) (Or.inl (by omega)) ?_
  intro h1 W1
  have sz_h1 : h0.size ≤ h1.size := (Nat.le_of_eq W1.size.symm)
  replace FV := FV.other W1 (Or.inr (slot_ne (t := (.array .byte)) (t' := .byte) (Or.inr (hw _ (List.mem_of_getElem? (i := 24) rfl))) (Or.inr (hw _ (List.mem_of_getElem? (i := 26) rfl))) (by decide) (by decide) (by decide)))
  replace FC := FC.same W1
  replace X := X.wr W1
  replace ra := ra.other W1 (Ne.symm (own_ne_exa_ar X0 (hw _ (List.mem_of_getElem? (i := 11) rfl)) ra))
  refine C.aloadN 28 d34_27 rfl rfl ?_
  refine C.aloadN 29 d34_28 rfl rfl ?_
  refine C.iconst 30 (0 : Int32) d34_29 (by decide) ?_
  refine C.iload 32 d34_30 rfl ?_
  refine C.callS (b := h1.size) 35 [(.ref t), (.int (0 : Int32)), (.int (Int32.ofNat cs.length))] [(.ref a)] d34_32 (met_cor l Z a0 hw EL hEL h1.size bk h1 (by omega) (by omega) t _ cs.length ra (by rw [own_sblen hcap]; exact hlt) hcN (by omega)) (by omega) (Or.inl (Nat.le_refl _)) (hw _ (List.mem_of_getElem? (i := 211) rfl)) (hw _ (List.mem_of_getElem? (i := 212) rfl)) (hw _ (List.mem_of_getElem? (i := 213) rfl)) (hw _ (List.mem_of_getElem? (i := 214) rfl)) (by decide) rfl (lenOf pd__ABII_rAB rfl) (by decide) (W := 1) (Nat.le_of_eq rfl) (by decide) (by decide) (by decide) rfl ?_
  rintro _ h2 K2 ⟨u, rfl, g1, Ru, Xu⟩
  have sz_h2 : h1.size ≤ h2.size := K2.1
  replace X := own_exa K2 X (by first | omega | (dsimp only; omega))
  replace FV := own_fld K2 FV (by first | omega | (dsimp only; omega))
  replace FC := own_fld K2 FC (by first | omega | (dsimp only; omega))
  refine C.putf (ty := (.array .byte)) 38 d34_35 (hw _ (List.mem_of_getElem? (i := 23) rfl)) Via.refl FV X (Or.inr ⟨(hw _ (List.mem_of_getElem? (i := 24) rfl)), rfl, rfl⟩) (hw _ (List.mem_of_getElem? (i := 11) rfl)) (by decide) rfl rfl (by omega) (Or.inl (by omega)) ?_
  intro h3 W3
  have sz_h3 : h2.size ≤ h3.size := (Nat.le_of_eq W3.size.symm)
  replace FC := FC.other W3 (Or.inr (slot_ne (t := .byte) (t' := (.array .byte)) (Or.inr (hw _ (List.mem_of_getElem? (i := 26) rfl))) (Or.inr (hw _ (List.mem_of_getElem? (i := 24) rfl))) (by decide) (by decide) (by decide)))
  replace FV := FV.same W3
  replace X := X.wr W3
  replace Ru := Ru.other W3 (by first | omega | (dsimp only; omega))
  replace Xu := Xu.wr W3
  refine C.goto 97 d34_38 (by decide) (by decide) ?_
  refine C.retV rfl d34_97 (by decide) (by decide) (Or.inl (Nat.le_refl _)) ?_
  exact ⟨rfl, Str.made X FC FV (by rw [own_sbtake hcap] at Ru; exact Ru) hrg, ((OKp.ofWr W1).weak (fun y q => q.1)).trans ((K2.weak (fun y q => by have := q.2; omega)).trans ((OKp.ofWr W3).weak (fun y q => q.1))), u, FV, (by rw [own_sbtake hcap] at Ru; exact Ru), Xu⟩
theorem pd__Ljava_lang_AbstractStringBuilderLjava_lang_Void_rV : parseMethodDescriptor "(Ljava/lang/AbstractStringBuilder;Ljava/lang/Void;)V" = some ⟨[(.object "java/lang/AbstractStringBuilder"), (.object "java/lang/Void")], none⟩ := by decide +kernel
theorem d35_0 : decode jdk_42_method_53_code 0 = .ok (.aload_n 0, 1) := by decide +kernel
theorem d35_1 : decode jdk_42_method_53_code 1 = .ok (.aload_n 1, 1) := by decide +kernel
theorem d35_2 : decode jdk_42_method_53_code 2 = .ok (.aconst_null, 1) := by decide +kernel
theorem d35_3 : decode jdk_42_method_53_code 3 = .ok (.invokespecial 489, 3) := by decide +kernel
theorem d35_6 : decode jdk_42_method_53_code 6 = .ok (.return_, 1) := by decide +kernel
theorem ef_36 (m : MethodId) (x0 : Nat) (x1 : Nat) : entryFrame m #[(.ref x0), (.ref x1)] 2 = mkF m 0 #[.val (.ref x0), .val (.ref x1)] [] := by first | (simp [entryFrame, mkF, argsToLocals, Value.category]; done) | rfl
set_option maxRecDepth 65536 in
set_option maxHeartbeats 40000000 in
theorem met_ssb (l : Launch) (Z : State) (a0 : Array Value) (hw : ∀ d ∈ tables_1, d.before a0 Z = true) (EL : List (String × Nat)) (hEL : EW Z a0 EL) (n0 bk : Nat) (h0 : Heap) (hz0 : Z.heap.size ≤ n0) (hn0 : n0 ≤ h0.size) (a : Nat) (sb : Nat) (t : Nat) (cap : Nat) (cs : List Int32) (z0 : Int32) (X : Exa Z h0 a "java/lang/String") (FV : Fld Z h0 a "java/lang/String" "value" "[B" .null) (FC : Fld Z h0 a "java/lang/String" "coder" "B" (.int (0 : Int32))) (hna : n0 ≤ a) (hba : bk ≤ a) (B : SB Z h0 sb t cap cs) (hlt : cs.length < cap) (hcN : cs.length ≤ 12) (SC : Sta Z Z.heap "java/lang/String" "COMPACT_STRINGS" "Z" (.int z0)) (hzc : ¬ z0 = 0) : Met l Z EL (⟨"java/lang/String", "<init>", "(Ljava/lang/StringBuilder;)V"⟩ : MethodName) jdk_42_method_53_code 2 none [] ({ frames := 4, cells := 1, slots := 12, locals := 65 } : Room) #[(.ref a), (.ref sb)] n0 bk h0 (fun _ => bk) (fun v h => v = none ∧ Str Z h h.size a cs ∧ OKp (fun y => y ≠ a ∧ y < h0.size) h0 h ∧ StrB Z h a cs) := by
  refine Met.intro (plainFor_of_name pn_1) (fun m => ef_36 m a sb) hz0 hEL ?_
  intro hE0 p e s m below meth c C
  refine C.aloadN 1 d35_0 rfl rfl ?_
  refine C.aloadN 2 d35_1 rfl rfl ?_
  refine C.aconstNull 3 d35_2 ?_
  refine C.callI (b := n0) 6 [(.ref sb), .null] [] d35_3 (met_sas l Z a0 hw EL hEL n0 bk h0 (by omega) (by omega) a sb t cap cs z0 X FV FC hna hba B hlt hcN SC hzc) rfl (by omega) (Or.inl (Nat.le_refl _)) (hw _ (List.mem_of_getElem? (i := 194) rfl)) (hw _ (List.mem_of_getElem? (i := 195) rfl)) (hw _ (List.mem_of_getElem? (i := 3) rfl)) (hw _ (List.mem_of_getElem? (i := 196) rfl)) (by decide) rfl (lenOf pd__Ljava_lang_AbstractStringBuilderLjava_lang_Void_rV rfl) (by decide) (W := 0) (Nat.le_of_eq rfl) (by decide) (by decide) (by decide) rfl ?_
  rintro _ h1 K1 ⟨rfl, Sa, Kq, Sab⟩
  have sz_h1 : h0.size ≤ h1.size := K1.1
  refine C.retV rfl d35_6 (by decide) (by decide) (Or.inl (Nat.le_refl _)) ?_
  exact ⟨rfl, Sa, Kq, Sab⟩
theorem pd__Ljava_lang_StringBuilder_rV : parseMethodDescriptor "(Ljava/lang/StringBuilder;)V" = some ⟨[(.object "java/lang/StringBuilder")], none⟩ := by decide +kernel
theorem d36_0 : decode jdk_67_method_42_code 0 = .ok (.new 18, 3) := by decide +kernel
theorem d36_3 : decode jdk_67_method_42_code 3 = .ok (.dup, 1) := by decide +kernel
theorem d36_4 : decode jdk_67_method_42_code 4 = .ok (.aload_n 0, 1) := by decide +kernel
theorem d36_5 : decode jdk_67_method_42_code 5 = .ok (.invokespecial 137, 3) := by decide +kernel
theorem d36_8 : decode jdk_67_method_42_code 8 = .ok (.areturn, 1) := by decide +kernel
theorem ef_37 (m : MethodId) (x0 : Nat) : entryFrame m #[(.ref x0)] 1 = mkF m 0 #[.val (.ref x0)] [] := by first | (simp [entryFrame, mkF, argsToLocals, Value.category]; done) | rfl
set_option maxRecDepth 65536 in
set_option maxHeartbeats 40000000 in
theorem met_ts (l : Launch) (Z : State) (a0 : Array Value) (hw : ∀ d ∈ tables_1, d.before a0 Z = true) (EL : List (String × Nat)) (hEL : EW Z a0 EL) (n0 bk : Nat) (h0 : Heap) (hz0 : Z.heap.size ≤ n0) (hn0 : n0 ≤ h0.size) (sb : Nat) (t : Nat) (cap : Nat) (cs : List Int32) (z0 : Int32) (B : SB Z h0 sb t cap cs) (hlt : cs.length < cap) (hcN : cs.length ≤ 12) (hbk : bk ≤ h0.size) (SC : Sta Z Z.heap "java/lang/String" "COMPACT_STRINGS" "Z" (.int z0)) (hzc : ¬ z0 = 0) : Met l Z EL (⟨"java/lang/StringBuilder", "toString", "()Ljava/lang/String;"⟩ : MethodName) jdk_67_method_42_code 1 (some (.object "java/lang/String")) [] ({ frames := 5, cells := 2, slots := 16, locals := 79 } : Room) #[(.ref sb)] n0 bk h0 (fun _ => bk) (fun v h => ∃ a, v = some (.ref a) ∧ Str Z h h.size a cs ∧ StrB Z h a cs) := by
  refine Met.intro (plainFor_of_name pn_5) (fun m => ef_37 m sb) hz0 hEL ?_
  intro hE0 p e s m below meth c C
  have l1 := B.lts
  have l2 := B.ltt
  refine C.newo 3 d36_0 (hw _ (List.mem_of_getElem? (i := 190) rfl)) (hw _ (List.mem_of_getElem? (i := 11) rfl)) (hw _ (List.mem_of_getElem? (i := 3) rfl)) (by decide) (by decide) ?_
  intro a h1 g_a E1 X_a D1
  have lt_a : a < h1.size := X_a.lt
  have sz_h1 : h0.size ≤ h1.size := E1.1
  replace B := B.ext E1
  have FV : Fld Z h1 a "java/lang/String" "value" "[B" .null := D1 (Or.inr (hw _ (List.mem_of_getElem? (i := 24) rfl))) (ty := (.array .byte)) (by decide)
  have FC : Fld Z h1 a "java/lang/String" "coder" "B" (.int (0 : Int32)) := D1 (Or.inr (hw _ (List.mem_of_getElem? (i := 26) rfl))) (ty := .byte) (by decide)
  refine C.dup 4 d36_3 rfl ?_
  refine C.aloadN 5 d36_4 rfl rfl ?_
  refine C.callI (b := a) 8 [(.ref sb)] [(.ref a)] d36_5 (met_ssb l Z a0 hw EL hEL a bk h1 (by omega) (by omega) a sb t cap cs z0 X_a FV FC (by omega) (by omega) B hlt hcN SC hzc) rfl (by omega) (Or.inl (Nat.le_refl _)) (hw _ (List.mem_of_getElem? (i := 191) rfl)) (hw _ (List.mem_of_getElem? (i := 192) rfl)) (hw _ (List.mem_of_getElem? (i := 3) rfl)) (hw _ (List.mem_of_getElem? (i := 193) rfl)) (by decide) rfl (lenOf pd__Ljava_lang_StringBuilder_rV rfl) (by decide) (W := 1) (Nat.le_of_eq rfl) (by decide) (by decide) (by decide) rfl ?_
  rintro _ h2 K2 ⟨rfl, Sa, Kq, Sab⟩
  have sz_h2 : h1.size ≤ h2.size := Kq.1
  refine C.retA rfl rfl d36_8 rfl (by decide) (by decide) (Or.inl (Nat.le_refl _)) ?_
  exact ⟨a, rfl, Sa, Sab⟩
theorem own_mem {x : Int32} (h1 : ¬ x < 0) (h2 : ¬ 255 < x) {cs : List Int32} (hc : ∀ y ∈ cs, ¬ y < 0 ∧ ¬ 255 < y) : own_lo x ∈ cs.map own_lo ↔ x ∈ cs := by
  rw [List.mem_map]
  exact ⟨fun ⟨y, hy, e⟩ => by rw [← own_lo_inj (hc y hy).1 (hc y hy).2 h1 h2 e]; exact hy, fun h => ⟨x, h, rfl⟩⟩
theorem own_memget {xs : List Int32} {x : Int32} : x ∈ xs ↔ ∃ i, i < xs.length ∧ xs[i]? = some x := by
  rw [List.mem_iff_getElem?]
  exact ⟨fun ⟨i, h⟩ => ⟨i, (List.getElem?_eq_some_iff.mp h).1, h⟩, fun ⟨i, _, h⟩ => ⟨i, h⟩⟩
theorem d37_0 : decode jdk_43_method_23_code 0 = .ok (.iload_n 1, 1) := by decide +kernel
theorem d37_1 : decode jdk_43_method_23_code 1 = .ok (.i2b, 1) := by decide +kernel
theorem d37_2 : decode jdk_43_method_23_code 2 = .ok (.istore 4, 2) := by decide +kernel
theorem d37_4 : decode jdk_43_method_23_code 4 = .ok (.iload_n 2, 1) := by decide +kernel
theorem d37_5 : decode jdk_43_method_23_code 5 = .ok (.istore 5, 2) := by decide +kernel
theorem d37_7 : decode jdk_43_method_23_code 7 = .ok (.iload 5, 2) := by decide +kernel
theorem d37_9 : decode jdk_43_method_23_code 9 = .ok (.iload_n 3, 1) := by decide +kernel
theorem d37_10 : decode jdk_43_method_23_code 10 = .ok (.if_icmp .ge 21, 3) := by decide +kernel
theorem d37_13 : decode jdk_43_method_23_code 13 = .ok (.aload_n 0, 1) := by decide +kernel
theorem d37_14 : decode jdk_43_method_23_code 14 = .ok (.iload 5, 2) := by decide +kernel
theorem d37_16 : decode jdk_43_method_23_code 16 = .ok (.baload, 1) := by decide +kernel
theorem d37_17 : decode jdk_43_method_23_code 17 = .ok (.iload 4, 2) := by decide +kernel
theorem d37_19 : decode jdk_43_method_23_code 19 = .ok (.if_icmp .ne 6, 3) := by decide +kernel
theorem d37_22 : decode jdk_43_method_23_code 22 = .ok (.iload 5, 2) := by decide +kernel
theorem d37_24 : decode jdk_43_method_23_code 24 = .ok (.ireturn, 1) := by decide +kernel
theorem d37_25 : decode jdk_43_method_23_code 25 = .ok (.iinc 5 1, 3) := by decide +kernel
theorem d37_28 : decode jdk_43_method_23_code 28 = .ok (.goto (-21), 3) := by decide +kernel
theorem d37_31 : decode jdk_43_method_23_code 31 = .ok (.iconst (-1), 1) := by decide +kernel
theorem d37_32 : decode jdk_43_method_23_code 32 = .ok (.ireturn, 1) := by decide +kernel
theorem ef_38 (m : MethodId) (x0 : Nat) (x1 : Int32) (x2 : Int32) (x3 : Int32) : entryFrame m #[(.ref x0), (.int x1), (.int x2), (.int x3)] 6 = mkF m 0 #[.val (.ref x0), .val (.int x1), .val (.int x2), .val (.int x3), .unset, .unset] [] := by first | (simp [entryFrame, mkF, argsToLocals, Value.category]; done) | rfl
set_option maxRecDepth 65536 in
set_option maxHeartbeats 40000000 in
theorem met_ioc (l : Launch) (Z : State) (a0 : Array Value) (hw : ∀ d ∈ tables_1, d.before a0 Z = true) (EL : List (String × Nat)) (hEL : EW Z a0 EL) (n0 bk : Nat) (h0 : Heap) (hz0 : Z.heap.size ≤ n0) (hn0 : n0 ≤ h0.size) (t : Nat) (x : Int32) (xs : List Int32) (R : Ar Z h0 t .byte xs) : Met l Z EL (⟨"java/lang/StringLatin1", "indexOfChar", "([BIII)I"⟩ : MethodName) jdk_43_method_23_code 6 (some .int) [] ({ frames := 0, cells := 0, slots := 0, locals := 0 } : Room) #[(.ref t), (.int x), (.int (0 : Int32)), (.int (Int32.ofNat xs.length))] n0 bk h0 (fun _ => bk) (fun v h => ∃ r, v = some (.int r) ∧ (¬ r < 0 ↔ own_lo x ∈ xs) ∧ h0 = h) := by
  refine Met.intro (plainFor_of_name pn_0) (fun m => ef_38 m t x (0 : Int32) (Int32.ofNat xs.length)) hz0 hEL ?_
  intro hE0 p e s m below meth c C
  have lx := own_arlen R
  have L7 : ∀ (n : Nat), ∀ (i : Nat), (xs.length - i = n) → (i ≤ xs.length) → (∀ j, j < i → xs[j]? ≠ some (own_lo x)) → Go p l e ({ frames := 0, cells := 0, slots := 0, locals := 0 } : Room) s m #[(.ref t), (.int x), (.int (0 : Int32)), (.int (Int32.ofNat xs.length))] below meth c Z "java/lang/StringLatin1" EL n0 (fun _ => bk) (fun v h => ∃ r, v = some (.int r) ∧ (¬ r < 0 ↔ own_lo x ∈ xs) ∧ h0 = h) bk h0 0 0 7 #[.val (.ref t), .val (.int x), .val (.int (0 : Int32)), .val (.int (Int32.ofNat xs.length)), .val (.int x.toInt8.toInt32), .val (.int (Int32.ofNat i))] [] := by
    intro n
    induction n using Nat.strongRecOn with
    | ind n ih =>
      intro i hn hi he
      refine C.iload 9 d37_7 rfl ?_
      refine C.iloadN 10 d37_9 rfl ?_
      rcases Decidable.em ((Int32.ofNat i) < (Int32.ofNat xs.length)) with h10 | h10
      · skip
        refine C.icN 13 d37_10 rfl (XT.ii_ge_f h10) ?_
        have hlt : i < xs.length := (own_ofNat (by omega) lx).2.mp h10
        obtain ⟨x1, hx1⟩ : ∃ y, xs[i]? = some y := ⟨_, List.getElem?_eq_getElem hlt⟩
        refine C.aloadN 14 d37_13 rfl rfl ?_
        refine C.iload 16 d37_14 rfl ?_
        refine C.baload 17 i d37_16 R rfl hx1 ?_
        refine C.iload 19 d37_17 rfl ?_
        rcases Decidable.em (x1 = x.toInt8.toInt32) with h19 | h19
        · skip
          refine C.icN 22 d37_19 rfl (XT.ii_ne_f h19) ?_
          refine C.iload 24 d37_22 rfl ?_
          refine C.retI rfl d37_24 (by decide) (by decide) (Or.inl (Nat.le_refl _)) ?_
          exact ⟨_, rfl, ⟨fun _ => by rw [show own_lo x = x1 from h19.symm]; exact List.mem_of_getElem? hx1, fun _ => (own_len31 (show i < 2147483648 by omega) rfl).1⟩, rfl⟩
        · skip
          refine C.icY 25 d37_19 (by decide) (by decide) (XT.ii_ne_t h19) ?_
          refine C.iinc 28 (L' := #[.val (.ref t), .val (.int x), .val (.int (0 : Int32)), .val (.int (Int32.ofNat xs.length)), .val (.int x.toInt8.toInt32), .val (.int ((Int32.ofNat i) + (1 : Int32)))]) (1 : Int32) d37_25 (by decide) rfl rfl ?_
          refine C.goto 7 d37_28 (by decide) (by decide) ?_
          rw [own_succ i]
          exact ih _ (show xs.length - (i + 1) < n by omega) (i + 1) rfl (by omega) (fun j hj => by
            by_cases q : j = i
            · subst q; rw [hx1]; exact fun e => h19 (Option.some.inj e)
            · exact he j (by omega))
      · skip
        refine C.icY 31 d37_10 (by decide) (by decide) (XT.ii_ge_t h10) ?_
        have hge : ¬ i < xs.length := fun q => h10 ((own_ofNat (by omega) lx).2.mpr q)
        refine C.iconst 32 (-1 : Int32) d37_31 (by decide) ?_
        refine C.retI rfl d37_32 (by decide) (by decide) (Or.inl (Nat.le_refl _)) ?_
        exact ⟨_, rfl, ⟨fun q => absurd (by decide) q, fun q => by obtain ⟨j, hj, e⟩ := own_memget.mp q; exact absurd e (he j (by omega))⟩, rfl⟩
  refine C.iloadN 1 d37_0 rfl ?_
  refine C.i2b 2 d37_1 ?_
  refine C.istore 4 (L' := #[.val (.ref t), .val (.int x), .val (.int (0 : Int32)), .val (.int (Int32.ofNat xs.length)), .val (.int x.toInt8.toInt32), .unset]) d37_2 rfl ?_
  refine C.iloadN 5 d37_4 rfl ?_
  refine C.istore 7 (L' := #[.val (.ref t), .val (.int x), .val (.int (0 : Int32)), .val (.int (Int32.ofNat xs.length)), .val (.int x.toInt8.toInt32), .val (.int (0 : Int32))]) d37_5 rfl ?_
  exact L7 _ 0 rfl (Nat.zero_le _) (fun j hj => absurd hj (Nat.not_lt_zero _))
theorem d38_0 : decode jdk_29_method_65_code 0 = .ok (.iload_n 0, 1) := by decide +kernel
theorem d38_1 : decode jdk_29_method_65_code 1 = .ok (.iload_n 1, 1) := by decide +kernel
theorem d38_2 : decode jdk_29_method_65_code 2 = .ok (.if_icmp .lt 7, 3) := by decide +kernel
theorem d38_5 : decode jdk_29_method_65_code 5 = .ok (.iload_n 0, 1) := by decide +kernel
theorem d38_6 : decode jdk_29_method_65_code 6 = .ok (.goto 4, 3) := by decide +kernel
theorem d38_10 : decode jdk_29_method_65_code 10 = .ok (.ireturn, 1) := by decide +kernel
theorem ef_39 (m : MethodId) (x0 : Int32) (x1 : Int32) : entryFrame m #[(.int x0), (.int x1)] 2 = mkF m 0 #[.val (.int x0), .val (.int x1)] [] := by first | (simp [entryFrame, mkF, argsToLocals, Value.category]; done) | rfl
set_option maxRecDepth 65536 in
set_option maxHeartbeats 40000000 in
theorem met_max (l : Launch) (Z : State) (a0 : Array Value) (hw : ∀ d ∈ tables_1, d.before a0 Z = true) (EL : List (String × Nat)) (hEL : EW Z a0 EL) (n0 bk : Nat) (h0 : Heap) (hz0 : Z.heap.size ≤ n0) (hn0 : n0 ≤ h0.size) (x : Int32) (y : Int32) (q : ¬ x < y) : Met l Z EL (⟨"java/lang/Math", "max", "(II)I"⟩ : MethodName) jdk_29_method_65_code 2 (some .int) [] ({ frames := 0, cells := 0, slots := 0, locals := 0 } : Room) #[(.int x), (.int y)] n0 bk h0 (fun _ => bk) (fun v h => v = some (.int x) ∧ h0 = h) := by
  refine Met.intro ((by decide +kernel)) (fun m => ef_39 m x y) hz0 hEL ?_
  intro hE0 p e s m below meth c C
  refine C.iloadN 1 d38_0 rfl ?_
  refine C.iloadN 2 d38_1 rfl ?_
  refine C.icN 5 d38_2 rfl (XT.ii_lt_f (show ¬ (x < y) from q)) ?_
  refine C.iloadN 6 d38_5 rfl ?_
  refine C.goto 10 d38_6 (by decide) (by decide) ?_
  refine C.retI rfl d38_10 (by decide) (by decide) (Or.inl (Nat.le_refl _)) ?_
  exact ⟨rfl, rfl⟩
theorem ef_40 (m : MethodId) (x0 : Int32) (x1 : Int32) : entryFrame m #[(.int x0), (.int x1)] 2 = mkF m 0 #[.val (.int x0), .val (.int x1)] [] := by first | (simp [entryFrame, mkF, argsToLocals, Value.category]; done) | rfl
set_option maxRecDepth 65536 in
set_option maxHeartbeats 40000000 in
theorem met_minx (l : Launch) (Z : State) (a0 : Array Value) (hw : ∀ d ∈ tables_1, d.before a0 Z = true) (EL : List (String × Nat)) (hEL : EW Z a0 EL) (n0 bk : Nat) (h0 : Heap) (hz0 : Z.heap.size ≤ n0) (hn0 : n0 ≤ h0.size) (x : Int32) (y : Int32) (q : ¬ y < x) : Met l Z EL (⟨"java/lang/Math", "min", "(II)I"⟩ : MethodName) jdk_29_method_69_code 2 (some .int) [] ({ frames := 0, cells := 0, slots := 0, locals := 0 } : Room) #[(.int x), (.int y)] n0 bk h0 (fun _ => bk) (fun v h => v = some (.int x) ∧ h0 = h) := by
  refine Met.intro ((by decide +kernel)) (fun m => ef_40 m x y) hz0 hEL ?_
  intro hE0 p e s m below meth c C
  refine C.iloadN 1 d30_0 rfl ?_
  refine C.iloadN 2 d30_1 rfl ?_
  refine C.icN 5 d30_2 rfl (XT.ii_gt_f (show ¬ (y < x) from q)) ?_
  refine C.iloadN 6 d30_5 rfl ?_
  refine C.goto 10 d30_6 (by decide) (by decide) ?_
  refine C.retI rfl d30_10 (by decide) (by decide) (Or.inl (Nat.le_refl _)) ?_
  exact ⟨rfl, rfl⟩
theorem d39_0 : decode jdk_43_method_4_code 0 = .ok (.iload_n 0, 1) := by decide +kernel
theorem d39_1 : decode jdk_43_method_4_code 1 = .ok (.ifCond .lt 14, 3) := by decide +kernel
theorem d39_4 : decode jdk_43_method_4_code 4 = .ok (.iload_n 0, 1) := by decide +kernel
theorem d39_5 : decode jdk_43_method_4_code 5 = .ok (.sipush 255, 3) := by decide +kernel
theorem d39_8 : decode jdk_43_method_4_code 8 = .ok (.if_icmp .gt 7, 3) := by decide +kernel
theorem d39_11 : decode jdk_43_method_4_code 11 = .ok (.iconst 1, 1) := by decide +kernel
theorem d39_12 : decode jdk_43_method_4_code 12 = .ok (.goto 4, 3) := by decide +kernel
theorem d39_16 : decode jdk_43_method_4_code 16 = .ok (.ireturn, 1) := by decide +kernel
theorem ef_41 (m : MethodId) (x0 : Int32) : entryFrame m #[(.int x0)] 1 = mkF m 0 #[.val (.int x0)] [] := by first | (simp [entryFrame, mkF, argsToLocals, Value.category]; done) | rfl
set_option maxRecDepth 65536 in
set_option maxHeartbeats 40000000 in
theorem met_cani (l : Launch) (Z : State) (a0 : Array Value) (hw : ∀ d ∈ tables_1, d.before a0 Z = true) (EL : List (String × Nat)) (hEL : EW Z a0 EL) (n0 bk : Nat) (h0 : Heap) (hz0 : Z.heap.size ≤ n0) (hn0 : n0 ≤ h0.size) (x : Int32) (q0 : ¬ x < 0) (q : ¬ 255 < x) : Met l Z EL (⟨"java/lang/StringLatin1", "canEncode", "(I)Z"⟩ : MethodName) jdk_43_method_4_code 1 (some .boolean) [] ({ frames := 0, cells := 0, slots := 0, locals := 0 } : Room) #[(.int x)] n0 bk h0 (fun _ => bk) (fun v h => v = some (.int 1) ∧ h0 = h) := by
  refine Met.intro (plainFor_of_name pn_0) (fun m => ef_41 m x) hz0 hEL ?_
  intro hE0 p e s m below meth c C
  refine C.iloadN 1 d39_0 rfl ?_
  refine C.ifN 4 d39_1 rfl (XT.i0_lt_f (show ¬ (x < 0) from q0)) ?_
  refine C.iloadN 5 d39_4 rfl ?_
  refine C.sipush 8 (255 : Int32) d39_5 (by decide) ?_
  refine C.icN 11 d39_8 rfl (XT.ii_gt_f (show ¬ ((255 : Int32) < x) from q)) ?_
  refine C.iconst 12 (1 : Int32) d39_11 (by decide) ?_
  refine C.goto 16 d39_12 (by decide) (by decide) ?_
  refine C.retN (t := .boolean) rfl (by simp) d39_16 (by decide) (by decide) (Or.inl (Nat.le_refl _)) ?_
  exact ⟨rfl, rfl⟩
theorem pd__I_rZ : parseMethodDescriptor "(I)Z" = some ⟨[.int], some .boolean⟩ := by decide +kernel
theorem pd__ABIII_rI : parseMethodDescriptor "([BIII)I" = some ⟨[(.array .byte), .int, .int, .int], some .int⟩ := by decide +kernel
theorem d40_0 : decode jdk_43_method_22_code 0 = .ok (.iload_n 1, 1) := by decide +kernel
theorem d40_1 : decode jdk_43_method_22_code 1 = .ok (.invokestatic 88, 3) := by decide +kernel
theorem d40_4 : decode jdk_43_method_22_code 4 = .ok (.ifCond .ne 5, 3) := by decide +kernel
theorem d40_9 : decode jdk_43_method_22_code 9 = .ok (.iload_n 2, 1) := by decide +kernel
theorem d40_10 : decode jdk_43_method_22_code 10 = .ok (.iconst 0, 1) := by decide +kernel
theorem d40_11 : decode jdk_43_method_22_code 11 = .ok (.invokestatic 92, 3) := by decide +kernel
theorem d40_14 : decode jdk_43_method_22_code 14 = .ok (.istore_n 2, 1) := by decide +kernel
theorem d40_15 : decode jdk_43_method_22_code 15 = .ok (.iload_n 3, 1) := by decide +kernel
theorem d40_16 : decode jdk_43_method_22_code 16 = .ok (.aload_n 0, 1) := by decide +kernel
theorem d40_17 : decode jdk_43_method_22_code 17 = .ok (.arraylength, 1) := by decide +kernel
theorem d40_18 : decode jdk_43_method_22_code 18 = .ok (.invokestatic 38, 3) := by decide +kernel
theorem d40_21 : decode jdk_43_method_22_code 21 = .ok (.istore_n 3, 1) := by decide +kernel
theorem d40_22 : decode jdk_43_method_22_code 22 = .ok (.iload_n 2, 1) := by decide +kernel
theorem d40_23 : decode jdk_43_method_22_code 23 = .ok (.iload_n 3, 1) := by decide +kernel
theorem d40_24 : decode jdk_43_method_22_code 24 = .ok (.if_icmp .lt 5, 3) := by decide +kernel
theorem d40_27 : decode jdk_43_method_22_code 27 = .ok (.iconst (-1), 1) := by decide +kernel
theorem d40_28 : decode jdk_43_method_22_code 28 = .ok (.ireturn, 1) := by decide +kernel
theorem d40_29 : decode jdk_43_method_22_code 29 = .ok (.aload_n 0, 1) := by decide +kernel
theorem d40_30 : decode jdk_43_method_22_code 30 = .ok (.iload_n 1, 1) := by decide +kernel
theorem d40_31 : decode jdk_43_method_22_code 31 = .ok (.iload_n 2, 1) := by decide +kernel
theorem d40_32 : decode jdk_43_method_22_code 32 = .ok (.iload_n 3, 1) := by decide +kernel
theorem d40_33 : decode jdk_43_method_22_code 33 = .ok (.invokestatic 95, 3) := by decide +kernel
theorem d40_36 : decode jdk_43_method_22_code 36 = .ok (.ireturn, 1) := by decide +kernel
theorem ef_42 (m : MethodId) (x0 : Nat) (x1 : Int32) (x2 : Int32) (x3 : Int32) : entryFrame m #[(.ref x0), (.int x1), (.int x2), (.int x3)] 4 = mkF m 0 #[.val (.ref x0), .val (.int x1), .val (.int x2), .val (.int x3)] [] := by first | (simp [entryFrame, mkF, argsToLocals, Value.category]; done) | rfl
set_option maxRecDepth 65536 in
set_option maxHeartbeats 40000000 in
theorem met_lio (l : Launch) (Z : State) (a0 : Array Value) (hw : ∀ d ∈ tables_1, d.before a0 Z = true) (EL : List (String × Nat)) (hEL : EW Z a0 EL) (n0 bk : Nat) (h0 : Heap) (hz0 : Z.heap.size ≤ n0) (hn0 : n0 ≤ h0.size) (t : Nat) (x : Int32) (xs : List Int32) (R : Ar Z h0 t .byte xs) (q0 : ¬ x < 0) (q : ¬ 255 < x) : Met l Z EL (⟨"java/lang/StringLatin1", "indexOf", "([BIII)I"⟩ : MethodName) jdk_43_method_22_code 4 (some .int) [] ({ frames := 1, cells := 0, slots := 0, locals := 17 } : Room) #[(.ref t), (.int x), (.int (0 : Int32)), (.int (Int32.ofNat xs.length))] n0 bk h0 (fun _ => bk) (fun v h => ∃ r, v = some (.int r) ∧ (¬ r < 0 ↔ own_lo x ∈ xs) ∧ h0 = h) := by
  refine Met.intro (plainFor_of_name pn_0) (fun m => ef_42 m t x (0 : Int32) (Int32.ofNat xs.length)) hz0 hEL ?_
  intro hE0 p e s m below meth c C
  have lx := own_arlen R
  refine C.iloadN 1 d40_0 rfl ?_
  refine C.callS (b := h0.size) 4 [(.int x)] [] d40_1 (met_cani l Z a0 hw EL hEL h0.size bk h0 (by omega) (by omega) x q0 q) (by omega) (Or.inl (Nat.le_refl _)) (hw _ (List.mem_of_getElem? (i := 92) rfl)) (hw _ (List.mem_of_getElem? (i := 93) rfl)) (hw _ (List.mem_of_getElem? (i := 8) rfl)) (hw _ (List.mem_of_getElem? (i := 94) rfl)) (by decide) rfl (lenOf pd__I_rZ rfl) (by decide) (W := 0) (Nat.le_of_eq rfl) (by decide) (by decide) (by decide) rfl ?_
  rintro _ h1_1 K1_1 ⟨rfl, rfl⟩
  refine C.ifY 9 d40_4 (by decide) (by decide) (XT.i0_ne_t (show ¬ ((1 : Int32) = 0) from (by decide))) ?_
  refine C.iloadN 10 d40_9 rfl ?_
  refine C.iconst 11 (0 : Int32) d40_10 (by decide) ?_
  refine C.callS (b := h0.size) 14 [(.int (0 : Int32)), (.int (0 : Int32))] [] d40_11 (met_max l Z a0 hw EL hEL h0.size bk h0 (by omega) (by omega) 0 0 (by decide)) (by omega) (Or.inl (Nat.le_refl _)) (hw _ (List.mem_of_getElem? (i := 95) rfl)) (hw _ (List.mem_of_getElem? (i := 96) rfl)) (hw _ (List.mem_of_getElem? (i := 97) rfl)) (hw _ (List.mem_of_getElem? (i := 98) rfl)) (by decide) rfl (lenOf pd__II_rI rfl) (by decide) (W := 0) (Nat.le_of_eq rfl) (by decide) (by decide) (by decide) rfl ?_
  rintro _ h11_2 K11_2 ⟨rfl, rfl⟩
  refine C.istoreN 15 (L' := #[.val (.ref t), .val (.int x), .val (.int (0 : Int32)), .val (.int (Int32.ofNat xs.length))]) d40_14 rfl ?_
  refine C.iloadN 16 d40_15 rfl ?_
  refine C.aloadN 17 d40_16 rfl rfl ?_
  refine C.alen 18 d40_17 R rfl ?_
  refine C.callS (b := h0.size) 21 [(.int (Int32.ofNat xs.length)), (.int (Int32.ofNat xs.length))] [] d40_18 (met_minx l Z a0 hw EL hEL h0.size bk h0 (by omega) (by omega) _ _ (fun q => absurd q (by rw [Int32.lt_iff_toInt_lt]; omega))) (by omega) (Or.inl (Nat.le_refl _)) (hw _ (List.mem_of_getElem? (i := 99) rfl)) (hw _ (List.mem_of_getElem? (i := 100) rfl)) (hw _ (List.mem_of_getElem? (i := 97) rfl)) (hw _ (List.mem_of_getElem? (i := 101) rfl)) (by decide) rfl (lenOf pd__II_rI rfl) (by decide) (W := 0) (Nat.le_of_eq rfl) (by decide) (by decide) (by decide) rfl ?_
  rintro _ h18_4 K18_4 ⟨rfl, rfl⟩
  refine C.istoreN 22 (L' := #[.val (.ref t), .val (.int x), .val (.int (0 : Int32)), .val (.int (Int32.ofNat xs.length))]) d40_21 rfl ?_
  refine C.iloadN 23 d40_22 rfl ?_
  refine C.iloadN 24 d40_23 rfl ?_
  rcases Decidable.em ((0 : Int32) < (Int32.ofNat xs.length)) with h24 | h24
  · skip
    refine C.icY 29 d40_24 (by decide) (by decide) (XT.ii_lt_t h24) ?_
    refine C.aloadN 30 d40_29 rfl rfl ?_
    refine C.iloadN 31 d40_30 rfl ?_
    refine C.iloadN 32 d40_31 rfl ?_
    refine C.iloadN 33 d40_32 rfl ?_
    refine C.callS (b := h0.size) 36 [(.ref t), (.int x), (.int (0 : Int32)), (.int (Int32.ofNat xs.length))] [] d40_33 (met_ioc l Z a0 hw EL hEL h0.size bk h0 (by omega) (by omega) t x xs R) (by omega) (Or.inl (Nat.le_refl _)) (hw _ (List.mem_of_getElem? (i := 102) rfl)) (hw _ (List.mem_of_getElem? (i := 103) rfl)) (hw _ (List.mem_of_getElem? (i := 8) rfl)) (hw _ (List.mem_of_getElem? (i := 104) rfl)) (by decide) rfl (lenOf pd__ABIII_rI rfl) (by decide) (W := 0) (Nat.le_of_eq rfl) (by decide) (by decide) (by decide) rfl ?_
    rintro _ h33_5 K33_5 ⟨r, rfl, hr, rfl⟩
    refine C.retI rfl d40_36 (by decide) (by decide) (Or.inl (Nat.le_refl _)) ?_
    exact ⟨r, rfl, hr, rfl⟩
  · skip
    refine C.icN 27 d40_24 rfl (XT.ii_lt_f h24) ?_
    refine C.iconst 28 (-1 : Int32) d40_27 (by decide) ?_
    refine C.retI rfl d40_28 (by decide) (by decide) (Or.inl (Nat.le_refl _)) ?_
    exact ⟨_, rfl, ⟨fun q => absurd (by decide) q, fun q => by obtain ⟨j, hj, e⟩ := own_memget.mp q; exact absurd ((own_ofNat (show 0 < 2147483648 by decide) lx).2.mpr (by omega)) h24⟩, rfl⟩
theorem d41_0 : decode jdk_42_method_80_code 0 = .ok (.aload_n 0, 1) := by decide +kernel
theorem d41_1 : decode jdk_42_method_80_code 1 = .ok (.invokevirtual 492, 3) := by decide +kernel
theorem d41_4 : decode jdk_42_method_80_code 4 = .ok (.ifCond .eq 19, 3) := by decide +kernel
theorem d41_7 : decode jdk_42_method_80_code 7 = .ok (.aload_n 0, 1) := by decide +kernel
theorem d41_8 : decode jdk_42_method_80_code 8 = .ok (.getfield 9, 3) := by decide +kernel
theorem d41_11 : decode jdk_42_method_80_code 11 = .ok (.iload_n 1, 1) := by decide +kernel
theorem d41_12 : decode jdk_42_method_80_code 12 = .ok (.iload_n 2, 1) := by decide +kernel
theorem d41_13 : decode jdk_42_method_80_code 13 = .ok (.aload_n 0, 1) := by decide +kernel
theorem d41_14 : decode jdk_42_method_80_code 14 = .ok (.invokevirtual 505, 3) := by decide +kernel
theorem d41_17 : decode jdk_42_method_80_code 17 = .ok (.invokestatic 637, 3) := by decide +kernel
theorem d41_20 : decode jdk_42_method_80_code 20 = .ok (.goto 16, 3) := by decide +kernel
theorem d41_36 : decode jdk_42_method_80_code 36 = .ok (.ireturn, 1) := by decide +kernel
theorem ef_43 (m : MethodId) (x0 : Nat) (x1 : Int32) (x2 : Int32) : entryFrame m #[(.ref x0), (.int x1), (.int x2)] 3 = mkF m 0 #[.val (.ref x0), .val (.int x1), .val (.int x2)] [] := by first | (simp [entryFrame, mkF, argsToLocals, Value.category]; done) | rfl
set_option maxRecDepth 65536 in
set_option maxHeartbeats 40000000 in
theorem met_io2 (l : Launch) (Z : State) (a0 : Array Value) (hw : ∀ d ∈ tables_1, d.before a0 Z = true) (EL : List (String × Nat)) (hEL : EW Z a0 EL) (n0 bk : Nat) (h0 : Heap) (hz0 : Z.heap.size ≤ n0) (hn0 : n0 ≤ h0.size) (a : Nat) (ba : Nat) (cs : List Int32) (x : Int32) (z0 : Int32) (Sa : Str Z h0 ba a cs) (q0 : ¬ x < 0) (q : ¬ 255 < x) (SC : Sta Z Z.heap "java/lang/String" "COMPACT_STRINGS" "Z" (.int z0)) (hzc : ¬ z0 = 0) : Met l Z EL (⟨"java/lang/String", "indexOf", "(II)I"⟩ : MethodName) jdk_42_method_80_code 3 (some .int) [] ({ frames := 2, cells := 0, slots := 0, locals := 32 } : Room) #[(.ref a), (.int x), (.int (0 : Int32))] n0 bk h0 (fun _ => bk) (fun v h => ∃ r, v = some (.int r) ∧ (¬ r < 0 ↔ x ∈ cs) ∧ h0 = h) := by
  refine Met.intro (plainFor_of_name pn_1) (fun m => ef_43 m a x (0 : Int32)) hz0 hEL ?_
  intro hE0 p e s m below meth c C
  have Sa0 := Sa
  obtain ⟨t, f1, f2, f3, f4, f5, f6, f7⟩ := Sa
  refine C.aloadN 1 d41_0 rfl rfl ?_
  refine C.callV (b := h0.size) 4 [] [] d41_1 (met_isl l Z a0 hw EL hEL h0.size bk h0 (by omega) (by omega) a ba cs z0 Sa0 SC hzc) f3 (by omega) (Or.inl (Nat.le_refl _)) (hw _ (List.mem_of_getElem? (i := 74) rfl)) (hw _ (List.mem_of_getElem? (i := 75) rfl)) (hw _ (List.mem_of_getElem? (i := 77) rfl)) (hw _ (List.mem_of_getElem? (i := 76) rfl)) (hw _ (List.mem_of_getElem? (i := 3) rfl)) (hw _ (List.mem_of_getElem? (i := 78) rfl)) (fun hZ => notFace_of_selects (args := #[]) (mvT hZ (hw _ (List.mem_of_getElem? (i := 77) rfl)))) (by decide) rfl (lenOf pd___rZ rfl) (by decide) (W := 0) (Nat.le_of_eq rfl) (by decide) (by decide) (by decide) rfl ?_
  rintro _ h1_1 K1_1 ⟨rfl, rfl⟩
  refine C.ifN 7 d41_4 rfl (XT.i0_eq_f (show ¬ ((1 : Int32) = 0) from (by decide))) ?_
  refine C.aloadN 8 d41_7 rfl rfl ?_
  refine C.getf 11 d41_8 (hw _ (List.mem_of_getElem? (i := 23) rfl)) Via.refl f5 ?_
  refine C.iloadN 12 d41_11 rfl ?_
  refine C.iloadN 13 d41_12 rfl ?_
  refine C.aloadN 14 d41_13 rfl rfl ?_
  refine C.callV (b := h0.size) 17 [] [(.int (0 : Int32)), (.int x), (.ref t)] d41_14 (met_len l Z a0 hw EL hEL h0.size bk h0 (by omega) (by omega) a ba cs z0 Sa0 SC hzc) f3 (by omega) (Or.inl (Nat.le_refl _)) (hw _ (List.mem_of_getElem? (i := 79) rfl)) (hw _ (List.mem_of_getElem? (i := 80) rfl)) (hw _ (List.mem_of_getElem? (i := 82) rfl)) (hw _ (List.mem_of_getElem? (i := 81) rfl)) (hw _ (List.mem_of_getElem? (i := 3) rfl)) (hw _ (List.mem_of_getElem? (i := 83) rfl)) (fun hZ => notFace_of_selects (args := #[]) (mvT hZ (hw _ (List.mem_of_getElem? (i := 82) rfl)))) (by decide) rfl (lenOf pd___rI rfl) (by decide) (W := 3) (Nat.le_of_eq rfl) (by decide) (by decide) (by decide) rfl ?_
  rintro _ h14_3 K14_3 ⟨rfl, rfl⟩
  rw [show Int32.ofNat cs.length = Int32.ofNat (cs.map own_lo).length by rw [List.length_map]]
  refine C.callS (b := h0.size) 20 [(.ref t), (.int x), (.int (0 : Int32)), (.int (Int32.ofNat (cs.map own_lo).length))] [] d41_17 (met_lio l Z a0 hw EL hEL h0.size bk h0 (by omega) (by omega) t x (cs.map own_lo) f6 q0 q) (by omega) (Or.inl (Nat.le_refl _)) (hw _ (List.mem_of_getElem? (i := 89) rfl)) (hw _ (List.mem_of_getElem? (i := 90) rfl)) (hw _ (List.mem_of_getElem? (i := 8) rfl)) (hw _ (List.mem_of_getElem? (i := 91) rfl)) (by decide) rfl (lenOf pd__ABIII_rI rfl) (by decide) (W := 0) (Nat.le_of_eq rfl) (by decide) (by decide) (by decide) rfl ?_
  rintro _ h17_4 K17_4 ⟨r, rfl, hr, rfl⟩
  refine C.goto 36 d41_20 (by decide) (by decide) ?_
  refine C.retI rfl d41_36 (by decide) (by decide) (Or.inl (Nat.le_refl _)) ?_
  exact ⟨r, rfl, hr.trans (own_mem q0 q f7), rfl⟩
theorem d42_0 : decode jdk_42_method_79_code 0 = .ok (.aload_n 0, 1) := by decide +kernel
theorem d42_1 : decode jdk_42_method_79_code 1 = .ok (.iload_n 1, 1) := by decide +kernel
theorem d42_2 : decode jdk_42_method_79_code 2 = .ok (.iconst 0, 1) := by decide +kernel
theorem d42_3 : decode jdk_42_method_79_code 3 = .ok (.invokevirtual 633, 3) := by decide +kernel
theorem d42_6 : decode jdk_42_method_79_code 6 = .ok (.ireturn, 1) := by decide +kernel
theorem ef_44 (m : MethodId) (x0 : Nat) (x1 : Int32) : entryFrame m #[(.ref x0), (.int x1)] 2 = mkF m 0 #[.val (.ref x0), .val (.int x1)] [] := by first | (simp [entryFrame, mkF, argsToLocals, Value.category]; done) | rfl
set_option maxRecDepth 65536 in
set_option maxHeartbeats 40000000 in
theorem met_io1 (l : Launch) (Z : State) (a0 : Array Value) (hw : ∀ d ∈ tables_1, d.before a0 Z = true) (EL : List (String × Nat)) (hEL : EW Z a0 EL) (n0 bk : Nat) (h0 : Heap) (hz0 : Z.heap.size ≤ n0) (hn0 : n0 ≤ h0.size) (a : Nat) (ba : Nat) (cs : List Int32) (x : Int32) (z0 : Int32) (Sa : Str Z h0 ba a cs) (q0 : ¬ x < 0) (q : ¬ 255 < x) (SC : Sta Z Z.heap "java/lang/String" "COMPACT_STRINGS" "Z" (.int z0)) (hzc : ¬ z0 = 0) : Met l Z EL (⟨"java/lang/String", "indexOf", "(I)I"⟩ : MethodName) jdk_42_method_79_code 2 (some .int) [] ({ frames := 3, cells := 0, slots := 0, locals := 46 } : Room) #[(.ref a), (.int x)] n0 bk h0 (fun _ => bk) (fun v h => ∃ r, v = some (.int r) ∧ (¬ r < 0 ↔ x ∈ cs) ∧ h0 = h) := by
  refine Met.intro (plainFor_of_name pn_1) (fun m => ef_44 m a x) hz0 hEL ?_
  intro hE0 p e s m below meth c C
  have Xa := Sa.exa
  refine C.aloadN 1 d42_0 rfl rfl ?_
  refine C.iloadN 2 d42_1 rfl ?_
  refine C.iconst 3 (0 : Int32) d42_2 (by decide) ?_
  refine C.callV (b := h0.size) 6 [(.int x), (.int (0 : Int32))] [] d42_3 (met_io2 l Z a0 hw EL hEL h0.size bk h0 (by omega) (by omega) a ba cs x z0 Sa q0 q SC hzc) Xa (by omega) (Or.inl (Nat.le_refl _)) (hw _ (List.mem_of_getElem? (i := 69) rfl)) (hw _ (List.mem_of_getElem? (i := 70) rfl)) (hw _ (List.mem_of_getElem? (i := 72) rfl)) (hw _ (List.mem_of_getElem? (i := 71) rfl)) (hw _ (List.mem_of_getElem? (i := 3) rfl)) (hw _ (List.mem_of_getElem? (i := 73) rfl)) (fun hZ => notFace_of_selects (args := #[]) (mvT hZ (hw _ (List.mem_of_getElem? (i := 72) rfl)))) (by decide) rfl (lenOf pd__II_rI rfl) (by decide) (W := 0) (Nat.le_of_eq rfl) (by decide) (by decide) (by decide) rfl ?_
  rintro _ h3_1 K3_1 ⟨r, rfl, hr, rfl⟩
  refine C.retI rfl d42_6 (by decide) (by decide) (Or.inl (Nat.le_refl _)) ?_
  exact ⟨r, rfl, hr, rfl⟩
-- @@PART
theorem own_mulx : ∀ n, n < 3 → ¬ XT.cmpL (((4 : Int32).toInt64 * (Int32.ofNat n).toInt64).toInt32.toInt64) ((4 : Int32).toInt64 * (Int32.ofNat n).toInt64) ≠ 0 := by decide +kernel
theorem own_muly : ∀ n, n < 3 → ((4 : Int32).toInt64 * (Int32.ofNat n).toInt64).toInt32 = Int32.ofNat (4 * n) := by decide +kernel
theorem own_mulz : ∀ n, n < 3 → ((4 : Int32).toInt64 * (Int32.ofNat n).toInt64).toInt32.toInt64 = (4 : Int32).toInt64 * (Int32.ofNat n).toInt64 := by decide +kernel
theorem own_addx : ∀ n, n < 12 → ∀ k, k < 4 → ¬ ((Int32.ofNat n ^^^ (Int32.ofNat n + Int32.ofNat k)) &&& (Int32.ofNat k ^^^ (Int32.ofNat n + Int32.ofNat k))) < 0 := by decide +kernel
theorem own_rem3 : ∀ n, n < 8 → Int32.ofNat n % 3 = Int32.ofNat (n % 3) := by decide +kernel
theorem own_dv3 : ∀ n, n < 8 → Int32.ofNat n / 3 = Int32.ofNat (n / 3) := by decide +kernel
theorem own_olx : ∀ n, n < 8 → ∀ k, k < 4 → (n % 3 = 0 → k = 0) → (¬ n % 3 = 0 → k = n % 3 + 1) → 4 * (n / 3) + k = own_ol n := by decide +kernel
theorem e45_0 : decode jdk_29_method_28_code 0 = .ok (.iload_n 0, 1) := by decide +kernel
theorem e45_1 : decode jdk_29_method_28_code 1 = .ok (.i2l, 1) := by decide +kernel
theorem e45_2 : decode jdk_29_method_28_code 2 = .ok (.iload_n 1, 1) := by decide +kernel
theorem e45_3 : decode jdk_29_method_28_code 3 = .ok (.i2l, 1) := by decide +kernel
theorem e45_4 : decode jdk_29_method_28_code 4 = .ok (.lmul, 1) := by decide +kernel
theorem e45_5 : decode jdk_29_method_28_code 5 = .ok (.lstore_n 2, 1) := by decide +kernel
theorem e45_6 : decode jdk_29_method_28_code 6 = .ok (.lload_n 2, 1) := by decide +kernel
theorem e45_7 : decode jdk_29_method_28_code 7 = .ok (.l2i, 1) := by decide +kernel
theorem e45_8 : decode jdk_29_method_28_code 8 = .ok (.i2l, 1) := by decide +kernel
theorem e45_9 : decode jdk_29_method_28_code 9 = .ok (.lload_n 2, 1) := by decide +kernel
theorem e45_10 : decode jdk_29_method_28_code 10 = .ok (.lcmp, 1) := by decide +kernel
theorem e45_11 : decode jdk_29_method_28_code 11 = .ok (.ifCond .eq 13, 3) := by decide +kernel
theorem e45_24 : decode jdk_29_method_28_code 24 = .ok (.lload_n 2, 1) := by decide +kernel
theorem e45_25 : decode jdk_29_method_28_code 25 = .ok (.l2i, 1) := by decide +kernel
theorem e45_26 : decode jdk_29_method_28_code 26 = .ok (.ireturn, 1) := by decide +kernel
theorem ef_45 (m : MethodId) (x0 : Int32) (x1 : Int32) : entryFrame m #[(.int x0), (.int x1)] 4 = mkF m 0 #[.val (.int x0), .val (.int x1), .unset, .unset] [] := by first | (simp [entryFrame, mkF, argsToLocals, Value.category]; done) | rfl
set_option maxRecDepth 65536 in
set_option maxHeartbeats 40000000 in
theorem met_mul (l : Launch) (Z : State) (a0 : Array Value) (hw : ∀ d ∈ tables_1, d.before a0 Z = true) (h0 : Heap) (n : Nat) (hn : n < 3) : N.Met l Z h0 (⟨"java/lang/Math", "multiplyExact", "(II)I"⟩ : MethodName) jdk_29_method_28_code 4 (some .int) [] ({ frames := 0, cells := 0, slots := 0, locals := 0 } : Room) #[(.int (4 : Int32)), (.int (Int32.ofNat n))] (fun v => v = some (.int (Int32.ofNat (4 * n)))) := by
  refine N.Met.intro (by decide +kernel) (fun m => ef_45 m (4 : Int32) (Int32.ofNat n)) rfl rfl ?_
  intro p e s m below meth c C
  refine C.iloadN 1 e45_0 rfl ?_
  refine C.i2l 2 e45_1 ?_
  refine C.iloadN 3 e45_2 rfl ?_
  refine C.i2l 4 e45_3 ?_
  refine C.lmul 5 e45_4 ?_
  refine C.lstoreN 6 (L' := #[.val (.int (4 : Int32)), .val (.int (Int32.ofNat n)), .val (.long (((4 : Int32).toInt64) * ((Int32.ofNat n).toInt64))), .second]) e45_5 rfl ?_
  refine C.lloadN 7 e45_6 rfl ?_
  refine C.l2i 8 e45_7 ?_
  refine C.i2l 9 e45_8 ?_
  refine C.lloadN 10 e45_9 rfl ?_
  refine C.lcmp 11 e45_10 ?_
  refine C.ifY 24 e45_11 (by decide) (by decide) (XT.ll_eq_t (show (((((4 : Int32).toInt64) * ((Int32.ofNat n).toInt64)).toInt32).toInt64) = (((4 : Int32).toInt64) * ((Int32.ofNat n).toInt64)) from (own_mulz n hn))) ?_
  refine C.lloadN 25 e45_24 rfl ?_
  refine C.l2i 26 e45_25 ?_
  refine C.retI rfl e45_26 ?_
  exact (by rw [own_muly n hn])
theorem e46_0 : decode jdk_29_method_24_code 0 = .ok (.iload_n 0, 1) := by decide +kernel
theorem e46_1 : decode jdk_29_method_24_code 1 = .ok (.iload_n 1, 1) := by decide +kernel
theorem e46_2 : decode jdk_29_method_24_code 2 = .ok (.iadd, 1) := by decide +kernel
theorem e46_3 : decode jdk_29_method_24_code 3 = .ok (.istore_n 2, 1) := by decide +kernel
theorem e46_4 : decode jdk_29_method_24_code 4 = .ok (.iload_n 0, 1) := by decide +kernel
theorem e46_5 : decode jdk_29_method_24_code 5 = .ok (.iload_n 2, 1) := by decide +kernel
theorem e46_6 : decode jdk_29_method_24_code 6 = .ok (.ixor, 1) := by decide +kernel
theorem e46_7 : decode jdk_29_method_24_code 7 = .ok (.iload_n 1, 1) := by decide +kernel
theorem e46_8 : decode jdk_29_method_24_code 8 = .ok (.iload_n 2, 1) := by decide +kernel
theorem e46_9 : decode jdk_29_method_24_code 9 = .ok (.ixor, 1) := by decide +kernel
theorem e46_10 : decode jdk_29_method_24_code 10 = .ok (.iand, 1) := by decide +kernel
theorem e46_11 : decode jdk_29_method_24_code 11 = .ok (.ifCond .ge 13, 3) := by decide +kernel
theorem e46_24 : decode jdk_29_method_24_code 24 = .ok (.iload_n 2, 1) := by decide +kernel
theorem e46_25 : decode jdk_29_method_24_code 25 = .ok (.ireturn, 1) := by decide +kernel
theorem ef_46 (m : MethodId) (x0 : Int32) (x1 : Int32) : entryFrame m #[(.int x0), (.int x1)] 3 = mkF m 0 #[.val (.int x0), .val (.int x1), .unset] [] := by first | (simp [entryFrame, mkF, argsToLocals, Value.category]; done) | rfl
set_option maxRecDepth 65536 in
set_option maxHeartbeats 40000000 in
theorem met_add (l : Launch) (Z : State) (a0 : Array Value) (hw : ∀ d ∈ tables_1, d.before a0 Z = true) (h0 : Heap) (n : Nat) (k : Nat) (hn : n < 12) (hk : k < 4) : N.Met l Z h0 (⟨"java/lang/Math", "addExact", "(II)I"⟩ : MethodName) jdk_29_method_24_code 3 (some .int) [] ({ frames := 0, cells := 0, slots := 0, locals := 0 } : Room) #[(.int (Int32.ofNat n)), (.int (Int32.ofNat k))] (fun v => v = some (.int (Int32.ofNat (n + k)))) := by
  refine N.Met.intro (by decide +kernel) (fun m => ef_46 m (Int32.ofNat n) (Int32.ofNat k)) rfl rfl ?_
  intro p e s m below meth c C
  refine C.iloadN 1 e46_0 rfl ?_
  refine C.iloadN 2 e46_1 rfl ?_
  refine C.iadd 3 e46_2 ?_
  refine C.istoreN 4 (L' := #[.val (.int (Int32.ofNat n)), .val (.int (Int32.ofNat k)), .val (.int ((Int32.ofNat n) + (Int32.ofNat k)))]) e46_3 rfl ?_
  refine C.iloadN 5 e46_4 rfl ?_
  refine C.iloadN 6 e46_5 rfl ?_
  refine C.ixor 7 e46_6 ?_
  refine C.iloadN 8 e46_7 rfl ?_
  refine C.iloadN 9 e46_8 rfl ?_
  refine C.ixor 10 e46_9 ?_
  refine C.iand 11 e46_10 ?_
  refine C.ifY 24 e46_11 (by decide) (by decide) (XT.i0_ge_t (show ¬ ((((Int32.ofNat n) ^^^ ((Int32.ofNat n) + (Int32.ofNat k))) &&& ((Int32.ofNat k) ^^^ ((Int32.ofNat n) + (Int32.ofNat k)))) < 0) from (own_addx n hn k hk))) ?_
  refine C.iloadN 25 e46_24 rfl ?_
  refine C.retI rfl e46_25 ?_
  exact (by rw [Int32.ofNat_add])
theorem pn_7 : plainName "java/util/Base64$Encoder" = true := by first | (simp [plainName, overriddenIn]; done) | decide +kernel
theorem e47_0 : decode jdk_2452_method_2_code 0 = .ok (.iconst 0, 1) := by decide +kernel
theorem e47_1 : decode jdk_2452_method_2_code 1 = .ok (.istore_n 3, 1) := by decide +kernel
theorem e47_2 : decode jdk_2452_method_2_code 2 = .ok (.aload_n 0, 1) := by decide +kernel
theorem e47_3 : decode jdk_2452_method_2_code 3 = .ok (.getfield 21, 3) := by decide +kernel
theorem e47_6 : decode jdk_2452_method_2_code 6 = .ok (.ifCond .eq 18, 3) := by decide +kernel
theorem e47_24 : decode jdk_2452_method_2_code 24 = .ok (.iload_n 1, 1) := by decide +kernel
theorem e47_25 : decode jdk_2452_method_2_code 25 = .ok (.iconst 3, 1) := by decide +kernel
theorem e47_26 : decode jdk_2452_method_2_code 26 = .ok (.irem, 1) := by decide +kernel
theorem e47_27 : decode jdk_2452_method_2_code 27 = .ok (.istore 4, 2) := by decide +kernel
theorem e47_29 : decode jdk_2452_method_2_code 29 = .ok (.iconst 4, 1) := by decide +kernel
theorem e47_30 : decode jdk_2452_method_2_code 30 = .ok (.iload_n 1, 1) := by decide +kernel
theorem e47_31 : decode jdk_2452_method_2_code 31 = .ok (.iconst 3, 1) := by decide +kernel
theorem e47_32 : decode jdk_2452_method_2_code 32 = .ok (.idiv, 1) := by decide +kernel
theorem e47_33 : decode jdk_2452_method_2_code 33 = .ok (.invokestatic 30, 3) := by decide +kernel
theorem e47_36 : decode jdk_2452_method_2_code 36 = .ok (.iload 4, 2) := by decide +kernel
theorem e47_38 : decode jdk_2452_method_2_code 38 = .ok (.ifCond .ne 7, 3) := by decide +kernel
theorem e47_41 : decode jdk_2452_method_2_code 41 = .ok (.iconst 0, 1) := by decide +kernel
theorem e47_42 : decode jdk_2452_method_2_code 42 = .ok (.goto 7, 3) := by decide +kernel
theorem e47_45 : decode jdk_2452_method_2_code 45 = .ok (.iload 4, 2) := by decide +kernel
theorem e47_47 : decode jdk_2452_method_2_code 47 = .ok (.iconst 1, 1) := by decide +kernel
theorem e47_48 : decode jdk_2452_method_2_code 48 = .ok (.iadd, 1) := by decide +kernel
theorem e47_49 : decode jdk_2452_method_2_code 49 = .ok (.invokestatic 24, 3) := by decide +kernel
theorem e47_52 : decode jdk_2452_method_2_code 52 = .ok (.istore_n 3, 1) := by decide +kernel
theorem e47_53 : decode jdk_2452_method_2_code 53 = .ok (.aload_n 0, 1) := by decide +kernel
theorem e47_54 : decode jdk_2452_method_2_code 54 = .ok (.getfield 17, 3) := by decide +kernel
theorem e47_57 : decode jdk_2452_method_2_code 57 = .ok (.ifCond .le 22, 3) := by decide +kernel
theorem e47_79 : decode jdk_2452_method_2_code 79 = .ok (.goto 21, 3) := by decide +kernel
theorem e47_100 : decode jdk_2452_method_2_code 100 = .ok (.iload_n 3, 1) := by decide +kernel
theorem e47_101 : decode jdk_2452_method_2_code 101 = .ok (.ireturn, 1) := by decide +kernel
theorem ef_47 (m : MethodId) (x0 : Nat) (x1 : Int32) (x2 : Int32) : entryFrame m #[(.ref x0), (.int x1), (.int x2)] 5 = mkF m 0 #[.val (.ref x0), .val (.int x1), .val (.int x2), .unset, .unset] [] := by first | (simp [entryFrame, mkF, argsToLocals, Value.category]; done) | rfl
set_option maxRecDepth 65536 in
set_option maxHeartbeats 40000000 in
theorem met_eol (l : Launch) (Z : State) (a0 : Array Value) (hw : ∀ d ∈ tables_1, d.before a0 Z = true) (h0 : Heap) (en : Nat) (n : Nat) (x2 : Int32) (FD : Fld Z h0 en "java/util/Base64$Encoder" "doPadding" "Z" (.int (0 : Int32))) (FL : Fld Z h0 en "java/util/Base64$Encoder" "linemax" "I" (.int (-1 : Int32))) (hn : n < 8) : N.MetW l Z h0 (⟨"java/util/Base64$Encoder", "encodedOutLength", "(IZ)I"⟩ : MethodName) jdk_2452_method_2_code 5 (some .int) [(2, 79, 82, 33)] ({ frames := 1, cells := 0, slots := 0, locals := 20 } : Room) #[(.ref en), (.int (Int32.ofNat n)), (.int x2)] (fun v => v = some (.int (Int32.ofNat (own_ol n)))) := by
  refine N.MetW.intro (plainFor_of_name pn_7) (fun m => ef_47 m en (Int32.ofNat n) x2) rfl rfl ?_
  intro p e s m below meth c C
  refine C.iconst 1 (0 : Int32) e47_0 (by decide) ?_
  refine C.istoreN 2 (L' := #[.val (.ref en), .val (.int (Int32.ofNat n)), .val (.int x2), .val (.int (0 : Int32)), .unset]) e47_1 rfl ?_
  refine C.aloadN 3 e47_2 rfl rfl ?_
  refine C.getf (a0 := a0) 6 e47_3 (hw _ (List.mem_of_getElem? (i := 276) rfl)) Via.refl FD ?_
  refine C.ifY 24 e47_6 (by decide) (by decide) (XT.i0_eq_t (show (0 : Int32) = 0 from rfl)) ?_
  refine C.iloadN 25 e47_24 rfl ?_
  refine C.iconst 26 (3 : Int32) e47_25 (by decide) ?_
  refine C.irem 27 e47_26 (by decide) ?_
  rw [own_rem3 n hn]
  refine C.istore 29 (L' := #[.val (.ref en), .val (.int (Int32.ofNat n)), .val (.int x2), .val (.int (0 : Int32)), .val (.int (Int32.ofNat (n % 3)))]) e47_27 rfl ?_
  refine C.iconst 30 (4 : Int32) e47_29 (by decide) ?_
  refine C.iloadN 31 e47_30 rfl ?_
  refine C.iconst 32 (3 : Int32) e47_31 (by decide) ?_
  refine C.idiv 33 e47_32 (by decide) ?_
  rw [own_dv3 n hn]
  refine C.call (a0 := a0) 36 [(.int (4 : Int32)), (.int (Int32.ofNat (n / 3)))] [] e47_33 (met_mul l Z a0 hw h0 (n / 3) (by omega)) (hw _ (List.mem_of_getElem? (i := 278) rfl)) (hw _ (List.mem_of_getElem? (i := 279) rfl)) (hw _ (List.mem_of_getElem? (i := 97) rfl)) (hw _ (List.mem_of_getElem? (i := 280) rfl)) (by decide) rfl (lenOf pd__II_rI rfl) (by decide) (W := 0) (Nat.le_of_eq rfl) (by decide) rfl rfl rfl ?_
  rintro _ rfl
  refine C.iload 38 e47_36 rfl ?_
  rcases Decidable.em ((Int32.ofNat (n % 3)) = 0) with h38 | h38
  · skip
    refine C.ifN 41 e47_38 rfl (XT.i0_ne_f h38) ?_
    have h3 : n % 3 = 0 := (own_ofNat (by omega) (show 0 < 2147483648 by decide)).1.mp h38
    refine C.iconst 42 (0 : Int32) e47_41 (by decide) ?_
    refine C.goto 49 e47_42 (by decide) (by decide) ?_
    refine C.call (a0 := a0) 52 [(.int (Int32.ofNat (4 * (n / 3)))), (.int (0 : Int32))] [] e47_49 (met_add l Z a0 hw h0 (4 * (n / 3)) 0 (by omega) (by omega)) (hw _ (List.mem_of_getElem? (i := 281) rfl)) (hw _ (List.mem_of_getElem? (i := 282) rfl)) (hw _ (List.mem_of_getElem? (i := 97) rfl)) (hw _ (List.mem_of_getElem? (i := 283) rfl)) (by decide) rfl (lenOf pd__II_rI rfl) (by decide) (W := 0) (Nat.le_of_eq rfl) (by decide) rfl rfl rfl ?_
    rintro _ rfl
    refine C.istoreN 53 (L' := #[.val (.ref en), .val (.int (Int32.ofNat n)), .val (.int x2), .val (.int (Int32.ofNat (4 * (n / 3) + 0))), .val (.int (Int32.ofNat (n % 3)))]) e47_52 rfl ?_
    refine C.aloadN 54 e47_53 rfl rfl ?_
    refine C.getf (a0 := a0) 57 e47_54 (hw _ (List.mem_of_getElem? (i := 284) rfl)) Via.refl FL ?_
    refine C.ifY 79 e47_57 (by decide) (by decide) (XT.i0_le_t (show ¬ (0 < (-1 : Int32)) from (by decide))) ?_
    refine C.goto 100 e47_79 (by decide) (by decide) ?_
    refine C.iloadN 101 e47_100 rfl ?_
    refine C.retI rfl e47_101 ?_
    exact (by rw [show 4 * (n / 3) + 0 = own_ol n from own_olx n hn _ (by omega) (fun _ => rfl) (fun q => absurd h3 q)])
  · skip
    refine C.ifY 45 e47_38 (by decide) (by decide) (XT.i0_ne_t h38) ?_
    have h3 : ¬ n % 3 = 0 := fun q => h38 (by rw [q]; rfl)
    refine C.iload 47 e47_45 rfl ?_
    refine C.iconst 48 (1 : Int32) e47_47 (by decide) ?_
    refine C.iadd 49 e47_48 ?_
    rw [own_succ]
    refine C.call (a0 := a0) 52 [(.int (Int32.ofNat (4 * (n / 3)))), (.int (Int32.ofNat (n % 3 + 1)))] [] e47_49 (met_add l Z a0 hw h0 (4 * (n / 3)) (n % 3 + 1) (by omega) (by omega)) (hw _ (List.mem_of_getElem? (i := 281) rfl)) (hw _ (List.mem_of_getElem? (i := 282) rfl)) (hw _ (List.mem_of_getElem? (i := 97) rfl)) (hw _ (List.mem_of_getElem? (i := 283) rfl)) (by decide) rfl (lenOf pd__II_rI rfl) (by decide) (W := 0) (Nat.le_of_eq rfl) (by decide) rfl rfl rfl ?_
    rintro _ rfl
    refine C.istoreN 53 (L' := #[.val (.ref en), .val (.int (Int32.ofNat n)), .val (.int x2), .val (.int (Int32.ofNat (4 * (n / 3) + (n % 3 + 1)))), .val (.int (Int32.ofNat (n % 3)))]) e47_52 rfl ?_
    refine C.aloadN 54 e47_53 rfl rfl ?_
    refine C.getf (a0 := a0) 57 e47_54 (hw _ (List.mem_of_getElem? (i := 284) rfl)) Via.refl FL ?_
    refine C.ifY 79 e47_57 (by decide) (by decide) (XT.i0_le_t (show ¬ (0 < (-1 : Int32)) from (by decide))) ?_
    refine C.goto 100 e47_79 (by decide) (by decide) ?_
    refine C.iloadN 101 e47_100 rfl ?_
    refine C.retI rfl e47_101 ?_
    exact (by rw [show 4 * (n / 3) + (n % 3 + 1) = own_ol n from own_olx n hn _ (by omega) (fun _ => by omega) (fun q => rfl)])
theorem own_setc {cap : Nat} {ys : List Int32} {x : Int32} (h : ys.length < cap) : (ys ++ List.replicate (cap - ys.length) 0).set ys.length x = (ys ++ [x]) ++ List.replicate (cap - (ys ++ [x]).length) 0 := by
  rw [show cap - ys.length = (cap - (ys ++ [x]).length) + 1 by simp; omega, List.replicate_succ, List.set_append]
  simp
theorem own_padl {cap : Nat} {ys : List Int32} (h : ys.length ≤ cap) : (ys ++ List.replicate (cap - ys.length) (0 : Int32)).length = cap := by simp; omega
/-- ints of numbers -/
abbrev own_is (bs : List Nat) : List Int32 := bs.map Int32.ofNat
theorem own_isl (bs : List Nat) : (own_is bs).length = bs.length := List.length_map _
def own_pad (cap : Nat) (ys : List Int32) : List Int32 := ys ++ List.replicate (cap - ys.length) 0
theorem own_padset {cap : Nat} {ys : List Int32} {x : Int32} {i : Nat} (hi : i = ys.length) (h : i < cap) : (own_pad cap ys).set i x = own_pad cap (ys ++ [x]) := by subst hi; exact own_setc h
theorem own_padlen {cap : Nat} {ys : List Int32} (h : ys.length ≤ cap) : (own_pad cap ys).length = cap := own_padl h
theorem own_padget {cap : Nat} {ys : List Int32} {i : Nat} {x : Int32} (h : ys[i]? = some x) : (own_pad cap ys)[i]? = some x := by
  unfold own_pad; rw [List.getElem?_append_left (List.getElem?_eq_some_iff.mp h).1]; exact h
theorem own_padfull {cap : Nat} {ys : List Int32} (h : ys.length = cap) : own_pad cap ys = ys := by unfold own_pad; rw [h, Nat.sub_self]; simp
theorem own_pad0 (cap : Nat) : List.replicate cap (0 : Int32) = own_pad cap [] := rfl
theorem own_isget {bs : List Nat} {i x : Nat} (h : bs[i]? = some x) : (own_is bs)[i]? = some (Int32.ofNat x) := by rw [own_is, List.getElem?_map, h]; rfl
theorem own_isa (bs cs : List Nat) : own_is (bs ++ cs) = own_is bs ++ own_is cs := List.map_append
theorem own_fiti (x : Int32) : fits .int (.int x) = true := rfl
theorem pn_8 : plainName "com/example/edgewise/edgewise/CursorEncodePinLaw" = true := by first | (simp [plainName, overriddenIn]; done) | decide +kernel
theorem d43_0 : decode method_4_code 0 = .ok (.iload_n 2, 1) := by decide +kernel
theorem d43_1 : decode method_4_code 1 = .ok (.sipush 128, 3) := by decide +kernel
theorem d43_4 : decode method_4_code 4 = .ok (.if_icmp .ge 11, 3) := by decide +kernel
theorem d43_7 : decode method_4_code 7 = .ok (.aload_n 0, 1) := by decide +kernel
theorem d43_8 : decode method_4_code 8 = .ok (.iload_n 1, 1) := by decide +kernel
theorem d43_9 : decode method_4_code 9 = .ok (.iload_n 2, 1) := by decide +kernel
theorem d43_10 : decode method_4_code 10 = .ok (.iastore, 1) := by decide +kernel
theorem d43_11 : decode method_4_code 11 = .ok (.iload_n 1, 1) := by decide +kernel
theorem d43_12 : decode method_4_code 12 = .ok (.iconst 1, 1) := by decide +kernel
theorem d43_13 : decode method_4_code 13 = .ok (.iadd, 1) := by decide +kernel
theorem d43_14 : decode method_4_code 14 = .ok (.ireturn, 1) := by decide +kernel
theorem d43_15 : decode method_4_code 15 = .ok (.aload_n 0, 1) := by decide +kernel
theorem d43_16 : decode method_4_code 16 = .ok (.iload_n 1, 1) := by decide +kernel
theorem d43_17 : decode method_4_code 17 = .ok (.sipush 192, 3) := by decide +kernel
theorem d43_20 : decode method_4_code 20 = .ok (.iload_n 2, 1) := by decide +kernel
theorem d43_21 : decode method_4_code 21 = .ok (.bipush 6, 2) := by decide +kernel
theorem d43_23 : decode method_4_code 23 = .ok (.ishr, 1) := by decide +kernel
theorem d43_24 : decode method_4_code 24 = .ok (.ior, 1) := by decide +kernel
theorem d43_25 : decode method_4_code 25 = .ok (.iastore, 1) := by decide +kernel
theorem d43_26 : decode method_4_code 26 = .ok (.aload_n 0, 1) := by decide +kernel
theorem d43_27 : decode method_4_code 27 = .ok (.iload_n 1, 1) := by decide +kernel
theorem d43_28 : decode method_4_code 28 = .ok (.iconst 1, 1) := by decide +kernel
theorem d43_29 : decode method_4_code 29 = .ok (.iadd, 1) := by decide +kernel
theorem d43_30 : decode method_4_code 30 = .ok (.sipush 128, 3) := by decide +kernel
theorem d43_33 : decode method_4_code 33 = .ok (.iload_n 2, 1) := by decide +kernel
theorem d43_34 : decode method_4_code 34 = .ok (.bipush 63, 2) := by decide +kernel
theorem d43_36 : decode method_4_code 36 = .ok (.iand, 1) := by decide +kernel
theorem d43_37 : decode method_4_code 37 = .ok (.ior, 1) := by decide +kernel
theorem d43_38 : decode method_4_code 38 = .ok (.iastore, 1) := by decide +kernel
theorem d43_39 : decode method_4_code 39 = .ok (.iload_n 1, 1) := by decide +kernel
theorem d43_40 : decode method_4_code 40 = .ok (.iconst 2, 1) := by decide +kernel
theorem d43_41 : decode method_4_code 41 = .ok (.iadd, 1) := by decide +kernel
theorem d43_42 : decode method_4_code 42 = .ok (.ireturn, 1) := by decide +kernel
theorem ef_48 (m : MethodId) (x0 : Nat) (x1 : Int32) (x2 : Int32) : entryFrame m #[(.ref x0), (.int x1), (.int x2)] 3 = mkF m 0 #[.val (.ref x0), .val (.int x1), .val (.int x2)] [] := by first | (simp [entryFrame, mkF, argsToLocals, Value.category]; done) | rfl
set_option maxRecDepth 65536 in
set_option maxHeartbeats 40000000 in
theorem met_put (l : Launch) (Z : State) (a0 : Array Value) (hw : ∀ d ∈ tables_1, d.before a0 Z = true) (EL : List (String × Nat)) (hEL : EW Z a0 EL) (n0 bk : Nat) (h0 : Heap) (hz0 : Z.heap.size ≤ n0) (hn0 : n0 ≤ h0.size) (o : Nat) (bs : List Nat) (k : Nat) (R : Ar Z h0 o .int (own_pad 7 (own_is bs))) (hl : bs.length ≤ 5) (hk : k < 256) (hno : n0 ≤ o) : Met l Z EL (⟨"com/example/edgewise/edgewise/CursorEncodePinLaw", "put", "([IIC)I"⟩ : MethodName) method_4_code 3 (some .int) [] ({ frames := 0, cells := 0, slots := 0, locals := 0 } : Room) #[(.ref o), (.int (Int32.ofNat bs.length)), (.int (Int32.ofNat k))] n0 bk h0 (fun _ => bk) (fun v h => v = some (.int (Int32.ofNat (bs ++ own_u8 k).length)) ∧ Ar Z h o .int (own_pad 7 (own_is (bs ++ own_u8 k))) ∧ OKp (fun x => x ≠ o) h0 h) := by
  refine Met.intro (plainFor_of_name pn_8) (fun m => ef_48 m o (Int32.ofNat bs.length) (Int32.ofNat k)) hz0 hEL ?_
  intro hE0 p e s m below meth c C
  have il := own_isl bs
  have pl : (own_pad 7 (own_is bs)).length = 7 := own_padlen (by omega)
  refine C.iloadN 1 d43_0 rfl ?_
  refine C.sipush 4 (128 : Int32) d43_1 (by decide) ?_
  rcases Decidable.em ((Int32.ofNat k) < (128 : Int32)) with h4 | h4
  · skip
    refine C.icN 7 d43_4 rfl (XT.ii_ge_f h4) ?_
    have hlt : k < 128 := (own_ofNat (by omega) (show 128 < 2147483648 by decide)).2.mp h4
    refine C.aloadN 8 d43_7 rfl rfl ?_
    refine C.iloadN 9 d43_8 rfl ?_
    refine C.iloadN 10 d43_9 rfl ?_
    refine C.iastore 11 bs.length d43_10 R rfl (by omega) (own_fiti _) (by omega) (Or.inr (Or.inr ⟨_, _, R, by decide⟩)) ?_
    intro h1 W1 N1
    have sz_h1 : h0.size ≤ h1.size := (Nat.le_of_eq W1.size.symm)
    replace R : Ar Z h1 o .int (own_pad 7 (own_is bs ++ [Int32.ofNat k])) := (by have q := N1; rw [own_padset il.symm (by omega)] at q; exact q)
    refine C.iloadN 12 d43_11 rfl ?_
    refine C.iconst 13 (1 : Int32) d43_12 (by decide) ?_
    refine C.iadd 14 d43_13 ?_
    rw [own_succ]
    refine C.retI rfl d43_14 (by decide) (by decide) (Or.inl (Nat.le_refl _)) ?_
    exact ⟨by rw [own_u8, if_pos hlt, List.length_append]; rfl, by rw [own_u8, if_pos hlt, own_isa]; exact R, OKp.ofWr W1⟩
  · skip
    refine C.icY 15 d43_4 (by decide) (by decide) (XT.ii_ge_t h4) ?_
    have hlt : ¬ k < 128 := fun q => h4 ((own_ofNat (by omega) (show 128 < 2147483648 by decide)).2.mpr q)
    refine C.aloadN 16 d43_15 rfl rfl ?_
    refine C.iloadN 17 d43_16 rfl ?_
    refine C.sipush 20 (192 : Int32) d43_17 (by decide) ?_
    refine C.iloadN 21 d43_20 rfl ?_
    refine C.bipush 23 (6 : Int32) d43_21 (by decide) ?_
    refine C.ishr 24 d43_23 ?_
    refine C.ior 25 d43_24 ?_
    rw [own_f1 k hk hlt]
    refine C.iastore 26 bs.length d43_25 R rfl (by omega) (own_fiti _) (by omega) (Or.inr (Or.inr ⟨_, _, R, by decide⟩)) ?_
    intro h2 W2 N2
    have sz_h2 : h0.size ≤ h2.size := (Nat.le_of_eq W2.size.symm)
    replace R : Ar Z h2 o .int (own_pad 7 (own_is bs ++ [Int32.ofNat (192 + k / 64)])) := (by have q := N2; rw [own_padset il.symm (by omega)] at q; exact q)
    refine C.aloadN 27 d43_26 rfl rfl ?_
    refine C.iloadN 28 d43_27 rfl ?_
    refine C.iconst 29 (1 : Int32) d43_28 (by decide) ?_
    refine C.iadd 30 d43_29 ?_
    refine C.sipush 33 (128 : Int32) d43_30 (by decide) ?_
    refine C.iloadN 34 d43_33 rfl ?_
    refine C.bipush 36 (63 : Int32) d43_34 (by decide) ?_
    refine C.iand 37 d43_36 ?_
    refine C.ior 38 d43_37 ?_
    rw [own_f2 k hk]
    refine C.iastore 39 (bs.length + 1) d43_38 R (own_succ _) (by rw [own_padlen (by simp; omega)]; omega) (own_fiti _) (by omega) (Or.inr (Or.inr ⟨_, _, R, by decide⟩)) ?_
    intro h3 W3 N3
    have sz_h3 : h2.size ≤ h3.size := (Nat.le_of_eq W3.size.symm)
    replace R : Ar Z h3 o .int (own_pad 7 ((own_is bs ++ [Int32.ofNat (192 + k / 64)]) ++ [Int32.ofNat (128 + k % 64)])) := (by have q := N3; rw [own_padset (by simp) (by omega)] at q; exact q)
    refine C.iloadN 40 d43_39 rfl ?_
    refine C.iconst 41 (2 : Int32) d43_40 (by decide) ?_
    refine C.iadd 42 d43_41 ?_
    refine C.retI rfl d43_42 (by decide) (by decide) (Or.inl (Nat.le_refl _)) ?_
    refine ⟨?_, ?_, (OKp.ofWr W2).trans (OKp.ofWr W3)⟩
    · rw [own_u8, if_neg hlt, List.length_append]; exact congrArg (fun z => some (Value.int z)) (Int32.ofNat_add _ _).symm
    · rw [own_u8, if_neg hlt, own_isa]; rw [List.append_assoc] at R; exact R
theorem d44_0 : decode method_6_code 0 = .ok (.iload_n 0, 1) := by decide +kernel
theorem d44_1 : decode method_6_code 1 = .ok (.bipush 26, 2) := by decide +kernel
theorem d44_3 : decode method_6_code 3 = .ok (.if_icmp .ge 9, 3) := by decide +kernel
theorem d44_6 : decode method_6_code 6 = .ok (.bipush 65, 2) := by decide +kernel
theorem d44_8 : decode method_6_code 8 = .ok (.iload_n 0, 1) := by decide +kernel
theorem d44_9 : decode method_6_code 9 = .ok (.iadd, 1) := by decide +kernel
theorem d44_10 : decode method_6_code 10 = .ok (.i2c, 1) := by decide +kernel
theorem d44_11 : decode method_6_code 11 = .ok (.ireturn, 1) := by decide +kernel
theorem d44_12 : decode method_6_code 12 = .ok (.iload_n 0, 1) := by decide +kernel
theorem d44_13 : decode method_6_code 13 = .ok (.bipush 52, 2) := by decide +kernel
theorem d44_15 : decode method_6_code 15 = .ok (.if_icmp .ge 12, 3) := by decide +kernel
theorem d44_18 : decode method_6_code 18 = .ok (.bipush 97, 2) := by decide +kernel
theorem d44_20 : decode method_6_code 20 = .ok (.iload_n 0, 1) := by decide +kernel
theorem d44_21 : decode method_6_code 21 = .ok (.iadd, 1) := by decide +kernel
theorem d44_22 : decode method_6_code 22 = .ok (.bipush 26, 2) := by decide +kernel
theorem d44_24 : decode method_6_code 24 = .ok (.isub, 1) := by decide +kernel
theorem d44_25 : decode method_6_code 25 = .ok (.i2c, 1) := by decide +kernel
theorem d44_26 : decode method_6_code 26 = .ok (.ireturn, 1) := by decide +kernel
theorem d44_27 : decode method_6_code 27 = .ok (.iload_n 0, 1) := by decide +kernel
theorem d44_28 : decode method_6_code 28 = .ok (.bipush 62, 2) := by decide +kernel
theorem d44_30 : decode method_6_code 30 = .ok (.if_icmp .ge 12, 3) := by decide +kernel
theorem d44_33 : decode method_6_code 33 = .ok (.bipush 48, 2) := by decide +kernel
theorem d44_35 : decode method_6_code 35 = .ok (.iload_n 0, 1) := by decide +kernel
theorem d44_36 : decode method_6_code 36 = .ok (.iadd, 1) := by decide +kernel
theorem d44_37 : decode method_6_code 37 = .ok (.bipush 52, 2) := by decide +kernel
theorem d44_39 : decode method_6_code 39 = .ok (.isub, 1) := by decide +kernel
theorem d44_40 : decode method_6_code 40 = .ok (.i2c, 1) := by decide +kernel
theorem d44_41 : decode method_6_code 41 = .ok (.ireturn, 1) := by decide +kernel
theorem d44_42 : decode method_6_code 42 = .ok (.iload_n 0, 1) := by decide +kernel
theorem d44_43 : decode method_6_code 43 = .ok (.bipush 62, 2) := by decide +kernel
theorem d44_45 : decode method_6_code 45 = .ok (.if_icmp .ne 6, 3) := by decide +kernel
theorem d44_48 : decode method_6_code 48 = .ok (.bipush 45, 2) := by decide +kernel
theorem d44_50 : decode method_6_code 50 = .ok (.ireturn, 1) := by decide +kernel
theorem d44_51 : decode method_6_code 51 = .ok (.bipush 95, 2) := by decide +kernel
theorem d44_53 : decode method_6_code 53 = .ok (.ireturn, 1) := by decide +kernel
theorem ef_49 (m : MethodId) (x0 : Int32) : entryFrame m #[(.int x0)] 1 = mkF m 0 #[.val (.int x0)] [] := by first | (simp [entryFrame, mkF, argsToLocals, Value.category]; done) | rfl
set_option maxRecDepth 65536 in
set_option maxHeartbeats 40000000 in
theorem met_alp (l : Launch) (Z : State) (a0 : Array Value) (hw : ∀ d ∈ tables_1, d.before a0 Z = true) (EL : List (String × Nat)) (hEL : EW Z a0 EL) (n0 bk : Nat) (h0 : Heap) (hz0 : Z.heap.size ≤ n0) (hn0 : n0 ≤ h0.size) (k : Nat) (hk : k < 64) : Met l Z EL (⟨"com/example/edgewise/edgewise/CursorEncodePinLaw", "alpha", "(I)C"⟩ : MethodName) method_6_code 1 (some .char) [] ({ frames := 0, cells := 0, slots := 0, locals := 0 } : Room) #[(.int (Int32.ofNat k))] n0 bk h0 (fun _ => bk) (fun v h => v = some (.int (own_al k)) ∧ h0 = h) := by
  refine Met.intro (plainFor_of_name pn_8) (fun m => ef_49 m (Int32.ofNat k)) hz0 hEL ?_
  intro hE0 p e s m below meth c C
  refine C.iloadN 1 d44_0 rfl ?_
  refine C.bipush 3 (26 : Int32) d44_1 (by decide) ?_
  rcases Decidable.em ((Int32.ofNat k) < (26 : Int32)) with h3 | h3
  · skip
    refine C.icN 6 d44_3 rfl (XT.ii_ge_f h3) ?_
    have l1 : k < 26 := (own_ofNat (by omega) (show 26 < 2147483648 by decide)).2.mp h3
    refine C.bipush 8 (65 : Int32) d44_6 (by decide) ?_
    refine C.iloadN 9 d44_8 rfl ?_
    refine C.iadd 10 d44_9 ?_
    refine C.i2c 11 d44_10 ?_
    refine C.retN (t := .char) rfl (by simp) d44_11 (by decide) (by decide) (Or.inl (Nat.le_refl _)) ?_
    exact ⟨congrArg (fun z => some (Value.int z)) (own_a1 k l1), rfl⟩
  · skip
    refine C.icY 12 d44_3 (by decide) (by decide) (XT.ii_ge_t h3) ?_
    have l1 : ¬ k < 26 := fun q => h3 ((own_ofNat (by omega) (show 26 < 2147483648 by decide)).2.mpr q)
    refine C.iloadN 13 d44_12 rfl ?_
    refine C.bipush 15 (52 : Int32) d44_13 (by decide) ?_
    rcases Decidable.em ((Int32.ofNat k) < (52 : Int32)) with h15 | h15
    · skip
      refine C.icN 18 d44_15 rfl (XT.ii_ge_f h15) ?_
      have l2 : k < 52 := (own_ofNat (by omega) (show 52 < 2147483648 by decide)).2.mp h15
      refine C.bipush 20 (97 : Int32) d44_18 (by decide) ?_
      refine C.iloadN 21 d44_20 rfl ?_
      refine C.iadd 22 d44_21 ?_
      refine C.bipush 24 (26 : Int32) d44_22 (by decide) ?_
      refine C.isub 25 d44_24 ?_
      refine C.i2c 26 d44_25 ?_
      refine C.retN (t := .char) rfl (by simp) d44_26 (by decide) (by decide) (Or.inl (Nat.le_refl _)) ?_
      exact ⟨congrArg (fun z => some (Value.int z)) (own_a2 k l2 l1), rfl⟩
    · skip
      refine C.icY 27 d44_15 (by decide) (by decide) (XT.ii_ge_t h15) ?_
      have l2 : ¬ k < 52 := fun q => h15 ((own_ofNat (by omega) (show 52 < 2147483648 by decide)).2.mpr q)
      refine C.iloadN 28 d44_27 rfl ?_
      refine C.bipush 30 (62 : Int32) d44_28 (by decide) ?_
      rcases Decidable.em ((Int32.ofNat k) < (62 : Int32)) with h30 | h30
      · skip
        refine C.icN 33 d44_30 rfl (XT.ii_ge_f h30) ?_
        have l3 : k < 62 := (own_ofNat (by omega) (show 62 < 2147483648 by decide)).2.mp h30
        refine C.bipush 35 (48 : Int32) d44_33 (by decide) ?_
        refine C.iloadN 36 d44_35 rfl ?_
        refine C.iadd 37 d44_36 ?_
        refine C.bipush 39 (52 : Int32) d44_37 (by decide) ?_
        refine C.isub 40 d44_39 ?_
        refine C.i2c 41 d44_40 ?_
        refine C.retN (t := .char) rfl (by simp) d44_41 (by decide) (by decide) (Or.inl (Nat.le_refl _)) ?_
        exact ⟨congrArg (fun z => some (Value.int z)) (own_a3 k l3 l2), rfl⟩
      · skip
        refine C.icY 42 d44_30 (by decide) (by decide) (XT.ii_ge_t h30) ?_
        have l3 : ¬ k < 62 := fun q => h30 ((own_ofNat (by omega) (show 62 < 2147483648 by decide)).2.mpr q)
        refine C.iloadN 43 d44_42 rfl ?_
        refine C.bipush 45 (62 : Int32) d44_43 (by decide) ?_
        rcases Decidable.em ((Int32.ofNat k) = (62 : Int32)) with h45 | h45
        · skip
          refine C.icN 48 d44_45 rfl (XT.ii_ne_f h45) ?_
          have l4 : k = 62 := (own_ofNat (by omega) (show 62 < 2147483648 by decide)).1.mp h45
          refine C.bipush 50 (45 : Int32) d44_48 (by decide) ?_
          refine C.retN (t := .char) rfl (by simp) d44_50 (by decide) (by decide) (Or.inl (Nat.le_refl _)) ?_
          exact ⟨by rw [show k = 62 from l4]; rfl, rfl⟩
        · skip
          refine C.icY 51 d44_45 (by decide) (by decide) (XT.ii_ne_t h45) ?_
          have l4 : ¬ k = 62 := fun q => h45 ((own_ofNat (by omega) (show 62 < 2147483648 by decide)).1.mpr q)
          refine C.bipush 53 (95 : Int32) d44_51 (by decide) ?_
          refine C.retN (t := .char) rfl (by simp) d44_53 (by decide) (by decide) (Or.inl (Nat.le_refl _)) ?_
          exact ⟨by rw [show k = 63 by omega]; rfl, rfl⟩
theorem own_subi {n k : Nat} (hn : n ≤ 7) (hk : k ≤ 7) : (Int32.ofNat n - Int32.ofNat k).toInt = (n : Int) - k := by
  have q : ∀ n, n < 8 → ∀ k, k < 8 → (Int32.ofNat n - Int32.ofNat k).toInt = (n : Int) - k := by decide +kernel
  exact q n (by omega) k (by omega)
theorem own_le7 {rm : Int32} {n k : Nat} (er : rm.toInt = (n : Int) - k) (h : ¬ 0 < rm) : n ≤ k := by
  simp only [Int32.lt_iff_toInt_lt, ← Int32.toInt_inj, Int32.reduceToInt] at *
  omega
theorem own_lt7 {rm : Int32} {n k : Nat} (er : rm.toInt = (n : Int) - k) (h : 0 < rm) : k < n := by
  simp only [Int32.lt_iff_toInt_lt, ← Int32.toInt_inj, Int32.reduceToInt] at *
  omega
theorem own_lt21 {rm : Int32} {n k : Nat} (er : rm.toInt = (n : Int) - k) (h : 1 < rm) : k + 1 < n := by
  simp only [Int32.lt_iff_toInt_lt, ← Int32.toInt_inj, Int32.reduceToInt] at *
  omega
theorem own_lt38 {rm : Int32} {n k : Nat} (er : rm.toInt = (n : Int) - k) (h : 2 < rm) : k + 2 < n := by
  simp only [Int32.lt_iff_toInt_lt, ← Int32.toInt_inj, Int32.reduceToInt] at *
  omega
theorem own_n1 {rm : Int32} {n k : Nat} (er : rm.toInt = (n : Int) - k) (h : 0 < rm) (h2 : ¬ 1 < rm) : n = k + 1 := by
  simp only [Int32.lt_iff_toInt_lt, ← Int32.toInt_inj, Int32.reduceToInt] at *
  omega
theorem own_n2 {rm : Int32} {n k : Nat} (er : rm.toInt = (n : Int) - k) (h : 1 < rm) (h2 : ¬ 2 < rm) : n = k + 2 := by
  simp only [Int32.lt_iff_toInt_lt, ← Int32.toInt_inj, Int32.reduceToInt] at *
  omega
theorem own_rm1 {rm : Int32} {n k : Nat} (er : rm.toInt = (n : Int) - k) (h : 0 < rm) (h2 : ¬ 1 < rm) : rm = 1 := by
  simp only [Int32.lt_iff_toInt_lt, ← Int32.toInt_inj, Int32.reduceToInt] at *
  omega
theorem own_rm2 {rm : Int32} (h : 1 < rm) (h2 : ¬ 2 < rm) : rm = 2 := by
  simp only [Int32.lt_iff_toInt_lt, ← Int32.toInt_inj, Int32.reduceToInt] at *
  omega
theorem own_b1 (x : Nat) : own_b64 [x] = [own_al (x / 4), own_al (x % 4 * 16)] := by simp [own_b64]
theorem own_b2 (x y : Nat) : own_b64 [x, y] = [own_al (x / 4), own_al (x % 4 * 16 + y / 16), own_al (y % 16 * 4)] := by simp [own_b64]
theorem own_b3' (x y z : Nat) : own_b64 [x, y, z] = [own_al (x / 4), own_al (x % 4 * 16 + y / 16), own_al (y % 16 * 4 + z / 64), own_al (z % 64)] := by simp [own_b64]
theorem own_gap (ys zs : List Int32) (k : Nat) (h : zs.length = k) : Int32.ofNat ys.length + Int32.ofNat k = Int32.ofNat (ys ++ zs).length := by rw [List.length_append, h, Int32.ofNat_add]
theorem own_fital {k : Nat} (h : k < 64) : fits .char (.int (own_al k)) = true := by
  have q := fits_nar_char (own_al k)
  rw [show nar .char (own_al k) = own_al k from own_nc k h] at q; exact q
theorem pd__I_rC : parseMethodDescriptor "(I)C" = some ⟨[.int], some .char⟩ := by decide +kernel
theorem d45_0 : decode method_5_code 0 = .ok (.iload_n 1, 1) := by decide +kernel
theorem d45_1 : decode method_5_code 1 = .ok (.iload_n 2, 1) := by decide +kernel
theorem d45_2 : decode method_5_code 2 = .ok (.isub, 1) := by decide +kernel
theorem d45_3 : decode method_5_code 3 = .ok (.istore 5, 2) := by decide +kernel
theorem d45_5 : decode method_5_code 5 = .ok (.iload 5, 2) := by decide +kernel
theorem d45_7 : decode method_5_code 7 = .ok (.ifCond .gt 6, 3) := by decide +kernel
theorem d45_10 : decode method_5_code 10 = .ok (.iload 4, 2) := by decide +kernel
theorem d45_12 : decode method_5_code 12 = .ok (.ireturn, 1) := by decide +kernel
theorem d45_13 : decode method_5_code 13 = .ok (.aload_n 0, 1) := by decide +kernel
theorem d45_14 : decode method_5_code 14 = .ok (.iload_n 2, 1) := by decide +kernel
theorem d45_15 : decode method_5_code 15 = .ok (.iaload, 1) := by decide +kernel
theorem d45_16 : decode method_5_code 16 = .ok (.istore 6, 2) := by decide +kernel
theorem d45_18 : decode method_5_code 18 = .ok (.iload 5, 2) := by decide +kernel
theorem d45_20 : decode method_5_code 20 = .ok (.iconst 1, 1) := by decide +kernel
theorem d45_21 : decode method_5_code 21 = .ok (.if_icmp .le 11, 3) := by decide +kernel
theorem d45_24 : decode method_5_code 24 = .ok (.aload_n 0, 1) := by decide +kernel
theorem d45_25 : decode method_5_code 25 = .ok (.iload_n 2, 1) := by decide +kernel
theorem d45_26 : decode method_5_code 26 = .ok (.iconst 1, 1) := by decide +kernel
theorem d45_27 : decode method_5_code 27 = .ok (.iadd, 1) := by decide +kernel
theorem d45_28 : decode method_5_code 28 = .ok (.iaload, 1) := by decide +kernel
theorem d45_29 : decode method_5_code 29 = .ok (.goto 4, 3) := by decide +kernel
theorem d45_32 : decode method_5_code 32 = .ok (.iconst 0, 1) := by decide +kernel
theorem d45_33 : decode method_5_code 33 = .ok (.istore 7, 2) := by decide +kernel
theorem d45_35 : decode method_5_code 35 = .ok (.iload 5, 2) := by decide +kernel
theorem d45_37 : decode method_5_code 37 = .ok (.iconst 2, 1) := by decide +kernel
theorem d45_38 : decode method_5_code 38 = .ok (.if_icmp .le 11, 3) := by decide +kernel
theorem d45_41 : decode method_5_code 41 = .ok (.aload_n 0, 1) := by decide +kernel
theorem d45_42 : decode method_5_code 42 = .ok (.iload_n 2, 1) := by decide +kernel
theorem d45_43 : decode method_5_code 43 = .ok (.iconst 2, 1) := by decide +kernel
theorem d45_44 : decode method_5_code 44 = .ok (.iadd, 1) := by decide +kernel
theorem d45_45 : decode method_5_code 45 = .ok (.iaload, 1) := by decide +kernel
theorem d45_46 : decode method_5_code 46 = .ok (.goto 4, 3) := by decide +kernel
theorem d45_49 : decode method_5_code 49 = .ok (.iconst 0, 1) := by decide +kernel
theorem d45_50 : decode method_5_code 50 = .ok (.istore 8, 2) := by decide +kernel
theorem d45_52 : decode method_5_code 52 = .ok (.aload_n 3, 1) := by decide +kernel
theorem d45_53 : decode method_5_code 53 = .ok (.iload 4, 2) := by decide +kernel
theorem d45_55 : decode method_5_code 55 = .ok (.iload 6, 2) := by decide +kernel
theorem d45_57 : decode method_5_code 57 = .ok (.iconst 2, 1) := by decide +kernel
theorem d45_58 : decode method_5_code 58 = .ok (.ishr, 1) := by decide +kernel
theorem d45_59 : decode method_5_code 59 = .ok (.invokestatic 50, 3) := by decide +kernel
theorem d45_62 : decode method_5_code 62 = .ok (.castore, 1) := by decide +kernel
theorem d45_63 : decode method_5_code 63 = .ok (.aload_n 3, 1) := by decide +kernel
theorem d45_64 : decode method_5_code 64 = .ok (.iload 4, 2) := by decide +kernel
theorem d45_66 : decode method_5_code 66 = .ok (.iconst 1, 1) := by decide +kernel
theorem d45_67 : decode method_5_code 67 = .ok (.iadd, 1) := by decide +kernel
theorem d45_68 : decode method_5_code 68 = .ok (.iload 6, 2) := by decide +kernel
theorem d45_70 : decode method_5_code 70 = .ok (.iconst 3, 1) := by decide +kernel
theorem d45_71 : decode method_5_code 71 = .ok (.iand, 1) := by decide +kernel
theorem d45_72 : decode method_5_code 72 = .ok (.iconst 4, 1) := by decide +kernel
theorem d45_73 : decode method_5_code 73 = .ok (.ishl, 1) := by decide +kernel
theorem d45_74 : decode method_5_code 74 = .ok (.iload 7, 2) := by decide +kernel
theorem d45_76 : decode method_5_code 76 = .ok (.iconst 4, 1) := by decide +kernel
theorem d45_77 : decode method_5_code 77 = .ok (.ishr, 1) := by decide +kernel
theorem d45_78 : decode method_5_code 78 = .ok (.ior, 1) := by decide +kernel
theorem d45_79 : decode method_5_code 79 = .ok (.invokestatic 50, 3) := by decide +kernel
theorem d45_82 : decode method_5_code 82 = .ok (.castore, 1) := by decide +kernel
theorem d45_83 : decode method_5_code 83 = .ok (.iload 5, 2) := by decide +kernel
theorem d45_85 : decode method_5_code 85 = .ok (.iconst 1, 1) := by decide +kernel
theorem d45_86 : decode method_5_code 86 = .ok (.if_icmp .ne 8, 3) := by decide +kernel
theorem d45_89 : decode method_5_code 89 = .ok (.iload 4, 2) := by decide +kernel
theorem d45_91 : decode method_5_code 91 = .ok (.iconst 2, 1) := by decide +kernel
theorem d45_92 : decode method_5_code 92 = .ok (.iadd, 1) := by decide +kernel
theorem d45_93 : decode method_5_code 93 = .ok (.ireturn, 1) := by decide +kernel
theorem d45_94 : decode method_5_code 94 = .ok (.aload_n 3, 1) := by decide +kernel
theorem d45_95 : decode method_5_code 95 = .ok (.iload 4, 2) := by decide +kernel
theorem d45_97 : decode method_5_code 97 = .ok (.iconst 2, 1) := by decide +kernel
theorem d45_98 : decode method_5_code 98 = .ok (.iadd, 1) := by decide +kernel
theorem d45_99 : decode method_5_code 99 = .ok (.iload 7, 2) := by decide +kernel
theorem d45_101 : decode method_5_code 101 = .ok (.bipush 15, 2) := by decide +kernel
theorem d45_103 : decode method_5_code 103 = .ok (.iand, 1) := by decide +kernel
theorem d45_104 : decode method_5_code 104 = .ok (.iconst 2, 1) := by decide +kernel
theorem d45_105 : decode method_5_code 105 = .ok (.ishl, 1) := by decide +kernel
theorem d45_106 : decode method_5_code 106 = .ok (.iload 8, 2) := by decide +kernel
theorem d45_108 : decode method_5_code 108 = .ok (.bipush 6, 2) := by decide +kernel
theorem d45_110 : decode method_5_code 110 = .ok (.ishr, 1) := by decide +kernel
theorem d45_111 : decode method_5_code 111 = .ok (.ior, 1) := by decide +kernel
theorem d45_112 : decode method_5_code 112 = .ok (.invokestatic 50, 3) := by decide +kernel
theorem d45_115 : decode method_5_code 115 = .ok (.castore, 1) := by decide +kernel
theorem d45_116 : decode method_5_code 116 = .ok (.iload 5, 2) := by decide +kernel
theorem d45_118 : decode method_5_code 118 = .ok (.iconst 2, 1) := by decide +kernel
theorem d45_119 : decode method_5_code 119 = .ok (.if_icmp .ne 8, 3) := by decide +kernel
theorem d45_122 : decode method_5_code 122 = .ok (.iload 4, 2) := by decide +kernel
theorem d45_124 : decode method_5_code 124 = .ok (.iconst 3, 1) := by decide +kernel
theorem d45_125 : decode method_5_code 125 = .ok (.iadd, 1) := by decide +kernel
theorem d45_126 : decode method_5_code 126 = .ok (.ireturn, 1) := by decide +kernel
theorem d45_127 : decode method_5_code 127 = .ok (.aload_n 3, 1) := by decide +kernel
theorem d45_128 : decode method_5_code 128 = .ok (.iload 4, 2) := by decide +kernel
theorem d45_130 : decode method_5_code 130 = .ok (.iconst 3, 1) := by decide +kernel
theorem d45_131 : decode method_5_code 131 = .ok (.iadd, 1) := by decide +kernel
theorem d45_132 : decode method_5_code 132 = .ok (.iload 8, 2) := by decide +kernel
theorem d45_134 : decode method_5_code 134 = .ok (.bipush 63, 2) := by decide +kernel
theorem d45_136 : decode method_5_code 136 = .ok (.iand, 1) := by decide +kernel
theorem d45_137 : decode method_5_code 137 = .ok (.invokestatic 50, 3) := by decide +kernel
theorem d45_140 : decode method_5_code 140 = .ok (.castore, 1) := by decide +kernel
theorem d45_141 : decode method_5_code 141 = .ok (.iload 4, 2) := by decide +kernel
theorem d45_143 : decode method_5_code 143 = .ok (.iconst 4, 1) := by decide +kernel
theorem d45_144 : decode method_5_code 144 = .ok (.iadd, 1) := by decide +kernel
theorem d45_145 : decode method_5_code 145 = .ok (.ireturn, 1) := by decide +kernel
theorem ef_50 (m : MethodId) (x0 : Nat) (x1 : Int32) (x2 : Int32) (x3 : Nat) (x4 : Int32) : entryFrame m #[(.ref x0), (.int x1), (.int x2), (.ref x3), (.int x4)] 9 = mkF m 0 #[.val (.ref x0), .val (.int x1), .val (.int x2), .val (.ref x3), .val (.int x4), .unset, .unset, .unset, .unset] [] := by first | (simp [entryFrame, mkF, argsToLocals, Value.category]; done) | rfl
set_option maxRecDepth 65536 in
set_option maxHeartbeats 40000000 in
theorem met_grp (l : Launch) (Z : State) (a0 : Array Value) (hw : ∀ d ∈ tables_1, d.before a0 Z = true) (EL : List (String × Nat)) (hEL : EW Z a0 EL) (n0 bk : Nat) (h0 : Heap) (hz0 : Z.heap.size ≤ n0) (hn0 : n0 ≤ h0.size) (o : Nat) (r : Nat) (bs : List Nat) (st_ : Nat) (ys : List Int32) (i2 : Int32) (R : Ar Z h0 o .int (own_pad 7 (own_is bs))) (Rr : Ar Z h0 r .char (own_pad 12 ys)) (hl : bs.length ≤ 7) (hb : ∀ x ∈ bs, x < 256) (hs : st_ ≤ 6) (e2 : i2 = Int32.ofNat st_) (hy : ys.length ≤ 8) (hor : o < r) (hnr : n0 ≤ r) : Met l Z EL (⟨"com/example/edgewise/edgewise/CursorEncodePinLaw", "group", "([III[CI)I"⟩ : MethodName) method_5_code 9 (some .int) [] ({ frames := 1, cells := 0, slots := 0, locals := 14 } : Room) #[(.ref o), (.int (Int32.ofNat bs.length)), (.int i2), (.ref r), (.int (Int32.ofNat ys.length))] n0 bk h0 (fun _ => bk) (fun v h => v = some (.int (Int32.ofNat (ys ++ own_b64 ((bs.drop st_).take 3)).length)) ∧ Ar Z h r .char (own_pad 12 (ys ++ own_b64 ((bs.drop st_).take 3))) ∧ OKp (fun x => x ≠ r) h0 h) := by
  refine Met.intro (plainFor_of_name pn_8) (fun m => ef_50 m o (Int32.ofNat bs.length) i2 r (Int32.ofNat ys.length)) hz0 hEL ?_
  intro hE0 p e s m below meth c C
  subst e2
  have il := own_isl bs
  refine C.iloadN 1 d45_0 rfl ?_
  refine C.iloadN 2 d45_1 rfl ?_
  refine C.isub 3 d45_2 ?_
  generalize hrm : ((Int32.ofNat bs.length) - (Int32.ofNat st_)) = rm
  refine C.istore 5 (L' := #[.val (.ref o), .val (.int (Int32.ofNat bs.length)), .val (.int (Int32.ofNat st_)), .val (.ref r), .val (.int (Int32.ofNat ys.length)), .val (.int rm), .unset, .unset, .unset]) d45_3 rfl ?_
  have er : rm.toInt = (bs.length : Int) - st_ := by rw [← hrm]; exact own_subi (by omega) (by omega)
  refine C.iload 7 d45_5 rfl ?_
  rcases Decidable.em (0 < rm) with h7 | h7
  · skip
    refine C.ifY 13 d45_7 (by decide) (by decide) (XT.i0_gt_t h7) ?_
    have hlt : st_ < bs.length := own_lt7 er h7
    obtain ⟨x1, hx1⟩ : ∃ y, bs[st_]? = some y := ⟨_, List.getElem?_eq_getElem hlt⟩
    have hr1 : x1 < 256 := hb x1 (List.mem_of_getElem? hx1)
    refine C.aloadN 14 d45_13 rfl rfl ?_
    refine C.iloadN 15 d45_14 rfl ?_
    refine C.iaload 16 st_ d45_15 R rfl (own_padget (own_isget hx1)) ?_
    refine C.istore 18 (L' := #[.val (.ref o), .val (.int (Int32.ofNat bs.length)), .val (.int (Int32.ofNat st_)), .val (.ref r), .val (.int (Int32.ofNat ys.length)), .val (.int rm), .val (.int (Int32.ofNat x1)), .unset, .unset]) d45_16 rfl ?_
    refine C.iload 20 d45_18 rfl ?_
    refine C.iconst 21 (1 : Int32) d45_20 (by decide) ?_
    rcases Decidable.em ((1 : Int32) < rm) with h21 | h21
    · skip
      refine C.icN 24 d45_21 rfl (XT.ii_le_f h21) ?_
      have hlt1 : st_ + 1 < bs.length := own_lt21 er h21
      obtain ⟨x2, hx2⟩ : ∃ y, bs[st_ + 1]? = some y := ⟨_, List.getElem?_eq_getElem hlt1⟩
      have hr2 : x2 < 256 := hb x2 (List.mem_of_getElem? hx2)
      refine C.aloadN 25 d45_24 rfl rfl ?_
      refine C.iloadN 26 d45_25 rfl ?_
      refine C.iconst 27 (1 : Int32) d45_26 (by decide) ?_
      refine C.iadd 28 d45_27 ?_
      refine C.iaload 29 (st_ + 1) d45_28 R (own_succ _) (own_padget (own_isget hx2)) ?_
      refine C.goto 33 d45_29 (by decide) (by decide) ?_
      refine C.istore 35 (L' := #[.val (.ref o), .val (.int (Int32.ofNat bs.length)), .val (.int (Int32.ofNat st_)), .val (.ref r), .val (.int (Int32.ofNat ys.length)), .val (.int rm), .val (.int (Int32.ofNat x1)), .val (.int (Int32.ofNat x2)), .unset]) d45_33 rfl ?_
      refine C.iload 37 d45_35 rfl ?_
      refine C.iconst 38 (2 : Int32) d45_37 (by decide) ?_
      rcases Decidable.em ((2 : Int32) < rm) with h38 | h38
      · skip
        refine C.icN 41 d45_38 rfl (XT.ii_le_f h38) ?_
        have hlt2 : st_ + 2 < bs.length := own_lt38 er h38
        obtain ⟨x3, hx3⟩ : ∃ y, bs[st_ + 2]? = some y := ⟨_, List.getElem?_eq_getElem hlt2⟩
        have hr3 : x3 < 256 := hb x3 (List.mem_of_getElem? hx3)
        refine C.aloadN 42 d45_41 rfl rfl ?_
        refine C.iloadN 43 d45_42 rfl ?_
        refine C.iconst 44 (2 : Int32) d45_43 (by decide) ?_
        refine C.iadd 45 d45_44 ?_
        refine C.iaload 46 (st_ + 2) d45_45 R (Int32.ofNat_add _ 2).symm (own_padget (own_isget hx3)) ?_
        refine C.goto 50 d45_46 (by decide) (by decide) ?_
        refine C.istore 52 (L' := #[.val (.ref o), .val (.int (Int32.ofNat bs.length)), .val (.int (Int32.ofNat st_)), .val (.ref r), .val (.int (Int32.ofNat ys.length)), .val (.int rm), .val (.int (Int32.ofNat x1)), .val (.int (Int32.ofNat x2)), .val (.int (Int32.ofNat x3))]) d45_50 rfl ?_
        have hg : (bs.drop st_).take 3 = [x1, x2, x3] := by rw [own_g3 hx1 hx2 hx3]; rfl
        refine C.aloadN 53 d45_52 rfl rfl ?_
        refine C.iload 55 d45_53 rfl ?_
        refine C.iload 57 d45_55 rfl ?_
        refine C.iconst 58 (2 : Int32) d45_57 (by decide) ?_
        refine C.ishr 59 d45_58 ?_
        rw [own_s2 x1 hr1]
        refine C.callS (b := h0.size) 62 [(.int (Int32.ofNat (x1 / 4)))] [(.int (Int32.ofNat ys.length)), (.ref r)] d45_59 (met_alp l Z a0 hw EL hEL h0.size bk h0 (by omega) (by omega) (x1 / 4) (by omega)) (by omega) (Or.inl (Nat.le_refl _)) (hw _ (List.mem_of_getElem? (i := 36) rfl)) (hw _ (List.mem_of_getElem? (i := 37) rfl)) (hw _ (List.mem_of_getElem? (i := 31) rfl)) (hw _ (List.mem_of_getElem? (i := 38) rfl)) (by decide) rfl (lenOf pd__I_rC rfl) (by decide) (W := 2) (Nat.le_of_eq rfl) (by decide) (by decide) (by decide) rfl ?_
        rintro _ h59_4 K59_4 ⟨rfl, rfl⟩
        refine C.castore 63 ys.length d45_62 Rr rfl (by rw [own_padlen (by first | omega | (simp; omega))]; omega) (by rw [show nar .char (own_al (x1 / 4)) = own_al (x1 / 4) from own_nc _ (by omega)]; exact own_fital (by omega)) (by omega) (Or.inr (Or.inr ⟨_, _, Rr, by decide⟩)) ?_
        intro hw0 Ww0 Nw0
        have sz_hw0 : h0.size ≤ hw0.size := (Nat.le_of_eq Ww0.size.symm)
        replace R := R.other Ww0 (by first | omega | (dsimp only; omega))
        replace Rr : Ar Z hw0 r .char (own_pad 12 (ys ++ [own_al (x1 / 4)])) := (by have q := Nw0; rw [show nar .char (own_al (x1 / 4)) = own_al (x1 / 4) from own_nc _ (by omega), own_padset (by simp) (by omega)] at q; exact q)
        refine C.aloadN 64 d45_63 rfl rfl ?_
        refine C.iload 66 d45_64 rfl ?_
        refine C.iconst 67 (1 : Int32) d45_66 (by decide) ?_
        refine C.iadd 68 d45_67 ?_
        refine C.iload 70 d45_68 rfl ?_
        refine C.iconst 71 (3 : Int32) d45_70 (by decide) ?_
        refine C.iand 72 d45_71 ?_
        refine C.iconst 73 (4 : Int32) d45_72 (by decide) ?_
        refine C.ishl 74 d45_73 ?_
        refine C.iload 76 d45_74 rfl ?_
        refine C.iconst 77 (4 : Int32) d45_76 (by decide) ?_
        refine C.ishr 78 d45_77 ?_
        refine C.ior 79 d45_78 ?_
        rw [show ((Int32.ofNat x1 &&& 3) <<< ((4 : Int32) &&& 31)) ||| (Int32.ofNat x2 >>> ((4 : Int32) &&& 31)) = Int32.ofNat (x1 % 4 * 16 + x2 / 16) from own_z4 (y := x2) hr1 hr2]
        refine C.callS (b := hw0.size) 82 [(.int (Int32.ofNat (x1 % 4 * 16 + x2 / 16)))] [(.int ((Int32.ofNat ys.length) + (1 : Int32))), (.ref r)] d45_79 (met_alp l Z a0 hw EL hEL hw0.size bk hw0 (by omega) (by omega) (x1 % 4 * 16 + x2 / 16) (by omega)) (by omega) (Or.inl (Nat.le_refl _)) (hw _ (List.mem_of_getElem? (i := 36) rfl)) (hw _ (List.mem_of_getElem? (i := 37) rfl)) (hw _ (List.mem_of_getElem? (i := 31) rfl)) (hw _ (List.mem_of_getElem? (i := 38) rfl)) (by decide) rfl (lenOf pd__I_rC rfl) (by decide) (W := 2) (Nat.le_of_eq rfl) (by decide) (by decide) (by decide) rfl ?_
        rintro _ h79_6 K79_6 ⟨rfl, rfl⟩
        refine C.castore 83 (ys.length + 1) d45_82 Rr (Int32.ofNat_add _ 1).symm (by rw [own_padlen (by first | omega | (simp; omega))]; omega) (by rw [show nar .char (own_al (x1 % 4 * 16 + x2 / 16)) = own_al (x1 % 4 * 16 + x2 / 16) from own_nc _ (by omega)]; exact own_fital (by omega)) (by omega) (Or.inr (Or.inr ⟨_, _, Rr, by decide⟩)) ?_
        intro hw1 Ww1 Nw1
        have sz_hw1 : hw0.size ≤ hw1.size := (Nat.le_of_eq Ww1.size.symm)
        replace R := R.other Ww1 (by first | omega | (dsimp only; omega))
        replace Rr : Ar Z hw1 r .char (own_pad 12 (ys ++ [own_al (x1 / 4)] ++ [own_al (x1 % 4 * 16 + x2 / 16)])) := (by have q := Nw1; rw [show nar .char (own_al (x1 % 4 * 16 + x2 / 16)) = own_al (x1 % 4 * 16 + x2 / 16) from own_nc _ (by omega), own_padset (by simp) (by omega)] at q; exact q)
        refine C.iload 85 d45_83 rfl ?_
        refine C.iconst 86 (1 : Int32) d45_85 (by decide) ?_
        refine C.icY 94 d45_86 (by decide) (by decide) (XT.ii_ne_t (show ¬ (rm = (1 : Int32)) from (fun q => by rw [q] at h21; exact absurd h21 (by decide)))) ?_
        refine C.aloadN 95 d45_94 rfl rfl ?_
        refine C.iload 97 d45_95 rfl ?_
        refine C.iconst 98 (2 : Int32) d45_97 (by decide) ?_
        refine C.iadd 99 d45_98 ?_
        refine C.iload 101 d45_99 rfl ?_
        refine C.bipush 103 (15 : Int32) d45_101 (by decide) ?_
        refine C.iand 104 d45_103 ?_
        refine C.iconst 105 (2 : Int32) d45_104 (by decide) ?_
        refine C.ishl 106 d45_105 ?_
        refine C.iload 108 d45_106 rfl ?_
        refine C.bipush 110 (6 : Int32) d45_108 (by decide) ?_
        refine C.ishr 111 d45_110 ?_
        refine C.ior 112 d45_111 ?_
        rw [show ((Int32.ofNat x2 &&& 15) <<< ((2 : Int32) &&& 31)) ||| (Int32.ofNat x3 >>> ((6 : Int32) &&& 31)) = Int32.ofNat (x2 % 16 * 4 + x3 / 64) from own_z2 (x := x2) (y := x3) hr2 hr3]
        refine C.callS (b := hw1.size) 115 [(.int (Int32.ofNat (x2 % 16 * 4 + x3 / 64)))] [(.int ((Int32.ofNat ys.length) + (2 : Int32))), (.ref r)] d45_112 (met_alp l Z a0 hw EL hEL hw1.size bk hw1 (by omega) (by omega) (x2 % 16 * 4 + x3 / 64) (by omega)) (by omega) (Or.inl (Nat.le_refl _)) (hw _ (List.mem_of_getElem? (i := 36) rfl)) (hw _ (List.mem_of_getElem? (i := 37) rfl)) (hw _ (List.mem_of_getElem? (i := 31) rfl)) (hw _ (List.mem_of_getElem? (i := 38) rfl)) (by decide) rfl (lenOf pd__I_rC rfl) (by decide) (W := 2) (Nat.le_of_eq rfl) (by decide) (by decide) (by decide) rfl ?_
        rintro _ h112_8 K112_8 ⟨rfl, rfl⟩
        refine C.castore 116 (ys.length + 2) d45_115 Rr (Int32.ofNat_add _ 2).symm (by rw [own_padlen (by first | omega | (simp; omega))]; omega) (by rw [show nar .char (own_al (x2 % 16 * 4 + x3 / 64)) = own_al (x2 % 16 * 4 + x3 / 64) from own_nc _ (by omega)]; exact own_fital (by omega)) (by omega) (Or.inr (Or.inr ⟨_, _, Rr, by decide⟩)) ?_
        intro hw2 Ww2 Nw2
        have sz_hw2 : hw1.size ≤ hw2.size := (Nat.le_of_eq Ww2.size.symm)
        replace R := R.other Ww2 (by first | omega | (dsimp only; omega))
        replace Rr : Ar Z hw2 r .char (own_pad 12 (ys ++ [own_al (x1 / 4)] ++ [own_al (x1 % 4 * 16 + x2 / 16)] ++ [own_al (x2 % 16 * 4 + x3 / 64)])) := (by have q := Nw2; rw [show nar .char (own_al (x2 % 16 * 4 + x3 / 64)) = own_al (x2 % 16 * 4 + x3 / 64) from own_nc _ (by omega), own_padset (by simp) (by omega)] at q; exact q)
        refine C.iload 118 d45_116 rfl ?_
        refine C.iconst 119 (2 : Int32) d45_118 (by decide) ?_
        refine C.icY 127 d45_119 (by decide) (by decide) (XT.ii_ne_t (show ¬ (rm = (2 : Int32)) from (fun q => by rw [q] at h38; exact absurd h38 (by decide)))) ?_
        refine C.aloadN 128 d45_127 rfl rfl ?_
        refine C.iload 130 d45_128 rfl ?_
        refine C.iconst 131 (3 : Int32) d45_130 (by decide) ?_
        refine C.iadd 132 d45_131 ?_
        refine C.iload 134 d45_132 rfl ?_
        refine C.bipush 136 (63 : Int32) d45_134 (by decide) ?_
        refine C.iand 137 d45_136 ?_
        rw [own_p63 x3 hr3]
        refine C.callS (b := hw2.size) 140 [(.int (Int32.ofNat (x3 % 64)))] [(.int ((Int32.ofNat ys.length) + (3 : Int32))), (.ref r)] d45_137 (met_alp l Z a0 hw EL hEL hw2.size bk hw2 (by omega) (by omega) (x3 % 64) (by omega)) (by omega) (Or.inl (Nat.le_refl _)) (hw _ (List.mem_of_getElem? (i := 36) rfl)) (hw _ (List.mem_of_getElem? (i := 37) rfl)) (hw _ (List.mem_of_getElem? (i := 31) rfl)) (hw _ (List.mem_of_getElem? (i := 38) rfl)) (by decide) rfl (lenOf pd__I_rC rfl) (by decide) (W := 2) (Nat.le_of_eq rfl) (by decide) (by decide) (by decide) rfl ?_
        rintro _ h137_10 K137_10 ⟨rfl, rfl⟩
        refine C.castore 141 (ys.length + 3) d45_140 Rr (Int32.ofNat_add _ 3).symm (by rw [own_padlen (by first | omega | (simp; omega))]; omega) (by rw [show nar .char (own_al (x3 % 64)) = own_al (x3 % 64) from own_nc _ (by omega)]; exact own_fital (by omega)) (by omega) (Or.inr (Or.inr ⟨_, _, Rr, by decide⟩)) ?_
        intro hw3 Ww3 Nw3
        have sz_hw3 : hw2.size ≤ hw3.size := (Nat.le_of_eq Ww3.size.symm)
        replace R := R.other Ww3 (by first | omega | (dsimp only; omega))
        replace Rr : Ar Z hw3 r .char (own_pad 12 (ys ++ [own_al (x1 / 4)] ++ [own_al (x1 % 4 * 16 + x2 / 16)] ++ [own_al (x2 % 16 * 4 + x3 / 64)] ++ [own_al (x3 % 64)])) := (by have q := Nw3; rw [show nar .char (own_al (x3 % 64)) = own_al (x3 % 64) from own_nc _ (by omega), own_padset (by simp) (by omega)] at q; exact q)
        refine C.iload 143 d45_141 rfl ?_
        refine C.iconst 144 (4 : Int32) d45_143 (by decide) ?_
        refine C.iadd 145 d45_144 ?_
        refine C.retI rfl d45_145 (by decide) (by decide) (Or.inl (Nat.le_refl _)) ?_
        have e := own_b3' x1 x2 x3
        refine ⟨by rw [hg, e]; exact congrArg (fun z => some (Value.int z)) (own_gap ys _ 4 rfl), ?_, (((OKp.ofWr Ww0).trans (OKp.ofWr Ww1)).trans (OKp.ofWr Ww2)).trans (OKp.ofWr Ww3)⟩
        rw [hg, e]
        simpa using Rr
      · skip
        refine C.icY 49 d45_38 (by decide) (by decide) (XT.ii_le_t h38) ?_
        refine C.iconst 50 (0 : Int32) d45_49 (by decide) ?_
        refine C.istore 52 (L' := #[.val (.ref o), .val (.int (Int32.ofNat bs.length)), .val (.int (Int32.ofNat st_)), .val (.ref r), .val (.int (Int32.ofNat ys.length)), .val (.int rm), .val (.int (Int32.ofNat x1)), .val (.int (Int32.ofNat x2)), .val (.int (0 : Int32))]) d45_50 rfl ?_
        have hg : (bs.drop st_).take 3 = [x1, x2] := by rw [own_g2 hx1 hx2 (own_n2 er h21 h38)]; rfl
        refine C.aloadN 53 d45_52 rfl rfl ?_
        refine C.iload 55 d45_53 rfl ?_
        refine C.iload 57 d45_55 rfl ?_
        refine C.iconst 58 (2 : Int32) d45_57 (by decide) ?_
        refine C.ishr 59 d45_58 ?_
        rw [own_s2 x1 hr1]
        refine C.callS (b := h0.size) 62 [(.int (Int32.ofNat (x1 / 4)))] [(.int (Int32.ofNat ys.length)), (.ref r)] d45_59 (met_alp l Z a0 hw EL hEL h0.size bk h0 (by omega) (by omega) (x1 / 4) (by omega)) (by omega) (Or.inl (Nat.le_refl _)) (hw _ (List.mem_of_getElem? (i := 36) rfl)) (hw _ (List.mem_of_getElem? (i := 37) rfl)) (hw _ (List.mem_of_getElem? (i := 31) rfl)) (hw _ (List.mem_of_getElem? (i := 38) rfl)) (by decide) rfl (lenOf pd__I_rC rfl) (by decide) (W := 2) (Nat.le_of_eq rfl) (by decide) (by decide) (by decide) rfl ?_
        rintro _ h59_12 K59_12 ⟨rfl, rfl⟩
        refine C.castore 63 ys.length d45_62 Rr rfl (by rw [own_padlen (by first | omega | (simp; omega))]; omega) (by rw [show nar .char (own_al (x1 / 4)) = own_al (x1 / 4) from own_nc _ (by omega)]; exact own_fital (by omega)) (by omega) (Or.inr (Or.inr ⟨_, _, Rr, by decide⟩)) ?_
        intro hw0 Ww0 Nw0
        have sz_hw0 : h0.size ≤ hw0.size := (Nat.le_of_eq Ww0.size.symm)
        replace R := R.other Ww0 (by first | omega | (dsimp only; omega))
        replace Rr : Ar Z hw0 r .char (own_pad 12 (ys ++ [own_al (x1 / 4)])) := (by have q := Nw0; rw [show nar .char (own_al (x1 / 4)) = own_al (x1 / 4) from own_nc _ (by omega), own_padset (by simp) (by omega)] at q; exact q)
        refine C.aloadN 64 d45_63 rfl rfl ?_
        refine C.iload 66 d45_64 rfl ?_
        refine C.iconst 67 (1 : Int32) d45_66 (by decide) ?_
        refine C.iadd 68 d45_67 ?_
        refine C.iload 70 d45_68 rfl ?_
        refine C.iconst 71 (3 : Int32) d45_70 (by decide) ?_
        refine C.iand 72 d45_71 ?_
        refine C.iconst 73 (4 : Int32) d45_72 (by decide) ?_
        refine C.ishl 74 d45_73 ?_
        refine C.iload 76 d45_74 rfl ?_
        refine C.iconst 77 (4 : Int32) d45_76 (by decide) ?_
        refine C.ishr 78 d45_77 ?_
        refine C.ior 79 d45_78 ?_
        rw [show ((Int32.ofNat x1 &&& 3) <<< ((4 : Int32) &&& 31)) ||| (Int32.ofNat x2 >>> ((4 : Int32) &&& 31)) = Int32.ofNat (x1 % 4 * 16 + x2 / 16) from own_z4 (y := x2) hr1 hr2]
        refine C.callS (b := hw0.size) 82 [(.int (Int32.ofNat (x1 % 4 * 16 + x2 / 16)))] [(.int ((Int32.ofNat ys.length) + (1 : Int32))), (.ref r)] d45_79 (met_alp l Z a0 hw EL hEL hw0.size bk hw0 (by omega) (by omega) (x1 % 4 * 16 + x2 / 16) (by omega)) (by omega) (Or.inl (Nat.le_refl _)) (hw _ (List.mem_of_getElem? (i := 36) rfl)) (hw _ (List.mem_of_getElem? (i := 37) rfl)) (hw _ (List.mem_of_getElem? (i := 31) rfl)) (hw _ (List.mem_of_getElem? (i := 38) rfl)) (by decide) rfl (lenOf pd__I_rC rfl) (by decide) (W := 2) (Nat.le_of_eq rfl) (by decide) (by decide) (by decide) rfl ?_
        rintro _ h79_14 K79_14 ⟨rfl, rfl⟩
        refine C.castore 83 (ys.length + 1) d45_82 Rr (Int32.ofNat_add _ 1).symm (by rw [own_padlen (by first | omega | (simp; omega))]; omega) (by rw [show nar .char (own_al (x1 % 4 * 16 + x2 / 16)) = own_al (x1 % 4 * 16 + x2 / 16) from own_nc _ (by omega)]; exact own_fital (by omega)) (by omega) (Or.inr (Or.inr ⟨_, _, Rr, by decide⟩)) ?_
        intro hw1 Ww1 Nw1
        have sz_hw1 : hw0.size ≤ hw1.size := (Nat.le_of_eq Ww1.size.symm)
        replace R := R.other Ww1 (by first | omega | (dsimp only; omega))
        replace Rr : Ar Z hw1 r .char (own_pad 12 (ys ++ [own_al (x1 / 4)] ++ [own_al (x1 % 4 * 16 + x2 / 16)])) := (by have q := Nw1; rw [show nar .char (own_al (x1 % 4 * 16 + x2 / 16)) = own_al (x1 % 4 * 16 + x2 / 16) from own_nc _ (by omega), own_padset (by simp) (by omega)] at q; exact q)
        refine C.iload 85 d45_83 rfl ?_
        refine C.iconst 86 (1 : Int32) d45_85 (by decide) ?_
        refine C.icY 94 d45_86 (by decide) (by decide) (XT.ii_ne_t (show ¬ (rm = (1 : Int32)) from (fun q => by rw [q] at h21; exact absurd h21 (by decide)))) ?_
        refine C.aloadN 95 d45_94 rfl rfl ?_
        refine C.iload 97 d45_95 rfl ?_
        refine C.iconst 98 (2 : Int32) d45_97 (by decide) ?_
        refine C.iadd 99 d45_98 ?_
        refine C.iload 101 d45_99 rfl ?_
        refine C.bipush 103 (15 : Int32) d45_101 (by decide) ?_
        refine C.iand 104 d45_103 ?_
        refine C.iconst 105 (2 : Int32) d45_104 (by decide) ?_
        refine C.ishl 106 d45_105 ?_
        refine C.iload 108 d45_106 rfl ?_
        refine C.bipush 110 (6 : Int32) d45_108 (by decide) ?_
        refine C.ishr 111 d45_110 ?_
        refine C.ior 112 d45_111 ?_
        rw [show ((Int32.ofNat x2 &&& 15) <<< ((2 : Int32) &&& 31)) ||| ((0 : Int32) >>> ((6 : Int32) &&& 31)) = Int32.ofNat (x2 % 16 * 4 + 0 / 64) from own_z2 (x := x2) (y := 0) hr2 (show 0 < 256 by decide)]
        refine C.callS (b := hw1.size) 115 [(.int (Int32.ofNat (x2 % 16 * 4 + 0 / 64)))] [(.int ((Int32.ofNat ys.length) + (2 : Int32))), (.ref r)] d45_112 (met_alp l Z a0 hw EL hEL hw1.size bk hw1 (by omega) (by omega) (x2 % 16 * 4 + 0 / 64) (by omega)) (by omega) (Or.inl (Nat.le_refl _)) (hw _ (List.mem_of_getElem? (i := 36) rfl)) (hw _ (List.mem_of_getElem? (i := 37) rfl)) (hw _ (List.mem_of_getElem? (i := 31) rfl)) (hw _ (List.mem_of_getElem? (i := 38) rfl)) (by decide) rfl (lenOf pd__I_rC rfl) (by decide) (W := 2) (Nat.le_of_eq rfl) (by decide) (by decide) (by decide) rfl ?_
        rintro _ h112_16 K112_16 ⟨rfl, rfl⟩
        refine C.castore 116 (ys.length + 2) d45_115 Rr (Int32.ofNat_add _ 2).symm (by rw [own_padlen (by first | omega | (simp; omega))]; omega) (by rw [show nar .char (own_al (x2 % 16 * 4 + 0 / 64)) = own_al (x2 % 16 * 4 + 0 / 64) from own_nc _ (by omega)]; exact own_fital (by omega)) (by omega) (Or.inr (Or.inr ⟨_, _, Rr, by decide⟩)) ?_
        intro hw2 Ww2 Nw2
        have sz_hw2 : hw1.size ≤ hw2.size := (Nat.le_of_eq Ww2.size.symm)
        replace R := R.other Ww2 (by first | omega | (dsimp only; omega))
        replace Rr : Ar Z hw2 r .char (own_pad 12 (ys ++ [own_al (x1 / 4)] ++ [own_al (x1 % 4 * 16 + x2 / 16)] ++ [own_al (x2 % 16 * 4 + 0 / 64)])) := (by have q := Nw2; rw [show nar .char (own_al (x2 % 16 * 4 + 0 / 64)) = own_al (x2 % 16 * 4 + 0 / 64) from own_nc _ (by omega), own_padset (by simp) (by omega)] at q; exact q)
        refine C.iload 118 d45_116 rfl ?_
        refine C.iconst 119 (2 : Int32) d45_118 (by decide) ?_
        refine C.icN 122 d45_119 rfl (XT.ii_ne_f (show rm = (2 : Int32) from (own_rm2 h21 h38))) ?_
        refine C.iload 124 d45_122 rfl ?_
        refine C.iconst 125 (3 : Int32) d45_124 (by decide) ?_
        refine C.iadd 126 d45_125 ?_
        refine C.retI rfl d45_126 (by decide) (by decide) (Or.inl (Nat.le_refl _)) ?_
        have e := own_b2 x1 x2
        refine ⟨by rw [hg, e]; exact congrArg (fun z => some (Value.int z)) (own_gap ys _ 3 rfl), ?_, ((OKp.ofWr Ww0).trans (OKp.ofWr Ww1)).trans (OKp.ofWr Ww2)⟩
        rw [hg, e]
        rw [show x2 % 16 * 4 + 0 / 64 = x2 % 16 * 4 by omega] at Rr
        simpa using Rr
    · skip
      refine C.icY 32 d45_21 (by decide) (by decide) (XT.ii_le_t h21) ?_
      refine C.iconst 33 (0 : Int32) d45_32 (by decide) ?_
      refine C.istore 35 (L' := #[.val (.ref o), .val (.int (Int32.ofNat bs.length)), .val (.int (Int32.ofNat st_)), .val (.ref r), .val (.int (Int32.ofNat ys.length)), .val (.int rm), .val (.int (Int32.ofNat x1)), .val (.int (0 : Int32)), .unset]) d45_33 rfl ?_
      refine C.iload 37 d45_35 rfl ?_
      refine C.iconst 38 (2 : Int32) d45_37 (by decide) ?_
      refine C.icY 49 d45_38 (by decide) (by decide) (XT.ii_le_t (show ¬ ((2 : Int32) < rm) from (by rw [Int32.lt_iff_toInt_lt] at h21 ⊢; simp only [Int32.reduceToInt] at h21 ⊢; omega))) ?_
      refine C.iconst 50 (0 : Int32) d45_49 (by decide) ?_
      refine C.istore 52 (L' := #[.val (.ref o), .val (.int (Int32.ofNat bs.length)), .val (.int (Int32.ofNat st_)), .val (.ref r), .val (.int (Int32.ofNat ys.length)), .val (.int rm), .val (.int (Int32.ofNat x1)), .val (.int (0 : Int32)), .val (.int (0 : Int32))]) d45_50 rfl ?_
      have hg : (bs.drop st_).take 3 = [x1] := by rw [own_g1 hx1 (own_n1 er h7 h21)]; rfl
      refine C.aloadN 53 d45_52 rfl rfl ?_
      refine C.iload 55 d45_53 rfl ?_
      refine C.iload 57 d45_55 rfl ?_
      refine C.iconst 58 (2 : Int32) d45_57 (by decide) ?_
      refine C.ishr 59 d45_58 ?_
      rw [own_s2 x1 hr1]
      refine C.callS (b := h0.size) 62 [(.int (Int32.ofNat (x1 / 4)))] [(.int (Int32.ofNat ys.length)), (.ref r)] d45_59 (met_alp l Z a0 hw EL hEL h0.size bk h0 (by omega) (by omega) (x1 / 4) (by omega)) (by omega) (Or.inl (Nat.le_refl _)) (hw _ (List.mem_of_getElem? (i := 36) rfl)) (hw _ (List.mem_of_getElem? (i := 37) rfl)) (hw _ (List.mem_of_getElem? (i := 31) rfl)) (hw _ (List.mem_of_getElem? (i := 38) rfl)) (by decide) rfl (lenOf pd__I_rC rfl) (by decide) (W := 2) (Nat.le_of_eq rfl) (by decide) (by decide) (by decide) rfl ?_
      rintro _ h59_18 K59_18 ⟨rfl, rfl⟩
      refine C.castore 63 ys.length d45_62 Rr rfl (by rw [own_padlen (by first | omega | (simp; omega))]; omega) (by rw [show nar .char (own_al (x1 / 4)) = own_al (x1 / 4) from own_nc _ (by omega)]; exact own_fital (by omega)) (by omega) (Or.inr (Or.inr ⟨_, _, Rr, by decide⟩)) ?_
      intro hw0 Ww0 Nw0
      have sz_hw0 : h0.size ≤ hw0.size := (Nat.le_of_eq Ww0.size.symm)
      replace R := R.other Ww0 (by first | omega | (dsimp only; omega))
      replace Rr : Ar Z hw0 r .char (own_pad 12 (ys ++ [own_al (x1 / 4)])) := (by have q := Nw0; rw [show nar .char (own_al (x1 / 4)) = own_al (x1 / 4) from own_nc _ (by omega), own_padset (by simp) (by omega)] at q; exact q)
      refine C.aloadN 64 d45_63 rfl rfl ?_
      refine C.iload 66 d45_64 rfl ?_
      refine C.iconst 67 (1 : Int32) d45_66 (by decide) ?_
      refine C.iadd 68 d45_67 ?_
      refine C.iload 70 d45_68 rfl ?_
      refine C.iconst 71 (3 : Int32) d45_70 (by decide) ?_
      refine C.iand 72 d45_71 ?_
      refine C.iconst 73 (4 : Int32) d45_72 (by decide) ?_
      refine C.ishl 74 d45_73 ?_
      refine C.iload 76 d45_74 rfl ?_
      refine C.iconst 77 (4 : Int32) d45_76 (by decide) ?_
      refine C.ishr 78 d45_77 ?_
      refine C.ior 79 d45_78 ?_
      rw [show ((Int32.ofNat x1 &&& 3) <<< ((4 : Int32) &&& 31)) ||| ((0 : Int32) >>> ((4 : Int32) &&& 31)) = Int32.ofNat (x1 % 4 * 16 + 0 / 16) from own_z4 (y := 0) hr1 (show 0 < 256 by decide)]
      refine C.callS (b := hw0.size) 82 [(.int (Int32.ofNat (x1 % 4 * 16 + 0 / 16)))] [(.int ((Int32.ofNat ys.length) + (1 : Int32))), (.ref r)] d45_79 (met_alp l Z a0 hw EL hEL hw0.size bk hw0 (by omega) (by omega) (x1 % 4 * 16 + 0 / 16) (by omega)) (by omega) (Or.inl (Nat.le_refl _)) (hw _ (List.mem_of_getElem? (i := 36) rfl)) (hw _ (List.mem_of_getElem? (i := 37) rfl)) (hw _ (List.mem_of_getElem? (i := 31) rfl)) (hw _ (List.mem_of_getElem? (i := 38) rfl)) (by decide) rfl (lenOf pd__I_rC rfl) (by decide) (W := 2) (Nat.le_of_eq rfl) (by decide) (by decide) (by decide) rfl ?_
      rintro _ h79_20 K79_20 ⟨rfl, rfl⟩
      refine C.castore 83 (ys.length + 1) d45_82 Rr (Int32.ofNat_add _ 1).symm (by rw [own_padlen (by first | omega | (simp; omega))]; omega) (by rw [show nar .char (own_al (x1 % 4 * 16 + 0 / 16)) = own_al (x1 % 4 * 16 + 0 / 16) from own_nc _ (by omega)]; exact own_fital (by omega)) (by omega) (Or.inr (Or.inr ⟨_, _, Rr, by decide⟩)) ?_
      intro hw1 Ww1 Nw1
      have sz_hw1 : hw0.size ≤ hw1.size := (Nat.le_of_eq Ww1.size.symm)
      replace R := R.other Ww1 (by first | omega | (dsimp only; omega))
      replace Rr : Ar Z hw1 r .char (own_pad 12 (ys ++ [own_al (x1 / 4)] ++ [own_al (x1 % 4 * 16 + 0 / 16)])) := (by have q := Nw1; rw [show nar .char (own_al (x1 % 4 * 16 + 0 / 16)) = own_al (x1 % 4 * 16 + 0 / 16) from own_nc _ (by omega), own_padset (by simp) (by omega)] at q; exact q)
      refine C.iload 85 d45_83 rfl ?_
      refine C.iconst 86 (1 : Int32) d45_85 (by decide) ?_
      refine C.icN 89 d45_86 rfl (XT.ii_ne_f (show rm = (1 : Int32) from (own_rm1 er h7 h21))) ?_
      refine C.iload 91 d45_89 rfl ?_
      refine C.iconst 92 (2 : Int32) d45_91 (by decide) ?_
      refine C.iadd 93 d45_92 ?_
      refine C.retI rfl d45_93 (by decide) (by decide) (Or.inl (Nat.le_refl _)) ?_
      have e := own_b1 x1
      refine ⟨by rw [hg, e]; exact congrArg (fun z => some (Value.int z)) (own_gap ys _ 2 rfl), ?_, (OKp.ofWr Ww0).trans (OKp.ofWr Ww1)⟩
      rw [hg, e]
      rw [show x1 % 4 * 16 + 0 / 16 = x1 % 4 * 16 by omega] at Rr
      simpa using Rr
  · skip
    refine C.ifN 10 d45_7 rfl (XT.i0_gt_f h7) ?_
    have hnil : own_b64 ((bs.drop st_).take 3) = [] := by rw [List.drop_eq_nil_of_le (own_le7 er h7)]; rfl
    refine C.iload 12 d45_10 rfl ?_
    refine C.retI rfl d45_12 (by decide) (by decide) (Or.inl (Nat.le_refl _)) ?_
    exact ⟨by rw [hnil]; simp, by rw [hnil]; simpa using Rr, OKp.refl⟩
theorem d46_0 : decode method_3_code 0 = .ok (.iload_n 2, 1) := by decide +kernel
theorem d46_1 : decode method_3_code 1 = .ok (.iload_n 3, 1) := by decide +kernel
theorem d46_2 : decode method_3_code 2 = .ok (.if_icmp .ge 14, 3) := by decide +kernel
theorem d46_5 : decode method_3_code 5 = .ok (.aload_n 0, 1) := by decide +kernel
theorem d46_6 : decode method_3_code 6 = .ok (.iload_n 2, 1) := by decide +kernel
theorem d46_7 : decode method_3_code 7 = .ok (.invokevirtual 46, 3) := by decide +kernel
theorem d46_10 : decode method_3_code 10 = .ok (.aload_n 1, 1) := by decide +kernel
theorem d46_11 : decode method_3_code 11 = .ok (.iload_n 2, 1) := by decide +kernel
theorem d46_12 : decode method_3_code 12 = .ok (.caload, 1) := by decide +kernel
theorem d46_13 : decode method_3_code 13 = .ok (.if_icmp .ne 7, 3) := by decide +kernel
theorem d46_16 : decode method_3_code 16 = .ok (.iconst 1, 1) := by decide +kernel
theorem d46_17 : decode method_3_code 17 = .ok (.goto 4, 3) := by decide +kernel
theorem d46_21 : decode method_3_code 21 = .ok (.ireturn, 1) := by decide +kernel
theorem ef_51 (m : MethodId) (x0 : Nat) (x1 : Nat) (x2 : Int32) (x3 : Int32) : entryFrame m #[(.ref x0), (.ref x1), (.int x2), (.int x3)] 4 = mkF m 0 #[.val (.ref x0), .val (.ref x1), .val (.int x2), .val (.int x3)] [] := by first | (simp [entryFrame, mkF, argsToLocals, Value.category]; done) | rfl
set_option maxRecDepth 65536 in
set_option maxHeartbeats 40000000 in
theorem met_eqa (l : Launch) (Z : State) (a0 : Array Value) (hw : ∀ d ∈ tables_1, d.before a0 Z = true) (EL : List (String × Nat)) (hEL : EW Z a0 EL) (n0 bk : Nat) (h0 : Heap) (hz0 : Z.heap.size ≤ n0) (hn0 : n0 ≤ h0.size) (r : Nat) (ea : Nat) (ba : Nat) (cs : List Int32) (kk : Int32) (k : Nat) (z0 : Int32) (fm : Value) (Sr : Str Z h0 ba r cs) (R : Ar Z h0 ea .char (own_pad 12 cs)) (hkk : kk = Int32.ofNat k) (hk : k < 12) (hl : cs.length ≤ 12) (SC : Sta Z Z.heap "java/lang/String" "COMPACT_STRINGS" "Z" (.int z0)) (hzc : ¬ z0 = 0) (hfm : fm.isRef = true) (SF : Sta Z Z.heap "jdk/internal/util/Preconditions" "SIOOBE_FORMATTER" "Ljava/util/function/BiFunction;" fm) : Met l Z EL (⟨"com/example/edgewise/edgewise/CursorEncodePinLaw", "eqAt", "(Ljava/lang/String;[CII)Z"⟩ : MethodName) method_3_code 4 (some .boolean) [] ({ frames := 4, cells := 0, slots := 0, locals := 53 } : Room) #[(.ref r), (.ref ea), (.int kk), (.int (Int32.ofNat cs.length))] n0 bk h0 (fun _ => bk) (fun v h => v = some (.int 1) ∧ h0 = h) := by
  refine Met.intro (plainFor_of_name pn_8) (fun m => ef_51 m r ea kk (Int32.ofNat cs.length)) hz0 hEL ?_
  intro hE0 p e s m below meth c C
  have Xs := Sr.exa
  refine C.iloadN 1 d46_0 rfl ?_
  refine C.iloadN 2 d46_1 rfl ?_
  rcases Decidable.em (kk < (Int32.ofNat cs.length)) with h2 | h2
  · skip
    refine C.icN 5 d46_2 rfl (XT.ii_ge_f h2) ?_
    have hlt : k < cs.length := (own_ofNat (by omega) (by omega)).2.mp (by rw [← hkk]; exact h2)
    obtain ⟨x1, hx⟩ : ∃ y, cs[k]? = some y := ⟨_, List.getElem?_eq_getElem hlt⟩
    refine C.aloadN 6 d46_5 rfl rfl ?_
    refine C.iloadN 7 d46_6 rfl ?_
    rw [hkk]
    refine C.callV (b := h0.size) 10 [(.int (Int32.ofNat k))] [] d46_7 (met_cha l Z a0 hw EL hEL h0.size bk h0 (by omega) (by omega) r ba cs k x1 z0 fm Sr hx SC hzc hfm SF) Xs (by omega) (Or.inl (Nat.le_refl _)) (hw _ (List.mem_of_getElem? (i := 318) rfl)) (hw _ (List.mem_of_getElem? (i := 319) rfl)) (hw _ (List.mem_of_getElem? (i := 321) rfl)) (hw _ (List.mem_of_getElem? (i := 320) rfl)) (hw _ (List.mem_of_getElem? (i := 3) rfl)) (hw _ (List.mem_of_getElem? (i := 322) rfl)) (fun hZ => notFace_of_selects (args := #[]) (mvT hZ (hw _ (List.mem_of_getElem? (i := 321) rfl)))) (by decide) rfl (lenOf pd__I_rC rfl) (by decide) (W := 0) (Nat.le_of_eq rfl) (by decide) (by decide) (by decide) rfl ?_
    rintro _ h7_1 K7_1 ⟨rfl, rfl⟩
    refine C.aloadN 11 d46_10 rfl rfl ?_
    refine C.iloadN 12 d46_11 rfl ?_
    refine C.caload 13 k d46_12 R rfl (own_padget hx) ?_
    refine C.icN 16 d46_13 rfl (XT.ii_ne_f (show x1 = x1 from rfl)) ?_
    refine C.iconst 17 (1 : Int32) d46_16 (by decide) ?_
    refine C.goto 21 d46_17 (by decide) (by decide) ?_
    refine C.retN (t := .boolean) rfl (by simp) d46_21 (by decide) (by decide) (Or.inl (Nat.le_refl _)) ?_
    exact ⟨rfl, rfl⟩
  · skip
    refine C.icY 16 d46_2 (by decide) (by decide) (XT.ii_ge_t h2) ?_
    refine C.iconst 17 (1 : Int32) d46_16 (by decide) ?_
    refine C.goto 21 d46_17 (by decide) (by decide) ?_
    refine C.retN (t := .boolean) rfl (by simp) d46_21 (by decide) (by decide) (Or.inl (Nat.le_refl _)) ?_
    exact ⟨rfl, rfl⟩
-- @@PART
/-- a byte of a number -/
abbrev own_by (k : Nat) : Int32 := own_lo (Int32.ofNat k)
abbrev own_bys (ks : List Nat) : List Int32 := ks.map own_by
theorem own_bysl (ks : List Nat) : (own_bys ks).length = ks.length := List.length_map _
theorem own_bysget {ks : List Nat} {i x : Nat} (h : ks[i]? = some x) : (own_bys ks)[i]? = some (own_by x) := by rw [own_bys, List.getElem?_map, h]; rfl
theorem own_byneg {k : Nat} (h : k < 256) : (own_by k < 0 ↔ ¬ k < 128) := own_neg k h
theorem own_byfit (k : Nat) : fits .byte (.int (own_by k)) = true := own_fitsb (Int32.ofNat k)
theorem own_ibys (ks : List Nat) : (own_is ks).map own_lo = own_bys ks := by simp [own_is, own_bys, List.map_map]
theorem own_bysa (ks ls : List Nat) : own_bys (ks ++ ls) = own_bys ks ++ own_bys ls := List.map_append
theorem own_sub0' (i : Nat) : Int32.ofNat i - 0 = Int32.ofNat i := Int32.sub_zero _
theorem own_dbl : ∀ n, n < 8 → (Int32.ofNat n <<< ((1 : Int32) &&& 31)) = Int32.ofNat (2 * n) := by decide +kernel
theorem own_bigc : ∀ n, n < 8 → ¬ Int32.ofNat n < 0 ∧ Int32.ofNat n < 1073741823 := by decide +kernel
theorem pn_9 : plainName "java/lang/StringCoding" = true := by first | (simp [plainName, overriddenIn]; done) | decide +kernel
theorem d47_0 : decode jdk_123_method_3_code 0 = .ok (.iload_n 1, 1) := by decide +kernel
theorem d47_1 : decode jdk_123_method_3_code 1 = .ok (.iload_n 2, 1) := by decide +kernel
theorem d47_2 : decode jdk_123_method_3_code 2 = .ok (.iadd, 1) := by decide +kernel
theorem d47_3 : decode jdk_123_method_3_code 3 = .ok (.istore_n 3, 1) := by decide +kernel
theorem d47_4 : decode jdk_123_method_3_code 4 = .ok (.iload_n 1, 1) := by decide +kernel
theorem d47_5 : decode jdk_123_method_3_code 5 = .ok (.istore 4, 2) := by decide +kernel
theorem d47_7 : decode jdk_123_method_3_code 7 = .ok (.iload 4, 2) := by decide +kernel
theorem d47_9 : decode jdk_123_method_3_code 9 = .ok (.iload_n 3, 1) := by decide +kernel
theorem d47_10 : decode jdk_123_method_3_code 10 = .ok (.if_icmp .ge 21, 3) := by decide +kernel
theorem d47_13 : decode jdk_123_method_3_code 13 = .ok (.aload_n 0, 1) := by decide +kernel
theorem d47_14 : decode jdk_123_method_3_code 14 = .ok (.iload 4, 2) := by decide +kernel
theorem d47_16 : decode jdk_123_method_3_code 16 = .ok (.baload, 1) := by decide +kernel
theorem d47_17 : decode jdk_123_method_3_code 17 = .ok (.ifCond .ge 8, 3) := by decide +kernel
theorem d47_20 : decode jdk_123_method_3_code 20 = .ok (.iload 4, 2) := by decide +kernel
theorem d47_22 : decode jdk_123_method_3_code 22 = .ok (.iload_n 1, 1) := by decide +kernel
theorem d47_23 : decode jdk_123_method_3_code 23 = .ok (.isub, 1) := by decide +kernel
theorem d47_24 : decode jdk_123_method_3_code 24 = .ok (.ireturn, 1) := by decide +kernel
theorem d47_25 : decode jdk_123_method_3_code 25 = .ok (.iinc 4 1, 3) := by decide +kernel
theorem d47_28 : decode jdk_123_method_3_code 28 = .ok (.goto (-21), 3) := by decide +kernel
theorem d47_31 : decode jdk_123_method_3_code 31 = .ok (.iload_n 2, 1) := by decide +kernel
theorem d47_32 : decode jdk_123_method_3_code 32 = .ok (.ireturn, 1) := by decide +kernel
theorem ef_52 (m : MethodId) (x0 : Nat) (x1 : Int32) (x2 : Int32) : entryFrame m #[(.ref x0), (.int x1), (.int x2)] 5 = mkF m 0 #[.val (.ref x0), .val (.int x1), .val (.int x2), .unset, .unset] [] := by first | (simp [entryFrame, mkF, argsToLocals, Value.category]; done) | rfl
set_option maxRecDepth 65536 in
set_option maxHeartbeats 40000000 in
theorem met_cpv (l : Launch) (Z : State) (a0 : Array Value) (hw : ∀ d ∈ tables_1, d.before a0 Z = true) (EL : List (String × Nat)) (hEL : EW Z a0 EL) (n0 bk : Nat) (h0 : Heap) (hz0 : Z.heap.size ≤ n0) (hn0 : n0 ≤ h0.size) (t : Nat) (ks : List Nat) (R : Ar Z h0 t .byte (own_bys ks)) (hk : ∀ k ∈ ks, k < 256) (hl : ks.length ≤ 7) : Met l Z EL (⟨"java/lang/StringCoding", "countPositives", "([BII)I"⟩ : MethodName) jdk_123_method_3_code 5 (some .int) [] ({ frames := 0, cells := 0, slots := 0, locals := 0 } : Room) #[(.ref t), (.int (0 : Int32)), (.int (Int32.ofNat ks.length))] n0 bk h0 (fun _ => bk) (fun v h => ∃ r : Nat, v = some (.int (Int32.ofNat r)) ∧ r ≤ ks.length ∧ (r = ks.length ↔ ∀ k ∈ ks, k < 128) ∧ h0 = h) := by
  refine Met.intro (plainFor_of_name pn_9) (fun m => ef_52 m t (0 : Int32) (Int32.ofNat ks.length)) hz0 hEL ?_
  intro hE0 p e s m below meth c C
  have L7 : ∀ (n : Nat), ∀ (i : Nat), (ks.length - i = n) → (i ≤ ks.length) → (∀ j y, j < i → ks[j]? = some y → y < 128) → Go p l e ({ frames := 0, cells := 0, slots := 0, locals := 0 } : Room) s m #[(.ref t), (.int (0 : Int32)), (.int (Int32.ofNat ks.length))] below meth c Z "java/lang/StringCoding" EL n0 (fun _ => bk) (fun v h => ∃ r : Nat, v = some (.int (Int32.ofNat r)) ∧ r ≤ ks.length ∧ (r = ks.length ↔ ∀ k ∈ ks, k < 128) ∧ h0 = h) bk h0 0 0 7 #[.val (.ref t), .val (.int (0 : Int32)), .val (.int (Int32.ofNat ks.length)), .val (.int (Int32.ofNat ks.length)), .val (.int (Int32.ofNat i))] [] := by
    intro n
    induction n using Nat.strongRecOn with
    | ind n ih =>
      intro i hn hi he
      refine C.iload 9 d47_7 rfl ?_
      refine C.iloadN 10 d47_9 rfl ?_
      rcases Decidable.em ((Int32.ofNat i) < (Int32.ofNat ks.length)) with h10 | h10
      · skip
        refine C.icN 13 d47_10 rfl (XT.ii_ge_f h10) ?_
        have hlt : i < ks.length := (own_ofNat (by omega) (by omega)).2.mp h10
        obtain ⟨x1, hx1⟩ : ∃ y, ks[i]? = some y := ⟨_, List.getElem?_eq_getElem hlt⟩
        have hr1 : x1 < 256 := hk x1 (List.mem_of_getElem? hx1)
        refine C.aloadN 14 d47_13 rfl rfl ?_
        refine C.iload 16 d47_14 rfl ?_
        refine C.baload 17 i d47_16 R rfl (own_bysget hx1) ?_
        rcases Decidable.em ((own_by x1) < 0) with h17 | h17
        · skip
          refine C.ifN 20 d47_17 rfl (XT.i0_ge_f h17) ?_
          refine C.iload 22 d47_20 rfl ?_
          refine C.iloadN 23 d47_22 rfl ?_
          refine C.isub 24 d47_23 ?_
          refine C.retI rfl d47_24 (by decide) (by decide) (Or.inl (Nat.le_refl _)) ?_
          refine ⟨i, by rw [own_sub0'], by omega, ⟨fun q => by omega, fun q => ?_⟩, rfl⟩
          exact absurd (q x1 (List.mem_of_getElem? hx1)) ((own_byneg hr1).mp h17)
        · skip
          refine C.ifY 25 d47_17 (by decide) (by decide) (XT.i0_ge_t h17) ?_
          refine C.iinc 28 (L' := #[.val (.ref t), .val (.int (0 : Int32)), .val (.int (Int32.ofNat ks.length)), .val (.int (Int32.ofNat ks.length)), .val (.int ((Int32.ofNat i) + (1 : Int32)))]) (1 : Int32) d47_25 (by decide) rfl rfl ?_
          refine C.goto 7 d47_28 (by decide) (by decide) ?_
          rw [own_succ i]
          exact ih _ (show ks.length - (i + 1) < n by omega) (i + 1) rfl (by omega) (fun j y hj hy => by
            by_cases q : j = i
            · subst q; cases hx1.symm.trans hy; exact Decidable.byContradiction fun r => h17 ((own_byneg hr1).mpr r)
            · exact he j y (by omega) hy)
      · skip
        refine C.icY 31 d47_10 (by decide) (by decide) (XT.ii_ge_t h10) ?_
        have hge : ¬ i < ks.length := fun q => h10 ((own_ofNat (by omega) (by omega)).2.mpr q)
        refine C.iloadN 32 d47_31 rfl ?_
        refine C.retI rfl d47_32 (by decide) (by decide) (Or.inl (Nat.le_refl _)) ?_
        refine ⟨ks.length, rfl, Nat.le_refl _, ⟨fun _ k hk2 => ?_, fun _ => rfl⟩, rfl⟩
        obtain ⟨j, hj⟩ := List.mem_iff_getElem?.mp hk2
        exact he j k (by have := (List.getElem?_eq_some_iff.mp hj).1; omega) hj
  refine C.iloadN 1 d47_0 rfl ?_
  refine C.iloadN 2 d47_1 rfl ?_
  refine C.iadd 3 d47_2 ?_
  refine C.istoreN 4 (L' := #[.val (.ref t), .val (.int (0 : Int32)), .val (.int (Int32.ofNat ks.length)), .val (.int ((0 : Int32) + (Int32.ofNat ks.length))), .unset]) d47_3 rfl ?_
  refine C.iloadN 5 d47_4 rfl ?_
  refine C.istore 7 (L' := #[.val (.ref t), .val (.int (0 : Int32)), .val (.int (Int32.ofNat ks.length)), .val (.int ((0 : Int32) + (Int32.ofNat ks.length))), .val (.int (0 : Int32))]) d47_5 rfl ?_
  rw [Int32.zero_add]
  exact L7 _ 0 rfl (Nat.zero_le _) (fun j y hj => absurd hj (Nat.not_lt_zero _))
theorem pd__ABII_rI : parseMethodDescriptor "([BII)I" = some ⟨[(.array .byte), .int, .int], some .int⟩ := by decide +kernel
theorem d48_0 : decode jdk_123_method_2_code 0 = .ok (.aload_n 0, 1) := by decide +kernel
theorem d48_1 : decode jdk_123_method_2_code 1 = .ok (.iload_n 1, 1) := by decide +kernel
theorem d48_2 : decode jdk_123_method_2_code 2 = .ok (.iload_n 2, 1) := by decide +kernel
theorem d48_3 : decode jdk_123_method_2_code 3 = .ok (.invokestatic 7, 3) := by decide +kernel
theorem d48_6 : decode jdk_123_method_2_code 6 = .ok (.iload_n 2, 1) := by decide +kernel
theorem d48_7 : decode jdk_123_method_2_code 7 = .ok (.if_icmp .eq 7, 3) := by decide +kernel
theorem d48_10 : decode jdk_123_method_2_code 10 = .ok (.iconst 1, 1) := by decide +kernel
theorem d48_11 : decode jdk_123_method_2_code 11 = .ok (.goto 4, 3) := by decide +kernel
theorem d48_14 : decode jdk_123_method_2_code 14 = .ok (.iconst 0, 1) := by decide +kernel
theorem d48_15 : decode jdk_123_method_2_code 15 = .ok (.ireturn, 1) := by decide +kernel
theorem ef_53 (m : MethodId) (x0 : Nat) (x1 : Int32) (x2 : Int32) : entryFrame m #[(.ref x0), (.int x1), (.int x2)] 3 = mkF m 0 #[.val (.ref x0), .val (.int x1), .val (.int x2)] [] := by first | (simp [entryFrame, mkF, argsToLocals, Value.category]; done) | rfl
set_option maxRecDepth 65536 in
set_option maxHeartbeats 40000000 in
theorem met_hneg (l : Launch) (Z : State) (a0 : Array Value) (hw : ∀ d ∈ tables_1, d.before a0 Z = true) (EL : List (String × Nat)) (hEL : EW Z a0 EL) (n0 bk : Nat) (h0 : Heap) (hz0 : Z.heap.size ≤ n0) (hn0 : n0 ≤ h0.size) (t : Nat) (ks : List Nat) (R : Ar Z h0 t .byte (own_bys ks)) (hk : ∀ k ∈ ks, k < 256) (hl : ks.length ≤ 7) : Met l Z EL (⟨"java/lang/StringCoding", "hasNegatives", "([BII)Z"⟩ : MethodName) jdk_123_method_2_code 3 (some .boolean) [] ({ frames := 1, cells := 0, slots := 0, locals := 16 } : Room) #[(.ref t), (.int (0 : Int32)), (.int (Int32.ofNat ks.length))] n0 bk h0 (fun _ => bk) (fun v h => ∃ r, v = some (.int r) ∧ OB r (¬ ∀ k ∈ ks, k < 128) ∧ h0 = h) := by
  refine Met.intro (plainFor_of_name pn_9) (fun m => ef_53 m t (0 : Int32) (Int32.ofNat ks.length)) hz0 hEL ?_
  intro hE0 p e s m below meth c C
  refine C.aloadN 1 d48_0 rfl rfl ?_
  refine C.iloadN 2 d48_1 rfl ?_
  refine C.iloadN 3 d48_2 rfl ?_
  refine C.callS (b := h0.size) 6 [(.ref t), (.int (0 : Int32)), (.int (Int32.ofNat ks.length))] [] d48_3 (met_cpv l Z a0 hw EL hEL h0.size bk h0 (by omega) (by omega) t ks R hk hl) (by omega) (Or.inl (Nat.le_refl _)) (hw _ (List.mem_of_getElem? (i := 248) rfl)) (hw _ (List.mem_of_getElem? (i := 249) rfl)) (hw _ (List.mem_of_getElem? (i := 246) rfl)) (hw _ (List.mem_of_getElem? (i := 250) rfl)) (by decide) rfl (lenOf pd__ABII_rI rfl) (by decide) (W := 0) (Nat.le_of_eq rfl) (by decide) (by decide) (by decide) rfl ?_
  rintro _ h3_1 K3_1 ⟨r, rfl, rl, rr, rfl⟩
  refine C.iloadN 7 d48_6 rfl ?_
  rcases Decidable.em ((Int32.ofNat r) = (Int32.ofNat ks.length)) with h7 | h7
  · skip
    refine C.icY 14 d48_7 (by decide) (by decide) (XT.ii_eq_t h7) ?_
    refine C.iconst 15 (0 : Int32) d48_14 (by decide) ?_
    refine C.retN (t := .boolean) rfl (by simp) d48_15 (by decide) (by decide) (Or.inl (Nat.le_refl _)) ?_
    exact ⟨0, rfl, Or.inr ⟨rfl, fun q => q (rr.mp ((own_ofNat (by omega) (by omega)).1.mp h7))⟩, rfl⟩
  · skip
    refine C.icN 10 d48_7 rfl (XT.ii_eq_f h7) ?_
    refine C.iconst 11 (1 : Int32) d48_10 (by decide) ?_
    refine C.goto 15 d48_11 (by decide) (by decide) ?_
    refine C.retN (t := .boolean) rfl (by simp) d48_15 (by decide) (by decide) (Or.inl (Nat.le_refl _)) ?_
    exact ⟨1, rfl, Or.inl ⟨rfl, fun q => h7 ((own_ofNat (by omega) (by omega)).1.mpr (rr.mpr q))⟩, rfl⟩
theorem d49_0 : decode jdk_52_method_3_code 0 = .ok (.iload_n 0, 1) := by decide +kernel
theorem d49_1 : decode jdk_52_method_3_code 1 = .ok (.ifCond .ge 11, 3) := by decide +kernel
theorem d49_12 : decode jdk_52_method_3_code 12 = .ok (.iload_n 0, 1) := by decide +kernel
theorem d49_13 : decode jdk_52_method_3_code 13 = .ok (.ldc 20, 2) := by decide +kernel
theorem d49_15 : decode jdk_52_method_3_code 15 = .ok (.if_icmp .lt 40, 3) := by decide +kernel
theorem d49_55 : decode jdk_52_method_3_code 55 = .ok (.iload_n 0, 1) := by decide +kernel
theorem d49_56 : decode jdk_52_method_3_code 56 = .ok (.iconst 1, 1) := by decide +kernel
theorem d49_57 : decode jdk_52_method_3_code 57 = .ok (.ishl, 1) := by decide +kernel
theorem d49_58 : decode jdk_52_method_3_code 58 = .ok (.ireturn, 1) := by decide +kernel
theorem ef_54 (m : MethodId) (x0 : Int32) : entryFrame m #[(.int x0)] 1 = mkF m 0 #[.val (.int x0)] [] := by first | (simp [entryFrame, mkF, argsToLocals, Value.category]; done) | rfl
set_option maxRecDepth 65536 in
set_option maxHeartbeats 40000000 in
theorem met_nbl (l : Launch) (Z : State) (a0 : Array Value) (hw : ∀ d ∈ tables_1, d.before a0 Z = true) (EL : List (String × Nat)) (hEL : EW Z a0 EL) (n0 bk : Nat) (h0 : Heap) (hz0 : Z.heap.size ≤ n0) (hn0 : n0 ≤ h0.size) (n : Nat) (hn : n < 8) : Met l Z EL (⟨"java/lang/StringUTF16", "newBytesLength", "(I)I"⟩ : MethodName) jdk_52_method_3_code 1 (some .int) [] ({ frames := 0, cells := 0, slots := 0, locals := 0 } : Room) #[(.int (Int32.ofNat n))] n0 bk h0 (fun _ => bk) (fun v h => v = some (.int (Int32.ofNat (2 * n))) ∧ h0 = h) := by
  refine Met.intro (plainFor_of_name pn_3) (fun m => ef_54 m (Int32.ofNat n)) hz0 hEL ?_
  intro hE0 p e s m below meth c C
  refine C.iloadN 1 d49_0 rfl ?_
  refine C.ifY 12 d49_1 (by decide) (by decide) (XT.i0_ge_t (show ¬ ((Int32.ofNat n) < 0) from (own_bigc n hn).1)) ?_
  refine C.iloadN 13 d49_12 rfl ?_
  refine C.ldcI 15 d49_13 (hw _ (List.mem_of_getElem? (i := 339) rfl)) ?_
  refine C.icY 55 d49_15 (by decide) (by decide) (XT.ii_lt_t (show (Int32.ofNat n) < (1073741823 : Int32) from (own_bigc n hn).2)) ?_
  refine C.iloadN 56 d49_55 rfl ?_
  refine C.iconst 57 (1 : Int32) d49_56 (by decide) ?_
  refine C.ishl 58 d49_57 ?_
  refine C.retI rfl d49_58 (by decide) (by decide) (Or.inl (Nat.le_refl _)) ?_
  exact ⟨by rw [own_dbl n hn], rfl⟩
theorem pd__I_rI : parseMethodDescriptor "(I)I" = some ⟨[.int], some .int⟩ := by decide +kernel
theorem d50_0 : decode jdk_52_method_2_code 0 = .ok (.iload_n 0, 1) := by decide +kernel
theorem d50_1 : decode jdk_52_method_2_code 1 = .ok (.invokestatic 11, 3) := by decide +kernel
theorem d50_4 : decode jdk_52_method_2_code 4 = .ok (.newarray .byte, 2) := by decide +kernel
theorem d50_6 : decode jdk_52_method_2_code 6 = .ok (.areturn, 1) := by decide +kernel
theorem ef_55 (m : MethodId) (x0 : Int32) : entryFrame m #[(.int x0)] 1 = mkF m 0 #[.val (.int x0)] [] := by first | (simp [entryFrame, mkF, argsToLocals, Value.category]; done) | rfl
set_option maxRecDepth 65536 in
set_option maxHeartbeats 40000000 in
theorem met_nbf (l : Launch) (Z : State) (a0 : Array Value) (hw : ∀ d ∈ tables_1, d.before a0 Z = true) (EL : List (String × Nat)) (hEL : EW Z a0 EL) (n0 bk : Nat) (h0 : Heap) (hz0 : Z.heap.size ≤ n0) (hn0 : n0 ≤ h0.size) (n : Nat) (hn : n < 8) (hbk : bk ≤ h0.size) : Met l Z EL (⟨"java/lang/StringUTF16", "newBytesFor", "(I)[B"⟩ : MethodName) jdk_52_method_2_code 1 (some (.array .byte)) [] ({ frames := 1, cells := 1, slots := 14, locals := 12 } : Room) #[(.int (Int32.ofNat n))] n0 bk h0 (fun _ => bk) (fun v h => ∃ u, v = some (.ref u) ∧ h0.size ≤ u ∧ Ar Z h u .byte (own_pad (2 * n) [])) := by
  refine Met.intro (plainFor_of_name pn_3) (fun m => ef_55 m (Int32.ofNat n)) hz0 hEL ?_
  intro hE0 p e s m below meth c C
  refine C.iloadN 1 d50_0 rfl ?_
  refine C.callS (b := h0.size) 4 [(.int (Int32.ofNat n))] [] d50_1 (met_nbl l Z a0 hw EL hEL h0.size bk h0 (by omega) (by omega) n hn) (by omega) (Or.inl (Nat.le_refl _)) (hw _ (List.mem_of_getElem? (i := 336) rfl)) (hw _ (List.mem_of_getElem? (i := 337) rfl)) (hw _ (List.mem_of_getElem? (i := 334) rfl)) (hw _ (List.mem_of_getElem? (i := 338) rfl)) (by decide) rfl (lenOf pd__I_rI rfl) (by decide) (W := 0) (Nat.le_of_eq rfl) (by decide) (by decide) (by decide) rfl ?_
  rintro _ h1_1 K1_1 ⟨rfl, rfl⟩
  refine C.newarr (zn := (2 * n)) (cap := 14) 6 d50_4 (hw _ (List.mem_of_getElem? (i := 15) rfl)) rfl (by omega) (by decide) rfl (by decide) (by decide) (by decide) ?_
  intro u h1 g_u E1 R_u
  replace R_u : Ar Z h1 u .byte (List.replicate (2 * n) 0) := R_u
  have lt_u : u < h1.size := R_u.lt
  have sz_h1 : h0.size ≤ h1.size := E1.1
  refine C.retA rfl rfl d50_6 rfl (by decide) (by decide) (Or.inl (Nat.le_refl _)) ?_
  exact ⟨u, rfl, by omega, R_u⟩
theorem d51_0 : decode jdk_65_method_121_code 0 = .ok (.iload_n 1, 1) := by decide +kernel
theorem d51_1 : decode jdk_65_method_121_code 1 = .ok (.aload_n 0, 1) := by decide +kernel
theorem d51_2 : decode jdk_65_method_121_code 2 = .ok (.arraylength, 1) := by decide +kernel
theorem d51_3 : decode jdk_65_method_121_code 3 = .ok (.if_icmp .ne 11, 3) := by decide +kernel
theorem d51_14 : decode jdk_65_method_121_code 14 = .ok (.iload_n 1, 1) := by decide +kernel
theorem d51_15 : decode jdk_65_method_121_code 15 = .ok (.newarray .byte, 2) := by decide +kernel
theorem d51_17 : decode jdk_65_method_121_code 17 = .ok (.astore_n 2, 1) := by decide +kernel
theorem d51_18 : decode jdk_65_method_121_code 18 = .ok (.aload_n 0, 1) := by decide +kernel
theorem d51_19 : decode jdk_65_method_121_code 19 = .ok (.iconst 0, 1) := by decide +kernel
theorem d51_20 : decode jdk_65_method_121_code 20 = .ok (.aload_n 2, 1) := by decide +kernel
theorem d51_21 : decode jdk_65_method_121_code 21 = .ok (.iconst 0, 1) := by decide +kernel
theorem d51_22 : decode jdk_65_method_121_code 22 = .ok (.aload_n 0, 1) := by decide +kernel
theorem d51_23 : decode jdk_65_method_121_code 23 = .ok (.arraylength, 1) := by decide +kernel
theorem d51_24 : decode jdk_65_method_121_code 24 = .ok (.iload_n 1, 1) := by decide +kernel
theorem d51_25 : decode jdk_65_method_121_code 25 = .ok (.invokestatic 304, 3) := by decide +kernel
theorem d51_28 : decode jdk_65_method_121_code 28 = .ok (.invokestatic 150, 3) := by decide +kernel
theorem d51_31 : decode jdk_65_method_121_code 31 = .ok (.aload_n 2, 1) := by decide +kernel
theorem d51_32 : decode jdk_65_method_121_code 32 = .ok (.areturn, 1) := by decide +kernel
theorem ef_56 (m : MethodId) (x0 : Nat) (x1 : Int32) : entryFrame m #[(.ref x0), (.int x1)] 3 = mkF m 0 #[.val (.ref x0), .val (.int x1), .unset] [] := by first | (simp [entryFrame, mkF, argsToLocals, Value.category]; done) | rfl
set_option maxRecDepth 65536 in
set_option maxHeartbeats 40000000 in
theorem met_cpo (l : Launch) (Z : State) (a0 : Array Value) (hw : ∀ d ∈ tables_1, d.before a0 Z = true) (EL : List (String × Nat)) (hEL : EW Z a0 EL) (n0 bk : Nat) (h0 : Heap) (hz0 : Z.heap.size ≤ n0) (hn0 : n0 ≤ h0.size) (t : Nat) (xs : List Int32) (i : Nat) (R : Ar Z h0 t .byte xs) (hi : i < xs.length) (hc : i ≤ 14) (hbk : bk ≤ h0.size) : Met l Z EL (⟨"java/util/Arrays", "copyOf", "([BI)[B"⟩ : MethodName) jdk_65_method_121_code 3 (some (.array .byte)) [] ({ frames := 1, cells := 1, slots := 14, locals := 18 } : Room) #[(.ref t), (.int (Int32.ofNat i))] n0 bk h0 (fun _ => bk) (fun v h => ∃ u, v = some (.ref u) ∧ h0.size ≤ u ∧ Ar Z h u .byte (xs.take i)) := by
  refine Met.intro (plainFor_of_name pn_6) (fun m => ef_56 m t (Int32.ofNat i)) hz0 hEL ?_
  intro hE0 p e s m below meth c C
  have lt : (_ : Nat) < _ := R.lt
  have lx := own_arlen R
  refine C.iloadN 1 d51_0 rfl ?_
  refine C.aloadN 2 d51_1 rfl rfl ?_
  refine C.alen 3 d51_2 R rfl ?_
  refine C.icY 14 d51_3 (by decide) (by decide) (XT.ii_ne_t (show ¬ ((Int32.ofNat i) = (Int32.ofNat xs.length)) from (fun q => by have := (own_ofNat (by omega) lx).1.mp q; omega))) ?_
  refine C.iloadN 15 d51_14 rfl ?_
  refine C.newarr (zn := i) (cap := 14) 17 d51_15 (hw _ (List.mem_of_getElem? (i := 15) rfl)) rfl hc (by decide) rfl (by decide) (by decide) (by decide) ?_
  intro u h1 g_u E1 R_u
  replace R_u : Ar Z h1 u .byte (List.replicate i 0) := R_u
  have lt_u : u < h1.size := R_u.lt
  have sz_h1 : h0.size ≤ h1.size := E1.1
  replace R := R.ext E1
  refine C.astoreN 18 (L' := #[.val (.ref t), .val (.int (Int32.ofNat i)), .val (.ref u)]) d51_17 rfl rfl ?_
  refine C.aloadN 19 d51_18 rfl rfl ?_
  refine C.iconst 20 (0 : Int32) d51_19 (by decide) ?_
  refine C.aloadN 21 d51_20 rfl rfl ?_
  refine C.iconst 22 (0 : Int32) d51_21 (by decide) ?_
  refine C.aloadN 23 d51_22 rfl rfl ?_
  refine C.alen 24 d51_23 R rfl ?_
  refine C.iloadN 25 d51_24 rfl ?_
  refine C.callS (b := h1.size) 28 [(.int (Int32.ofNat xs.length)), (.int (Int32.ofNat i))] [(.int (0 : Int32)), (.ref u), (.int (0 : Int32)), (.ref t)] d51_25 (met_min l Z a0 hw EL hEL h1.size bk h1 (by omega) (by omega) _ _) (by omega) (Or.inl (Nat.le_refl _)) (hw _ (List.mem_of_getElem? (i := 221) rfl)) (hw _ (List.mem_of_getElem? (i := 100) rfl)) (hw _ (List.mem_of_getElem? (i := 97) rfl)) (hw _ (List.mem_of_getElem? (i := 101) rfl)) (by decide) rfl (lenOf pd__II_rI rfl) (by decide) (W := 4) (Nat.le_of_eq rfl) (by decide) (by decide) (by decide) rfl ?_
  rintro _ h25_4 K25_4 ⟨rfl, rfl⟩
  rw [if_pos ((own_ofNat (by omega) lx).2.mpr hi)]
  refine C.acopy (si := 0) (di := 0) (ni := i) (W := 0) 31 d51_28 (hw _ (List.mem_of_getElem? (i := 222) rfl)) (hw _ (List.mem_of_getElem? (i := 169) rfl)) (hw _ (List.mem_of_getElem? (i := 167) rfl)) (hw _ (List.mem_of_getElem? (i := 168) rfl)) R R_u rfl rfl rfl rfl (by omega) (by simp) (by omega) (Or.inl (by omega)) rfl (by decide) (Nat.le_of_eq rfl) (by decide) ?_
  intro h2 K2 N2 Y2
  have sz_h2 : h1.size ≤ h2.size := K2.1
  replace R := R.kp K2 (by first | omega | (dsimp only; omega))
  replace R_u : Ar Z h2 u .byte (xs.take i) := (by have q := N2; simpa using q)
  refine C.aloadN 32 d51_31 rfl rfl ?_
  refine C.retA rfl rfl d51_32 rfl (by decide) (by decide) (Or.inl (Nat.le_refl _)) ?_
  exact ⟨u, rfl, by omega, R_u⟩
theorem own_padtake {cap : Nat} {ys : List Int32} : (own_pad cap ys).take ys.length = ys := by unfold own_pad; rw [List.take_append_of_le_length (Nat.le_refl _), List.take_length]
theorem own_ulen {ks : List Nat} {i : Nat} (hi : i ≤ ks.length) : (own_utf (ks.take i)).length ≤ 2 * i := by
  have q := own_utfl (ks.take i)
  rw [List.length_take, Nat.min_eq_left hi] at q
  omega
theorem own_ut1 {ks : List Nat} {x : Nat} (h : ks[0]? = some x) : own_utf (ks.take 1) = own_u8 x := own_utft (i := 0) h
theorem pd__I_rAB : parseMethodDescriptor "(I)[B" = some ⟨[.int], some (.array .byte)⟩ := by decide +kernel
theorem pd__ABI_rAB : parseMethodDescriptor "([BI)[B" = some ⟨[(.array .byte), .int], some (.array .byte)⟩ := by decide +kernel
theorem pd__ABII_rZ : parseMethodDescriptor "([BII)Z" = some ⟨[(.array .byte), .int, .int], some .boolean⟩ := by decide +kernel
theorem d52_0 : decode jdk_42_method_46_code 0 = .ok (.iload_n 0, 1) := by decide +kernel
theorem d52_1 : decode jdk_42_method_46_code 1 = .ok (.iconst 1, 1) := by decide +kernel
theorem d52_2 : decode jdk_42_method_46_code 2 = .ok (.if_icmp .ne 9, 3) := by decide +kernel
theorem d52_11 : decode jdk_42_method_46_code 11 = .ok (.aload_n 1, 1) := by decide +kernel
theorem d52_12 : decode jdk_42_method_46_code 12 = .ok (.iconst 0, 1) := by decide +kernel
theorem d52_13 : decode jdk_42_method_46_code 13 = .ok (.aload_n 1, 1) := by decide +kernel
theorem d52_14 : decode jdk_42_method_46_code 14 = .ok (.arraylength, 1) := by decide +kernel
theorem d52_15 : decode jdk_42_method_46_code 15 = .ok (.invokestatic 128, 3) := by decide +kernel
theorem d52_18 : decode jdk_42_method_46_code 18 = .ok (.ifCond .ne 11, 3) := by decide +kernel
theorem d52_21 : decode jdk_42_method_46_code 21 = .ok (.aload_n 1, 1) := by decide +kernel
theorem d52_22 : decode jdk_42_method_46_code 22 = .ok (.invokevirtual 279, 3) := by decide +kernel
theorem d52_25 : decode jdk_42_method_46_code 25 = .ok (.checkcast 280, 3) := by decide +kernel
theorem d52_28 : decode jdk_42_method_46_code 28 = .ok (.areturn, 1) := by decide +kernel
theorem d52_29 : decode jdk_42_method_46_code 29 = .ok (.iconst 0, 1) := by decide +kernel
theorem d52_30 : decode jdk_42_method_46_code 30 = .ok (.istore_n 3, 1) := by decide +kernel
theorem d52_31 : decode jdk_42_method_46_code 31 = .ok (.aload_n 1, 1) := by decide +kernel
theorem d52_32 : decode jdk_42_method_46_code 32 = .ok (.arraylength, 1) := by decide +kernel
theorem d52_33 : decode jdk_42_method_46_code 33 = .ok (.invokestatic 60, 3) := by decide +kernel
theorem d52_36 : decode jdk_42_method_46_code 36 = .ok (.astore 4, 2) := by decide +kernel
theorem d52_38 : decode jdk_42_method_46_code 38 = .ok (.aload_n 1, 1) := by decide +kernel
theorem d52_39 : decode jdk_42_method_46_code 39 = .ok (.astore 5, 2) := by decide +kernel
theorem d52_41 : decode jdk_42_method_46_code 41 = .ok (.aload 5, 2) := by decide +kernel
theorem d52_43 : decode jdk_42_method_46_code 43 = .ok (.arraylength, 1) := by decide +kernel
theorem d52_44 : decode jdk_42_method_46_code 44 = .ok (.istore 6, 2) := by decide +kernel
theorem d52_46 : decode jdk_42_method_46_code 46 = .ok (.iconst 0, 1) := by decide +kernel
theorem d52_47 : decode jdk_42_method_46_code 47 = .ok (.istore 7, 2) := by decide +kernel
theorem d52_49 : decode jdk_42_method_46_code 49 = .ok (.iload 7, 2) := by decide +kernel
theorem d52_51 : decode jdk_42_method_46_code 51 = .ok (.iload 6, 2) := by decide +kernel
theorem d52_53 : decode jdk_42_method_46_code 53 = .ok (.if_icmp .ge 71, 3) := by decide +kernel
theorem d52_56 : decode jdk_42_method_46_code 56 = .ok (.aload 5, 2) := by decide +kernel
theorem d52_58 : decode jdk_42_method_46_code 58 = .ok (.iload 7, 2) := by decide +kernel
theorem d52_60 : decode jdk_42_method_46_code 60 = .ok (.baload, 1) := by decide +kernel
theorem d52_61 : decode jdk_42_method_46_code 61 = .ok (.istore 8, 2) := by decide +kernel
theorem d52_63 : decode jdk_42_method_46_code 63 = .ok (.iload 8, 2) := by decide +kernel
theorem d52_65 : decode jdk_42_method_46_code 65 = .ok (.ifCond .ge 44, 3) := by decide +kernel
theorem d52_68 : decode jdk_42_method_46_code 68 = .ok (.aload 4, 2) := by decide +kernel
theorem d52_70 : decode jdk_42_method_46_code 70 = .ok (.iload_n 3, 1) := by decide +kernel
theorem d52_71 : decode jdk_42_method_46_code 71 = .ok (.iinc 3 1, 3) := by decide +kernel
theorem d52_74 : decode jdk_42_method_46_code 74 = .ok (.sipush 192, 3) := by decide +kernel
theorem d52_77 : decode jdk_42_method_46_code 77 = .ok (.iload 8, 2) := by decide +kernel
theorem d52_79 : decode jdk_42_method_46_code 79 = .ok (.sipush 255, 3) := by decide +kernel
theorem d52_82 : decode jdk_42_method_46_code 82 = .ok (.iand, 1) := by decide +kernel
theorem d52_83 : decode jdk_42_method_46_code 83 = .ok (.bipush 6, 2) := by decide +kernel
theorem d52_85 : decode jdk_42_method_46_code 85 = .ok (.ishr, 1) := by decide +kernel
theorem d52_86 : decode jdk_42_method_46_code 86 = .ok (.ior, 1) := by decide +kernel
theorem d52_87 : decode jdk_42_method_46_code 87 = .ok (.i2b, 1) := by decide +kernel
theorem d52_88 : decode jdk_42_method_46_code 88 = .ok (.bastore, 1) := by decide +kernel
theorem d52_89 : decode jdk_42_method_46_code 89 = .ok (.aload 4, 2) := by decide +kernel
theorem d52_91 : decode jdk_42_method_46_code 91 = .ok (.iload_n 3, 1) := by decide +kernel
theorem d52_92 : decode jdk_42_method_46_code 92 = .ok (.iinc 3 1, 3) := by decide +kernel
theorem d52_95 : decode jdk_42_method_46_code 95 = .ok (.sipush 128, 3) := by decide +kernel
theorem d52_98 : decode jdk_42_method_46_code 98 = .ok (.iload 8, 2) := by decide +kernel
theorem d52_100 : decode jdk_42_method_46_code 100 = .ok (.bipush 63, 2) := by decide +kernel
theorem d52_102 : decode jdk_42_method_46_code 102 = .ok (.iand, 1) := by decide +kernel
theorem d52_103 : decode jdk_42_method_46_code 103 = .ok (.ior, 1) := by decide +kernel
theorem d52_104 : decode jdk_42_method_46_code 104 = .ok (.i2b, 1) := by decide +kernel
theorem d52_105 : decode jdk_42_method_46_code 105 = .ok (.bastore, 1) := by decide +kernel
theorem d52_106 : decode jdk_42_method_46_code 106 = .ok (.goto 12, 3) := by decide +kernel
theorem d52_109 : decode jdk_42_method_46_code 109 = .ok (.aload 4, 2) := by decide +kernel
theorem d52_111 : decode jdk_42_method_46_code 111 = .ok (.iload_n 3, 1) := by decide +kernel
theorem d52_112 : decode jdk_42_method_46_code 112 = .ok (.iinc 3 1, 3) := by decide +kernel
theorem d52_115 : decode jdk_42_method_46_code 115 = .ok (.iload 8, 2) := by decide +kernel
theorem d52_117 : decode jdk_42_method_46_code 117 = .ok (.bastore, 1) := by decide +kernel
theorem d52_118 : decode jdk_42_method_46_code 118 = .ok (.iinc 7 1, 3) := by decide +kernel
theorem d52_121 : decode jdk_42_method_46_code 121 = .ok (.goto (-72), 3) := by decide +kernel
theorem d52_124 : decode jdk_42_method_46_code 124 = .ok (.iload_n 3, 1) := by decide +kernel
theorem d52_125 : decode jdk_42_method_46_code 125 = .ok (.aload 4, 2) := by decide +kernel
theorem d52_127 : decode jdk_42_method_46_code 127 = .ok (.arraylength, 1) := by decide +kernel
theorem d52_128 : decode jdk_42_method_46_code 128 = .ok (.if_icmp .ne 6, 3) := by decide +kernel
theorem d52_131 : decode jdk_42_method_46_code 131 = .ok (.aload 4, 2) := by decide +kernel
theorem d52_133 : decode jdk_42_method_46_code 133 = .ok (.areturn, 1) := by decide +kernel
theorem d52_134 : decode jdk_42_method_46_code 134 = .ok (.aload 4, 2) := by decide +kernel
theorem d52_136 : decode jdk_42_method_46_code 136 = .ok (.iload_n 3, 1) := by decide +kernel
theorem d52_137 : decode jdk_42_method_46_code 137 = .ok (.invokestatic 102, 3) := by decide +kernel
theorem d52_140 : decode jdk_42_method_46_code 140 = .ok (.areturn, 1) := by decide +kernel
theorem ef_57 (m : MethodId) (x0 : Int32) (x1 : Nat) (x2 : Int32) : entryFrame m #[(.int x0), (.ref x1), (.int x2)] 9 = mkF m 0 #[.val (.int x0), .val (.ref x1), .val (.int x2), .unset, .unset, .unset, .unset, .unset, .unset] [] := by first | (simp [entryFrame, mkF, argsToLocals, Value.category]; done) | rfl
set_option maxRecDepth 65536 in
set_option maxHeartbeats 40000000 in
theorem met_eu8 (l : Launch) (Z : State) (a0 : Array Value) (hw : ∀ d ∈ tables_1, d.before a0 Z = true) (EL : List (String × Nat)) (hEL : EW Z a0 EL) (n0 bk : Nat) (h0 : Heap) (hz0 : Z.heap.size ≤ n0) (hn0 : n0 ≤ h0.size) (t : Nat) (ks : List Nat) (R : Ar Z h0 t .byte (own_bys ks)) (hk : ∀ k ∈ ks, k < 256) (hl : ks.length ≤ 7) (X : Exa Z h0 t "[B") (hp : 0 < ks.length) (htn : t < n0) (hbk : bk ≤ h0.size) : Met l Z EL (⟨"java/lang/String", "encodeUTF8", "(B[BZ)[B"⟩ : MethodName) jdk_42_method_46_code 9 (some (.array .byte)) [] ({ frames := 2, cells := 2, slots := 28, locals := 32 } : Room) #[(.int (0 : Int32)), (.ref t), (.int (1 : Int32))] n0 bk h0 (fun _ => bk) (fun v h => ∃ u, v = some (.ref u) ∧ h0.size ≤ u ∧ Ar Z h u .byte (own_bys (own_utf ks))) := by
  refine Met.intro (plainFor_of_name pn_1) (fun m => ef_57 m (0 : Int32) t (1 : Int32)) hz0 hEL ?_
  intro hE0 p e s m below meth c C
  have bl0 := own_bysl ks
  have ltt : (_ : Nat) < _ := R.lt
  refine C.iloadN 1 d52_0 rfl ?_
  refine C.iconst 2 (1 : Int32) d52_1 (by decide) ?_
  refine C.icY 11 d52_2 (by decide) (by decide) (XT.ii_ne_t (show ¬ ((0 : Int32) = (1 : Int32)) from (by decide))) ?_
  refine C.aloadN 12 d52_11 rfl rfl ?_
  refine C.iconst 13 (0 : Int32) d52_12 (by decide) ?_
  refine C.aloadN 14 d52_13 rfl rfl ?_
  refine C.alen 15 d52_14 R (by rw [own_bysl]) ?_
  refine C.callS (b := h0.size) 18 [(.ref t), (.int (0 : Int32)), (.int (Int32.ofNat ks.length))] [] d52_15 (met_hneg l Z a0 hw EL hEL h0.size bk h0 (by omega) (by omega) t ks R hk hl) (by omega) (Or.inl (Nat.le_refl _)) (hw _ (List.mem_of_getElem? (i := 244) rfl)) (hw _ (List.mem_of_getElem? (i := 245) rfl)) (hw _ (List.mem_of_getElem? (i := 246) rfl)) (hw _ (List.mem_of_getElem? (i := 247) rfl)) (by decide) rfl (lenOf pd__ABII_rZ rfl) (by decide) (W := 0) (Nat.le_of_eq rfl) (by decide) (by decide) (by decide) rfl ?_
  rintro _ h15_2 K15_2 ⟨r, rfl, hr, rfl⟩
  rcases Decidable.em (r = 0) with h18 | h18
  · skip
    refine C.ifN 21 d52_18 rfl (XT.i0_ne_f h18) ?_
    refine C.aloadN 22 d52_21 rfl rfl ?_
    refine C.cloneB (cap := 7) (W := 0) 25 d52_22 (hw _ (List.mem_of_getElem? (i := 251) rfl)) (hw _ (List.mem_of_getElem? (i := 252) rfl)) (hw _ (List.mem_of_getElem? (i := 256) rfl)) (hw _ (List.mem_of_getElem? (i := 254) rfl)) (hw _ (List.mem_of_getElem? (i := 255) rfl)) (hw _ (List.mem_of_getElem? (i := 257) rfl)) R X (by omega) rfl (by decide) (Nat.le_of_eq rfl) (by decide) (by decide) (by decide) ?_
    intro u h1 g_u E1 R_u X_u
    have lt_u : u < h1.size := R_u.lt
    have sz_h1 : h0.size ≤ h1.size := E1.1
    replace R := R.ext E1
    refine C.cast 28 d52_25 (hw _ (List.mem_of_getElem? (i := 258) rfl)) (Ins.self X_u) ?_
    refine C.retA rfl rfl d52_28 rfl (by decide) (by decide) (Or.inl (Nat.le_refl _)) ?_
    exact ⟨u, rfl, by omega, by rw [own_utfa (Decidable.byContradiction fun q => absurd h18 (fun e => hr.n e q))]; exact R_u⟩
  · skip
    refine C.ifY 29 d52_18 (by decide) (by decide) (XT.i0_ne_t h18) ?_
    refine C.iconst 30 (0 : Int32) d52_29 (by decide) ?_
    refine C.istoreN 31 (L' := #[.val (.int (0 : Int32)), .val (.ref t), .val (.int (1 : Int32)), .val (.int (0 : Int32)), .unset, .unset, .unset, .unset, .unset]) d52_30 rfl ?_
    refine C.aloadN 32 d52_31 rfl rfl ?_
    refine C.alen 33 d52_32 R (by rw [own_bysl]) ?_
    refine C.callS (b := h0.size) 36 [(.int (Int32.ofNat ks.length))] [] d52_33 (met_nbf l Z a0 hw EL hEL h0.size bk h0 (by omega) (by omega) ks.length (by omega) hbk) (by omega) (Or.inl (Nat.le_refl _)) (hw _ (List.mem_of_getElem? (i := 332) rfl)) (hw _ (List.mem_of_getElem? (i := 333) rfl)) (hw _ (List.mem_of_getElem? (i := 334) rfl)) (hw _ (List.mem_of_getElem? (i := 335) rfl)) (by decide) rfl (lenOf pd__I_rAB rfl) (by decide) (W := 0) (Nat.le_of_eq rfl) (by decide) (by decide) (by decide) rfl ?_
    rintro _ h2 K2 ⟨u, rfl, gu, Ru⟩
    have sz_h2 : h0.size ≤ h2.size := K2.1
    replace R := R.kp K2 (by first | omega | (dsimp only; omega))
    refine C.astore 38 (L' := #[.val (.int (0 : Int32)), .val (.ref t), .val (.int (1 : Int32)), .val (.int (0 : Int32)), .val (.ref u), .unset, .unset, .unset, .unset]) d52_36 rfl rfl ?_
    refine C.aloadN 39 d52_38 rfl rfl ?_
    refine C.astore 41 (L' := #[.val (.int (0 : Int32)), .val (.ref t), .val (.int (1 : Int32)), .val (.int (0 : Int32)), .val (.ref u), .val (.ref t), .unset, .unset, .unset]) d52_39 rfl rfl ?_
    refine C.aload 43 d52_41 rfl rfl ?_
    refine C.alen 44 d52_43 R (by rw [own_bysl]) ?_
    refine C.istore 46 (L' := #[.val (.int (0 : Int32)), .val (.ref t), .val (.int (1 : Int32)), .val (.int (0 : Int32)), .val (.ref u), .val (.ref t), .val (.int (Int32.ofNat ks.length)), .unset, .unset]) d52_44 rfl ?_
    have L49 : ∀ (n : Nat), ∀ (i : Nat) (hh : Heap) (c8 : Int32), (ks.length - i = n) → (i ≤ ks.length) → (Ar Z hh t .byte (own_bys ks)) → (Ar Z hh u .byte (own_pad (2 * ks.length) (own_bys (own_utf (ks.take i))))) → (h2.size ≤ hh.size) → Go p l e ({ frames := 2, cells := 2, slots := 28, locals := 32 } : Room) s m #[(.int (0 : Int32)), (.ref t), (.int (1 : Int32))] below meth c Z "java/lang/String" EL n0 (fun _ => bk) (fun v h => ∃ u, v = some (.ref u) ∧ h0.size ≤ u ∧ Ar Z h u .byte (own_bys (own_utf ks))) bk hh 1 14 49 #[.val (.int (0 : Int32)), .val (.ref t), .val (.int (1 : Int32)), .val (.int (Int32.ofNat (own_utf (ks.take i)).length)), .val (.ref u), .val (.ref t), .val (.int (Int32.ofNat ks.length)), .val (.int (Int32.ofNat i)), .val (.int c8)] [] := by
      intro n
      induction n using Nat.strongRecOn with
      | ind n ih =>
        intro i hh c8 hn hi R Ru szh
        refine C.iload 51 d52_49 rfl ?_
        refine C.iload 53 d52_51 rfl ?_
        rcases Decidable.em ((Int32.ofNat i) < (Int32.ofNat ks.length)) with h53 | h53
        · skip
          refine C.icN 56 d52_53 rfl (XT.ii_ge_f h53) ?_
          have hlt : i < ks.length := (own_ofNat (by omega) (by omega)).2.mp h53
          obtain ⟨x1, hx1⟩ : ∃ y, ks[i]? = some y := ⟨_, List.getElem?_eq_getElem hlt⟩
          have ul := own_ulen (ks := ks) (i := i) hi
          have bl := own_bysl (own_utf (ks.take i))
          have hr1 : x1 < 256 := hk x1 (List.mem_of_getElem? hx1)
          have lu : (_ : Nat) < _ := Ru.lt
          refine C.aload 58 d52_56 rfl rfl ?_
          refine C.iload 60 d52_58 rfl ?_
          refine C.baload 61 i d52_60 R rfl (own_bysget hx1) ?_
          refine C.istore 63 (L' := #[.val (.int (0 : Int32)), .val (.ref t), .val (.int (1 : Int32)), .val (.int (Int32.ofNat (own_utf (ks.take i)).length)), .val (.ref u), .val (.ref t), .val (.int (Int32.ofNat ks.length)), .val (.int (Int32.ofNat i)), .val (.int (own_by x1))]) d52_61 rfl ?_
          refine C.iload 65 d52_63 rfl ?_
          rcases Decidable.em ((own_by x1) < 0) with h65 | h65
          · skip
            refine C.ifN 68 d52_65 rfl (XT.i0_ge_f h65) ?_
            have hn8 : ¬ x1 < 128 := (own_byneg hr1).mp h65
            refine C.aload 70 d52_68 rfl rfl ?_
            refine C.iloadN 71 d52_70 rfl ?_
            refine C.iinc 74 (L' := #[.val (.int (0 : Int32)), .val (.ref t), .val (.int (1 : Int32)), .val (.int ((Int32.ofNat (own_utf (ks.take i)).length) + (1 : Int32))), .val (.ref u), .val (.ref t), .val (.int (Int32.ofNat ks.length)), .val (.int (Int32.ofNat i)), .val (.int (own_by x1))]) (1 : Int32) d52_71 (by decide) rfl rfl ?_
            refine C.sipush 77 (192 : Int32) d52_74 (by decide) ?_
            refine C.iload 79 d52_77 rfl ?_
            refine C.sipush 82 (255 : Int32) d52_79 (by decide) ?_
            refine C.iand 83 d52_82 ?_
            refine C.bipush 85 (6 : Int32) d52_83 (by decide) ?_
            refine C.ishr 86 d52_85 ?_
            refine C.ior 87 d52_86 ?_
            refine C.i2b 88 d52_87 ?_
            refine C.bastore 89 ((own_utf (ks.take i)).length) d52_88 Ru rfl (by rw [own_padlen (by first | omega | (simp; omega) | simp)]; omega) (own_fitsb _) (by omega) (Or.inl (by omega)) ?_
            intro ha Wa Na
            have sz_ha : hh.size ≤ ha.size := (Nat.le_of_eq Wa.size.symm)
            replace R := R.other Wa (by first | omega | (dsimp only; omega))
            replace Ru : Ar Z ha u .byte (own_pad (2 * ks.length) ((own_bys (own_utf (ks.take i))) ++ [own_by (192 + x1 / 64)])) := (by have q := Na; rw [show nar .byte ((192 : Int32) ||| ((own_by x1 &&& 255) >>> ((6 : Int32) &&& 31))).toInt8.toInt32 = own_by (192 + x1 / 64) from own_e1 x1 hr1 hn8, own_padset (by simp) (by omega)] at q; exact q)
            refine C.aload 91 d52_89 rfl rfl ?_
            refine C.iloadN 92 d52_91 rfl ?_
            refine C.iinc 95 (L' := #[.val (.int (0 : Int32)), .val (.ref t), .val (.int (1 : Int32)), .val (.int (((Int32.ofNat (own_utf (ks.take i)).length) + (1 : Int32)) + (1 : Int32))), .val (.ref u), .val (.ref t), .val (.int (Int32.ofNat ks.length)), .val (.int (Int32.ofNat i)), .val (.int (own_by x1))]) (1 : Int32) d52_92 (by decide) rfl rfl ?_
            refine C.sipush 98 (128 : Int32) d52_95 (by decide) ?_
            refine C.iload 100 d52_98 rfl ?_
            refine C.bipush 102 (63 : Int32) d52_100 (by decide) ?_
            refine C.iand 103 d52_102 ?_
            refine C.ior 104 d52_103 ?_
            refine C.i2b 105 d52_104 ?_
            refine C.bastore 106 ((own_utf (ks.take i)).length + 1) d52_105 Ru (own_succ _) (by rw [own_padlen (by first | omega | (simp; omega) | simp)]; omega) (own_fitsb _) (by omega) (Or.inl (by omega)) ?_
            intro hb Wb Nb
            have sz_hb : ha.size ≤ hb.size := (Nat.le_of_eq Wb.size.symm)
            replace R := R.other Wb (by first | omega | (dsimp only; omega))
            replace Ru : Ar Z hb u .byte (own_pad (2 * ks.length) ((own_bys (own_utf (ks.take i))) ++ [own_by (192 + x1 / 64)] ++ [own_by (128 + x1 % 64)])) := (by have q := Nb; rw [show nar .byte ((128 : Int32) ||| (own_by x1 &&& 63)).toInt8.toInt32 = own_by (128 + x1 % 64) from own_e2 x1 hr1, own_padset (by simp) (by omega)] at q; exact q)
            refine C.goto 118 d52_106 (by decide) (by decide) ?_
            refine C.iinc 121 (L' := #[.val (.int (0 : Int32)), .val (.ref t), .val (.int (1 : Int32)), .val (.int (((Int32.ofNat (own_utf (ks.take i)).length) + (1 : Int32)) + (1 : Int32))), .val (.ref u), .val (.ref t), .val (.int (Int32.ofNat ks.length)), .val (.int ((Int32.ofNat i) + (1 : Int32))), .val (.int (own_by x1))]) (1 : Int32) d52_118 (by decide) rfl rfl ?_
            refine C.goto 49 d52_121 (by decide) (by decide) ?_
            rw [own_succ i, own_succ, own_succ, show (own_utf (ks.take i)).length + 1 + 1 = (own_utf (ks.take (i + 1))).length by rw [own_utft hx1, List.length_append, own_u8, if_neg hn8]; rfl]
            exact ih _ (show ks.length - (i + 1) < n by omega) (i + 1) hb (own_by x1) rfl (by omega) R (by rw [own_utft hx1, own_u8, if_neg hn8, own_bysa]; rw [List.append_assoc] at Ru; exact Ru) (by omega)
          · skip
            refine C.ifY 109 d52_65 (by decide) (by decide) (XT.i0_ge_t h65) ?_
            have hn8 : x1 < 128 := Decidable.byContradiction fun q => h65 ((own_byneg hr1).mpr q)
            refine C.aload 111 d52_109 rfl rfl ?_
            refine C.iloadN 112 d52_111 rfl ?_
            refine C.iinc 115 (L' := #[.val (.int (0 : Int32)), .val (.ref t), .val (.int (1 : Int32)), .val (.int ((Int32.ofNat (own_utf (ks.take i)).length) + (1 : Int32))), .val (.ref u), .val (.ref t), .val (.int (Int32.ofNat ks.length)), .val (.int (Int32.ofNat i)), .val (.int (own_by x1))]) (1 : Int32) d52_112 (by decide) rfl rfl ?_
            refine C.iload 117 d52_115 rfl ?_
            refine C.bastore 118 ((own_utf (ks.take i)).length) d52_117 Ru rfl (by rw [own_padlen (by first | omega | (simp; omega) | simp)]; omega) (own_fitsb _) (by omega) (Or.inl (by omega)) ?_
            intro hc Wc Nc
            have sz_hc : hh.size ≤ hc.size := (Nat.le_of_eq Wc.size.symm)
            replace R := R.other Wc (by first | omega | (dsimp only; omega))
            replace Ru : Ar Z hc u .byte (own_pad (2 * ks.length) ((own_bys (own_utf (ks.take i))) ++ [own_by x1])) := (by have q := Nc; rw [show nar .byte (own_by x1) = own_by x1 from own_e3 x1 hr1, own_padset (by simp) (by omega)] at q; exact q)
            refine C.iinc 121 (L' := #[.val (.int (0 : Int32)), .val (.ref t), .val (.int (1 : Int32)), .val (.int ((Int32.ofNat (own_utf (ks.take i)).length) + (1 : Int32))), .val (.ref u), .val (.ref t), .val (.int (Int32.ofNat ks.length)), .val (.int ((Int32.ofNat i) + (1 : Int32))), .val (.int (own_by x1))]) (1 : Int32) d52_118 (by decide) rfl rfl ?_
            refine C.goto 49 d52_121 (by decide) (by decide) ?_
            rw [own_succ i, own_succ, show (own_utf (ks.take i)).length + 1 = (own_utf (ks.take (i + 1))).length by rw [own_utft hx1, List.length_append, own_u8, if_pos hn8]; rfl]
            exact ih _ (show ks.length - (i + 1) < n by omega) (i + 1) hc (own_by x1) rfl (by omega) R (by rw [own_utft hx1, own_u8, if_pos hn8, own_bysa]; exact Ru) (by omega)
        · skip
          refine C.icY 124 d52_53 (by decide) (by decide) (XT.ii_ge_t h53) ?_
          obtain rfl : i = ks.length := by have hge : ¬ i < ks.length := fun q => h53 ((own_ofNat (by omega) (by omega)).2.mpr q); omega
          rw [List.take_length] at Ru
          rw [List.take_length]
          have ul := own_utfl ks
          have bl := own_bysl (own_utf ks)
          have lu : (_ : Nat) < _ := Ru.lt
          refine C.iloadN 125 d52_124 rfl ?_
          refine C.aload 127 d52_125 rfl rfl ?_
          refine C.alen 128 d52_127 Ru (by rw [own_padlen (by omega)]) ?_
          rcases Decidable.em ((Int32.ofNat (own_utf ks).length) = (Int32.ofNat (2 * ks.length))) with h128 | h128
          · skip
            refine C.icN 131 d52_128 rfl (XT.ii_ne_f h128) ?_
            refine C.aload 133 d52_131 rfl rfl ?_
            refine C.retA rfl rfl d52_133 rfl (by decide) (by decide) (Or.inl (Nat.le_refl _)) ?_
            exact ⟨u, rfl, gu, by rw [own_padfull (by have := (own_ofNat (by omega) (by omega)).1.mp h128; omega)] at Ru; exact Ru⟩
          · skip
            refine C.icY 134 d52_128 (by decide) (by decide) (XT.ii_ne_t h128) ?_
            refine C.aload 136 d52_134 rfl rfl ?_
            refine C.iloadN 137 d52_136 rfl ?_
            refine C.callS (b := hh.size) 140 [(.ref u), (.int (Int32.ofNat (own_utf ks).length))] [] d52_137 (met_cpo l Z a0 hw EL hEL hh.size bk hh (by omega) (by omega) u _ (own_utf ks).length Ru (by rw [own_padlen (by omega)]; have : ¬ (own_utf ks).length = 2 * ks.length := fun q => h128 (by rw [q]); omega) (by omega) (by omega)) (by omega) (Or.inl (Nat.le_refl _)) (hw _ (List.mem_of_getElem? (i := 340) rfl)) (hw _ (List.mem_of_getElem? (i := 341) rfl)) (hw _ (List.mem_of_getElem? (i := 213) rfl)) (hw _ (List.mem_of_getElem? (i := 342) rfl)) (by decide) rfl (lenOf pd__ABI_rAB rfl) (by decide) (W := 0) (Nat.le_of_eq rfl) (by decide) (by decide) (by decide) rfl ?_
            rintro _ h3 K3 ⟨w, rfl, gw, Rw⟩
            have sz_h3 : hh.size ≤ h3.size := K3.1
            replace R := R.kp K3 (by first | omega | (dsimp only; omega))
            replace Ru := Ru.kp K3 (by first | omega | (dsimp only; omega))
            refine C.retA rfl rfl d52_140 rfl (by decide) (by decide) (Or.inl (Nat.le_refl _)) ?_
            exact ⟨w, rfl, by omega, by rw [← own_bysl (own_utf ks), own_padtake] at Rw; exact Rw⟩
    refine C.iconst 47 (0 : Int32) d52_46 (by decide) ?_
    refine C.istore 49 (L' := #[.val (.int (0 : Int32)), .val (.ref t), .val (.int (1 : Int32)), .val (.int (0 : Int32)), .val (.ref u), .val (.ref t), .val (.int (Int32.ofNat ks.length)), .val (.int (0 : Int32)), .unset]) d52_47 rfl ?_
    refine C.iload 51 d52_49 rfl ?_
    refine C.iload 53 d52_51 rfl ?_
    refine C.icN 56 d52_53 rfl (XT.ii_ge_f (show (0 : Int32) < (Int32.ofNat ks.length) from ((own_ofNat (show 0 < 2147483648 by decide) (by omega)).2.mpr hp))) ?_
    obtain ⟨x1, hx1⟩ : ∃ y, ks[0]? = some y := ⟨_, List.getElem?_eq_getElem hp⟩
    have hr1 : x1 < 256 := hk x1 (List.mem_of_getElem? hx1)
    have lu : (_ : Nat) < _ := Ru.lt
    refine C.aload 58 d52_56 rfl rfl ?_
    refine C.iload 60 d52_58 rfl ?_
    refine C.baload 61 0 d52_60 R rfl (own_bysget hx1) ?_
    refine C.istore 63 (L' := #[.val (.int (0 : Int32)), .val (.ref t), .val (.int (1 : Int32)), .val (.int (0 : Int32)), .val (.ref u), .val (.ref t), .val (.int (Int32.ofNat ks.length)), .val (.int (0 : Int32)), .val (.int (own_by x1))]) d52_61 rfl ?_
    refine C.iload 65 d52_63 rfl ?_
    rcases Decidable.em ((own_by x1) < 0) with h65 | h65
    · skip
      refine C.ifN 68 d52_65 rfl (XT.i0_ge_f h65) ?_
      have hn8 : ¬ x1 < 128 := (own_byneg hr1).mp h65
      refine C.aload 70 d52_68 rfl rfl ?_
      refine C.iloadN 71 d52_70 rfl ?_
      refine C.iinc 74 (L' := #[.val (.int (0 : Int32)), .val (.ref t), .val (.int (1 : Int32)), .val (.int ((0 : Int32) + (1 : Int32))), .val (.ref u), .val (.ref t), .val (.int (Int32.ofNat ks.length)), .val (.int (0 : Int32)), .val (.int (own_by x1))]) (1 : Int32) d52_71 (by decide) rfl rfl ?_
      refine C.sipush 77 (192 : Int32) d52_74 (by decide) ?_
      refine C.iload 79 d52_77 rfl ?_
      refine C.sipush 82 (255 : Int32) d52_79 (by decide) ?_
      refine C.iand 83 d52_82 ?_
      refine C.bipush 85 (6 : Int32) d52_83 (by decide) ?_
      refine C.ishr 86 d52_85 ?_
      refine C.ior 87 d52_86 ?_
      refine C.i2b 88 d52_87 ?_
      refine C.bastore 89 (0) d52_88 Ru rfl (by rw [own_padlen (by first | omega | (simp; omega) | simp)]; omega) (own_fitsb _) (by omega) (Or.inl (by omega)) ?_
      intro ha Wa Na
      have sz_ha : h2.size ≤ ha.size := (Nat.le_of_eq Wa.size.symm)
      replace R := R.other Wa (by first | omega | (dsimp only; omega))
      replace Ru : Ar Z ha u .byte (own_pad (2 * ks.length) (([] : List Int32) ++ [own_by (192 + x1 / 64)])) := (by have q := Na; rw [show nar .byte ((192 : Int32) ||| ((own_by x1 &&& 255) >>> ((6 : Int32) &&& 31))).toInt8.toInt32 = own_by (192 + x1 / 64) from own_e1 x1 hr1 hn8, own_padset (by simp) (by omega)] at q; exact q)
      refine C.aload 91 d52_89 rfl rfl ?_
      refine C.iloadN 92 d52_91 rfl ?_
      refine C.iinc 95 (L' := #[.val (.int (0 : Int32)), .val (.ref t), .val (.int (1 : Int32)), .val (.int (((0 : Int32) + (1 : Int32)) + (1 : Int32))), .val (.ref u), .val (.ref t), .val (.int (Int32.ofNat ks.length)), .val (.int (0 : Int32)), .val (.int (own_by x1))]) (1 : Int32) d52_92 (by decide) rfl rfl ?_
      refine C.sipush 98 (128 : Int32) d52_95 (by decide) ?_
      refine C.iload 100 d52_98 rfl ?_
      refine C.bipush 102 (63 : Int32) d52_100 (by decide) ?_
      refine C.iand 103 d52_102 ?_
      refine C.ior 104 d52_103 ?_
      refine C.i2b 105 d52_104 ?_
      refine C.bastore 106 (0 + 1) d52_105 Ru rfl (by rw [own_padlen (by first | omega | (simp; omega) | simp)]; omega) (own_fitsb _) (by omega) (Or.inl (by omega)) ?_
      intro hb Wb Nb
      have sz_hb : ha.size ≤ hb.size := (Nat.le_of_eq Wb.size.symm)
      replace R := R.other Wb (by first | omega | (dsimp only; omega))
      replace Ru : Ar Z hb u .byte (own_pad (2 * ks.length) (([] : List Int32) ++ [own_by (192 + x1 / 64)] ++ [own_by (128 + x1 % 64)])) := (by have q := Nb; rw [show nar .byte ((128 : Int32) ||| (own_by x1 &&& 63)).toInt8.toInt32 = own_by (128 + x1 % 64) from own_e2 x1 hr1, own_padset (by simp) (by omega)] at q; exact q)
      refine C.goto 118 d52_106 (by decide) (by decide) ?_
      refine C.iinc 121 (L' := #[.val (.int (0 : Int32)), .val (.ref t), .val (.int (1 : Int32)), .val (.int (((0 : Int32) + (1 : Int32)) + (1 : Int32))), .val (.ref u), .val (.ref t), .val (.int (Int32.ofNat ks.length)), .val (.int ((0 : Int32) + (1 : Int32))), .val (.int (own_by x1))]) (1 : Int32) d52_118 (by decide) rfl rfl ?_
      refine C.goto 49 d52_121 (by decide) (by decide) ?_
      have e1 : own_utf (ks.take 1) = [192 + x1 / 64, 128 + x1 % 64] := by rw [own_ut1 hx1, own_u8, if_neg hn8]
      have q := L49 _ 1 hb (own_by x1) rfl (by omega) R (by rw [e1]; exact Ru) (by omega)
      rw [e1] at q
      exact q
    · skip
      refine C.ifY 109 d52_65 (by decide) (by decide) (XT.i0_ge_t h65) ?_
      have hn8 : x1 < 128 := Decidable.byContradiction fun q => h65 ((own_byneg hr1).mpr q)
      refine C.aload 111 d52_109 rfl rfl ?_
      refine C.iloadN 112 d52_111 rfl ?_
      refine C.iinc 115 (L' := #[.val (.int (0 : Int32)), .val (.ref t), .val (.int (1 : Int32)), .val (.int ((0 : Int32) + (1 : Int32))), .val (.ref u), .val (.ref t), .val (.int (Int32.ofNat ks.length)), .val (.int (0 : Int32)), .val (.int (own_by x1))]) (1 : Int32) d52_112 (by decide) rfl rfl ?_
      refine C.iload 117 d52_115 rfl ?_
      refine C.bastore 118 (0) d52_117 Ru rfl (by rw [own_padlen (by first | omega | (simp; omega) | simp)]; omega) (own_fitsb _) (by omega) (Or.inl (by omega)) ?_
      intro hc Wc Nc
      have sz_hc : h2.size ≤ hc.size := (Nat.le_of_eq Wc.size.symm)
      replace R := R.other Wc (by first | omega | (dsimp only; omega))
      replace Ru : Ar Z hc u .byte (own_pad (2 * ks.length) (([] : List Int32) ++ [own_by x1])) := (by have q := Nc; rw [show nar .byte (own_by x1) = own_by x1 from own_e3 x1 hr1, own_padset (by simp) (by omega)] at q; exact q)
      refine C.iinc 121 (L' := #[.val (.int (0 : Int32)), .val (.ref t), .val (.int (1 : Int32)), .val (.int ((0 : Int32) + (1 : Int32))), .val (.ref u), .val (.ref t), .val (.int (Int32.ofNat ks.length)), .val (.int ((0 : Int32) + (1 : Int32))), .val (.int (own_by x1))]) (1 : Int32) d52_118 (by decide) rfl rfl ?_
      refine C.goto 49 d52_121 (by decide) (by decide) ?_
      have e1 : own_utf (ks.take 1) = [x1] := by rw [own_ut1 hx1, own_u8, if_pos hn8]
      have q := L49 _ 1 hc (own_by x1) rfl (by omega) R (by rw [e1]; exact Ru) (by omega)
      rw [e1] at q
      exact q
-- @@PART
theorem own_ux {N j k : Nat} {q : Int32} (hN : N < 2147483648) (h0 : 0 < k) (hk : q.toBitVec.toNat % 32 = k) (hj : N / 2 ^ k % 64 = j) : (XT.ushr (Int32.ofNat N) q &&& 63) = Int32.ofNat j := by
  have q1 := c_mask (XT.ushr (Int32.ofNat N) q) 63 6 (by decide) (by decide)
  have q2 : (XT.ushr (Int32.ofNat N) q).toInt = _ := c_iushr (Int32.ofNat N) q k hk h0
  have e1 : (Int32.ofNat N).toInt = N := Int32.toInt_ofNat_small (by omega)
  have hj64 : j < 64 := by rw [← hj]; exact Nat.mod_lt _ (by decide)
  have e2 : (Int32.ofNat j).toInt = j := Int32.toInt_ofNat_small (by omega)
  rw [← Int32.toInt_inj, q1, q2, e1, e2, show (N : Int) % 4294967296 = N by omega, ← hj]
  simp
theorem own_w6 {N : Nat} (hN : N < 2147483648) : (Int32.ofNat N &&& 63) = Int32.ofNat (N % 64) := by
  have q1 := c_mask (Int32.ofNat N) 63 6 (by decide) (by decide)
  have e1 : (Int32.ofNat N).toInt = N := Int32.toInt_ofNat_small (by omega)
  have e2 : (Int32.ofNat (N % 64)).toInt = (N % 64 : Nat) := Int32.toInt_ofNat_small (by omega)
  rw [← Int32.toInt_inj, q1, e1, e2]
  simp
theorem own_dl : ∀ n, n < 8 → (Int32.ofNat (3 * (n / 3)) - 0) / 3 * 4 = Int32.ofNat (4 * (n / 3)) := by decide +kernel
theorem own_ne1 : ∀ n, n < 8 → ¬ Int32.ofNat (4 * (n / 3)) = -1 := by decide +kernel
theorem own_ol10 : ∀ n, n < 8 → own_ol n ≤ 10 := by decide +kernel
theorem own_fitalb {k : Nat} (h : k < 64) : fits .byte (.int (own_al k)) = true := by
  have q := own_fitsb (own_al k)
  rw [show nar .byte (own_al k) = own_al k from own_nb1 k h] at q; exact q
theorem own_b64e : ∀ (bs : List Nat), (∀ x ∈ bs, x < 256) → ∀ y ∈ own_b64 bs, ∃ k, k < 64 ∧ y = own_al k
  | [], _, y, hy => by simp [own_b64] at hy
  | [u], h, y, hy => by
    have h1 := h u (by simp)
    simp [own_b64] at hy
    rcases hy with rfl | rfl
    · exact ⟨_, by omega, rfl⟩
    · exact ⟨_, by omega, rfl⟩
  | [u, w], h, y, hy => by
    have h1 := h u (by simp)
    have h2 := h w (by simp)
    simp [own_b64] at hy
    rcases hy with rfl | rfl | rfl
    · exact ⟨_, by omega, rfl⟩
    · exact ⟨_, by omega, rfl⟩
    · exact ⟨_, by omega, rfl⟩
  | u :: w :: z :: r, h, y, hy => by
    have h1 := h u (by simp)
    have h2 := h w (by simp)
    have h3 := h z (by simp)
    have ih := own_b64e r (fun x hx => h x (by simp [hx])) y
    simp only [own_b64, List.mem_cons] at hy
    rcases hy with rfl | rfl | rfl | rfl | hy
    · exact ⟨_, by omega, rfl⟩
    · exact ⟨_, by omega, rfl⟩
    · exact ⟨_, by omega, rfl⟩
    · exact ⟨_, by omega, rfl⟩
    · exact ih hy
theorem own_b64r {bs : List Nat} (h : ∀ x ∈ bs, x < 256) : ∀ y ∈ own_b64 bs, ¬ y < 0 ∧ ¬ 255 < y := fun y hy => by
  obtain ⟨k, hk, rfl⟩ := own_b64e bs h y hy
  exact (show ∀ k, k < 64 → ¬ own_al k < 0 ∧ ¬ 255 < own_al k by decide +kernel) k hk
theorem own_b64lo {bs : List Nat} (h : ∀ x ∈ bs, x < 256) : (own_b64 bs).map own_lo = own_b64 bs := by
  have q : ∀ y ∈ own_b64 bs, own_lo y = y := fun y hy => by obtain ⟨k, hk, rfl⟩ := own_b64e bs h y hy; exact own_nb1 k hk
  have e : (own_b64 bs).map own_lo = (own_b64 bs).map id := List.map_congr_left q
  rw [e, List.map_id]
theorem d53_0 : decode jdk_2452_method_9_code 0 = .ok (.iload 6, 2) := by decide +kernel
theorem d53_2 : decode jdk_2452_method_9_code 2 = .ok (.ifCond .eq 9, 3) := by decide +kernel
theorem d53_5 : decode jdk_2452_method_9_code 5 = .ok (.getstatic 111, 3) := by decide +kernel
theorem d53_8 : decode jdk_2452_method_9_code 8 = .ok (.goto 6, 3) := by decide +kernel
theorem d53_14 : decode jdk_2452_method_9_code 14 = .ok (.astore 7, 2) := by decide +kernel
theorem d53_16 : decode jdk_2452_method_9_code 16 = .ok (.iload_n 2, 1) := by decide +kernel
theorem d53_17 : decode jdk_2452_method_9_code 17 = .ok (.istore 8, 2) := by decide +kernel
theorem d53_19 : decode jdk_2452_method_9_code 19 = .ok (.iload 5, 2) := by decide +kernel
theorem d53_21 : decode jdk_2452_method_9_code 21 = .ok (.istore 9, 2) := by decide +kernel
theorem d53_23 : decode jdk_2452_method_9_code 23 = .ok (.iload 8, 2) := by decide +kernel
theorem d53_25 : decode jdk_2452_method_9_code 25 = .ok (.iload_n 3, 1) := by decide +kernel
theorem d53_26 : decode jdk_2452_method_9_code 26 = .ok (.if_icmp .ge 126, 3) := by decide +kernel
theorem d53_29 : decode jdk_2452_method_9_code 29 = .ok (.aload_n 1, 1) := by decide +kernel
theorem d53_30 : decode jdk_2452_method_9_code 30 = .ok (.iload 8, 2) := by decide +kernel
theorem d53_32 : decode jdk_2452_method_9_code 32 = .ok (.iinc 8 1, 3) := by decide +kernel
theorem d53_35 : decode jdk_2452_method_9_code 35 = .ok (.baload, 1) := by decide +kernel
theorem d53_36 : decode jdk_2452_method_9_code 36 = .ok (.sipush 255, 3) := by decide +kernel
theorem d53_39 : decode jdk_2452_method_9_code 39 = .ok (.iand, 1) := by decide +kernel
theorem d53_40 : decode jdk_2452_method_9_code 40 = .ok (.bipush 16, 2) := by decide +kernel
theorem d53_42 : decode jdk_2452_method_9_code 42 = .ok (.ishl, 1) := by decide +kernel
theorem d53_43 : decode jdk_2452_method_9_code 43 = .ok (.aload_n 1, 1) := by decide +kernel
theorem d53_44 : decode jdk_2452_method_9_code 44 = .ok (.iload 8, 2) := by decide +kernel
theorem d53_46 : decode jdk_2452_method_9_code 46 = .ok (.iinc 8 1, 3) := by decide +kernel
theorem d53_49 : decode jdk_2452_method_9_code 49 = .ok (.baload, 1) := by decide +kernel
theorem d53_50 : decode jdk_2452_method_9_code 50 = .ok (.sipush 255, 3) := by decide +kernel
theorem d53_53 : decode jdk_2452_method_9_code 53 = .ok (.iand, 1) := by decide +kernel
theorem d53_54 : decode jdk_2452_method_9_code 54 = .ok (.bipush 8, 2) := by decide +kernel
theorem d53_56 : decode jdk_2452_method_9_code 56 = .ok (.ishl, 1) := by decide +kernel
theorem d53_57 : decode jdk_2452_method_9_code 57 = .ok (.ior, 1) := by decide +kernel
theorem d53_58 : decode jdk_2452_method_9_code 58 = .ok (.aload_n 1, 1) := by decide +kernel
theorem d53_59 : decode jdk_2452_method_9_code 59 = .ok (.iload 8, 2) := by decide +kernel
theorem d53_61 : decode jdk_2452_method_9_code 61 = .ok (.iinc 8 1, 3) := by decide +kernel
theorem d53_64 : decode jdk_2452_method_9_code 64 = .ok (.baload, 1) := by decide +kernel
theorem d53_65 : decode jdk_2452_method_9_code 65 = .ok (.sipush 255, 3) := by decide +kernel
theorem d53_68 : decode jdk_2452_method_9_code 68 = .ok (.iand, 1) := by decide +kernel
theorem d53_69 : decode jdk_2452_method_9_code 69 = .ok (.ior, 1) := by decide +kernel
theorem d53_70 : decode jdk_2452_method_9_code 70 = .ok (.istore 10, 2) := by decide +kernel
theorem d53_72 : decode jdk_2452_method_9_code 72 = .ok (.aload 4, 2) := by decide +kernel
theorem d53_74 : decode jdk_2452_method_9_code 74 = .ok (.iload 9, 2) := by decide +kernel
theorem d53_76 : decode jdk_2452_method_9_code 76 = .ok (.iinc 9 1, 3) := by decide +kernel
theorem d53_79 : decode jdk_2452_method_9_code 79 = .ok (.aload 7, 2) := by decide +kernel
theorem d53_81 : decode jdk_2452_method_9_code 81 = .ok (.iload 10, 2) := by decide +kernel
theorem d53_83 : decode jdk_2452_method_9_code 83 = .ok (.bipush 18, 2) := by decide +kernel
theorem d53_85 : decode jdk_2452_method_9_code 85 = .ok (.iushr, 1) := by decide +kernel
theorem d53_86 : decode jdk_2452_method_9_code 86 = .ok (.bipush 63, 2) := by decide +kernel
theorem d53_88 : decode jdk_2452_method_9_code 88 = .ok (.iand, 1) := by decide +kernel
theorem d53_89 : decode jdk_2452_method_9_code 89 = .ok (.caload, 1) := by decide +kernel
theorem d53_90 : decode jdk_2452_method_9_code 90 = .ok (.i2b, 1) := by decide +kernel
theorem d53_91 : decode jdk_2452_method_9_code 91 = .ok (.bastore, 1) := by decide +kernel
theorem d53_92 : decode jdk_2452_method_9_code 92 = .ok (.aload 4, 2) := by decide +kernel
theorem d53_94 : decode jdk_2452_method_9_code 94 = .ok (.iload 9, 2) := by decide +kernel
theorem d53_96 : decode jdk_2452_method_9_code 96 = .ok (.iinc 9 1, 3) := by decide +kernel
theorem d53_99 : decode jdk_2452_method_9_code 99 = .ok (.aload 7, 2) := by decide +kernel
theorem d53_101 : decode jdk_2452_method_9_code 101 = .ok (.iload 10, 2) := by decide +kernel
theorem d53_103 : decode jdk_2452_method_9_code 103 = .ok (.bipush 12, 2) := by decide +kernel
theorem d53_105 : decode jdk_2452_method_9_code 105 = .ok (.iushr, 1) := by decide +kernel
theorem d53_106 : decode jdk_2452_method_9_code 106 = .ok (.bipush 63, 2) := by decide +kernel
theorem d53_108 : decode jdk_2452_method_9_code 108 = .ok (.iand, 1) := by decide +kernel
theorem d53_109 : decode jdk_2452_method_9_code 109 = .ok (.caload, 1) := by decide +kernel
theorem d53_110 : decode jdk_2452_method_9_code 110 = .ok (.i2b, 1) := by decide +kernel
theorem d53_111 : decode jdk_2452_method_9_code 111 = .ok (.bastore, 1) := by decide +kernel
theorem d53_112 : decode jdk_2452_method_9_code 112 = .ok (.aload 4, 2) := by decide +kernel
theorem d53_114 : decode jdk_2452_method_9_code 114 = .ok (.iload 9, 2) := by decide +kernel
theorem d53_116 : decode jdk_2452_method_9_code 116 = .ok (.iinc 9 1, 3) := by decide +kernel
theorem d53_119 : decode jdk_2452_method_9_code 119 = .ok (.aload 7, 2) := by decide +kernel
theorem d53_121 : decode jdk_2452_method_9_code 121 = .ok (.iload 10, 2) := by decide +kernel
theorem d53_123 : decode jdk_2452_method_9_code 123 = .ok (.bipush 6, 2) := by decide +kernel
theorem d53_125 : decode jdk_2452_method_9_code 125 = .ok (.iushr, 1) := by decide +kernel
theorem d53_126 : decode jdk_2452_method_9_code 126 = .ok (.bipush 63, 2) := by decide +kernel
theorem d53_128 : decode jdk_2452_method_9_code 128 = .ok (.iand, 1) := by decide +kernel
theorem d53_129 : decode jdk_2452_method_9_code 129 = .ok (.caload, 1) := by decide +kernel
theorem d53_130 : decode jdk_2452_method_9_code 130 = .ok (.i2b, 1) := by decide +kernel
theorem d53_131 : decode jdk_2452_method_9_code 131 = .ok (.bastore, 1) := by decide +kernel
theorem d53_132 : decode jdk_2452_method_9_code 132 = .ok (.aload 4, 2) := by decide +kernel
theorem d53_134 : decode jdk_2452_method_9_code 134 = .ok (.iload 9, 2) := by decide +kernel
theorem d53_136 : decode jdk_2452_method_9_code 136 = .ok (.iinc 9 1, 3) := by decide +kernel
theorem d53_139 : decode jdk_2452_method_9_code 139 = .ok (.aload 7, 2) := by decide +kernel
theorem d53_141 : decode jdk_2452_method_9_code 141 = .ok (.iload 10, 2) := by decide +kernel
theorem d53_143 : decode jdk_2452_method_9_code 143 = .ok (.bipush 63, 2) := by decide +kernel
theorem d53_145 : decode jdk_2452_method_9_code 145 = .ok (.iand, 1) := by decide +kernel
theorem d53_146 : decode jdk_2452_method_9_code 146 = .ok (.caload, 1) := by decide +kernel
theorem d53_147 : decode jdk_2452_method_9_code 147 = .ok (.i2b, 1) := by decide +kernel
theorem d53_148 : decode jdk_2452_method_9_code 148 = .ok (.bastore, 1) := by decide +kernel
theorem d53_149 : decode jdk_2452_method_9_code 149 = .ok (.goto (-126), 3) := by decide +kernel
theorem d53_152 : decode jdk_2452_method_9_code 152 = .ok (.return_, 1) := by decide +kernel
theorem ef_58 (m : MethodId) (x0 : Nat) (x1 : Nat) (x2 : Int32) (x3 : Int32) (x4 : Nat) (x5 : Int32) (x6 : Int32) : entryFrame m #[(.ref x0), (.ref x1), (.int x2), (.int x3), (.ref x4), (.int x5), (.int x6)] 11 = mkF m 0 #[.val (.ref x0), .val (.ref x1), .val (.int x2), .val (.int x3), .val (.ref x4), .val (.int x5), .val (.int x6), .unset, .unset, .unset, .unset] [] := by first | (simp [entryFrame, mkF, argsToLocals, Value.category]; done) | rfl
set_option maxRecDepth 65536 in
set_option maxHeartbeats 40000000 in
theorem met_blk (l : Launch) (Z : State) (a0 : Array Value) (hw : ∀ d ∈ tables_1, d.before a0 Z = true) (EL : List (String × Nat)) (hEL : EW Z a0 EL) (n0 bk : Nat) (h0 : Heap) (hz0 : Z.heap.size ≤ n0) (hn0 : n0 ≤ h0.size) (en : Nat) (t : Nat) (d : Nat) (tb : Nat) (bs : List Nat) (q : Nat) (R : Ar Z h0 t .byte (own_bys bs)) (hb : ∀ x ∈ bs, x < 256) (hl : bs.length ≤ 7) (hq : 3 * q ≤ bs.length) (hq0 : 0 < q) (Rd : Ar Z h0 d .byte (own_pad (own_ol bs.length) [])) (htd : t < d) (hnd : n0 ≤ d) (hbd : bk ≤ d) (Xd : Exa Z h0 d "[B") (SB64 : Sta Z Z.heap "java/util/Base64$Encoder" "toBase64URL" "[C" (.ref tb)) (RT0 : Ar Z Z.heap tb .char own_T) : Met l Z EL (⟨"java/util/Base64$Encoder", "encodeBlock", "([BII[BIZ)V"⟩ : MethodName) jdk_2452_method_9_code 11 none [] ({ frames := 0, cells := 0, slots := 0, locals := 0 } : Room) #[(.ref en), (.ref t), (.int (0 : Int32)), (.int (Int32.ofNat (3 * q))), (.ref d), (.int (0 : Int32)), (.int (1 : Int32))] n0 bk h0 (fun _ => bk) (fun v h => v = none ∧ OKp (fun x => x ≠ d) h0 h ∧ Ar Z h d .byte (own_pad (own_ol bs.length) (own_b64 (bs.take (3 * q)))) ∧ Exa Z h d "[B") := by
  refine Met.intro (plainFor_of_name pn_7) (fun m => ef_58 m en t (0 : Int32) (Int32.ofNat (3 * q)) d (0 : Int32) (1 : Int32)) hz0 hEL ?_
  intro hE0 p e s m below meth c C
  have RT := RT0.ext hE0
  have ltb : (_ : Nat) < _ := RT0.lt
  refine C.iload 2 d53_0 rfl ?_
  refine C.ifN 5 d53_2 rfl (XT.i0_eq_f (show ¬ ((1 : Int32) = 0) from (by decide))) ?_
  refine C.gets 8 d53_5 (hw _ (List.mem_of_getElem? (i := 293) rfl)) SB64 ?_
  refine C.goto 14 d53_8 (by decide) (by decide) ?_
  refine C.astore 16 (L' := #[.val (.ref en), .val (.ref t), .val (.int (0 : Int32)), .val (.int (Int32.ofNat (3 * q))), .val (.ref d), .val (.int (0 : Int32)), .val (.int (1 : Int32)), .val (.ref tb), .unset, .unset, .unset]) d53_14 rfl rfl ?_
  have L23 : ∀ (n : Nat), ∀ (i : Nat) (hh : Heap) (c10 : Int32), (q - i = n) → (i ≤ q) → (Ar Z hh t .byte (own_bys bs)) → (Ar Z hh d .byte (own_pad (own_ol bs.length) (own_b64 (bs.take (3 * i))))) → (Ar Z hh tb .char own_T) → (Exa Z hh d "[B") → (OKp (fun x => x ≠ d) h0 hh) → Go p l e ({ frames := 0, cells := 0, slots := 0, locals := 0 } : Room) s m #[(.ref en), (.ref t), (.int (0 : Int32)), (.int (Int32.ofNat (3 * q))), (.ref d), (.int (0 : Int32)), (.int (1 : Int32))] below meth c Z "java/util/Base64$Encoder" EL n0 (fun _ => bk) (fun v h => v = none ∧ OKp (fun x => x ≠ d) h0 h ∧ Ar Z h d .byte (own_pad (own_ol bs.length) (own_b64 (bs.take (3 * q)))) ∧ Exa Z h d "[B") bk hh 0 0 23 #[.val (.ref en), .val (.ref t), .val (.int (0 : Int32)), .val (.int (Int32.ofNat (3 * q))), .val (.ref d), .val (.int (0 : Int32)), .val (.int (1 : Int32)), .val (.ref tb), .val (.int (Int32.ofNat (3 * i))), .val (.int (Int32.ofNat (4 * i))), .val (.int c10)] [] := by
    intro n
    induction n using Nat.strongRecOn with
    | ind n ih =>
      intro i hh c10 hn hi R Rd RT Xd Kh
      refine C.iload 25 d53_23 rfl ?_
      refine C.iloadN 26 d53_25 rfl ?_
      rcases Decidable.em ((Int32.ofNat (3 * i)) < (Int32.ofNat (3 * q))) with h26 | h26
      · skip
        refine C.icN 29 d53_26 rfl (XT.ii_ge_f h26) ?_
        have hlt : i < q := by have z := (own_ofNat (by omega) (by omega)).2.mp h26; omega
        obtain ⟨x1, hx1⟩ : ∃ y, bs[3 * i + 0]? = some y := ⟨_, List.getElem?_eq_getElem (by omega)⟩
        have hr1 : x1 < 256 := hb x1 (List.mem_of_getElem? hx1)
        obtain ⟨x2, hx2⟩ : ∃ y, bs[3 * i + 1]? = some y := ⟨_, List.getElem?_eq_getElem (by omega)⟩
        have hr2 : x2 < 256 := hb x2 (List.mem_of_getElem? hx2)
        obtain ⟨x3, hx3⟩ : ∃ y, bs[3 * i + 2]? = some y := ⟨_, List.getElem?_eq_getElem (by omega)⟩
        have hr3 : x3 < 256 := hb x3 (List.mem_of_getElem? hx3)
        have bl : (own_b64 (bs.take (3 * i))).length = 4 * i := own_btl (by omega)
        have hol : own_ol bs.length = own_ol bs.length := rfl
        have hcap : 4 * (bs.length / 3) ≤ own_ol bs.length := by unfold own_ol; omega
        refine C.aloadN 30 d53_29 rfl rfl ?_
        refine C.iload 32 d53_30 rfl ?_
        refine C.iinc 35 (L' := #[.val (.ref en), .val (.ref t), .val (.int (0 : Int32)), .val (.int (Int32.ofNat (3 * q))), .val (.ref d), .val (.int (0 : Int32)), .val (.int (1 : Int32)), .val (.ref tb), .val (.int ((Int32.ofNat (3 * i)) + (1 : Int32))), .val (.int (Int32.ofNat (4 * i))), .val (.int c10)]) (1 : Int32) d53_32 (by decide) rfl rfl ?_
        refine C.baload 36 (3 * i) d53_35 R rfl (own_bysget hx1) ?_
        refine C.sipush 39 (255 : Int32) d53_36 (by decide) ?_
        refine C.iand 40 d53_39 ?_
        refine C.bipush 42 (16 : Int32) d53_40 (by decide) ?_
        refine C.ishl 43 d53_42 ?_
        refine C.aloadN 44 d53_43 rfl rfl ?_
        refine C.iload 46 d53_44 rfl ?_
        refine C.iinc 49 (L' := #[.val (.ref en), .val (.ref t), .val (.int (0 : Int32)), .val (.int (Int32.ofNat (3 * q))), .val (.ref d), .val (.int (0 : Int32)), .val (.int (1 : Int32)), .val (.ref tb), .val (.int (((Int32.ofNat (3 * i)) + (1 : Int32)) + (1 : Int32))), .val (.int (Int32.ofNat (4 * i))), .val (.int c10)]) (1 : Int32) d53_46 (by decide) rfl rfl ?_
        refine C.baload 50 (3 * i + 1) d53_49 R (own_succ _) (own_bysget hx2) ?_
        refine C.sipush 53 (255 : Int32) d53_50 (by decide) ?_
        refine C.iand 54 d53_53 ?_
        refine C.bipush 56 (8 : Int32) d53_54 (by decide) ?_
        refine C.ishl 57 d53_56 ?_
        refine C.ior 58 d53_57 ?_
        refine C.aloadN 59 d53_58 rfl rfl ?_
        refine C.iload 61 d53_59 rfl ?_
        refine C.iinc 64 (L' := #[.val (.ref en), .val (.ref t), .val (.int (0 : Int32)), .val (.int (Int32.ofNat (3 * q))), .val (.ref d), .val (.int (0 : Int32)), .val (.int (1 : Int32)), .val (.ref tb), .val (.int ((((Int32.ofNat (3 * i)) + (1 : Int32)) + (1 : Int32)) + (1 : Int32))), .val (.int (Int32.ofNat (4 * i))), .val (.int c10)]) (1 : Int32) d53_61 (by decide) rfl rfl ?_
        refine C.baload 65 (3 * i + 1 + 1) d53_64 R (by rw [own_succ, own_succ]) (own_bysget hx3) ?_
        refine C.sipush 68 (255 : Int32) d53_65 (by decide) ?_
        refine C.iand 69 d53_68 ?_
        refine C.ior 70 d53_69 ?_
        rw [show own_by x1 &&& 255 = Int32.ofNat x1 from own_m255 x1 hr1, show own_by x2 &&& 255 = Int32.ofNat x2 from own_m255 x2 hr2, show own_by x3 &&& 255 = Int32.ofNat x3 from own_m255 x3 hr3, own_h24 hr1 hr2 hr3]
        refine C.istore 72 (L' := #[.val (.ref en), .val (.ref t), .val (.int (0 : Int32)), .val (.int (Int32.ofNat (3 * q))), .val (.ref d), .val (.int (0 : Int32)), .val (.int (1 : Int32)), .val (.ref tb), .val (.int ((((Int32.ofNat (3 * i)) + (1 : Int32)) + (1 : Int32)) + (1 : Int32))), .val (.int (Int32.ofNat (4 * i))), .val (.int (Int32.ofNat (x1 * 65536 + x2 * 256 + x3)))]) d53_70 rfl ?_
        refine C.aload 74 d53_72 rfl rfl ?_
        refine C.iload 76 d53_74 rfl ?_
        refine C.iinc 79 (L' := #[.val (.ref en), .val (.ref t), .val (.int (0 : Int32)), .val (.int (Int32.ofNat (3 * q))), .val (.ref d), .val (.int (0 : Int32)), .val (.int (1 : Int32)), .val (.ref tb), .val (.int ((((Int32.ofNat (3 * i)) + (1 : Int32)) + (1 : Int32)) + (1 : Int32))), .val (.int ((Int32.ofNat (4 * i)) + (1 : Int32))), .val (.int (Int32.ofNat (x1 * 65536 + x2 * 256 + x3)))]) (1 : Int32) d53_76 (by decide) rfl rfl ?_
        refine C.aload 81 d53_79 rfl rfl ?_
        refine C.iload 83 d53_81 rfl ?_
        refine C.bipush 85 (18 : Int32) d53_83 (by decide) ?_
        refine C.iushr 86 d53_85 ?_
        refine C.bipush 88 (63 : Int32) d53_86 (by decide) ?_
        refine C.iand 89 d53_88 ?_
        rw [own_ux (j := x1 / 4) (k := 18) (by omega) (by decide) (by decide) (by omega)]
        refine C.caload 90 (x1 / 4) d53_89 RT rfl (own_Tget (by omega)) ?_
        refine C.i2b 91 d53_90 ?_
        refine C.bastore 92 (4 * i) d53_91 Rd rfl (by rw [own_padlen (by first | omega | (simp; done) | (simp; omega))]; omega) (own_fitsb _) (by omega) (Or.inl hbd) ?_
        intro hs0 Ws0 Ns0
        have sz_hs0 : hh.size ≤ hs0.size := (Nat.le_of_eq Ws0.size.symm)
        replace R := R.other Ws0 (by first | omega | (dsimp only; omega))
        replace RT := RT.other Ws0 (by first | omega | (dsimp only; omega))
        replace Xd := Xd.wr Ws0
        replace Rd : Ar Z hs0 d .byte (own_pad (own_ol bs.length) ((own_b64 (bs.take (3 * i))) ++ [own_al (x1 / 4)])) := (by have z := Ns0; rw [show nar .byte (own_al (x1 / 4)).toInt8.toInt32 = own_al (x1 / 4) from own_nb _ (by omega), own_padset (by first | omega | (simp; omega) | simp) (by omega)] at z; exact z)
        refine C.aload 94 d53_92 rfl rfl ?_
        refine C.iload 96 d53_94 rfl ?_
        refine C.iinc 99 (L' := #[.val (.ref en), .val (.ref t), .val (.int (0 : Int32)), .val (.int (Int32.ofNat (3 * q))), .val (.ref d), .val (.int (0 : Int32)), .val (.int (1 : Int32)), .val (.ref tb), .val (.int ((((Int32.ofNat (3 * i)) + (1 : Int32)) + (1 : Int32)) + (1 : Int32))), .val (.int (((Int32.ofNat (4 * i)) + (1 : Int32)) + (1 : Int32))), .val (.int (Int32.ofNat (x1 * 65536 + x2 * 256 + x3)))]) (1 : Int32) d53_96 (by decide) rfl rfl ?_
        refine C.aload 101 d53_99 rfl rfl ?_
        refine C.iload 103 d53_101 rfl ?_
        refine C.bipush 105 (12 : Int32) d53_103 (by decide) ?_
        refine C.iushr 106 d53_105 ?_
        refine C.bipush 108 (63 : Int32) d53_106 (by decide) ?_
        refine C.iand 109 d53_108 ?_
        rw [own_ux (j := x1 % 4 * 16 + x2 / 16) (k := 12) (by omega) (by decide) (by decide) (by omega)]
        refine C.caload 110 (x1 % 4 * 16 + x2 / 16) d53_109 RT rfl (own_Tget (by omega)) ?_
        refine C.i2b 111 d53_110 ?_
        refine C.bastore 112 (4 * i + 1) d53_111 Rd (by rw [own_succ]) (by rw [own_padlen (by first | omega | (simp; done) | (simp; omega))]; omega) (own_fitsb _) (by omega) (Or.inl hbd) ?_
        intro hs1 Ws1 Ns1
        have sz_hs1 : hs0.size ≤ hs1.size := (Nat.le_of_eq Ws1.size.symm)
        replace R := R.other Ws1 (by first | omega | (dsimp only; omega))
        replace RT := RT.other Ws1 (by first | omega | (dsimp only; omega))
        replace Xd := Xd.wr Ws1
        replace Rd : Ar Z hs1 d .byte (own_pad (own_ol bs.length) ((own_b64 (bs.take (3 * i))) ++ [own_al (x1 / 4)] ++ [own_al (x1 % 4 * 16 + x2 / 16)])) := (by have z := Ns1; rw [show nar .byte (own_al (x1 % 4 * 16 + x2 / 16)).toInt8.toInt32 = own_al (x1 % 4 * 16 + x2 / 16) from own_nb _ (by omega), own_padset (by first | omega | (simp; omega) | simp) (by omega)] at z; exact z)
        refine C.aload 114 d53_112 rfl rfl ?_
        refine C.iload 116 d53_114 rfl ?_
        refine C.iinc 119 (L' := #[.val (.ref en), .val (.ref t), .val (.int (0 : Int32)), .val (.int (Int32.ofNat (3 * q))), .val (.ref d), .val (.int (0 : Int32)), .val (.int (1 : Int32)), .val (.ref tb), .val (.int ((((Int32.ofNat (3 * i)) + (1 : Int32)) + (1 : Int32)) + (1 : Int32))), .val (.int ((((Int32.ofNat (4 * i)) + (1 : Int32)) + (1 : Int32)) + (1 : Int32))), .val (.int (Int32.ofNat (x1 * 65536 + x2 * 256 + x3)))]) (1 : Int32) d53_116 (by decide) rfl rfl ?_
        refine C.aload 121 d53_119 rfl rfl ?_
        refine C.iload 123 d53_121 rfl ?_
        refine C.bipush 125 (6 : Int32) d53_123 (by decide) ?_
        refine C.iushr 126 d53_125 ?_
        refine C.bipush 128 (63 : Int32) d53_126 (by decide) ?_
        refine C.iand 129 d53_128 ?_
        rw [own_ux (j := x2 % 16 * 4 + x3 / 64) (k := 6) (by omega) (by decide) (by decide) (by omega)]
        refine C.caload 130 (x2 % 16 * 4 + x3 / 64) d53_129 RT rfl (own_Tget (by omega)) ?_
        refine C.i2b 131 d53_130 ?_
        refine C.bastore 132 (4 * i + 1 + 1) d53_131 Rd (by rw [own_succ, own_succ]) (by rw [own_padlen (by first | omega | (simp; done) | (simp; omega))]; omega) (own_fitsb _) (by omega) (Or.inl hbd) ?_
        intro hs2 Ws2 Ns2
        have sz_hs2 : hs1.size ≤ hs2.size := (Nat.le_of_eq Ws2.size.symm)
        replace R := R.other Ws2 (by first | omega | (dsimp only; omega))
        replace RT := RT.other Ws2 (by first | omega | (dsimp only; omega))
        replace Xd := Xd.wr Ws2
        replace Rd : Ar Z hs2 d .byte (own_pad (own_ol bs.length) ((own_b64 (bs.take (3 * i))) ++ [own_al (x1 / 4)] ++ [own_al (x1 % 4 * 16 + x2 / 16)] ++ [own_al (x2 % 16 * 4 + x3 / 64)])) := (by have z := Ns2; rw [show nar .byte (own_al (x2 % 16 * 4 + x3 / 64)).toInt8.toInt32 = own_al (x2 % 16 * 4 + x3 / 64) from own_nb _ (by omega), own_padset (by first | omega | (simp; omega) | simp) (by omega)] at z; exact z)
        refine C.aload 134 d53_132 rfl rfl ?_
        refine C.iload 136 d53_134 rfl ?_
        refine C.iinc 139 (L' := #[.val (.ref en), .val (.ref t), .val (.int (0 : Int32)), .val (.int (Int32.ofNat (3 * q))), .val (.ref d), .val (.int (0 : Int32)), .val (.int (1 : Int32)), .val (.ref tb), .val (.int ((((Int32.ofNat (3 * i)) + (1 : Int32)) + (1 : Int32)) + (1 : Int32))), .val (.int (((((Int32.ofNat (4 * i)) + (1 : Int32)) + (1 : Int32)) + (1 : Int32)) + (1 : Int32))), .val (.int (Int32.ofNat (x1 * 65536 + x2 * 256 + x3)))]) (1 : Int32) d53_136 (by decide) rfl rfl ?_
        refine C.aload 141 d53_139 rfl rfl ?_
        refine C.iload 143 d53_141 rfl ?_
        refine C.bipush 145 (63 : Int32) d53_143 (by decide) ?_
        refine C.iand 146 d53_145 ?_
        rw [own_w6 (by omega), show (x1 * 65536 + x2 * 256 + x3) % 64 = x3 % 64 by omega]
        refine C.caload 147 (x3 % 64) d53_146 RT rfl (own_Tget (by omega)) ?_
        refine C.i2b 148 d53_147 ?_
        refine C.bastore 149 (4 * i + 1 + 1 + 1) d53_148 Rd (by rw [own_succ, own_succ, own_succ]) (by rw [own_padlen (by first | omega | (simp; done) | (simp; omega))]; omega) (own_fitsb _) (by omega) (Or.inl hbd) ?_
        intro hs3 Ws3 Ns3
        have sz_hs3 : hs2.size ≤ hs3.size := (Nat.le_of_eq Ws3.size.symm)
        replace R := R.other Ws3 (by first | omega | (dsimp only; omega))
        replace RT := RT.other Ws3 (by first | omega | (dsimp only; omega))
        replace Xd := Xd.wr Ws3
        replace Rd : Ar Z hs3 d .byte (own_pad (own_ol bs.length) ((own_b64 (bs.take (3 * i))) ++ [own_al (x1 / 4)] ++ [own_al (x1 % 4 * 16 + x2 / 16)] ++ [own_al (x2 % 16 * 4 + x3 / 64)] ++ [own_al (x3 % 64)])) := (by have z := Ns3; rw [show nar .byte (own_al (x3 % 64)).toInt8.toInt32 = own_al (x3 % 64) from own_nb _ (by omega), own_padset (by first | omega | (simp; omega) | simp) (by omega)] at z; exact z)
        refine C.goto 23 d53_149 (by decide) (by decide) ?_
        rw [own_succ, own_succ, own_succ, own_succ, own_succ, own_succ, own_succ, show 3 * i + 1 + 1 + 1 = 3 * (i + 1) by omega, show 4 * i + 1 + 1 + 1 + 1 = 4 * (i + 1) by omega]
        exact ih _ (show q - (i + 1) < n by omega) (i + 1) hs3 _ rfl (by omega) R (by rw [own_b3 hx1 hx2 hx3]; simpa using Rd) RT Xd (Kh.trans ((((OKp.ofWr Ws0).trans (OKp.ofWr Ws1)).trans (OKp.ofWr Ws2)).trans (OKp.ofWr Ws3)))
      · skip
        refine C.icY 152 d53_26 (by decide) (by decide) (XT.ii_ge_t h26) ?_
        refine C.retV rfl d53_152 (by decide) (by decide) (Or.inl (Nat.le_refl _)) ?_
        exact ⟨rfl, Kh, by rw [show q = i by have z : ¬ i < q := fun z => h26 ((own_ofNat (by omega) (by omega)).2.mpr (by omega)); omega]; exact Rd, Xd⟩
  refine C.iloadN 17 d53_16 rfl ?_
  refine C.istore 19 (L' := #[.val (.ref en), .val (.ref t), .val (.int (0 : Int32)), .val (.int (Int32.ofNat (3 * q))), .val (.ref d), .val (.int (0 : Int32)), .val (.int (1 : Int32)), .val (.ref tb), .val (.int (0 : Int32)), .unset, .unset]) d53_17 rfl ?_
  refine C.iload 21 d53_19 rfl ?_
  refine C.istore 23 (L' := #[.val (.ref en), .val (.ref t), .val (.int (0 : Int32)), .val (.int (Int32.ofNat (3 * q))), .val (.ref d), .val (.int (0 : Int32)), .val (.int (1 : Int32)), .val (.ref tb), .val (.int (0 : Int32)), .val (.int (0 : Int32)), .unset]) d53_21 rfl ?_
  refine C.iload 25 d53_23 rfl ?_
  refine C.iloadN 26 d53_25 rfl ?_
  refine C.icN 29 d53_26 rfl (XT.ii_ge_f (show (0 : Int32) < (Int32.ofNat (3 * q)) from ((own_ofNat (show 0 < 2147483648 by decide) (by omega)).2.mpr (by omega)))) ?_
  obtain ⟨x1, hx1⟩ : ∃ y, bs[0 + 0]? = some y := ⟨_, List.getElem?_eq_getElem (by omega)⟩
  have hr1 : x1 < 256 := hb x1 (List.mem_of_getElem? hx1)
  obtain ⟨x2, hx2⟩ : ∃ y, bs[0 + 1]? = some y := ⟨_, List.getElem?_eq_getElem (by omega)⟩
  have hr2 : x2 < 256 := hb x2 (List.mem_of_getElem? hx2)
  obtain ⟨x3, hx3⟩ : ∃ y, bs[0 + 2]? = some y := ⟨_, List.getElem?_eq_getElem (by omega)⟩
  have hr3 : x3 < 256 := hb x3 (List.mem_of_getElem? hx3)
  have hol : own_ol bs.length = own_ol bs.length := rfl
  have hcap : 4 * (bs.length / 3) ≤ own_ol bs.length := by unfold own_ol; omega
  refine C.aloadN 30 d53_29 rfl rfl ?_
  refine C.iload 32 d53_30 rfl ?_
  refine C.iinc 35 (L' := #[.val (.ref en), .val (.ref t), .val (.int (0 : Int32)), .val (.int (Int32.ofNat (3 * q))), .val (.ref d), .val (.int (0 : Int32)), .val (.int (1 : Int32)), .val (.ref tb), .val (.int ((0 : Int32) + (1 : Int32))), .val (.int (0 : Int32)), .unset]) (1 : Int32) d53_32 (by decide) rfl rfl ?_
  refine C.baload 36 0 d53_35 R rfl (own_bysget hx1) ?_
  refine C.sipush 39 (255 : Int32) d53_36 (by decide) ?_
  refine C.iand 40 d53_39 ?_
  refine C.bipush 42 (16 : Int32) d53_40 (by decide) ?_
  refine C.ishl 43 d53_42 ?_
  refine C.aloadN 44 d53_43 rfl rfl ?_
  refine C.iload 46 d53_44 rfl ?_
  refine C.iinc 49 (L' := #[.val (.ref en), .val (.ref t), .val (.int (0 : Int32)), .val (.int (Int32.ofNat (3 * q))), .val (.ref d), .val (.int (0 : Int32)), .val (.int (1 : Int32)), .val (.ref tb), .val (.int (((0 : Int32) + (1 : Int32)) + (1 : Int32))), .val (.int (0 : Int32)), .unset]) (1 : Int32) d53_46 (by decide) rfl rfl ?_
  refine C.baload 50 1 d53_49 R rfl (own_bysget hx2) ?_
  refine C.sipush 53 (255 : Int32) d53_50 (by decide) ?_
  refine C.iand 54 d53_53 ?_
  refine C.bipush 56 (8 : Int32) d53_54 (by decide) ?_
  refine C.ishl 57 d53_56 ?_
  refine C.ior 58 d53_57 ?_
  refine C.aloadN 59 d53_58 rfl rfl ?_
  refine C.iload 61 d53_59 rfl ?_
  refine C.iinc 64 (L' := #[.val (.ref en), .val (.ref t), .val (.int (0 : Int32)), .val (.int (Int32.ofNat (3 * q))), .val (.ref d), .val (.int (0 : Int32)), .val (.int (1 : Int32)), .val (.ref tb), .val (.int ((((0 : Int32) + (1 : Int32)) + (1 : Int32)) + (1 : Int32))), .val (.int (0 : Int32)), .unset]) (1 : Int32) d53_61 (by decide) rfl rfl ?_
  refine C.baload 65 2 d53_64 R rfl (own_bysget hx3) ?_
  refine C.sipush 68 (255 : Int32) d53_65 (by decide) ?_
  refine C.iand 69 d53_68 ?_
  refine C.ior 70 d53_69 ?_
  rw [show own_by x1 &&& 255 = Int32.ofNat x1 from own_m255 x1 hr1, show own_by x2 &&& 255 = Int32.ofNat x2 from own_m255 x2 hr2, show own_by x3 &&& 255 = Int32.ofNat x3 from own_m255 x3 hr3, own_h24 hr1 hr2 hr3]
  refine C.istore 72 (L' := #[.val (.ref en), .val (.ref t), .val (.int (0 : Int32)), .val (.int (Int32.ofNat (3 * q))), .val (.ref d), .val (.int (0 : Int32)), .val (.int (1 : Int32)), .val (.ref tb), .val (.int ((((0 : Int32) + (1 : Int32)) + (1 : Int32)) + (1 : Int32))), .val (.int (0 : Int32)), .val (.int (Int32.ofNat (x1 * 65536 + x2 * 256 + x3)))]) d53_70 rfl ?_
  refine C.aload 74 d53_72 rfl rfl ?_
  refine C.iload 76 d53_74 rfl ?_
  refine C.iinc 79 (L' := #[.val (.ref en), .val (.ref t), .val (.int (0 : Int32)), .val (.int (Int32.ofNat (3 * q))), .val (.ref d), .val (.int (0 : Int32)), .val (.int (1 : Int32)), .val (.ref tb), .val (.int ((((0 : Int32) + (1 : Int32)) + (1 : Int32)) + (1 : Int32))), .val (.int ((0 : Int32) + (1 : Int32))), .val (.int (Int32.ofNat (x1 * 65536 + x2 * 256 + x3)))]) (1 : Int32) d53_76 (by decide) rfl rfl ?_
  refine C.aload 81 d53_79 rfl rfl ?_
  refine C.iload 83 d53_81 rfl ?_
  refine C.bipush 85 (18 : Int32) d53_83 (by decide) ?_
  refine C.iushr 86 d53_85 ?_
  refine C.bipush 88 (63 : Int32) d53_86 (by decide) ?_
  refine C.iand 89 d53_88 ?_
  rw [own_ux (j := x1 / 4) (k := 18) (by omega) (by decide) (by decide) (by omega)]
  refine C.caload 90 (x1 / 4) d53_89 RT rfl (own_Tget (by omega)) ?_
  refine C.i2b 91 d53_90 ?_
  refine C.bastore 92 0 d53_91 Rd rfl (by rw [own_padlen (by first | omega | (simp; done) | (simp; omega))]; omega) (own_fitsb _) (by omega) (Or.inl hbd) ?_
  intro hs0 Ws0 Ns0
  have sz_hs0 : h0.size ≤ hs0.size := (Nat.le_of_eq Ws0.size.symm)
  replace R := R.other Ws0 (by first | omega | (dsimp only; omega))
  replace RT := RT.other Ws0 (by first | omega | (dsimp only; omega))
  replace Xd := Xd.wr Ws0
  replace Rd : Ar Z hs0 d .byte (own_pad (own_ol bs.length) (([] : List Int32) ++ [own_al (x1 / 4)])) := (by have z := Ns0; rw [show nar .byte (own_al (x1 / 4)).toInt8.toInt32 = own_al (x1 / 4) from own_nb _ (by omega), own_padset (by first | omega | (simp; omega) | simp) (by omega)] at z; exact z)
  refine C.aload 94 d53_92 rfl rfl ?_
  refine C.iload 96 d53_94 rfl ?_
  refine C.iinc 99 (L' := #[.val (.ref en), .val (.ref t), .val (.int (0 : Int32)), .val (.int (Int32.ofNat (3 * q))), .val (.ref d), .val (.int (0 : Int32)), .val (.int (1 : Int32)), .val (.ref tb), .val (.int ((((0 : Int32) + (1 : Int32)) + (1 : Int32)) + (1 : Int32))), .val (.int (((0 : Int32) + (1 : Int32)) + (1 : Int32))), .val (.int (Int32.ofNat (x1 * 65536 + x2 * 256 + x3)))]) (1 : Int32) d53_96 (by decide) rfl rfl ?_
  refine C.aload 101 d53_99 rfl rfl ?_
  refine C.iload 103 d53_101 rfl ?_
  refine C.bipush 105 (12 : Int32) d53_103 (by decide) ?_
  refine C.iushr 106 d53_105 ?_
  refine C.bipush 108 (63 : Int32) d53_106 (by decide) ?_
  refine C.iand 109 d53_108 ?_
  rw [own_ux (j := x1 % 4 * 16 + x2 / 16) (k := 12) (by omega) (by decide) (by decide) (by omega)]
  refine C.caload 110 (x1 % 4 * 16 + x2 / 16) d53_109 RT rfl (own_Tget (by omega)) ?_
  refine C.i2b 111 d53_110 ?_
  refine C.bastore 112 1 d53_111 Rd rfl (by rw [own_padlen (by first | omega | (simp; done) | (simp; omega))]; omega) (own_fitsb _) (by omega) (Or.inl hbd) ?_
  intro hs1 Ws1 Ns1
  have sz_hs1 : hs0.size ≤ hs1.size := (Nat.le_of_eq Ws1.size.symm)
  replace R := R.other Ws1 (by first | omega | (dsimp only; omega))
  replace RT := RT.other Ws1 (by first | omega | (dsimp only; omega))
  replace Xd := Xd.wr Ws1
  replace Rd : Ar Z hs1 d .byte (own_pad (own_ol bs.length) (([] : List Int32) ++ [own_al (x1 / 4)] ++ [own_al (x1 % 4 * 16 + x2 / 16)])) := (by have z := Ns1; rw [show nar .byte (own_al (x1 % 4 * 16 + x2 / 16)).toInt8.toInt32 = own_al (x1 % 4 * 16 + x2 / 16) from own_nb _ (by omega), own_padset (by first | omega | (simp; omega) | simp) (by omega)] at z; exact z)
  refine C.aload 114 d53_112 rfl rfl ?_
  refine C.iload 116 d53_114 rfl ?_
  refine C.iinc 119 (L' := #[.val (.ref en), .val (.ref t), .val (.int (0 : Int32)), .val (.int (Int32.ofNat (3 * q))), .val (.ref d), .val (.int (0 : Int32)), .val (.int (1 : Int32)), .val (.ref tb), .val (.int ((((0 : Int32) + (1 : Int32)) + (1 : Int32)) + (1 : Int32))), .val (.int ((((0 : Int32) + (1 : Int32)) + (1 : Int32)) + (1 : Int32))), .val (.int (Int32.ofNat (x1 * 65536 + x2 * 256 + x3)))]) (1 : Int32) d53_116 (by decide) rfl rfl ?_
  refine C.aload 121 d53_119 rfl rfl ?_
  refine C.iload 123 d53_121 rfl ?_
  refine C.bipush 125 (6 : Int32) d53_123 (by decide) ?_
  refine C.iushr 126 d53_125 ?_
  refine C.bipush 128 (63 : Int32) d53_126 (by decide) ?_
  refine C.iand 129 d53_128 ?_
  rw [own_ux (j := x2 % 16 * 4 + x3 / 64) (k := 6) (by omega) (by decide) (by decide) (by omega)]
  refine C.caload 130 (x2 % 16 * 4 + x3 / 64) d53_129 RT rfl (own_Tget (by omega)) ?_
  refine C.i2b 131 d53_130 ?_
  refine C.bastore 132 2 d53_131 Rd rfl (by rw [own_padlen (by first | omega | (simp; done) | (simp; omega))]; omega) (own_fitsb _) (by omega) (Or.inl hbd) ?_
  intro hs2 Ws2 Ns2
  have sz_hs2 : hs1.size ≤ hs2.size := (Nat.le_of_eq Ws2.size.symm)
  replace R := R.other Ws2 (by first | omega | (dsimp only; omega))
  replace RT := RT.other Ws2 (by first | omega | (dsimp only; omega))
  replace Xd := Xd.wr Ws2
  replace Rd : Ar Z hs2 d .byte (own_pad (own_ol bs.length) (([] : List Int32) ++ [own_al (x1 / 4)] ++ [own_al (x1 % 4 * 16 + x2 / 16)] ++ [own_al (x2 % 16 * 4 + x3 / 64)])) := (by have z := Ns2; rw [show nar .byte (own_al (x2 % 16 * 4 + x3 / 64)).toInt8.toInt32 = own_al (x2 % 16 * 4 + x3 / 64) from own_nb _ (by omega), own_padset (by first | omega | (simp; omega) | simp) (by omega)] at z; exact z)
  refine C.aload 134 d53_132 rfl rfl ?_
  refine C.iload 136 d53_134 rfl ?_
  refine C.iinc 139 (L' := #[.val (.ref en), .val (.ref t), .val (.int (0 : Int32)), .val (.int (Int32.ofNat (3 * q))), .val (.ref d), .val (.int (0 : Int32)), .val (.int (1 : Int32)), .val (.ref tb), .val (.int ((((0 : Int32) + (1 : Int32)) + (1 : Int32)) + (1 : Int32))), .val (.int (((((0 : Int32) + (1 : Int32)) + (1 : Int32)) + (1 : Int32)) + (1 : Int32))), .val (.int (Int32.ofNat (x1 * 65536 + x2 * 256 + x3)))]) (1 : Int32) d53_136 (by decide) rfl rfl ?_
  refine C.aload 141 d53_139 rfl rfl ?_
  refine C.iload 143 d53_141 rfl ?_
  refine C.bipush 145 (63 : Int32) d53_143 (by decide) ?_
  refine C.iand 146 d53_145 ?_
  rw [own_w6 (by omega), show (x1 * 65536 + x2 * 256 + x3) % 64 = x3 % 64 by omega]
  refine C.caload 147 (x3 % 64) d53_146 RT rfl (own_Tget (by omega)) ?_
  refine C.i2b 148 d53_147 ?_
  refine C.bastore 149 3 d53_148 Rd rfl (by rw [own_padlen (by first | omega | (simp; done) | (simp; omega))]; omega) (own_fitsb _) (by omega) (Or.inl hbd) ?_
  intro hs3 Ws3 Ns3
  have sz_hs3 : hs2.size ≤ hs3.size := (Nat.le_of_eq Ws3.size.symm)
  replace R := R.other Ws3 (by first | omega | (dsimp only; omega))
  replace RT := RT.other Ws3 (by first | omega | (dsimp only; omega))
  replace Xd := Xd.wr Ws3
  replace Rd : Ar Z hs3 d .byte (own_pad (own_ol bs.length) (([] : List Int32) ++ [own_al (x1 / 4)] ++ [own_al (x1 % 4 * 16 + x2 / 16)] ++ [own_al (x2 % 16 * 4 + x3 / 64)] ++ [own_al (x3 % 64)])) := (by have z := Ns3; rw [show nar .byte (own_al (x3 % 64)).toInt8.toInt32 = own_al (x3 % 64) from own_nb _ (by omega), own_padset (by first | omega | (simp; omega) | simp) (by omega)] at z; exact z)
  refine C.goto 23 d53_149 (by decide) (by decide) ?_
  exact L23 _ 1 hs3 _ rfl (by omega) R (by rw [own_b3 (q := 0) hx1 hx2 hx3]; simpa [own_b64] using Rd) RT Xd ((((OKp.ofWr Ws0).trans (OKp.ofWr Ws1)).trans (OKp.ofWr Ws2)).trans (OKp.ofWr Ws3))
-- @@PART
theorem own_fin0 {bs : List Nat} (h : bs.length = 3 * (bs.length / 3)) : own_b64 (bs.take (3 * (bs.length / 3))) = own_b64 bs := by rw [← h, List.take_length]
theorem own_fin1 {bs : List Nat} {x1 : Nat} (h1 : bs[3 * (bs.length / 3)]? = some x1) (hl : bs.length = 3 * (bs.length / 3) + 1) : own_b64 (bs.take (3 * (bs.length / 3))) ++ [own_al (x1 / 4)] ++ [own_al (x1 % 4 * 16)] = own_b64 bs := by
  have q := own_bt (bs.length / 3) bs (by omega)
  rw [own_g1 h1 hl, own_b1] at q
  rw [q]; simp
theorem own_fin2 {bs : List Nat} {x1 x2 : Nat} (h1 : bs[3 * (bs.length / 3)]? = some x1) (h2 : bs[3 * (bs.length / 3) + 1]? = some x2) (hl : bs.length = 3 * (bs.length / 3) + 2) : own_b64 (bs.take (3 * (bs.length / 3))) ++ [own_al (x1 / 4)] ++ [own_al (x1 % 4 * 16 + x2 / 16)] ++ [own_al (x2 % 16 * 4)] = own_b64 bs := by
  have q := own_bt (bs.length / 3) bs (by omega)
  rw [own_g2 h1 h2 hl, own_b2] at q
  rw [q]; simp
theorem own_ole {n k : Nat} (h : n = 3 * (n / 3) + k) (hk : k = 1 ∨ k = 2) : own_ol n = 4 * (n / 3) + k + 1 := by unfold own_ol; rw [if_neg (by omega)]; omega
theorem own_ole0 {n : Nat} (h : n = 3 * (n / 3)) : own_ol n = 4 * (n / 3) := by unfold own_ol; rw [if_pos (by omega), Nat.add_zero]
theorem pd__ABIIABIZ_rV : parseMethodDescriptor "([BII[BIZ)V" = some ⟨[(.array .byte), .int, .int, (.array .byte), .int, .boolean], none⟩ := by decide +kernel
theorem d54_0 : decode jdk_2452_method_10_code 0 = .ok (.aload_n 0, 1) := by decide +kernel
theorem d54_1 : decode jdk_2452_method_10_code 1 = .ok (.getfield 7, 3) := by decide +kernel
theorem d54_4 : decode jdk_2452_method_10_code 4 = .ok (.ifCond .eq 9, 3) := by decide +kernel
theorem d54_7 : decode jdk_2452_method_10_code 7 = .ok (.getstatic 111, 3) := by decide +kernel
theorem d54_10 : decode jdk_2452_method_10_code 10 = .ok (.goto 6, 3) := by decide +kernel
theorem d54_16 : decode jdk_2452_method_10_code 16 = .ok (.astore 5, 2) := by decide +kernel
theorem d54_18 : decode jdk_2452_method_10_code 18 = .ok (.iload_n 2, 1) := by decide +kernel
theorem d54_19 : decode jdk_2452_method_10_code 19 = .ok (.istore 6, 2) := by decide +kernel
theorem d54_21 : decode jdk_2452_method_10_code 21 = .ok (.iload_n 3, 1) := by decide +kernel
theorem d54_22 : decode jdk_2452_method_10_code 22 = .ok (.iload_n 2, 1) := by decide +kernel
theorem d54_23 : decode jdk_2452_method_10_code 23 = .ok (.isub, 1) := by decide +kernel
theorem d54_24 : decode jdk_2452_method_10_code 24 = .ok (.iconst 3, 1) := by decide +kernel
theorem d54_25 : decode jdk_2452_method_10_code 25 = .ok (.idiv, 1) := by decide +kernel
theorem d54_26 : decode jdk_2452_method_10_code 26 = .ok (.iconst 3, 1) := by decide +kernel
theorem d54_27 : decode jdk_2452_method_10_code 27 = .ok (.imul, 1) := by decide +kernel
theorem d54_28 : decode jdk_2452_method_10_code 28 = .ok (.istore 7, 2) := by decide +kernel
theorem d54_30 : decode jdk_2452_method_10_code 30 = .ok (.iload_n 2, 1) := by decide +kernel
theorem d54_31 : decode jdk_2452_method_10_code 31 = .ok (.iload 7, 2) := by decide +kernel
theorem d54_33 : decode jdk_2452_method_10_code 33 = .ok (.iadd, 1) := by decide +kernel
theorem d54_34 : decode jdk_2452_method_10_code 34 = .ok (.istore 8, 2) := by decide +kernel
theorem d54_36 : decode jdk_2452_method_10_code 36 = .ok (.aload_n 0, 1) := by decide +kernel
theorem d54_37 : decode jdk_2452_method_10_code 37 = .ok (.getfield 17, 3) := by decide +kernel
theorem d54_40 : decode jdk_2452_method_10_code 40 = .ok (.ifCond .le 26, 3) := by decide +kernel
theorem d54_66 : decode jdk_2452_method_10_code 66 = .ok (.iconst 0, 1) := by decide +kernel
theorem d54_67 : decode jdk_2452_method_10_code 67 = .ok (.istore 9, 2) := by decide +kernel
theorem d54_69 : decode jdk_2452_method_10_code 69 = .ok (.iload 6, 2) := by decide +kernel
theorem d54_71 : decode jdk_2452_method_10_code 71 = .ok (.iload 8, 2) := by decide +kernel
theorem d54_73 : decode jdk_2452_method_10_code 73 = .ok (.if_icmp .ge 116, 3) := by decide +kernel
theorem d54_76 : decode jdk_2452_method_10_code 76 = .ok (.iload 6, 2) := by decide +kernel
theorem d54_78 : decode jdk_2452_method_10_code 78 = .ok (.iload 7, 2) := by decide +kernel
theorem d54_80 : decode jdk_2452_method_10_code 80 = .ok (.iadd, 1) := by decide +kernel
theorem d54_81 : decode jdk_2452_method_10_code 81 = .ok (.iload 8, 2) := by decide +kernel
theorem d54_83 : decode jdk_2452_method_10_code 83 = .ok (.invokestatic 124, 3) := by decide +kernel
theorem d54_86 : decode jdk_2452_method_10_code 86 = .ok (.istore 10, 2) := by decide +kernel
theorem d54_88 : decode jdk_2452_method_10_code 88 = .ok (.aload_n 0, 1) := by decide +kernel
theorem d54_89 : decode jdk_2452_method_10_code 89 = .ok (.aload_n 1, 1) := by decide +kernel
theorem d54_90 : decode jdk_2452_method_10_code 90 = .ok (.iload 6, 2) := by decide +kernel
theorem d54_92 : decode jdk_2452_method_10_code 92 = .ok (.iload 10, 2) := by decide +kernel
theorem d54_94 : decode jdk_2452_method_10_code 94 = .ok (.aload 4, 2) := by decide +kernel
theorem d54_96 : decode jdk_2452_method_10_code 96 = .ok (.iload 9, 2) := by decide +kernel
theorem d54_98 : decode jdk_2452_method_10_code 98 = .ok (.aload_n 0, 1) := by decide +kernel
theorem d54_99 : decode jdk_2452_method_10_code 99 = .ok (.getfield 7, 3) := by decide +kernel
theorem d54_102 : decode jdk_2452_method_10_code 102 = .ok (.invokevirtual 127, 3) := by decide +kernel
theorem d54_105 : decode jdk_2452_method_10_code 105 = .ok (.iload 10, 2) := by decide +kernel
theorem d54_107 : decode jdk_2452_method_10_code 107 = .ok (.iload 6, 2) := by decide +kernel
theorem d54_109 : decode jdk_2452_method_10_code 109 = .ok (.isub, 1) := by decide +kernel
theorem d54_110 : decode jdk_2452_method_10_code 110 = .ok (.iconst 3, 1) := by decide +kernel
theorem d54_111 : decode jdk_2452_method_10_code 111 = .ok (.idiv, 1) := by decide +kernel
theorem d54_112 : decode jdk_2452_method_10_code 112 = .ok (.iconst 4, 1) := by decide +kernel
theorem d54_113 : decode jdk_2452_method_10_code 113 = .ok (.imul, 1) := by decide +kernel
theorem d54_114 : decode jdk_2452_method_10_code 114 = .ok (.istore 11, 2) := by decide +kernel
theorem d54_116 : decode jdk_2452_method_10_code 116 = .ok (.iload 9, 2) := by decide +kernel
theorem d54_118 : decode jdk_2452_method_10_code 118 = .ok (.iload 11, 2) := by decide +kernel
theorem d54_120 : decode jdk_2452_method_10_code 120 = .ok (.iadd, 1) := by decide +kernel
theorem d54_121 : decode jdk_2452_method_10_code 121 = .ok (.istore 9, 2) := by decide +kernel
theorem d54_123 : decode jdk_2452_method_10_code 123 = .ok (.iload 10, 2) := by decide +kernel
theorem d54_125 : decode jdk_2452_method_10_code 125 = .ok (.istore 6, 2) := by decide +kernel
theorem d54_127 : decode jdk_2452_method_10_code 127 = .ok (.iload 11, 2) := by decide +kernel
theorem d54_129 : decode jdk_2452_method_10_code 129 = .ok (.aload_n 0, 1) := by decide +kernel
theorem d54_130 : decode jdk_2452_method_10_code 130 = .ok (.getfield 17, 3) := by decide +kernel
theorem d54_133 : decode jdk_2452_method_10_code 133 = .ok (.if_icmp .ne 53, 3) := by decide +kernel
theorem d54_186 : decode jdk_2452_method_10_code 186 = .ok (.goto (-117), 3) := by decide +kernel
theorem d54_189 : decode jdk_2452_method_10_code 189 = .ok (.iload 6, 2) := by decide +kernel
theorem d54_191 : decode jdk_2452_method_10_code 191 = .ok (.iload_n 3, 1) := by decide +kernel
theorem d54_192 : decode jdk_2452_method_10_code 192 = .ok (.if_icmp .ge 160, 3) := by decide +kernel
theorem d54_195 : decode jdk_2452_method_10_code 195 = .ok (.aload_n 1, 1) := by decide +kernel
theorem d54_196 : decode jdk_2452_method_10_code 196 = .ok (.iload 6, 2) := by decide +kernel
theorem d54_198 : decode jdk_2452_method_10_code 198 = .ok (.iinc 6 1, 3) := by decide +kernel
theorem d54_201 : decode jdk_2452_method_10_code 201 = .ok (.baload, 1) := by decide +kernel
theorem d54_202 : decode jdk_2452_method_10_code 202 = .ok (.sipush 255, 3) := by decide +kernel
theorem d54_205 : decode jdk_2452_method_10_code 205 = .ok (.iand, 1) := by decide +kernel
theorem d54_206 : decode jdk_2452_method_10_code 206 = .ok (.istore 10, 2) := by decide +kernel
theorem d54_208 : decode jdk_2452_method_10_code 208 = .ok (.aload 4, 2) := by decide +kernel
theorem d54_210 : decode jdk_2452_method_10_code 210 = .ok (.iload 9, 2) := by decide +kernel
theorem d54_212 : decode jdk_2452_method_10_code 212 = .ok (.iinc 9 1, 3) := by decide +kernel
theorem d54_215 : decode jdk_2452_method_10_code 215 = .ok (.aload 5, 2) := by decide +kernel
theorem d54_217 : decode jdk_2452_method_10_code 217 = .ok (.iload 10, 2) := by decide +kernel
theorem d54_219 : decode jdk_2452_method_10_code 219 = .ok (.iconst 2, 1) := by decide +kernel
theorem d54_220 : decode jdk_2452_method_10_code 220 = .ok (.ishr, 1) := by decide +kernel
theorem d54_221 : decode jdk_2452_method_10_code 221 = .ok (.caload, 1) := by decide +kernel
theorem d54_222 : decode jdk_2452_method_10_code 222 = .ok (.i2b, 1) := by decide +kernel
theorem d54_223 : decode jdk_2452_method_10_code 223 = .ok (.bastore, 1) := by decide +kernel
theorem d54_224 : decode jdk_2452_method_10_code 224 = .ok (.iload 6, 2) := by decide +kernel
theorem d54_226 : decode jdk_2452_method_10_code 226 = .ok (.iload_n 3, 1) := by decide +kernel
theorem d54_227 : decode jdk_2452_method_10_code 227 = .ok (.if_icmp .ne 52, 3) := by decide +kernel
theorem d54_230 : decode jdk_2452_method_10_code 230 = .ok (.aload 4, 2) := by decide +kernel
theorem d54_232 : decode jdk_2452_method_10_code 232 = .ok (.iload 9, 2) := by decide +kernel
theorem d54_234 : decode jdk_2452_method_10_code 234 = .ok (.iinc 9 1, 3) := by decide +kernel
theorem d54_237 : decode jdk_2452_method_10_code 237 = .ok (.aload 5, 2) := by decide +kernel
theorem d54_239 : decode jdk_2452_method_10_code 239 = .ok (.iload 10, 2) := by decide +kernel
theorem d54_241 : decode jdk_2452_method_10_code 241 = .ok (.iconst 4, 1) := by decide +kernel
theorem d54_242 : decode jdk_2452_method_10_code 242 = .ok (.ishl, 1) := by decide +kernel
theorem d54_243 : decode jdk_2452_method_10_code 243 = .ok (.bipush 63, 2) := by decide +kernel
theorem d54_245 : decode jdk_2452_method_10_code 245 = .ok (.iand, 1) := by decide +kernel
theorem d54_246 : decode jdk_2452_method_10_code 246 = .ok (.caload, 1) := by decide +kernel
theorem d54_247 : decode jdk_2452_method_10_code 247 = .ok (.i2b, 1) := by decide +kernel
theorem d54_248 : decode jdk_2452_method_10_code 248 = .ok (.bastore, 1) := by decide +kernel
theorem d54_249 : decode jdk_2452_method_10_code 249 = .ok (.aload_n 0, 1) := by decide +kernel
theorem d54_250 : decode jdk_2452_method_10_code 250 = .ok (.getfield 21, 3) := by decide +kernel
theorem d54_253 : decode jdk_2452_method_10_code 253 = .ok (.ifCond .eq 99, 3) := by decide +kernel
theorem d54_279 : decode jdk_2452_method_10_code 279 = .ok (.aload_n 1, 1) := by decide +kernel
theorem d54_280 : decode jdk_2452_method_10_code 280 = .ok (.iload 6, 2) := by decide +kernel
theorem d54_282 : decode jdk_2452_method_10_code 282 = .ok (.iinc 6 1, 3) := by decide +kernel
theorem d54_285 : decode jdk_2452_method_10_code 285 = .ok (.baload, 1) := by decide +kernel
theorem d54_286 : decode jdk_2452_method_10_code 286 = .ok (.sipush 255, 3) := by decide +kernel
theorem d54_289 : decode jdk_2452_method_10_code 289 = .ok (.iand, 1) := by decide +kernel
theorem d54_290 : decode jdk_2452_method_10_code 290 = .ok (.istore 11, 2) := by decide +kernel
theorem d54_292 : decode jdk_2452_method_10_code 292 = .ok (.aload 4, 2) := by decide +kernel
theorem d54_294 : decode jdk_2452_method_10_code 294 = .ok (.iload 9, 2) := by decide +kernel
theorem d54_296 : decode jdk_2452_method_10_code 296 = .ok (.iinc 9 1, 3) := by decide +kernel
theorem d54_299 : decode jdk_2452_method_10_code 299 = .ok (.aload 5, 2) := by decide +kernel
theorem d54_301 : decode jdk_2452_method_10_code 301 = .ok (.iload 10, 2) := by decide +kernel
theorem d54_303 : decode jdk_2452_method_10_code 303 = .ok (.iconst 4, 1) := by decide +kernel
theorem d54_304 : decode jdk_2452_method_10_code 304 = .ok (.ishl, 1) := by decide +kernel
theorem d54_305 : decode jdk_2452_method_10_code 305 = .ok (.bipush 63, 2) := by decide +kernel
theorem d54_307 : decode jdk_2452_method_10_code 307 = .ok (.iand, 1) := by decide +kernel
theorem d54_308 : decode jdk_2452_method_10_code 308 = .ok (.iload 11, 2) := by decide +kernel
theorem d54_310 : decode jdk_2452_method_10_code 310 = .ok (.iconst 4, 1) := by decide +kernel
theorem d54_311 : decode jdk_2452_method_10_code 311 = .ok (.ishr, 1) := by decide +kernel
theorem d54_312 : decode jdk_2452_method_10_code 312 = .ok (.ior, 1) := by decide +kernel
theorem d54_313 : decode jdk_2452_method_10_code 313 = .ok (.caload, 1) := by decide +kernel
theorem d54_314 : decode jdk_2452_method_10_code 314 = .ok (.i2b, 1) := by decide +kernel
theorem d54_315 : decode jdk_2452_method_10_code 315 = .ok (.bastore, 1) := by decide +kernel
theorem d54_316 : decode jdk_2452_method_10_code 316 = .ok (.aload 4, 2) := by decide +kernel
theorem d54_318 : decode jdk_2452_method_10_code 318 = .ok (.iload 9, 2) := by decide +kernel
theorem d54_320 : decode jdk_2452_method_10_code 320 = .ok (.iinc 9 1, 3) := by decide +kernel
theorem d54_323 : decode jdk_2452_method_10_code 323 = .ok (.aload 5, 2) := by decide +kernel
theorem d54_325 : decode jdk_2452_method_10_code 325 = .ok (.iload 11, 2) := by decide +kernel
theorem d54_327 : decode jdk_2452_method_10_code 327 = .ok (.iconst 2, 1) := by decide +kernel
theorem d54_328 : decode jdk_2452_method_10_code 328 = .ok (.ishl, 1) := by decide +kernel
theorem d54_329 : decode jdk_2452_method_10_code 329 = .ok (.bipush 63, 2) := by decide +kernel
theorem d54_331 : decode jdk_2452_method_10_code 331 = .ok (.iand, 1) := by decide +kernel
theorem d54_332 : decode jdk_2452_method_10_code 332 = .ok (.caload, 1) := by decide +kernel
theorem d54_333 : decode jdk_2452_method_10_code 333 = .ok (.i2b, 1) := by decide +kernel
theorem d54_334 : decode jdk_2452_method_10_code 334 = .ok (.bastore, 1) := by decide +kernel
theorem d54_335 : decode jdk_2452_method_10_code 335 = .ok (.aload_n 0, 1) := by decide +kernel
theorem d54_336 : decode jdk_2452_method_10_code 336 = .ok (.getfield 21, 3) := by decide +kernel
theorem d54_339 : decode jdk_2452_method_10_code 339 = .ok (.ifCond .eq 13, 3) := by decide +kernel
theorem d54_352 : decode jdk_2452_method_10_code 352 = .ok (.iload 9, 2) := by decide +kernel
theorem d54_354 : decode jdk_2452_method_10_code 354 = .ok (.ireturn, 1) := by decide +kernel
theorem ef_59 (m : MethodId) (x0 : Nat) (x1 : Nat) (x2 : Int32) (x3 : Int32) (x4 : Nat) : entryFrame m #[(.ref x0), (.ref x1), (.int x2), (.int x3), (.ref x4)] 16 = mkF m 0 #[.val (.ref x0), .val (.ref x1), .val (.int x2), .val (.int x3), .val (.ref x4), .unset, .unset, .unset, .unset, .unset, .unset, .unset, .unset, .unset, .unset, .unset] [] := by first | (simp [entryFrame, mkF, argsToLocals, Value.category]; done) | rfl
set_option maxRecDepth 65536 in
set_option maxHeartbeats 40000000 in
theorem met_e0 (l : Launch) (Z : State) (a0 : Array Value) (hw : ∀ d ∈ tables_1, d.before a0 Z = true) (EL : List (String × Nat)) (hEL : EW Z a0 EL) (n0 bk : Nat) (h0 : Heap) (hz0 : Z.heap.size ≤ n0) (hn0 : n0 ≤ h0.size) (en : Nat) (t : Nat) (d : Nat) (tb : Nat) (bs : List Nat) (R : Ar Z h0 t .byte (own_bys bs)) (hb : ∀ x ∈ bs, x < 256) (hl : bs.length ≤ 7) (hp : 0 < bs.length) (Rd : Ar Z h0 d .byte (own_pad (own_ol bs.length) [])) (htd : t < d) (hnd : n0 ≤ d) (hbd : bk ≤ d) (hdh : d < h0.size) (Xd : Exa Z h0 d "[B") (SB64 : Sta Z Z.heap "java/util/Base64$Encoder" "toBase64URL" "[C" (.ref tb)) (RT0 : Ar Z Z.heap tb .char own_T) (FdoPadding : Fld Z Z.heap en "java/util/Base64$Encoder" "doPadding" "Z" (.int (0 : Int32))) (Flinemax : Fld Z Z.heap en "java/util/Base64$Encoder" "linemax" "I" (.int (-1 : Int32))) (FisURL : Fld Z Z.heap en "java/util/Base64$Encoder" "isURL" "Z" (.int (1 : Int32))) (XE : Exa Z Z.heap en "java/util/Base64$Encoder") : Met l Z EL (⟨"java/util/Base64$Encoder", "encode0", "([BII[B)I"⟩ : MethodName) jdk_2452_method_10_code 16 (some .int) [] ({ frames := 1, cells := 0, slots := 0, locals := 22 } : Room) #[(.ref en), (.ref t), (.int (0 : Int32)), (.int (Int32.ofNat bs.length)), (.ref d)] n0 bk h0 (fun _ => bk) (fun v h => v = some (.int (Int32.ofNat (own_ol bs.length))) ∧ OKp (fun x => x ≠ d) h0 h ∧ Ar Z h d .byte (own_b64 bs) ∧ Exa Z h d "[B") := by
  refine Met.intro (plainFor_of_name pn_7) (fun m => ef_59 m en t (0 : Int32) (Int32.ofNat bs.length) d) hz0 hEL ?_
  intro hE0 p e s m below meth c C
  have RT := RT0.ext hE0
  have ltb : (_ : Nat) < _ := RT0.lt
  have GD := FdoPadding.ext hE0
  have GL := Flinemax.ext hE0
  have GU := FisURL.ext hE0
  have GX := XE.ext hE0
  have lte : (_ : Nat) < _ := XE.lt
  refine C.aloadN 1 d54_0 rfl rfl ?_
  refine C.getf 4 d54_1 (hw _ (List.mem_of_getElem? (i := 291) rfl)) Via.refl GU ?_
  refine C.ifN 7 d54_4 rfl (XT.i0_eq_f (show ¬ ((1 : Int32) = 0) from (by decide))) ?_
  refine C.gets 10 d54_7 (hw _ (List.mem_of_getElem? (i := 293) rfl)) SB64 ?_
  refine C.goto 16 d54_10 (by decide) (by decide) ?_
  refine C.astore 18 (L' := #[.val (.ref en), .val (.ref t), .val (.int (0 : Int32)), .val (.int (Int32.ofNat bs.length)), .val (.ref d), .val (.ref tb), .unset, .unset, .unset, .unset, .unset, .unset, .unset, .unset, .unset, .unset]) d54_16 rfl rfl ?_
  refine C.iloadN 19 d54_18 rfl ?_
  refine C.istore 21 (L' := #[.val (.ref en), .val (.ref t), .val (.int (0 : Int32)), .val (.int (Int32.ofNat bs.length)), .val (.ref d), .val (.ref tb), .val (.int (0 : Int32)), .unset, .unset, .unset, .unset, .unset, .unset, .unset, .unset, .unset]) d54_19 rfl ?_
  refine C.iloadN 22 d54_21 rfl ?_
  refine C.iloadN 23 d54_22 rfl ?_
  refine C.isub 24 d54_23 ?_
  refine C.iconst 25 (3 : Int32) d54_24 (by decide) ?_
  refine C.idiv 26 d54_25 (by decide) ?_
  refine C.iconst 27 (3 : Int32) d54_26 (by decide) ?_
  refine C.imul 28 d54_27 ?_
  rw [own_div3 bs.length (by omega)]
  refine C.istore 30 (L' := #[.val (.ref en), .val (.ref t), .val (.int (0 : Int32)), .val (.int (Int32.ofNat bs.length)), .val (.ref d), .val (.ref tb), .val (.int (0 : Int32)), .val (.int (Int32.ofNat (3 * (bs.length / 3)))), .unset, .unset, .unset, .unset, .unset, .unset, .unset, .unset]) d54_28 rfl ?_
  refine C.iloadN 31 d54_30 rfl ?_
  refine C.iload 33 d54_31 rfl ?_
  refine C.iadd 34 d54_33 ?_
  rw [Int32.zero_add]
  refine C.istore 36 (L' := #[.val (.ref en), .val (.ref t), .val (.int (0 : Int32)), .val (.int (Int32.ofNat bs.length)), .val (.ref d), .val (.ref tb), .val (.int (0 : Int32)), .val (.int (Int32.ofNat (3 * (bs.length / 3)))), .val (.int (Int32.ofNat (3 * (bs.length / 3)))), .unset, .unset, .unset, .unset, .unset, .unset, .unset]) d54_34 rfl ?_
  refine C.aloadN 37 d54_36 rfl rfl ?_
  refine C.getf 40 d54_37 (hw _ (List.mem_of_getElem? (i := 284) rfl)) Via.refl GL ?_
  refine C.ifY 66 d54_40 (by decide) (by decide) (XT.i0_le_t (show ¬ (0 < (-1 : Int32)) from (by decide))) ?_
  refine C.iconst 67 (0 : Int32) d54_66 (by decide) ?_
  refine C.istore 69 (L' := #[.val (.ref en), .val (.ref t), .val (.int (0 : Int32)), .val (.int (Int32.ofNat bs.length)), .val (.ref d), .val (.ref tb), .val (.int (0 : Int32)), .val (.int (Int32.ofNat (3 * (bs.length / 3)))), .val (.int (Int32.ofNat (3 * (bs.length / 3)))), .val (.int (0 : Int32)), .unset, .unset, .unset, .unset, .unset, .unset]) d54_67 rfl ?_
  refine C.iload 71 d54_69 rfl ?_
  refine C.iload 73 d54_71 rfl ?_
  rcases Decidable.em ((0 : Int32) < (Int32.ofNat (3 * (bs.length / 3)))) with h73 | h73
  · skip
    refine C.icN 76 d54_73 rfl (XT.ii_ge_f h73) ?_
    refine C.iload 78 d54_76 rfl ?_
    refine C.iload 80 d54_78 rfl ?_
    refine C.iadd 81 d54_80 ?_
    rw [Int32.zero_add]
    refine C.iload 83 d54_81 rfl ?_
    refine C.callS (b := h0.size) 86 [(.int (Int32.ofNat (3 * (bs.length / 3)))), (.int (Int32.ofNat (3 * (bs.length / 3))))] [] d54_83 (met_min l Z a0 hw EL hEL h0.size bk h0 (by omega) (by omega) _ _) (by omega) (Or.inl (Nat.le_refl _)) (hw _ (List.mem_of_getElem? (i := 294) rfl)) (hw _ (List.mem_of_getElem? (i := 100) rfl)) (hw _ (List.mem_of_getElem? (i := 97) rfl)) (hw _ (List.mem_of_getElem? (i := 101) rfl)) (by decide) rfl (lenOf pd__II_rI rfl) (by decide) (W := 0) (Nat.le_of_eq rfl) (by decide) (by decide) (by decide) rfl ?_
    rintro _ h83_4 K83_4 ⟨rfl, rfl⟩
    rw [ite_self]
    refine C.istore 88 (L' := #[.val (.ref en), .val (.ref t), .val (.int (0 : Int32)), .val (.int (Int32.ofNat bs.length)), .val (.ref d), .val (.ref tb), .val (.int (0 : Int32)), .val (.int (Int32.ofNat (3 * (bs.length / 3)))), .val (.int (Int32.ofNat (3 * (bs.length / 3)))), .val (.int (0 : Int32)), .val (.int (Int32.ofNat (3 * (bs.length / 3)))), .unset, .unset, .unset, .unset, .unset]) d54_86 rfl ?_
    refine C.aloadN 89 d54_88 rfl rfl ?_
    refine C.aloadN 90 d54_89 rfl rfl ?_
    refine C.iload 92 d54_90 rfl ?_
    refine C.iload 94 d54_92 rfl ?_
    refine C.aload 96 d54_94 rfl rfl ?_
    refine C.iload 98 d54_96 rfl ?_
    refine C.aloadN 99 d54_98 rfl rfl ?_
    refine C.getf 102 d54_99 (hw _ (List.mem_of_getElem? (i := 291) rfl)) Via.refl GU ?_
    refine C.callV (b := d) 105 [(.ref t), (.int (0 : Int32)), (.int (Int32.ofNat (3 * (bs.length / 3)))), (.ref d), (.int (0 : Int32)), (.int (1 : Int32))] [] d54_102 (met_blk l Z a0 hw EL hEL d bk h0 (by omega) (by omega) en t d tb bs (bs.length / 3) R hb hl (by omega) (by have z := (own_ofNat (show 0 < 2147483648 by decide) (by omega)).2.mp h73; omega) Rd htd (Nat.le_refl _) hbd Xd SB64 RT0) GX (by omega) (Or.inl (Nat.le_refl _)) (hw _ (List.mem_of_getElem? (i := 295) rfl)) (own_declares (hw _ (List.mem_of_getElem? (i := 296) rfl)) (hw _ (List.mem_of_getElem? (i := 299) rfl))) (hw _ (List.mem_of_getElem? (i := 298) rfl)) (hw _ (List.mem_of_getElem? (i := 296) rfl)) (hw _ (List.mem_of_getElem? (i := 264) rfl)) (hw _ (List.mem_of_getElem? (i := 299) rfl)) (fun hZ => notFace_of_selects (args := #[]) (mvT hZ (hw _ (List.mem_of_getElem? (i := 298) rfl)))) (by decide) rfl (lenOf pd__ABIIABIZ_rV rfl) (by decide) (W := 0) (Nat.le_of_eq rfl) (by decide) (by decide) (by decide) rfl ?_
    rintro _ hf Kf ⟨rfl, KF, Rd2, Xd2⟩
    have sz_hf : h0.size ≤ hf.size := KF.1
    replace R := R.kp KF (by first | omega | (dsimp only; omega))
    replace RT := RT.kp KF (by first | omega | (dsimp only; omega))
    replace GD := own_fld KF GD (by first | omega | (dsimp only; omega))
    replace GL := own_fld KF GL (by first | omega | (dsimp only; omega))
    replace GU := own_fld KF GU (by first | omega | (dsimp only; omega))
    replace GX := own_exa KF GX (by first | omega | (dsimp only; omega))
    replace Rd := Rd2
    replace Xd := Xd2
    refine C.iload 107 d54_105 rfl ?_
    refine C.iload 109 d54_107 rfl ?_
    refine C.isub 110 d54_109 ?_
    refine C.iconst 111 (3 : Int32) d54_110 (by decide) ?_
    refine C.idiv 112 d54_111 (by decide) ?_
    refine C.iconst 113 (4 : Int32) d54_112 (by decide) ?_
    refine C.imul 114 d54_113 ?_
    rw [own_dl bs.length (by omega)]
    refine C.istore 116 (L' := #[.val (.ref en), .val (.ref t), .val (.int (0 : Int32)), .val (.int (Int32.ofNat bs.length)), .val (.ref d), .val (.ref tb), .val (.int (0 : Int32)), .val (.int (Int32.ofNat (3 * (bs.length / 3)))), .val (.int (Int32.ofNat (3 * (bs.length / 3)))), .val (.int (0 : Int32)), .val (.int (Int32.ofNat (3 * (bs.length / 3)))), .val (.int (Int32.ofNat (4 * (bs.length / 3)))), .unset, .unset, .unset, .unset]) d54_114 rfl ?_
    refine C.iload 118 d54_116 rfl ?_
    refine C.iload 120 d54_118 rfl ?_
    refine C.iadd 121 d54_120 ?_
    rw [Int32.zero_add]
    refine C.istore 123 (L' := #[.val (.ref en), .val (.ref t), .val (.int (0 : Int32)), .val (.int (Int32.ofNat bs.length)), .val (.ref d), .val (.ref tb), .val (.int (0 : Int32)), .val (.int (Int32.ofNat (3 * (bs.length / 3)))), .val (.int (Int32.ofNat (3 * (bs.length / 3)))), .val (.int (Int32.ofNat (4 * (bs.length / 3)))), .val (.int (Int32.ofNat (3 * (bs.length / 3)))), .val (.int (Int32.ofNat (4 * (bs.length / 3)))), .unset, .unset, .unset, .unset]) d54_121 rfl ?_
    refine C.iload 125 d54_123 rfl ?_
    refine C.istore 127 (L' := #[.val (.ref en), .val (.ref t), .val (.int (0 : Int32)), .val (.int (Int32.ofNat bs.length)), .val (.ref d), .val (.ref tb), .val (.int (Int32.ofNat (3 * (bs.length / 3)))), .val (.int (Int32.ofNat (3 * (bs.length / 3)))), .val (.int (Int32.ofNat (3 * (bs.length / 3)))), .val (.int (Int32.ofNat (4 * (bs.length / 3)))), .val (.int (Int32.ofNat (3 * (bs.length / 3)))), .val (.int (Int32.ofNat (4 * (bs.length / 3)))), .unset, .unset, .unset, .unset]) d54_125 rfl ?_
    refine C.iload 129 d54_127 rfl ?_
    refine C.aloadN 130 d54_129 rfl rfl ?_
    refine C.getf 133 d54_130 (hw _ (List.mem_of_getElem? (i := 284) rfl)) Via.refl GL ?_
    refine C.icY 186 d54_133 (by decide) (by decide) (XT.ii_ne_t (show ¬ ((Int32.ofNat (4 * (bs.length / 3))) = (-1 : Int32)) from (own_ne1 bs.length (by omega)))) ?_
    refine C.goto 69 d54_186 (by decide) (by decide) ?_
    refine C.iload 71 d54_69 rfl ?_
    refine C.iload 73 d54_71 rfl ?_
    refine C.icY 189 d54_73 (by decide) (by decide) (XT.ii_ge_t (show ¬ ((Int32.ofNat (3 * (bs.length / 3))) < (Int32.ofNat (3 * (bs.length / 3)))) from (fun z => by have := (own_ofNat (by omega) (by omega)).2.mp z; omega))) ?_
    have hB : (own_b64 (bs.take (3 * (bs.length / 3)))) = (own_b64 (bs.take (3 * (bs.length / 3)))) := rfl
    refine C.iload 191 d54_189 rfl ?_
    refine C.iloadN 192 d54_191 rfl ?_
    rcases Decidable.em ((Int32.ofNat (3 * (bs.length / 3))) < (Int32.ofNat bs.length)) with h192 | h192
    · skip
      refine C.icN 195 d54_192 rfl (XT.ii_ge_f h192) ?_
      have hs : (3 * (bs.length / 3)) < bs.length := (own_ofNat (by omega) (by omega)).2.mp h192
      obtain ⟨x1, hx1⟩ : ∃ y, bs[(3 * (bs.length / 3))]? = some y := ⟨_, List.getElem?_eq_getElem (by omega)⟩
      have hr1 : x1 < 256 := hb x1 (List.mem_of_getElem? hx1)
      have hcap : own_ol bs.length = 4 * (bs.length / 3) + bs.length % 3 + 1 := by unfold own_ol; rw [if_neg (by omega)]; omega
      have bl : (own_b64 (bs.take (3 * (bs.length / 3)))).length = 4 * (bs.length / 3) := own_btl (by omega)
      refine C.aloadN 196 d54_195 rfl rfl ?_
      refine C.iload 198 d54_196 rfl ?_
      refine C.iinc 201 (L' := #[.val (.ref en), .val (.ref t), .val (.int (0 : Int32)), .val (.int (Int32.ofNat bs.length)), .val (.ref d), .val (.ref tb), .val (.int ((Int32.ofNat (3 * (bs.length / 3))) + (1 : Int32))), .val (.int (Int32.ofNat (3 * (bs.length / 3)))), .val (.int (Int32.ofNat (3 * (bs.length / 3)))), .val (.int (Int32.ofNat (4 * (bs.length / 3)))), .val (.int (Int32.ofNat (3 * (bs.length / 3)))), .val (.int (Int32.ofNat (4 * (bs.length / 3)))), .unset, .unset, .unset, .unset]) (1 : Int32) d54_198 (by decide) rfl rfl ?_
      refine C.baload 202 (3 * (bs.length / 3)) d54_201 R rfl (own_bysget hx1) ?_
      refine C.sipush 205 (255 : Int32) d54_202 (by decide) ?_
      refine C.iand 206 d54_205 ?_
      rw [show own_by x1 &&& 255 = Int32.ofNat x1 from own_m255 x1 hr1]
      refine C.istore 208 (L' := #[.val (.ref en), .val (.ref t), .val (.int (0 : Int32)), .val (.int (Int32.ofNat bs.length)), .val (.ref d), .val (.ref tb), .val (.int ((Int32.ofNat (3 * (bs.length / 3))) + (1 : Int32))), .val (.int (Int32.ofNat (3 * (bs.length / 3)))), .val (.int (Int32.ofNat (3 * (bs.length / 3)))), .val (.int (Int32.ofNat (4 * (bs.length / 3)))), .val (.int (Int32.ofNat x1)), .val (.int (Int32.ofNat (4 * (bs.length / 3)))), .unset, .unset, .unset, .unset]) d54_206 rfl ?_
      refine C.aload 210 d54_208 rfl rfl ?_
      refine C.iload 212 d54_210 rfl ?_
      refine C.iinc 215 (L' := #[.val (.ref en), .val (.ref t), .val (.int (0 : Int32)), .val (.int (Int32.ofNat bs.length)), .val (.ref d), .val (.ref tb), .val (.int ((Int32.ofNat (3 * (bs.length / 3))) + (1 : Int32))), .val (.int (Int32.ofNat (3 * (bs.length / 3)))), .val (.int (Int32.ofNat (3 * (bs.length / 3)))), .val (.int ((Int32.ofNat (4 * (bs.length / 3))) + (1 : Int32))), .val (.int (Int32.ofNat x1)), .val (.int (Int32.ofNat (4 * (bs.length / 3)))), .unset, .unset, .unset, .unset]) (1 : Int32) d54_212 (by decide) rfl rfl ?_
      refine C.aload 217 d54_215 rfl rfl ?_
      refine C.iload 219 d54_217 rfl ?_
      refine C.iconst 220 (2 : Int32) d54_219 (by decide) ?_
      refine C.ishr 221 d54_220 ?_
      rw [own_s2 x1 hr1]
      refine C.caload 222 (x1 / 4) d54_221 RT rfl (own_Tget (by omega)) ?_
      refine C.i2b 223 d54_222 ?_
      refine C.bastore 224 (4 * (bs.length / 3)) d54_223 Rd rfl (by rw [own_padlen (by first | omega | (simp; done) | (simp; omega))]; omega) (own_fitsb _) (by omega) (Or.inl hbd) ?_
      intro ht0 Wt0 Nt0
      have sz_ht0 : hf.size ≤ ht0.size := (Nat.le_of_eq Wt0.size.symm)
      replace R := R.other Wt0 (by first | omega | (dsimp only; omega))
      replace RT := RT.other Wt0 (by first | omega | (dsimp only; omega))
      replace Xd := Xd.wr Wt0
      replace GD := GD.other Wt0 (Or.inl (show (_ : Nat) ≠ _ by omega))
      replace GL := GL.other Wt0 (Or.inl (show (_ : Nat) ≠ _ by omega))
      replace GU := GU.other Wt0 (Or.inl (show (_ : Nat) ≠ _ by omega))
      replace GX := GX.wr Wt0
      replace Rd : Ar Z ht0 d .byte (own_pad (own_ol bs.length) ((own_b64 (bs.take (3 * (bs.length / 3)))) ++ [own_al (x1 / 4)])) := (by have z := Nt0; rw [show nar .byte (own_al (x1 / 4)).toInt8.toInt32 = own_al (x1 / 4) from own_nb _ (by omega), own_padset (by first | omega | (simp; done) | (simp; omega)) (by omega)] at z; exact z)
      refine C.iload 226 d54_224 rfl ?_
      refine C.iloadN 227 d54_226 rfl ?_
      rcases Decidable.em (((Int32.ofNat (3 * (bs.length / 3))) + (1 : Int32)) = (Int32.ofNat bs.length)) with h227 | h227
      · skip
        refine C.icN 230 d54_227 rfl (XT.ii_ne_f h227) ?_
        have hr : bs.length = 3 * (bs.length / 3) + 1 := by have z : (3 * (bs.length / 3) + 1) = bs.length := (own_ofNat (by omega) (by omega)).1.mp (by rw [← own_succ]; exact h227); omega
        refine C.aload 232 d54_230 rfl rfl ?_
        refine C.iload 234 d54_232 rfl ?_
        refine C.iinc 237 (L' := #[.val (.ref en), .val (.ref t), .val (.int (0 : Int32)), .val (.int (Int32.ofNat bs.length)), .val (.ref d), .val (.ref tb), .val (.int ((Int32.ofNat (3 * (bs.length / 3))) + (1 : Int32))), .val (.int (Int32.ofNat (3 * (bs.length / 3)))), .val (.int (Int32.ofNat (3 * (bs.length / 3)))), .val (.int (((Int32.ofNat (4 * (bs.length / 3))) + (1 : Int32)) + (1 : Int32))), .val (.int (Int32.ofNat x1)), .val (.int (Int32.ofNat (4 * (bs.length / 3)))), .unset, .unset, .unset, .unset]) (1 : Int32) d54_234 (by decide) rfl rfl ?_
        refine C.aload 239 d54_237 rfl rfl ?_
        refine C.iload 241 d54_239 rfl ?_
        refine C.iconst 242 (4 : Int32) d54_241 (by decide) ?_
        refine C.ishl 243 d54_242 ?_
        refine C.bipush 245 (63 : Int32) d54_243 (by decide) ?_
        refine C.iand 246 d54_245 ?_
        rw [own_q4 x1 hr1]
        refine C.caload 247 (x1 % 4 * 16) d54_246 RT rfl (own_Tget (by omega)) ?_
        refine C.i2b 248 d54_247 ?_
        refine C.bastore 249 (4 * (bs.length / 3) + 1) d54_248 Rd (by rw [own_succ]) (by rw [own_padlen (by first | omega | (simp; done) | (simp; omega))]; omega) (own_fitsb _) (by omega) (Or.inl hbd) ?_
        intro ht1 Wt1 Nt1
        have sz_ht1 : ht0.size ≤ ht1.size := (Nat.le_of_eq Wt1.size.symm)
        replace R := R.other Wt1 (by first | omega | (dsimp only; omega))
        replace RT := RT.other Wt1 (by first | omega | (dsimp only; omega))
        replace Xd := Xd.wr Wt1
        replace GD := GD.other Wt1 (Or.inl (show (_ : Nat) ≠ _ by omega))
        replace GL := GL.other Wt1 (Or.inl (show (_ : Nat) ≠ _ by omega))
        replace GU := GU.other Wt1 (Or.inl (show (_ : Nat) ≠ _ by omega))
        replace GX := GX.wr Wt1
        replace Rd : Ar Z ht1 d .byte (own_pad (own_ol bs.length) ((own_b64 (bs.take (3 * (bs.length / 3)))) ++ [own_al (x1 / 4)] ++ [own_al (x1 % 4 * 16)])) := (by have z := Nt1; rw [show nar .byte (own_al (x1 % 4 * 16)).toInt8.toInt32 = own_al (x1 % 4 * 16) from own_nb _ (by omega), own_padset (by first | omega | (simp; done) | (simp; omega)) (by omega)] at z; exact z)
        refine C.aloadN 250 d54_249 rfl rfl ?_
        refine C.getf 253 d54_250 (hw _ (List.mem_of_getElem? (i := 276) rfl)) Via.refl GD ?_
        refine C.ifY 352 d54_253 (by decide) (by decide) (XT.i0_eq_t (show (0 : Int32) = 0 from rfl)) ?_
        refine C.iload 354 d54_352 rfl ?_
        refine C.retI rfl d54_354 (by decide) (by decide) (Or.inl (Nat.le_refl _)) ?_
        have ev := own_ole hr (Or.inl rfl)
        refine ⟨by rw [ev, own_succ, own_succ], ((KF).trans (OKp.ofWr Wt0)).trans (OKp.ofWr Wt1), ?_, Xd⟩
        have ef := own_fin1 hx1 hr
        rw [ef, own_padfull (own_bl bs)] at Rd
        exact Rd
      · skip
        refine C.icY 279 d54_227 (by decide) (by decide) (XT.ii_ne_t h227) ?_
        have hr : bs.length = 3 * (bs.length / 3) + 2 := by have z : ¬ (3 * (bs.length / 3) + 1) = bs.length := fun z => h227 ((own_succ _).trans (congrArg Int32.ofNat z)); omega
        obtain ⟨x2, hx2⟩ : ∃ y, bs[(3 * (bs.length / 3)) + 1]? = some y := ⟨_, List.getElem?_eq_getElem (by omega)⟩
        have hr2 : x2 < 256 := hb x2 (List.mem_of_getElem? hx2)
        refine C.aloadN 280 d54_279 rfl rfl ?_
        refine C.iload 282 d54_280 rfl ?_
        refine C.iinc 285 (L' := #[.val (.ref en), .val (.ref t), .val (.int (0 : Int32)), .val (.int (Int32.ofNat bs.length)), .val (.ref d), .val (.ref tb), .val (.int (((Int32.ofNat (3 * (bs.length / 3))) + (1 : Int32)) + (1 : Int32))), .val (.int (Int32.ofNat (3 * (bs.length / 3)))), .val (.int (Int32.ofNat (3 * (bs.length / 3)))), .val (.int ((Int32.ofNat (4 * (bs.length / 3))) + (1 : Int32))), .val (.int (Int32.ofNat x1)), .val (.int (Int32.ofNat (4 * (bs.length / 3)))), .unset, .unset, .unset, .unset]) (1 : Int32) d54_282 (by decide) rfl rfl ?_
        refine C.baload 286 (3 * (bs.length / 3) + 1) d54_285 R (by rw [own_succ]) (own_bysget hx2) ?_
        refine C.sipush 289 (255 : Int32) d54_286 (by decide) ?_
        refine C.iand 290 d54_289 ?_
        rw [show own_by x2 &&& 255 = Int32.ofNat x2 from own_m255 x2 hr2]
        refine C.istore 292 (L' := #[.val (.ref en), .val (.ref t), .val (.int (0 : Int32)), .val (.int (Int32.ofNat bs.length)), .val (.ref d), .val (.ref tb), .val (.int (((Int32.ofNat (3 * (bs.length / 3))) + (1 : Int32)) + (1 : Int32))), .val (.int (Int32.ofNat (3 * (bs.length / 3)))), .val (.int (Int32.ofNat (3 * (bs.length / 3)))), .val (.int ((Int32.ofNat (4 * (bs.length / 3))) + (1 : Int32))), .val (.int (Int32.ofNat x1)), .val (.int (Int32.ofNat x2)), .unset, .unset, .unset, .unset]) d54_290 rfl ?_
        refine C.aload 294 d54_292 rfl rfl ?_
        refine C.iload 296 d54_294 rfl ?_
        refine C.iinc 299 (L' := #[.val (.ref en), .val (.ref t), .val (.int (0 : Int32)), .val (.int (Int32.ofNat bs.length)), .val (.ref d), .val (.ref tb), .val (.int (((Int32.ofNat (3 * (bs.length / 3))) + (1 : Int32)) + (1 : Int32))), .val (.int (Int32.ofNat (3 * (bs.length / 3)))), .val (.int (Int32.ofNat (3 * (bs.length / 3)))), .val (.int (((Int32.ofNat (4 * (bs.length / 3))) + (1 : Int32)) + (1 : Int32))), .val (.int (Int32.ofNat x1)), .val (.int (Int32.ofNat x2)), .unset, .unset, .unset, .unset]) (1 : Int32) d54_296 (by decide) rfl rfl ?_
        refine C.aload 301 d54_299 rfl rfl ?_
        refine C.iload 303 d54_301 rfl ?_
        refine C.iconst 304 (4 : Int32) d54_303 (by decide) ?_
        refine C.ishl 305 d54_304 ?_
        refine C.bipush 307 (63 : Int32) d54_305 (by decide) ?_
        refine C.iand 308 d54_307 ?_
        refine C.iload 310 d54_308 rfl ?_
        refine C.iconst 311 (4 : Int32) d54_310 (by decide) ?_
        refine C.ishr 312 d54_311 ?_
        refine C.ior 313 d54_312 ?_
        rw [own_y4 hr1 hr2]
        refine C.caload 314 (x1 % 4 * 16 + x2 / 16) d54_313 RT rfl (own_Tget (by omega)) ?_
        refine C.i2b 315 d54_314 ?_
        refine C.bastore 316 (4 * (bs.length / 3) + 1) d54_315 Rd (by rw [own_succ]) (by rw [own_padlen (by first | omega | (simp; done) | (simp; omega))]; omega) (own_fitsb _) (by omega) (Or.inl hbd) ?_
        intro ht2 Wt2 Nt2
        have sz_ht2 : ht0.size ≤ ht2.size := (Nat.le_of_eq Wt2.size.symm)
        replace R := R.other Wt2 (by first | omega | (dsimp only; omega))
        replace RT := RT.other Wt2 (by first | omega | (dsimp only; omega))
        replace Xd := Xd.wr Wt2
        replace GD := GD.other Wt2 (Or.inl (show (_ : Nat) ≠ _ by omega))
        replace GL := GL.other Wt2 (Or.inl (show (_ : Nat) ≠ _ by omega))
        replace GU := GU.other Wt2 (Or.inl (show (_ : Nat) ≠ _ by omega))
        replace GX := GX.wr Wt2
        replace Rd : Ar Z ht2 d .byte (own_pad (own_ol bs.length) ((own_b64 (bs.take (3 * (bs.length / 3)))) ++ [own_al (x1 / 4)] ++ [own_al (x1 % 4 * 16 + x2 / 16)])) := (by have z := Nt2; rw [show nar .byte (own_al (x1 % 4 * 16 + x2 / 16)).toInt8.toInt32 = own_al (x1 % 4 * 16 + x2 / 16) from own_nb _ (by omega), own_padset (by first | omega | (simp; done) | (simp; omega)) (by omega)] at z; exact z)
        refine C.aload 318 d54_316 rfl rfl ?_
        refine C.iload 320 d54_318 rfl ?_
        refine C.iinc 323 (L' := #[.val (.ref en), .val (.ref t), .val (.int (0 : Int32)), .val (.int (Int32.ofNat bs.length)), .val (.ref d), .val (.ref tb), .val (.int (((Int32.ofNat (3 * (bs.length / 3))) + (1 : Int32)) + (1 : Int32))), .val (.int (Int32.ofNat (3 * (bs.length / 3)))), .val (.int (Int32.ofNat (3 * (bs.length / 3)))), .val (.int ((((Int32.ofNat (4 * (bs.length / 3))) + (1 : Int32)) + (1 : Int32)) + (1 : Int32))), .val (.int (Int32.ofNat x1)), .val (.int (Int32.ofNat x2)), .unset, .unset, .unset, .unset]) (1 : Int32) d54_320 (by decide) rfl rfl ?_
        refine C.aload 325 d54_323 rfl rfl ?_
        refine C.iload 327 d54_325 rfl ?_
        refine C.iconst 328 (2 : Int32) d54_327 (by decide) ?_
        refine C.ishl 329 d54_328 ?_
        refine C.bipush 331 (63 : Int32) d54_329 (by decide) ?_
        refine C.iand 332 d54_331 ?_
        rw [own_q2 x2 hr2]
        refine C.caload 333 (x2 % 16 * 4) d54_332 RT rfl (own_Tget (by omega)) ?_
        refine C.i2b 334 d54_333 ?_
        refine C.bastore 335 (4 * (bs.length / 3) + 1 + 1) d54_334 Rd (by rw [own_succ, own_succ]) (by rw [own_padlen (by first | omega | (simp; done) | (simp; omega))]; omega) (own_fitsb _) (by omega) (Or.inl hbd) ?_
        intro ht3 Wt3 Nt3
        have sz_ht3 : ht2.size ≤ ht3.size := (Nat.le_of_eq Wt3.size.symm)
        replace R := R.other Wt3 (by first | omega | (dsimp only; omega))
        replace RT := RT.other Wt3 (by first | omega | (dsimp only; omega))
        replace Xd := Xd.wr Wt3
        replace GD := GD.other Wt3 (Or.inl (show (_ : Nat) ≠ _ by omega))
        replace GL := GL.other Wt3 (Or.inl (show (_ : Nat) ≠ _ by omega))
        replace GU := GU.other Wt3 (Or.inl (show (_ : Nat) ≠ _ by omega))
        replace GX := GX.wr Wt3
        replace Rd : Ar Z ht3 d .byte (own_pad (own_ol bs.length) ((own_b64 (bs.take (3 * (bs.length / 3)))) ++ [own_al (x1 / 4)] ++ [own_al (x1 % 4 * 16 + x2 / 16)] ++ [own_al (x2 % 16 * 4)])) := (by have z := Nt3; rw [show nar .byte (own_al (x2 % 16 * 4)).toInt8.toInt32 = own_al (x2 % 16 * 4) from own_nb _ (by omega), own_padset (by first | omega | (simp; done) | (simp; omega)) (by omega)] at z; exact z)
        refine C.aloadN 336 d54_335 rfl rfl ?_
        refine C.getf 339 d54_336 (hw _ (List.mem_of_getElem? (i := 276) rfl)) Via.refl GD ?_
        refine C.ifY 352 d54_339 (by decide) (by decide) (XT.i0_eq_t (show (0 : Int32) = 0 from rfl)) ?_
        refine C.iload 354 d54_352 rfl ?_
        refine C.retI rfl d54_354 (by decide) (by decide) (Or.inl (Nat.le_refl _)) ?_
        have ev := own_ole hr (Or.inr rfl)
        refine ⟨by rw [ev, own_succ, own_succ, own_succ], (((KF).trans (OKp.ofWr Wt0)).trans (OKp.ofWr Wt2)).trans (OKp.ofWr Wt3), ?_, Xd⟩
        have ef := own_fin2 hx1 hx2 hr
        rw [ef, own_padfull (own_bl bs)] at Rd
        exact Rd
    · skip
      refine C.icY 352 d54_192 (by decide) (by decide) (XT.ii_ge_t h192) ?_
      refine C.iload 354 d54_352 rfl ?_
      refine C.retI rfl d54_354 (by decide) (by decide) (Or.inl (Nat.le_refl _)) ?_
      have hr : bs.length = 3 * (bs.length / 3) := by have z : ¬ 3 * (bs.length / 3) < bs.length := fun z => h192 ((own_ofNat (by omega) (by omega)).2.mpr z); omega
      exact ⟨by rw [own_ole0 hr], KF, by rw [own_fin0 hr, own_padfull (own_bl bs)] at Rd; exact Rd, Xd⟩
  · skip
    refine C.icY 189 d54_73 (by decide) (by decide) (XT.ii_ge_t h73) ?_
    have hq : bs.length / 3 = 0 := Decidable.byContradiction fun z => h73 ((own_ofNat (show 0 < 2147483648 by decide) (by omega)).2.mpr (by omega))
    have hB : (own_b64 (bs.take (3 * (bs.length / 3)))) = [] := by rw [hq]; simp [own_b64]
    refine C.iload 191 d54_189 rfl ?_
    refine C.iloadN 192 d54_191 rfl ?_
    rcases Decidable.em ((0 : Int32) < (Int32.ofNat bs.length)) with h192 | h192
    · skip
      refine C.icN 195 d54_192 rfl (XT.ii_ge_f h192) ?_
      have hs : 0 < bs.length := (own_ofNat (by omega) (by omega)).2.mp h192
      obtain ⟨x1, hx1⟩ : ∃ y, bs[(3 * (bs.length / 3))]? = some y := ⟨_, List.getElem?_eq_getElem (by omega)⟩
      have hr1 : x1 < 256 := hb x1 (List.mem_of_getElem? hx1)
      have hcap : own_ol bs.length = 4 * (bs.length / 3) + bs.length % 3 + 1 := by unfold own_ol; rw [if_neg (by omega)]; omega
      have hx0 : bs[0]? = some x1 := by have z := hx1; rw [hq] at z; exact z
      have bl : (own_b64 (bs.take (3 * (bs.length / 3)))).length = 4 * (bs.length / 3) := own_btl (by omega)
      refine C.aloadN 196 d54_195 rfl rfl ?_
      refine C.iload 198 d54_196 rfl ?_
      refine C.iinc 201 (L' := #[.val (.ref en), .val (.ref t), .val (.int (0 : Int32)), .val (.int (Int32.ofNat bs.length)), .val (.ref d), .val (.ref tb), .val (.int ((0 : Int32) + (1 : Int32))), .val (.int (Int32.ofNat (3 * (bs.length / 3)))), .val (.int (Int32.ofNat (3 * (bs.length / 3)))), .val (.int (0 : Int32)), .unset, .unset, .unset, .unset, .unset, .unset]) (1 : Int32) d54_198 (by decide) rfl rfl ?_
      refine C.baload 202 0 d54_201 R rfl (own_bysget hx0) ?_
      refine C.sipush 205 (255 : Int32) d54_202 (by decide) ?_
      refine C.iand 206 d54_205 ?_
      rw [show own_by x1 &&& 255 = Int32.ofNat x1 from own_m255 x1 hr1]
      refine C.istore 208 (L' := #[.val (.ref en), .val (.ref t), .val (.int (0 : Int32)), .val (.int (Int32.ofNat bs.length)), .val (.ref d), .val (.ref tb), .val (.int ((0 : Int32) + (1 : Int32))), .val (.int (Int32.ofNat (3 * (bs.length / 3)))), .val (.int (Int32.ofNat (3 * (bs.length / 3)))), .val (.int (0 : Int32)), .val (.int (Int32.ofNat x1)), .unset, .unset, .unset, .unset, .unset]) d54_206 rfl ?_
      refine C.aload 210 d54_208 rfl rfl ?_
      refine C.iload 212 d54_210 rfl ?_
      refine C.iinc 215 (L' := #[.val (.ref en), .val (.ref t), .val (.int (0 : Int32)), .val (.int (Int32.ofNat bs.length)), .val (.ref d), .val (.ref tb), .val (.int ((0 : Int32) + (1 : Int32))), .val (.int (Int32.ofNat (3 * (bs.length / 3)))), .val (.int (Int32.ofNat (3 * (bs.length / 3)))), .val (.int ((0 : Int32) + (1 : Int32))), .val (.int (Int32.ofNat x1)), .unset, .unset, .unset, .unset, .unset]) (1 : Int32) d54_212 (by decide) rfl rfl ?_
      refine C.aload 217 d54_215 rfl rfl ?_
      refine C.iload 219 d54_217 rfl ?_
      refine C.iconst 220 (2 : Int32) d54_219 (by decide) ?_
      refine C.ishr 221 d54_220 ?_
      rw [own_s2 x1 hr1]
      refine C.caload 222 (x1 / 4) d54_221 RT rfl (own_Tget (by omega)) ?_
      refine C.i2b 223 d54_222 ?_
      refine C.bastore 224 0 d54_223 Rd rfl (by rw [own_padlen (by first | omega | (simp; done) | (simp; omega))]; omega) (own_fitsb _) (by omega) (Or.inl hbd) ?_
      intro ht0 Wt0 Nt0
      have sz_ht0 : h0.size ≤ ht0.size := (Nat.le_of_eq Wt0.size.symm)
      replace R := R.other Wt0 (by first | omega | (dsimp only; omega))
      replace RT := RT.other Wt0 (by first | omega | (dsimp only; omega))
      replace Xd := Xd.wr Wt0
      replace GD := GD.other Wt0 (Or.inl (show (_ : Nat) ≠ _ by omega))
      replace GL := GL.other Wt0 (Or.inl (show (_ : Nat) ≠ _ by omega))
      replace GU := GU.other Wt0 (Or.inl (show (_ : Nat) ≠ _ by omega))
      replace GX := GX.wr Wt0
      replace Rd : Ar Z ht0 d .byte (own_pad (own_ol bs.length) (([] : List Int32) ++ [own_al (x1 / 4)])) := (by have z := Nt0; rw [show nar .byte (own_al (x1 / 4)).toInt8.toInt32 = own_al (x1 / 4) from own_nb _ (by omega), own_padset (by first | omega | (simp; done) | (simp; omega)) (by omega)] at z; exact z)
      refine C.iload 226 d54_224 rfl ?_
      refine C.iloadN 227 d54_226 rfl ?_
      rcases Decidable.em (((0 : Int32) + (1 : Int32)) = (Int32.ofNat bs.length)) with h227 | h227
      · skip
        refine C.icN 230 d54_227 rfl (XT.ii_ne_f h227) ?_
        have hr : bs.length = 3 * (bs.length / 3) + 1 := by have z : 1 = bs.length := (own_ofNat (by omega) (by omega)).1.mp (h227); omega
        refine C.aload 232 d54_230 rfl rfl ?_
        refine C.iload 234 d54_232 rfl ?_
        refine C.iinc 237 (L' := #[.val (.ref en), .val (.ref t), .val (.int (0 : Int32)), .val (.int (Int32.ofNat bs.length)), .val (.ref d), .val (.ref tb), .val (.int ((0 : Int32) + (1 : Int32))), .val (.int (Int32.ofNat (3 * (bs.length / 3)))), .val (.int (Int32.ofNat (3 * (bs.length / 3)))), .val (.int (((0 : Int32) + (1 : Int32)) + (1 : Int32))), .val (.int (Int32.ofNat x1)), .unset, .unset, .unset, .unset, .unset]) (1 : Int32) d54_234 (by decide) rfl rfl ?_
        refine C.aload 239 d54_237 rfl rfl ?_
        refine C.iload 241 d54_239 rfl ?_
        refine C.iconst 242 (4 : Int32) d54_241 (by decide) ?_
        refine C.ishl 243 d54_242 ?_
        refine C.bipush 245 (63 : Int32) d54_243 (by decide) ?_
        refine C.iand 246 d54_245 ?_
        rw [own_q4 x1 hr1]
        refine C.caload 247 (x1 % 4 * 16) d54_246 RT rfl (own_Tget (by omega)) ?_
        refine C.i2b 248 d54_247 ?_
        refine C.bastore 249 1 d54_248 Rd rfl (by rw [own_padlen (by first | omega | (simp; done) | (simp; omega))]; omega) (own_fitsb _) (by omega) (Or.inl hbd) ?_
        intro ht1 Wt1 Nt1
        have sz_ht1 : ht0.size ≤ ht1.size := (Nat.le_of_eq Wt1.size.symm)
        replace R := R.other Wt1 (by first | omega | (dsimp only; omega))
        replace RT := RT.other Wt1 (by first | omega | (dsimp only; omega))
        replace Xd := Xd.wr Wt1
        replace GD := GD.other Wt1 (Or.inl (show (_ : Nat) ≠ _ by omega))
        replace GL := GL.other Wt1 (Or.inl (show (_ : Nat) ≠ _ by omega))
        replace GU := GU.other Wt1 (Or.inl (show (_ : Nat) ≠ _ by omega))
        replace GX := GX.wr Wt1
        replace Rd : Ar Z ht1 d .byte (own_pad (own_ol bs.length) (([] : List Int32) ++ [own_al (x1 / 4)] ++ [own_al (x1 % 4 * 16)])) := (by have z := Nt1; rw [show nar .byte (own_al (x1 % 4 * 16)).toInt8.toInt32 = own_al (x1 % 4 * 16) from own_nb _ (by omega), own_padset (by first | omega | (simp; done) | (simp; omega)) (by omega)] at z; exact z)
        refine C.aloadN 250 d54_249 rfl rfl ?_
        refine C.getf 253 d54_250 (hw _ (List.mem_of_getElem? (i := 276) rfl)) Via.refl GD ?_
        refine C.ifY 352 d54_253 (by decide) (by decide) (XT.i0_eq_t (show (0 : Int32) = 0 from rfl)) ?_
        refine C.iload 354 d54_352 rfl ?_
        refine C.retI rfl d54_354 (by decide) (by decide) (Or.inl (Nat.le_refl _)) ?_
        have ev := own_ole hr (Or.inl rfl)
        refine ⟨by rw [ev, hq]; rfl, ((OKp.refl).trans (OKp.ofWr Wt0)).trans (OKp.ofWr Wt1), ?_, Xd⟩
        have ef := own_fin1 hx1 hr
        rw [hB] at ef
        rw [ef, own_padfull (own_bl bs)] at Rd
        exact Rd
      · skip
        refine C.icY 279 d54_227 (by decide) (by decide) (XT.ii_ne_t h227) ?_
        have hr : bs.length = 3 * (bs.length / 3) + 2 := by have z : ¬ 1 = bs.length := fun z => h227 (congrArg Int32.ofNat z); omega
        obtain ⟨x2, hx2⟩ : ∃ y, bs[(3 * (bs.length / 3)) + 1]? = some y := ⟨_, List.getElem?_eq_getElem (by omega)⟩
        have hr2 : x2 < 256 := hb x2 (List.mem_of_getElem? hx2)
        have hx02 : bs[1]? = some x2 := by have z := hx2; rw [hq] at z; exact z
        refine C.aloadN 280 d54_279 rfl rfl ?_
        refine C.iload 282 d54_280 rfl ?_
        refine C.iinc 285 (L' := #[.val (.ref en), .val (.ref t), .val (.int (0 : Int32)), .val (.int (Int32.ofNat bs.length)), .val (.ref d), .val (.ref tb), .val (.int (((0 : Int32) + (1 : Int32)) + (1 : Int32))), .val (.int (Int32.ofNat (3 * (bs.length / 3)))), .val (.int (Int32.ofNat (3 * (bs.length / 3)))), .val (.int ((0 : Int32) + (1 : Int32))), .val (.int (Int32.ofNat x1)), .unset, .unset, .unset, .unset, .unset]) (1 : Int32) d54_282 (by decide) rfl rfl ?_
        refine C.baload 286 1 d54_285 R rfl (own_bysget hx02) ?_
        refine C.sipush 289 (255 : Int32) d54_286 (by decide) ?_
        refine C.iand 290 d54_289 ?_
        rw [show own_by x2 &&& 255 = Int32.ofNat x2 from own_m255 x2 hr2]
        refine C.istore 292 (L' := #[.val (.ref en), .val (.ref t), .val (.int (0 : Int32)), .val (.int (Int32.ofNat bs.length)), .val (.ref d), .val (.ref tb), .val (.int (((0 : Int32) + (1 : Int32)) + (1 : Int32))), .val (.int (Int32.ofNat (3 * (bs.length / 3)))), .val (.int (Int32.ofNat (3 * (bs.length / 3)))), .val (.int ((0 : Int32) + (1 : Int32))), .val (.int (Int32.ofNat x1)), .val (.int (Int32.ofNat x2)), .unset, .unset, .unset, .unset]) d54_290 rfl ?_
        refine C.aload 294 d54_292 rfl rfl ?_
        refine C.iload 296 d54_294 rfl ?_
        refine C.iinc 299 (L' := #[.val (.ref en), .val (.ref t), .val (.int (0 : Int32)), .val (.int (Int32.ofNat bs.length)), .val (.ref d), .val (.ref tb), .val (.int (((0 : Int32) + (1 : Int32)) + (1 : Int32))), .val (.int (Int32.ofNat (3 * (bs.length / 3)))), .val (.int (Int32.ofNat (3 * (bs.length / 3)))), .val (.int (((0 : Int32) + (1 : Int32)) + (1 : Int32))), .val (.int (Int32.ofNat x1)), .val (.int (Int32.ofNat x2)), .unset, .unset, .unset, .unset]) (1 : Int32) d54_296 (by decide) rfl rfl ?_
        refine C.aload 301 d54_299 rfl rfl ?_
        refine C.iload 303 d54_301 rfl ?_
        refine C.iconst 304 (4 : Int32) d54_303 (by decide) ?_
        refine C.ishl 305 d54_304 ?_
        refine C.bipush 307 (63 : Int32) d54_305 (by decide) ?_
        refine C.iand 308 d54_307 ?_
        refine C.iload 310 d54_308 rfl ?_
        refine C.iconst 311 (4 : Int32) d54_310 (by decide) ?_
        refine C.ishr 312 d54_311 ?_
        refine C.ior 313 d54_312 ?_
        rw [own_y4 hr1 hr2]
        refine C.caload 314 (x1 % 4 * 16 + x2 / 16) d54_313 RT rfl (own_Tget (by omega)) ?_
        refine C.i2b 315 d54_314 ?_
        refine C.bastore 316 1 d54_315 Rd rfl (by rw [own_padlen (by first | omega | (simp; done) | (simp; omega))]; omega) (own_fitsb _) (by omega) (Or.inl hbd) ?_
        intro ht2 Wt2 Nt2
        have sz_ht2 : ht0.size ≤ ht2.size := (Nat.le_of_eq Wt2.size.symm)
        replace R := R.other Wt2 (by first | omega | (dsimp only; omega))
        replace RT := RT.other Wt2 (by first | omega | (dsimp only; omega))
        replace Xd := Xd.wr Wt2
        replace GD := GD.other Wt2 (Or.inl (show (_ : Nat) ≠ _ by omega))
        replace GL := GL.other Wt2 (Or.inl (show (_ : Nat) ≠ _ by omega))
        replace GU := GU.other Wt2 (Or.inl (show (_ : Nat) ≠ _ by omega))
        replace GX := GX.wr Wt2
        replace Rd : Ar Z ht2 d .byte (own_pad (own_ol bs.length) (([] : List Int32) ++ [own_al (x1 / 4)] ++ [own_al (x1 % 4 * 16 + x2 / 16)])) := (by have z := Nt2; rw [show nar .byte (own_al (x1 % 4 * 16 + x2 / 16)).toInt8.toInt32 = own_al (x1 % 4 * 16 + x2 / 16) from own_nb _ (by omega), own_padset (by first | omega | (simp; done) | (simp; omega)) (by omega)] at z; exact z)
        refine C.aload 318 d54_316 rfl rfl ?_
        refine C.iload 320 d54_318 rfl ?_
        refine C.iinc 323 (L' := #[.val (.ref en), .val (.ref t), .val (.int (0 : Int32)), .val (.int (Int32.ofNat bs.length)), .val (.ref d), .val (.ref tb), .val (.int (((0 : Int32) + (1 : Int32)) + (1 : Int32))), .val (.int (Int32.ofNat (3 * (bs.length / 3)))), .val (.int (Int32.ofNat (3 * (bs.length / 3)))), .val (.int ((((0 : Int32) + (1 : Int32)) + (1 : Int32)) + (1 : Int32))), .val (.int (Int32.ofNat x1)), .val (.int (Int32.ofNat x2)), .unset, .unset, .unset, .unset]) (1 : Int32) d54_320 (by decide) rfl rfl ?_
        refine C.aload 325 d54_323 rfl rfl ?_
        refine C.iload 327 d54_325 rfl ?_
        refine C.iconst 328 (2 : Int32) d54_327 (by decide) ?_
        refine C.ishl 329 d54_328 ?_
        refine C.bipush 331 (63 : Int32) d54_329 (by decide) ?_
        refine C.iand 332 d54_331 ?_
        rw [own_q2 x2 hr2]
        refine C.caload 333 (x2 % 16 * 4) d54_332 RT rfl (own_Tget (by omega)) ?_
        refine C.i2b 334 d54_333 ?_
        refine C.bastore 335 2 d54_334 Rd rfl (by rw [own_padlen (by first | omega | (simp; done) | (simp; omega))]; omega) (own_fitsb _) (by omega) (Or.inl hbd) ?_
        intro ht3 Wt3 Nt3
        have sz_ht3 : ht2.size ≤ ht3.size := (Nat.le_of_eq Wt3.size.symm)
        replace R := R.other Wt3 (by first | omega | (dsimp only; omega))
        replace RT := RT.other Wt3 (by first | omega | (dsimp only; omega))
        replace Xd := Xd.wr Wt3
        replace GD := GD.other Wt3 (Or.inl (show (_ : Nat) ≠ _ by omega))
        replace GL := GL.other Wt3 (Or.inl (show (_ : Nat) ≠ _ by omega))
        replace GU := GU.other Wt3 (Or.inl (show (_ : Nat) ≠ _ by omega))
        replace GX := GX.wr Wt3
        replace Rd : Ar Z ht3 d .byte (own_pad (own_ol bs.length) (([] : List Int32) ++ [own_al (x1 / 4)] ++ [own_al (x1 % 4 * 16 + x2 / 16)] ++ [own_al (x2 % 16 * 4)])) := (by have z := Nt3; rw [show nar .byte (own_al (x2 % 16 * 4)).toInt8.toInt32 = own_al (x2 % 16 * 4) from own_nb _ (by omega), own_padset (by first | omega | (simp; done) | (simp; omega)) (by omega)] at z; exact z)
        refine C.aloadN 336 d54_335 rfl rfl ?_
        refine C.getf 339 d54_336 (hw _ (List.mem_of_getElem? (i := 276) rfl)) Via.refl GD ?_
        refine C.ifY 352 d54_339 (by decide) (by decide) (XT.i0_eq_t (show (0 : Int32) = 0 from rfl)) ?_
        refine C.iload 354 d54_352 rfl ?_
        refine C.retI rfl d54_354 (by decide) (by decide) (Or.inl (Nat.le_refl _)) ?_
        have ev := own_ole hr (Or.inr rfl)
        refine ⟨by rw [ev, hq]; rfl, (((OKp.refl).trans (OKp.ofWr Wt0)).trans (OKp.ofWr Wt2)).trans (OKp.ofWr Wt3), ?_, Xd⟩
        have ef := own_fin2 hx1 hx2 hr
        rw [hB] at ef
        rw [ef, own_padfull (own_bl bs)] at Rd
        exact Rd
    · skip
      refine C.icY 352 d54_192 (by decide) (by decide) (XT.ii_ge_t h192) ?_
      refine C.iload 354 d54_352 rfl ?_
      exact absurd ((own_ofNat (show 0 < 2147483648 by decide) (by omega)).2.mpr (show 0 < bs.length by omega)) h192
theorem pd__IZ_rI : parseMethodDescriptor "(IZ)I" = some ⟨[.int, .boolean], some .int⟩ := by decide +kernel
theorem pd__ABIIAB_rI : parseMethodDescriptor "([BII[B)I" = some ⟨[(.array .byte), .int, .int, (.array .byte)], some .int⟩ := by decide +kernel
theorem d55_0 : decode jdk_2452_method_3_code 0 = .ok (.aload_n 0, 1) := by decide +kernel
theorem d55_1 : decode jdk_2452_method_3_code 1 = .ok (.aload_n 1, 1) := by decide +kernel
theorem d55_2 : decode jdk_2452_method_3_code 2 = .ok (.arraylength, 1) := by decide +kernel
theorem d55_3 : decode jdk_2452_method_3_code 3 = .ok (.iconst 1, 1) := by decide +kernel
theorem d55_4 : decode jdk_2452_method_3_code 4 = .ok (.invokevirtual 42, 3) := by decide +kernel
theorem d55_7 : decode jdk_2452_method_3_code 7 = .ok (.istore_n 2, 1) := by decide +kernel
theorem d55_8 : decode jdk_2452_method_3_code 8 = .ok (.iload_n 2, 1) := by decide +kernel
theorem d55_9 : decode jdk_2452_method_3_code 9 = .ok (.newarray .byte, 2) := by decide +kernel
theorem d55_11 : decode jdk_2452_method_3_code 11 = .ok (.astore_n 3, 1) := by decide +kernel
theorem d55_12 : decode jdk_2452_method_3_code 12 = .ok (.aload_n 0, 1) := by decide +kernel
theorem d55_13 : decode jdk_2452_method_3_code 13 = .ok (.aload_n 1, 1) := by decide +kernel
theorem d55_14 : decode jdk_2452_method_3_code 14 = .ok (.iconst 0, 1) := by decide +kernel
theorem d55_15 : decode jdk_2452_method_3_code 15 = .ok (.aload_n 1, 1) := by decide +kernel
theorem d55_16 : decode jdk_2452_method_3_code 16 = .ok (.arraylength, 1) := by decide +kernel
theorem d55_17 : decode jdk_2452_method_3_code 17 = .ok (.aload_n 3, 1) := by decide +kernel
theorem d55_18 : decode jdk_2452_method_3_code 18 = .ok (.invokevirtual 46, 3) := by decide +kernel
theorem d55_21 : decode jdk_2452_method_3_code 21 = .ok (.istore 4, 2) := by decide +kernel
theorem d55_23 : decode jdk_2452_method_3_code 23 = .ok (.iload 4, 2) := by decide +kernel
theorem d55_25 : decode jdk_2452_method_3_code 25 = .ok (.aload_n 3, 1) := by decide +kernel
theorem d55_26 : decode jdk_2452_method_3_code 26 = .ok (.arraylength, 1) := by decide +kernel
theorem d55_27 : decode jdk_2452_method_3_code 27 = .ok (.if_icmp .eq 10, 3) := by decide +kernel
theorem d55_37 : decode jdk_2452_method_3_code 37 = .ok (.aload_n 3, 1) := by decide +kernel
theorem d55_38 : decode jdk_2452_method_3_code 38 = .ok (.areturn, 1) := by decide +kernel
theorem ef_60 (m : MethodId) (x0 : Nat) (x1 : Nat) : entryFrame m #[(.ref x0), (.ref x1)] 5 = mkF m 0 #[.val (.ref x0), .val (.ref x1), .unset, .unset, .unset] [] := by first | (simp [entryFrame, mkF, argsToLocals, Value.category]; done) | rfl
set_option maxRecDepth 65536 in
set_option maxHeartbeats 40000000 in
theorem met_be (l : Launch) (Z : State) (a0 : Array Value) (hw : ∀ d ∈ tables_1, d.before a0 Z = true) (EL : List (String × Nat)) (hEL : EW Z a0 EL) (n0 bk : Nat) (h0 : Heap) (hz0 : Z.heap.size ≤ n0) (hn0 : n0 ≤ h0.size) (en : Nat) (t : Nat) (tb : Nat) (bs : List Nat) (R : Ar Z h0 t .byte (own_bys bs)) (hb : ∀ x ∈ bs, x < 256) (hl : bs.length ≤ 7) (hp : 0 < bs.length) (hbk : bk ≤ h0.size) (SB64 : Sta Z Z.heap "java/util/Base64$Encoder" "toBase64URL" "[C" (.ref tb)) (RT0 : Ar Z Z.heap tb .char own_T) (FdoPadding : Fld Z Z.heap en "java/util/Base64$Encoder" "doPadding" "Z" (.int (0 : Int32))) (Flinemax : Fld Z Z.heap en "java/util/Base64$Encoder" "linemax" "I" (.int (-1 : Int32))) (FisURL : Fld Z Z.heap en "java/util/Base64$Encoder" "isURL" "Z" (.int (1 : Int32))) (XE : Exa Z Z.heap en "java/util/Base64$Encoder") : Met l Z EL (⟨"java/util/Base64$Encoder", "encode", "([B)[B"⟩ : MethodName) jdk_2452_method_3_code 5 (some (.array .byte)) [] ({ frames := 2, cells := 1, slots := 10, locals := 49 } : Room) #[(.ref en), (.ref t)] n0 bk h0 (fun _ => bk) (fun v h => ∃ u, v = some (.ref u) ∧ h0.size ≤ u ∧ Ar Z h u .byte (own_b64 bs) ∧ Exa Z h u "[B") := by
  refine Met.intro (plainFor_of_name pn_7) (fun m => ef_60 m en t) hz0 hEL ?_
  intro hE0 p e s m below meth c C
  have GD := FdoPadding.ext hE0
  have GL := Flinemax.ext hE0
  have GU := FisURL.ext hE0
  have GX := XE.ext hE0
  have lte : (_ : Nat) < _ := XE.lt
  have ltt : (_ : Nat) < _ := R.lt
  have o10 := own_ol10 bs.length (by omega)
  refine C.aloadN 1 d55_0 rfl rfl ?_
  refine C.aloadN 2 d55_1 rfl rfl ?_
  refine C.alen 3 d55_2 R (by rw [own_bysl]) ?_
  refine C.iconst 4 (1 : Int32) d55_3 (by decide) ?_
  refine C.callVW 7 [(.int (Int32.ofNat bs.length)), (.int (1 : Int32))] [] d55_4 (met_eol l Z a0 hw h0 en bs.length 1 GD GL (by omega)) GX (hw _ (List.mem_of_getElem? (i := 271) rfl)) (own_declaresW (hw _ (List.mem_of_getElem? (i := 272) rfl)) (hw _ (List.mem_of_getElem? (i := 275) rfl))) (hw _ (List.mem_of_getElem? (i := 274) rfl)) (hw _ (List.mem_of_getElem? (i := 272) rfl)) (hw _ (List.mem_of_getElem? (i := 264) rfl)) (hw _ (List.mem_of_getElem? (i := 275) rfl)) (fun hZ => notFace_of_selects (args := #[]) (mvT hZ (hw _ (List.mem_of_getElem? (i := 274) rfl)))) (by decide) rfl (lenOf pd__IZ_rI rfl) (by decide) (W := 0) (Nat.le_of_eq rfl) (by decide) (by decide) (by decide) rfl rfl rfl ?_
  rintro _ rfl
  refine C.istoreN 8 (L' := #[.val (.ref en), .val (.ref t), .val (.int (Int32.ofNat (own_ol bs.length))), .unset, .unset]) d55_7 rfl ?_
  refine C.iloadN 9 d55_8 rfl ?_
  refine C.newarrE (zn := (own_ol bs.length)) (cap := 10) 11 d55_9 (hw _ (List.mem_of_getElem? (i := 15) rfl)) rfl o10 (by decide) rfl (by decide) (by decide) (by decide) ?_
  intro u h1 g_u E1 R_u Xu
  replace R_u : Ar Z h1 u .byte (own_pad (own_ol bs.length) []) := R_u
  have lt_u : u < h1.size := R_u.lt
  have sz_h1 : h0.size ≤ h1.size := E1.1
  replace R := R.ext E1
  replace GD := GD.ext E1
  replace GL := GL.ext E1
  replace GU := GU.ext E1
  replace GX := GX.ext E1
  refine C.astoreN 12 (L' := #[.val (.ref en), .val (.ref t), .val (.int (Int32.ofNat (own_ol bs.length))), .val (.ref u), .unset]) d55_11 rfl rfl ?_
  refine C.aloadN 13 d55_12 rfl rfl ?_
  refine C.aloadN 14 d55_13 rfl rfl ?_
  refine C.iconst 15 (0 : Int32) d55_14 (by decide) ?_
  refine C.aloadN 16 d55_15 rfl rfl ?_
  refine C.alen 17 d55_16 R (by rw [own_bysl]) ?_
  refine C.aloadN 18 d55_17 rfl rfl ?_
  refine C.callV (b := u) 21 [(.ref t), (.int (0 : Int32)), (.int (Int32.ofNat bs.length)), (.ref u)] [] d55_18 (met_e0 l Z a0 hw EL hEL u bk h1 (by omega) (by omega) en t u tb bs R hb hl hp R_u (by omega) (Nat.le_refl _) (by omega) (by omega) Xu SB64 RT0 FdoPadding Flinemax FisURL XE) GX (by omega) (Or.inl (Nat.le_refl _)) (hw _ (List.mem_of_getElem? (i := 286) rfl)) (own_declares (hw _ (List.mem_of_getElem? (i := 287) rfl)) (hw _ (List.mem_of_getElem? (i := 290) rfl))) (hw _ (List.mem_of_getElem? (i := 289) rfl)) (hw _ (List.mem_of_getElem? (i := 287) rfl)) (hw _ (List.mem_of_getElem? (i := 264) rfl)) (hw _ (List.mem_of_getElem? (i := 290) rfl)) (fun hZ => notFace_of_selects (args := #[]) (mvT hZ (hw _ (List.mem_of_getElem? (i := 289) rfl)))) (by decide) rfl (lenOf pd__ABIIAB_rI rfl) (by decide) (W := 0) (Nat.le_of_eq rfl) (by decide) (by decide) (by decide) rfl ?_
  rintro _ h2 K2 ⟨rfl, KF, Rd, Xd⟩
  have sz_h2 : h1.size ≤ h2.size := KF.1
  replace R := R.kp KF (by first | omega | (dsimp only; omega))
  replace GD := own_fld KF GD (by first | omega | (dsimp only; omega))
  replace GL := own_fld KF GL (by first | omega | (dsimp only; omega))
  replace GU := own_fld KF GU (by first | omega | (dsimp only; omega))
  replace GX := own_exa KF GX (by first | omega | (dsimp only; omega))
  refine C.istore 23 (L' := #[.val (.ref en), .val (.ref t), .val (.int (Int32.ofNat (own_ol bs.length))), .val (.ref u), .val (.int (Int32.ofNat (own_ol bs.length)))]) d55_21 rfl ?_
  refine C.iload 25 d55_23 rfl ?_
  refine C.aloadN 26 d55_25 rfl rfl ?_
  refine C.alen 27 d55_26 Rd (by rw [own_bl]) ?_
  refine C.icY 37 d55_27 (by decide) (by decide) (XT.ii_eq_t (show (Int32.ofNat (own_ol bs.length)) = (Int32.ofNat (own_ol bs.length)) from rfl)) ?_
  refine C.aloadN 38 d55_37 rfl rfl ?_
  refine C.retA rfl rfl d55_38 rfl (by decide) (by decide) (Or.inl (Nat.le_refl _)) ?_
  exact ⟨u, rfl, by omega, Rd, Xd⟩
theorem own_orl : ∀ n, n < 12 → ¬ ((Int32.ofNat n ||| 0) ||| Int32.ofNat n) < 0 := by decide +kernel
theorem d56_0 : decode jdk_41_method_13_code 0 = .ok (.iload_n 2, 1) := by decide +kernel
theorem d56_1 : decode jdk_41_method_13_code 1 = .ok (.iload_n 0, 1) := by decide +kernel
theorem d56_2 : decode jdk_41_method_13_code 2 = .ok (.ior, 1) := by decide +kernel
theorem d56_3 : decode jdk_41_method_13_code 3 = .ok (.iload_n 1, 1) := by decide +kernel
theorem d56_4 : decode jdk_41_method_13_code 4 = .ok (.ior, 1) := by decide +kernel
theorem d56_5 : decode jdk_41_method_13_code 5 = .ok (.ifCond .lt 10, 3) := by decide +kernel
theorem d56_8 : decode jdk_41_method_13_code 8 = .ok (.iload_n 1, 1) := by decide +kernel
theorem d56_9 : decode jdk_41_method_13_code 9 = .ok (.iload_n 2, 1) := by decide +kernel
theorem d56_10 : decode jdk_41_method_13_code 10 = .ok (.iload_n 0, 1) := by decide +kernel
theorem d56_11 : decode jdk_41_method_13_code 11 = .ok (.isub, 1) := by decide +kernel
theorem d56_12 : decode jdk_41_method_13_code 12 = .ok (.if_icmp .le 11, 3) := by decide +kernel
theorem d56_23 : decode jdk_41_method_13_code 23 = .ok (.iload_n 0, 1) := by decide +kernel
theorem d56_24 : decode jdk_41_method_13_code 24 = .ok (.ireturn, 1) := by decide +kernel
theorem ef_61 (m : MethodId) (x0 : Int32) (x1 : Int32) (x2 : Int32) (x3 : Value) (hx3 : x3.category = 1) : entryFrame m #[(.int x0), (.int x1), (.int x2), x3] 4 = mkF m 0 #[.val (.int x0), .val (.int x1), .val (.int x2), .val x3] [] := by first | (simp [entryFrame, mkF, argsToLocals, show ∀ z : Int32, (Value.int z).category = 1 from fun _ => rfl, show ∀ z : Nat, (Value.ref z).category = 1 from fun _ => rfl, hx3]; done) | rfl
set_option maxRecDepth 65536 in
set_option maxHeartbeats 40000000 in
theorem met_cfi (l : Launch) (Z : State) (a0 : Array Value) (hw : ∀ d ∈ tables_1, d.before a0 Z = true) (EL : List (String × Nat)) (hEL : EW Z a0 EL) (n0 bk : Nat) (h0 : Heap) (hz0 : Z.heap.size ≤ n0) (hn0 : n0 ≤ h0.size) (n : Nat) (fm : Value) (hn : n < 12) (hfm : fm.isRef = true) : Met l Z EL (⟨"jdk/internal/util/Preconditions", "checkFromIndexSize", "(IIILjava/util/function/BiFunction;)I"⟩ : MethodName) jdk_41_method_13_code 4 (some .int) [] ({ frames := 0, cells := 0, slots := 0, locals := 0 } : Room) #[(.int (0 : Int32)), (.int (Int32.ofNat n)), (.int (Int32.ofNat n)), fm] n0 bk h0 (fun _ => bk) (fun v h => v = some (.int 0) ∧ h0 = h) := by
  refine Met.intro (plainFor_of_name pn_2) (fun m => ef_61 m (0 : Int32) (Int32.ofNat n) (Int32.ofNat n) fm (XT.cat1 hfm)) hz0 hEL ?_
  intro hE0 p e s m below meth c C
  refine C.iloadN 1 d56_0 rfl ?_
  refine C.iloadN 2 d56_1 rfl ?_
  refine C.ior 3 d56_2 ?_
  refine C.iloadN 4 d56_3 rfl ?_
  refine C.ior 5 d56_4 ?_
  refine C.ifN 8 d56_5 rfl (XT.i0_lt_f (show ¬ ((((Int32.ofNat n) ||| (0 : Int32)) ||| (Int32.ofNat n)) < 0) from (own_orl n hn))) ?_
  refine C.iloadN 9 d56_8 rfl ?_
  refine C.iloadN 10 d56_9 rfl ?_
  refine C.iloadN 11 d56_10 rfl ?_
  refine C.isub 12 d56_11 ?_
  refine C.icY 23 d56_12 (by decide) (by decide) (XT.ii_le_t (show ¬ (((Int32.ofNat n) - (0 : Int32)) < (Int32.ofNat n)) from (by rw [own_sub0']; intro z; have := (own_ofNat (by omega) (by omega)).2.mp z; omega))) ?_
  refine C.iloadN 24 d56_23 rfl ?_
  refine C.retI rfl d56_24 (by decide) (by decide) (Or.inl (Nat.le_refl _)) ?_
  exact ⟨rfl, rfl⟩
theorem pd__IIILjava_util_function_BiFunction_rI : parseMethodDescriptor "(IIILjava/util/function/BiFunction;)I" = some ⟨[.int, .int, .int, (.object "java/util/function/BiFunction")], some .int⟩ := by decide +kernel
theorem d57_0 : decode jdk_42_method_157_code 0 = .ok (.iload_n 0, 1) := by decide +kernel
theorem d57_1 : decode jdk_42_method_157_code 1 = .ok (.iload_n 1, 1) := by decide +kernel
theorem d57_2 : decode jdk_42_method_157_code 2 = .ok (.iload_n 2, 1) := by decide +kernel
theorem d57_3 : decode jdk_42_method_157_code 3 = .ok (.getstatic 1053, 3) := by decide +kernel
theorem d57_6 : decode jdk_42_method_157_code 6 = .ok (.invokestatic 1065, 3) := by decide +kernel
theorem d57_9 : decode jdk_42_method_157_code 9 = .ok (.ireturn, 1) := by decide +kernel
theorem ef_62 (m : MethodId) (x0 : Int32) (x1 : Int32) (x2 : Int32) : entryFrame m #[(.int x0), (.int x1), (.int x2)] 3 = mkF m 0 #[.val (.int x0), .val (.int x1), .val (.int x2)] [] := by first | (simp [entryFrame, mkF, argsToLocals, Value.category]; done) | rfl
set_option maxRecDepth 65536 in
set_option maxHeartbeats 40000000 in
theorem met_cbo (l : Launch) (Z : State) (a0 : Array Value) (hw : ∀ d ∈ tables_1, d.before a0 Z = true) (EL : List (String × Nat)) (hEL : EW Z a0 EL) (n0 bk : Nat) (h0 : Heap) (hz0 : Z.heap.size ≤ n0) (hn0 : n0 ≤ h0.size) (n : Nat) (fm : Value) (hn : n < 12) (hfm : fm.isRef = true) (SF : Sta Z Z.heap "jdk/internal/util/Preconditions" "SIOOBE_FORMATTER" "Ljava/util/function/BiFunction;" fm) : Met l Z EL (⟨"java/lang/String", "checkBoundsOffCount", "(III)I"⟩ : MethodName) jdk_42_method_157_code 3 (some .int) [] ({ frames := 1, cells := 0, slots := 0, locals := 15 } : Room) #[(.int (0 : Int32)), (.int (Int32.ofNat n)), (.int (Int32.ofNat n))] n0 bk h0 (fun _ => bk) (fun v h => v = some (.int 0) ∧ h0 = h) := by
  refine Met.intro (plainFor_of_name pn_1) (fun m => ef_62 m (0 : Int32) (Int32.ofNat n) (Int32.ofNat n)) hz0 hEL ?_
  intro hE0 p e s m below meth c C
  refine C.iloadN 1 d57_0 rfl ?_
  refine C.iloadN 2 d57_1 rfl ?_
  refine C.iloadN 3 d57_2 rfl ?_
  refine C.gets 6 d57_3 (hw _ (List.mem_of_getElem? (i := 307) rfl)) SF ?_
  refine C.callS (b := h0.size) 9 [(.int (0 : Int32)), (.int (Int32.ofNat n)), (.int (Int32.ofNat n)), fm] [] d57_6 (met_cfi l Z a0 hw EL hEL h0.size bk h0 (by omega) (by omega) n fm hn hfm) (by omega) (Or.inl (Nat.le_refl _)) (hw _ (List.mem_of_getElem? (i := 309) rfl)) (hw _ (List.mem_of_getElem? (i := 310) rfl)) (hw _ (List.mem_of_getElem? (i := 308) rfl)) (hw _ (List.mem_of_getElem? (i := 311) rfl)) (by decide) rfl (lenOf pd__IIILjava_util_function_BiFunction_rI rfl) (by decide) (W := 0) (Nat.le_of_eq rfl) (by decide) (by decide) (by decide) rfl ?_
  rintro _ h6_2 K6_2 ⟨rfl, rfl⟩
  refine C.retI rfl d57_9 (by decide) (by decide) (Or.inl (Nat.le_refl _)) ?_
  exact ⟨rfl, rfl⟩
theorem own_addz (n : Nat) : 0 + Int32.ofNat n = Int32.ofNat n := Int32.zero_add _
theorem d33_17 : decode jdk_65_method_132_code 17 = .ok (.aload_n 0, 1) := by decide +kernel
theorem d33_18 : decode jdk_65_method_132_code 18 = .ok (.invokevirtual 310, 3) := by decide +kernel
theorem d33_21 : decode jdk_65_method_132_code 21 = .ok (.checkcast 311, 3) := by decide +kernel
theorem d33_24 : decode jdk_65_method_132_code 24 = .ok (.areturn, 1) := by decide +kernel
theorem ef_63 (m : MethodId) (x0 : Nat) (x1 : Int32) (x2 : Int32) : entryFrame m #[(.ref x0), (.int x1), (.int x2)] 3 = mkF m 0 #[.val (.ref x0), .val (.int x1), .val (.int x2)] [] := by first | (simp [entryFrame, mkF, argsToLocals, Value.category]; done) | rfl
set_option maxRecDepth 65536 in
set_option maxHeartbeats 40000000 in
theorem met_corf (l : Launch) (Z : State) (a0 : Array Value) (hw : ∀ d ∈ tables_1, d.before a0 Z = true) (EL : List (String × Nat)) (hEL : EW Z a0 EL) (n0 bk : Nat) (h0 : Heap) (hz0 : Z.heap.size ≤ n0) (hn0 : n0 ≤ h0.size) (t : Nat) (xs : List Int32) (R : Ar Z h0 t .byte xs) (X : Exa Z h0 t "[B") (hc : xs.length ≤ 10) (hbk : bk ≤ h0.size) : Met l Z EL (⟨"java/util/Arrays", "copyOfRange", "([BII)[B"⟩ : MethodName) jdk_65_method_132_code 3 (some (.array .byte)) [] ({ frames := 1, cells := 1, slots := 10, locals := 14 } : Room) #[(.ref t), (.int (0 : Int32)), (.int (Int32.ofNat xs.length))] n0 bk h0 (fun _ => bk) (fun v h => ∃ u, v = some (.ref u) ∧ h0.size ≤ u ∧ Ar Z h u .byte xs) := by
  refine Met.intro (plainFor_of_name pn_6) (fun m => ef_63 m t (0 : Int32) (Int32.ofNat xs.length)) hz0 hEL ?_
  intro hE0 p e s m below meth c C
  have lx := own_arlen R
  refine C.iloadN 1 d33_0 rfl ?_
  refine C.ifN 4 d33_1 rfl (XT.i0_ne_f (show (0 : Int32) = 0 from rfl)) ?_
  refine C.iloadN 5 d33_4 rfl ?_
  refine C.aloadN 6 d33_5 rfl rfl ?_
  refine C.alen 7 d33_6 R rfl ?_
  refine C.icY 17 d33_7 (by decide) (by decide) (XT.ii_eq_t (show (Int32.ofNat xs.length) = (Int32.ofNat xs.length) from rfl)) ?_
  refine C.aloadN 18 d33_17 rfl rfl ?_
  refine C.cloneB (cap := 10) (W := 0) 21 d33_18 (hw _ (List.mem_of_getElem? (i := 312) rfl)) (hw _ (List.mem_of_getElem? (i := 252) rfl)) (hw _ (List.mem_of_getElem? (i := 256) rfl)) (hw _ (List.mem_of_getElem? (i := 254) rfl)) (hw _ (List.mem_of_getElem? (i := 255) rfl)) (hw _ (List.mem_of_getElem? (i := 257) rfl)) R X hc rfl (by decide) (Nat.le_of_eq rfl) (by decide) (by decide) (by decide) ?_
  intro u h1 g_u E1 R_u X_u
  have lt_u : u < h1.size := R_u.lt
  have sz_h1 : h0.size ≤ h1.size := E1.1
  refine C.cast 24 d33_21 (hw _ (List.mem_of_getElem? (i := 313) rfl)) (Ins.self X_u) ?_
  refine C.retA rfl rfl d33_24 rfl (by decide) (by decide) (Or.inl (Nat.le_refl _)) ?_
  exact ⟨u, rfl, by omega, R_u⟩
theorem pd__III_rI : parseMethodDescriptor "(III)I" = some ⟨[.int, .int, .int], some .int⟩ := by decide +kernel
theorem d58_0 : decode jdk_42_method_7_code 0 = .ok (.aload_n 0, 1) := by decide +kernel
theorem d58_1 : decode jdk_42_method_7_code 1 = .ok (.invokespecial 1, 3) := by decide +kernel
theorem d58_4 : decode jdk_42_method_7_code 4 = .ok (.iload_n 3, 1) := by decide +kernel
theorem d58_5 : decode jdk_42_method_7_code 5 = .ok (.iload 4, 2) := by decide +kernel
theorem d58_7 : decode jdk_42_method_7_code 7 = .ok (.aload_n 1, 1) := by decide +kernel
theorem d58_8 : decode jdk_42_method_7_code 8 = .ok (.arraylength, 1) := by decide +kernel
theorem d58_9 : decode jdk_42_method_7_code 9 = .ok (.invokestatic 34, 3) := by decide +kernel
theorem d58_12 : decode jdk_42_method_7_code 12 = .ok (.pop, 1) := by decide +kernel
theorem d58_13 : decode jdk_42_method_7_code 13 = .ok (.iload 4, 2) := by decide +kernel
theorem d58_15 : decode jdk_42_method_7_code 15 = .ok (.ifCond .ne 22, 3) := by decide +kernel
theorem d58_37 : decode jdk_42_method_7_code 37 = .ok (.getstatic 38, 3) := by decide +kernel
theorem d58_40 : decode jdk_42_method_7_code 40 = .ok (.ifCond .eq 29, 3) := by decide +kernel
theorem d58_43 : decode jdk_42_method_7_code 43 = .ok (.iload_n 2, 1) := by decide +kernel
theorem d58_44 : decode jdk_42_method_7_code 44 = .ok (.i2b, 1) := by decide +kernel
theorem d58_45 : decode jdk_42_method_7_code 45 = .ok (.ifCond .ne 24, 3) := by decide +kernel
theorem d58_48 : decode jdk_42_method_7_code 48 = .ok (.aload_n 0, 1) := by decide +kernel
theorem d58_49 : decode jdk_42_method_7_code 49 = .ok (.aload_n 1, 1) := by decide +kernel
theorem d58_50 : decode jdk_42_method_7_code 50 = .ok (.iload_n 3, 1) := by decide +kernel
theorem d58_51 : decode jdk_42_method_7_code 51 = .ok (.iload_n 3, 1) := by decide +kernel
theorem d58_52 : decode jdk_42_method_7_code 52 = .ok (.iload 4, 2) := by decide +kernel
theorem d58_54 : decode jdk_42_method_7_code 54 = .ok (.iadd, 1) := by decide +kernel
theorem d58_55 : decode jdk_42_method_7_code 55 = .ok (.invokestatic 54, 3) := by decide +kernel
theorem d58_58 : decode jdk_42_method_7_code 58 = .ok (.putfield 9, 3) := by decide +kernel
theorem d58_61 : decode jdk_42_method_7_code 61 = .ok (.aload_n 0, 1) := by decide +kernel
theorem d58_62 : decode jdk_42_method_7_code 62 = .ok (.iconst 0, 1) := by decide +kernel
theorem d58_63 : decode jdk_42_method_7_code 63 = .ok (.putfield 15, 3) := by decide +kernel
theorem d58_66 : decode jdk_42_method_7_code 66 = .ok (.goto 61, 3) := by decide +kernel
theorem d58_127 : decode jdk_42_method_7_code 127 = .ok (.return_, 1) := by decide +kernel
theorem ef_64 (m : MethodId) (x0 : Nat) (x1 : Nat) (x2 : Int32) (x3 : Int32) (x4 : Int32) : entryFrame m #[(.ref x0), (.ref x1), (.int x2), (.int x3), (.int x4)] 7 = mkF m 0 #[.val (.ref x0), .val (.ref x1), .val (.int x2), .val (.int x3), .val (.int x4), .unset, .unset] [] := by first | (simp [entryFrame, mkF, argsToLocals, Value.category]; done) | rfl
set_option maxRecDepth 65536 in
set_option maxHeartbeats 40000000 in
theorem met_s7 (l : Launch) (Z : State) (a0 : Array Value) (hw : ∀ d ∈ tables_1, d.before a0 Z = true) (EL : List (String × Nat)) (hEL : EW Z a0 EL) (n0 bk : Nat) (h0 : Heap) (hz0 : Z.heap.size ≤ n0) (hn0 : n0 ≤ h0.size) (a : Nat) (t : Nat) (cs : List Int32) (z0 : Int32) (fm : Value) (X : Exa Z h0 a "java/lang/String") (FV : Fld Z h0 a "java/lang/String" "value" "[B" .null) (FC : Fld Z h0 a "java/lang/String" "coder" "B" (.int (0 : Int32))) (hna : n0 ≤ a) (hba : bk ≤ a) (R : Ar Z h0 t .byte (cs.map own_lo)) (XB : Exa Z h0 t "[B") (hp : 0 < cs.length) (hc : cs.length ≤ 10) (hrg : ∀ x ∈ cs, ¬ x < 0 ∧ ¬ 255 < x) (hta : t < a) (SC : Sta Z Z.heap "java/lang/String" "COMPACT_STRINGS" "Z" (.int z0)) (hzc : ¬ z0 = 0) (hfm : fm.isRef = true) (SF : Sta Z Z.heap "jdk/internal/util/Preconditions" "SIOOBE_FORMATTER" "Ljava/util/function/BiFunction;" fm) : Met l Z EL (⟨"java/lang/String", "<init>", "([BIII)V"⟩ : MethodName) jdk_42_method_7_code 7 none [] ({ frames := 2, cells := 1, slots := 10, locals := 29 } : Room) #[(.ref a), (.ref t), (.int (0 : Int32)), (.int (0 : Int32)), (.int (Int32.ofNat cs.length))] n0 bk h0 (fun _ => bk) (fun v h => v = none ∧ Str Z h h.size a cs ∧ OKp (fun y => y ≠ a ∧ y < h0.size) h0 h) := by
  refine Met.intro (plainFor_of_name pn_1) (fun m => ef_64 m a t (0 : Int32) (0 : Int32) (Int32.ofNat cs.length)) hz0 hEL ?_
  intro hE0 p e s m below meth c C
  have la : (_ : Nat) < _ := X.lt
  have ml : (cs.map own_lo).length = cs.length := List.length_map _
  refine C.aloadN 1 d58_0 rfl rfl ?_
  refine C.objInit (W := 0) 4 d58_1 (hw _ (List.mem_of_getElem? (i := 20) rfl)) (hw _ (List.mem_of_getElem? (i := 21) rfl)) (hw _ (List.mem_of_getElem? (i := 22) rfl)) rfl (by decide) (Nat.le_of_eq rfl) (by decide) ?_
  refine C.iloadN 5 d58_4 rfl ?_
  refine C.iload 7 d58_5 rfl ?_
  refine C.aloadN 8 d58_7 rfl rfl ?_
  refine C.alen 9 d58_8 R (by rw [ml]) ?_
  refine C.callS (b := h0.size) 12 [(.int (0 : Int32)), (.int (Int32.ofNat cs.length)), (.int (Int32.ofNat cs.length))] [] d58_9 (met_cbo l Z a0 hw EL hEL h0.size bk h0 (by omega) (by omega) cs.length fm (by omega) hfm SF) (by omega) (Or.inl (Nat.le_refl _)) (hw _ (List.mem_of_getElem? (i := 304) rfl)) (hw _ (List.mem_of_getElem? (i := 305) rfl)) (hw _ (List.mem_of_getElem? (i := 3) rfl)) (hw _ (List.mem_of_getElem? (i := 306) rfl)) (by decide) rfl (lenOf pd__III_rI rfl) (by decide) (W := 0) (Nat.le_of_eq rfl) (by decide) (by decide) (by decide) rfl ?_
  rintro _ h9_3 K9_3 ⟨rfl, rfl⟩
  refine C.pop 13 d58_12 rfl ?_
  refine C.iload 15 d58_13 rfl ?_
  refine C.ifY 37 d58_15 (by decide) (by decide) (XT.i0_ne_t (show ¬ ((Int32.ofNat cs.length) = 0) from (fun z => by have := (own_ofNat (by omega) (show 0 < 2147483648 by decide)).1.mp z; omega))) ?_
  refine C.gets 40 d58_37 (hw _ (List.mem_of_getElem? (i := 5) rfl)) SC ?_
  refine C.ifN 43 d58_40 rfl (XT.i0_eq_f (show ¬ (z0 = 0) from hzc)) ?_
  refine C.iloadN 44 d58_43 rfl ?_
  refine C.i2b 45 d58_44 ?_
  refine C.ifN 48 d58_45 rfl (XT.i0_ne_f (show ((0 : Int32).toInt8.toInt32) = 0 from rfl)) ?_
  refine C.aloadN 49 d58_48 rfl rfl ?_
  refine C.aloadN 50 d58_49 rfl rfl ?_
  refine C.iloadN 51 d58_50 rfl ?_
  refine C.iloadN 52 d58_51 rfl ?_
  refine C.iload 54 d58_52 rfl ?_
  refine C.iadd 55 d58_54 ?_
  rw [own_addz, show Int32.ofNat cs.length = Int32.ofNat (cs.map own_lo).length by rw [ml]]
  refine C.callS (b := h0.size) 58 [(.ref t), (.int (0 : Int32)), (.int (Int32.ofNat (cs.map own_lo).length))] [(.ref a)] d58_55 (met_corf l Z a0 hw EL hEL h0.size bk h0 (by omega) (by omega) t (cs.map own_lo) R XB (by omega) (by omega)) (by omega) (Or.inl (Nat.le_refl _)) (hw _ (List.mem_of_getElem? (i := 211) rfl)) (hw _ (List.mem_of_getElem? (i := 212) rfl)) (hw _ (List.mem_of_getElem? (i := 213) rfl)) (hw _ (List.mem_of_getElem? (i := 214) rfl)) (by decide) rfl (lenOf pd__ABII_rAB rfl) (by decide) (W := 1) (Nat.le_of_eq rfl) (by decide) (by decide) (by decide) rfl ?_
  rintro _ h1 K1 ⟨u, rfl, gu, Ru⟩
  have sz_h1 : h0.size ≤ h1.size := K1.1
  replace X := own_exa K1 X (by first | omega | (dsimp only; omega))
  replace FV := own_fld K1 FV (by first | omega | (dsimp only; omega))
  replace FC := own_fld K1 FC (by first | omega | (dsimp only; omega))
  refine C.putf (ty := (.array .byte)) 61 d58_58 (hw _ (List.mem_of_getElem? (i := 23) rfl)) Via.refl FV X (Or.inr ⟨(hw _ (List.mem_of_getElem? (i := 24) rfl)), rfl, rfl⟩) (hw _ (List.mem_of_getElem? (i := 11) rfl)) (by decide) rfl rfl (by omega) (Or.inl (by omega)) ?_
  intro h2 W2
  have sz_h2 : h1.size ≤ h2.size := (Nat.le_of_eq W2.size.symm)
  replace FC := FC.other W2 (Or.inr (slot_ne (t := .byte) (t' := (.array .byte)) (Or.inr (hw _ (List.mem_of_getElem? (i := 26) rfl))) (Or.inr (hw _ (List.mem_of_getElem? (i := 24) rfl))) (by decide) (by decide) (by decide)))
  replace FV := FV.same W2
  replace X := X.wr W2
  replace Ru := Ru.other W2 (by first | omega | (dsimp only; omega))
  refine C.aloadN 62 d58_61 rfl rfl ?_
  refine C.iconst 63 (0 : Int32) d58_62 (by decide) ?_
  refine C.putf (ty := .byte) 66 d58_63 (hw _ (List.mem_of_getElem? (i := 25) rfl)) Via.refl FC X (Or.inr ⟨(hw _ (List.mem_of_getElem? (i := 26) rfl)), rfl, rfl⟩) (hw _ (List.mem_of_getElem? (i := 11) rfl)) (by decide) rfl rfl (by omega) (Or.inl (by omega)) ?_
  intro h3 W3
  have sz_h3 : h2.size ≤ h3.size := (Nat.le_of_eq W3.size.symm)
  replace FV := FV.other W3 (Or.inr (slot_ne (t := (.array .byte)) (t' := .byte) (Or.inr (hw _ (List.mem_of_getElem? (i := 24) rfl))) (Or.inr (hw _ (List.mem_of_getElem? (i := 26) rfl))) (by decide) (by decide) (by decide)))
  replace FC := FC.same W3
  replace X := X.wr W3
  replace Ru := Ru.other W3 (by first | omega | (dsimp only; omega))
  refine C.goto 127 d58_66 (by decide) (by decide) ?_
  refine C.retV rfl d58_127 (by decide) (by decide) (Or.inl (Nat.le_refl _)) ?_
  exact ⟨rfl, Str.made X FC FV Ru hrg, (K1.weak (fun y q => q.2)).trans (((OKp.ofWr W2).trans (OKp.ofWr W3)).weak (fun y q => q.1))⟩
theorem pd__AB_rAB : parseMethodDescriptor "([B)[B" = some ⟨[(.array .byte)], some (.array .byte)⟩ := by decide +kernel
theorem pd__ABIII_rV : parseMethodDescriptor "([BIII)V" = some ⟨[(.array .byte), .int, .int, .int], none⟩ := by decide +kernel
theorem d59_0 : decode jdk_2452_method_5_code 0 = .ok (.aload_n 0, 1) := by decide +kernel
theorem d59_1 : decode jdk_2452_method_5_code 1 = .ok (.aload_n 1, 1) := by decide +kernel
theorem d59_2 : decode jdk_2452_method_5_code 2 = .ok (.invokevirtual 61, 3) := by decide +kernel
theorem d59_5 : decode jdk_2452_method_5_code 5 = .ok (.astore_n 2, 1) := by decide +kernel
theorem d59_6 : decode jdk_2452_method_5_code 6 = .ok (.new 65, 3) := by decide +kernel
theorem d59_9 : decode jdk_2452_method_5_code 9 = .ok (.dup, 1) := by decide +kernel
theorem d59_10 : decode jdk_2452_method_5_code 10 = .ok (.aload_n 2, 1) := by decide +kernel
theorem d59_11 : decode jdk_2452_method_5_code 11 = .ok (.iconst 0, 1) := by decide +kernel
theorem d59_12 : decode jdk_2452_method_5_code 12 = .ok (.iconst 0, 1) := by decide +kernel
theorem d59_13 : decode jdk_2452_method_5_code 13 = .ok (.aload_n 2, 1) := by decide +kernel
theorem d59_14 : decode jdk_2452_method_5_code 14 = .ok (.arraylength, 1) := by decide +kernel
theorem d59_15 : decode jdk_2452_method_5_code 15 = .ok (.invokespecial 67, 3) := by decide +kernel
theorem d59_18 : decode jdk_2452_method_5_code 18 = .ok (.areturn, 1) := by decide +kernel
theorem ef_65 (m : MethodId) (x0 : Nat) (x1 : Nat) : entryFrame m #[(.ref x0), (.ref x1)] 3 = mkF m 0 #[.val (.ref x0), .val (.ref x1), .unset] [] := by first | (simp [entryFrame, mkF, argsToLocals, Value.category]; done) | rfl
set_option maxRecDepth 65536 in
set_option maxHeartbeats 40000000 in
theorem met_ets (l : Launch) (Z : State) (a0 : Array Value) (hw : ∀ d ∈ tables_1, d.before a0 Z = true) (EL : List (String × Nat)) (hEL : EW Z a0 EL) (n0 bk : Nat) (h0 : Heap) (hz0 : Z.heap.size ≤ n0) (hn0 : n0 ≤ h0.size) (en : Nat) (t : Nat) (tb : Nat) (bs : List Nat) (z0 : Int32) (fm : Value) (R : Ar Z h0 t .byte (own_bys bs)) (hb : ∀ x ∈ bs, x < 256) (hl : bs.length ≤ 7) (hp : 0 < bs.length) (hbk : bk ≤ h0.size) (SB64 : Sta Z Z.heap "java/util/Base64$Encoder" "toBase64URL" "[C" (.ref tb)) (RT0 : Ar Z Z.heap tb .char own_T) (FdoPadding : Fld Z Z.heap en "java/util/Base64$Encoder" "doPadding" "Z" (.int (0 : Int32))) (Flinemax : Fld Z Z.heap en "java/util/Base64$Encoder" "linemax" "I" (.int (-1 : Int32))) (FisURL : Fld Z Z.heap en "java/util/Base64$Encoder" "isURL" "Z" (.int (1 : Int32))) (XE : Exa Z Z.heap en "java/util/Base64$Encoder") (SC : Sta Z Z.heap "java/lang/String" "COMPACT_STRINGS" "Z" (.int z0)) (hzc : ¬ z0 = 0) (hfm : fm.isRef = true) (SF : Sta Z Z.heap "jdk/internal/util/Preconditions" "SIOOBE_FORMATTER" "Ljava/util/function/BiFunction;" fm) : Met l Z EL (⟨"java/util/Base64$Encoder", "encodeToString", "([B)Ljava/lang/String;"⟩ : MethodName) jdk_2452_method_5_code 3 (some (.object "java/lang/String")) [] ({ frames := 3, cells := 3, slots := 24, locals := 65 } : Room) #[(.ref en), (.ref t)] n0 bk h0 (fun _ => bk) (fun v h => ∃ a, v = some (.ref a) ∧ Str Z h h.size a (own_b64 bs)) := by
  refine Met.intro (plainFor_of_name pn_7) (fun m => ef_65 m en t) hz0 hEL ?_
  intro hE0 p e s m below meth c C
  have GD := FdoPadding.ext hE0
  have GL := Flinemax.ext hE0
  have GU := FisURL.ext hE0
  have GX := XE.ext hE0
  have lte : (_ : Nat) < _ := XE.lt
  have o10 := own_ol10 bs.length (by omega)
  have bl := own_bl bs
  have hol : 0 < own_ol bs.length := by unfold own_ol; split <;> omega
  refine C.aloadN 1 d59_0 rfl rfl ?_
  refine C.aloadN 2 d59_1 rfl rfl ?_
  refine C.callV (b := h0.size) 5 [(.ref t)] [] d59_2 (met_be l Z a0 hw EL hEL h0.size bk h0 (by omega) (by omega) en t tb bs R hb hl hp hbk SB64 RT0 FdoPadding Flinemax FisURL XE) GX (by omega) (Or.inl (Nat.le_refl _)) (hw _ (List.mem_of_getElem? (i := 266) rfl)) (hw _ (List.mem_of_getElem? (i := 267) rfl)) (hw _ (List.mem_of_getElem? (i := 269) rfl)) (hw _ (List.mem_of_getElem? (i := 268) rfl)) (hw _ (List.mem_of_getElem? (i := 264) rfl)) (hw _ (List.mem_of_getElem? (i := 270) rfl)) (fun hZ => notFace_of_selects (args := #[]) (mvT hZ (hw _ (List.mem_of_getElem? (i := 269) rfl)))) (by decide) rfl (lenOf pd__AB_rAB rfl) (by decide) (W := 0) (Nat.le_of_eq rfl) (by decide) (by decide) (by decide) rfl ?_
  rintro _ h1 K1 ⟨u, rfl, gu, Ru, Xu⟩
  have sz_h1 : h0.size ≤ h1.size := K1.1
  replace GD := own_fld K1 GD (by first | omega | (dsimp only; omega))
  replace GL := own_fld K1 GL (by first | omega | (dsimp only; omega))
  replace GU := own_fld K1 GU (by first | omega | (dsimp only; omega))
  replace GX := own_exa K1 GX (by first | omega | (dsimp only; omega))
  have lu1 : (_ : Nat) < _ := Ru.lt
  refine C.astoreN 6 (L' := #[.val (.ref en), .val (.ref t), .val (.ref u)]) d59_5 rfl rfl ?_
  refine C.newo 9 d59_6 (hw _ (List.mem_of_getElem? (i := 300) rfl)) (hw _ (List.mem_of_getElem? (i := 11) rfl)) (hw _ (List.mem_of_getElem? (i := 3) rfl)) (by decide) (by decide) ?_
  intro a h2 g_a E2 X_a D2
  have lt_a : a < h2.size := X_a.lt
  have sz_h2 : h1.size ≤ h2.size := E2.1
  replace GD := GD.ext E2
  replace GL := GL.ext E2
  replace GU := GU.ext E2
  replace GX := GX.ext E2
  replace Ru := Ru.ext E2
  replace Xu := Xu.ext E2
  have FV : Fld Z h2 a "java/lang/String" "value" "[B" .null := D2 (Or.inr (hw _ (List.mem_of_getElem? (i := 24) rfl))) (ty := (.array .byte)) (by decide)
  have FC : Fld Z h2 a "java/lang/String" "coder" "B" (.int (0 : Int32)) := D2 (Or.inr (hw _ (List.mem_of_getElem? (i := 26) rfl))) (ty := .byte) (by decide)
  refine C.dup 10 d59_9 rfl ?_
  refine C.aloadN 11 d59_10 rfl rfl ?_
  refine C.iconst 12 (0 : Int32) d59_11 (by decide) ?_
  refine C.iconst 13 (0 : Int32) d59_12 (by decide) ?_
  have lu0 : (_ : Nat) < _ := Ru.lt
  refine C.aloadN 14 d59_13 rfl rfl ?_
  refine C.alen 15 d59_14 Ru rfl ?_
  refine C.callI (b := a) 18 [(.ref u), (.int (0 : Int32)), (.int (0 : Int32)), (.int (Int32.ofNat (own_b64 bs).length))] [(.ref a)] d59_15 (met_s7 l Z a0 hw EL hEL a bk h2 (by omega) (by omega) a u (own_b64 bs) z0 fm X_a FV FC (by omega) (by omega) (by rw [own_b64lo hb]; exact Ru) Xu (by omega) (by omega) (own_b64r hb) (by omega) SC hzc hfm SF) rfl (by omega) (Or.inl (Nat.le_refl _)) (hw _ (List.mem_of_getElem? (i := 301) rfl)) (hw _ (List.mem_of_getElem? (i := 302) rfl)) (hw _ (List.mem_of_getElem? (i := 3) rfl)) (hw _ (List.mem_of_getElem? (i := 303) rfl)) (by decide) rfl (lenOf pd__ABIII_rV rfl) (by decide) (W := 1) (Nat.le_of_eq rfl) (by decide) (by decide) (by decide) rfl ?_
  rintro _ h3 K3 ⟨rfl, Sa, Kq⟩
  have sz_h3 : h2.size ≤ h3.size := Kq.1
  refine C.retA rfl rfl d59_18 rfl (by decide) (by decide) (Or.inl (Nat.le_refl _)) ?_
  exact ⟨a, rfl, Sa⟩
-- @@PART
theorem pd__BABZ_rAB : parseMethodDescriptor "(B[BZ)[B" = some ⟨[.byte, (.array .byte), .boolean], some (.array .byte)⟩ := by decide +kernel
theorem d60_0 : decode jdk_42_method_18_code 0 = .ok (.aload_n 0, 1) := by decide +kernel
theorem d60_1 : decode jdk_42_method_18_code 1 = .ok (.getstatic 86, 3) := by decide +kernel
theorem d60_4 : decode jdk_42_method_18_code 4 = .ok (.if_acmp .ne 10, 3) := by decide +kernel
theorem d60_7 : decode jdk_42_method_18_code 7 = .ok (.iload_n 1, 1) := by decide +kernel
theorem d60_8 : decode jdk_42_method_18_code 8 = .ok (.aload_n 2, 1) := by decide +kernel
theorem d60_9 : decode jdk_42_method_18_code 9 = .ok (.iconst 1, 1) := by decide +kernel
theorem d60_10 : decode jdk_42_method_18_code 10 = .ok (.invokestatic 252, 3) := by decide +kernel
theorem d60_13 : decode jdk_42_method_18_code 13 = .ok (.areturn, 1) := by decide +kernel
theorem ef_66 (m : MethodId) (x0 : Nat) (x1 : Int32) (x2 : Nat) : entryFrame m #[(.ref x0), (.int x1), (.ref x2)] 3 = mkF m 0 #[.val (.ref x0), .val (.int x1), .val (.ref x2)] [] := by first | (simp [entryFrame, mkF, argsToLocals, Value.category]; done) | rfl
set_option maxRecDepth 65536 in
set_option maxHeartbeats 40000000 in
theorem met_enc (l : Launch) (Z : State) (a0 : Array Value) (hw : ∀ d ∈ tables_1, d.before a0 Z = true) (EL : List (String × Nat)) (hEL : EW Z a0 EL) (n0 bk : Nat) (h0 : Heap) (hz0 : Z.heap.size ≤ n0) (hn0 : n0 ≤ h0.size) (cz : Nat) (t : Nat) (ks : List Nat) (SU : Sta Z Z.heap "sun/nio/cs/UTF_8" "INSTANCE" "Lsun/nio/cs/UTF_8;" (.ref cz)) (SU8 : Sta Z Z.heap "java/nio/charset/StandardCharsets" "UTF_8" "Ljava/nio/charset/Charset;" (.ref cz)) (R : Ar Z h0 t .byte (own_bys ks)) (hk : ∀ k ∈ ks, k < 256) (hl : ks.length ≤ 7) (X : Exa Z h0 t "[B") (hp : 0 < ks.length) (htn : t < n0) (hbk : bk ≤ h0.size) : Met l Z EL (⟨"java/lang/String", "encode", "(Ljava/nio/charset/Charset;B[B)[B"⟩ : MethodName) jdk_42_method_18_code 3 (some (.array .byte)) [] ({ frames := 3, cells := 2, slots := 28, locals := 52 } : Room) #[(.ref cz), (.int (0 : Int32)), (.ref t)] n0 bk h0 (fun _ => bk) (fun v h => ∃ u, v = some (.ref u) ∧ h0.size ≤ u ∧ Ar Z h u .byte (own_bys (own_utf ks))) := by
  refine Met.intro (plainFor_of_name pn_1) (fun m => ef_66 m cz (0 : Int32) t) hz0 hEL ?_
  intro hE0 p e s m below meth c C
  refine C.aloadN 1 d60_0 rfl rfl ?_
  refine C.gets 4 d60_1 (hw _ (List.mem_of_getElem? (i := 239) rfl)) SU ?_
  refine C.acN 7 d60_4 rfl rfl rfl (XT.aa_ne_f (show ((.ref cz) : Value) = (.ref cz) from rfl)) ?_
  refine C.iloadN 8 d60_7 rfl ?_
  refine C.aloadN 9 d60_8 rfl rfl ?_
  refine C.iconst 10 (1 : Int32) d60_9 (by decide) ?_
  refine C.callS (b := n0) 13 [(.int (0 : Int32)), (.ref t), (.int (1 : Int32))] [] d60_10 (met_eu8 l Z a0 hw EL hEL n0 bk h0 (by omega) (by omega) t ks R hk hl X hp htn hbk) (by omega) (Or.inl (Nat.le_refl _)) (hw _ (List.mem_of_getElem? (i := 241) rfl)) (hw _ (List.mem_of_getElem? (i := 242) rfl)) (hw _ (List.mem_of_getElem? (i := 3) rfl)) (hw _ (List.mem_of_getElem? (i := 243) rfl)) (by decide) rfl (lenOf pd__BABZ_rAB rfl) (by decide) (W := 0) (Nat.le_of_eq rfl) (by decide) (by decide) (by decide) rfl ?_
  rintro _ h1 K1 ⟨u, rfl, gu, Ru⟩
  have sz_h1 : h0.size ≤ h1.size := K1.1
  refine C.retA rfl rfl d60_13 rfl (by decide) (by decide) (Or.inl (Nat.le_refl _)) ?_
  exact ⟨u, rfl, gu, Ru⟩
theorem pd__Ljava_nio_charset_CharsetBAB_rAB : parseMethodDescriptor "(Ljava/nio/charset/Charset;B[B)[B" = some ⟨[(.object "java/nio/charset/Charset"), .byte, (.array .byte)], some (.array .byte)⟩ := by decide +kernel
theorem d61_0 : decode jdk_42_method_64_code 0 = .ok (.aload_n 1, 1) := by decide +kernel
theorem d61_1 : decode jdk_42_method_64_code 1 = .ok (.ifnonnull 11, 3) := by decide +kernel
theorem d61_12 : decode jdk_42_method_64_code 12 = .ok (.aload_n 1, 1) := by decide +kernel
theorem d61_13 : decode jdk_42_method_64_code 13 = .ok (.aload_n 0, 1) := by decide +kernel
theorem d61_14 : decode jdk_42_method_64_code 14 = .ok (.invokevirtual 335, 3) := by decide +kernel
theorem d61_17 : decode jdk_42_method_64_code 17 = .ok (.aload_n 0, 1) := by decide +kernel
theorem d61_18 : decode jdk_42_method_64_code 18 = .ok (.getfield 9, 3) := by decide +kernel
theorem d61_21 : decode jdk_42_method_64_code 21 = .ok (.invokestatic 535, 3) := by decide +kernel
theorem d61_24 : decode jdk_42_method_64_code 24 = .ok (.areturn, 1) := by decide +kernel
theorem ef_67 (m : MethodId) (x0 : Nat) (x1 : Nat) : entryFrame m #[(.ref x0), (.ref x1)] 2 = mkF m 0 #[.val (.ref x0), .val (.ref x1)] [] := by first | (simp [entryFrame, mkF, argsToLocals, Value.category]; done) | rfl
set_option maxRecDepth 65536 in
set_option maxHeartbeats 40000000 in
theorem met_gbc (l : Launch) (Z : State) (a0 : Array Value) (hw : ∀ d ∈ tables_1, d.before a0 Z = true) (EL : List (String × Nat)) (hEL : EW Z a0 EL) (n0 bk : Nat) (h0 : Heap) (hz0 : Z.heap.size ≤ n0) (hn0 : n0 ≤ h0.size) (s_ : Nat) (ba : Nat) (ks : List Nat) (cz : Nat) (z0 : Int32) (Sa : Str Z h0 ba s_ (own_is ks)) (Sb : StrB Z h0 s_ (own_is ks)) (hk : ∀ k ∈ ks, k < 256) (hl : ks.length ≤ 7) (hp : 0 < ks.length) (hnh : n0 = h0.size) (hbk : bk ≤ h0.size) (SU : Sta Z Z.heap "sun/nio/cs/UTF_8" "INSTANCE" "Lsun/nio/cs/UTF_8;" (.ref cz)) (SU8 : Sta Z Z.heap "java/nio/charset/StandardCharsets" "UTF_8" "Ljava/nio/charset/Charset;" (.ref cz)) (SC : Sta Z Z.heap "java/lang/String" "COMPACT_STRINGS" "Z" (.int z0)) (hzc : ¬ z0 = 0) : Met l Z EL (⟨"java/lang/String", "getBytes", "(Ljava/nio/charset/Charset;)[B"⟩ : MethodName) jdk_42_method_64_code 2 (some (.array .byte)) [] ({ frames := 4, cells := 2, slots := 28, locals := 66 } : Room) #[(.ref s_), (.ref cz)] n0 bk h0 (fun _ => bk) (fun v h => ∃ u, v = some (.ref u) ∧ h0.size ≤ u ∧ Ar Z h u .byte (own_bys (own_utf ks))) := by
  refine Met.intro (plainFor_of_name pn_1) (fun m => ef_67 m s_ cz) hz0 hEL ?_
  intro hE0 p e s m below meth c C
  obtain ⟨t, fv, Rt, X⟩ := Sb
  rw [own_ibys] at Rt
  have ltt : (_ : Nat) < _ := Rt.lt
  refine C.aloadN 1 d61_0 rfl rfl ?_
  refine C.nonY 12 d61_1 (by decide) (by decide) ?_
  refine C.aloadN 13 d61_12 rfl rfl ?_
  refine C.aloadN 14 d61_13 rfl rfl ?_
  refine C.callV (b := h0.size) 17 [] [(.ref cz)] d61_14 (met_coder l Z a0 hw EL hEL h0.size bk h0 (by omega) (by omega) s_ ba _ z0 Sa SC hzc) Sa.exa (by omega) (Or.inl (Nat.le_refl _)) (hw _ (List.mem_of_getElem? (i := 84) rfl)) (hw _ (List.mem_of_getElem? (i := 85) rfl)) (hw _ (List.mem_of_getElem? (i := 87) rfl)) (hw _ (List.mem_of_getElem? (i := 86) rfl)) (hw _ (List.mem_of_getElem? (i := 3) rfl)) (hw _ (List.mem_of_getElem? (i := 88) rfl)) (fun hZ => notFace_of_selects (args := #[]) (mvT hZ (hw _ (List.mem_of_getElem? (i := 87) rfl)))) (by decide) rfl (lenOf pd___rB rfl) (by decide) (W := 1) (Nat.le_of_eq rfl) (by decide) (by decide) (by decide) rfl ?_
  rintro _ h14_1 K14_1 ⟨rfl, rfl⟩
  refine C.aloadN 18 d61_17 rfl rfl ?_
  refine C.getf 21 d61_18 (hw _ (List.mem_of_getElem? (i := 23) rfl)) Via.refl fv ?_
  refine C.callS (b := h0.size) 24 [(.ref cz), (.int (0 : Int32)), (.ref t)] [] d61_21 (met_enc l Z a0 hw EL hEL h0.size bk h0 (by omega) (by omega) cz t ks SU SU8 Rt hk hl X hp (by omega) hbk) (by omega) (Or.inl (Nat.le_refl _)) (hw _ (List.mem_of_getElem? (i := 236) rfl)) (hw _ (List.mem_of_getElem? (i := 237) rfl)) (hw _ (List.mem_of_getElem? (i := 3) rfl)) (hw _ (List.mem_of_getElem? (i := 238) rfl)) (by decide) rfl (lenOf pd__Ljava_nio_charset_CharsetBAB_rAB rfl) (by decide) (W := 0) (Nat.le_of_eq rfl) (by decide) (by decide) (by decide) rfl ?_
  rintro _ h1 K1 ⟨u, rfl, gu, Ru⟩
  have sz_h1 : h0.size ≤ h1.size := K1.1
  refine C.retA rfl rfl d61_24 rfl (by decide) (by decide) (Or.inl (Nat.le_refl _)) ?_
  exact ⟨u, rfl, gu, Ru⟩
theorem pn_10 : plainName "com/example/edgewise/edgewise/OpaqueText" = true := by first | (simp [plainName, overriddenIn]; done) | decide +kernel
theorem pd__Ljava_nio_charset_Charset_rAB : parseMethodDescriptor "(Ljava/nio/charset/Charset;)[B" = some ⟨[(.object "java/nio/charset/Charset")], some (.array .byte)⟩ := by decide +kernel
theorem pd__AB_rLjava_lang_String : parseMethodDescriptor "([B)Ljava/lang/String;" = some ⟨[(.array .byte)], some (.object "java/lang/String")⟩ := by decide +kernel
theorem d62_0 : decode prog_14_method_2_code 0 = .ok (.getstatic 7, 3) := by decide +kernel
theorem d62_3 : decode prog_14_method_2_code 3 = .ok (.aload_n 0, 1) := by decide +kernel
theorem d62_4 : decode prog_14_method_2_code 4 = .ok (.getstatic 13, 3) := by decide +kernel
theorem d62_7 : decode prog_14_method_2_code 7 = .ok (.invokevirtual 19, 3) := by decide +kernel
theorem d62_10 : decode prog_14_method_2_code 10 = .ok (.invokevirtual 25, 3) := by decide +kernel
theorem d62_13 : decode prog_14_method_2_code 13 = .ok (.areturn, 1) := by decide +kernel
theorem ef_68 (m : MethodId) (x0 : Nat) : entryFrame m #[(.ref x0)] 1 = mkF m 0 #[.val (.ref x0)] [] := by first | (simp [entryFrame, mkF, argsToLocals, Value.category]; done) | rfl
set_option maxRecDepth 65536 in
set_option maxHeartbeats 40000000 in
theorem met_ote (l : Launch) (Z : State) (a0 : Array Value) (hw : ∀ d ∈ tables_1, d.before a0 Z = true) (EL : List (String × Nat)) (hEL : EW Z a0 EL) (n0 bk : Nat) (h0 : Heap) (hz0 : Z.heap.size ≤ n0) (hn0 : n0 ≤ h0.size) (s_ : Nat) (ba : Nat) (ks : List Nat) (en : Nat) (tb : Nat) (cz : Nat) (z0 : Int32) (fm : Value) (Sa : Str Z h0 ba s_ (own_is ks)) (Sb : StrB Z h0 s_ (own_is ks)) (hk : ∀ k ∈ ks, k < 256) (hl : (own_utf ks).length ≤ 7) (hp : 0 < ks.length) (hbk : bk ≤ h0.size) (SB64 : Sta Z Z.heap "java/util/Base64$Encoder" "toBase64URL" "[C" (.ref tb)) (RT0 : Ar Z Z.heap tb .char own_T) (FdoPadding : Fld Z Z.heap en "java/util/Base64$Encoder" "doPadding" "Z" (.int (0 : Int32))) (Flinemax : Fld Z Z.heap en "java/util/Base64$Encoder" "linemax" "I" (.int (-1 : Int32))) (FisURL : Fld Z Z.heap en "java/util/Base64$Encoder" "isURL" "Z" (.int (1 : Int32))) (XE : Exa Z Z.heap en "java/util/Base64$Encoder") (SEN : Sta Z Z.heap "com/example/edgewise/edgewise/OpaqueText" "ENCODER" "Ljava/util/Base64$Encoder;" (.ref en)) (SU : Sta Z Z.heap "sun/nio/cs/UTF_8" "INSTANCE" "Lsun/nio/cs/UTF_8;" (.ref cz)) (SU8 : Sta Z Z.heap "java/nio/charset/StandardCharsets" "UTF_8" "Ljava/nio/charset/Charset;" (.ref cz)) (SC : Sta Z Z.heap "java/lang/String" "COMPACT_STRINGS" "Z" (.int z0)) (hzc : ¬ z0 = 0) (hfm : fm.isRef = true) (SF : Sta Z Z.heap "jdk/internal/util/Preconditions" "SIOOBE_FORMATTER" "Ljava/util/function/BiFunction;" fm) : Met l Z EL (⟨"com/example/edgewise/edgewise/OpaqueText", "encode", "(Ljava/lang/String;)Ljava/lang/String;"⟩ : MethodName) prog_14_method_2_code 1 (some (.object "java/lang/String")) [] ({ frames := 5, cells := 5, slots := 52, locals := 80 } : Room) #[(.ref s_)] n0 bk h0 (fun _ => bk) (fun v h => ∃ a, v = some (.ref a) ∧ Str Z h h.size a (own_b64 (own_utf ks))) := by
  refine Met.intro (plainFor_of_name pn_10) (fun m => ef_68 m s_) hz0 hEL ?_
  intro hE0 p e s m below meth c C
  have GX := XE.ext hE0
  have lte : (_ : Nat) < _ := XE.lt
  have ul := own_utfl ks
  refine C.gets 3 d62_0 (hw _ (List.mem_of_getElem? (i := 227) rfl)) SEN ?_
  refine C.aloadN 4 d62_3 rfl rfl ?_
  refine C.gets 7 d62_4 (hw _ (List.mem_of_getElem? (i := 229) rfl)) SU8 ?_
  refine C.callV (b := h0.size) 10 [(.ref cz)] [(.ref en)] d62_7 (met_gbc l Z a0 hw EL hEL h0.size bk h0 (by omega) (by omega) s_ ba ks cz z0 Sa Sb hk (by omega) hp rfl hbk SU SU8 SC hzc) Sa.exa (by omega) (Or.inl (Nat.le_refl _)) (hw _ (List.mem_of_getElem? (i := 231) rfl)) (hw _ (List.mem_of_getElem? (i := 232) rfl)) (hw _ (List.mem_of_getElem? (i := 234) rfl)) (hw _ (List.mem_of_getElem? (i := 233) rfl)) (hw _ (List.mem_of_getElem? (i := 3) rfl)) (hw _ (List.mem_of_getElem? (i := 235) rfl)) (fun hZ => notFace_of_selects (args := #[]) (mvT hZ (hw _ (List.mem_of_getElem? (i := 234) rfl)))) (by decide) rfl (lenOf pd__Ljava_nio_charset_Charset_rAB rfl) (by decide) (W := 1) (Nat.le_of_eq rfl) (by decide) (by decide) (by decide) rfl ?_
  rintro _ h1 K1 ⟨u, rfl, gu, Ru⟩
  have sz_h1 : h0.size ≤ h1.size := K1.1
  replace GX := own_exa K1 GX (by first | omega | (dsimp only; omega))
  refine C.callV (b := h1.size) 13 [(.ref u)] [] d62_10 (met_ets l Z a0 hw EL hEL h1.size bk h1 (by omega) (by omega) en u tb (own_utf ks) z0 fm Ru (own_utfr hk) hl (by omega) (by omega) SB64 RT0 FdoPadding Flinemax FisURL XE SC hzc hfm SF) GX (by omega) (Or.inl (Nat.le_refl _)) (hw _ (List.mem_of_getElem? (i := 260) rfl)) (hw _ (List.mem_of_getElem? (i := 261) rfl)) (hw _ (List.mem_of_getElem? (i := 263) rfl)) (hw _ (List.mem_of_getElem? (i := 262) rfl)) (hw _ (List.mem_of_getElem? (i := 264) rfl)) (hw _ (List.mem_of_getElem? (i := 265) rfl)) (fun hZ => notFace_of_selects (args := #[]) (mvT hZ (hw _ (List.mem_of_getElem? (i := 263) rfl)))) (by decide) rfl (lenOf pd__AB_rLjava_lang_String rfl) (by decide) (W := 0) (Nat.le_of_eq rfl) (by decide) (by decide) (by decide) rfl ?_
  rintro _ h2 K2 ⟨a, rfl, Sr⟩
  have sz_h2 : h1.size ≤ h2.size := K2.1
  refine C.retA rfl rfl d62_13 rfl (by decide) (by decide) (Or.inl (Nat.le_refl _)) ?_
  exact ⟨a, rfl, Sr⟩
theorem pn_11 : plainName "java/lang/Record" = true := by first | (simp [plainName, overriddenIn]; done) | decide +kernel
theorem d63_0 : decode jdk_30_method_1_code 0 = .ok (.aload_n 0, 1) := by decide +kernel
theorem d63_1 : decode jdk_30_method_1_code 1 = .ok (.invokespecial 1, 3) := by decide +kernel
theorem d63_4 : decode jdk_30_method_1_code 4 = .ok (.return_, 1) := by decide +kernel
theorem ef_69 (m : MethodId) (x0 : Nat) : entryFrame m #[(.ref x0)] 1 = mkF m 0 #[.val (.ref x0)] [] := by first | (simp [entryFrame, mkF, argsToLocals, Value.category]; done) | rfl
set_option maxRecDepth 65536 in
set_option maxHeartbeats 40000000 in
theorem met_ri (l : Launch) (Z : State) (a0 : Array Value) (hw : ∀ d ∈ tables_1, d.before a0 Z = true) (EL : List (String × Nat)) (hEL : EW Z a0 EL) (n0 bk : Nat) (h0 : Heap) (hz0 : Z.heap.size ≤ n0) (hn0 : n0 ≤ h0.size) (a : Nat) : Met l Z EL (⟨"java/lang/Record", "<init>", "()V"⟩ : MethodName) jdk_30_method_1_code 1 none [] ({ frames := 1, cells := 0, slots := 0, locals := 12 } : Room) #[(.ref a)] n0 bk h0 (fun _ => bk) (fun v h => v = none ∧ h0 = h) := by
  refine Met.intro (plainFor_of_name pn_11) (fun m => ef_69 m a) hz0 hEL ?_
  intro hE0 p e s m below meth c C
  refine C.aloadN 1 d63_0 rfl rfl ?_
  refine C.objInit (W := 0) 4 d63_1 (hw _ (List.mem_of_getElem? (i := 50) rfl)) (hw _ (List.mem_of_getElem? (i := 21) rfl)) (hw _ (List.mem_of_getElem? (i := 22) rfl)) rfl (by decide) (Nat.le_of_eq rfl) (by decide) ?_
  refine C.retV rfl d63_4 (by decide) (by decide) (Or.inl (Nat.le_refl _)) ?_
  exact ⟨rfl, rfl⟩
theorem pn_12 : plainName "java/util/Objects" = true := by first | (simp [plainName, overriddenIn]; done) | decide +kernel
theorem d64_0 : decode jdk_31_method_11_code 0 = .ok (.aload_n 0, 1) := by decide +kernel
theorem d64_1 : decode jdk_31_method_11_code 1 = .ok (.ifnonnull 12, 3) := by decide +kernel
theorem d64_13 : decode jdk_31_method_11_code 13 = .ok (.aload_n 0, 1) := by decide +kernel
theorem d64_14 : decode jdk_31_method_11_code 14 = .ok (.areturn, 1) := by decide +kernel
theorem ef_70 (m : MethodId) (x0 : Nat) (x1 : Nat) : entryFrame m #[(.ref x0), (.ref x1)] 2 = mkF m 0 #[.val (.ref x0), .val (.ref x1)] [] := by first | (simp [entryFrame, mkF, argsToLocals, Value.category]; done) | rfl
set_option maxRecDepth 65536 in
set_option maxHeartbeats 40000000 in
theorem met_rnn (l : Launch) (Z : State) (a0 : Array Value) (hw : ∀ d ∈ tables_1, d.before a0 Z = true) (EL : List (String × Nat)) (hEL : EW Z a0 EL) (n0 bk : Nat) (h0 : Heap) (hz0 : Z.heap.size ≤ n0) (hn0 : n0 ≤ h0.size) (a : Nat) (b : Nat) : Met l Z EL (⟨"java/util/Objects", "requireNonNull", "(Ljava/lang/Object;Ljava/lang/String;)Ljava/lang/Object;"⟩ : MethodName) jdk_31_method_11_code 2 (some (.object "java/lang/Object")) [] ({ frames := 0, cells := 0, slots := 0, locals := 0 } : Room) #[(.ref a), (.ref b)] n0 bk h0 (fun _ => bk) (fun v h => v = some (.ref a) ∧ h0 = h) := by
  refine Met.intro (plainFor_of_name pn_12) (fun m => ef_70 m a b) hz0 hEL ?_
  intro hE0 p e s m below meth c C
  refine C.aloadN 1 d64_0 rfl rfl ?_
  refine C.nonY 13 d64_1 (by decide) (by decide) ?_
  refine C.aloadN 14 d64_13 rfl rfl ?_
  refine C.retA rfl rfl d64_14 rfl (by decide) (by decide) (Or.inl (Nat.le_refl _)) ?_
  exact ⟨rfl, rfl⟩
theorem d65_0 : decode jdk_42_method_55_code 0 = .ok (.aload_n 0, 1) := by decide +kernel
theorem d65_1 : decode jdk_42_method_55_code 1 = .ok (.getfield 9, 3) := by decide +kernel
theorem d65_4 : decode jdk_42_method_55_code 4 = .ok (.arraylength, 1) := by decide +kernel
theorem d65_5 : decode jdk_42_method_55_code 5 = .ok (.ifCond .ne 7, 3) := by decide +kernel
theorem d65_12 : decode jdk_42_method_55_code 12 = .ok (.iconst 0, 1) := by decide +kernel
theorem d65_13 : decode jdk_42_method_55_code 13 = .ok (.ireturn, 1) := by decide +kernel
theorem ef_71 (m : MethodId) (x0 : Nat) : entryFrame m #[(.ref x0)] 1 = mkF m 0 #[.val (.ref x0)] [] := by first | (simp [entryFrame, mkF, argsToLocals, Value.category]; done) | rfl
set_option maxRecDepth 65536 in
set_option maxHeartbeats 40000000 in
theorem met_emp (l : Launch) (Z : State) (a0 : Array Value) (hw : ∀ d ∈ tables_1, d.before a0 Z = true) (EL : List (String × Nat)) (hEL : EW Z a0 EL) (n0 bk : Nat) (h0 : Heap) (hz0 : Z.heap.size ≤ n0) (hn0 : n0 ≤ h0.size) (a : Nat) (ba : Nat) (cs : List Int32) (Sa : Str Z h0 ba a cs) (hp : 0 < cs.length) : Met l Z EL (⟨"java/lang/String", "isEmpty", "()Z"⟩ : MethodName) jdk_42_method_55_code 1 (some .boolean) [] ({ frames := 0, cells := 0, slots := 0, locals := 0 } : Room) #[(.ref a)] n0 bk h0 (fun _ => bk) (fun v h => v = some (.int 0) ∧ h0 = h) := by
  refine Met.intro (plainFor_of_name pn_1) (fun m => ef_71 m a) hz0 hEL ?_
  intro hE0 p e s m below meth c C
  obtain ⟨t, f1, f2, f3, f4, f5, f6, f7⟩ := Sa
  have ll := own_arlen f6
  rw [List.length_map] at ll
  refine C.aloadN 1 d65_0 rfl rfl ?_
  refine C.getf 4 d65_1 (hw _ (List.mem_of_getElem? (i := 23) rfl)) Via.refl f5 ?_
  refine C.alen 5 d65_4 f6 (by rw [List.length_map]) ?_
  refine C.ifY 12 d65_5 (by decide) (by decide) (XT.i0_ne_t (show ¬ ((Int32.ofNat cs.length) = 0) from (fun z => by have := (own_ofNat ll (show 0 < 2147483648 by decide)).1.mp z; omega))) ?_
  refine C.iconst 13 (0 : Int32) d65_12 (by decide) ?_
  refine C.retN (t := .boolean) rfl (by simp) d65_13 (by decide) (by decide) (Or.inl (Nat.le_refl _)) ?_
  exact ⟨rfl, rfl⟩
theorem pn_13 : plainName "com/example/edgewise/edgewise/Cursor" = true := by first | (simp [plainName, overriddenIn]; done) | decide +kernel
theorem pd___rV : parseMethodDescriptor "()V" = some ⟨[], none⟩ := by decide +kernel
theorem pd__Ljava_lang_ObjectLjava_lang_String_rLjava_lang_Object : parseMethodDescriptor "(Ljava/lang/Object;Ljava/lang/String;)Ljava/lang/Object;" = some ⟨[(.object "java/lang/Object"), (.object "java/lang/String")], some (.object "java/lang/Object")⟩ := by decide +kernel
theorem d66_0 : decode prog_2_method_1_code 0 = .ok (.aload_n 0, 1) := by decide +kernel
theorem d66_1 : decode prog_2_method_1_code 1 = .ok (.invokespecial 1, 3) := by decide +kernel
theorem d66_4 : decode prog_2_method_1_code 4 = .ok (.aload_n 1, 1) := by decide +kernel
theorem d66_5 : decode prog_2_method_1_code 5 = .ok (.ldc 7, 2) := by decide +kernel
theorem d66_7 : decode prog_2_method_1_code 7 = .ok (.invokestatic 9, 3) := by decide +kernel
theorem d66_10 : decode prog_2_method_1_code 10 = .ok (.pop, 1) := by decide +kernel
theorem d66_11 : decode prog_2_method_1_code 11 = .ok (.aload_n 2, 1) := by decide +kernel
theorem d66_12 : decode prog_2_method_1_code 12 = .ok (.ldc 15, 2) := by decide +kernel
theorem d66_14 : decode prog_2_method_1_code 14 = .ok (.invokestatic 9, 3) := by decide +kernel
theorem d66_17 : decode prog_2_method_1_code 17 = .ok (.pop, 1) := by decide +kernel
theorem d66_18 : decode prog_2_method_1_code 18 = .ok (.aload_n 1, 1) := by decide +kernel
theorem d66_19 : decode prog_2_method_1_code 19 = .ok (.invokevirtual 17, 3) := by decide +kernel
theorem d66_22 : decode prog_2_method_1_code 22 = .ok (.ifCond .ne 12, 3) := by decide +kernel
theorem d66_25 : decode prog_2_method_1_code 25 = .ok (.aload_n 1, 1) := by decide +kernel
theorem d66_26 : decode prog_2_method_1_code 26 = .ok (.bipush 58, 2) := by decide +kernel
theorem d66_28 : decode prog_2_method_1_code 28 = .ok (.invokevirtual 25, 3) := by decide +kernel
theorem d66_31 : decode prog_2_method_1_code 31 = .ok (.ifCond .lt 13, 3) := by decide +kernel
theorem d66_44 : decode prog_2_method_1_code 44 = .ok (.aload_n 0, 1) := by decide +kernel
theorem d66_45 : decode prog_2_method_1_code 45 = .ok (.aload_n 1, 1) := by decide +kernel
theorem d66_46 : decode prog_2_method_1_code 46 = .ok (.putfield 36, 3) := by decide +kernel
theorem d66_49 : decode prog_2_method_1_code 49 = .ok (.aload_n 0, 1) := by decide +kernel
theorem d66_50 : decode prog_2_method_1_code 50 = .ok (.aload_n 2, 1) := by decide +kernel
theorem d66_51 : decode prog_2_method_1_code 51 = .ok (.putfield 39, 3) := by decide +kernel
theorem d66_54 : decode prog_2_method_1_code 54 = .ok (.return_, 1) := by decide +kernel
theorem ef_72 (m : MethodId) (x0 : Nat) (x1 : Nat) (x2 : Nat) : entryFrame m #[(.ref x0), (.ref x1), (.ref x2)] 3 = mkF m 0 #[.val (.ref x0), .val (.ref x1), .val (.ref x2)] [] := by first | (simp [entryFrame, mkF, argsToLocals, Value.category]; done) | rfl
set_option maxRecDepth 65536 in
set_option maxHeartbeats 40000000 in
theorem met_cui (l : Launch) (Z : State) (a0 : Array Value) (hw : ∀ d ∈ tables_1, d.before a0 Z = true) (EL : List (String × Nat)) (hEL : EW Z a0 EL) (n0 bk : Nat) (h0 : Heap) (hz0 : Z.heap.size ≤ n0) (hn0 : n0 ≤ h0.size) (a : Nat) (s1 : Nat) (s2 : Nat) (b1 : Nat) (cs : List Int32) (z0 : Int32) (X : Exa Z h0 a "com/example/edgewise/edgewise/Cursor") (F1 : Fld Z h0 a "com/example/edgewise/edgewise/Cursor" "connection" "Ljava/lang/String;" .null) (F2 : Fld Z h0 a "com/example/edgewise/edgewise/Cursor" "key" "Ljava/lang/String;" .null) (hna : n0 ≤ a) (S1 : Str Z h0 b1 s1 cs) (hb1 : b1 ≤ h0.size) (hp : 0 < cs.length) (hni : ¬ (58 : Int32) ∈ cs) (SC : Sta Z Z.heap "java/lang/String" "COMPACT_STRINGS" "Z" (.int z0)) (hzc : ¬ z0 = 0) (wS : ∀ a ∈ Bundle.stringAtoms, a.before a0 Z = true) : Met l Z EL (⟨"com/example/edgewise/edgewise/Cursor", "<init>", "(Ljava/lang/String;Ljava/lang/String;)V"⟩ : MethodName) prog_2_method_1_code 3 none [] ({ frames := 4, cells := 4, slots := 60, locals := 59 } : Room) #[(.ref a), (.ref s1), (.ref s2)] n0 bk h0 (fun h => h.size) (fun v h => v = none ∧ OKp (fun x => x ≠ a ∧ x < h0.size) h0 h ∧ Exa Z h a "com/example/edgewise/edgewise/Cursor" ∧ Fld Z h a "com/example/edgewise/edgewise/Cursor" "connection" "Ljava/lang/String;" (.ref s1) ∧ Fld Z h a "com/example/edgewise/edgewise/Cursor" "key" "Ljava/lang/String;" (.ref s2)) := by
  refine Met.intro (plainFor_of_name pn_13) (fun m => ef_72 m a s1 s2) hz0 hEL ?_
  intro hE0 p e s m below meth c C
  have la : (_ : Nat) < _ := X.lt
  refine C.aloadN 1 d66_0 rfl rfl ?_
  refine C.callI (b := h0.size) 4 [] [] d66_1 (met_ri l Z a0 hw EL hEL h0.size bk h0 (by omega) (by omega) a) rfl (by omega) (Or.inl (Nat.le_refl _)) (hw _ (List.mem_of_getElem? (i := 45) rfl)) (hw _ (List.mem_of_getElem? (i := 46) rfl)) (hw _ (List.mem_of_getElem? (i := 48) rfl)) (hw _ (List.mem_of_getElem? (i := 49) rfl)) (by decide) rfl (lenOf pd___rV rfl) (by decide) (W := 0) (Nat.le_of_eq rfl) (by decide) (by decide) (by decide) rfl ?_
  rintro _ h1_1 K1_1 ⟨rfl, rfl⟩
  refine C.aloadN 5 d66_4 rfl rfl ?_
  refine C.ldcO (nn := 40) 7 d66_5 (hw _ (List.mem_of_getElem? (i := 51) rfl)) wS (by decide) (by decide) (by decide) (by decide) ?_
  intro c1 h1 E1
  have sz_h1 : h0.size ≤ h1.size := E1.1
  replace X := X.ext E1
  replace F1 := F1.ext E1
  replace F2 := F2.ext E1
  replace S1 := S1.ext E1
  refine C.callS (b := h1.size) 10 [(.ref s1), (.ref c1)] [] d66_7 (met_rnn l Z a0 hw EL hEL h1.size h1.size h1 (by omega) (by omega) s1 c1) (by omega) (Or.inr (Nat.le_refl _)) (hw _ (List.mem_of_getElem? (i := 54) rfl)) (hw _ (List.mem_of_getElem? (i := 55) rfl)) (hw _ (List.mem_of_getElem? (i := 56) rfl)) (hw _ (List.mem_of_getElem? (i := 57) rfl)) (by decide) rfl (lenOf pd__Ljava_lang_ObjectLjava_lang_String_rLjava_lang_Object rfl) (by decide) (W := 0) (Nat.le_of_eq rfl) (by decide) (by decide) (by decide) rfl ?_
  rintro _ h7_3 K7_3 ⟨rfl, rfl⟩
  refine C.pop 11 d66_10 rfl ?_
  refine C.aloadN 12 d66_11 rfl rfl ?_
  refine C.ldcO (nn := 12) 14 d66_12 (hw _ (List.mem_of_getElem? (i := 58) rfl)) wS (by decide) (by decide) (by decide) (by decide) ?_
  intro c2 h2 E2
  have sz_h2 : h1.size ≤ h2.size := E2.1
  replace X := X.ext E2
  replace F1 := F1.ext E2
  replace F2 := F2.ext E2
  replace S1 := S1.ext E2
  refine C.callS (b := h2.size) 17 [(.ref s2), (.ref c2)] [] d66_14 (met_rnn l Z a0 hw EL hEL h2.size h2.size h2 (by omega) (by omega) s2 c2) (by omega) (Or.inr (Nat.le_refl _)) (hw _ (List.mem_of_getElem? (i := 54) rfl)) (hw _ (List.mem_of_getElem? (i := 55) rfl)) (hw _ (List.mem_of_getElem? (i := 56) rfl)) (hw _ (List.mem_of_getElem? (i := 57) rfl)) (by decide) rfl (lenOf pd__Ljava_lang_ObjectLjava_lang_String_rLjava_lang_Object rfl) (by decide) (W := 0) (Nat.le_of_eq rfl) (by decide) (by decide) (by decide) rfl ?_
  rintro _ h14_5 K14_5 ⟨rfl, rfl⟩
  refine C.pop 18 d66_17 rfl ?_
  refine C.aloadN 19 d66_18 rfl rfl ?_
  refine C.callV (b := h2.size) 22 [] [] d66_19 (met_emp l Z a0 hw EL hEL h2.size h2.size h2 (by omega) (by omega) s1 b1 cs S1 hp) S1.exa (by omega) (Or.inr (Nat.le_refl _)) (hw _ (List.mem_of_getElem? (i := 59) rfl)) (hw _ (List.mem_of_getElem? (i := 60) rfl)) (hw _ (List.mem_of_getElem? (i := 62) rfl)) (hw _ (List.mem_of_getElem? (i := 61) rfl)) (hw _ (List.mem_of_getElem? (i := 3) rfl)) (hw _ (List.mem_of_getElem? (i := 63) rfl)) (fun hZ => notFace_of_selects (args := #[]) (mvT hZ (hw _ (List.mem_of_getElem? (i := 62) rfl)))) (by decide) rfl (lenOf pd___rZ rfl) (by decide) (W := 0) (Nat.le_of_eq rfl) (by decide) (by decide) (by decide) rfl ?_
  rintro _ h19_6 K19_6 ⟨rfl, rfl⟩
  refine C.ifN 25 d66_22 rfl (XT.i0_ne_f (show (0 : Int32) = 0 from rfl)) ?_
  refine C.aloadN 26 d66_25 rfl rfl ?_
  refine C.bipush 28 (58 : Int32) d66_26 (by decide) ?_
  refine C.callV (b := h2.size) 31 [(.int (58 : Int32))] [] d66_28 (met_io1 l Z a0 hw EL hEL h2.size h2.size h2 (by omega) (by omega) s1 b1 cs 58 z0 S1 (by decide) (by decide) SC hzc) S1.exa (by omega) (Or.inr (Nat.le_refl _)) (hw _ (List.mem_of_getElem? (i := 64) rfl)) (hw _ (List.mem_of_getElem? (i := 65) rfl)) (hw _ (List.mem_of_getElem? (i := 67) rfl)) (hw _ (List.mem_of_getElem? (i := 66) rfl)) (hw _ (List.mem_of_getElem? (i := 3) rfl)) (hw _ (List.mem_of_getElem? (i := 68) rfl)) (fun hZ => notFace_of_selects (args := #[]) (mvT hZ (hw _ (List.mem_of_getElem? (i := 67) rfl)))) (by decide) rfl (lenOf pd__I_rI rfl) (by decide) (W := 0) (Nat.le_of_eq rfl) (by decide) (by decide) (by decide) rfl ?_
  rintro _ h28_7 K28_7 ⟨r, rfl, hr, rfl⟩
  refine C.ifY 44 d66_31 (by decide) (by decide) (XT.i0_lt_t (show r < 0 from (Decidable.byContradiction fun z => hni (hr.mp z)))) ?_
  refine C.aloadN 45 d66_44 rfl rfl ?_
  refine C.aloadN 46 d66_45 rfl rfl ?_
  refine C.putf (ty := (.object "java/lang/String")) 49 d66_46 (hw _ (List.mem_of_getElem? (i := 105) rfl)) Via.refl F1 X (Or.inr ⟨(hw _ (List.mem_of_getElem? (i := 106) rfl)), rfl, rfl⟩) (hw _ (List.mem_of_getElem? (i := 40) rfl)) (by decide) rfl rfl (by omega) (Or.inr (Or.inl ⟨_, X, by decide, by decide⟩)) ?_
  intro h3 W3
  have sz_h3 : h2.size ≤ h3.size := (Nat.le_of_eq W3.size.symm)
  replace F2 := F2.other W3 (Or.inr (slot_ne (t := (.object "java/lang/String")) (t' := (.object "java/lang/String")) (Or.inr (hw _ (List.mem_of_getElem? (i := 108) rfl))) (Or.inr (hw _ (List.mem_of_getElem? (i := 106) rfl))) (by decide) (by decide) (by decide)))
  replace F1 := F1.same W3
  replace X := X.wr W3
  refine C.aloadN 50 d66_49 rfl rfl ?_
  refine C.aloadN 51 d66_50 rfl rfl ?_
  refine C.putf (ty := (.object "java/lang/String")) 54 d66_51 (hw _ (List.mem_of_getElem? (i := 107) rfl)) Via.refl F2 X (Or.inr ⟨(hw _ (List.mem_of_getElem? (i := 108) rfl)), rfl, rfl⟩) (hw _ (List.mem_of_getElem? (i := 40) rfl)) (by decide) rfl rfl (by omega) (Or.inr (Or.inl ⟨_, X, by decide, by decide⟩)) ?_
  intro h4 W4
  have sz_h4 : h3.size ≤ h4.size := (Nat.le_of_eq W4.size.symm)
  replace F1 := F1.other W4 (Or.inr (slot_ne (t := (.object "java/lang/String")) (t' := (.object "java/lang/String")) (Or.inr (hw _ (List.mem_of_getElem? (i := 106) rfl))) (Or.inr (hw _ (List.mem_of_getElem? (i := 108) rfl))) (by decide) (by decide) (by decide)))
  replace F2 := F2.same W4
  replace X := X.wr W4
  refine C.retV rfl d66_54 (by decide) (by decide) (Or.inr (Nat.le_refl _)) ?_
  exact ⟨rfl, (OKp.ofExt E1).trans ((OKp.ofExt E2).trans (((OKp.ofWr W3).trans (OKp.ofWr W4)).weak (fun x q => q.1))), X, F1, F2⟩
theorem own_ek (k1 k2 : List Nat) : [] ++ own_is k1 ++ [58] ++ own_is k2 = own_is (k1 ++ 58 :: k2) := by
  rw [own_isa]
  show ([] ++ own_is k1) ++ [58] ++ own_is k2 = own_is k1 ++ ((58 : Int32) :: own_is k2)
  simp
theorem pd___rLjava_lang_String : parseMethodDescriptor "()Ljava/lang/String;" = some ⟨[], some (.object "java/lang/String")⟩ := by decide +kernel
theorem pd__C_rLjava_lang_StringBuilder : parseMethodDescriptor "(C)Ljava/lang/StringBuilder;" = some ⟨[.char], some (.object "java/lang/StringBuilder")⟩ := by decide +kernel
theorem pd__Ljava_lang_String_rLjava_lang_String : parseMethodDescriptor "(Ljava/lang/String;)Ljava/lang/String;" = some ⟨[(.object "java/lang/String")], some (.object "java/lang/String")⟩ := by decide +kernel
theorem pd__Ljava_lang_String_rLjava_lang_StringBuilder : parseMethodDescriptor "(Ljava/lang/String;)Ljava/lang/StringBuilder;" = some ⟨[(.object "java/lang/String")], some (.object "java/lang/StringBuilder")⟩ := by decide +kernel
theorem d67_0 : decode prog_2_method_2_code 0 = .ok (.new 41, 3) := by decide +kernel
theorem d67_3 : decode prog_2_method_2_code 3 = .ok (.dup, 1) := by decide +kernel
theorem d67_4 : decode prog_2_method_2_code 4 = .ok (.invokespecial 43, 3) := by decide +kernel
theorem d67_7 : decode prog_2_method_2_code 7 = .ok (.aload_n 0, 1) := by decide +kernel
theorem d67_8 : decode prog_2_method_2_code 8 = .ok (.getfield 36, 3) := by decide +kernel
theorem d67_11 : decode prog_2_method_2_code 11 = .ok (.invokevirtual 44, 3) := by decide +kernel
theorem d67_14 : decode prog_2_method_2_code 14 = .ok (.bipush 58, 2) := by decide +kernel
theorem d67_16 : decode prog_2_method_2_code 16 = .ok (.invokevirtual 48, 3) := by decide +kernel
theorem d67_19 : decode prog_2_method_2_code 19 = .ok (.aload_n 0, 1) := by decide +kernel
theorem d67_20 : decode prog_2_method_2_code 20 = .ok (.getfield 39, 3) := by decide +kernel
theorem d67_23 : decode prog_2_method_2_code 23 = .ok (.invokevirtual 44, 3) := by decide +kernel
theorem d67_26 : decode prog_2_method_2_code 26 = .ok (.invokevirtual 51, 3) := by decide +kernel
theorem d67_29 : decode prog_2_method_2_code 29 = .ok (.invokestatic 55, 3) := by decide +kernel
theorem d67_32 : decode prog_2_method_2_code 32 = .ok (.areturn, 1) := by decide +kernel
theorem ef_73 (m : MethodId) (x0 : Nat) : entryFrame m #[(.ref x0)] 1 = mkF m 0 #[.val (.ref x0)] [] := by first | (simp [entryFrame, mkF, argsToLocals, Value.category]; done) | rfl
set_option maxRecDepth 65536 in
set_option maxHeartbeats 40000000 in
theorem met_cue (l : Launch) (Z : State) (a0 : Array Value) (hw : ∀ d ∈ tables_1, d.before a0 Z = true) (EL : List (String × Nat)) (hEL : EW Z a0 EL) (n0 bk : Nat) (h0 : Heap) (hz0 : Z.heap.size ≤ n0) (hn0 : n0 ≤ h0.size) (a : Nat) (s1 : Nat) (s2 : Nat) (b1 : Nat) (k1 : List Nat) (k2 : List Nat) (en : Nat) (tb : Nat) (cz : Nat) (z0 : Int32) (fm : Value) (F1 : Fld Z h0 a "com/example/edgewise/edgewise/Cursor" "connection" "Ljava/lang/String;" (.ref s1)) (F2 : Fld Z h0 a "com/example/edgewise/edgewise/Cursor" "key" "Ljava/lang/String;" (.ref s2)) (S1 : Str Z h0 b1 s1 (own_is k1)) (S2 : Str Z h0 b1 s2 (own_is k2)) (hb1 : b1 ≤ h0.size) (hah : a < h0.size) (hk1 : k1.length ≤ 2) (hk2 : k2.length ≤ 2) (hk : ∀ k ∈ (k1 ++ 58 :: k2), k < 256) (hl : (own_utf (k1 ++ 58 :: k2)).length ≤ 7) (hbk : bk ≤ h0.size) (SB64 : Sta Z Z.heap "java/util/Base64$Encoder" "toBase64URL" "[C" (.ref tb)) (RT0 : Ar Z Z.heap tb .char own_T) (FdoPadding : Fld Z Z.heap en "java/util/Base64$Encoder" "doPadding" "Z" (.int (0 : Int32))) (Flinemax : Fld Z Z.heap en "java/util/Base64$Encoder" "linemax" "I" (.int (-1 : Int32))) (FisURL : Fld Z Z.heap en "java/util/Base64$Encoder" "isURL" "Z" (.int (1 : Int32))) (XE : Exa Z Z.heap en "java/util/Base64$Encoder") (SEN : Sta Z Z.heap "com/example/edgewise/edgewise/OpaqueText" "ENCODER" "Ljava/util/Base64$Encoder;" (.ref en)) (SU : Sta Z Z.heap "sun/nio/cs/UTF_8" "INSTANCE" "Lsun/nio/cs/UTF_8;" (.ref cz)) (SU8 : Sta Z Z.heap "java/nio/charset/StandardCharsets" "UTF_8" "Ljava/nio/charset/Charset;" (.ref cz)) (SC : Sta Z Z.heap "java/lang/String" "COMPACT_STRINGS" "Z" (.int z0)) (hzc : ¬ z0 = 0) (hfm : fm.isRef = true) (SF : Sta Z Z.heap "jdk/internal/util/Preconditions" "SIOOBE_FORMATTER" "Ljava/util/function/BiFunction;" fm) : Met l Z EL (⟨"com/example/edgewise/edgewise/Cursor", "encode", "()Ljava/lang/String;"⟩ : MethodName) prog_2_method_2_code 1 (some (.object "java/lang/String")) [] ({ frames := 6, cells := 9, slots := 88, locals := 92 } : Room) #[(.ref a)] n0 bk h0 (fun _ => bk) (fun v h => ∃ a, v = some (.ref a) ∧ Str Z h h.size a (own_b64 (own_utf (k1 ++ 58 :: k2)))) := by
  refine Met.intro (plainFor_of_name pn_13) (fun m => ef_73 m a) hz0 hEL ?_
  intro hE0 p e s m below meth c C
  have il1 := own_isl k1
  have il2 := own_isl k2
  refine C.newo 3 d67_0 (hw _ (List.mem_of_getElem? (i := 114) rfl)) (hw _ (List.mem_of_getElem? (i := 115) rfl)) (hw _ (List.mem_of_getElem? (i := 116) rfl)) (by decide) (by decide) ?_
  intro sb hs1 g_sb Es1 X_sb Ds1
  have lt_sb : sb < hs1.size := X_sb.lt
  have sz_hs1 : h0.size ≤ hs1.size := Es1.1
  replace F1 := F1.ext Es1
  replace F2 := F2.ext Es1
  replace S1 := S1.ext Es1
  replace S2 := S2.ext Es1
  have fv : Fld Z hs1 sb "java/lang/AbstractStringBuilder" "value" "[B" .null := Ds1 (Or.inl (hw _ (List.mem_of_getElem? (i := 129) rfl))) (ty := (.array .byte)) (by decide)
  have fc : Fld Z hs1 sb "java/lang/AbstractStringBuilder" "coder" "B" (.int (0 : Int32)) := Ds1 (Or.inl (hw _ (List.mem_of_getElem? (i := 131) rfl))) (ty := .byte) (by decide)
  have fn : Fld Z hs1 sb "java/lang/AbstractStringBuilder" "count" "I" (.int (0 : Int32)) := Ds1 (Or.inl (hw _ (List.mem_of_getElem? (i := 144) rfl))) (ty := .int) (by decide)
  refine C.dup 4 d67_3 rfl ?_
  refine C.callI (b := sb) 7 [] [(.ref sb)] d67_4 (met_sbi0 l Z a0 hw EL hEL sb bk hs1 (by omega) (by omega) sb z0 X_sb fv fc fn (by omega) (by omega) SC hzc) rfl (by omega) (Or.inl (Nat.le_refl _)) (hw _ (List.mem_of_getElem? (i := 117) rfl)) (hw _ (List.mem_of_getElem? (i := 118) rfl)) (hw _ (List.mem_of_getElem? (i := 116) rfl)) (hw _ (List.mem_of_getElem? (i := 119) rfl)) (by decide) rfl (lenOf pd___rV rfl) (by decide) (W := 1) (Nat.le_of_eq rfl) (by decide) (by decide) (by decide) rfl ?_
  rintro _ hs2 Ks2 ⟨t, rfl, gt, B, Kqs⟩
  have sz_hs2 : hs1.size ≤ hs2.size := Kqs.1
  replace F1 := own_fld Kqs F1 (by first | omega | (dsimp only; omega))
  replace F2 := own_fld Kqs F2 (by first | omega | (dsimp only; omega))
  replace S1 := S1.kp Kqs (fun x q => by first | omega | (dsimp only; omega))
  replace S2 := S2.kp Kqs (fun x q => by first | omega | (dsimp only; omega))
  have l1 := B.lts
  have l2 := B.ltt
  refine C.aloadN 8 d67_7 rfl rfl ?_
  refine C.getf 11 d67_8 (hw _ (List.mem_of_getElem? (i := 105) rfl)) Via.refl F1 ?_
  refine C.callV (b := n0) 14 [(.ref s1)] [] d67_11 (met_sba l Z a0 hw EL hEL n0 bk hs2 (by omega) (by omega) sb t _ _ s1 b1 _ z0 B S1 (by simp; omega) (by omega) (by omega) (by omega) (by omega) SC hzc) B.1 (by omega) (Or.inl (Nat.le_refl _)) (hw _ (List.mem_of_getElem? (i := 132) rfl)) (hw _ (List.mem_of_getElem? (i := 133) rfl)) (hw _ (List.mem_of_getElem? (i := 135) rfl)) (hw _ (List.mem_of_getElem? (i := 134) rfl)) (hw _ (List.mem_of_getElem? (i := 116) rfl)) (hw _ (List.mem_of_getElem? (i := 136) rfl)) (fun hZ => notFace_of_selects (args := #[]) (mvT hZ (hw _ (List.mem_of_getElem? (i := 135) rfl)))) (by decide) rfl (lenOf pd__Ljava_lang_String_rLjava_lang_StringBuilder rfl) (by decide) (W := 0) (Nat.le_of_eq rfl) (by decide) (by decide) (by decide) rfl ?_
  rintro _ hc1 Kc1 ⟨rfl, B2, Kqc1⟩
  have sz_hc1 : hs2.size ≤ hc1.size := Kqc1.1
  replace F1 := own_fld Kqc1 F1 (by first | omega | (dsimp only; omega))
  replace F2 := own_fld Kqc1 F2 (by first | omega | (dsimp only; omega))
  replace S1 := S1.kp Kqc1 (fun x q => by first | omega | (dsimp only; omega))
  replace S2 := S2.kp Kqc1 (fun x q => by first | omega | (dsimp only; omega))
  replace B := B2
  refine C.bipush 16 (58 : Int32) d67_14 (by decide) ?_
  refine C.callV (b := n0) 19 [(.int (58 : Int32))] [] d67_16 (met_sbc l Z a0 hw EL hEL n0 bk hc1 (by omega) (by omega) sb t _ _ 58 z0 B (by decide) (by decide) (by simp; omega) (by omega) (by omega) (by omega) (by omega) SC hzc) B.1 (by omega) (Or.inl (Nat.le_refl _)) (hw _ (List.mem_of_getElem? (i := 170) rfl)) (hw _ (List.mem_of_getElem? (i := 171) rfl)) (hw _ (List.mem_of_getElem? (i := 173) rfl)) (hw _ (List.mem_of_getElem? (i := 172) rfl)) (hw _ (List.mem_of_getElem? (i := 116) rfl)) (hw _ (List.mem_of_getElem? (i := 174) rfl)) (fun hZ => notFace_of_selects (args := #[]) (mvT hZ (hw _ (List.mem_of_getElem? (i := 173) rfl)))) (by decide) rfl (lenOf pd__C_rLjava_lang_StringBuilder rfl) (by decide) (W := 0) (Nat.le_of_eq rfl) (by decide) (by decide) (by decide) rfl ?_
  rintro _ hc2 Kc2 ⟨rfl, B2, Kqc2⟩
  have sz_hc2 : hc1.size ≤ hc2.size := Kqc2.1
  replace F1 := own_fld Kqc2 F1 (by first | omega | (dsimp only; omega))
  replace F2 := own_fld Kqc2 F2 (by first | omega | (dsimp only; omega))
  replace S1 := S1.kp Kqc2 (fun x q => by first | omega | (dsimp only; omega))
  replace S2 := S2.kp Kqc2 (fun x q => by first | omega | (dsimp only; omega))
  replace B := B2
  refine C.aloadN 20 d67_19 rfl rfl ?_
  refine C.getf 23 d67_20 (hw _ (List.mem_of_getElem? (i := 107) rfl)) Via.refl F2 ?_
  refine C.callV (b := n0) 26 [(.ref s2)] [] d67_23 (met_sba l Z a0 hw EL hEL n0 bk hc2 (by omega) (by omega) sb t _ _ s2 b1 _ z0 B S2 (by simp; omega) (by omega) (by omega) (by omega) (by omega) SC hzc) B.1 (by omega) (Or.inl (Nat.le_refl _)) (hw _ (List.mem_of_getElem? (i := 132) rfl)) (hw _ (List.mem_of_getElem? (i := 133) rfl)) (hw _ (List.mem_of_getElem? (i := 135) rfl)) (hw _ (List.mem_of_getElem? (i := 134) rfl)) (hw _ (List.mem_of_getElem? (i := 116) rfl)) (hw _ (List.mem_of_getElem? (i := 136) rfl)) (fun hZ => notFace_of_selects (args := #[]) (mvT hZ (hw _ (List.mem_of_getElem? (i := 135) rfl)))) (by decide) rfl (lenOf pd__Ljava_lang_String_rLjava_lang_StringBuilder rfl) (by decide) (W := 0) (Nat.le_of_eq rfl) (by decide) (by decide) (by decide) rfl ?_
  rintro _ hc3 Kc3 ⟨rfl, B2, Kqc3⟩
  have sz_hc3 : hc2.size ≤ hc3.size := Kqc3.1
  replace F1 := own_fld Kqc3 F1 (by first | omega | (dsimp only; omega))
  replace F2 := own_fld Kqc3 F2 (by first | omega | (dsimp only; omega))
  replace S1 := S1.kp Kqc3 (fun x q => by first | omega | (dsimp only; omega))
  replace S2 := S2.kp Kqc3 (fun x q => by first | omega | (dsimp only; omega))
  replace B := B2
  refine C.callV (b := hc3.size) 29 [] [] d67_26 (met_ts l Z a0 hw EL hEL hc3.size bk hc3 (by omega) (by omega) sb t _ _ z0 B (by simp; omega) (by simp; omega) (by omega) SC hzc) B.1 (by omega) (Or.inl (Nat.le_refl _)) (hw _ (List.mem_of_getElem? (i := 185) rfl)) (hw _ (List.mem_of_getElem? (i := 186) rfl)) (hw _ (List.mem_of_getElem? (i := 188) rfl)) (hw _ (List.mem_of_getElem? (i := 187) rfl)) (hw _ (List.mem_of_getElem? (i := 116) rfl)) (hw _ (List.mem_of_getElem? (i := 189) rfl)) (fun hZ => notFace_of_selects (args := #[]) (mvT hZ (hw _ (List.mem_of_getElem? (i := 188) rfl)))) (by decide) rfl (lenOf pd___rLjava_lang_String rfl) (by decide) (W := 0) (Nat.le_of_eq rfl) (by decide) (by decide) (by decide) rfl ?_
  rintro _ hr Kr ⟨a_, rfl, Sr, Srb⟩
  have sz_hr : hc3.size ≤ hr.size := Kr.1
  rw [own_ek] at Sr Srb
  refine C.callS (b := hr.size) 32 [(.ref a_)] [] d67_29 (met_ote l Z a0 hw EL hEL hr.size bk hr (by omega) (by omega) a_ _ (k1 ++ 58 :: k2) en tb cz z0 fm Sr Srb hk hl (by simp; omega) (by omega) SB64 RT0 FdoPadding Flinemax FisURL XE SEN SU SU8 SC hzc hfm SF) (by omega) (Or.inl (Nat.le_refl _)) (hw _ (List.mem_of_getElem? (i := 223) rfl)) (hw _ (List.mem_of_getElem? (i := 224) rfl)) (hw _ (List.mem_of_getElem? (i := 225) rfl)) (hw _ (List.mem_of_getElem? (i := 226) rfl)) (by decide) rfl (lenOf pd__Ljava_lang_String_rLjava_lang_String rfl) (by decide) (W := 0) (Nat.le_of_eq rfl) (by decide) (by decide) (by decide) rfl ?_
  rintro _ hg Kg ⟨g, rfl, Sg⟩
  have sz_hg : hr.size ≤ hg.size := Kg.1
  refine C.retA rfl rfl d67_32 rfl (by decide) (by decide) (Or.inl (Nat.le_refl _)) ?_
  exact ⟨g, rfl, Sg⟩
theorem own_rng (x : Int32) : ¬ (x &&& 255) < 0 ∧ ¬ 255 < (x &&& 255) := by
  have q := c_mask x 255 8 (by decide) (by decide)
  rw [Int32.lt_iff_toInt_lt, Int32.lt_iff_toInt_lt]
  have e1 : (0 : Int32).toInt = 0 := rfl
  have e2 : (255 : Int32).toInt = 255 := by decide
  omega
theorem own_kk (x : Int32) : ∃ k, k < 256 ∧ x &&& 255 = Int32.ofNat k := by
  have q := c_mask x 255 8 (by decide) (by decide)
  have e : (Int32.ofNat (x.toInt % 256).toNat).toInt = ((x.toInt % 256).toNat : Nat) := Int32.toInt_ofNat_small (by omega)
  refine ⟨(x.toInt % 256).toNat, by omega, ?_⟩
  rw [← Int32.toInt_inj, q, e]
  omega
theorem own_kr : ∀ k, k < 256 → ¬ Int32.ofNat k < 0 ∧ ¬ 255 < Int32.ofNat k := by decide +kernel
theorem own_m31 (x : Int32) : (x &&& 2147483647) % 3 = 0 ∨ (x &&& 2147483647) % 3 = 1 ∨ (x &&& 2147483647) % 3 = 2 := by
  have q1 := c_mask x 2147483647 31 (by decide) (by decide)
  have q2 := (c_irem (x &&& 2147483647) 3 3 (by decide)).1 (by omega)
  have e0 : (0 : Int32).toInt = 0 := by decide
  have e1 : (1 : Int32).toInt = 1 := by decide
  have e2 : (2 : Int32).toInt = 2 := by decide
  rw [← Int32.toInt_inj, ← Int32.toInt_inj, ← Int32.toInt_inj]
  omega
def own_nk (j : Int32) (u w : Nat) : List Nat := if j = 0 then [] else if j = 1 then [u] else [u, w]
theorem own_nkl (j : Int32) (u w : Nat) : (own_nk j u w).length ≤ 2 := by unfold own_nk; split; simp; split <;> simp
theorem own_nkr {j : Int32} {u w : Nat} (hu : u < 256) (hw : w < 256) : ∀ k ∈ own_nk j u w, k < 256 := by
  unfold own_nk; split; simp; split <;> simp [hu, hw]
theorem own_utc (k : Nat) (k2 : List Nat) : own_utf ([k] ++ 58 :: k2) = (own_u8 k ++ [58]) ++ own_utf k2 := by
  have e : own_u8 58 = [58] := rfl
  simp [own_utf, e]
theorem own_utl {k : Nat} {k2 : List Nat} (h : k2.length ≤ 2) : (own_utf ([k] ++ 58 :: k2)).length ≤ 7 := by
  have q1 := own_u8l k
  have q2 := own_utfl k2
  rw [own_utc]; simp; omega
theorem own_l1 {j : Int32} {A u w : List Nat} (h : j < 1) : A = A ++ (if j < 1 then [] else u) := by rw [if_pos h, List.append_nil]
theorem own_l2 {j : Int32} {A u : List Nat} (h : ¬ j < 1) : A ++ u = A ++ (if j < 1 then [] else u) := by rw [if_neg h]
theorem own_l3 {j : Int32} {A : List Nat} {u w : Nat} (hj : j = 0 ∨ j = 1 ∨ j = 2) (h : ¬ j = 2) : A ++ (if j < 1 then [] else own_u8 u) = A ++ own_utf (own_nk j u w) := by
  rcases hj with rfl | rfl | rfl
  · simp (decide := true) [own_nk, own_utf]
  · simp (decide := true) [own_nk, own_utf]
  · exact absurd rfl h
theorem own_l4 {j : Int32} {A : List Nat} {u w : Nat} (h : j = 2) : (A ++ (if j < 1 then [] else own_u8 u)) ++ own_u8 w = A ++ own_utf (own_nk j u w) := by
  subst h
  simp (decide := true) [own_nk, own_utf]
theorem own_b64l3 (bs : List Nat) (st : Nat) : (own_b64 ((bs.drop st).take 3)).length ≤ 4 := by
  rw [own_bl, own_ol]
  have q : ((bs.drop st).take 3).length ≤ 3 := by rw [List.length_take]; omega
  generalize ((bs.drop st).take 3).length = n at q
  split <;> omega
-- @@PART
theorem own_fitc {x : Int32} (h1 : ¬ x < 0) (h2 : ¬ 255 < x) : fits .char (.int x) = true := by
  have q := fits_nar_char x
  rw [show nar .char x = x from own_c0 h1 h2] at q; exact q
theorem pd__C_rLjava_lang_String : parseMethodDescriptor "(C)Ljava/lang/String;" = some ⟨[.char], some (.object "java/lang/String")⟩ := by decide +kernel
theorem pd__Ljava_lang_StringLjava_lang_String_rV : parseMethodDescriptor "(Ljava/lang/String;Ljava/lang/String;)V" = some ⟨[(.object "java/lang/String"), (.object "java/lang/String")], none⟩ := by decide +kernel
theorem pd__Ljava_lang_StringACII_rZ : parseMethodDescriptor "(Ljava/lang/String;[CII)Z" = some ⟨[(.object "java/lang/String"), (.array .char), .int, .int], some .boolean⟩ := by decide +kernel
theorem pd__AC_rV : parseMethodDescriptor "([C)V" = some ⟨[(.array .char)], none⟩ := by decide +kernel
theorem pd__AIIC_rI : parseMethodDescriptor "([IIC)I" = some ⟨[(.array .int), .int, .char], some .int⟩ := by decide +kernel
theorem pd__AIIIACI_rI : parseMethodDescriptor "([III[CI)I" = some ⟨[(.array .int), .int, .int, (.array .char), .int], some .int⟩ := by decide +kernel
theorem ef_74 (m : MethodId) (x0 : Int32) (x1 : Int32) (x2 : Int32) (x3 : Int32) : entryFrame m #[(.int x0), (.int x1), (.int x2), (.int x3)] maxLocals = mkF m 0 #[.val (.int x0), .val (.int x1), .val (.int x2), .val (.int x3), .unset, .unset, .unset, .unset, .unset, .unset, .unset, .unset, .unset, .unset, .unset] [] := by first | (simp [entryFrame, mkF, argsToLocals, Value.category, maxLocals]; done) | rfl
set_option maxRecDepth 65536 in
set_option maxHeartbeats 40000000 in
theorem met_law (l : Launch) (Z : State) (a0 : Array Value) (hw : ∀ d ∈ tables_1, d.before a0 Z = true) (EL : List (String × Nat)) (hEL : EW Z a0 EL) (n0 bk : Nat) (h0 : Heap) (hz0 : Z.heap.size ≤ n0) (hn0 : n0 ≤ h0.size) (i0 : Int32) (i1 : Int32) (i2 : Int32) (i3 : Int32) (en : Nat) (tb : Nat) (cz : Nat) (z0 : Int32) (fm : Value) (SB64 : Sta Z Z.heap "java/util/Base64$Encoder" "toBase64URL" "[C" (.ref tb)) (RT0 : Ar Z Z.heap tb .char own_T) (FdoPadding : Fld Z Z.heap en "java/util/Base64$Encoder" "doPadding" "Z" (.int (0 : Int32))) (Flinemax : Fld Z Z.heap en "java/util/Base64$Encoder" "linemax" "I" (.int (-1 : Int32))) (FisURL : Fld Z Z.heap en "java/util/Base64$Encoder" "isURL" "Z" (.int (1 : Int32))) (XE : Exa Z Z.heap en "java/util/Base64$Encoder") (SEN : Sta Z Z.heap "com/example/edgewise/edgewise/OpaqueText" "ENCODER" "Ljava/util/Base64$Encoder;" (.ref en)) (SU : Sta Z Z.heap "sun/nio/cs/UTF_8" "INSTANCE" "Lsun/nio/cs/UTF_8;" (.ref cz)) (SU8 : Sta Z Z.heap "java/nio/charset/StandardCharsets" "UTF_8" "Ljava/nio/charset/Charset;" (.ref cz)) (SC : Sta Z Z.heap "java/lang/String" "COMPACT_STRINGS" "Z" (.int z0)) (hzc : ¬ z0 = 0) (hfm : fm.isRef = true) (SF : Sta Z Z.heap "jdk/internal/util/Preconditions" "SIOOBE_FORMATTER" "Ljava/util/function/BiFunction;" fm) (wS : ∀ a ∈ Bundle.stringAtoms, a.before a0 Z = true) (hmem : ("com/example/edgewise/edgewise/CursorEncodePinLaw", 14) ∈ EL) (hbk : bk ≤ h0.size) : Met l Z EL x code maxLocals ret tables_1 room_1 #[(.int i0), (.int i1), (.int i2), (.int i3)] n0 bk h0 (fun h => h.size) (fun v h => v = some (.int 1)) := by
  refine Met.intro (plainFor_of_name pn_8) (fun m => ef_74 m i0 i1 i2 i3) hz0 hEL ?_
  intro hE0 p e s m below meth c C
  refine C.iloadN 1 at_0 rfl ?_
  refine C.sipush 4 (255 : Int32) at_1 (by decide) ?_
  refine C.iand 5 at_4 ?_
  refine C.i2c 6 at_5 ?_
  obtain ⟨ka, hka, eka⟩ := own_kk i0
  obtain ⟨p0, q0⟩ := own_rng i0
  rw [own_c0 p0 q0, eka]
  refine C.istore 8 (L' := #[.val (.int i0), .val (.int i1), .val (.int i2), .val (.int i3), .val (.int (Int32.ofNat ka)), .unset, .unset, .unset, .unset, .unset, .unset, .unset, .unset, .unset, .unset]) at_6 rfl ?_
  have L19 : ∀ (k0 : Nat), (k0 < 256) → (¬ k0 = 58) → Go p l e room_1 s m #[(.int i0), (.int i1), (.int i2), (.int i3)] below meth c Z x.cls EL n0 (fun h => h.size) (fun v h => v = some (.int 1)) bk h0 0 0 19 #[.val (.int i0), .val (.int i1), .val (.int i2), .val (.int i3), .val (.int (Int32.ofNat k0)), .unset, .unset, .unset, .unset, .unset, .unset, .unset, .unset, .unset, .unset] [] := by
    intro k0 hk0 hn58
    refine C.iloadN 20 at_19 rfl ?_
    refine C.sipush 23 (255 : Int32) at_20 (by decide) ?_
    refine C.iand 24 at_23 ?_
    refine C.i2c 25 at_24 ?_
    obtain ⟨kb, hkb, ekb⟩ := own_kk i1
    obtain ⟨p1, q1⟩ := own_rng i1
    rw [own_c0 p1 q1, ekb]
    refine C.istore 27 (L' := #[.val (.int i0), .val (.int i1), .val (.int i2), .val (.int i3), .val (.int (Int32.ofNat k0)), .val (.int (Int32.ofNat kb)), .unset, .unset, .unset, .unset, .unset, .unset, .unset, .unset, .unset]) at_25 rfl ?_
    refine C.iloadN 28 at_27 rfl ?_
    refine C.sipush 31 (255 : Int32) at_28 (by decide) ?_
    refine C.iand 32 at_31 ?_
    refine C.i2c 33 at_32 ?_
    obtain ⟨kc, hkc, ekc⟩ := own_kk i2
    obtain ⟨p2, q2⟩ := own_rng i2
    rw [own_c0 p2 q2, ekc]
    refine C.istore 35 (L' := #[.val (.int i0), .val (.int i1), .val (.int i2), .val (.int i3), .val (.int (Int32.ofNat k0)), .val (.int (Int32.ofNat kb)), .val (.int (Int32.ofNat kc)), .unset, .unset, .unset, .unset, .unset, .unset, .unset, .unset]) at_33 rfl ?_
    refine C.iloadN 36 at_35 rfl ?_
    refine C.ldcI 38 at_36 (hw _ (List.mem_of_getElem? (i := 0) rfl)) ?_
    refine C.iand 39 at_38 ?_
    refine C.iconst 40 (3 : Int32) at_39 (by decide) ?_
    refine C.irem 41 at_40 (by decide) ?_
    generalize hjj : ((i3 &&& (2147483647 : Int32)) % (3 : Int32)) = jj
    refine C.istore 43 (L' := #[.val (.int i0), .val (.int i1), .val (.int i2), .val (.int i3), .val (.int (Int32.ofNat k0)), .val (.int (Int32.ofNat kb)), .val (.int (Int32.ofNat kc)), .val (.int jj), .unset, .unset, .unset, .unset, .unset, .unset, .unset]) at_41 rfl ?_
    have hj3 := own_m31 i3
    rw [hjj] at hj3
    have r0 := own_kr k0 hk0
    have rb := own_kr kb hkb
    have rc := own_kr kc hkc
    refine C.iload 45 at_43 rfl ?_
    refine C.callS (b := h0.size) 48 [(.int (Int32.ofNat k0))] [] at_45 (met_vo l Z a0 hw EL hEL h0.size bk h0 (by omega) (by omega) _ z0 r0.1 r0.2 SC hzc hbk) (by omega) (Or.inl (Nat.le_refl _)) (hw _ (List.mem_of_getElem? (i := 1) rfl)) (hw _ (List.mem_of_getElem? (i := 2) rfl)) (hw _ (List.mem_of_getElem? (i := 3) rfl)) (hw _ (List.mem_of_getElem? (i := 4) rfl)) (by decide) rfl (lenOf pd__C_rLjava_lang_String rfl) (by decide) (W := 0) (Nat.le_of_eq rfl) (by decide) (by decide) (by decide) rfl ?_
    rintro _ hV KV ⟨cn, rfl, Sc⟩
    have sz_hV : h0.size ≤ hV.size := KV.1
    replace Sc : Str Z hV hV.size cn (own_is [k0]) := Sc
    refine C.astore 50 (L' := #[.val (.int i0), .val (.int i1), .val (.int i2), .val (.int i3), .val (.int (Int32.ofNat k0)), .val (.int (Int32.ofNat kb)), .val (.int (Int32.ofNat kc)), .val (.int jj), .val (.ref cn), .unset, .unset, .unset, .unset, .unset, .unset]) at_48 rfl rfl ?_
    have L100 : ∀ (ky : Nat) (k2 : List Nat) (hh : Heap), (Str Z hh hh.size cn (own_is [k0])) → (Str Z hh hh.size ky (own_is k2)) → (k2 = own_nk jj kb kc) → (h0.size ≤ hh.size) → Go p l e room_1 s m #[(.int i0), (.int i1), (.int i2), (.int i3)] below meth c Z x.cls EL n0 (fun h => h.size) (fun v h => v = some (.int 1)) hh.size hh 6 24 100 #[.val (.int i0), .val (.int i1), .val (.int i2), .val (.int i3), .val (.int (Int32.ofNat k0)), .val (.int (Int32.ofNat kb)), .val (.int (Int32.ofNat kc)), .val (.int jj), .val (.ref cn), .val (.ref ky), .unset, .unset, .unset, .unset, .unset] [] := by
      intro ky k2 hh Sc Sk hk2 szh
      have hl2 : k2.length ≤ 2 := hk2 ▸ own_nkl jj kb kc
      have hr2 : ∀ k ∈ k2, k < 256 := hk2 ▸ own_nkr hkb hkc
      have hul := own_utl (k := k0) hl2
      have u0 := own_u8l k0
      refine C.bipush 102 (7 : Int32) at_100 (by decide) ?_
      refine C.newarr (zn := 7) (cap := 7) 104 at_102 (hw _ (List.mem_of_getElem? (i := 27) rfl)) rfl (by decide) (by decide) rfl (by decide) (by decide) (by decide) ?_
      intro o hO g_o EO R_o
      replace R_o : Ar Z hO o .int (own_pad 7 (own_is [])) := R_o
      have lt_o : o < hO.size := R_o.lt
      have sz_hO : hh.size ≤ hO.size := EO.1
      replace Sc := Sc.ext EO
      replace Sk := Sk.ext EO
      refine C.astore 106 (L' := #[.val (.int i0), .val (.int i1), .val (.int i2), .val (.int i3), .val (.int (Int32.ofNat k0)), .val (.int (Int32.ofNat kb)), .val (.int (Int32.ofNat kc)), .val (.int jj), .val (.ref cn), .val (.ref ky), .val (.ref o), .unset, .unset, .unset, .unset]) at_104 rfl rfl ?_
      refine C.bipush 108 (12 : Int32) at_106 (by decide) ?_
      refine C.newarr (zn := 12) (cap := 12) 110 at_108 (hw _ (List.mem_of_getElem? (i := 28) rfl)) rfl (by decide) (by decide) rfl (by decide) (by decide) (by decide) ?_
      intro r hR g_r ER R_r
      replace R_r : Ar Z hR r .char (own_pad 12 []) := R_r
      have lt_r : r < hR.size := R_r.lt
      have sz_hR : hO.size ≤ hR.size := ER.1
      replace Sc := Sc.ext ER
      replace Sk := Sk.ext ER
      replace R_o := R_o.ext ER
      refine C.astore 112 (L' := #[.val (.int i0), .val (.int i1), .val (.int i2), .val (.int i3), .val (.int (Int32.ofNat k0)), .val (.int (Int32.ofNat kb)), .val (.int (Int32.ofNat kc)), .val (.int jj), .val (.ref cn), .val (.ref ky), .val (.ref o), .val (.ref r), .unset, .unset, .unset]) at_110 rfl rfl ?_
      refine C.aload 114 at_112 rfl rfl ?_
      refine C.iconst 115 (0 : Int32) at_114 (by decide) ?_
      refine C.iload 117 at_115 rfl ?_
      refine C.callS (b := o) 120 [(.ref o), (.int (0 : Int32)), (.int (Int32.ofNat k0))] [] at_117 (met_put l Z a0 hw EL hEL o hh.size hR (by omega) (by omega) o [] k0 R_o (by simp) hk0 (Nat.le_refl _)) (by omega) (Or.inl (Nat.le_refl _)) (hw _ (List.mem_of_getElem? (i := 29) rfl)) (hw _ (List.mem_of_getElem? (i := 30) rfl)) (hw _ (List.mem_of_getElem? (i := 31) rfl)) (hw _ (List.mem_of_getElem? (i := 32) rfl)) (by decide) rfl (lenOf pd__AIIC_rI rfl) (by decide) (W := 0) (Nat.le_of_eq rfl) (by decide) (by decide) (by decide) rfl ?_
      rintro _ hP KP ⟨rfl, Ro2, KoP⟩
      have sz_hP : hR.size ≤ hP.size := KoP.1
      replace Sc := Sc.kp KoP (fun x q => by first | omega | (dsimp only; omega))
      replace Sk := Sk.kp KoP (fun x q => by first | omega | (dsimp only; omega))
      replace R_r := R_r.kp KoP (by first | omega | (dsimp only; omega))
      obtain ⟨y1, ey1⟩ : ∃ y, y = [] ++ own_u8 k0 := ⟨_, rfl⟩
      rw [← ey1] at Ro2
      rw [← ey1]
      replace R_o := Ro2
      have ly1 : y1.length ≤ 2 := by rw [ey1]; simp; omega
      have il1 := own_isl y1
      refine C.istore 122 (L' := #[.val (.int i0), .val (.int i1), .val (.int i2), .val (.int i3), .val (.int (Int32.ofNat k0)), .val (.int (Int32.ofNat kb)), .val (.int (Int32.ofNat kc)), .val (.int jj), .val (.ref cn), .val (.ref ky), .val (.ref o), .val (.ref r), .val (.int (Int32.ofNat y1.length)), .unset, .unset]) at_120 rfl ?_
      refine C.aload 124 at_122 rfl rfl ?_
      refine C.iload 126 at_124 rfl ?_
      refine C.bipush 128 (58 : Int32) at_126 (by decide) ?_
      refine C.iastore 129 y1.length at_128 R_o rfl (by rw [own_padlen (by omega)]; omega) (own_fiti _) (by omega) (Or.inr (Or.inr ⟨_, _, R_o, by decide⟩)) ?_
      intro hQ WQ NQ
      have sz_hQ : hP.size ≤ hQ.size := (Nat.le_of_eq WQ.size.symm)
      replace Sc := Sc.wr WQ (by first | omega | (dsimp only; omega))
      replace Sk := Sk.wr WQ (by first | omega | (dsimp only; omega))
      replace R_r := R_r.other WQ (by first | omega | (dsimp only; omega))
      replace R_o : Ar Z hQ o .int (own_pad 7 (own_is (y1 ++ [58]))) := (by have q := NQ; rw [own_padset il1.symm (by omega)] at q; rw [own_isa]; exact q)
      refine C.iload 131 at_129 rfl ?_
      refine C.iconst 132 (1 : Int32) at_131 (by decide) ?_
      refine C.iadd 133 at_132 ?_
      rw [own_succ, show y1.length + 1 = (y1 ++ [58]).length by simp]
      refine C.istore 135 (L' := #[.val (.int i0), .val (.int i1), .val (.int i2), .val (.int i3), .val (.int (Int32.ofNat k0)), .val (.int (Int32.ofNat kb)), .val (.int (Int32.ofNat kc)), .val (.int jj), .val (.ref cn), .val (.ref ky), .val (.ref o), .val (.ref r), .val (.int (Int32.ofNat (y1 ++ [58]).length)), .unset, .unset]) at_133 rfl ?_
      have L169 : ∀ (ys : List Nat) (hb_ : Heap), (Ar Z hb_ o .int (own_pad 7 (own_is ys))) → (Ar Z hb_ r .char (own_pad 12 [])) → (Str Z hb_ hh.size cn (own_is [k0])) → (Str Z hb_ hh.size ky (own_is k2)) → (hR.size ≤ hb_.size) → (ys = own_utf ([k0] ++ 58 :: k2)) → Go p l e room_1 s m #[(.int i0), (.int i1), (.int i2), (.int i3)] below meth c Z x.cls EL n0 (fun h => h.size) (fun v h => v = some (.int 1)) hh.size hb_ 8 43 169 #[.val (.int i0), .val (.int i1), .val (.int i2), .val (.int i3), .val (.int (Int32.ofNat k0)), .val (.int (Int32.ofNat kb)), .val (.int (Int32.ofNat kc)), .val (.int jj), .val (.ref cn), .val (.ref ky), .val (.ref o), .val (.ref r), .val (.int (Int32.ofNat ys.length)), .unset, .unset] [] := by
        intro ys hb_ R_o R_r Sc Sk szb hys
        refine C.iconst 170 (0 : Int32) at_169 (by decide) ?_
        have hyl : ys.length ≤ 7 := by rw [hys]; exact hul
        have hyr : ∀ x ∈ ys, x < 256 := by rw [hys]; exact own_utfr (fun k hk => by simp at hk; rcases hk with rfl | rfl | hk; exact hk0; decide; exact hr2 k hk)
        have lo_ : (_ : Nat) < _ := R_o.lt
        have lr_ : (_ : Nat) < _ := R_r.lt
        refine C.istore 172 (L' := #[.val (.int i0), .val (.int i1), .val (.int i2), .val (.int i3), .val (.int (Int32.ofNat k0)), .val (.int (Int32.ofNat kb)), .val (.int (Int32.ofNat kc)), .val (.int jj), .val (.ref cn), .val (.ref ky), .val (.ref o), .val (.ref r), .val (.int (Int32.ofNat ys.length)), .val (.int (0 : Int32)), .unset]) at_170 rfl ?_
        refine C.aload 174 at_172 rfl rfl ?_
        refine C.iload 176 at_174 rfl ?_
        refine C.iconst 177 (0 : Int32) at_176 (by decide) ?_
        refine C.aload 179 at_177 rfl rfl ?_
        refine C.iload 181 at_179 rfl ?_
        refine C.callS (b := r) 184 [(.ref o), (.int (Int32.ofNat ys.length)), (.int (0 : Int32)), (.ref r), (.int (0 : Int32))] [] at_181 (met_grp l Z a0 hw EL hEL r hh.size hb_ (by omega) (by omega) o r ys 0 ([] : List Int32) _ R_o R_r hyl hyr (by decide) rfl (by simp) (by omega) (Nat.le_refl _)) (by omega) (Or.inl (Nat.le_refl _)) (hw _ (List.mem_of_getElem? (i := 33) rfl)) (hw _ (List.mem_of_getElem? (i := 34) rfl)) (hw _ (List.mem_of_getElem? (i := 31) rfl)) (hw _ (List.mem_of_getElem? (i := 35) rfl)) (by decide) rfl (lenOf pd__AIIIACI_rI rfl) (by decide) (W := 0) (Nat.le_of_eq rfl) (by decide) (by decide) (by decide) rfl ?_
        rintro _ hg0 Kg0 ⟨rfl, Rr2, Kg0⟩
        have sz_hg0 : hb_.size ≤ hg0.size := Kg0.1
        replace Sc := Sc.kp Kg0 (fun x q => by first | omega | (dsimp only; omega))
        replace Sk := Sk.kp Kg0 (fun x q => by first | omega | (dsimp only; omega))
        replace R_o := R_o.kp Kg0 (by first | omega | (dsimp only; omega))
        obtain ⟨z1, ez1⟩ : ∃ y, y = ([] : List Int32) ++ own_b64 ((ys.drop 0).take 3) := ⟨_, rfl⟩
        rw [← ez1] at Rr2
        rw [← ez1]
        replace R_r := Rr2
        have lz1 : z1.length ≤ ([] : List Int32).length + 4 := by rw [ez1, List.length_append]; have := own_b64l3 ys 0; omega
        have l0z : ([] : List Int32).length = 0 := rfl
        refine C.istore 186 (L' := #[.val (.int i0), .val (.int i1), .val (.int i2), .val (.int i3), .val (.int (Int32.ofNat k0)), .val (.int (Int32.ofNat kb)), .val (.int (Int32.ofNat kc)), .val (.int jj), .val (.ref cn), .val (.ref ky), .val (.ref o), .val (.ref r), .val (.int (Int32.ofNat ys.length)), .val (.int (Int32.ofNat z1.length)), .unset]) at_184 rfl ?_
        refine C.aload 188 at_186 rfl rfl ?_
        refine C.iload 190 at_188 rfl ?_
        refine C.iconst 191 (3 : Int32) at_190 (by decide) ?_
        refine C.aload 193 at_191 rfl rfl ?_
        refine C.iload 195 at_193 rfl ?_
        refine C.callS (b := r) 198 [(.ref o), (.int (Int32.ofNat ys.length)), (.int (3 : Int32)), (.ref r), (.int (Int32.ofNat z1.length))] [] at_195 (met_grp l Z a0 hw EL hEL r hh.size hg0 (by omega) (by omega) o r ys 3 z1 _ R_o R_r hyl hyr (by decide) rfl (by omega) (by omega) (Nat.le_refl _)) (by omega) (Or.inl (Nat.le_refl _)) (hw _ (List.mem_of_getElem? (i := 33) rfl)) (hw _ (List.mem_of_getElem? (i := 34) rfl)) (hw _ (List.mem_of_getElem? (i := 31) rfl)) (hw _ (List.mem_of_getElem? (i := 35) rfl)) (by decide) rfl (lenOf pd__AIIIACI_rI rfl) (by decide) (W := 0) (Nat.le_of_eq rfl) (by decide) (by decide) (by decide) rfl ?_
        rintro _ hg1 Kg1 ⟨rfl, Rr2, Kg1⟩
        have sz_hg1 : hg0.size ≤ hg1.size := Kg1.1
        replace Sc := Sc.kp Kg1 (fun x q => by first | omega | (dsimp only; omega))
        replace Sk := Sk.kp Kg1 (fun x q => by first | omega | (dsimp only; omega))
        replace R_o := R_o.kp Kg1 (by first | omega | (dsimp only; omega))
        obtain ⟨z2, ez2⟩ : ∃ y, y = z1 ++ own_b64 ((ys.drop 3).take 3) := ⟨_, rfl⟩
        rw [← ez2] at Rr2
        rw [← ez2]
        replace R_r := Rr2
        have lz2 : z2.length ≤ z1.length + 4 := by rw [ez2, List.length_append]; have := own_b64l3 ys 3; omega
        refine C.istore 200 (L' := #[.val (.int i0), .val (.int i1), .val (.int i2), .val (.int i3), .val (.int (Int32.ofNat k0)), .val (.int (Int32.ofNat kb)), .val (.int (Int32.ofNat kc)), .val (.int jj), .val (.ref cn), .val (.ref ky), .val (.ref o), .val (.ref r), .val (.int (Int32.ofNat ys.length)), .val (.int (Int32.ofNat z2.length)), .unset]) at_198 rfl ?_
        refine C.aload 202 at_200 rfl rfl ?_
        refine C.iload 204 at_202 rfl ?_
        refine C.bipush 206 (6 : Int32) at_204 (by decide) ?_
        refine C.aload 208 at_206 rfl rfl ?_
        refine C.iload 210 at_208 rfl ?_
        refine C.callS (b := r) 213 [(.ref o), (.int (Int32.ofNat ys.length)), (.int (6 : Int32)), (.ref r), (.int (Int32.ofNat z2.length))] [] at_210 (met_grp l Z a0 hw EL hEL r hh.size hg1 (by omega) (by omega) o r ys 6 z2 _ R_o R_r hyl hyr (by decide) rfl (by omega) (by omega) (Nat.le_refl _)) (by omega) (Or.inl (Nat.le_refl _)) (hw _ (List.mem_of_getElem? (i := 33) rfl)) (hw _ (List.mem_of_getElem? (i := 34) rfl)) (hw _ (List.mem_of_getElem? (i := 31) rfl)) (hw _ (List.mem_of_getElem? (i := 35) rfl)) (by decide) rfl (lenOf pd__AIIIACI_rI rfl) (by decide) (W := 0) (Nat.le_of_eq rfl) (by decide) (by decide) (by decide) rfl ?_
        rintro _ hg2 Kg2 ⟨rfl, Rr2, Kg2⟩
        have sz_hg2 : hg1.size ≤ hg2.size := Kg2.1
        replace Sc := Sc.kp Kg2 (fun x q => by first | omega | (dsimp only; omega))
        replace Sk := Sk.kp Kg2 (fun x q => by first | omega | (dsimp only; omega))
        replace R_o := R_o.kp Kg2 (by first | omega | (dsimp only; omega))
        obtain ⟨z3, ez3⟩ : ∃ y, y = z2 ++ own_b64 ((ys.drop 6).take 3) := ⟨_, rfl⟩
        rw [← ez3] at Rr2
        rw [← ez3]
        replace R_r := Rr2
        have lz3 : z3.length ≤ z2.length + 4 := by rw [ez3, List.length_append]; have := own_b64l3 ys 6; omega
        refine C.istore 215 (L' := #[.val (.int i0), .val (.int i1), .val (.int i2), .val (.int i3), .val (.int (Int32.ofNat k0)), .val (.int (Int32.ofNat kb)), .val (.int (Int32.ofNat kc)), .val (.int jj), .val (.ref cn), .val (.ref ky), .val (.ref o), .val (.ref r), .val (.int (Int32.ofNat ys.length)), .val (.int (Int32.ofNat z3.length)), .unset]) at_213 rfl ?_
        have fin : z3 = own_b64 (own_utf ([k0] ++ 58 :: k2)) := by rw [ez3, ez2, ez1, ← hys]; exact own_grp hyl
        have lz3 : z3.length ≤ 10 := by rw [fin, own_bl, ← hys]; exact own_ol10 _ (by omega)
        refine C.newo 218 at_215 (hw _ (List.mem_of_getElem? (i := 39) rfl)) (hw _ (List.mem_of_getElem? (i := 40) rfl)) (hw _ (List.mem_of_getElem? (i := 41) rfl)) (by decide) (by decide) ?_
        intro cu hU g_cu EU X_cu DU
        have lt_cu : cu < hU.size := X_cu.lt
        have sz_hU : hg2.size ≤ hU.size := EU.1
        replace Sc := Sc.ext EU
        replace Sk := Sk.ext EU
        replace R_o := R_o.ext EU
        replace R_r := R_r.ext EU
        have F1 : Fld Z hU cu "com/example/edgewise/edgewise/Cursor" "connection" "Ljava/lang/String;" .null := DU (Or.inr (hw _ (List.mem_of_getElem? (i := 106) rfl))) (ty := (.object "java/lang/String")) (by decide)
        have F2 : Fld Z hU cu "com/example/edgewise/edgewise/Cursor" "key" "Ljava/lang/String;" .null := DU (Or.inr (hw _ (List.mem_of_getElem? (i := 108) rfl))) (ty := (.object "java/lang/String")) (by decide)
        refine C.dup 219 at_218 rfl ?_
        refine C.aload 221 at_219 rfl rfl ?_
        refine C.aload 223 at_221 rfl rfl ?_
        refine C.callI (b := cu) 226 [(.ref cn), (.ref ky)] [(.ref cu)] at_223 (met_cui l Z a0 hw EL hEL cu hh.size hU (by omega) (by omega) cu cn ky hh.size (own_is [k0]) z0 X_cu F1 F2 (by omega) Sc (by omega) (by simp) (fun z => by simp at z; exact hn58 ((own_ofNat (show 58 < 2147483648 by decide) (by omega)).1.mp z).symm) SC hzc wS) rfl (by omega) (Or.inl (Nat.le_refl _)) (hw _ (List.mem_of_getElem? (i := 42) rfl)) (hw _ (List.mem_of_getElem? (i := 43) rfl)) (hw _ (List.mem_of_getElem? (i := 41) rfl)) (hw _ (List.mem_of_getElem? (i := 44) rfl)) (by decide) rfl (lenOf pd__Ljava_lang_StringLjava_lang_String_rV rfl) (by decide) (W := 1) (Nat.le_of_eq rfl) (by decide) (by decide) (by decide) rfl ?_
        rintro _ hJ KJ ⟨rfl, Ku, X2, G1, G2⟩
        refine Go.rebk hJ.size rfl ?_
        have sz_hJ : hU.size ≤ hJ.size := Ku.1
        replace Sc := Sc.kp Ku (fun x q => by first | omega | (dsimp only; omega))
        replace Sk := Sk.kp Ku (fun x q => by first | omega | (dsimp only; omega))
        replace R_o := R_o.kp Ku (by first | omega | (dsimp only; omega))
        replace R_r := R_r.kp Ku (by first | omega | (dsimp only; omega))
        have ltu : (_ : Nat) < _ := X2.lt
        refine C.callV (b := hJ.size) 229 [] [] at_226 (met_cue l Z a0 hw EL hEL hJ.size hJ.size hJ (by omega) (by omega) cu cn ky hh.size [k0] k2 en tb cz z0 fm G1 G2 Sc Sk (by omega) ltu (by simp) hl2 (fun k hk => by simp at hk; rcases hk with rfl | rfl | hk; exact hk0; decide; exact hr2 k hk) hul (by omega) SB64 RT0 FdoPadding Flinemax FisURL XE SEN SU SU8 SC hzc hfm SF) X2 (by omega) (Or.inr (Nat.le_refl _)) (hw _ (List.mem_of_getElem? (i := 109) rfl)) (hw _ (List.mem_of_getElem? (i := 110) rfl)) (hw _ (List.mem_of_getElem? (i := 112) rfl)) (hw _ (List.mem_of_getElem? (i := 111) rfl)) (hw _ (List.mem_of_getElem? (i := 41) rfl)) (hw _ (List.mem_of_getElem? (i := 113) rfl)) (fun hZ => notFace_of_selects (args := #[]) (mvT hZ (hw _ (List.mem_of_getElem? (i := 112) rfl)))) (by decide) rfl (lenOf pd___rLjava_lang_String rfl) (by decide) (W := 0) (Nat.le_of_eq rfl) (by decide) (by decide) (by decide) rfl ?_
        rintro _ hK KK ⟨g, rfl, Sg⟩
        have sz_hK : hJ.size ≤ hK.size := KK.1
        replace R_r := R_r.kp KK (by first | omega | (dsimp only; omega))
        rw [← fin] at Sg
        refine C.astore 231 (L' := #[.val (.int i0), .val (.int i1), .val (.int i2), .val (.int i3), .val (.int (Int32.ofNat k0)), .val (.int (Int32.ofNat kb)), .val (.int (Int32.ofNat kc)), .val (.int jj), .val (.ref cn), .val (.ref ky), .val (.ref o), .val (.ref r), .val (.int (Int32.ofNat ys.length)), .val (.int (Int32.ofNat z3.length)), .val (.ref g)]) at_229 rfl rfl ?_
        refine C.aload 233 at_231 rfl rfl ?_
        refine C.nullN 236 at_233 rfl ?_
        refine C.aload 238 at_236 rfl rfl ?_
        refine C.callV (b := hK.size) 241 [] [] at_238 (met_len l Z a0 hw EL hEL hK.size hJ.size hK (by omega) (by omega) g _ z3 z0 Sg SC hzc) Sg.exa (by omega) (Or.inl (Nat.le_refl _)) (hw _ (List.mem_of_getElem? (i := 314) rfl)) (hw _ (List.mem_of_getElem? (i := 80) rfl)) (hw _ (List.mem_of_getElem? (i := 82) rfl)) (hw _ (List.mem_of_getElem? (i := 81) rfl)) (hw _ (List.mem_of_getElem? (i := 3) rfl)) (hw _ (List.mem_of_getElem? (i := 83) rfl)) (fun hZ => notFace_of_selects (args := #[]) (mvT hZ (hw _ (List.mem_of_getElem? (i := 82) rfl)))) (by decide) rfl (lenOf pd___rI rfl) (by decide) (W := 0) (Nat.le_of_eq rfl) (by decide) (by decide) (by decide) rfl ?_
        rintro _ h238_13 K238_13 ⟨rfl, rfl⟩
        refine C.iload 243 at_241 rfl ?_
        refine C.icY 248 at_243 (by decide) (by decide) (XT.ii_eq_t (show (Int32.ofNat z3.length) = (Int32.ofNat z3.length) from rfl)) ?_
        refine C.aload 250 at_248 rfl rfl ?_
        refine C.aload 252 at_250 rfl rfl ?_
        refine C.iconst 253 (0 : Int32) at_252 (by decide) ?_
        refine C.iload 255 at_253 rfl ?_
        refine C.callS (b := hK.size) 258 [(.ref g), (.ref r), (.int (0 : Int32)), (.int (Int32.ofNat z3.length))] [] at_255 (met_eqa l Z a0 hw EL hEL hK.size hJ.size hK (by omega) (by omega) g r _ z3 _ 0 z0 fm Sg R_r rfl (by decide) (by omega) SC hzc hfm SF) (by omega) (Or.inl (Nat.le_refl _)) (hw _ (List.mem_of_getElem? (i := 315) rfl)) (hw _ (List.mem_of_getElem? (i := 316) rfl)) (hw _ (List.mem_of_getElem? (i := 31) rfl)) (hw _ (List.mem_of_getElem? (i := 317) rfl)) (by decide) rfl (lenOf pd__Ljava_lang_StringACII_rZ rfl) (by decide) (W := 0) (Nat.le_of_eq rfl) (by decide) (by decide) (by decide) rfl ?_
        rintro _ h255_14 K255_14 ⟨rfl, rfl⟩
        refine C.ifN 261 at_258 rfl (XT.i0_eq_f (show ¬ ((1 : Int32) = 0) from (by decide))) ?_
        refine C.aload 263 at_261 rfl rfl ?_
        refine C.aload 265 at_263 rfl rfl ?_
        refine C.iconst 266 (1 : Int32) at_265 (by decide) ?_
        refine C.iload 268 at_266 rfl ?_
        refine C.callS (b := hK.size) 271 [(.ref g), (.ref r), (.int (1 : Int32)), (.int (Int32.ofNat z3.length))] [] at_268 (met_eqa l Z a0 hw EL hEL hK.size hJ.size hK (by omega) (by omega) g r _ z3 _ 1 z0 fm Sg R_r rfl (by decide) (by omega) SC hzc hfm SF) (by omega) (Or.inl (Nat.le_refl _)) (hw _ (List.mem_of_getElem? (i := 315) rfl)) (hw _ (List.mem_of_getElem? (i := 316) rfl)) (hw _ (List.mem_of_getElem? (i := 31) rfl)) (hw _ (List.mem_of_getElem? (i := 317) rfl)) (by decide) rfl (lenOf pd__Ljava_lang_StringACII_rZ rfl) (by decide) (W := 0) (Nat.le_of_eq rfl) (by decide) (by decide) (by decide) rfl ?_
        rintro _ h268_15 K268_15 ⟨rfl, rfl⟩
        refine C.ifN 274 at_271 rfl (XT.i0_eq_f (show ¬ ((1 : Int32) = 0) from (by decide))) ?_
        refine C.aload 276 at_274 rfl rfl ?_
        refine C.aload 278 at_276 rfl rfl ?_
        refine C.iconst 279 (2 : Int32) at_278 (by decide) ?_
        refine C.iload 281 at_279 rfl ?_
        refine C.callS (b := hK.size) 284 [(.ref g), (.ref r), (.int (2 : Int32)), (.int (Int32.ofNat z3.length))] [] at_281 (met_eqa l Z a0 hw EL hEL hK.size hJ.size hK (by omega) (by omega) g r _ z3 _ 2 z0 fm Sg R_r rfl (by decide) (by omega) SC hzc hfm SF) (by omega) (Or.inl (Nat.le_refl _)) (hw _ (List.mem_of_getElem? (i := 315) rfl)) (hw _ (List.mem_of_getElem? (i := 316) rfl)) (hw _ (List.mem_of_getElem? (i := 31) rfl)) (hw _ (List.mem_of_getElem? (i := 317) rfl)) (by decide) rfl (lenOf pd__Ljava_lang_StringACII_rZ rfl) (by decide) (W := 0) (Nat.le_of_eq rfl) (by decide) (by decide) (by decide) rfl ?_
        rintro _ h281_16 K281_16 ⟨rfl, rfl⟩
        refine C.ifN 287 at_284 rfl (XT.i0_eq_f (show ¬ ((1 : Int32) = 0) from (by decide))) ?_
        refine C.aload 289 at_287 rfl rfl ?_
        refine C.aload 291 at_289 rfl rfl ?_
        refine C.iconst 292 (3 : Int32) at_291 (by decide) ?_
        refine C.iload 294 at_292 rfl ?_
        refine C.callS (b := hK.size) 297 [(.ref g), (.ref r), (.int (3 : Int32)), (.int (Int32.ofNat z3.length))] [] at_294 (met_eqa l Z a0 hw EL hEL hK.size hJ.size hK (by omega) (by omega) g r _ z3 _ 3 z0 fm Sg R_r rfl (by decide) (by omega) SC hzc hfm SF) (by omega) (Or.inl (Nat.le_refl _)) (hw _ (List.mem_of_getElem? (i := 315) rfl)) (hw _ (List.mem_of_getElem? (i := 316) rfl)) (hw _ (List.mem_of_getElem? (i := 31) rfl)) (hw _ (List.mem_of_getElem? (i := 317) rfl)) (by decide) rfl (lenOf pd__Ljava_lang_StringACII_rZ rfl) (by decide) (W := 0) (Nat.le_of_eq rfl) (by decide) (by decide) (by decide) rfl ?_
        rintro _ h294_17 K294_17 ⟨rfl, rfl⟩
        refine C.ifN 300 at_297 rfl (XT.i0_eq_f (show ¬ ((1 : Int32) = 0) from (by decide))) ?_
        refine C.aload 302 at_300 rfl rfl ?_
        refine C.aload 304 at_302 rfl rfl ?_
        refine C.iconst 305 (4 : Int32) at_304 (by decide) ?_
        refine C.iload 307 at_305 rfl ?_
        refine C.callS (b := hK.size) 310 [(.ref g), (.ref r), (.int (4 : Int32)), (.int (Int32.ofNat z3.length))] [] at_307 (met_eqa l Z a0 hw EL hEL hK.size hJ.size hK (by omega) (by omega) g r _ z3 _ 4 z0 fm Sg R_r rfl (by decide) (by omega) SC hzc hfm SF) (by omega) (Or.inl (Nat.le_refl _)) (hw _ (List.mem_of_getElem? (i := 315) rfl)) (hw _ (List.mem_of_getElem? (i := 316) rfl)) (hw _ (List.mem_of_getElem? (i := 31) rfl)) (hw _ (List.mem_of_getElem? (i := 317) rfl)) (by decide) rfl (lenOf pd__Ljava_lang_StringACII_rZ rfl) (by decide) (W := 0) (Nat.le_of_eq rfl) (by decide) (by decide) (by decide) rfl ?_
        rintro _ h307_18 K307_18 ⟨rfl, rfl⟩
        refine C.ifN 313 at_310 rfl (XT.i0_eq_f (show ¬ ((1 : Int32) = 0) from (by decide))) ?_
        refine C.aload 315 at_313 rfl rfl ?_
        refine C.aload 317 at_315 rfl rfl ?_
        refine C.iconst 318 (5 : Int32) at_317 (by decide) ?_
        refine C.iload 320 at_318 rfl ?_
        refine C.callS (b := hK.size) 323 [(.ref g), (.ref r), (.int (5 : Int32)), (.int (Int32.ofNat z3.length))] [] at_320 (met_eqa l Z a0 hw EL hEL hK.size hJ.size hK (by omega) (by omega) g r _ z3 _ 5 z0 fm Sg R_r rfl (by decide) (by omega) SC hzc hfm SF) (by omega) (Or.inl (Nat.le_refl _)) (hw _ (List.mem_of_getElem? (i := 315) rfl)) (hw _ (List.mem_of_getElem? (i := 316) rfl)) (hw _ (List.mem_of_getElem? (i := 31) rfl)) (hw _ (List.mem_of_getElem? (i := 317) rfl)) (by decide) rfl (lenOf pd__Ljava_lang_StringACII_rZ rfl) (by decide) (W := 0) (Nat.le_of_eq rfl) (by decide) (by decide) (by decide) rfl ?_
        rintro _ h320_19 K320_19 ⟨rfl, rfl⟩
        refine C.ifN 326 at_323 rfl (XT.i0_eq_f (show ¬ ((1 : Int32) = 0) from (by decide))) ?_
        refine C.aload 328 at_326 rfl rfl ?_
        refine C.aload 330 at_328 rfl rfl ?_
        refine C.bipush 332 (6 : Int32) at_330 (by decide) ?_
        refine C.iload 334 at_332 rfl ?_
        refine C.callS (b := hK.size) 337 [(.ref g), (.ref r), (.int (6 : Int32)), (.int (Int32.ofNat z3.length))] [] at_334 (met_eqa l Z a0 hw EL hEL hK.size hJ.size hK (by omega) (by omega) g r _ z3 _ 6 z0 fm Sg R_r rfl (by decide) (by omega) SC hzc hfm SF) (by omega) (Or.inl (Nat.le_refl _)) (hw _ (List.mem_of_getElem? (i := 315) rfl)) (hw _ (List.mem_of_getElem? (i := 316) rfl)) (hw _ (List.mem_of_getElem? (i := 31) rfl)) (hw _ (List.mem_of_getElem? (i := 317) rfl)) (by decide) rfl (lenOf pd__Ljava_lang_StringACII_rZ rfl) (by decide) (W := 0) (Nat.le_of_eq rfl) (by decide) (by decide) (by decide) rfl ?_
        rintro _ h334_20 K334_20 ⟨rfl, rfl⟩
        refine C.ifN 340 at_337 rfl (XT.i0_eq_f (show ¬ ((1 : Int32) = 0) from (by decide))) ?_
        refine C.aload 342 at_340 rfl rfl ?_
        refine C.aload 344 at_342 rfl rfl ?_
        refine C.bipush 346 (7 : Int32) at_344 (by decide) ?_
        refine C.iload 348 at_346 rfl ?_
        refine C.callS (b := hK.size) 351 [(.ref g), (.ref r), (.int (7 : Int32)), (.int (Int32.ofNat z3.length))] [] at_348 (met_eqa l Z a0 hw EL hEL hK.size hJ.size hK (by omega) (by omega) g r _ z3 _ 7 z0 fm Sg R_r rfl (by decide) (by omega) SC hzc hfm SF) (by omega) (Or.inl (Nat.le_refl _)) (hw _ (List.mem_of_getElem? (i := 315) rfl)) (hw _ (List.mem_of_getElem? (i := 316) rfl)) (hw _ (List.mem_of_getElem? (i := 31) rfl)) (hw _ (List.mem_of_getElem? (i := 317) rfl)) (by decide) rfl (lenOf pd__Ljava_lang_StringACII_rZ rfl) (by decide) (W := 0) (Nat.le_of_eq rfl) (by decide) (by decide) (by decide) rfl ?_
        rintro _ h348_21 K348_21 ⟨rfl, rfl⟩
        refine C.ifN 354 at_351 rfl (XT.i0_eq_f (show ¬ ((1 : Int32) = 0) from (by decide))) ?_
        refine C.aload 356 at_354 rfl rfl ?_
        refine C.aload 358 at_356 rfl rfl ?_
        refine C.bipush 360 (8 : Int32) at_358 (by decide) ?_
        refine C.iload 362 at_360 rfl ?_
        refine C.callS (b := hK.size) 365 [(.ref g), (.ref r), (.int (8 : Int32)), (.int (Int32.ofNat z3.length))] [] at_362 (met_eqa l Z a0 hw EL hEL hK.size hJ.size hK (by omega) (by omega) g r _ z3 _ 8 z0 fm Sg R_r rfl (by decide) (by omega) SC hzc hfm SF) (by omega) (Or.inl (Nat.le_refl _)) (hw _ (List.mem_of_getElem? (i := 315) rfl)) (hw _ (List.mem_of_getElem? (i := 316) rfl)) (hw _ (List.mem_of_getElem? (i := 31) rfl)) (hw _ (List.mem_of_getElem? (i := 317) rfl)) (by decide) rfl (lenOf pd__Ljava_lang_StringACII_rZ rfl) (by decide) (W := 0) (Nat.le_of_eq rfl) (by decide) (by decide) (by decide) rfl ?_
        rintro _ h362_22 K362_22 ⟨rfl, rfl⟩
        refine C.ifN 368 at_365 rfl (XT.i0_eq_f (show ¬ ((1 : Int32) = 0) from (by decide))) ?_
        refine C.aload 370 at_368 rfl rfl ?_
        refine C.aload 372 at_370 rfl rfl ?_
        refine C.bipush 374 (9 : Int32) at_372 (by decide) ?_
        refine C.iload 376 at_374 rfl ?_
        refine C.callS (b := hK.size) 379 [(.ref g), (.ref r), (.int (9 : Int32)), (.int (Int32.ofNat z3.length))] [] at_376 (met_eqa l Z a0 hw EL hEL hK.size hJ.size hK (by omega) (by omega) g r _ z3 _ 9 z0 fm Sg R_r rfl (by decide) (by omega) SC hzc hfm SF) (by omega) (Or.inl (Nat.le_refl _)) (hw _ (List.mem_of_getElem? (i := 315) rfl)) (hw _ (List.mem_of_getElem? (i := 316) rfl)) (hw _ (List.mem_of_getElem? (i := 31) rfl)) (hw _ (List.mem_of_getElem? (i := 317) rfl)) (by decide) rfl (lenOf pd__Ljava_lang_StringACII_rZ rfl) (by decide) (W := 0) (Nat.le_of_eq rfl) (by decide) (by decide) (by decide) rfl ?_
        rintro _ h376_23 K376_23 ⟨rfl, rfl⟩
        refine C.ifN 382 at_379 rfl (XT.i0_eq_f (show ¬ ((1 : Int32) = 0) from (by decide))) ?_
        refine C.iconst 383 (1 : Int32) at_382 (by decide) ?_
        refine C.goto 387 at_383 (by decide) (by decide) ?_
        refine C.retN (t := .boolean) rfl (by simp) at_387 (by decide) (by decide) (Or.inr (Nat.le_refl _)) ?_
        exact rfl
      have L152 : ∀ (ys : List Nat) (hb_ : Heap), (Ar Z hb_ o .int (own_pad 7 (own_is ys))) → (Ar Z hb_ r .char (own_pad 12 [])) → (Str Z hb_ hh.size cn (own_is [k0])) → (Str Z hb_ hh.size ky (own_is k2)) → (hR.size ≤ hb_.size) → (ys = (own_u8 k0 ++ [58]) ++ (if jj < 1 then [] else own_u8 kb)) → Go p l e room_1 s m #[(.int i0), (.int i1), (.int i2), (.int i3)] below meth c Z x.cls EL n0 (fun h => h.size) (fun v h => v = some (.int 1)) hh.size hb_ 8 43 152 #[.val (.int i0), .val (.int i1), .val (.int i2), .val (.int i3), .val (.int (Int32.ofNat k0)), .val (.int (Int32.ofNat kb)), .val (.int (Int32.ofNat kc)), .val (.int jj), .val (.ref cn), .val (.ref ky), .val (.ref o), .val (.ref r), .val (.int (Int32.ofNat ys.length)), .unset, .unset] [] := by
        intro ys hb_ R_o R_r Sc Sk szb hys
        have lys : ys.length ≤ 5 := by rw [hys]; have := own_u8l kb; split <;> simp <;> omega
        refine C.iload 154 at_152 rfl ?_
        refine C.iconst 155 (2 : Int32) at_154 (by decide) ?_
        rcases Decidable.em (jj = (2 : Int32)) with h155 | h155
        · skip
          refine C.icN 158 at_155 rfl (XT.ii_ne_f h155) ?_
          refine C.aload 160 at_158 rfl rfl ?_
          refine C.iload 162 at_160 rfl ?_
          refine C.iload 164 at_162 rfl ?_
          refine C.callS (b := o) 167 [(.ref o), (.int (Int32.ofNat ys.length)), (.int (Int32.ofNat kc))] [] at_164 (met_put l Z a0 hw EL hEL o hh.size hb_ (by omega) (by omega) o ys kc R_o (by omega) hkc (Nat.le_refl _)) (by omega) (Or.inl (Nat.le_refl _)) (hw _ (List.mem_of_getElem? (i := 29) rfl)) (hw _ (List.mem_of_getElem? (i := 30) rfl)) (hw _ (List.mem_of_getElem? (i := 31) rfl)) (hw _ (List.mem_of_getElem? (i := 32) rfl)) (by decide) rfl (lenOf pd__AIIC_rI rfl) (by decide) (W := 0) (Nat.le_of_eq rfl) (by decide) (by decide) (by decide) rfl ?_
          rintro _ hPc KPc ⟨rfl, Ro2, KoPc⟩
          have sz_hPc : hb_.size ≤ hPc.size := KoPc.1
          replace Sc := Sc.kp KoPc (fun x q => by first | omega | (dsimp only; omega))
          replace Sk := Sk.kp KoPc (fun x q => by first | omega | (dsimp only; omega))
          replace R_r := R_r.kp KoPc (by first | omega | (dsimp only; omega))
          obtain ⟨y3, ey3⟩ : ∃ y, y = ys ++ own_u8 kc := ⟨_, rfl⟩
          rw [← ey3] at Ro2
          rw [← ey3]
          replace R_o := Ro2
          refine C.istore 169 (L' := #[.val (.int i0), .val (.int i1), .val (.int i2), .val (.int i3), .val (.int (Int32.ofNat k0)), .val (.int (Int32.ofNat kb)), .val (.int (Int32.ofNat kc)), .val (.int jj), .val (.ref cn), .val (.ref ky), .val (.ref o), .val (.ref r), .val (.int (Int32.ofNat y3.length)), .unset, .unset]) at_167 rfl ?_
          exact L169 y3 hPc R_o R_r Sc Sk (by omega) (by rw [ey3, hys, own_utc, hk2]; exact own_l4 h155)
        · skip
          refine C.icY 169 at_155 (by decide) (by decide) (XT.ii_ne_t h155) ?_
          exact L169 ys hb_ R_o R_r Sc Sk (by omega) (by rw [hys, own_utc, hk2]; exact own_l3 hj3 h155)
      refine C.iload 137 at_135 rfl ?_
      refine C.iconst 138 (1 : Int32) at_137 (by decide) ?_
      rcases Decidable.em (jj < (1 : Int32)) with h138 | h138
      · skip
        refine C.icY 152 at_138 (by decide) (by decide) (XT.ii_lt_t h138) ?_
        exact L152 (y1 ++ [58]) hQ R_o R_r Sc Sk (by omega) (by rw [ey1]; exact own_l1 (u := own_u8 kb) (w := []) h138)
      · skip
        refine C.icN 141 at_138 rfl (XT.ii_lt_f h138) ?_
        refine C.aload 143 at_141 rfl rfl ?_
        refine C.iload 145 at_143 rfl ?_
        refine C.iload 147 at_145 rfl ?_
        refine C.callS (b := o) 150 [(.ref o), (.int (Int32.ofNat (y1 ++ [58]).length)), (.int (Int32.ofNat kb))] [] at_147 (met_put l Z a0 hw EL hEL o hh.size hQ (by omega) (by omega) o (y1 ++ [58]) kb R_o (by simp; omega) hkb (Nat.le_refl _)) (by omega) (Or.inl (Nat.le_refl _)) (hw _ (List.mem_of_getElem? (i := 29) rfl)) (hw _ (List.mem_of_getElem? (i := 30) rfl)) (hw _ (List.mem_of_getElem? (i := 31) rfl)) (hw _ (List.mem_of_getElem? (i := 32) rfl)) (by decide) rfl (lenOf pd__AIIC_rI rfl) (by decide) (W := 0) (Nat.le_of_eq rfl) (by decide) (by decide) (by decide) rfl ?_
        rintro _ hPb KPb ⟨rfl, Ro2, KoPb⟩
        have sz_hPb : hQ.size ≤ hPb.size := KoPb.1
        replace Sc := Sc.kp KoPb (fun x q => by first | omega | (dsimp only; omega))
        replace Sk := Sk.kp KoPb (fun x q => by first | omega | (dsimp only; omega))
        replace R_r := R_r.kp KoPb (by first | omega | (dsimp only; omega))
        obtain ⟨y2, ey2⟩ : ∃ y, y = (y1 ++ [58]) ++ own_u8 kb := ⟨_, rfl⟩
        rw [← ey2] at Ro2
        rw [← ey2]
        replace R_o := Ro2
        refine C.istore 152 (L' := #[.val (.int i0), .val (.int i1), .val (.int i2), .val (.int i3), .val (.int (Int32.ofNat k0)), .val (.int (Int32.ofNat kb)), .val (.int (Int32.ofNat kc)), .val (.int jj), .val (.ref cn), .val (.ref ky), .val (.ref o), .val (.ref r), .val (.int (Int32.ofNat y2.length)), .unset, .unset]) at_150 rfl ?_
        exact L152 y2 hPb R_o R_r Sc Sk (by omega) (by rw [ey2, ey1]; exact own_l2 h138)
    refine C.iload 52 at_50 rfl ?_
    rcases Decidable.em (jj = 0) with h52 | h52
    · skip
      refine C.ifN 55 at_52 rfl (XT.i0_ne_f h52) ?_
      refine C.ldcT (nn := 0) (vs := (([] : List Int32).map own_lo).map Value.int) (z := Int32.ofNat (([] : List Int32).map own_lo).length) 57 at_55 (hw _ (List.mem_of_getElem? (i := 359) rfl)) wS hmem ⟨by decide, by decide⟩ (by decide) (by decide) (by decide) (by decide) (by decide) (by decide) ?_
      intro ky tT kbT hT ET AT BT VT WT
      have sz_hT : hV.size ≤ hT.size := ET.1
      replace Sc := Sc.ext ET
      have ST : Str Z hT hT.size ky [] := Str.lit AT BT VT WT (by decide) (by decide)
      refine C.astore 59 (L' := #[.val (.int i0), .val (.int i1), .val (.int i2), .val (.int i3), .val (.int (Int32.ofNat k0)), .val (.int (Int32.ofNat kb)), .val (.int (Int32.ofNat kc)), .val (.int jj), .val (.ref cn), .val (.ref ky), .unset, .unset, .unset, .unset, .unset]) at_57 rfl rfl ?_
      refine C.goto 100 at_59 (by decide) (by decide) ?_
      refine Go.more 6 24 (by decide) (by decide) ?_
      exact L100 ky [] hT (Sc.mono (by omega)) ST (by rw [own_nk, if_pos h52]) (by omega)
    · skip
      refine C.ifY 62 at_52 (by decide) (by decide) (XT.i0_ne_t h52) ?_
      refine C.iload 64 at_62 rfl ?_
      refine C.iconst 65 (1 : Int32) at_64 (by decide) ?_
      rcases Decidable.em (jj = (1 : Int32)) with h65 | h65
      · skip
        refine C.icN 68 at_65 rfl (XT.ii_ne_f h65) ?_
        refine C.iload 70 at_68 rfl ?_
        refine C.callS (b := hV.size) 73 [(.int (Int32.ofNat kb))] [] at_70 (met_vo l Z a0 hw EL hEL hV.size bk hV (by omega) (by omega) _ z0 rb.1 rb.2 SC hzc (by omega)) (by omega) (Or.inl (Nat.le_refl _)) (hw _ (List.mem_of_getElem? (i := 1) rfl)) (hw _ (List.mem_of_getElem? (i := 2) rfl)) (hw _ (List.mem_of_getElem? (i := 3) rfl)) (hw _ (List.mem_of_getElem? (i := 4) rfl)) (by decide) rfl (lenOf pd__C_rLjava_lang_String rfl) (by decide) (W := 0) (Nat.le_of_eq rfl) (by decide) (by decide) (by decide) rfl ?_
        rintro _ hW KW ⟨ky, rfl, Sk⟩
        have sz_hW : hV.size ≤ hW.size := KW.1
        replace Sc := Sc.kp KW (fun x q => by first | omega | (dsimp only; omega))
        refine C.astore 75 (L' := #[.val (.int i0), .val (.int i1), .val (.int i2), .val (.int i3), .val (.int (Int32.ofNat k0)), .val (.int (Int32.ofNat kb)), .val (.int (Int32.ofNat kc)), .val (.int jj), .val (.ref cn), .val (.ref ky), .unset, .unset, .unset, .unset, .unset]) at_73 rfl rfl ?_
        refine C.goto 100 at_75 (by decide) (by decide) ?_
        refine Go.upbk hW.size (Or.inr (Nat.le_refl _)) ?_
        refine Go.more 6 24 (by decide) (by decide) ?_
        exact L100 ky [kb] hW (Sc.mono (by omega)) Sk (by rw [own_nk, if_neg h52, if_pos h65]) (by omega)
      · skip
        refine C.icY 78 at_65 (by decide) (by decide) (XT.ii_ne_t h65) ?_
        refine C.newo 81 at_78 (hw _ (List.mem_of_getElem? (i := 343) rfl)) (hw _ (List.mem_of_getElem? (i := 11) rfl)) (hw _ (List.mem_of_getElem? (i := 3) rfl)) (by decide) (by decide) ?_
        intro ky hN g_ky EN X_ky DN
        have lt_ky : ky < hN.size := X_ky.lt
        have sz_hN : hV.size ≤ hN.size := EN.1
        replace Sc := Sc.ext EN
        have FV : Fld Z hN ky "java/lang/String" "value" "[B" .null := DN (Or.inr (hw _ (List.mem_of_getElem? (i := 24) rfl))) (ty := (.array .byte)) (by decide)
        have FC : Fld Z hN ky "java/lang/String" "coder" "B" (.int (0 : Int32)) := DN (Or.inr (hw _ (List.mem_of_getElem? (i := 26) rfl))) (ty := .byte) (by decide)
        refine C.dup 82 at_81 rfl ?_
        refine C.iconst 83 (2 : Int32) at_82 (by decide) ?_
        refine C.newarr (zn := 2) (cap := 2) 85 at_83 (hw _ (List.mem_of_getElem? (i := 28) rfl)) rfl (by decide) (by decide) rfl (by decide) (by decide) (by decide) ?_
        intro ac hA g_ac EA R_ac
        replace R_ac : Ar Z hA ac .char [0, 0] := R_ac
        have lt_ac : ac < hA.size := R_ac.lt
        have sz_hA : hN.size ≤ hA.size := EA.1
        replace Sc := Sc.ext EA
        replace X_ky := X_ky.ext EA
        replace FV := FV.ext EA
        replace FC := FC.ext EA
        refine C.dup 86 at_85 rfl ?_
        refine C.iconst 87 (0 : Int32) at_86 (by decide) ?_
        refine C.iload 89 at_87 rfl ?_
        refine C.castore 90 0 at_89 R_ac rfl (by simp) (by rw [show nar .char (Int32.ofNat kb) = (Int32.ofNat kb) from own_c0 rb.1 rb.2]; exact own_fitc rb.1 rb.2) (by omega) (Or.inr (Or.inr ⟨_, _, R_ac, by decide⟩)) ?_
        intro h89_30 W89_30 N89_30
        have sz_h89_30 : hA.size ≤ h89_30.size := (Nat.le_of_eq W89_30.size.symm)
        replace Sc := Sc.wr W89_30 (by first | omega | (dsimp only; omega))
        replace X_ky := X_ky.wr W89_30
        replace FV := FV.other W89_30 (Or.inl (show (_ : Nat) ≠ _ by omega))
        replace FC := FC.other W89_30 (Or.inl (show (_ : Nat) ≠ _ by omega))
        replace R_ac : Ar Z h89_30 ac .char [Int32.ofNat kb, 0] := (by have q := N89_30; rw [show nar .char (Int32.ofNat kb) = (Int32.ofNat kb) from own_c0 rb.1 rb.2] at q; exact q)
        refine C.dup 91 at_90 rfl ?_
        refine C.iconst 92 (1 : Int32) at_91 (by decide) ?_
        refine C.iload 94 at_92 rfl ?_
        refine C.castore 95 1 at_94 R_ac rfl (by simp) (by rw [show nar .char (Int32.ofNat kc) = (Int32.ofNat kc) from own_c0 rc.1 rc.2]; exact own_fitc rc.1 rc.2) (by omega) (Or.inr (Or.inr ⟨_, _, R_ac, by decide⟩)) ?_
        intro h94_31 W94_31 N94_31
        have sz_h94_31 : h89_30.size ≤ h94_31.size := (Nat.le_of_eq W94_31.size.symm)
        replace Sc := Sc.wr W94_31 (by first | omega | (dsimp only; omega))
        replace X_ky := X_ky.wr W94_31
        replace FV := FV.other W94_31 (Or.inl (show (_ : Nat) ≠ _ by omega))
        replace FC := FC.other W94_31 (Or.inl (show (_ : Nat) ≠ _ by omega))
        replace R_ac : Ar Z h94_31 ac .char [Int32.ofNat kb, Int32.ofNat kc] := (by have q := N94_31; rw [show nar .char (Int32.ofNat kc) = (Int32.ofNat kc) from own_c0 rc.1 rc.2] at q; exact q)
        refine C.callI (b := ky) 98 [(.ref ac)] [(.ref ky)] at_95 (met_s1 l Z a0 hw EL hEL ky bk h94_31 (by omega) (by omega) ky ac [Int32.ofNat kb, Int32.ofNat kc] z0 X_ky FV FC (by omega) (by omega) R_ac (by simp) (by simp) (fun y hy => by simp at hy; rcases hy with rfl | rfl; exact rb.2; exact rc.2) SC hzc) rfl (by omega) (Or.inl (Nat.le_refl _)) (hw _ (List.mem_of_getElem? (i := 344) rfl)) (hw _ (List.mem_of_getElem? (i := 345) rfl)) (hw _ (List.mem_of_getElem? (i := 3) rfl)) (hw _ (List.mem_of_getElem? (i := 346) rfl)) (by decide) rfl (lenOf pd__AC_rV rfl) (by decide) (W := 1) (Nat.le_of_eq rfl) (by decide) (by decide) (by decide) rfl ?_
        rintro _ hI KI ⟨rfl, Sk, Kq⟩
        have sz_hI : h94_31.size ≤ hI.size := Kq.1
        replace Sc := Sc.kp Kq (fun x q => by first | omega | (dsimp only; omega))
        refine C.astore 100 (L' := #[.val (.int i0), .val (.int i1), .val (.int i2), .val (.int i3), .val (.int (Int32.ofNat k0)), .val (.int (Int32.ofNat kb)), .val (.int (Int32.ofNat kc)), .val (.int jj), .val (.ref cn), .val (.ref ky), .unset, .unset, .unset, .unset, .unset]) at_98 rfl rfl ?_
        refine Go.upbk hI.size (Or.inr (Nat.le_refl _)) ?_
        refine Go.more 6 24 (by decide) (by decide) ?_
        exact L100 ky [kb, kc] hI (Sc.mono (by omega)) Sk (by rw [own_nk, if_neg h52, if_neg h65]) (by omega)
  refine C.iload 10 at_8 rfl ?_
  refine C.bipush 12 (58 : Int32) at_10 (by decide) ?_
  rcases Decidable.em ((Int32.ofNat ka) = (58 : Int32)) with h12 | h12
  · skip
    refine C.icN 15 at_12 rfl (XT.ii_ne_f h12) ?_
    refine C.bipush 17 (99 : Int32) at_15 (by decide) ?_
    refine C.istore 19 (L' := #[.val (.int i0), .val (.int i1), .val (.int i2), .val (.int i3), .val (.int (99 : Int32)), .unset, .unset, .unset, .unset, .unset, .unset, .unset, .unset, .unset, .unset]) at_17 rfl ?_
    exact L19 99 (by decide) (by decide)
  · skip
    refine C.icY 19 at_12 (by decide) (by decide) (XT.ii_ne_t h12) ?_
    exact L19 ka hka (fun z => h12 (by rw [z]; rfl))
-- @@PART
theorem own_all {args : Array Value} {s : State} {t : Term} {cnd : Jvm.Cond} {a : Addr} {cl : Cell} (ht : t.eval args s none [] s = some (.ref a)) (ha : s.arrayAt? a = some cl) (h : (Jvm.Cond.all t cnd).value args s none s [] = some true) : ∀ i, i < cl.slots.size → cnd.value args s none s [i] = some true := by
  simp only [Cond.value, ht, ha] at h
  have key : ∀ (L : List Nat) (acc : Option Bool), L.foldl (fun acc i => match acc with | some true => cnd.value args s none s (i :: []) | x => x) acc = some true → acc = some true ∧ ∀ i ∈ L, cnd.value args s none s [i] = some true := by
    intro L
    induction L with
    | nil => intro acc h; exact ⟨h, fun i hi => nomatch hi⟩
    | cons x L ih =>
      intro acc h
      rw [List.foldl_cons] at h
      obtain ⟨h1, h2⟩ := ih _ h
      have hacc : acc = some true := by
        rcases acc with _ | b
        · cases h1
        · cases b
          · cases h1
          · rfl
      subst hacc
      refine ⟨rfl, fun i hi => ?_⟩
      rcases List.mem_cons.mp hi with rfl | hi
      · exact h1
      · exact h2 i hi
  intro i hi
  exact (key _ _ h).2 i (List.mem_range.mpr hi)
theorem own_or {args : Array Value} {s : State} {i : List Nat} {c d : Jvm.Cond} (h : (Jvm.Cond.or c d).value args s none s i = some true) : c.value args s none s i = some true ∨ d.value args s none s i = some true := by
  simp only [Cond.value] at h
  cases hc : c.value args s none s i with
  | none => rw [hc] at h; cases h
  | some b => cases b with
    | false => rw [hc] at h; exact Or.inr h
    | true => exact Or.inl rfl
theorem own_eqi {args : Array Value} {s : State} {i : List Nat} {t : Term} {b : Int32} (h : (Jvm.Cond.eq t (.int b)).value args s none s i = some true) : t.eval args s none i s = some (.int b) := by
  simp only [Cond.value, Term.int_eval] at h
  cases ha : t.eval args s none i s with
  | none => simp [ha] at h
  | some v =>
    cases v <;> simp [ha] at h
    rw [h]
theorem own_el {args : Array Value} {s : State} {i : List Nat} {t ix : Term} {a : Addr} {cl : Cell} {b j : Int32} (ht : t.eval args s none i s = some (.ref a)) (ha : s.arrayAt? a = some cl) (hj : ix.eval args s none i s = some (.int j)) (h : (Jvm.Cond.eq (.elem t ix) (.int b)).value args s none s i = some true) : cl.slots[j.toNatClampNeg]? = some (.int b) := by
  obtain ⟨a', j', cell, e1, e2, e3, -, e5⟩ := Term.elem_spec (own_eqi h)
  cases ht.symm.trans e1
  cases ha.symm.trans e3
  cases hj.symm.trans e2
  exact e5
theorem own_len {args : Array Value} {s : State} {t : Term} {a : Addr} {cl : Cell} {z : Int32} (ht : t.eval args s none [] s = some (.ref a)) (ha : s.arrayAt? a = some cl) (h : (Jvm.Cond.eq (.length t) (.int z)).value args s none s [] = some true) (hz : ¬ z < 0) : cl.slots.size = z.toNatClampNeg := by
  have q := own_eqi h
  simp only [Term.eval, ht, ha, Option.bind_eq_bind, Option.bind_some] at q
  split at q
  · rename_i hlt
    have e : cl.slots.size.toInt32 = z := by simpa using q
    have e2 : (Int32.ofNat cl.slots.size).toInt = cl.slots.size := Int32.toInt_ofNat_small (by omega)
    have e3 : z.toInt = cl.slots.size := by rw [← e]; exact e2
    simp only [Int32.toNatClampNeg, e3]
    omega
  · cases q

theorem own_elk {args : Array Value} {s : State} {t : Term} {a : Addr} {cl : Cell} {b j : Int32} {k : Nat} (ht : t.eval args s none [] s = some (.ref a)) (ha : s.arrayAt? a = some cl) (hj : j.toNatClampNeg = k) (h : (Jvm.Cond.eq (.elem t (.int j)) (.int b)).value args s none s [] = some true) : cl.slots[k]? = some (.int b) := by
  rw [← hj]; exact own_el ht ha (Term.int_eval _) h
theorem own_fldt {args : Array Value} {s : State} {t : Term} {a : Addr} {C n d : String} {b : Int32} (ht : t.eval args s none [] s = some (.ref a)) (h : (Jvm.Cond.eq (.field t C n d) (.int b)).value args s none s [] = some true) : Fld s s.heap a C n d (.int b) := by
  have q := own_eqi h
  simp only [Term.eval, ht, Option.bind_eq_bind, Option.bind_some] at q
  exact Fld.start q
set_option maxRecDepth 65536 in
set_option maxHeartbeats 40000000 in
theorem comes_1 {Post : Tables → Env → Array Value → State → Outcome → State → Prop} (hpost : ∀ tb e args s v u, (limb_1_1.after args s (.returned v) u = true ∧ limb_1_2.after args s (.returned v) u = true ∧ True) → ReturnedEndW s (.returned v) u (Jvm.fieldLocs frame_1_writes args s ++ Jvm.arrayLocs frame_1_arrays args s ++ Jvm.staticLocs frame_1_statics s) 48 3392 → Post tb e args s (.returned v) u) :
    ArmFor flags0 classFile x code maxLocals ret World_1 tables_1 room_1 Calls_1 rest_1 Pre_1 Post := by
  intro l hfl _ _ p e ha hc hk s m args below hf hA hF happ hP
  obtain ⟨hcalls, hrest, hpre⟩ := hP
  obtain ⟨-, -, -, hnamed, -, -, -, hat⟩ := (Spec.applies_iff hf).mp happ
  obtain ⟨hg, hn⟩ := and_e (Cond.before_iff.mp (show (Jvm.Cond.and given_1 narrow_1).before args s = true from hpre))
  obtain ⟨g0, gr0⟩ := and_e hg
  obtain ⟨ga0, gr1⟩ := and_e gr0
  obtain ⟨ga1, gr2⟩ := and_e gr1
  obtain ⟨ga2, gr3⟩ := and_e gr2
  have ga3 := gr3
  obtain ⟨w0, w1, w2, w3, rfl⟩ : ∃ w0 w1 w2 w3 : Value, args = #[w0, w1, w2, w3] := by
    have hs : args.size = 4 := by simpa [Cond.value, given_1] using g0
    obtain ⟨L⟩ := args
    match L, hs with
    | [w0, w1, w2, w3], _ => exact ⟨w0, w1, w2, w3, rfl⟩
  have hw := fun d (hd : d ∈ tables_1) => atoms_spec (ws := Jvm.Cond.code x code maxLocals ret :: tables_1) hat d (List.mem_cons_of_mem _ hd)
  have hfit : Fit s := fun {y c} hc i hi => by
    obtain ⟨ha, rfl⟩ := Array.getElem?_eq_some_iff.mp hc
    have q := List.all_eq_true.mp ((Array.all_eq_true_iff_forall_mem.mp hF) _ (Array.getElem_mem ha)) i (List.mem_range.mpr hi)
    simpa [Array.getElem?_eq_getElem hi] using q
  obtain ⟨i0, e0⟩ := is_v ga0
  obtain rfl : w0 = (.int i0) := Option.some.inj e0
  obtain ⟨i1, e1⟩ := is_v ga1
  obtain rfl : w1 = (.int i1) := Option.some.inj e1
  obtain ⟨i2, e2⟩ := is_v ga2
  obtain rfl : w2 = (.int i2) := Option.some.inj e2
  obtain ⟨i3, e3⟩ := is_v ga3
  obtain rfl : w3 = (.int i3) := Option.some.inj e3
  obtain ⟨hsets, hown0⟩ := atoms_of _ (rest_1_c_eq ▸ (show rest_1_c.before _ s = true from hrest))
  have n5 := not_v (Cond.before_iff.mp (hsets _ (List.mem_of_getElem? (i := 2) rfl)))
  obtain ⟨z0, ez0⟩ := is_v (Cond.before_iff.mp (hsets _ (List.mem_of_getElem? (i := 1) rfl)))
  have SC : Sta s s.heap "java/lang/String" "COMPACT_STRINGS" "Z" (.int z0) := Sta.start ez0 (Or.inl (hsets _ (List.mem_of_getElem? (i := 0) rfl)))
  have hzc : ¬ z0 = 0 := gotF (Cond.eq_ints ez0 (Term.int_eval (0))) n5
  have hcw : Jvm.Lit.compactW.before _ s = true := hsets _ (List.mem_of_getElem? (i := 2) rfl)
  have wS : ∀ a ∈ Bundle.stringAtoms, a.before _ s = true := fun d hd => by
    simp only [Bundle.stringAtoms, List.mem_cons, List.not_mem_nil, or_false] at hd
    rcases hd with rfl | rfl | rfl | rfl | rfl | rfl | rfl
    · exact hw _ (List.mem_of_getElem? (i := 3) rfl)
    · exact hw _ (List.mem_of_getElem? (i := 11) rfl)
    · exact hw _ (List.mem_of_getElem? (i := 15) rfl)
    · exact hw _ (List.mem_of_getElem? (i := 24) rfl)
    · exact hw _ (List.mem_of_getElem? (i := 26) rfl)
    · exact hw _ (List.mem_of_getElem? (i := 52) rfl)
    · exact hw _ (List.mem_of_getElem? (i := 53) rfl)
  have hEL : EW s _ consts_1 := (EW.cons (hw _ (List.mem_of_getElem? (i := 51) rfl)) (by decide) (EW.cons (hw _ (List.mem_of_getElem? (i := 58) rfl)) (by decide) (EW.cons (hw _ (List.mem_of_getElem? (i := 359) rfl)) (by decide) EW.nil)))
  have hcons : ∀ p ∈ consts_1, Jvm.Lit.constHeld s p.1 p.2 := hcalls.1
  have hCH := CHv.start hEL hcons hcw (hw _ (List.mem_of_getElem? (i := 15) rfl)) (hw _ (List.mem_of_getElem? (i := 11) rfl))
  obtain ⟨fm, efm, hfm⟩ := isR_v (Cond.before_iff.mp (hsets _ (List.mem_of_getElem? (i := 8) rfl)))
  have SF : Sta s s.heap "jdk/internal/util/Preconditions" "SIOOBE_FORMATTER" "Ljava/util/function/BiFunction;" fm := Sta.start efm (Or.inl (hsets _ (List.mem_of_getElem? (i := 7) rfl)))
  obtain ⟨n1, m1⟩ := and_e hn
  obtain ⟨n2, m2⟩ := and_e m1
  obtain ⟨n3, n4⟩ := and_e m2
  obtain ⟨en, een⟩ := exa_v n1
  have XE := Exa.start een n1
  have SEN : Sta s s.heap "com/example/edgewise/edgewise/OpaqueText" "ENCODER" "Ljava/util/Base64$Encoder;" (.ref en) := Sta.start een (Or.inr ⟨(hw _ (List.mem_of_getElem? (i := 225) rfl)), (hw _ (List.mem_of_getElem? (i := 228) rfl))⟩)
  have FdoPadding := own_fldt een n2
  have Flinemax := own_fldt een n3
  have FisURL := own_fldt een n4
  obtain ⟨tb, etb⟩ := arr_v (Cond.before_iff.mp (hsets _ (List.mem_of_getElem? (i := 20) rfl)))
  obtain ⟨clt, AT⟩ := Arr.start etb (Cond.before_iff.mp (hsets _ (List.mem_of_getElem? (i := 20) rfl)))
  have hatT : s.arrayAt? tb = some clt := AT.fin (Vm.Alike.refl _)
  have hszT := own_len etb hatT (Cond.before_iff.mp (hsets _ (List.mem_of_getElem? (i := 22) rfl))) (by decide)
  have SB64 : Sta s s.heap "java/util/Base64$Encoder" "toBase64URL" "[C" (.ref tb) := Sta.start etb (Or.inl (hsets _ (List.mem_of_getElem? (i := 19) rfl)))
  have t0 : clt.slots[0]? = some (.int (own_al 0)) := by rw [show own_al 0 = 65 by decide]; exact own_elk etb hatT (by decide) (Cond.before_iff.mp (hsets _ (List.mem_of_getElem? (i := 23) rfl)))
  have t1 : clt.slots[1]? = some (.int (own_al 1)) := by rw [show own_al 1 = 66 by decide]; exact own_elk etb hatT (by decide) (Cond.before_iff.mp (hsets _ (List.mem_of_getElem? (i := 24) rfl)))
  have t2 : clt.slots[2]? = some (.int (own_al 2)) := by rw [show own_al 2 = 67 by decide]; exact own_elk etb hatT (by decide) (Cond.before_iff.mp (hsets _ (List.mem_of_getElem? (i := 25) rfl)))
  have t3 : clt.slots[3]? = some (.int (own_al 3)) := by rw [show own_al 3 = 68 by decide]; exact own_elk etb hatT (by decide) (Cond.before_iff.mp (hsets _ (List.mem_of_getElem? (i := 26) rfl)))
  have t4 : clt.slots[4]? = some (.int (own_al 4)) := by rw [show own_al 4 = 69 by decide]; exact own_elk etb hatT (by decide) (Cond.before_iff.mp (hsets _ (List.mem_of_getElem? (i := 27) rfl)))
  have t5 : clt.slots[5]? = some (.int (own_al 5)) := by rw [show own_al 5 = 70 by decide]; exact own_elk etb hatT (by decide) (Cond.before_iff.mp (hsets _ (List.mem_of_getElem? (i := 28) rfl)))
  have t6 : clt.slots[6]? = some (.int (own_al 6)) := by rw [show own_al 6 = 71 by decide]; exact own_elk etb hatT (by decide) (Cond.before_iff.mp (hsets _ (List.mem_of_getElem? (i := 29) rfl)))
  have t7 : clt.slots[7]? = some (.int (own_al 7)) := by rw [show own_al 7 = 72 by decide]; exact own_elk etb hatT (by decide) (Cond.before_iff.mp (hsets _ (List.mem_of_getElem? (i := 30) rfl)))
  have t8 : clt.slots[8]? = some (.int (own_al 8)) := by rw [show own_al 8 = 73 by decide]; exact own_elk etb hatT (by decide) (Cond.before_iff.mp (hsets _ (List.mem_of_getElem? (i := 31) rfl)))
  have t9 : clt.slots[9]? = some (.int (own_al 9)) := by rw [show own_al 9 = 74 by decide]; exact own_elk etb hatT (by decide) (Cond.before_iff.mp (hsets _ (List.mem_of_getElem? (i := 32) rfl)))
  have t10 : clt.slots[10]? = some (.int (own_al 10)) := by rw [show own_al 10 = 75 by decide]; exact own_elk etb hatT (by decide) (Cond.before_iff.mp (hsets _ (List.mem_of_getElem? (i := 33) rfl)))
  have t11 : clt.slots[11]? = some (.int (own_al 11)) := by rw [show own_al 11 = 76 by decide]; exact own_elk etb hatT (by decide) (Cond.before_iff.mp (hsets _ (List.mem_of_getElem? (i := 34) rfl)))
  have t12 : clt.slots[12]? = some (.int (own_al 12)) := by rw [show own_al 12 = 77 by decide]; exact own_elk etb hatT (by decide) (Cond.before_iff.mp (hsets _ (List.mem_of_getElem? (i := 35) rfl)))
  have t13 : clt.slots[13]? = some (.int (own_al 13)) := by rw [show own_al 13 = 78 by decide]; exact own_elk etb hatT (by decide) (Cond.before_iff.mp (hsets _ (List.mem_of_getElem? (i := 36) rfl)))
  have t14 : clt.slots[14]? = some (.int (own_al 14)) := by rw [show own_al 14 = 79 by decide]; exact own_elk etb hatT (by decide) (Cond.before_iff.mp (hsets _ (List.mem_of_getElem? (i := 37) rfl)))
  have t15 : clt.slots[15]? = some (.int (own_al 15)) := by rw [show own_al 15 = 80 by decide]; exact own_elk etb hatT (by decide) (Cond.before_iff.mp (hsets _ (List.mem_of_getElem? (i := 38) rfl)))
  have t16 : clt.slots[16]? = some (.int (own_al 16)) := by rw [show own_al 16 = 81 by decide]; exact own_elk etb hatT (by decide) (Cond.before_iff.mp (hsets _ (List.mem_of_getElem? (i := 39) rfl)))
  have t17 : clt.slots[17]? = some (.int (own_al 17)) := by rw [show own_al 17 = 82 by decide]; exact own_elk etb hatT (by decide) (Cond.before_iff.mp (hsets _ (List.mem_of_getElem? (i := 40) rfl)))
  have t18 : clt.slots[18]? = some (.int (own_al 18)) := by rw [show own_al 18 = 83 by decide]; exact own_elk etb hatT (by decide) (Cond.before_iff.mp (hsets _ (List.mem_of_getElem? (i := 41) rfl)))
  have t19 : clt.slots[19]? = some (.int (own_al 19)) := by rw [show own_al 19 = 84 by decide]; exact own_elk etb hatT (by decide) (Cond.before_iff.mp (hsets _ (List.mem_of_getElem? (i := 42) rfl)))
  have t20 : clt.slots[20]? = some (.int (own_al 20)) := by rw [show own_al 20 = 85 by decide]; exact own_elk etb hatT (by decide) (Cond.before_iff.mp (hsets _ (List.mem_of_getElem? (i := 43) rfl)))
  have t21 : clt.slots[21]? = some (.int (own_al 21)) := by rw [show own_al 21 = 86 by decide]; exact own_elk etb hatT (by decide) (Cond.before_iff.mp (hsets _ (List.mem_of_getElem? (i := 44) rfl)))
  have t22 : clt.slots[22]? = some (.int (own_al 22)) := by rw [show own_al 22 = 87 by decide]; exact own_elk etb hatT (by decide) (Cond.before_iff.mp (hsets _ (List.mem_of_getElem? (i := 45) rfl)))
  have t23 : clt.slots[23]? = some (.int (own_al 23)) := by rw [show own_al 23 = 88 by decide]; exact own_elk etb hatT (by decide) (Cond.before_iff.mp (hsets _ (List.mem_of_getElem? (i := 46) rfl)))
  have t24 : clt.slots[24]? = some (.int (own_al 24)) := by rw [show own_al 24 = 89 by decide]; exact own_elk etb hatT (by decide) (Cond.before_iff.mp (hsets _ (List.mem_of_getElem? (i := 47) rfl)))
  have t25 : clt.slots[25]? = some (.int (own_al 25)) := by rw [show own_al 25 = 90 by decide]; exact own_elk etb hatT (by decide) (Cond.before_iff.mp (hsets _ (List.mem_of_getElem? (i := 48) rfl)))
  have t26 : clt.slots[26]? = some (.int (own_al 26)) := by rw [show own_al 26 = 97 by decide]; exact own_elk etb hatT (by decide) (Cond.before_iff.mp (hsets _ (List.mem_of_getElem? (i := 49) rfl)))
  have t27 : clt.slots[27]? = some (.int (own_al 27)) := by rw [show own_al 27 = 98 by decide]; exact own_elk etb hatT (by decide) (Cond.before_iff.mp (hsets _ (List.mem_of_getElem? (i := 50) rfl)))
  have t28 : clt.slots[28]? = some (.int (own_al 28)) := by rw [show own_al 28 = 99 by decide]; exact own_elk etb hatT (by decide) (Cond.before_iff.mp (hsets _ (List.mem_of_getElem? (i := 51) rfl)))
  have t29 : clt.slots[29]? = some (.int (own_al 29)) := by rw [show own_al 29 = 100 by decide]; exact own_elk etb hatT (by decide) (Cond.before_iff.mp (hsets _ (List.mem_of_getElem? (i := 52) rfl)))
  have t30 : clt.slots[30]? = some (.int (own_al 30)) := by rw [show own_al 30 = 101 by decide]; exact own_elk etb hatT (by decide) (Cond.before_iff.mp (hsets _ (List.mem_of_getElem? (i := 53) rfl)))
  have t31 : clt.slots[31]? = some (.int (own_al 31)) := by rw [show own_al 31 = 102 by decide]; exact own_elk etb hatT (by decide) (Cond.before_iff.mp (hsets _ (List.mem_of_getElem? (i := 54) rfl)))
  have t32 : clt.slots[32]? = some (.int (own_al 32)) := by rw [show own_al 32 = 103 by decide]; exact own_elk etb hatT (by decide) (Cond.before_iff.mp (hsets _ (List.mem_of_getElem? (i := 55) rfl)))
  have t33 : clt.slots[33]? = some (.int (own_al 33)) := by rw [show own_al 33 = 104 by decide]; exact own_elk etb hatT (by decide) (Cond.before_iff.mp (hsets _ (List.mem_of_getElem? (i := 56) rfl)))
  have t34 : clt.slots[34]? = some (.int (own_al 34)) := by rw [show own_al 34 = 105 by decide]; exact own_elk etb hatT (by decide) (Cond.before_iff.mp (hsets _ (List.mem_of_getElem? (i := 57) rfl)))
  have t35 : clt.slots[35]? = some (.int (own_al 35)) := by rw [show own_al 35 = 106 by decide]; exact own_elk etb hatT (by decide) (Cond.before_iff.mp (hsets _ (List.mem_of_getElem? (i := 58) rfl)))
  have t36 : clt.slots[36]? = some (.int (own_al 36)) := by rw [show own_al 36 = 107 by decide]; exact own_elk etb hatT (by decide) (Cond.before_iff.mp (hsets _ (List.mem_of_getElem? (i := 59) rfl)))
  have t37 : clt.slots[37]? = some (.int (own_al 37)) := by rw [show own_al 37 = 108 by decide]; exact own_elk etb hatT (by decide) (Cond.before_iff.mp (hsets _ (List.mem_of_getElem? (i := 60) rfl)))
  have t38 : clt.slots[38]? = some (.int (own_al 38)) := by rw [show own_al 38 = 109 by decide]; exact own_elk etb hatT (by decide) (Cond.before_iff.mp (hsets _ (List.mem_of_getElem? (i := 61) rfl)))
  have t39 : clt.slots[39]? = some (.int (own_al 39)) := by rw [show own_al 39 = 110 by decide]; exact own_elk etb hatT (by decide) (Cond.before_iff.mp (hsets _ (List.mem_of_getElem? (i := 62) rfl)))
  have t40 : clt.slots[40]? = some (.int (own_al 40)) := by rw [show own_al 40 = 111 by decide]; exact own_elk etb hatT (by decide) (Cond.before_iff.mp (hsets _ (List.mem_of_getElem? (i := 63) rfl)))
  have t41 : clt.slots[41]? = some (.int (own_al 41)) := by rw [show own_al 41 = 112 by decide]; exact own_elk etb hatT (by decide) (Cond.before_iff.mp (hsets _ (List.mem_of_getElem? (i := 64) rfl)))
  have t42 : clt.slots[42]? = some (.int (own_al 42)) := by rw [show own_al 42 = 113 by decide]; exact own_elk etb hatT (by decide) (Cond.before_iff.mp (hsets _ (List.mem_of_getElem? (i := 65) rfl)))
  have t43 : clt.slots[43]? = some (.int (own_al 43)) := by rw [show own_al 43 = 114 by decide]; exact own_elk etb hatT (by decide) (Cond.before_iff.mp (hsets _ (List.mem_of_getElem? (i := 66) rfl)))
  have t44 : clt.slots[44]? = some (.int (own_al 44)) := by rw [show own_al 44 = 115 by decide]; exact own_elk etb hatT (by decide) (Cond.before_iff.mp (hsets _ (List.mem_of_getElem? (i := 67) rfl)))
  have t45 : clt.slots[45]? = some (.int (own_al 45)) := by rw [show own_al 45 = 116 by decide]; exact own_elk etb hatT (by decide) (Cond.before_iff.mp (hsets _ (List.mem_of_getElem? (i := 68) rfl)))
  have t46 : clt.slots[46]? = some (.int (own_al 46)) := by rw [show own_al 46 = 117 by decide]; exact own_elk etb hatT (by decide) (Cond.before_iff.mp (hsets _ (List.mem_of_getElem? (i := 69) rfl)))
  have t47 : clt.slots[47]? = some (.int (own_al 47)) := by rw [show own_al 47 = 118 by decide]; exact own_elk etb hatT (by decide) (Cond.before_iff.mp (hsets _ (List.mem_of_getElem? (i := 70) rfl)))
  have t48 : clt.slots[48]? = some (.int (own_al 48)) := by rw [show own_al 48 = 119 by decide]; exact own_elk etb hatT (by decide) (Cond.before_iff.mp (hsets _ (List.mem_of_getElem? (i := 71) rfl)))
  have t49 : clt.slots[49]? = some (.int (own_al 49)) := by rw [show own_al 49 = 120 by decide]; exact own_elk etb hatT (by decide) (Cond.before_iff.mp (hsets _ (List.mem_of_getElem? (i := 72) rfl)))
  have t50 : clt.slots[50]? = some (.int (own_al 50)) := by rw [show own_al 50 = 121 by decide]; exact own_elk etb hatT (by decide) (Cond.before_iff.mp (hsets _ (List.mem_of_getElem? (i := 73) rfl)))
  have t51 : clt.slots[51]? = some (.int (own_al 51)) := by rw [show own_al 51 = 122 by decide]; exact own_elk etb hatT (by decide) (Cond.before_iff.mp (hsets _ (List.mem_of_getElem? (i := 74) rfl)))
  have t52 : clt.slots[52]? = some (.int (own_al 52)) := by rw [show own_al 52 = 48 by decide]; exact own_elk etb hatT (by decide) (Cond.before_iff.mp (hsets _ (List.mem_of_getElem? (i := 75) rfl)))
  have t53 : clt.slots[53]? = some (.int (own_al 53)) := by rw [show own_al 53 = 49 by decide]; exact own_elk etb hatT (by decide) (Cond.before_iff.mp (hsets _ (List.mem_of_getElem? (i := 76) rfl)))
  have t54 : clt.slots[54]? = some (.int (own_al 54)) := by rw [show own_al 54 = 50 by decide]; exact own_elk etb hatT (by decide) (Cond.before_iff.mp (hsets _ (List.mem_of_getElem? (i := 77) rfl)))
  have t55 : clt.slots[55]? = some (.int (own_al 55)) := by rw [show own_al 55 = 51 by decide]; exact own_elk etb hatT (by decide) (Cond.before_iff.mp (hsets _ (List.mem_of_getElem? (i := 78) rfl)))
  have t56 : clt.slots[56]? = some (.int (own_al 56)) := by rw [show own_al 56 = 52 by decide]; exact own_elk etb hatT (by decide) (Cond.before_iff.mp (hsets _ (List.mem_of_getElem? (i := 79) rfl)))
  have t57 : clt.slots[57]? = some (.int (own_al 57)) := by rw [show own_al 57 = 53 by decide]; exact own_elk etb hatT (by decide) (Cond.before_iff.mp (hsets _ (List.mem_of_getElem? (i := 80) rfl)))
  have t58 : clt.slots[58]? = some (.int (own_al 58)) := by rw [show own_al 58 = 54 by decide]; exact own_elk etb hatT (by decide) (Cond.before_iff.mp (hsets _ (List.mem_of_getElem? (i := 81) rfl)))
  have t59 : clt.slots[59]? = some (.int (own_al 59)) := by rw [show own_al 59 = 55 by decide]; exact own_elk etb hatT (by decide) (Cond.before_iff.mp (hsets _ (List.mem_of_getElem? (i := 82) rfl)))
  have t60 : clt.slots[60]? = some (.int (own_al 60)) := by rw [show own_al 60 = 56 by decide]; exact own_elk etb hatT (by decide) (Cond.before_iff.mp (hsets _ (List.mem_of_getElem? (i := 83) rfl)))
  have t61 : clt.slots[61]? = some (.int (own_al 61)) := by rw [show own_al 61 = 57 by decide]; exact own_elk etb hatT (by decide) (Cond.before_iff.mp (hsets _ (List.mem_of_getElem? (i := 84) rfl)))
  have t62 : clt.slots[62]? = some (.int (own_al 62)) := by rw [show own_al 62 = 45 by decide]; exact own_elk etb hatT (by decide) (Cond.before_iff.mp (hsets _ (List.mem_of_getElem? (i := 85) rfl)))
  have t63 : clt.slots[63]? = some (.int (own_al 63)) := by rw [show own_al 63 = 95 by decide]; exact own_elk etb hatT (by decide) (Cond.before_iff.mp (hsets _ (List.mem_of_getElem? (i := 86) rfl)))
  have RT0 : Ar s s.heap tb .char own_T := by
    refine ⟨clt, AT, by rw [hszT, own_Tlen]; decide, by rw [own_Tlen]; decide, fun i x hx => ?_, fun x hx => ?_⟩
    · have hi : i < 64 := by have z := (List.getElem?_eq_some_iff.mp hx).1; rw [own_Tlen] at z; exact z
      rw [own_Tget hi] at hx
      cases hx
      match i, hi with
      | 0, _ => exact t0
      | 1, _ => exact t1
      | 2, _ => exact t2
      | 3, _ => exact t3
      | 4, _ => exact t4
      | 5, _ => exact t5
      | 6, _ => exact t6
      | 7, _ => exact t7
      | 8, _ => exact t8
      | 9, _ => exact t9
      | 10, _ => exact t10
      | 11, _ => exact t11
      | 12, _ => exact t12
      | 13, _ => exact t13
      | 14, _ => exact t14
      | 15, _ => exact t15
      | 16, _ => exact t16
      | 17, _ => exact t17
      | 18, _ => exact t18
      | 19, _ => exact t19
      | 20, _ => exact t20
      | 21, _ => exact t21
      | 22, _ => exact t22
      | 23, _ => exact t23
      | 24, _ => exact t24
      | 25, _ => exact t25
      | 26, _ => exact t26
      | 27, _ => exact t27
      | 28, _ => exact t28
      | 29, _ => exact t29
      | 30, _ => exact t30
      | 31, _ => exact t31
      | 32, _ => exact t32
      | 33, _ => exact t33
      | 34, _ => exact t34
      | 35, _ => exact t35
      | 36, _ => exact t36
      | 37, _ => exact t37
      | 38, _ => exact t38
      | 39, _ => exact t39
      | 40, _ => exact t40
      | 41, _ => exact t41
      | 42, _ => exact t42
      | 43, _ => exact t43
      | 44, _ => exact t44
      | 45, _ => exact t45
      | 46, _ => exact t46
      | 47, _ => exact t47
      | 48, _ => exact t48
      | 49, _ => exact t49
      | 50, _ => exact t50
      | 51, _ => exact t51
      | 52, _ => exact t52
      | 53, _ => exact t53
      | 54, _ => exact t54
      | 55, _ => exact t55
      | 56, _ => exact t56
      | 57, _ => exact t57
      | 58, _ => exact t58
      | 59, _ => exact t59
      | 60, _ => exact t60
      | 61, _ => exact t61
      | 62, _ => exact t62
      | 63, _ => exact t63
      | n + 64, h => exact absurd h (by omega)
    · obtain ⟨k, hk, rfl⟩ := List.mem_map.mp hx
      exact own_fital (List.mem_range.mp hk)
  obtain ⟨cz, ecz⟩ := exa_v (Cond.before_iff.mp (hsets _ (List.mem_of_getElem? (i := 14) rfl)))
  obtain ⟨c2, ec2⟩ := exa_v (Cond.before_iff.mp (hsets _ (List.mem_of_getElem? (i := 17) rfl)))
  have eqc := (Cond.before_iff.mp (hsets _ (List.mem_of_getElem? (i := 13) rfl)))
  have ecc : cz = c2 := by simpa [Cond.value, ecz, ec2] using eqc
  subst ecc
  have SU8 : Sta s s.heap "java/nio/charset/StandardCharsets" "UTF_8" "Ljava/nio/charset/Charset;" (.ref cz) := Sta.start ecz (Or.inl (hsets _ (List.mem_of_getElem? (i := 10) rfl)))
  have SU : Sta s s.heap "sun/nio/cs/UTF_8" "INSTANCE" "Lsun/nio/cs/UTF_8;" (.ref cz) := Sta.start ec2 (Or.inl (hsets _ (List.mem_of_getElem? (i := 12) rfl)))
  obtain ⟨n, o, h1, h2, h3, _, L, rfl, ⟨N, -, -, -, rfl⟩, -, hq⟩ := met_law l s _ hw consts_1 hEL s.heap.size s.heap.size s.heap (Nat.le_refl _) (Nat.le_refl _) i0 i1 i2 i3 en tb cz z0 fm SB64 RT0 FdoPadding Flinemax FisURL XE SEN SU SU8 SC hzc hfm SF wS (by simp [consts_1]) (Nat.le_refl _) p e ha hc hk s m _ below hf ((Spec.applies_iff_loose hf).mp happ).1 ⟨rfl, State.Warmed39.refl s, rfl, ⟨Nat.le_refl _, fun _ _ q => q⟩, hCH, fun y B => (Array.getElem?_eq_some_iff.mp B.there.choose_spec).1⟩ trivial
  refine ⟨n, _, h1, h2, h3, hpost _ _ _ _ _ _ ⟨Cond.after_iff.mpr rfl, Cond.after_iff.mpr (eq_i res_at (Term.int_eval (1)) rfl), trivial⟩ ⟨hq.1, hq.2.1, hq.2.2.1, (hq.2.2.2.sift fun y hy => Or.inr (N y hy)).mono (by decide) (by decide)⟩⟩
theorem main_1_1 : Claimed_1_1 := comes_1 fun _ _ _ _ _ _ h hF => ⟨h.1, hF⟩
theorem main_1_2 : Claimed_1_2 := comes_1 fun _ _ _ _ _ _ h hF => ⟨h.2.1, hF⟩
end Jvm.Pilot.@@N@@
namespace Jvm.Pilot.@@N@@
open Jvm Jvm.ClassFile Sem Op Lib Jvm.Free Jvm.Stand Jvm.Pilot.@@N@@.Jvm.D
/-! MADE BY PROGRAM (witnessworld.py) out of the Statement's table words and the real class files: 36 classes; the members and pool entries that the words name. The judged class is class 1, her method 1. -/
namespace start1
open Jvm.ClassFile
def u (s : String) : CpInfo := .utf8 (stringToUtf16 s)
/-- a pool by its gaps: so many unusable entries, then the entry; so many at the end -/
def gap : Nat → List CpInfo → List CpInfo
  | 0, r => r
  | n + 1, r => .unusable :: gap n r
def poolList (es : List (Nat × CpInfo)) (last : Nat) : List CpInfo := es.foldr (fun e r => gap e.1 (e.2 :: r)) (gap last [])
def pool (es : List (Nat × CpInfo)) (last : Nat) : Array CpInfo := ⟨poolList es last⟩
def fileOf (pool : Array CpInfo) (this : Nat) (attrs : Array Attribute := #[]) (ms : Array MethodInfo := #[]) (fl : Nat := 33) (sup : Nat := 0) (ifs : Array Nat := #[]) (fds : Array FieldInfo := #[]) : ClassFile where
  minorVersion := 0
  majorVersion := 65
  constantPool := pool
  accessFlags := fl
  thisClass := this
  superClass := sup
  interfaces := ifs
  fields := fds
  methods := ms
  attributes := attrs
def plain (name : String) (sup : Option ClassId) : Class where
  name := name
  kind := .ordinary
  loader := none
  accessFlags := 33
  super := sup
  interfaces := #[]
  cf := none
  fields := #[]
  methods := #[]
  instanceTypes := #[]
  staticTypes := #[]
  resolved := #[]
  callSites := []
  init := .initialized
  statics := none
  mirror := none

def pool0 : Array CpInfo := pool [(5, u "<init>"), (0, u "()V"), (1, .class_ 10), (1, u "java/lang/Object"), (85, u "clone"), (0, u "()Ljava/lang/Object;")] 26

def k0c0 : Code := { maxStack := 0, maxLocals := 1, code := object_method_1_code, exceptionTable := #[], attributes := #[] }
def k0m0 : Method := { name := "<init>", desc := "()V", sig := { parameters := [], returnType := none }, accessFlags := 1, code := some k0c0 }
def k0m1 : Method := { name := "clone", desc := "()Ljava/lang/Object;", sig := { parameters := [], returnType := some (.object "java/lang/Object") }, accessFlags := 260, code := none }
/-- java/lang/Object -/
def k0 : Class := { plain "java/lang/Object" none with
  accessFlags := 33
  interfaces := #[]
  cf := some (fileOf pool0 8 #[] #[{ accessFlags := 1, nameIndex := 5, descriptorIndex := 6, attributes := #[] }, { accessFlags := 260, nameIndex := 96, descriptorIndex := 97, attributes := #[] }] 33 0 #[] #[])
  fields := #[]
  methods := #[k0m0, k0m1]
  instanceTypes := #[]
  staticTypes := #[]
  resolved := Array.replicate 124 none
  statics := none }

def pool1 : Array CpInfo := pool [(2, .class_ 4), (1, u "java/lang/Object"), (0, u "<init>"), (0, u "()V"), (0, .integer 2147483647), (0, .methodref 9 10), (0, .class_ 11), (0, .nameAndType 12 13), (0, u "java/lang/String"), (0, u "valueOf"), (0, u "(C)Ljava/lang/String;"), (0, .string 15), (0, u ""), (0, .methodref 9 17), (0, .nameAndType 5 18), (0, u "([C)V"), (0, .methodref 20 21), (0, .class_ 22), (0, .nameAndType 23 24), (0, u "com/example/edgewise/edgewise/CursorEncodePinLaw"), (0, u "put"), (0, u "([IIC)I"), (0, .methodref 20 26), (0, .nameAndType 27 28), (0, u "group"), (0, u "([III[CI)I"), (0, .class_ 30), (0, u "com/example/edgewise/edgewise/Cursor"), (0, .methodref 29 32), (0, .nameAndType 5 33), (0, u "(Ljava/lang/String;Ljava/lang/String;)V"), (0, .methodref 29 35), (0, .nameAndType 36 37), (0, u "encode"), (0, u "()Ljava/lang/String;"), (0, .methodref 9 39), (0, .nameAndType 40 41), (0, u "length"), (0, u "()I"), (0, .methodref 20 43), (0, .nameAndType 44 45), (0, u "eqAt"), (0, u "(Ljava/lang/String;[CII)Z"), (0, .methodref 9 47), (0, .nameAndType 48 49), (0, u "charAt"), (0, u "(I)C"), (0, .methodref 20 51), (0, .nameAndType 52 49), (0, u "alpha"), (2, u "law"), (0, u "(IIII)Z")] 7

def k1m0 : Method := { name := "<init>", desc := "()V", sig := { parameters := [], returnType := none }, accessFlags := 1, code := none }
def k1c1 : Code := { maxStack := 6, maxLocals := 15, code := code, exceptionTable := #[], attributes := #[] }
def k1m1 : Method := { name := "law", desc := "(IIII)Z", sig := { parameters := [.int, .int, .int, .int], returnType := some .boolean }, accessFlags := 9, code := some k1c1 }
def k1c2 : Code := { maxStack := 3, maxLocals := 4, code := method_3_code, exceptionTable := #[], attributes := #[] }
def k1m2 : Method := { name := "eqAt", desc := "(Ljava/lang/String;[CII)Z", sig := { parameters := [(.object "java/lang/String"), (.array .char), .int, .int], returnType := some .boolean }, accessFlags := 10, code := some k1c2 }
def k1c3 : Code := { maxStack := 5, maxLocals := 3, code := method_4_code, exceptionTable := #[], attributes := #[] }
def k1m3 : Method := { name := "put", desc := "([IIC)I", sig := { parameters := [(.array .int), .int, .char], returnType := some .int }, accessFlags := 10, code := some k1c3 }
def k1c4 : Code := { maxStack := 5, maxLocals := 9, code := method_5_code, exceptionTable := #[], attributes := #[] }
def k1m4 : Method := { name := "group", desc := "([III[CI)I", sig := { parameters := [(.array .int), .int, .int, (.array .char), .int], returnType := some .int }, accessFlags := 10, code := some k1c4 }
def k1c5 : Code := { maxStack := 2, maxLocals := 1, code := method_6_code, exceptionTable := #[], attributes := #[] }
def k1m5 : Method := { name := "alpha", desc := "(I)C", sig := { parameters := [.int], returnType := some .char }, accessFlags := 10, code := some k1c5 }
/-- com/example/edgewise/edgewise/CursorEncodePinLaw -/
def k1 : Class := { plain "com/example/edgewise/edgewise/CursorEncodePinLaw" (some 0) with
  accessFlags := 49
  interfaces := #[]
  cf := some (fileOf pool1 20 #[] #[{ accessFlags := 1, nameIndex := 5, descriptorIndex := 6, attributes := #[] }, { accessFlags := 9, nameIndex := 55, descriptorIndex := 56, attributes := #[] }, { accessFlags := 10, nameIndex := 44, descriptorIndex := 45, attributes := #[] }, { accessFlags := 10, nameIndex := 23, descriptorIndex := 24, attributes := #[] }, { accessFlags := 10, nameIndex := 27, descriptorIndex := 28, attributes := #[] }, { accessFlags := 10, nameIndex := 52, descriptorIndex := 49, attributes := #[] }] 49 2 #[] #[])
  fields := #[]
  methods := #[k1m0, k1m1, k1m2, k1m3, k1m4, k1m5]
  instanceTypes := #[]
  staticTypes := #[]
  resolved := Array.replicate 64 none
  statics := none }

def pool2 : Array CpInfo := pool [(1, .class_ 2), (0, u "java/io/Serializable"), (0, .class_ 4), (0, u "java/lang/Object")] 2

/-- java/io/Serializable -/
def k2 : Class := { plain "java/io/Serializable" (some 0) with
  accessFlags := 1537
  interfaces := #[]
  cf := some (fileOf pool2 1 #[] #[] 1537 3 #[] #[])
  fields := #[]
  methods := #[]
  instanceTypes := #[]
  staticTypes := #[]
  resolved := Array.replicate 7 none
  statics := none }

def pool3 : Array CpInfo := pool [(1, .class_ 2), (0, u "java/lang/Comparable"), (0, .class_ 4), (0, u "java/lang/Object")] 7

/-- java/lang/Comparable -/
def k3 : Class := { plain "java/lang/Comparable" (some 0) with
  accessFlags := 1537
  interfaces := #[]
  cf := some (fileOf pool3 1 #[] #[] 1537 3 #[] #[])
  fields := #[]
  methods := #[]
  instanceTypes := #[]
  staticTypes := #[]
  resolved := Array.replicate 12 none
  statics := none }

def pool4 : Array CpInfo := pool [(2, .class_ 4), (1, u "java/lang/CharSequence"), (42, .class_ 48), (0, u "java/lang/CharSequence$1CodePointIterator"), (10, .class_ 60), (0, u "java/lang/CharSequence$1CharIterator"), (5, .class_ 67), (0, u "java/lang/Object")] 63

/-- java/lang/CharSequence -/
def k4 : Class := { plain "java/lang/CharSequence" (some 0) with
  accessFlags := 1537
  interfaces := #[]
  cf := some (fileOf pool4 2 #[.nestMembers #[47, 59]] #[] 1537 66 #[] #[])
  fields := #[]
  methods := #[]
  instanceTypes := #[]
  staticTypes := #[]
  resolved := Array.replicate 131 none
  statics := none }

def pool5 : Array CpInfo := pool [(1, .class_ 2), (0, u "java/lang/constant/Constable"), (0, .class_ 4), (0, u "java/lang/Object")] 6

/-- java/lang/constant/Constable -/
def k5 : Class := { plain "java/lang/constant/Constable" (some 0) with
  accessFlags := 1537
  interfaces := #[]
  cf := some (fileOf pool5 1 #[] #[] 1537 3 #[] #[])
  fields := #[]
  methods := #[]
  instanceTypes := #[]
  staticTypes := #[]
  resolved := Array.replicate 11 none
  statics := none }

def pool6 : Array CpInfo := pool [(1, .class_ 2), (0, u "java/lang/constant/ConstantDesc"), (0, .class_ 4), (0, u "java/lang/Object")] 32

/-- java/lang/constant/ConstantDesc -/
def k6 : Class := { plain "java/lang/constant/ConstantDesc" (some 0) with
  accessFlags := 1537
  interfaces := #[]
  cf := some (fileOf pool6 1 #[] #[] 1537 3 #[] #[])
  fields := #[]
  methods := #[]
  instanceTypes := #[]
  staticTypes := #[]
  resolved := Array.replicate 37 none
  statics := none }

def pool7 : Array CpInfo := pool [(1, .methodref 2 3), (0, .class_ 4), (0, .nameAndType 5 6), (0, u "java/lang/Object"), (0, u "<init>"), (0, u "()V"), (2, .fieldref 10 11), (0, .class_ 12), (0, .nameAndType 13 14), (0, u "java/lang/String"), (0, u "value"), (0, u "[B"), (0, .fieldref 10 16), (0, .nameAndType 17 18), (0, u "coder"), (0, u "B"), (2, u "hash"), (0, u "I"), (2, u "hashIsZero"), (0, u "Z"), (0, .methodref 10 28), (0, .nameAndType 5 29), (0, u "([CIILjava/lang/Void;)V"), (4, .methodref 10 35), (0, .nameAndType 36 37), (0, u "checkBoundsOffCount"), (0, u "(III)I"), (0, .fieldref 10 39), (0, .nameAndType 40 26), (0, u "COMPACT_STRINGS"), (1, .class_ 44), (1, u "java/lang/StringUTF16"), (0, u "compress"), (1, .methodref 42 48), (0, .nameAndType 49 50), (0, u "coderFromArrayLen"), (0, u "([BI)B"), (2, u "toBytes"), (0, .methodref 55 56), (0, .class_ 57), (0, .nameAndType 58 59), (0, u "java/util/Arrays"), (0, u "copyOfRange"), (0, u "([BII)[B"), (0, .methodref 42 61), (0, .nameAndType 62 63), (0, u "newBytesFor"), (0, u "(I)[B"), (6, u "([BIII)V"), (15, .fieldref 87 88), (0, .class_ 89), (0, .nameAndType 90 91), (0, u "sun/nio/cs/UTF_8"), (0, u "INSTANCE"), (0, u "Lsun/nio/cs/UTF_8;"), (1, .class_ 95), (1, u "java/lang/StringCoding"), (6, .methodref 55 103), (0, .nameAndType 104 105), (0, u "copyOf"), (0, u "([BI)[B"), (1, .class_ 109), (1, u "java/lang/StringLatin1"), (18, .methodref 93 129), (0, .nameAndType 130 131), (0, u "hasNegatives"), (0, u "([BII)Z"), (10, u "()Z"), (34, .methodref 42 178), (0, .nameAndType 45 179), (0, u "([CII)[B"), (13, .class_ 195), (1, u "java/lang/System"), (13, .methodref 10 210), (0, .nameAndType 5 211), (0, u "([BB)V"), (0, .methodref 193 213), (0, .nameAndType 214 215), (0, u "arraycopy"), (0, u "(Ljava/lang/Object;ILjava/lang/Object;II)V"), (36, .methodref 10 253), (0, .nameAndType 254 255), (0, u "encodeUTF8"), (0, u "(B[BZ)[B"), (23, .methodref 280 281), (0, .class_ 14), (0, .nameAndType 282 283), (0, u "clone"), (0, u "()Ljava/lang/Object;"), (33, u "encode"), (16, u "()I"), (0, .methodref 10 336), (0, .nameAndType 17 337), (0, u "()B"), (2, u "()[B"), (22, u "([BI)C"), (5, u "(C)Z"), (21, u "(II)V"), (35, u "(I)C"), (61, .methodref 10 490), (0, .nameAndType 5 491), (0, u "(Ljava/lang/AbstractStringBuilder;Ljava/lang/Void;)V"), (0, .methodref 10 493), (0, .nameAndType 494 142), (0, u "isLatin1"), (0, .methodref 107 496), (0, .nameAndType 497 363), (0, u "charAt"), (3, u "checkIndex"), (3, .methodref 10 506), (0, .nameAndType 507 334), (0, u "length"), (24, u "getBytes"), (2, .methodref 10 536), (0, .nameAndType 317 537), (0, u "(Ljava/nio/charset/Charset;B[B)[B"), (11, .methodref 550 506), (0, .class_ 551), (0, u "java/lang/AbstractStringBuilder"), (0, .methodref 550 553), (0, .nameAndType 554 340), (0, u "getValue"), (20, .class_ 576), (0, u "java/lang/CharSequence"), (22, u "CASE_INSENSITIVE_ORDER"), (0, u "Ljava/util/Comparator;"), (32, .methodref 10 634), (0, .nameAndType 635 636), (0, u "indexOf"), (0, u "(II)I"), (0, .methodref 107 638), (0, .nameAndType 635 639), (0, u "([BIII)I"), (52, u "isEmpty"), (72, u "(I)I"), (16, u "valueOf"), (0, u "(C)Ljava/lang/String;"), (37, u "([BIB)V"), (188, u "([C)V"), (4, .methodref 107 1016), (0, .nameAndType 1017 369), (0, u "canEncode"), (0, .methodref 107 1019), (0, .nameAndType 53 1020), (0, u "(C)[B"), (26, .methodref 550 493), (5, .fieldref 1054 1055), (0, .class_ 1056), (0, .nameAndType 1057 1058), (0, u "jdk/internal/util/Preconditions"), (0, u "SIOOBE_FORMATTER"), (0, u "Ljava/util/function/BiFunction;"), (0, .methodref 1054 1060), (0, .nameAndType 501 1061), (0, u "(IILjava/util/function/BiFunction;)I"), (2, u "(IIILjava/util/function/BiFunction;)I"), (0, .methodref 1054 1066), (0, .nameAndType 1067 1064), (0, u "checkFromIndexSize"), (33, u "serialPersistentFields"), (0, u "[Ljava/io/ObjectStreamField;"), (0, .class_ 1104), (0, u "java/lang/String$CaseInsensitiveComparator"), (1, .class_ 1107), (0, u "java/io/Serializable"), (0, .class_ 1109), (0, u "java/lang/Comparable"), (0, .class_ 1111), (0, u "java/lang/constant/Constable"), (0, .class_ 1113), (0, u "java/lang/constant/ConstantDesc"), (2, u "serialVersionUID"), (0, u "J"), (3, u "REPL"), (0, u "C"), (2, u "LATIN1"), (1, u "UTF16"), (105, u "(Ljava/lang/StringBuilder;)V"), (11, u "(Ljava/nio/charset/Charset;)[B")] 205

def k7m0 : Method := { name := "<init>", desc := "()V", sig := { parameters := [], returnType := none }, accessFlags := 1, code := none }
def k7c1 : Code := { maxStack := 5, maxLocals := 2, code := jdk_42_method_3_code, exceptionTable := #[], attributes := #[] }
def k7m1 : Method := { name := "<init>", desc := "([C)V", sig := { parameters := [(.array .char)], returnType := none }, accessFlags := 1, code := some k7c1 }
def k7c2 : Code := { maxStack := 5, maxLocals := 7, code := jdk_42_method_7_code, exceptionTable := #[], attributes := #[] }
def k7m2 : Method := { name := "<init>", desc := "([BIII)V", sig := { parameters := [(.array .byte), .int, .int, .int], returnType := none }, accessFlags := 1, code := some k7c2 }
def k7c3 : Code := { maxStack := 4, maxLocals := 3, code := jdk_42_method_18_code, exceptionTable := #[], attributes := #[] }
def k7m3 : Method := { name := "encode", desc := "(Ljava/nio/charset/Charset;B[B)[B", sig := { parameters := [(.object "java/nio/charset/Charset"), .byte, (.array .byte)], returnType := some (.array .byte) }, accessFlags := 10, code := some k7c3 }
def k7c4 : Code := { maxStack := 5, maxLocals := 9, code := jdk_42_method_46_code, exceptionTable := #[], attributes := #[] }
def k7m4 : Method := { name := "encodeUTF8", desc := "(B[BZ)[B", sig := { parameters := [.byte, (.array .byte), .boolean], returnType := some (.array .byte) }, accessFlags := 10, code := some k7c4 }
def k7c5 : Code := { maxStack := 3, maxLocals := 2, code := jdk_42_method_53_code, exceptionTable := #[], attributes := #[] }
def k7m5 : Method := { name := "<init>", desc := "(Ljava/lang/StringBuilder;)V", sig := { parameters := [(.object "java/lang/StringBuilder")], returnType := none }, accessFlags := 1, code := some k7c5 }
def k7c6 : Code := { maxStack := 2, maxLocals := 1, code := jdk_42_method_54_code, exceptionTable := #[], attributes := #[] }
def k7m6 : Method := { name := "length", desc := "()I", sig := { parameters := [], returnType := some .int }, accessFlags := 1, code := some k7c6 }
def k7c7 : Code := { maxStack := 1, maxLocals := 1, code := jdk_42_method_55_code, exceptionTable := #[], attributes := #[] }
def k7m7 : Method := { name := "isEmpty", desc := "()Z", sig := { parameters := [], returnType := some .boolean }, accessFlags := 1, code := some k7c7 }
def k7c8 : Code := { maxStack := 2, maxLocals := 2, code := jdk_42_method_56_code, exceptionTable := #[], attributes := #[] }
def k7m8 : Method := { name := "charAt", desc := "(I)C", sig := { parameters := [.int], returnType := some .char }, accessFlags := 1, code := some k7c8 }
def k7c9 : Code := { maxStack := 3, maxLocals := 2, code := jdk_42_method_64_code, exceptionTable := #[], attributes := #[] }
def k7m9 : Method := { name := "getBytes", desc := "(Ljava/nio/charset/Charset;)[B", sig := { parameters := [(.object "java/nio/charset/Charset")], returnType := some (.array .byte) }, accessFlags := 1, code := some k7c9 }
def k7c10 : Code := { maxStack := 3, maxLocals := 2, code := jdk_42_method_79_code, exceptionTable := #[], attributes := #[] }
def k7m10 : Method := { name := "indexOf", desc := "(I)I", sig := { parameters := [.int], returnType := some .int }, accessFlags := 1, code := some k7c10 }
def k7c11 : Code := { maxStack := 4, maxLocals := 3, code := jdk_42_method_80_code, exceptionTable := #[], attributes := #[] }
def k7m11 : Method := { name := "indexOf", desc := "(II)I", sig := { parameters := [.int, .int], returnType := some .int }, accessFlags := 1, code := some k7c11 }
def k7c12 : Code := { maxStack := 4, maxLocals := 1, code := jdk_42_method_139_code, exceptionTable := #[], attributes := #[] }
def k7m12 : Method := { name := "valueOf", desc := "(C)Ljava/lang/String;", sig := { parameters := [.char], returnType := some (.object "java/lang/String") }, accessFlags := 9, code := some k7c12 }
def k7c13 : Code := { maxStack := 5, maxLocals := 4, code := jdk_42_method_147_code, exceptionTable := #[], attributes := #[] }
def k7m13 : Method := { name := "getBytes", desc := "([BIB)V", sig := { parameters := [(.array .byte), .int, .byte], returnType := none }, accessFlags := 0, code := some k7c13 }
def k7c14 : Code := { maxStack := 4, maxLocals := 6, code := jdk_42_method_149_code, exceptionTable := #[], attributes := #[] }
def k7m14 : Method := { name := "<init>", desc := "([CIILjava/lang/Void;)V", sig := { parameters := [(.array .char), .int, .int, (.object "java/lang/Void")], returnType := none }, accessFlags := 2, code := some k7c14 }
def k7c15 : Code := { maxStack := 5, maxLocals := 5, code := jdk_42_method_150_code, exceptionTable := #[], attributes := #[] }
def k7m15 : Method := { name := "<init>", desc := "(Ljava/lang/AbstractStringBuilder;Ljava/lang/Void;)V", sig := { parameters := [(.object "java/lang/AbstractStringBuilder"), (.object "java/lang/Void")], returnType := none }, accessFlags := 0, code := some k7c15 }
def k7c16 : Code := { maxStack := 2, maxLocals := 3, code := jdk_42_method_151_code, exceptionTable := #[], attributes := #[] }
def k7m16 : Method := { name := "<init>", desc := "([BB)V", sig := { parameters := [(.array .byte), .byte], returnType := none }, accessFlags := 0, code := some k7c16 }
def k7c17 : Code := { maxStack := 1, maxLocals := 1, code := jdk_42_method_152_code, exceptionTable := #[], attributes := #[] }
def k7m17 : Method := { name := "coder", desc := "()B", sig := { parameters := [], returnType := some .byte }, accessFlags := 0, code := some k7c17 }
def k7c18 : Code := { maxStack := 1, maxLocals := 1, code := jdk_42_method_154_code, exceptionTable := #[], attributes := #[] }
def k7m18 : Method := { name := "isLatin1", desc := "()Z", sig := { parameters := [], returnType := some .boolean }, accessFlags := 0, code := some k7c18 }
def k7c19 : Code := { maxStack := 3, maxLocals := 2, code := jdk_42_method_155_code, exceptionTable := #[], attributes := #[] }
def k7m19 : Method := { name := "checkIndex", desc := "(II)V", sig := { parameters := [.int, .int], returnType := none }, accessFlags := 8, code := some k7c19 }
def k7c20 : Code := { maxStack := 4, maxLocals := 3, code := jdk_42_method_157_code, exceptionTable := #[], attributes := #[] }
def k7m20 : Method := { name := "checkBoundsOffCount", desc := "(III)I", sig := { parameters := [.int, .int, .int], returnType := some .int }, accessFlags := 8, code := some k7c20 }
/-- java/lang/String -/
def k7 : Class := { plain "java/lang/String" (some 0) with
  accessFlags := 49
  interfaces := #[2, 3, 4, 5, 6]
  cf := some (fileOf pool7 10 #[.nestMembers #[1103]] #[{ accessFlags := 1, nameIndex := 5, descriptorIndex := 6, attributes := #[] }, { accessFlags := 1, nameIndex := 5, descriptorIndex := 1010, attributes := #[] }, { accessFlags := 1, nameIndex := 5, descriptorIndex := 70, attributes := #[] }, { accessFlags := 10, nameIndex := 317, descriptorIndex := 537, attributes := #[] }, { accessFlags := 10, nameIndex := 254, descriptorIndex := 255, attributes := #[] }, { accessFlags := 1, nameIndex := 5, descriptorIndex := 1233, attributes := #[] }, { accessFlags := 1, nameIndex := 507, descriptorIndex := 334, attributes := #[] }, { accessFlags := 1, nameIndex := 692, descriptorIndex := 142, attributes := #[] }, { accessFlags := 1, nameIndex := 497, descriptorIndex := 427, attributes := #[] }, { accessFlags := 1, nameIndex := 532, descriptorIndex := 1245, attributes := #[] }, { accessFlags := 1, nameIndex := 635, descriptorIndex := 765, attributes := #[] }, { accessFlags := 1, nameIndex := 635, descriptorIndex := 636, attributes := #[] }, { accessFlags := 9, nameIndex := 782, descriptorIndex := 783, attributes := #[] }, { accessFlags := 0, nameIndex := 532, descriptorIndex := 821, attributes := #[] }, { accessFlags := 2, nameIndex := 5, descriptorIndex := 29, attributes := #[] }, { accessFlags := 0, nameIndex := 5, descriptorIndex := 491, attributes := #[] }, { accessFlags := 0, nameIndex := 5, descriptorIndex := 211, attributes := #[] }, { accessFlags := 0, nameIndex := 17, descriptorIndex := 337, attributes := #[] }, { accessFlags := 0, nameIndex := 494, descriptorIndex := 142, attributes := #[] }, { accessFlags := 8, nameIndex := 501, descriptorIndex := 391, attributes := #[] }, { accessFlags := 8, nameIndex := 36, descriptorIndex := 37, attributes := #[] }] 49 2 #[1106, 1108, 575, 1110, 1112] #[{ accessFlags := 18, nameIndex := 13, descriptorIndex := 14, attributes := #[] }, { accessFlags := 18, nameIndex := 17, descriptorIndex := 18, attributes := #[] }, { accessFlags := 2, nameIndex := 21, descriptorIndex := 22, attributes := #[] }, { accessFlags := 2, nameIndex := 25, descriptorIndex := 26, attributes := #[] }, { accessFlags := 26, nameIndex := 1116, descriptorIndex := 1117, attributes := #[] }, { accessFlags := 24, nameIndex := 40, descriptorIndex := 26, attributes := #[] }, { accessFlags := 26, nameIndex := 1101, descriptorIndex := 1102, attributes := #[] }, { accessFlags := 26, nameIndex := 1121, descriptorIndex := 1122, attributes := #[] }, { accessFlags := 25, nameIndex := 599, descriptorIndex := 600, attributes := #[] }, { accessFlags := 24, nameIndex := 1125, descriptorIndex := 18, attributes := #[] }, { accessFlags := 24, nameIndex := 1127, descriptorIndex := 18, attributes := #[] }])
  fields := #[{ name := "value", type := (.array .byte), accessFlags := 18, slot := 0, constantValue := 0 }, { name := "coder", type := .byte, accessFlags := 18, slot := 1, constantValue := 0 }, { name := "hash", type := .int, accessFlags := 2, slot := 2, constantValue := 0 }, { name := "hashIsZero", type := .boolean, accessFlags := 2, slot := 3, constantValue := 0 }, { name := "serialVersionUID", type := .long, accessFlags := 26, slot := 0, constantValue := 0 }, { name := "COMPACT_STRINGS", type := .boolean, accessFlags := 24, slot := 1, constantValue := 0 }, { name := "serialPersistentFields", type := (.array (.object "java/io/ObjectStreamField")), accessFlags := 26, slot := 2, constantValue := 0 }, { name := "REPL", type := .char, accessFlags := 26, slot := 3, constantValue := 0 }, { name := "CASE_INSENSITIVE_ORDER", type := (.object "java/util/Comparator"), accessFlags := 25, slot := 4, constantValue := 0 }, { name := "LATIN1", type := .byte, accessFlags := 24, slot := 5, constantValue := 0 }, { name := "UTF16", type := .byte, accessFlags := 24, slot := 6, constantValue := 0 }]
  methods := #[k7m0, k7m1, k7m2, k7m3, k7m4, k7m5, k7m6, k7m7, k7m8, k7m9, k7m10, k7m11, k7m12, k7m13, k7m14, k7m15, k7m16, k7m17, k7m18, k7m19, k7m20]
  instanceTypes := #[(.array .byte), .byte, .int, .boolean]
  staticTypes := #[.long, .boolean, (.array (.object "java/io/ObjectStreamField")), .char, (.object "java/util/Comparator"), .byte, .byte]
  resolved := Array.replicate 1451 none
  statics := some 0 }

def pool8 : Array CpInfo := pool [(1, .class_ 2), (0, u "java/lang/String"), (1, .class_ 6), (1, u "java/lang/Object"), (0, u "<init>"), (0, u "()V"), (0, .methodref 1 10), (0, .nameAndType 11 12), (0, u "checkIndex"), (0, u "(II)V"), (1, .class_ 16), (1, u "java/lang/StringLatin1"), (21, .methodref 39 40), (0, .class_ 41), (0, .nameAndType 42 43), (0, u "java/lang/Math"), (0, u "min"), (0, u "(II)I"), (9, u "([BI)C"), (34, .methodref 14 89), (0, .nameAndType 90 91), (0, u "canEncode"), (0, u "(I)Z"), (0, .methodref 39 93), (0, .nameAndType 94 43), (0, u "max"), (0, .methodref 14 96), (0, .nameAndType 97 98), (0, u "indexOfChar"), (0, u "([BIII)I"), (2, u "indexOf"), (3, u "(C)Z"), (15, u "$assertionsDisabled"), (0, u "Z"), (98, .class_ 223), (1, u "java/lang/StringLatin1$LinesSpliterator"), (28, u "charAt"), (127, u "toBytes"), (1, u "(C)[B"), (7, .class_ 391), (0, u "java/lang/StringLatin1$CharsSpliterator")] 3

def k8m0 : Method := { name := "<init>", desc := "()V", sig := { parameters := [], returnType := none }, accessFlags := 0, code := none }
def k8c1 : Code := { maxStack := 2, maxLocals := 2, code := jdk_43_method_2_code, exceptionTable := #[], attributes := #[] }
def k8m1 : Method := { name := "charAt", desc := "([BI)C", sig := { parameters := [(.array .byte), .int], returnType := some .char }, accessFlags := 9, code := some k8c1 }
def k8c2 : Code := { maxStack := 2, maxLocals := 1, code := jdk_43_method_3_code, exceptionTable := #[], attributes := #[] }
def k8m2 : Method := { name := "canEncode", desc := "(C)Z", sig := { parameters := [.char], returnType := some .boolean }, accessFlags := 9, code := some k8c2 }
def k8c3 : Code := { maxStack := 2, maxLocals := 1, code := jdk_43_method_4_code, exceptionTable := #[], attributes := #[] }
def k8m3 : Method := { name := "canEncode", desc := "(I)Z", sig := { parameters := [.int], returnType := some .boolean }, accessFlags := 9, code := some k8c3 }
def k8c4 : Code := { maxStack := 4, maxLocals := 4, code := jdk_43_method_22_code, exceptionTable := #[], attributes := #[] }
def k8m4 : Method := { name := "indexOf", desc := "([BIII)I", sig := { parameters := [(.array .byte), .int, .int, .int], returnType := some .int }, accessFlags := 9, code := some k8c4 }
def k8c5 : Code := { maxStack := 2, maxLocals := 6, code := jdk_43_method_23_code, exceptionTable := #[], attributes := #[] }
def k8m5 : Method := { name := "indexOfChar", desc := "([BIII)I", sig := { parameters := [(.array .byte), .int, .int, .int], returnType := some .int }, accessFlags := 10, code := some k8c5 }
def k8c6 : Code := { maxStack := 4, maxLocals := 1, code := jdk_43_method_46_code, exceptionTable := #[], attributes := #[] }
def k8m6 : Method := { name := "toBytes", desc := "(C)[B", sig := { parameters := [.char], returnType := some (.array .byte) }, accessFlags := 9, code := some k8c6 }
/-- java/lang/StringLatin1 -/
def k8 : Class := { plain "java/lang/StringLatin1" (some 0) with
  accessFlags := 48
  interfaces := #[]
  cf := some (fileOf pool8 14 #[.nestMembers #[390, 221]] #[{ accessFlags := 0, nameIndex := 7, descriptorIndex := 8, attributes := #[] }, { accessFlags := 9, nameIndex := 252, descriptorIndex := 53, attributes := #[] }, { accessFlags := 9, nameIndex := 90, descriptorIndex := 105, attributes := #[] }, { accessFlags := 9, nameIndex := 90, descriptorIndex := 91, attributes := #[] }, { accessFlags := 9, nameIndex := 101, descriptorIndex := 98, attributes := #[] }, { accessFlags := 10, nameIndex := 97, descriptorIndex := 98, attributes := #[] }, { accessFlags := 9, nameIndex := 380, descriptorIndex := 382, attributes := #[] }] 48 4 #[] #[{ accessFlags := 4120, nameIndex := 121, descriptorIndex := 122, attributes := #[] }])
  fields := #[{ name := "$assertionsDisabled", type := .boolean, accessFlags := 4120, slot := 0, constantValue := 0 }]
  methods := #[k8m0, k8m1, k8m2, k8m3, k8m4, k8m5, k8m6]
  instanceTypes := #[]
  staticTypes := #[.boolean]
  resolved := Array.replicate 395 none
  statics := none }

def pool9 : Array CpInfo := pool [(1, .methodref 2 3), (0, .class_ 4), (0, .nameAndType 5 6), (0, u "java/lang/Object"), (0, u "<init>"), (0, u "()V"), (0, .class_ 8), (0, u "java/lang/Record")] 13

def k9c0 : Code := { maxStack := 1, maxLocals := 1, code := jdk_30_method_1_code, exceptionTable := #[], attributes := #[] }
def k9m0 : Method := { name := "<init>", desc := "()V", sig := { parameters := [], returnType := none }, accessFlags := 4, code := some k9c0 }
/-- java/lang/Record -/
def k9 : Class := { plain "java/lang/Record" (some 0) with
  accessFlags := 1057
  interfaces := #[]
  cf := some (fileOf pool9 7 #[] #[{ accessFlags := 4, nameIndex := 5, descriptorIndex := 6, attributes := #[] }] 1057 2 #[] #[])
  fields := #[]
  methods := #[k9m0]
  instanceTypes := #[]
  staticTypes := #[]
  resolved := Array.replicate 22 none
  statics := none }

def pool10 : Array CpInfo := pool [(1, .methodref 2 3), (0, .class_ 4), (0, .nameAndType 5 6), (0, u "java/lang/Record"), (0, u "<init>"), (0, u "()V"), (0, .string 8), (0, u "connection"), (0, .methodref 10 11), (0, .class_ 12), (0, .nameAndType 13 14), (0, u "java/util/Objects"), (0, u "requireNonNull"), (0, u "(Ljava/lang/Object;Ljava/lang/String;)Ljava/lang/Object;"), (0, .string 16), (0, u "key"), (0, .methodref 18 19), (0, .class_ 20), (0, .nameAndType 21 22), (0, u "java/lang/String"), (0, u "isEmpty"), (0, u "()Z"), (0, .class_ 24), (0, u "com/example/edgewise/edgewise/Cursor"), (0, .methodref 18 26), (0, .nameAndType 27 28), (0, u "indexOf"), (0, u "(I)I"), (7, .fieldref 23 37), (0, .nameAndType 8 38), (0, u "Ljava/lang/String;"), (0, .fieldref 23 40), (0, .nameAndType 16 38), (0, .class_ 42), (0, u "java/lang/StringBuilder"), (0, .methodref 41 3), (0, .methodref 41 45), (0, .nameAndType 46 47), (0, u "append"), (0, u "(Ljava/lang/String;)Ljava/lang/StringBuilder;"), (0, .methodref 41 49), (0, .nameAndType 46 50), (0, u "(C)Ljava/lang/StringBuilder;"), (0, .methodref 41 52), (0, .nameAndType 53 54), (0, u "toString"), (0, u "()Ljava/lang/String;"), (0, .methodref 56 57), (0, .class_ 58), (0, .nameAndType 59 60), (0, u "com/example/edgewise/edgewise/OpaqueText"), (0, u "encode"), (0, u "(Ljava/lang/String;)Ljava/lang/String;"), (17, u "(Ljava/lang/String;Ljava/lang/String;)V"), (11, u "SEPARATOR"), (0, u "C")] 30

def k10c0 : Code := { maxStack := 3, maxLocals := 3, code := prog_2_method_1_code, exceptionTable := #[], attributes := #[] }
def k10m0 : Method := { name := "<init>", desc := "(Ljava/lang/String;Ljava/lang/String;)V", sig := { parameters := [(.object "java/lang/String"), (.object "java/lang/String")], returnType := none }, accessFlags := 0, code := some k10c0 }
def k10c1 : Code := { maxStack := 2, maxLocals := 1, code := prog_2_method_2_code, exceptionTable := #[], attributes := #[] }
def k10m1 : Method := { name := "encode", desc := "()Ljava/lang/String;", sig := { parameters := [], returnType := some (.object "java/lang/String") }, accessFlags := 0, code := some k10c1 }
/-- com/example/edgewise/edgewise/Cursor -/
def k10 : Class := { plain "com/example/edgewise/edgewise/Cursor" (some 9) with
  accessFlags := 48
  interfaces := #[]
  cf := some (fileOf pool10 23 #[] #[{ accessFlags := 0, nameIndex := 5, descriptorIndex := 78, attributes := #[] }, { accessFlags := 0, nameIndex := 59, descriptorIndex := 54, attributes := #[] }] 48 2 #[] #[{ accessFlags := 18, nameIndex := 8, descriptorIndex := 38, attributes := #[] }, { accessFlags := 18, nameIndex := 16, descriptorIndex := 38, attributes := #[] }, { accessFlags := 26, nameIndex := 90, descriptorIndex := 91, attributes := #[] }])
  fields := #[{ name := "connection", type := (.object "java/lang/String"), accessFlags := 18, slot := 0, constantValue := 0 }, { name := "key", type := (.object "java/lang/String"), accessFlags := 18, slot := 1, constantValue := 0 }, { name := "SEPARATOR", type := .char, accessFlags := 26, slot := 0, constantValue := 0 }]
  methods := #[k10m0, k10m1]
  instanceTypes := #[(.object "java/lang/String"), (.object "java/lang/String")]
  staticTypes := #[.char]
  resolved := Array.replicate 122 none
  statics := none }

def pool11 : Array CpInfo := pool [(2, .class_ 4), (1, u "java/lang/Object"), (0, u "<init>"), (0, u "()V"), (35, .class_ 44), (1, u "java/util/Objects"), (0, u "requireNonNull"), (48, u "(Ljava/lang/Object;Ljava/lang/String;)Ljava/lang/Object;")] 89

def k11m0 : Method := { name := "<init>", desc := "()V", sig := { parameters := [], returnType := none }, accessFlags := 2, code := none }
def k11c1 : Code := { maxStack := 3, maxLocals := 2, code := jdk_31_method_11_code, exceptionTable := #[], attributes := #[] }
def k11m1 : Method := { name := "requireNonNull", desc := "(Ljava/lang/Object;Ljava/lang/String;)Ljava/lang/Object;", sig := { parameters := [(.object "java/lang/Object"), (.object "java/lang/String")], returnType := some (.object "java/lang/Object") }, accessFlags := 9, code := some k11c1 }
/-- java/util/Objects -/
def k11 : Class := { plain "java/util/Objects" (some 0) with
  accessFlags := 49
  interfaces := #[]
  cf := some (fileOf pool11 42 #[] #[{ accessFlags := 2, nameIndex := 5, descriptorIndex := 6, attributes := #[] }, { accessFlags := 9, nameIndex := 45, descriptorIndex := 94, attributes := #[] }] 49 2 #[] #[])
  fields := #[]
  methods := #[k11m0, k11m1]
  instanceTypes := #[]
  staticTypes := #[]
  resolved := Array.replicate 184 none
  statics := none }

def pool12 : Array CpInfo := pool [(1, .class_ 2), (0, u "java/lang/Math"), (1, .class_ 6), (1, u "java/lang/Object"), (0, u "<init>"), (0, u "()V"), (89, .class_ 100), (1, u "java/lang/Math$RandomNumberGeneratorHolder"), (19, u "multiplyExact"), (51, u "negativeZeroFloatBits"), (0, u "J"), (2, u "negativeZeroDoubleBits"), (21, u "max"), (2, u "min"), (43, u "$assertionsDisabled"), (0, u "Z"), (88, u "(II)I"), (2, u "twoToTheDoubleScaleDown"), (0, u "D"), (4, u "twoToTheDoubleScaleUp"), (9, u "E"), (3, u "PI"), (2, u "TAU"), (2, u "DEGREES_TO_RADIANS"), (0, u "RADIANS_TO_DEGREES"), (27, u "addExact")] 66

def k12m0 : Method := { name := "<init>", desc := "()V", sig := { parameters := [], returnType := none }, accessFlags := 2, code := none }
def k12c1 : Code := { maxStack := 3, maxLocals := 3, code := jdk_29_method_24_code, exceptionTable := #[], attributes := #[] }
def k12m1 : Method := { name := "addExact", desc := "(II)I", sig := { parameters := [.int, .int], returnType := some .int }, accessFlags := 9, code := some k12c1 }
def k12c2 : Code := { maxStack := 4, maxLocals := 4, code := jdk_29_method_28_code, exceptionTable := #[], attributes := #[] }
def k12m2 : Method := { name := "multiplyExact", desc := "(II)I", sig := { parameters := [.int, .int], returnType := some .int }, accessFlags := 9, code := some k12c2 }
def k12c3 : Code := { maxStack := 2, maxLocals := 2, code := jdk_29_method_65_code, exceptionTable := #[], attributes := #[] }
def k12m3 : Method := { name := "max", desc := "(II)I", sig := { parameters := [.int, .int], returnType := some .int }, accessFlags := 9, code := some k12c3 }
def k12c4 : Code := { maxStack := 2, maxLocals := 2, code := jdk_29_method_69_code, exceptionTable := #[], attributes := #[] }
def k12m4 : Method := { name := "min", desc := "(II)I", sig := { parameters := [.int, .int], returnType := some .int }, accessFlags := 9, code := some k12c4 }
/-- java/lang/Math -/
def k12 : Class := { plain "java/lang/Math" (some 0) with
  accessFlags := 49
  interfaces := #[]
  cf := some (fileOf pool12 1 #[.nestMembers #[98]] #[{ accessFlags := 2, nameIndex := 7, descriptorIndex := 8, attributes := #[] }, { accessFlags := 9, nameIndex := 393, descriptorIndex := 335, attributes := #[] }, { accessFlags := 9, nameIndex := 120, descriptorIndex := 335, attributes := #[] }, { accessFlags := 9, nameIndex := 198, descriptorIndex := 335, attributes := #[] }, { accessFlags := 9, nameIndex := 201, descriptorIndex := 335, attributes := #[] }] 49 4 #[] #[{ accessFlags := 25, nameIndex := 354, descriptorIndex := 339, attributes := #[] }, { accessFlags := 25, nameIndex := 358, descriptorIndex := 339, attributes := #[] }, { accessFlags := 25, nameIndex := 361, descriptorIndex := 339, attributes := #[] }, { accessFlags := 26, nameIndex := 364, descriptorIndex := 339, attributes := #[] }, { accessFlags := 26, nameIndex := 365, descriptorIndex := 339, attributes := #[] }, { accessFlags := 26, nameIndex := 172, descriptorIndex := 173, attributes := #[] }, { accessFlags := 26, nameIndex := 176, descriptorIndex := 173, attributes := #[] }, { accessFlags := 8, nameIndex := 344, descriptorIndex := 339, attributes := #[] }, { accessFlags := 8, nameIndex := 338, descriptorIndex := 339, attributes := #[] }, { accessFlags := 4120, nameIndex := 245, descriptorIndex := 246, attributes := #[] }])
  fields := #[{ name := "E", type := .double, accessFlags := 25, slot := 0, constantValue := 0 }, { name := "PI", type := .double, accessFlags := 25, slot := 1, constantValue := 0 }, { name := "TAU", type := .double, accessFlags := 25, slot := 2, constantValue := 0 }, { name := "DEGREES_TO_RADIANS", type := .double, accessFlags := 26, slot := 3, constantValue := 0 }, { name := "RADIANS_TO_DEGREES", type := .double, accessFlags := 26, slot := 4, constantValue := 0 }, { name := "negativeZeroFloatBits", type := .long, accessFlags := 26, slot := 5, constantValue := 0 }, { name := "negativeZeroDoubleBits", type := .long, accessFlags := 26, slot := 6, constantValue := 0 }, { name := "twoToTheDoubleScaleUp", type := .double, accessFlags := 8, slot := 7, constantValue := 0 }, { name := "twoToTheDoubleScaleDown", type := .double, accessFlags := 8, slot := 8, constantValue := 0 }, { name := "$assertionsDisabled", type := .boolean, accessFlags := 4120, slot := 9, constantValue := 0 }]
  methods := #[k12m0, k12m1, k12m2, k12m3, k12m4]
  instanceTypes := #[]
  staticTypes := #[.double, .double, .double, .double, .double, .long, .long, .double, .double, .boolean]
  resolved := Array.replicate 460 none
  statics := none }

def pool13 : Array CpInfo := pool [(1, .class_ 2), (0, u "java/lang/Appendable"), (0, .class_ 4), (0, u "java/lang/Object")] 9

/-- java/lang/Appendable -/
def k13 : Class := { plain "java/lang/Appendable" (some 0) with
  accessFlags := 1537
  interfaces := #[]
  cf := some (fileOf pool13 1 #[] #[] 1537 3 #[] #[])
  fields := #[]
  methods := #[]
  instanceTypes := #[]
  staticTypes := #[]
  resolved := Array.replicate 14 none
  statics := none }

def pool14 : Array CpInfo := pool [(1, .class_ 2), (0, u "java/lang/String"), (0, .methodref 4 5), (0, .class_ 6), (0, .nameAndType 7 8), (0, u "java/lang/Object"), (0, u "<init>"), (0, u "()V"), (1, .class_ 12), (1, u "java/lang/AbstractStringBuilder"), (0, u "EMPTYVALUE"), (0, u "[B"), (0, .fieldref 10 16), (0, .nameAndType 17 14), (0, u "value"), (0, .fieldref 1 19), (0, .nameAndType 20 21), (0, u "COMPACT_STRINGS"), (0, u "Z"), (0, .fieldref 10 23), (0, .nameAndType 24 25), (0, u "coder"), (0, u "B"), (6, .methodref 1 33), (0, .nameAndType 34 35), (0, u "length"), (0, u "()I"), (4, .methodref 1 41), (0, .nameAndType 24 42), (0, u "()B"), (2, u "append"), (0, u "(Ljava/lang/String;)Ljava/lang/AbstractStringBuilder;"), (1, .class_ 49), (0, u "java/lang/CharSequence"), (19, u "(Ljava/lang/String;)V"), (5, u "maybeLatin1"), (3, .fieldref 10 80), (0, .nameAndType 81 82), (0, u "count"), (0, u "I"), (0, .methodref 10 84), (0, .nameAndType 85 86), (0, u "isLatin1"), (0, u "()Z"), (1, .class_ 90), (1, u "java/lang/StringLatin1"), (9, .methodref 10 101), (0, .nameAndType 102 103), (0, u "ensureCapacityInternal"), (0, u "(I)V"), (87, .methodref 88 192), (0, .nameAndType 193 194), (0, u "canEncode"), (0, u "(C)Z"), (13, .methodref 10 209), (0, .nameAndType 210 211), (0, u "putStringAt"), (0, u "(ILjava/lang/String;)V"), (5, u "inflateIfNeededFor"), (2, .nameAndType 221 222), (0, u "getBytes"), (0, u "([BIB)V"), (69, u "(C)Ljava/lang/AbstractStringBuilder;"), (104, .methodref 10 398), (0, .nameAndType 217 69), (0, .methodref 1 220), (3, u "()[B"), (40, .class_ 445), (0, u "java/lang/Appendable"), (106, u "getValue")] 56

def k14m0 : Method := { name := "<init>", desc := "()V", sig := { parameters := [], returnType := none }, accessFlags := 0, code := none }
def k14c1 : Code := { maxStack := 2, maxLocals := 2, code := jdk_68_method_2_code, exceptionTable := #[], attributes := #[] }
def k14m1 : Method := { name := "<init>", desc := "(I)V", sig := { parameters := [.int], returnType := none }, accessFlags := 0, code := some k14c1 }
def k14c2 : Code := { maxStack := 1, maxLocals := 1, code := jdk_68_method_6_code, exceptionTable := #[], attributes := #[] }
def k14m2 : Method := { name := "length", desc := "()I", sig := { parameters := [], returnType := some .int }, accessFlags := 1, code := some k14c2 }
def k14c3 : Code := { maxStack := 4, maxLocals := 3, code := jdk_68_method_9_code, exceptionTable := #[], attributes := #[] }
def k14m3 : Method := { name := "ensureCapacityInternal", desc := "(I)V", sig := { parameters := [.int], returnType := none }, accessFlags := 2, code := some k14c3 }
def k14c4 : Code := { maxStack := 3, maxLocals := 3, code := jdk_68_method_22_code, exceptionTable := #[], attributes := #[] }
def k14m4 : Method := { name := "append", desc := "(Ljava/lang/String;)Ljava/lang/AbstractStringBuilder;", sig := { parameters := [(.object "java/lang/String")], returnType := some (.object "java/lang/AbstractStringBuilder") }, accessFlags := 1, code := some k14c4 }
def k14c5 : Code := { maxStack := 5, maxLocals := 2, code := jdk_68_method_31_code, exceptionTable := #[], attributes := #[] }
def k14m5 : Method := { name := "append", desc := "(C)Ljava/lang/AbstractStringBuilder;", sig := { parameters := [.char], returnType := some (.object "java/lang/AbstractStringBuilder") }, accessFlags := 1, code := some k14c5 }
def k14c6 : Code := { maxStack := 1, maxLocals := 1, code := jdk_68_method_64_code, exceptionTable := #[], attributes := #[] }
def k14m6 : Method := { name := "getValue", desc := "()[B", sig := { parameters := [], returnType := some (.array .byte) }, accessFlags := 16, code := some k14c6 }
def k14c7 : Code := { maxStack := 1, maxLocals := 1, code := jdk_68_method_68_code, exceptionTable := #[], attributes := #[] }
def k14m7 : Method := { name := "isLatin1", desc := "()Z", sig := { parameters := [], returnType := some .boolean }, accessFlags := 16, code := some k14c7 }
def k14c8 : Code := { maxStack := 2, maxLocals := 2, code := jdk_68_method_71_code, exceptionTable := #[], attributes := #[] }
def k14m8 : Method := { name := "inflateIfNeededFor", desc := "(Ljava/lang/String;)V", sig := { parameters := [(.object "java/lang/String")], returnType := none }, accessFlags := 2, code := some k14c8 }
def k14c9 : Code := { maxStack := 4, maxLocals := 3, code := jdk_68_method_73_code, exceptionTable := #[], attributes := #[] }
def k14m9 : Method := { name := "putStringAt", desc := "(ILjava/lang/String;)V", sig := { parameters := [.int, (.object "java/lang/String")], returnType := none }, accessFlags := 2, code := some k14c9 }
/-- java/lang/AbstractStringBuilder -/
def k14 : Class := { plain "java/lang/AbstractStringBuilder" (some 0) with
  accessFlags := 1056
  interfaces := #[13, 4]
  cf := some (fileOf pool14 10 #[] #[{ accessFlags := 0, nameIndex := 7, descriptorIndex := 8, attributes := #[] }, { accessFlags := 0, nameIndex := 7, descriptorIndex := 103, attributes := #[] }, { accessFlags := 1, nameIndex := 34, descriptorIndex := 35, attributes := #[] }, { accessFlags := 2, nameIndex := 102, descriptorIndex := 103, attributes := #[] }, { accessFlags := 1, nameIndex := 45, descriptorIndex := 46, attributes := #[] }, { accessFlags := 1, nameIndex := 45, descriptorIndex := 292, attributes := #[] }, { accessFlags := 16, nameIndex := 552, descriptorIndex := 403, attributes := #[] }, { accessFlags := 16, nameIndex := 85, descriptorIndex := 86, attributes := #[] }, { accessFlags := 2, nameIndex := 217, descriptorIndex := 69, attributes := #[] }, { accessFlags := 2, nameIndex := 210, descriptorIndex := 211, attributes := #[] }] 1056 4 #[444, 48] #[{ accessFlags := 0, nameIndex := 17, descriptorIndex := 14, attributes := #[] }, { accessFlags := 0, nameIndex := 24, descriptorIndex := 25, attributes := #[] }, { accessFlags := 0, nameIndex := 75, descriptorIndex := 21, attributes := #[] }, { accessFlags := 0, nameIndex := 81, descriptorIndex := 82, attributes := #[] }, { accessFlags := 26, nameIndex := 13, descriptorIndex := 14, attributes := #[] }])
  fields := #[{ name := "value", type := (.array .byte), accessFlags := 0, slot := 0, constantValue := 0 }, { name := "coder", type := .byte, accessFlags := 0, slot := 1, constantValue := 0 }, { name := "maybeLatin1", type := .boolean, accessFlags := 0, slot := 2, constantValue := 0 }, { name := "count", type := .int, accessFlags := 0, slot := 3, constantValue := 0 }, { name := "EMPTYVALUE", type := (.array .byte), accessFlags := 26, slot := 0, constantValue := 0 }]
  methods := #[k14m0, k14m1, k14m2, k14m3, k14m4, k14m5, k14m6, k14m7, k14m8, k14m9]
  instanceTypes := #[(.array .byte), .byte, .boolean, .int]
  staticTypes := #[(.array .byte)]
  resolved := Array.replicate 609 none
  statics := none }

def pool15 : Array CpInfo := pool [(1, .methodref 2 3), (0, .class_ 4), (0, .nameAndType 5 6), (0, u "java/lang/AbstractStringBuilder"), (0, u "<init>"), (0, u "(I)V"), (11, .class_ 20), (1, u "java/lang/String"), (3, .class_ 26), (1, u "java/lang/StringBuilder"), (0, u "append"), (0, u "(Ljava/lang/String;)Ljava/lang/StringBuilder;"), (0, .methodref 2 30), (0, .nameAndType 27 31), (0, u "(Ljava/lang/String;)Ljava/lang/AbstractStringBuilder;"), (18, .methodref 2 51), (0, .nameAndType 27 52), (0, u "(C)Ljava/lang/AbstractStringBuilder;"), (84, .methodref 18 138), (0, .nameAndType 5 139), (0, u "(Ljava/lang/StringBuilder;)V"), (5, u "()V"), (10, u "()I"), (129, u "(C)Ljava/lang/StringBuilder;"), (56, .methodref 2 344), (0, .nameAndType 345 156), (0, u "length"), (3, .class_ 350), (0, u "java/lang/Appendable"), (0, .class_ 352), (0, u "java/io/Serializable"), (0, .class_ 354), (0, u "java/lang/Comparable"), (0, .class_ 356), (0, u "java/lang/CharSequence"), (0, u "serialVersionUID"), (0, u "J"), (40, u "toString"), (0, u "()Ljava/lang/String;")] 21

def k15c0 : Code := { maxStack := 2, maxLocals := 1, code := jdk_67_method_1_code, exceptionTable := #[], attributes := #[] }
def k15m0 : Method := { name := "<init>", desc := "()V", sig := { parameters := [], returnType := none }, accessFlags := 1, code := some k15c0 }
def k15c1 : Code := { maxStack := 2, maxLocals := 2, code := jdk_67_method_7_code, exceptionTable := #[], attributes := #[] }
def k15m1 : Method := { name := "append", desc := "(Ljava/lang/String;)Ljava/lang/StringBuilder;", sig := { parameters := [(.object "java/lang/String")], returnType := some (.object "java/lang/StringBuilder") }, accessFlags := 1, code := some k15c1 }
def k15c2 : Code := { maxStack := 2, maxLocals := 2, code := jdk_67_method_14_code, exceptionTable := #[], attributes := #[] }
def k15m2 : Method := { name := "append", desc := "(C)Ljava/lang/StringBuilder;", sig := { parameters := [.char], returnType := some (.object "java/lang/StringBuilder") }, accessFlags := 1, code := some k15c2 }
def k15c3 : Code := { maxStack := 3, maxLocals := 1, code := jdk_67_method_42_code, exceptionTable := #[], attributes := #[] }
def k15m3 : Method := { name := "toString", desc := "()Ljava/lang/String;", sig := { parameters := [], returnType := some (.object "java/lang/String") }, accessFlags := 1, code := some k15c3 }
def k15c4 : Code := { maxStack := 1, maxLocals := 1, code := jdk_67_method_93_code, exceptionTable := #[], attributes := #[] }
def k15m4 : Method := { name := "length", desc := "()I", sig := { parameters := [], returnType := some .int }, accessFlags := 4161, code := some k15c4 }
/-- java/lang/StringBuilder -/
def k15 : Class := { plain "java/lang/StringBuilder" (some 14) with
  accessFlags := 49
  interfaces := #[13, 2, 3, 4]
  cf := some (fileOf pool15 24 #[] #[{ accessFlags := 1, nameIndex := 5, descriptorIndex := 145, attributes := #[] }, { accessFlags := 1, nameIndex := 27, descriptorIndex := 28, attributes := #[] }, { accessFlags := 1, nameIndex := 27, descriptorIndex := 286, attributes := #[] }, { accessFlags := 1, nameIndex := 399, descriptorIndex := 400, attributes := #[] }, { accessFlags := 4161, nameIndex := 345, descriptorIndex := 156, attributes := #[] }] 49 2 #[349, 351, 353, 355] #[{ accessFlags := 24, nameIndex := 357, descriptorIndex := 358, attributes := #[] }])
  fields := #[{ name := "serialVersionUID", type := .long, accessFlags := 24, slot := 0, constantValue := 0 }]
  methods := #[k15m0, k15m1, k15m2, k15m3, k15m4]
  instanceTypes := #[(.array .byte), .byte, .boolean, .int]
  staticTypes := #[.long]
  resolved := Array.replicate 422 none
  statics := none }

def pool16 : Array CpInfo := pool [(2, .class_ 4), (1, u "java/lang/Object"), (0, u "<init>"), (0, u "()V"), (1, .class_ 10), (1, u "java/lang/System"), (0, u "allowSecurityManager"), (0, u "I"), (16, u "cons"), (0, u "Ljava/io/Console;"), (77, .class_ 110), (1, u "java/lang/System$CallersHolder"), (43, u "initialErrStream"), (0, u "Ljava/io/PrintStream;"), (19, u "security"), (0, u "Ljava/lang/SecurityManager;"), (31, .class_ 209), (0, u "java/lang/System$1"), (7, u "props"), (0, u "Ljava/util/Properties;"), (2, u "lineSeparator"), (0, u "Ljava/lang/String;"), (96, .class_ 321), (1, u "java/lang/System$LoggerFinder"), (5, .class_ 328), (0, u "java/lang/System$Logger"), (67, u "err"), (2, u "out"), (91, u "notSupportedJnuEncoding"), (15, u "in"), (17, u "initialIn"), (0, u "Ljava/io/InputStream;"), (35, u "bootLayer"), (0, u "Ljava/lang/ModuleLayer;"), (99, .class_ 664), (0, u "java/lang/System$2"), (9, u "NEVER"), (2, u "MAYBE"), (49, u "arraycopy"), (0, u "(Ljava/lang/Object;ILjava/lang/Object;II)V"), (72, .class_ 802), (0, u "java/lang/System$Logger$Level")] 31

def k16m0 : Method := { name := "<init>", desc := "()V", sig := { parameters := [], returnType := none }, accessFlags := 2, code := none }
def k16m1 : Method := { name := "arraycopy", desc := "(Ljava/lang/Object;ILjava/lang/Object;II)V", sig := { parameters := [(.object "java/lang/Object"), .int, (.object "java/lang/Object"), .int, .int], returnType := none }, accessFlags := 265, code := none }
/-- java/lang/System -/
def k16 : Class := { plain "java/lang/System" (some 0) with
  accessFlags := 49
  interfaces := #[]
  cf := some (fileOf pool16 8 #[.nestMembers #[319, 327, 801, 108, 663, 208]] #[{ accessFlags := 2, nameIndex := 5, descriptorIndex := 6, attributes := #[] }, { accessFlags := 265, nameIndex := 727, descriptorIndex := 728, attributes := #[] }] 49 2 #[] #[{ accessFlags := 25, nameIndex := 507, descriptorIndex := 526, attributes := #[] }, { accessFlags := 25, nameIndex := 399, descriptorIndex := 155, attributes := #[] }, { accessFlags := 25, nameIndex := 396, descriptorIndex := 155, attributes := #[] }, { accessFlags := 10, nameIndex := 525, descriptorIndex := 526, attributes := #[] }, { accessFlags := 26, nameIndex := 674, descriptorIndex := 12, attributes := #[] }, { accessFlags := 26, nameIndex := 677, descriptorIndex := 12, attributes := #[] }, { accessFlags := 10, nameIndex := 11, descriptorIndex := 12, attributes := #[] }, { accessFlags := 74, nameIndex := 175, descriptorIndex := 176, attributes := #[] }, { accessFlags := 10, nameIndex := 491, descriptorIndex := 222, attributes := #[] }, { accessFlags := 74, nameIndex := 29, descriptorIndex := 30, attributes := #[] }, { accessFlags := 74, nameIndex := 154, descriptorIndex := 155, attributes := #[] }, { accessFlags := 10, nameIndex := 217, descriptorIndex := 218, attributes := #[] }, { accessFlags := 10, nameIndex := 221, descriptorIndex := 222, attributes := #[] }, { accessFlags := 8, nameIndex := 562, descriptorIndex := 563, attributes := #[] }])
  fields := #[{ name := "in", type := (.object "java/io/InputStream"), accessFlags := 25, slot := 0, constantValue := 0 }, { name := "out", type := (.object "java/io/PrintStream"), accessFlags := 25, slot := 1, constantValue := 0 }, { name := "err", type := (.object "java/io/PrintStream"), accessFlags := 25, slot := 2, constantValue := 0 }, { name := "initialIn", type := (.object "java/io/InputStream"), accessFlags := 10, slot := 3, constantValue := 0 }, { name := "NEVER", type := .int, accessFlags := 26, slot := 4, constantValue := 0 }, { name := "MAYBE", type := .int, accessFlags := 26, slot := 5, constantValue := 0 }, { name := "allowSecurityManager", type := .int, accessFlags := 10, slot := 6, constantValue := 0 }, { name := "security", type := (.object "java/lang/SecurityManager"), accessFlags := 74, slot := 7, constantValue := 0 }, { name := "notSupportedJnuEncoding", type := (.object "java/lang/String"), accessFlags := 10, slot := 8, constantValue := 0 }, { name := "cons", type := (.object "java/io/Console"), accessFlags := 74, slot := 9, constantValue := 0 }, { name := "initialErrStream", type := (.object "java/io/PrintStream"), accessFlags := 74, slot := 10, constantValue := 0 }, { name := "props", type := (.object "java/util/Properties"), accessFlags := 10, slot := 11, constantValue := 0 }, { name := "lineSeparator", type := (.object "java/lang/String"), accessFlags := 10, slot := 12, constantValue := 0 }, { name := "bootLayer", type := (.object "java/lang/ModuleLayer"), accessFlags := 8, slot := 13, constantValue := 0 }]
  methods := #[k16m0, k16m1]
  instanceTypes := #[]
  staticTypes := #[(.object "java/io/InputStream"), (.object "java/io/PrintStream"), (.object "java/io/PrintStream"), (.object "java/io/InputStream"), .int, .int, .int, (.object "java/lang/SecurityManager"), (.object "java/lang/String"), (.object "java/io/Console"), (.object "java/io/PrintStream"), (.object "java/util/Properties"), (.object "java/lang/String"), (.object "java/lang/ModuleLayer")]
  resolved := Array.replicate 834 none
  statics := none }

def pool17 : Array CpInfo := pool [(2, .class_ 4), (1, u "java/lang/Object"), (0, u "<init>"), (0, u "()V"), (7, .class_ 16), (1, u "java/util/Arrays"), (57, .class_ 76), (1, u "java/util/Arrays$NaturalOrder"), (32, u "()Ljava/lang/Object;"), (3, .class_ 115), (1, u "java/util/Arrays$LegacyMergeSort"), (1, u "Z"), (10, .nameAndType 129 109), (0, u "clone"), (9, u "copyOfRange"), (10, .methodref 151 152), (0, .class_ 153), (0, .nameAndType 154 155), (0, u "java/lang/System"), (0, u "arraycopy"), (0, u "(Ljava/lang/Object;ILjava/lang/Object;II)V"), (146, u "copyOf"), (1, .methodref 305 306), (0, .class_ 307), (0, .nameAndType 308 309), (0, u "java/lang/Math"), (0, u "min"), (0, u "(II)I"), (0, .methodref 311 128), (0, .class_ 312), (0, u "[B"), (26, .methodref 14 340), (0, .nameAndType 341 342), (0, u "copyOfRangeByte"), (0, u "([BII)[B"), (0, .methodref 14 344), (0, .nameAndType 345 346), (0, u "checkLength"), (0, u "(II)V"), (28, .class_ 376), (0, u "java/util/Arrays$ArrayList"), (68, u "$assertionsDisabled"), (269, u "MIN_ARRAY_SORT_GRAN"), (0, u "I"), (2, u "INSERTIONSORT_THRESHOLD"), (149, u "([BI)[B"), (105, .class_ 976), (0, u "java/util/Arrays$ArrayItr")] 52

def k17m0 : Method := { name := "<init>", desc := "()V", sig := { parameters := [], returnType := none }, accessFlags := 2, code := none }
def k17c1 : Code := { maxStack := 6, maxLocals := 3, code := jdk_65_method_121_code, exceptionTable := #[], attributes := #[] }
def k17m1 : Method := { name := "copyOf", desc := "([BI)[B", sig := { parameters := [(.array .byte), .int], returnType := some (.array .byte) }, accessFlags := 9, code := some k17c1 }
def k17c2 : Code := { maxStack := 4, maxLocals := 2, code := jdk_65_method_131_code, exceptionTable := #[], attributes := #[] }
def k17m2 : Method := { name := "checkLength", desc := "(II)V", sig := { parameters := [.int, .int], returnType := none }, accessFlags := 10, code := some k17c2 }
def k17c3 : Code := { maxStack := 3, maxLocals := 3, code := jdk_65_method_132_code, exceptionTable := #[], attributes := #[] }
def k17m3 : Method := { name := "copyOfRange", desc := "([BII)[B", sig := { parameters := [(.array .byte), .int, .int], returnType := some (.array .byte) }, accessFlags := 9, code := some k17c3 }
def k17c4 : Code := { maxStack := 6, maxLocals := 5, code := jdk_65_method_133_code, exceptionTable := #[], attributes := #[] }
def k17m4 : Method := { name := "copyOfRangeByte", desc := "([BII)[B", sig := { parameters := [(.array .byte), .int, .int], returnType := some (.array .byte) }, accessFlags := 10, code := some k17c4 }
/-- java/util/Arrays -/
def k17 : Class := { plain "java/util/Arrays" (some 0) with
  accessFlags := 49
  interfaces := #[]
  cf := some (fileOf pool17 14 #[.nestMembers #[975, 375, 113, 74]] #[{ accessFlags := 2, nameIndex := 5, descriptorIndex := 6, attributes := #[] }, { accessFlags := 9, nameIndex := 302, descriptorIndex := 869, attributes := #[] }, { accessFlags := 10, nameIndex := 345, descriptorIndex := 346, attributes := #[] }, { accessFlags := 9, nameIndex := 139, descriptorIndex := 342, attributes := #[] }, { accessFlags := 10, nameIndex := 341, descriptorIndex := 342, attributes := #[] }] 49 2 #[] #[{ accessFlags := 26, nameIndex := 715, descriptorIndex := 716, attributes := #[] }, { accessFlags := 26, nameIndex := 719, descriptorIndex := 716, attributes := #[] }, { accessFlags := 4120, nameIndex := 445, descriptorIndex := 117, attributes := #[] }])
  fields := #[{ name := "MIN_ARRAY_SORT_GRAN", type := .int, accessFlags := 26, slot := 0, constantValue := 0 }, { name := "INSERTIONSORT_THRESHOLD", type := .int, accessFlags := 26, slot := 1, constantValue := 0 }, { name := "$assertionsDisabled", type := .boolean, accessFlags := 4120, slot := 2, constantValue := 0 }]
  methods := #[k17m0, k17m1, k17m2, k17m3, k17m4]
  instanceTypes := #[]
  staticTypes := #[.int, .int, .boolean]
  resolved := Array.replicate 1029 none
  statics := none }

def pool18 : Array CpInfo := pool [(2, .class_ 4), (1, u "java/lang/Object"), (0, u "<init>"), (0, u "()V"), (0, .fieldref 8 9), (0, .class_ 10), (0, .nameAndType 11 12), (0, u "com/example/edgewise/edgewise/OpaqueText"), (0, u "ENCODER"), (0, u "Ljava/util/Base64$Encoder;"), (0, .fieldref 14 15), (0, .class_ 16), (0, .nameAndType 17 18), (0, u "java/nio/charset/StandardCharsets"), (0, u "UTF_8"), (0, u "Ljava/nio/charset/Charset;"), (0, .methodref 20 21), (0, .class_ 22), (0, .nameAndType 23 24), (0, u "java/lang/String"), (0, u "getBytes"), (0, u "(Ljava/nio/charset/Charset;)[B"), (0, .methodref 26 27), (0, .class_ 28), (0, .nameAndType 29 30), (0, u "java/util/Base64$Encoder"), (0, u "encodeToString"), (0, u "([B)Ljava/lang/String;"), (94, u "encode"), (0, u "(Ljava/lang/String;)Ljava/lang/String;")] 9

def k18m0 : Method := { name := "<init>", desc := "()V", sig := { parameters := [], returnType := none }, accessFlags := 2, code := none }
def k18c1 : Code := { maxStack := 3, maxLocals := 1, code := prog_14_method_2_code, exceptionTable := #[], attributes := #[] }
def k18m1 : Method := { name := "encode", desc := "(Ljava/lang/String;)Ljava/lang/String;", sig := { parameters := [(.object "java/lang/String")], returnType := some (.object "java/lang/String") }, accessFlags := 8, code := some k18c1 }
/-- com/example/edgewise/edgewise/OpaqueText -/
def k18 : Class := { plain "com/example/edgewise/edgewise/OpaqueText" (some 0) with
  accessFlags := 32
  interfaces := #[]
  cf := some (fileOf pool18 8 #[] #[{ accessFlags := 2, nameIndex := 5, descriptorIndex := 6, attributes := #[] }, { accessFlags := 8, nameIndex := 125, descriptorIndex := 126, attributes := #[] }] 32 2 #[] #[{ accessFlags := 26, nameIndex := 11, descriptorIndex := 12, attributes := #[] }])
  fields := #[{ name := "ENCODER", type := (.object "java/util/Base64$Encoder"), accessFlags := 26, slot := 0, constantValue := 0 }]
  methods := #[k18m0, k18m1]
  instanceTypes := #[]
  staticTypes := #[(.object "java/util/Base64$Encoder")]
  resolved := Array.replicate 136 none
  statics := some 1 }

def pool19 : Array CpInfo := pool [(2, .class_ 4), (1, u "java/lang/Object"), (0, u "<init>"), (0, u "()V"), (14, .class_ 23), (1, u "java/nio/charset/StandardCharsets"), (0, u "US_ASCII"), (0, u "Ljava/nio/charset/Charset;"), (7, u "ISO_8859_1"), (7, u "UTF_8"), (5, u "UTF_16BE"), (5, u "UTF_16LE"), (5, u "UTF_16")] 8

def k19m0 : Method := { name := "<init>", desc := "()V", sig := { parameters := [], returnType := none }, accessFlags := 2, code := none }
/-- java/nio/charset/StandardCharsets -/
def k19 : Class := { plain "java/nio/charset/StandardCharsets" (some 0) with
  accessFlags := 49
  interfaces := #[]
  cf := some (fileOf pool19 21 #[] #[{ accessFlags := 2, nameIndex := 5, descriptorIndex := 6, attributes := #[] }] 49 2 #[] #[{ accessFlags := 25, nameIndex := 24, descriptorIndex := 25, attributes := #[] }, { accessFlags := 25, nameIndex := 33, descriptorIndex := 25, attributes := #[] }, { accessFlags := 25, nameIndex := 41, descriptorIndex := 25, attributes := #[] }, { accessFlags := 25, nameIndex := 47, descriptorIndex := 25, attributes := #[] }, { accessFlags := 25, nameIndex := 53, descriptorIndex := 25, attributes := #[] }, { accessFlags := 25, nameIndex := 59, descriptorIndex := 25, attributes := #[] }])
  fields := #[{ name := "US_ASCII", type := (.object "java/nio/charset/Charset"), accessFlags := 25, slot := 0, constantValue := 0 }, { name := "ISO_8859_1", type := (.object "java/nio/charset/Charset"), accessFlags := 25, slot := 1, constantValue := 0 }, { name := "UTF_8", type := (.object "java/nio/charset/Charset"), accessFlags := 25, slot := 2, constantValue := 0 }, { name := "UTF_16BE", type := (.object "java/nio/charset/Charset"), accessFlags := 25, slot := 3, constantValue := 0 }, { name := "UTF_16LE", type := (.object "java/nio/charset/Charset"), accessFlags := 25, slot := 4, constantValue := 0 }, { name := "UTF_16", type := (.object "java/nio/charset/Charset"), accessFlags := 25, slot := 5, constantValue := 0 }]
  methods := #[k19m0]
  instanceTypes := #[]
  staticTypes := #[(.object "java/nio/charset/Charset"), (.object "java/nio/charset/Charset"), (.object "java/nio/charset/Charset"), (.object "java/nio/charset/Charset"), (.object "java/nio/charset/Charset"), (.object "java/nio/charset/Charset")]
  resolved := Array.replicate 68 none
  statics := some 2 }

def pool20 : Array CpInfo := pool [(18, .class_ 20), (1, u "java/nio/charset/Charset"), (0, u "cache1"), (0, u "[Ljava/lang/Object;"), (2, u "cache2"), (0, .class_ 27), (0, u "java/lang/Object"), (0, .class_ 29), (0, u "java/nio/charset/Charset$1"), (4, .class_ 36), (1, u "java/nio/charset/Charset$ThreadTrackHolder"), (21, .class_ 59), (0, u "java/nio/charset/Charset$2"), (11, .class_ 73), (1, u "java/nio/charset/Charset$ExtendedProviderHolder"), (22, u "standardProvider"), (0, u "Ljava/nio/charset/spi/CharsetProvider;"), (29, u "name"), (7, .class_ 136), (0, u "java/nio/charset/Charset$3"), (5, u "defaultCharset"), (0, u "Ljava/nio/charset/Charset;"), (14, u "zeroAliases"), (0, u "[Ljava/lang/String;"), (29, u "Ljava/lang/String;"), (2, u "aliases"), (2, u "aliasSet"), (0, u "Ljava/util/Set;"), (82, .class_ 280), (0, u "java/lang/Comparable"), (84, .class_ 366), (0, u "java/nio/charset/Charset$ExtendedProviderHolder$1")] 3

/-- java/nio/charset/Charset -/
def k20 : Class := { plain "java/nio/charset/Charset" (some 0) with
  accessFlags := 1057
  interfaces := #[3]
  cf := some (fileOf pool20 18 #[.nestMembers #[71, 365, 34, 135, 58, 28]] #[] 1057 26 #[279] #[{ accessFlags := 26, nameIndex := 96, descriptorIndex := 97, attributes := #[] }, { accessFlags := 26, nameIndex := 158, descriptorIndex := 159, attributes := #[] }, { accessFlags := 74, nameIndex := 21, descriptorIndex := 22, attributes := #[] }, { accessFlags := 74, nameIndex := 25, descriptorIndex := 22, attributes := #[] }, { accessFlags := 10, nameIndex := 142, descriptorIndex := 143, attributes := #[] }, { accessFlags := 18, nameIndex := 127, descriptorIndex := 189, attributes := #[] }, { accessFlags := 18, nameIndex := 192, descriptorIndex := 159, attributes := #[] }, { accessFlags := 2, nameIndex := 195, descriptorIndex := 196, attributes := #[] }])
  fields := #[{ name := "standardProvider", type := (.object "java/nio/charset/spi/CharsetProvider"), accessFlags := 26, slot := 0, constantValue := 0 }, { name := "zeroAliases", type := (.array (.object "java/lang/String")), accessFlags := 26, slot := 1, constantValue := 0 }, { name := "cache1", type := (.array (.object "java/lang/Object")), accessFlags := 74, slot := 2, constantValue := 0 }, { name := "cache2", type := (.array (.object "java/lang/Object")), accessFlags := 74, slot := 3, constantValue := 0 }, { name := "defaultCharset", type := (.object "java/nio/charset/Charset"), accessFlags := 10, slot := 4, constantValue := 0 }, { name := "name", type := (.object "java/lang/String"), accessFlags := 18, slot := 0, constantValue := 0 }, { name := "aliases", type := (.array (.object "java/lang/String")), accessFlags := 18, slot := 1, constantValue := 0 }, { name := "aliasSet", type := (.object "java/util/Set"), accessFlags := 2, slot := 2, constantValue := 0 }]
  methods := #[]
  instanceTypes := #[(.object "java/lang/String"), (.array (.object "java/lang/String")), (.object "java/util/Set")]
  staticTypes := #[(.object "java/nio/charset/spi/CharsetProvider"), (.array (.object "java/lang/String")), (.array (.object "java/lang/Object")), (.array (.object "java/lang/Object")), (.object "java/nio/charset/Charset")]
  resolved := Array.replicate 370 none
  statics := none }

def pool21 : Array CpInfo := pool [(1, .class_ 2), (0, u "sun/nio/cs/HistoricallyNamedCharset"), (0, .class_ 4), (0, u "java/lang/Object")] 4

/-- sun/nio/cs/HistoricallyNamedCharset -/
def k21 : Class := { plain "sun/nio/cs/HistoricallyNamedCharset" (some 0) with
  accessFlags := 1537
  interfaces := #[]
  cf := some (fileOf pool21 1 #[] #[] 1537 3 #[] #[])
  fields := #[]
  methods := #[]
  instanceTypes := #[]
  staticTypes := #[]
  resolved := Array.replicate 9 none
  statics := none }

def pool22 : Array CpInfo := pool [(2, .class_ 4), (1, u "java/nio/charset/Charset"), (130, .class_ 136), (0, u "sun/nio/cs/Unicode"), (0, .class_ 138), (0, u "sun/nio/cs/HistoricallyNamedCharset")] 15

/-- sun/nio/cs/Unicode -/
def k22 : Class := { plain "sun/nio/cs/Unicode" (some 20) with
  accessFlags := 1056
  interfaces := #[21]
  cf := some (fileOf pool22 135 #[] #[] 1056 2 #[137] #[])
  fields := #[]
  methods := #[]
  instanceTypes := #[(.object "java/lang/String"), (.array (.object "java/lang/String")), (.object "java/util/Set")]
  staticTypes := #[]
  resolved := Array.replicate 154 none
  statics := none }

def pool23 : Array CpInfo := pool [(10, .class_ 12), (1, u "sun/nio/cs/Unicode"), (0, u "<init>"), (3, .class_ 18), (0, u "sun/nio/cs/UTF_8$Decoder"), (3, .class_ 23), (0, u "sun/nio/cs/UTF_8$Encoder"), (15, .class_ 40), (0, u "sun/nio/cs/UTF_8"), (2, u "()V"), (2, u "INSTANCE"), (0, u "Lsun/nio/cs/UTF_8;"), (8, u "JLA"), (0, u "Ljdk/internal/access/JavaLangAccess;")] 26

def k23m0 : Method := { name := "<init>", desc := "()V", sig := { parameters := [], returnType := none }, accessFlags := 1, code := none }
/-- sun/nio/cs/UTF_8 -/
def k23 : Class := { plain "sun/nio/cs/UTF_8" (some 22) with
  accessFlags := 49
  interfaces := #[]
  cf := some (fileOf pool23 39 #[.nestMembers #[22, 17]] #[{ accessFlags := 1, nameIndex := 13, descriptorIndex := 43, attributes := #[] }] 49 10 #[] #[{ accessFlags := 25, nameIndex := 46, descriptorIndex := 47, attributes := #[] }, { accessFlags := 26, nameIndex := 56, descriptorIndex := 57, attributes := #[] }])
  fields := #[{ name := "INSTANCE", type := (.object "sun/nio/cs/UTF_8"), accessFlags := 25, slot := 0, constantValue := 0 }, { name := "JLA", type := (.object "jdk/internal/access/JavaLangAccess"), accessFlags := 26, slot := 1, constantValue := 0 }]
  methods := #[k23m0]
  instanceTypes := #[(.object "java/lang/String"), (.array (.object "java/lang/String")), (.object "java/util/Set")]
  staticTypes := #[(.object "sun/nio/cs/UTF_8"), (.object "jdk/internal/access/JavaLangAccess")]
  resolved := Array.replicate 84 none
  statics := some 3 }

def pool24 : Array CpInfo := pool [(2, .class_ 4), (1, u "java/lang/Object"), (0, u "<init>"), (0, u "()V"), (0, .methodref 8 9), (0, .class_ 10), (0, .nameAndType 11 12), (0, u "java/lang/StringCoding"), (0, u "countPositives"), (0, u "([BII)I"), (11, u "hasNegatives"), (0, u "([BII)Z")] 23

def k24m0 : Method := { name := "<init>", desc := "()V", sig := { parameters := [], returnType := none }, accessFlags := 2, code := none }
def k24c1 : Code := { maxStack := 3, maxLocals := 3, code := jdk_123_method_2_code, exceptionTable := #[], attributes := #[] }
def k24m1 : Method := { name := "hasNegatives", desc := "([BII)Z", sig := { parameters := [(.array .byte), .int, .int], returnType := some .boolean }, accessFlags := 9, code := some k24c1 }
def k24c2 : Code := { maxStack := 2, maxLocals := 5, code := jdk_123_method_3_code, exceptionTable := #[], attributes := #[] }
def k24m2 : Method := { name := "countPositives", desc := "([BII)I", sig := { parameters := [(.array .byte), .int, .int], returnType := some .int }, accessFlags := 9, code := some k24c2 }
/-- java/lang/StringCoding -/
def k24 : Class := { plain "java/lang/StringCoding" (some 0) with
  accessFlags := 32
  interfaces := #[]
  cf := some (fileOf pool24 8 #[] #[{ accessFlags := 2, nameIndex := 5, descriptorIndex := 6, attributes := #[] }, { accessFlags := 9, nameIndex := 24, descriptorIndex := 25, attributes := #[] }, { accessFlags := 9, nameIndex := 11, descriptorIndex := 12, attributes := #[] }] 32 2 #[] #[])
  fields := #[]
  methods := #[k24m0, k24m1, k24m2]
  instanceTypes := #[]
  staticTypes := #[]
  resolved := Array.replicate 49 none
  statics := none }

def pool25 : Array CpInfo := pool [(1, .class_ 2), (0, u "java/lang/Cloneable"), (0, .class_ 4), (0, u "java/lang/Object")] 2

/-- java/lang/Cloneable -/
def k25 : Class := { plain "java/lang/Cloneable" (some 0) with
  accessFlags := 1537
  interfaces := #[]
  cf := some (fileOf pool25 1 #[] #[] 1537 3 #[] #[])
  fields := #[]
  methods := #[]
  instanceTypes := #[]
  staticTypes := #[]
  resolved := Array.replicate 7 none
  statics := none }

def pool26 : Array CpInfo := pool [(2, .class_ 4), (1, u "java/lang/Object"), (0, u "<init>"), (1, .fieldref 8 9), (0, .class_ 10), (0, .nameAndType 11 12), (0, u "java/util/Base64$Encoder"), (0, u "isURL"), (0, u "Z"), (2, u "newline"), (0, u "[B"), (0, .fieldref 8 18), (0, .nameAndType 19 20), (0, u "linemax"), (0, u "I"), (0, .fieldref 8 22), (0, .nameAndType 23 12), (0, u "doPadding"), (0, .methodref 25 26), (0, .class_ 27), (0, .nameAndType 28 29), (0, u "java/lang/Math"), (0, u "addExact"), (0, u "(II)I"), (0, .methodref 25 31), (0, .nameAndType 32 29), (0, u "multiplyExact"), (9, .methodref 8 43), (0, .nameAndType 44 45), (0, u "encodedOutLength"), (0, u "(IZ)I"), (0, .methodref 8 47), (0, .nameAndType 48 49), (0, u "encode0"), (0, u "([BII[B)I"), (11, .methodref 8 62), (0, .nameAndType 63 64), (0, u "encode"), (0, u "([B)[B"), (0, .class_ 66), (0, u "java/lang/String"), (0, .methodref 65 68), (0, .nameAndType 5 69), (0, u "([BIII)V"), (41, .fieldref 8 112), (0, .nameAndType 113 114), (0, u "toBase64URL"), (0, u "[C"), (2, u "toBase64"), (6, .methodref 25 125), (0, .nameAndType 126 29), (0, u "min"), (0, .methodref 8 128), (0, .nameAndType 129 130), (0, u "encodeBlock"), (0, u "([BII[BIZ)V"), (2, u "CRLF"), (2, u "RFC4648"), (0, u "Ljava/util/Base64$Encoder;"), (2, u "RFC4648_URLSAFE"), (2, u "RFC2045"), (0, u "MIMELINEMAX"), (18, u "encodeToString"), (0, u "([B)Ljava/lang/String;"), (34, .class_ 200), (0, u "java/util/Base64")] 3

def k26c0 : Code := { maxStack := 3, maxLocals := 5, code := jdk_2452_method_2_code, exceptionTable := #[{ startPc := 2, endPc := 79, handlerPc := 82, catchType := 33 }], attributes := #[] }
def k26m0 : Method := { name := "encodedOutLength", desc := "(IZ)I", sig := { parameters := [.int, .boolean], returnType := some .int }, accessFlags := 18, code := some k26c0 }
def k26c1 : Code := { maxStack := 5, maxLocals := 5, code := jdk_2452_method_3_code, exceptionTable := #[], attributes := #[] }
def k26m1 : Method := { name := "encode", desc := "([B)[B", sig := { parameters := [(.array .byte)], returnType := some (.array .byte) }, accessFlags := 1, code := some k26c1 }
def k26c2 : Code := { maxStack := 6, maxLocals := 3, code := jdk_2452_method_5_code, exceptionTable := #[], attributes := #[] }
def k26m2 : Method := { name := "encodeToString", desc := "([B)Ljava/lang/String;", sig := { parameters := [(.array .byte)], returnType := some (.object "java/lang/String") }, accessFlags := 1, code := some k26c2 }
def k26c3 : Code := { maxStack := 5, maxLocals := 11, code := jdk_2452_method_9_code, exceptionTable := #[], attributes := #[] }
def k26m3 : Method := { name := "encodeBlock", desc := "([BII[BIZ)V", sig := { parameters := [(.array .byte), .int, .int, (.array .byte), .int, .boolean], returnType := none }, accessFlags := 2, code := some k26c3 }
def k26c4 : Code := { maxStack := 7, maxLocals := 16, code := jdk_2452_method_10_code, exceptionTable := #[], attributes := #[] }
def k26m4 : Method := { name := "encode0", desc := "([BII[B)I", sig := { parameters := [(.array .byte), .int, .int, (.array .byte)], returnType := some .int }, accessFlags := 2, code := some k26c4 }
/-- java/util/Base64$Encoder -/
def k26 : Class := { plain "java/util/Base64$Encoder" (some 0) with
  accessFlags := 33
  interfaces := #[]
  cf := some (fileOf pool26 8 #[.nestHost 199] #[{ accessFlags := 18, nameIndex := 44, descriptorIndex := 45, attributes := #[] }, { accessFlags := 1, nameIndex := 63, descriptorIndex := 64, attributes := #[] }, { accessFlags := 1, nameIndex := 163, descriptorIndex := 164, attributes := #[] }, { accessFlags := 2, nameIndex := 129, descriptorIndex := 130, attributes := #[] }, { accessFlags := 2, nameIndex := 48, descriptorIndex := 49, attributes := #[] }] 33 2 #[] #[{ accessFlags := 18, nameIndex := 15, descriptorIndex := 16, attributes := #[] }, { accessFlags := 18, nameIndex := 19, descriptorIndex := 20, attributes := #[] }, { accessFlags := 18, nameIndex := 11, descriptorIndex := 12, attributes := #[] }, { accessFlags := 18, nameIndex := 23, descriptorIndex := 12, attributes := #[] }, { accessFlags := 26, nameIndex := 117, descriptorIndex := 114, attributes := #[] }, { accessFlags := 26, nameIndex := 113, descriptorIndex := 114, attributes := #[] }, { accessFlags := 26, nameIndex := 144, descriptorIndex := 20, attributes := #[] }, { accessFlags := 26, nameIndex := 133, descriptorIndex := 16, attributes := #[] }, { accessFlags := 24, nameIndex := 136, descriptorIndex := 137, attributes := #[] }, { accessFlags := 24, nameIndex := 140, descriptorIndex := 137, attributes := #[] }, { accessFlags := 24, nameIndex := 143, descriptorIndex := 137, attributes := #[] }])
  fields := #[{ name := "newline", type := (.array .byte), accessFlags := 18, slot := 0, constantValue := 0 }, { name := "linemax", type := .int, accessFlags := 18, slot := 1, constantValue := 0 }, { name := "isURL", type := .boolean, accessFlags := 18, slot := 2, constantValue := 0 }, { name := "doPadding", type := .boolean, accessFlags := 18, slot := 3, constantValue := 0 }, { name := "toBase64", type := (.array .char), accessFlags := 26, slot := 0, constantValue := 0 }, { name := "toBase64URL", type := (.array .char), accessFlags := 26, slot := 1, constantValue := 0 }, { name := "MIMELINEMAX", type := .int, accessFlags := 26, slot := 2, constantValue := 0 }, { name := "CRLF", type := (.array .byte), accessFlags := 26, slot := 3, constantValue := 0 }, { name := "RFC4648", type := (.object "java/util/Base64$Encoder"), accessFlags := 24, slot := 4, constantValue := 0 }, { name := "RFC4648_URLSAFE", type := (.object "java/util/Base64$Encoder"), accessFlags := 24, slot := 5, constantValue := 0 }, { name := "RFC2045", type := (.object "java/util/Base64$Encoder"), accessFlags := 24, slot := 6, constantValue := 0 }]
  methods := #[k26m0, k26m1, k26m2, k26m3, k26m4]
  instanceTypes := #[(.array .byte), .int, .boolean, .boolean]
  staticTypes := #[(.array .char), (.array .char), .int, (.array .byte), (.object "java/util/Base64$Encoder"), (.object "java/util/Base64$Encoder"), (.object "java/util/Base64$Encoder")]
  resolved := Array.replicate 204 none
  statics := some 4 }

def pool27 : Array CpInfo := pool [(2, .class_ 4), (1, u "java/lang/Object"), (0, u "<init>"), (0, u "()V"), (17, .class_ 26), (1, u "jdk/internal/util/Preconditions"), (6, u "checkIndex"), (15, u "checkFromIndexSize"), (5, .class_ 56), (0, u "jdk/internal/util/Preconditions$4"), (57, .class_ 115), (0, u "jdk/internal/util/Preconditions$1"), (7, u "SIOOBE_FORMATTER"), (0, u "Ljava/util/function/BiFunction;"), (0, .class_ 126), (0, u "jdk/internal/util/Preconditions$2"), (3, u "AIOOBE_FORMATTER"), (0, .class_ 132), (0, u "jdk/internal/util/Preconditions$3"), (3, u "IOOBE_FORMATTER"), (41, u "(IILjava/util/function/BiFunction;)I"), (4, u "(IIILjava/util/function/BiFunction;)I")] 10

def k27m0 : Method := { name := "<init>", desc := "()V", sig := { parameters := [], returnType := none }, accessFlags := 1, code := none }
def k27c1 : Code := { maxStack := 3, maxLocals := 3, code := jdk_41_method_11_code, exceptionTable := #[], attributes := #[] }
def k27m1 : Method := { name := "checkIndex", desc := "(IILjava/util/function/BiFunction;)I", sig := { parameters := [.int, .int, (.object "java/util/function/BiFunction")], returnType := some .int }, accessFlags := 9, code := some k27c1 }
def k27c2 : Code := { maxStack := 4, maxLocals := 4, code := jdk_41_method_13_code, exceptionTable := #[], attributes := #[] }
def k27m2 : Method := { name := "checkFromIndexSize", desc := "(IIILjava/util/function/BiFunction;)I", sig := { parameters := [.int, .int, .int, (.object "java/util/function/BiFunction")], returnType := some .int }, accessFlags := 9, code := some k27c2 }
/-- jdk/internal/util/Preconditions -/
def k27 : Class := { plain "jdk/internal/util/Preconditions" (some 0) with
  accessFlags := 33
  interfaces := #[]
  cf := some (fileOf pool27 24 #[.nestMembers #[55, 131, 125, 114]] #[{ accessFlags := 1, nameIndex := 5, descriptorIndex := 6, attributes := #[] }, { accessFlags := 9, nameIndex := 33, descriptorIndex := 178, attributes := #[] }, { accessFlags := 9, nameIndex := 49, descriptorIndex := 183, attributes := #[] }] 33 2 #[] #[{ accessFlags := 25, nameIndex := 123, descriptorIndex := 124, attributes := #[] }, { accessFlags := 25, nameIndex := 130, descriptorIndex := 124, attributes := #[] }, { accessFlags := 25, nameIndex := 136, descriptorIndex := 124, attributes := #[] }])
  fields := #[{ name := "SIOOBE_FORMATTER", type := (.object "java/util/function/BiFunction"), accessFlags := 25, slot := 0, constantValue := 0 }, { name := "AIOOBE_FORMATTER", type := (.object "java/util/function/BiFunction"), accessFlags := 25, slot := 1, constantValue := 0 }, { name := "IOOBE_FORMATTER", type := (.object "java/util/function/BiFunction"), accessFlags := 25, slot := 2, constantValue := 0 }]
  methods := #[k27m0, k27m1, k27m2]
  instanceTypes := #[]
  staticTypes := #[(.object "java/util/function/BiFunction"), (.object "java/util/function/BiFunction"), (.object "java/util/function/BiFunction")]
  resolved := Array.replicate 194 none
  statics := some 5 }

def pool28 : Array CpInfo := pool [(6, .class_ 8), (1, u "java/lang/Object"), (0, u "<init>"), (0, u "()V"), (0, .methodref 12 13), (0, .class_ 14), (0, .nameAndType 15 16), (0, u "java/lang/StringUTF16"), (0, u "newBytesLength"), (0, u "(I)I"), (3, .integer 1073741823), (25, u "$assertionsDisabled"), (0, u "Z"), (13, u "HI_BYTE_SHIFT"), (0, u "I"), (2, u "LO_BYTE_SHIFT"), (43, u "newBytesFor"), (0, u "(I)[B"), (4, .methodref 12 116), (0, .nameAndType 117 118), (0, u "compress"), (0, u "([CI[BII)I"), (3, u "([CII)[B"), (138, u "coderFromArrayLen"), (0, u "([BI)B"), (106, .class_ 371), (1, u "java/lang/StringUTF16$LinesSpliterator"), (58, u "MAX_LENGTH"), (196, .class_ 628), (0, u "java/lang/StringUTF16$CodePointsSpliterator"), (0, .class_ 630), (0, u "java/lang/StringUTF16$CharsSpliterator")] 4

def k28m0 : Method := { name := "<init>", desc := "()V", sig := { parameters := [], returnType := none }, accessFlags := 0, code := none }
def k28c1 : Code := { maxStack := 1, maxLocals := 1, code := jdk_52_method_2_code, exceptionTable := #[], attributes := #[] }
def k28m1 : Method := { name := "newBytesFor", desc := "(I)[B", sig := { parameters := [.int], returnType := some (.array .byte) }, accessFlags := 9, code := some k28c1 }
def k28c2 : Code := { maxStack := 4, maxLocals := 1, code := jdk_52_method_3_code, exceptionTable := #[], attributes := #[] }
def k28m2 : Method := { name := "newBytesLength", desc := "(I)I", sig := { parameters := [.int], returnType := some .int }, accessFlags := 9, code := some k28c2 }
def k28c3 : Code := { maxStack := 2, maxLocals := 2, code := jdk_52_method_15_code, exceptionTable := #[], attributes := #[] }
def k28m3 : Method := { name := "coderFromArrayLen", desc := "([BI)B", sig := { parameters := [(.array .byte), .int], returnType := some .byte }, accessFlags := 8, code := some k28c3 }
def k28c4 : Code := { maxStack := 5, maxLocals := 6, code := jdk_52_method_16_code, exceptionTable := #[], attributes := #[] }
def k28m4 : Method := { name := "compress", desc := "([CII)[B", sig := { parameters := [(.array .char), .int, .int], returnType := some (.array .byte) }, accessFlags := 9, code := some k28c4 }
def k28c5 : Code := { maxStack := 3, maxLocals := 7, code := jdk_52_method_21_code, exceptionTable := #[], attributes := #[] }
def k28m5 : Method := { name := "compress", desc := "([CI[BII)I", sig := { parameters := [(.array .char), .int, (.array .byte), .int, .int], returnType := some .int }, accessFlags := 9, code := some k28c5 }
/-- java/lang/StringUTF16 -/
def k28 : Class := { plain "java/lang/StringUTF16" (some 0) with
  accessFlags := 48
  interfaces := #[]
  cf := some (fileOf pool28 12 #[.nestMembers #[627, 629, 369]] #[{ accessFlags := 0, nameIndex := 9, descriptorIndex := 10, attributes := #[] }, { accessFlags := 9, nameIndex := 109, descriptorIndex := 110, attributes := #[] }, { accessFlags := 9, nameIndex := 15, descriptorIndex := 16, attributes := #[] }, { accessFlags := 8, nameIndex := 261, descriptorIndex := 262, attributes := #[] }, { accessFlags := 9, nameIndex := 117, descriptorIndex := 122, attributes := #[] }, { accessFlags := 9, nameIndex := 117, descriptorIndex := 118, attributes := #[] }] 48 6 #[] #[{ accessFlags := 26, nameIndex := 61, descriptorIndex := 62, attributes := #[] }, { accessFlags := 26, nameIndex := 65, descriptorIndex := 62, attributes := #[] }, { accessFlags := 24, nameIndex := 430, descriptorIndex := 62, attributes := #[] }, { accessFlags := 4120, nameIndex := 46, descriptorIndex := 47, attributes := #[] }])
  fields := #[{ name := "HI_BYTE_SHIFT", type := .int, accessFlags := 26, slot := 0, constantValue := 0 }, { name := "LO_BYTE_SHIFT", type := .int, accessFlags := 26, slot := 1, constantValue := 0 }, { name := "MAX_LENGTH", type := .int, accessFlags := 24, slot := 2, constantValue := 0 }, { name := "$assertionsDisabled", type := .boolean, accessFlags := 4120, slot := 3, constantValue := 0 }]
  methods := #[k28m0, k28m1, k28m2, k28m3, k28m4, k28m5]
  instanceTypes := #[]
  staticTypes := #[.int, .int, .int, .boolean]
  resolved := Array.replicate 635 none
  statics := none }

def pool29 : Array CpInfo := pool [(9, u "<init>"), (6, .class_ 18), (1, u "java/lang/Object"), (0, u "()V"), (1, .class_ 23), (1, u "jdk/internal/util/ArraysSupport"), (0, u "LOG2_ARRAY_LONG_INDEX_SCALE"), (0, u "I"), (2, u "U"), (0, u "Ljdk/internal/misc/Unsafe;"), (8, u "BIG_ENDIAN"), (0, u "Z"), (8, u "LOG2_BYTE_BIT_SIZE"), (4, u "LOG2_ARRAY_INT_INDEX_SCALE"), (54, u "JLA"), (0, u "Ljdk/internal/access/JavaLangAccess;"), (11, u "LOG2_ARRAY_BOOLEAN_INDEX_SCALE"), (9, u "LOG2_ARRAY_BYTE_INDEX_SCALE"), (5, u "LOG2_ARRAY_CHAR_INDEX_SCALE"), (5, u "LOG2_ARRAY_SHORT_INDEX_SCALE"), (18, u "LOG2_ARRAY_FLOAT_INDEX_SCALE"), (24, u "LOG2_ARRAY_DOUBLE_INDEX_SCALE"), (89, u "T_BOOLEAN"), (2, u "T_CHAR"), (1, u "T_FLOAT"), (1, u "T_DOUBLE"), (1, u "T_BYTE"), (1, u "T_SHORT"), (1, u "T_INT"), (1, u "T_LONG"), (1, u "SOFT_MAX_ARRAY_LENGTH")] 83

def k29m0 : Method := { name := "<init>", desc := "()V", sig := { parameters := [], returnType := none }, accessFlags := 2, code := none }
/-- jdk/internal/util/ArraysSupport -/
def k29 : Class := { plain "jdk/internal/util/ArraysSupport" (some 0) with
  accessFlags := 33
  interfaces := #[]
  cf := some (fileOf pool29 21 #[] #[{ accessFlags := 2, nameIndex := 9, descriptorIndex := 19, attributes := #[] }] 33 16 #[] #[{ accessFlags := 24, nameIndex := 28, descriptorIndex := 29, attributes := #[] }, { accessFlags := 26, nameIndex := 38, descriptorIndex := 39, attributes := #[] }, { accessFlags := 25, nameIndex := 121, descriptorIndex := 25, attributes := #[] }, { accessFlags := 25, nameIndex := 131, descriptorIndex := 25, attributes := #[] }, { accessFlags := 25, nameIndex := 137, descriptorIndex := 25, attributes := #[] }, { accessFlags := 25, nameIndex := 143, descriptorIndex := 25, attributes := #[] }, { accessFlags := 25, nameIndex := 53, descriptorIndex := 25, attributes := #[] }, { accessFlags := 25, nameIndex := 24, descriptorIndex := 25, attributes := #[] }, { accessFlags := 25, nameIndex := 162, descriptorIndex := 25, attributes := #[] }, { accessFlags := 25, nameIndex := 187, descriptorIndex := 25, attributes := #[] }, { accessFlags := 26, nameIndex := 48, descriptorIndex := 25, attributes := #[] }, { accessFlags := 25, nameIndex := 277, descriptorIndex := 25, attributes := #[] }, { accessFlags := 25, nameIndex := 280, descriptorIndex := 25, attributes := #[] }, { accessFlags := 25, nameIndex := 282, descriptorIndex := 25, attributes := #[] }, { accessFlags := 25, nameIndex := 284, descriptorIndex := 25, attributes := #[] }, { accessFlags := 25, nameIndex := 286, descriptorIndex := 25, attributes := #[] }, { accessFlags := 25, nameIndex := 288, descriptorIndex := 25, attributes := #[] }, { accessFlags := 25, nameIndex := 290, descriptorIndex := 25, attributes := #[] }, { accessFlags := 25, nameIndex := 292, descriptorIndex := 25, attributes := #[] }, { accessFlags := 26, nameIndex := 108, descriptorIndex := 109, attributes := #[] }, { accessFlags := 25, nameIndex := 294, descriptorIndex := 25, attributes := #[] }])
  fields := #[{ name := "U", type := (.object "jdk/internal/misc/Unsafe"), accessFlags := 24, slot := 0, constantValue := 0 }, { name := "BIG_ENDIAN", type := .boolean, accessFlags := 26, slot := 1, constantValue := 0 }, { name := "LOG2_ARRAY_BOOLEAN_INDEX_SCALE", type := .int, accessFlags := 25, slot := 2, constantValue := 0 }, { name := "LOG2_ARRAY_BYTE_INDEX_SCALE", type := .int, accessFlags := 25, slot := 3, constantValue := 0 }, { name := "LOG2_ARRAY_CHAR_INDEX_SCALE", type := .int, accessFlags := 25, slot := 4, constantValue := 0 }, { name := "LOG2_ARRAY_SHORT_INDEX_SCALE", type := .int, accessFlags := 25, slot := 5, constantValue := 0 }, { name := "LOG2_ARRAY_INT_INDEX_SCALE", type := .int, accessFlags := 25, slot := 6, constantValue := 0 }, { name := "LOG2_ARRAY_LONG_INDEX_SCALE", type := .int, accessFlags := 25, slot := 7, constantValue := 0 }, { name := "LOG2_ARRAY_FLOAT_INDEX_SCALE", type := .int, accessFlags := 25, slot := 8, constantValue := 0 }, { name := "LOG2_ARRAY_DOUBLE_INDEX_SCALE", type := .int, accessFlags := 25, slot := 9, constantValue := 0 }, { name := "LOG2_BYTE_BIT_SIZE", type := .int, accessFlags := 26, slot := 10, constantValue := 0 }, { name := "T_BOOLEAN", type := .int, accessFlags := 25, slot := 11, constantValue := 0 }, { name := "T_CHAR", type := .int, accessFlags := 25, slot := 12, constantValue := 0 }, { name := "T_FLOAT", type := .int, accessFlags := 25, slot := 13, constantValue := 0 }, { name := "T_DOUBLE", type := .int, accessFlags := 25, slot := 14, constantValue := 0 }, { name := "T_BYTE", type := .int, accessFlags := 25, slot := 15, constantValue := 0 }, { name := "T_SHORT", type := .int, accessFlags := 25, slot := 16, constantValue := 0 }, { name := "T_INT", type := .int, accessFlags := 25, slot := 17, constantValue := 0 }, { name := "T_LONG", type := .int, accessFlags := 25, slot := 18, constantValue := 0 }, { name := "JLA", type := (.object "jdk/internal/access/JavaLangAccess"), accessFlags := 26, slot := 19, constantValue := 0 }, { name := "SOFT_MAX_ARRAY_LENGTH", type := .int, accessFlags := 25, slot := 20, constantValue := 0 }]
  methods := #[k29m0]
  instanceTypes := #[]
  staticTypes := #[(.object "jdk/internal/misc/Unsafe"), .boolean, .int, .int, .int, .int, .int, .int, .int, .int, .int, .int, .int, .int, .int, .int, .int, .int, .int, (.object "jdk/internal/access/JavaLangAccess"), .int]
  resolved := Array.replicate 378 none
  statics := none }

/-- the primitive byte -/
def k30 : Class := { plain "byte" none with kind := .primitive 'B', accessFlags := 0x411 }
/-- [B -/
def k31 : Class := { plain "[B" (some 0) with kind := .array 30 .byte, interfaces := #[25, 2], accessFlags := 1041 }

/-- the primitive char -/
def k32 : Class := { plain "char" none with kind := .primitive 'C', accessFlags := 0x411 }
/-- [C -/
def k33 : Class := { plain "[C" (some 0) with kind := .array 32 .char, interfaces := #[25, 2], accessFlags := 1041 }

/-- the primitive int -/
def k34 : Class := { plain "int" none with kind := .primitive 'I', accessFlags := 0x411 }
/-- [I -/
def k35 : Class := { plain "[I" (some 0) with kind := .array 34 .int, interfaces := #[25, 2], accessFlags := 1041 }

def heap : Heap := #[{ cls := 7, slots := #[.long 0, .int 1, .null, .int 0, .null, .int 0, .int 0], vm := .statics 7 },
  { cls := 18, slots := #[.ref 6], vm := .statics 18 },
  { cls := 19, slots := #[.null, .null, .ref 7, .null, .null, .null], vm := .statics 19 },
  { cls := 23, slots := #[.ref 7, .null], vm := .statics 23 },
  { cls := 26, slots := #[.null, .ref 8, .int 0, .null, .null, .null, .null], vm := .statics 26 },
  { cls := 27, slots := #[.null, .null, .null], vm := .statics 27 },
  { cls := 26, slots := #[.null, .int (-1), .int 1, .int 0], vm := .none },
  { cls := 23, slots := #[.null, .null, .null], vm := .none },
  { cls := 33, slots := #[.int 65, .int 66, .int 67, .int 68, .int 69, .int 70, .int 71, .int 72, .int 73, .int 74, .int 75, .int 76, .int 77, .int 78, .int 79, .int 80, .int 81, .int 82, .int 83, .int 84, .int 85, .int 86, .int 87, .int 88, .int 89, .int 90, .int 97, .int 98, .int 99, .int 100, .int 101, .int 102, .int 103, .int 104, .int 105, .int 106, .int 107, .int 108, .int 109, .int 110, .int 111, .int 112, .int 113, .int 114, .int 115, .int 116, .int 117, .int 118, .int 119, .int 120, .int 121, .int 122, .int 48, .int 49, .int 50, .int 51, .int 52, .int 53, .int 54, .int 55, .int 56, .int 57, .int 45, .int 95], vm := .none }]
def classes : Array Class := #[k0, k1, k2, k3, k4, k5, k6, k7, k8, k9, k10, k11, k12, k13, k14, k15, k16, k17, k18, k19, k20, k21, k22, k23, k24, k25, k26, k27, k28, k29, k30, k31, k32, k33, k34, k35]
def interned : List (Array UInt16 × Addr) := []
def slotsUsed : Nat := 97
def theMethod : MethodId := ⟨1, 1⟩
def args0 : Array Value := #[.int 0, .int 1, .int 2, .int 3]
def aboutOver (below : List Frame) : State where
  vm := { classes := classes, interned := interned.toArray }
  heap := heap
  slotsUsed := slotsUsed
  threads := #[{ frames := .invoking theMethod args0 :: below }]
def below0 : List Frame := [.native { method := ⟨0, 0⟩, args := #[] }]
def about1 : State := aboutOver below0
def p0 : Program := .bare "" "" ""
def e0 : Env := launch0.env 0 0 0
theorem w_frames : about1.frames = Frame.invoking theMethod args0 :: below0 := rfl
set_option maxRecDepth 65536 in
theorem w_args : argsFit about1.vm theMethod args0 = true := by decide +kernel
set_option maxRecDepth 65536 in
theorem w_heap : heapFits about1 = true := by decide +kernel
set_option maxRecDepth 65536 in
theorem w_runnable : about1.curStatus? = some .runnable := by decide +kernel
set_option maxRecDepth 65536 in
theorem w_alone : about1.alone = true := by decide +kernel
set_option maxRecDepth 65536 in
theorem w_named : about1.methodNamed? x = some theMethod := by decide +kernel
set_option maxRecDepth 65536 in
theorem w_hears : about1.hears theMethod below0 = true := by decide +kernel
set_option maxRecDepth 65536 in
theorem w_ripe : about1.ripe theMethod args0 below0 = true := by decide +kernel
theorem w_running : about1.status = .running := rfl
set_option maxRecDepth 65536 in
theorem w_room : about1.hasRoom e0.platform room_1 = true :=
  launch0.hasRoom_least _ room_1 (by decide +kernel) (by decide +kernel) (by decide +kernel) (by decide +kernel) (by decide +kernel) (by decide +kernel)
theorem allAtoms_all (ts : List Jvm.Cond) (a : Array Jvm.Value) (st : Jvm.State) : (allAtoms ts).before a st = ts.all (fun c => c.before a st) := by
  induction ts with
  | nil => rfl
  | cons c t ih =>
    show (Jvm.Cond.and c (allAtoms t)).before a st = _
    rw [Jvm.Cond.before_and, ih, List.all_cons]
def words1 : List Jvm.Cond := Jvm.Cond.code x code maxLocals ret :: tables_1
/-- a 'code' word, met by the world's own term for the bytes: nothing is compared byte by byte -/
theorem code_word {y : MethodName} {bytes : ByteArray} {mx : Nat} {rt : Option FieldType} {a : Array Value} {s : State} {m : MethodId} {meth : Method} {c : Code} (h1 : s.methodNamed? y = some m) (h2 : s.vm.method? m = some meth) (h3 : meth.code = some c) (h4 : c.code = bytes)
    (h5 : (c.maxLocals == mx && c.exceptionTable.isEmpty && decide (c.maxStack ≤ mostOperands) && decide (meth.sig.returnType = rt) && !meth.locks && decide (parseMethodDescriptor y.desc = some meth.sig)) = true) : (Jvm.Cond.code y bytes mx rt).before a s = true := by
  simp only [Bool.and_eq_true, beq_iff_eq, Bool.not_eq_true', decide_eq_true_eq] at h5
  obtain ⟨⟨⟨⟨⟨g1, g2⟩, g3⟩, g4⟩, g5⟩, g6⟩ := h5
  simp [Cond.before, Cond.holds, Cond.value, h1, h2, h3, h4, g1, g2, g3, g4, g5, g6]
def isCode : Jvm.Cond → Bool
  | .code _ _ _ _ => true
  | _ => false
theorem all_split {L : List Jvm.Cond} {P : Jvm.Cond → Bool} (h1 : L.all (fun c => isCode c || P c) = true) (h2 : ∀ c ∈ L.filter isCode, P c = true) : L.all P = true := by
  refine List.all_eq_true.mpr fun c hc => ?_
  have h := List.all_eq_true.mp h1 c hc
  rcases Bool.eq_false_or_eq_true (isCode c) with hi | hi
  · exact h2 c (List.mem_filter.mpr ⟨hc, hi⟩)
  · simpa [hi] using h
set_option maxRecDepth 65536 in
theorem w_c0 : (Jvm.Cond.code x code maxLocals ret).before args0 about1 = true := code_word (m := ⟨1, 1⟩) (meth := k1m1) (c := k1c1) (by decide +kernel) rfl rfl rfl (by decide +kernel)
set_option maxRecDepth 65536 in
theorem w_c1 : (Jvm.Cond.code ({ cls := "java/lang/String", name := "valueOf", desc := "(C)Ljava/lang/String;" } : Jvm.MethodName) jdk_42_method_139_code (1 : Nat) (Option.some (Jvm.ClassFile.FieldType.object "java/lang/String"))).before args0 about1 = true := code_word (m := ⟨7, 12⟩) (meth := k7m12) (c := k7c12) (by decide +kernel) rfl rfl rfl (by decide +kernel)
set_option maxRecDepth 65536 in
theorem w_c2 : (Jvm.Cond.code ({ cls := "java/lang/StringLatin1", name := "canEncode", desc := "(C)Z" } : Jvm.MethodName) jdk_43_method_3_code (1 : Nat) (Option.some Jvm.ClassFile.FieldType.boolean)).before args0 about1 = true := code_word (m := ⟨8, 2⟩) (meth := k8m2) (c := k8c2) (by decide +kernel) rfl rfl rfl (by decide +kernel)
set_option maxRecDepth 65536 in
theorem w_c3 : (Jvm.Cond.code ({ cls := "java/lang/StringLatin1", name := "toBytes", desc := "(C)[B" } : Jvm.MethodName) jdk_43_method_46_code (1 : Nat) (Option.some (Jvm.ClassFile.FieldType.array Jvm.ClassFile.FieldType.byte))).before args0 about1 = true := code_word (m := ⟨8, 6⟩) (meth := k8m6) (c := k8c6) (by decide +kernel) rfl rfl rfl (by decide +kernel)
set_option maxRecDepth 65536 in
theorem w_c4 : (Jvm.Cond.code ({ cls := "java/lang/String", name := "<init>", desc := "([BB)V" } : Jvm.MethodName) jdk_42_method_151_code (3 : Nat) (Option.none : Option Jvm.ClassFile.FieldType)).before args0 about1 = true := code_word (m := ⟨7, 16⟩) (meth := k7m16) (c := k7c16) (by decide +kernel) rfl rfl rfl (by decide +kernel)
set_option maxRecDepth 65536 in
theorem w_c5 : (Jvm.Cond.code ({ cls := "java/lang/Object", name := "<init>", desc := "()V" } : Jvm.MethodName) object_method_1_code (1 : Nat) (Option.none : Option Jvm.ClassFile.FieldType)).before args0 about1 = true := code_word (m := ⟨0, 0⟩) (meth := k0m0) (c := k0c0) (by decide +kernel) rfl rfl rfl (by decide +kernel)
set_option maxRecDepth 65536 in
theorem w_c6 : (Jvm.Cond.code ({ cls := "com/example/edgewise/edgewise/CursorEncodePinLaw", name := "put", desc := "([IIC)I" } : Jvm.MethodName) method_4_code (3 : Nat) (Option.some Jvm.ClassFile.FieldType.int)).before args0 about1 = true := code_word (m := ⟨1, 3⟩) (meth := k1m3) (c := k1c3) (by decide +kernel) rfl rfl rfl (by decide +kernel)
set_option maxRecDepth 65536 in
theorem w_c7 : (Jvm.Cond.code ({ cls := "com/example/edgewise/edgewise/CursorEncodePinLaw", name := "group", desc := "([III[CI)I" } : Jvm.MethodName) method_5_code (9 : Nat) (Option.some Jvm.ClassFile.FieldType.int)).before args0 about1 = true := code_word (m := ⟨1, 4⟩) (meth := k1m4) (c := k1c4) (by decide +kernel) rfl rfl rfl (by decide +kernel)
set_option maxRecDepth 65536 in
theorem w_c8 : (Jvm.Cond.code ({ cls := "com/example/edgewise/edgewise/CursorEncodePinLaw", name := "alpha", desc := "(I)C" } : Jvm.MethodName) method_6_code (1 : Nat) (Option.some Jvm.ClassFile.FieldType.char)).before args0 about1 = true := code_word (m := ⟨1, 5⟩) (meth := k1m5) (c := k1c5) (by decide +kernel) rfl rfl rfl (by decide +kernel)
set_option maxRecDepth 65536 in
theorem w_c9 : (Jvm.Cond.code ({ cls := "com/example/edgewise/edgewise/Cursor", name := "<init>", desc := "(Ljava/lang/String;Ljava/lang/String;)V" } : Jvm.MethodName) prog_2_method_1_code (3 : Nat) (Option.none : Option Jvm.ClassFile.FieldType)).before args0 about1 = true := code_word (m := ⟨10, 0⟩) (meth := k10m0) (c := k10c0) (by decide +kernel) rfl rfl rfl (by decide +kernel)
set_option maxRecDepth 65536 in
theorem w_c10 : (Jvm.Cond.code ({ cls := "java/lang/Record", name := "<init>", desc := "()V" } : Jvm.MethodName) jdk_30_method_1_code (1 : Nat) (Option.none : Option Jvm.ClassFile.FieldType)).before args0 about1 = true := code_word (m := ⟨9, 0⟩) (meth := k9m0) (c := k9c0) (by decide +kernel) rfl rfl rfl (by decide +kernel)
set_option maxRecDepth 65536 in
theorem w_c11 : (Jvm.Cond.code ({ cls := "java/util/Objects", name := "requireNonNull", desc := "(Ljava/lang/Object;Ljava/lang/String;)Ljava/lang/Object;" } : Jvm.MethodName) jdk_31_method_11_code (2 : Nat) (Option.some (Jvm.ClassFile.FieldType.object "java/lang/Object"))).before args0 about1 = true := code_word (m := ⟨11, 1⟩) (meth := k11m1) (c := k11c1) (by decide +kernel) rfl rfl rfl (by decide +kernel)
set_option maxRecDepth 65536 in
theorem w_c12 : (Jvm.Cond.code ({ cls := "java/lang/String", name := "isEmpty", desc := "()Z" } : Jvm.MethodName) jdk_42_method_55_code (1 : Nat) (Option.some Jvm.ClassFile.FieldType.boolean)).before args0 about1 = true := code_word (m := ⟨7, 7⟩) (meth := k7m7) (c := k7c7) (by decide +kernel) rfl rfl rfl (by decide +kernel)
set_option maxRecDepth 65536 in
theorem w_c13 : (Jvm.Cond.code ({ cls := "java/lang/String", name := "indexOf", desc := "(I)I" } : Jvm.MethodName) jdk_42_method_79_code (2 : Nat) (Option.some Jvm.ClassFile.FieldType.int)).before args0 about1 = true := code_word (m := ⟨7, 10⟩) (meth := k7m10) (c := k7c10) (by decide +kernel) rfl rfl rfl (by decide +kernel)
set_option maxRecDepth 65536 in
theorem w_c14 : (Jvm.Cond.code ({ cls := "java/lang/String", name := "indexOf", desc := "(II)I" } : Jvm.MethodName) jdk_42_method_80_code (3 : Nat) (Option.some Jvm.ClassFile.FieldType.int)).before args0 about1 = true := code_word (m := ⟨7, 11⟩) (meth := k7m11) (c := k7c11) (by decide +kernel) rfl rfl rfl (by decide +kernel)
set_option maxRecDepth 65536 in
theorem w_c15 : (Jvm.Cond.code ({ cls := "java/lang/String", name := "isLatin1", desc := "()Z" } : Jvm.MethodName) jdk_42_method_154_code (1 : Nat) (Option.some Jvm.ClassFile.FieldType.boolean)).before args0 about1 = true := code_word (m := ⟨7, 18⟩) (meth := k7m18) (c := k7c18) (by decide +kernel) rfl rfl rfl (by decide +kernel)
set_option maxRecDepth 65536 in
theorem w_c16 : (Jvm.Cond.code ({ cls := "java/lang/String", name := "length", desc := "()I" } : Jvm.MethodName) jdk_42_method_54_code (1 : Nat) (Option.some Jvm.ClassFile.FieldType.int)).before args0 about1 = true := code_word (m := ⟨7, 6⟩) (meth := k7m6) (c := k7c6) (by decide +kernel) rfl rfl rfl (by decide +kernel)
set_option maxRecDepth 65536 in
theorem w_c17 : (Jvm.Cond.code ({ cls := "java/lang/String", name := "coder", desc := "()B" } : Jvm.MethodName) jdk_42_method_152_code (1 : Nat) (Option.some Jvm.ClassFile.FieldType.byte)).before args0 about1 = true := code_word (m := ⟨7, 17⟩) (meth := k7m17) (c := k7c17) (by decide +kernel) rfl rfl rfl (by decide +kernel)
set_option maxRecDepth 65536 in
theorem w_c18 : (Jvm.Cond.code ({ cls := "java/lang/StringLatin1", name := "indexOf", desc := "([BIII)I" } : Jvm.MethodName) jdk_43_method_22_code (4 : Nat) (Option.some Jvm.ClassFile.FieldType.int)).before args0 about1 = true := code_word (m := ⟨8, 4⟩) (meth := k8m4) (c := k8c4) (by decide +kernel) rfl rfl rfl (by decide +kernel)
set_option maxRecDepth 65536 in
theorem w_c19 : (Jvm.Cond.code ({ cls := "java/lang/StringLatin1", name := "canEncode", desc := "(I)Z" } : Jvm.MethodName) jdk_43_method_4_code (1 : Nat) (Option.some Jvm.ClassFile.FieldType.boolean)).before args0 about1 = true := code_word (m := ⟨8, 3⟩) (meth := k8m3) (c := k8c3) (by decide +kernel) rfl rfl rfl (by decide +kernel)
set_option maxRecDepth 65536 in
theorem w_c20 : (Jvm.Cond.code ({ cls := "java/lang/Math", name := "max", desc := "(II)I" } : Jvm.MethodName) jdk_29_method_65_code (2 : Nat) (Option.some Jvm.ClassFile.FieldType.int)).before args0 about1 = true := code_word (m := ⟨12, 3⟩) (meth := k12m3) (c := k12c3) (by decide +kernel) rfl rfl rfl (by decide +kernel)
set_option maxRecDepth 65536 in
theorem w_c21 : (Jvm.Cond.code ({ cls := "java/lang/Math", name := "min", desc := "(II)I" } : Jvm.MethodName) jdk_29_method_69_code (2 : Nat) (Option.some Jvm.ClassFile.FieldType.int)).before args0 about1 = true := code_word (m := ⟨12, 4⟩) (meth := k12m4) (c := k12c4) (by decide +kernel) rfl rfl rfl (by decide +kernel)
set_option maxRecDepth 65536 in
theorem w_c22 : (Jvm.Cond.code ({ cls := "java/lang/StringLatin1", name := "indexOfChar", desc := "([BIII)I" } : Jvm.MethodName) jdk_43_method_23_code (6 : Nat) (Option.some Jvm.ClassFile.FieldType.int)).before args0 about1 = true := code_word (m := ⟨8, 5⟩) (meth := k8m5) (c := k8c5) (by decide +kernel) rfl rfl rfl (by decide +kernel)
set_option maxRecDepth 65536 in
theorem w_c23 : (Jvm.Cond.code ({ cls := "com/example/edgewise/edgewise/Cursor", name := "encode", desc := "()Ljava/lang/String;" } : Jvm.MethodName) prog_2_method_2_code (1 : Nat) (Option.some (Jvm.ClassFile.FieldType.object "java/lang/String"))).before args0 about1 = true := code_word (m := ⟨10, 1⟩) (meth := k10m1) (c := k10c1) (by decide +kernel) rfl rfl rfl (by decide +kernel)
set_option maxRecDepth 65536 in
theorem w_c24 : (Jvm.Cond.code ({ cls := "java/lang/StringBuilder", name := "<init>", desc := "()V" } : Jvm.MethodName) jdk_67_method_1_code (1 : Nat) (Option.none : Option Jvm.ClassFile.FieldType)).before args0 about1 = true := code_word (m := ⟨15, 0⟩) (meth := k15m0) (c := k15c0) (by decide +kernel) rfl rfl rfl (by decide +kernel)
set_option maxRecDepth 65536 in
theorem w_c25 : (Jvm.Cond.code ({ cls := "java/lang/AbstractStringBuilder", name := "<init>", desc := "(I)V" } : Jvm.MethodName) jdk_68_method_2_code (2 : Nat) (Option.none : Option Jvm.ClassFile.FieldType)).before args0 about1 = true := code_word (m := ⟨14, 1⟩) (meth := k14m1) (c := k14c1) (by decide +kernel) rfl rfl rfl (by decide +kernel)
set_option maxRecDepth 65536 in
theorem w_c26 : (Jvm.Cond.code ({ cls := "java/lang/StringBuilder", name := "append", desc := "(Ljava/lang/String;)Ljava/lang/StringBuilder;" } : Jvm.MethodName) jdk_67_method_7_code (2 : Nat) (Option.some (Jvm.ClassFile.FieldType.object "java/lang/StringBuilder"))).before args0 about1 = true := code_word (m := ⟨15, 1⟩) (meth := k15m1) (c := k15c1) (by decide +kernel) rfl rfl rfl (by decide +kernel)
set_option maxRecDepth 65536 in
theorem w_c27 : (Jvm.Cond.code ({ cls := "java/lang/AbstractStringBuilder", name := "append", desc := "(Ljava/lang/String;)Ljava/lang/AbstractStringBuilder;" } : Jvm.MethodName) jdk_68_method_22_code (3 : Nat) (Option.some (Jvm.ClassFile.FieldType.object "java/lang/AbstractStringBuilder"))).before args0 about1 = true := code_word (m := ⟨14, 4⟩) (meth := k14m4) (c := k14c4) (by decide +kernel) rfl rfl rfl (by decide +kernel)
set_option maxRecDepth 65536 in
theorem w_c28 : (Jvm.Cond.code ({ cls := "java/lang/AbstractStringBuilder", name := "ensureCapacityInternal", desc := "(I)V" } : Jvm.MethodName) jdk_68_method_9_code (3 : Nat) (Option.none : Option Jvm.ClassFile.FieldType)).before args0 about1 = true := code_word (m := ⟨14, 3⟩) (meth := k14m3) (c := k14c3) (by decide +kernel) rfl rfl rfl (by decide +kernel)
set_option maxRecDepth 65536 in
theorem w_c29 : (Jvm.Cond.code ({ cls := "java/lang/AbstractStringBuilder", name := "putStringAt", desc := "(ILjava/lang/String;)V" } : Jvm.MethodName) jdk_68_method_73_code (3 : Nat) (Option.none : Option Jvm.ClassFile.FieldType)).before args0 about1 = true := code_word (m := ⟨14, 9⟩) (meth := k14m9) (c := k14c9) (by decide +kernel) rfl rfl rfl (by decide +kernel)
set_option maxRecDepth 65536 in
theorem w_c30 : (Jvm.Cond.code ({ cls := "java/lang/AbstractStringBuilder", name := "inflateIfNeededFor", desc := "(Ljava/lang/String;)V" } : Jvm.MethodName) jdk_68_method_71_code (2 : Nat) (Option.none : Option Jvm.ClassFile.FieldType)).before args0 about1 = true := code_word (m := ⟨14, 8⟩) (meth := k14m8) (c := k14c8) (by decide +kernel) rfl rfl rfl (by decide +kernel)
set_option maxRecDepth 65536 in
theorem w_c31 : (Jvm.Cond.code ({ cls := "java/lang/String", name := "getBytes", desc := "([BIB)V" } : Jvm.MethodName) jdk_42_method_147_code (4 : Nat) (Option.none : Option Jvm.ClassFile.FieldType)).before args0 about1 = true := code_word (m := ⟨7, 13⟩) (meth := k7m13) (c := k7c13) (by decide +kernel) rfl rfl rfl (by decide +kernel)
set_option maxRecDepth 65536 in
theorem w_c32 : (Jvm.Cond.code ({ cls := "java/lang/StringBuilder", name := "append", desc := "(C)Ljava/lang/StringBuilder;" } : Jvm.MethodName) jdk_67_method_14_code (2 : Nat) (Option.some (Jvm.ClassFile.FieldType.object "java/lang/StringBuilder"))).before args0 about1 = true := code_word (m := ⟨15, 2⟩) (meth := k15m2) (c := k15c2) (by decide +kernel) rfl rfl rfl (by decide +kernel)
set_option maxRecDepth 65536 in
theorem w_c33 : (Jvm.Cond.code ({ cls := "java/lang/AbstractStringBuilder", name := "append", desc := "(C)Ljava/lang/AbstractStringBuilder;" } : Jvm.MethodName) jdk_68_method_31_code (2 : Nat) (Option.some (Jvm.ClassFile.FieldType.object "java/lang/AbstractStringBuilder"))).before args0 about1 = true := code_word (m := ⟨14, 5⟩) (meth := k14m5) (c := k14c5) (by decide +kernel) rfl rfl rfl (by decide +kernel)
set_option maxRecDepth 65536 in
theorem w_c34 : (Jvm.Cond.code ({ cls := "java/lang/AbstractStringBuilder", name := "isLatin1", desc := "()Z" } : Jvm.MethodName) jdk_68_method_68_code (1 : Nat) (Option.some Jvm.ClassFile.FieldType.boolean)).before args0 about1 = true := code_word (m := ⟨14, 7⟩) (meth := k14m7) (c := k14c7) (by decide +kernel) rfl rfl rfl (by decide +kernel)
set_option maxRecDepth 65536 in
theorem w_c35 : (Jvm.Cond.code ({ cls := "java/lang/StringBuilder", name := "toString", desc := "()Ljava/lang/String;" } : Jvm.MethodName) jdk_67_method_42_code (1 : Nat) (Option.some (Jvm.ClassFile.FieldType.object "java/lang/String"))).before args0 about1 = true := code_word (m := ⟨15, 3⟩) (meth := k15m3) (c := k15c3) (by decide +kernel) rfl rfl rfl (by decide +kernel)
set_option maxRecDepth 65536 in
theorem w_c36 : (Jvm.Cond.code ({ cls := "java/lang/String", name := "<init>", desc := "(Ljava/lang/StringBuilder;)V" } : Jvm.MethodName) jdk_42_method_53_code (2 : Nat) (Option.none : Option Jvm.ClassFile.FieldType)).before args0 about1 = true := code_word (m := ⟨7, 5⟩) (meth := k7m5) (c := k7c5) (by decide +kernel) rfl rfl rfl (by decide +kernel)
set_option maxRecDepth 65536 in
theorem w_c37 : (Jvm.Cond.code ({ cls := "java/lang/String", name := "<init>", desc := "(Ljava/lang/AbstractStringBuilder;Ljava/lang/Void;)V" } : Jvm.MethodName) jdk_42_method_150_code (5 : Nat) (Option.none : Option Jvm.ClassFile.FieldType)).before args0 about1 = true := code_word (m := ⟨7, 15⟩) (meth := k7m15) (c := k7c15) (by decide +kernel) rfl rfl rfl (by decide +kernel)
set_option maxRecDepth 65536 in
theorem w_c38 : (Jvm.Cond.code ({ cls := "java/lang/AbstractStringBuilder", name := "getValue", desc := "()[B" } : Jvm.MethodName) jdk_68_method_64_code (1 : Nat) (Option.some (Jvm.ClassFile.FieldType.array Jvm.ClassFile.FieldType.byte))).before args0 about1 = true := code_word (m := ⟨14, 6⟩) (meth := k14m6) (c := k14c6) (by decide +kernel) rfl rfl rfl (by decide +kernel)
set_option maxRecDepth 65536 in
theorem w_c39 : (Jvm.Cond.code ({ cls := "java/lang/StringBuilder", name := "length", desc := "()I" } : Jvm.MethodName) jdk_67_method_93_code (1 : Nat) (Option.some Jvm.ClassFile.FieldType.int)).before args0 about1 = true := code_word (m := ⟨15, 4⟩) (meth := k15m4) (c := k15c4) (by decide +kernel) rfl rfl rfl (by decide +kernel)
set_option maxRecDepth 65536 in
theorem w_c40 : (Jvm.Cond.code ({ cls := "java/lang/AbstractStringBuilder", name := "length", desc := "()I" } : Jvm.MethodName) jdk_68_method_6_code (1 : Nat) (Option.some Jvm.ClassFile.FieldType.int)).before args0 about1 = true := code_word (m := ⟨14, 2⟩) (meth := k14m2) (c := k14c2) (by decide +kernel) rfl rfl rfl (by decide +kernel)
set_option maxRecDepth 65536 in
theorem w_c41 : (Jvm.Cond.code ({ cls := "java/util/Arrays", name := "copyOfRange", desc := "([BII)[B" } : Jvm.MethodName) jdk_65_method_132_code (3 : Nat) (Option.some (Jvm.ClassFile.FieldType.array Jvm.ClassFile.FieldType.byte))).before args0 about1 = true := code_word (m := ⟨17, 3⟩) (meth := k17m3) (c := k17c3) (by decide +kernel) rfl rfl rfl (by decide +kernel)
set_option maxRecDepth 65536 in
theorem w_c42 : (Jvm.Cond.code ({ cls := "java/util/Arrays", name := "copyOfRangeByte", desc := "([BII)[B" } : Jvm.MethodName) jdk_65_method_133_code (5 : Nat) (Option.some (Jvm.ClassFile.FieldType.array Jvm.ClassFile.FieldType.byte))).before args0 about1 = true := code_word (m := ⟨17, 4⟩) (meth := k17m4) (c := k17c4) (by decide +kernel) rfl rfl rfl (by decide +kernel)
set_option maxRecDepth 65536 in
theorem w_c43 : (Jvm.Cond.code ({ cls := "java/util/Arrays", name := "checkLength", desc := "(II)V" } : Jvm.MethodName) jdk_65_method_131_code (2 : Nat) (Option.none : Option Jvm.ClassFile.FieldType)).before args0 about1 = true := code_word (m := ⟨17, 2⟩) (meth := k17m2) (c := k17c2) (by decide +kernel) rfl rfl rfl (by decide +kernel)
set_option maxRecDepth 65536 in
theorem w_c44 : (Jvm.Cond.code ({ cls := "com/example/edgewise/edgewise/OpaqueText", name := "encode", desc := "(Ljava/lang/String;)Ljava/lang/String;" } : Jvm.MethodName) prog_14_method_2_code (1 : Nat) (Option.some (Jvm.ClassFile.FieldType.object "java/lang/String"))).before args0 about1 = true := code_word (m := ⟨18, 1⟩) (meth := k18m1) (c := k18c1) (by decide +kernel) rfl rfl rfl (by decide +kernel)
set_option maxRecDepth 65536 in
theorem w_c45 : (Jvm.Cond.code ({ cls := "java/lang/String", name := "getBytes", desc := "(Ljava/nio/charset/Charset;)[B" } : Jvm.MethodName) jdk_42_method_64_code (2 : Nat) (Option.some (Jvm.ClassFile.FieldType.array Jvm.ClassFile.FieldType.byte))).before args0 about1 = true := code_word (m := ⟨7, 9⟩) (meth := k7m9) (c := k7c9) (by decide +kernel) rfl rfl rfl (by decide +kernel)
set_option maxRecDepth 65536 in
theorem w_c46 : (Jvm.Cond.code ({ cls := "java/lang/String", name := "encode", desc := "(Ljava/nio/charset/Charset;B[B)[B" } : Jvm.MethodName) jdk_42_method_18_code (3 : Nat) (Option.some (Jvm.ClassFile.FieldType.array Jvm.ClassFile.FieldType.byte))).before args0 about1 = true := code_word (m := ⟨7, 3⟩) (meth := k7m3) (c := k7c3) (by decide +kernel) rfl rfl rfl (by decide +kernel)
set_option maxRecDepth 65536 in
theorem w_c47 : (Jvm.Cond.code ({ cls := "java/lang/String", name := "encodeUTF8", desc := "(B[BZ)[B" } : Jvm.MethodName) jdk_42_method_46_code (9 : Nat) (Option.some (Jvm.ClassFile.FieldType.array Jvm.ClassFile.FieldType.byte))).before args0 about1 = true := code_word (m := ⟨7, 4⟩) (meth := k7m4) (c := k7c4) (by decide +kernel) rfl rfl rfl (by decide +kernel)
set_option maxRecDepth 65536 in
theorem w_c48 : (Jvm.Cond.code ({ cls := "java/lang/StringCoding", name := "hasNegatives", desc := "([BII)Z" } : Jvm.MethodName) jdk_123_method_2_code (3 : Nat) (Option.some Jvm.ClassFile.FieldType.boolean)).before args0 about1 = true := code_word (m := ⟨24, 1⟩) (meth := k24m1) (c := k24c1) (by decide +kernel) rfl rfl rfl (by decide +kernel)
set_option maxRecDepth 65536 in
theorem w_c49 : (Jvm.Cond.code ({ cls := "java/lang/StringCoding", name := "countPositives", desc := "([BII)I" } : Jvm.MethodName) jdk_123_method_3_code (5 : Nat) (Option.some Jvm.ClassFile.FieldType.int)).before args0 about1 = true := code_word (m := ⟨24, 2⟩) (meth := k24m2) (c := k24c2) (by decide +kernel) rfl rfl rfl (by decide +kernel)
set_option maxRecDepth 65536 in
theorem w_c50 : (Jvm.Cond.code ({ cls := "java/util/Base64$Encoder", name := "encodeToString", desc := "([B)Ljava/lang/String;" } : Jvm.MethodName) jdk_2452_method_5_code (3 : Nat) (Option.some (Jvm.ClassFile.FieldType.object "java/lang/String"))).before args0 about1 = true := code_word (m := ⟨26, 2⟩) (meth := k26m2) (c := k26c2) (by decide +kernel) rfl rfl rfl (by decide +kernel)
set_option maxRecDepth 65536 in
theorem w_c51 : (Jvm.Cond.code ({ cls := "java/util/Base64$Encoder", name := "encode", desc := "([B)[B" } : Jvm.MethodName) jdk_2452_method_3_code (5 : Nat) (Option.some (Jvm.ClassFile.FieldType.array Jvm.ClassFile.FieldType.byte))).before args0 about1 = true := code_word (m := ⟨26, 1⟩) (meth := k26m1) (c := k26c1) (by decide +kernel) rfl rfl rfl (by decide +kernel)
set_option maxRecDepth 65536 in
theorem w_c52 : (Jvm.Cond.code ({ cls := "java/lang/Math", name := "multiplyExact", desc := "(II)I" } : Jvm.MethodName) jdk_29_method_28_code (4 : Nat) (Option.some Jvm.ClassFile.FieldType.int)).before args0 about1 = true := code_word (m := ⟨12, 2⟩) (meth := k12m2) (c := k12c2) (by decide +kernel) rfl rfl rfl (by decide +kernel)
set_option maxRecDepth 65536 in
theorem w_c53 : (Jvm.Cond.code ({ cls := "java/lang/Math", name := "addExact", desc := "(II)I" } : Jvm.MethodName) jdk_29_method_24_code (3 : Nat) (Option.some Jvm.ClassFile.FieldType.int)).before args0 about1 = true := code_word (m := ⟨12, 1⟩) (meth := k12m1) (c := k12c1) (by decide +kernel) rfl rfl rfl (by decide +kernel)
set_option maxRecDepth 65536 in
theorem w_c54 : (Jvm.Cond.code ({ cls := "java/util/Base64$Encoder", name := "encode0", desc := "([BII[B)I" } : Jvm.MethodName) jdk_2452_method_10_code (16 : Nat) (Option.some Jvm.ClassFile.FieldType.int)).before args0 about1 = true := code_word (m := ⟨26, 4⟩) (meth := k26m4) (c := k26c4) (by decide +kernel) rfl rfl rfl (by decide +kernel)
set_option maxRecDepth 65536 in
theorem w_c55 : (Jvm.Cond.code ({ cls := "java/util/Base64$Encoder", name := "encodeBlock", desc := "([BII[BIZ)V" } : Jvm.MethodName) jdk_2452_method_9_code (11 : Nat) (Option.none : Option Jvm.ClassFile.FieldType)).before args0 about1 = true := code_word (m := ⟨26, 3⟩) (meth := k26m3) (c := k26c3) (by decide +kernel) rfl rfl rfl (by decide +kernel)
set_option maxRecDepth 65536 in
theorem w_c56 : (Jvm.Cond.code ({ cls := "java/lang/String", name := "<init>", desc := "([BIII)V" } : Jvm.MethodName) jdk_42_method_7_code (7 : Nat) (Option.none : Option Jvm.ClassFile.FieldType)).before args0 about1 = true := code_word (m := ⟨7, 2⟩) (meth := k7m2) (c := k7c2) (by decide +kernel) rfl rfl rfl (by decide +kernel)
set_option maxRecDepth 65536 in
theorem w_c57 : (Jvm.Cond.code ({ cls := "java/lang/String", name := "checkBoundsOffCount", desc := "(III)I" } : Jvm.MethodName) jdk_42_method_157_code (3 : Nat) (Option.some Jvm.ClassFile.FieldType.int)).before args0 about1 = true := code_word (m := ⟨7, 20⟩) (meth := k7m20) (c := k7c20) (by decide +kernel) rfl rfl rfl (by decide +kernel)
set_option maxRecDepth 65536 in
theorem w_c58 : (Jvm.Cond.code ({ cls := "jdk/internal/util/Preconditions", name := "checkFromIndexSize", desc := "(IIILjava/util/function/BiFunction;)I" } : Jvm.MethodName) jdk_41_method_13_code (4 : Nat) (Option.some Jvm.ClassFile.FieldType.int)).before args0 about1 = true := code_word (m := ⟨27, 2⟩) (meth := k27m2) (c := k27c2) (by decide +kernel) rfl rfl rfl (by decide +kernel)
set_option maxRecDepth 65536 in
theorem w_c59 : (Jvm.Cond.code ({ cls := "com/example/edgewise/edgewise/CursorEncodePinLaw", name := "eqAt", desc := "(Ljava/lang/String;[CII)Z" } : Jvm.MethodName) method_3_code (4 : Nat) (Option.some Jvm.ClassFile.FieldType.boolean)).before args0 about1 = true := code_word (m := ⟨1, 2⟩) (meth := k1m2) (c := k1c2) (by decide +kernel) rfl rfl rfl (by decide +kernel)
set_option maxRecDepth 65536 in
theorem w_c60 : (Jvm.Cond.code ({ cls := "java/lang/String", name := "charAt", desc := "(I)C" } : Jvm.MethodName) jdk_42_method_56_code (2 : Nat) (Option.some Jvm.ClassFile.FieldType.char)).before args0 about1 = true := code_word (m := ⟨7, 8⟩) (meth := k7m8) (c := k7c8) (by decide +kernel) rfl rfl rfl (by decide +kernel)
set_option maxRecDepth 65536 in
theorem w_c61 : (Jvm.Cond.code ({ cls := "java/lang/StringLatin1", name := "charAt", desc := "([BI)C" } : Jvm.MethodName) jdk_43_method_2_code (2 : Nat) (Option.some Jvm.ClassFile.FieldType.char)).before args0 about1 = true := code_word (m := ⟨8, 1⟩) (meth := k8m1) (c := k8c1) (by decide +kernel) rfl rfl rfl (by decide +kernel)
set_option maxRecDepth 65536 in
theorem w_c62 : (Jvm.Cond.code ({ cls := "java/lang/String", name := "checkIndex", desc := "(II)V" } : Jvm.MethodName) jdk_42_method_155_code (2 : Nat) (Option.none : Option Jvm.ClassFile.FieldType)).before args0 about1 = true := code_word (m := ⟨7, 19⟩) (meth := k7m19) (c := k7c19) (by decide +kernel) rfl rfl rfl (by decide +kernel)
set_option maxRecDepth 65536 in
theorem w_c63 : (Jvm.Cond.code ({ cls := "jdk/internal/util/Preconditions", name := "checkIndex", desc := "(IILjava/util/function/BiFunction;)I" } : Jvm.MethodName) jdk_41_method_11_code (3 : Nat) (Option.some Jvm.ClassFile.FieldType.int)).before args0 about1 = true := code_word (m := ⟨27, 1⟩) (meth := k27m1) (c := k27c1) (by decide +kernel) rfl rfl rfl (by decide +kernel)
set_option maxRecDepth 65536 in
theorem w_c64 : (Jvm.Cond.code ({ cls := "java/lang/StringUTF16", name := "newBytesFor", desc := "(I)[B" } : Jvm.MethodName) jdk_52_method_2_code (1 : Nat) (Option.some (Jvm.ClassFile.FieldType.array Jvm.ClassFile.FieldType.byte))).before args0 about1 = true := code_word (m := ⟨28, 1⟩) (meth := k28m1) (c := k28c1) (by decide +kernel) rfl rfl rfl (by decide +kernel)
set_option maxRecDepth 65536 in
theorem w_c65 : (Jvm.Cond.code ({ cls := "java/lang/StringUTF16", name := "newBytesLength", desc := "(I)I" } : Jvm.MethodName) jdk_52_method_3_code (1 : Nat) (Option.some Jvm.ClassFile.FieldType.int)).before args0 about1 = true := code_word (m := ⟨28, 2⟩) (meth := k28m2) (c := k28c2) (by decide +kernel) rfl rfl rfl (by decide +kernel)
set_option maxRecDepth 65536 in
theorem w_c66 : (Jvm.Cond.code ({ cls := "java/util/Arrays", name := "copyOf", desc := "([BI)[B" } : Jvm.MethodName) jdk_65_method_121_code (3 : Nat) (Option.some (Jvm.ClassFile.FieldType.array Jvm.ClassFile.FieldType.byte))).before args0 about1 = true := code_word (m := ⟨17, 1⟩) (meth := k17m1) (c := k17c1) (by decide +kernel) rfl rfl rfl (by decide +kernel)
set_option maxRecDepth 65536 in
theorem w_c67 : (Jvm.Cond.code ({ cls := "java/lang/String", name := "<init>", desc := "([C)V" } : Jvm.MethodName) jdk_42_method_3_code (2 : Nat) (Option.none : Option Jvm.ClassFile.FieldType)).before args0 about1 = true := code_word (m := ⟨7, 1⟩) (meth := k7m1) (c := k7c1) (by decide +kernel) rfl rfl rfl (by decide +kernel)
set_option maxRecDepth 65536 in
theorem w_c68 : (Jvm.Cond.code ({ cls := "java/lang/String", name := "<init>", desc := "([CIILjava/lang/Void;)V" } : Jvm.MethodName) jdk_42_method_149_code (6 : Nat) (Option.none : Option Jvm.ClassFile.FieldType)).before args0 about1 = true := code_word (m := ⟨7, 14⟩) (meth := k7m14) (c := k7c14) (by decide +kernel) rfl rfl rfl (by decide +kernel)
set_option maxRecDepth 65536 in
theorem w_c69 : (Jvm.Cond.code ({ cls := "java/lang/StringUTF16", name := "compress", desc := "([CII)[B" } : Jvm.MethodName) jdk_52_method_16_code (6 : Nat) (Option.some (Jvm.ClassFile.FieldType.array Jvm.ClassFile.FieldType.byte))).before args0 about1 = true := code_word (m := ⟨28, 4⟩) (meth := k28m4) (c := k28c4) (by decide +kernel) rfl rfl rfl (by decide +kernel)
set_option maxRecDepth 65536 in
theorem w_c70 : (Jvm.Cond.code ({ cls := "java/lang/StringUTF16", name := "compress", desc := "([CI[BII)I" } : Jvm.MethodName) jdk_52_method_21_code (7 : Nat) (Option.some Jvm.ClassFile.FieldType.int)).before args0 about1 = true := code_word (m := ⟨28, 5⟩) (meth := k28m5) (c := k28c5) (by decide +kernel) rfl rfl rfl (by decide +kernel)
set_option maxRecDepth 65536 in
theorem w_c71 : (Jvm.Cond.code ({ cls := "java/lang/StringUTF16", name := "coderFromArrayLen", desc := "([BI)B" } : Jvm.MethodName) jdk_52_method_15_code (2 : Nat) (Option.some Jvm.ClassFile.FieldType.byte)).before args0 about1 = true := code_word (m := ⟨28, 3⟩) (meth := k28m3) (c := k28c3) (by decide +kernel) rfl rfl rfl (by decide +kernel)
def codes1 : List Jvm.Cond := [Jvm.Cond.code x code maxLocals ret, Jvm.Cond.code ({ cls := "java/lang/String", name := "valueOf", desc := "(C)Ljava/lang/String;" } : Jvm.MethodName) jdk_42_method_139_code (1 : Nat) (Option.some (Jvm.ClassFile.FieldType.object "java/lang/String")), Jvm.Cond.code ({ cls := "java/lang/StringLatin1", name := "canEncode", desc := "(C)Z" } : Jvm.MethodName) jdk_43_method_3_code (1 : Nat) (Option.some Jvm.ClassFile.FieldType.boolean), Jvm.Cond.code ({ cls := "java/lang/StringLatin1", name := "toBytes", desc := "(C)[B" } : Jvm.MethodName) jdk_43_method_46_code (1 : Nat) (Option.some (Jvm.ClassFile.FieldType.array Jvm.ClassFile.FieldType.byte)), Jvm.Cond.code ({ cls := "java/lang/String", name := "<init>", desc := "([BB)V" } : Jvm.MethodName) jdk_42_method_151_code (3 : Nat) (Option.none : Option Jvm.ClassFile.FieldType), Jvm.Cond.code ({ cls := "java/lang/Object", name := "<init>", desc := "()V" } : Jvm.MethodName) object_method_1_code (1 : Nat) (Option.none : Option Jvm.ClassFile.FieldType), Jvm.Cond.code ({ cls := "com/example/edgewise/edgewise/CursorEncodePinLaw", name := "put", desc := "([IIC)I" } : Jvm.MethodName) method_4_code (3 : Nat) (Option.some Jvm.ClassFile.FieldType.int), Jvm.Cond.code ({ cls := "com/example/edgewise/edgewise/CursorEncodePinLaw", name := "group", desc := "([III[CI)I" } : Jvm.MethodName) method_5_code (9 : Nat) (Option.some Jvm.ClassFile.FieldType.int), Jvm.Cond.code ({ cls := "com/example/edgewise/edgewise/CursorEncodePinLaw", name := "alpha", desc := "(I)C" } : Jvm.MethodName) method_6_code (1 : Nat) (Option.some Jvm.ClassFile.FieldType.char), Jvm.Cond.code ({ cls := "com/example/edgewise/edgewise/Cursor", name := "<init>", desc := "(Ljava/lang/String;Ljava/lang/String;)V" } : Jvm.MethodName) prog_2_method_1_code (3 : Nat) (Option.none : Option Jvm.ClassFile.FieldType), Jvm.Cond.code ({ cls := "java/lang/Record", name := "<init>", desc := "()V" } : Jvm.MethodName) jdk_30_method_1_code (1 : Nat) (Option.none : Option Jvm.ClassFile.FieldType), Jvm.Cond.code ({ cls := "java/util/Objects", name := "requireNonNull", desc := "(Ljava/lang/Object;Ljava/lang/String;)Ljava/lang/Object;" } : Jvm.MethodName) jdk_31_method_11_code (2 : Nat) (Option.some (Jvm.ClassFile.FieldType.object "java/lang/Object")), Jvm.Cond.code ({ cls := "java/lang/String", name := "isEmpty", desc := "()Z" } : Jvm.MethodName) jdk_42_method_55_code (1 : Nat) (Option.some Jvm.ClassFile.FieldType.boolean), Jvm.Cond.code ({ cls := "java/lang/String", name := "indexOf", desc := "(I)I" } : Jvm.MethodName) jdk_42_method_79_code (2 : Nat) (Option.some Jvm.ClassFile.FieldType.int), Jvm.Cond.code ({ cls := "java/lang/String", name := "indexOf", desc := "(II)I" } : Jvm.MethodName) jdk_42_method_80_code (3 : Nat) (Option.some Jvm.ClassFile.FieldType.int), Jvm.Cond.code ({ cls := "java/lang/String", name := "isLatin1", desc := "()Z" } : Jvm.MethodName) jdk_42_method_154_code (1 : Nat) (Option.some Jvm.ClassFile.FieldType.boolean), Jvm.Cond.code ({ cls := "java/lang/String", name := "length", desc := "()I" } : Jvm.MethodName) jdk_42_method_54_code (1 : Nat) (Option.some Jvm.ClassFile.FieldType.int), Jvm.Cond.code ({ cls := "java/lang/String", name := "coder", desc := "()B" } : Jvm.MethodName) jdk_42_method_152_code (1 : Nat) (Option.some Jvm.ClassFile.FieldType.byte), Jvm.Cond.code ({ cls := "java/lang/StringLatin1", name := "indexOf", desc := "([BIII)I" } : Jvm.MethodName) jdk_43_method_22_code (4 : Nat) (Option.some Jvm.ClassFile.FieldType.int), Jvm.Cond.code ({ cls := "java/lang/StringLatin1", name := "canEncode", desc := "(I)Z" } : Jvm.MethodName) jdk_43_method_4_code (1 : Nat) (Option.some Jvm.ClassFile.FieldType.boolean), Jvm.Cond.code ({ cls := "java/lang/Math", name := "max", desc := "(II)I" } : Jvm.MethodName) jdk_29_method_65_code (2 : Nat) (Option.some Jvm.ClassFile.FieldType.int), Jvm.Cond.code ({ cls := "java/lang/Math", name := "min", desc := "(II)I" } : Jvm.MethodName) jdk_29_method_69_code (2 : Nat) (Option.some Jvm.ClassFile.FieldType.int), Jvm.Cond.code ({ cls := "java/lang/StringLatin1", name := "indexOfChar", desc := "([BIII)I" } : Jvm.MethodName) jdk_43_method_23_code (6 : Nat) (Option.some Jvm.ClassFile.FieldType.int), Jvm.Cond.code ({ cls := "com/example/edgewise/edgewise/Cursor", name := "encode", desc := "()Ljava/lang/String;" } : Jvm.MethodName) prog_2_method_2_code (1 : Nat) (Option.some (Jvm.ClassFile.FieldType.object "java/lang/String")), Jvm.Cond.code ({ cls := "java/lang/StringBuilder", name := "<init>", desc := "()V" } : Jvm.MethodName) jdk_67_method_1_code (1 : Nat) (Option.none : Option Jvm.ClassFile.FieldType), Jvm.Cond.code ({ cls := "java/lang/AbstractStringBuilder", name := "<init>", desc := "(I)V" } : Jvm.MethodName) jdk_68_method_2_code (2 : Nat) (Option.none : Option Jvm.ClassFile.FieldType), Jvm.Cond.code ({ cls := "java/lang/StringBuilder", name := "append", desc := "(Ljava/lang/String;)Ljava/lang/StringBuilder;" } : Jvm.MethodName) jdk_67_method_7_code (2 : Nat) (Option.some (Jvm.ClassFile.FieldType.object "java/lang/StringBuilder")), Jvm.Cond.code ({ cls := "java/lang/AbstractStringBuilder", name := "append", desc := "(Ljava/lang/String;)Ljava/lang/AbstractStringBuilder;" } : Jvm.MethodName) jdk_68_method_22_code (3 : Nat) (Option.some (Jvm.ClassFile.FieldType.object "java/lang/AbstractStringBuilder")), Jvm.Cond.code ({ cls := "java/lang/AbstractStringBuilder", name := "ensureCapacityInternal", desc := "(I)V" } : Jvm.MethodName) jdk_68_method_9_code (3 : Nat) (Option.none : Option Jvm.ClassFile.FieldType), Jvm.Cond.code ({ cls := "java/lang/AbstractStringBuilder", name := "putStringAt", desc := "(ILjava/lang/String;)V" } : Jvm.MethodName) jdk_68_method_73_code (3 : Nat) (Option.none : Option Jvm.ClassFile.FieldType), Jvm.Cond.code ({ cls := "java/lang/AbstractStringBuilder", name := "inflateIfNeededFor", desc := "(Ljava/lang/String;)V" } : Jvm.MethodName) jdk_68_method_71_code (2 : Nat) (Option.none : Option Jvm.ClassFile.FieldType), Jvm.Cond.code ({ cls := "java/lang/String", name := "getBytes", desc := "([BIB)V" } : Jvm.MethodName) jdk_42_method_147_code (4 : Nat) (Option.none : Option Jvm.ClassFile.FieldType), Jvm.Cond.code ({ cls := "java/lang/StringBuilder", name := "append", desc := "(C)Ljava/lang/StringBuilder;" } : Jvm.MethodName) jdk_67_method_14_code (2 : Nat) (Option.some (Jvm.ClassFile.FieldType.object "java/lang/StringBuilder")), Jvm.Cond.code ({ cls := "java/lang/AbstractStringBuilder", name := "append", desc := "(C)Ljava/lang/AbstractStringBuilder;" } : Jvm.MethodName) jdk_68_method_31_code (2 : Nat) (Option.some (Jvm.ClassFile.FieldType.object "java/lang/AbstractStringBuilder")), Jvm.Cond.code ({ cls := "java/lang/AbstractStringBuilder", name := "isLatin1", desc := "()Z" } : Jvm.MethodName) jdk_68_method_68_code (1 : Nat) (Option.some Jvm.ClassFile.FieldType.boolean), Jvm.Cond.code ({ cls := "java/lang/StringBuilder", name := "toString", desc := "()Ljava/lang/String;" } : Jvm.MethodName) jdk_67_method_42_code (1 : Nat) (Option.some (Jvm.ClassFile.FieldType.object "java/lang/String")), Jvm.Cond.code ({ cls := "java/lang/String", name := "<init>", desc := "(Ljava/lang/StringBuilder;)V" } : Jvm.MethodName) jdk_42_method_53_code (2 : Nat) (Option.none : Option Jvm.ClassFile.FieldType), Jvm.Cond.code ({ cls := "java/lang/String", name := "<init>", desc := "(Ljava/lang/AbstractStringBuilder;Ljava/lang/Void;)V" } : Jvm.MethodName) jdk_42_method_150_code (5 : Nat) (Option.none : Option Jvm.ClassFile.FieldType), Jvm.Cond.code ({ cls := "java/lang/AbstractStringBuilder", name := "getValue", desc := "()[B" } : Jvm.MethodName) jdk_68_method_64_code (1 : Nat) (Option.some (Jvm.ClassFile.FieldType.array Jvm.ClassFile.FieldType.byte)), Jvm.Cond.code ({ cls := "java/lang/StringBuilder", name := "length", desc := "()I" } : Jvm.MethodName) jdk_67_method_93_code (1 : Nat) (Option.some Jvm.ClassFile.FieldType.int), Jvm.Cond.code ({ cls := "java/lang/AbstractStringBuilder", name := "length", desc := "()I" } : Jvm.MethodName) jdk_68_method_6_code (1 : Nat) (Option.some Jvm.ClassFile.FieldType.int), Jvm.Cond.code ({ cls := "java/util/Arrays", name := "copyOfRange", desc := "([BII)[B" } : Jvm.MethodName) jdk_65_method_132_code (3 : Nat) (Option.some (Jvm.ClassFile.FieldType.array Jvm.ClassFile.FieldType.byte)), Jvm.Cond.code ({ cls := "java/util/Arrays", name := "copyOfRangeByte", desc := "([BII)[B" } : Jvm.MethodName) jdk_65_method_133_code (5 : Nat) (Option.some (Jvm.ClassFile.FieldType.array Jvm.ClassFile.FieldType.byte)), Jvm.Cond.code ({ cls := "java/util/Arrays", name := "checkLength", desc := "(II)V" } : Jvm.MethodName) jdk_65_method_131_code (2 : Nat) (Option.none : Option Jvm.ClassFile.FieldType), Jvm.Cond.code ({ cls := "com/example/edgewise/edgewise/OpaqueText", name := "encode", desc := "(Ljava/lang/String;)Ljava/lang/String;" } : Jvm.MethodName) prog_14_method_2_code (1 : Nat) (Option.some (Jvm.ClassFile.FieldType.object "java/lang/String")), Jvm.Cond.code ({ cls := "java/lang/String", name := "getBytes", desc := "(Ljava/nio/charset/Charset;)[B" } : Jvm.MethodName) jdk_42_method_64_code (2 : Nat) (Option.some (Jvm.ClassFile.FieldType.array Jvm.ClassFile.FieldType.byte)), Jvm.Cond.code ({ cls := "java/lang/String", name := "encode", desc := "(Ljava/nio/charset/Charset;B[B)[B" } : Jvm.MethodName) jdk_42_method_18_code (3 : Nat) (Option.some (Jvm.ClassFile.FieldType.array Jvm.ClassFile.FieldType.byte)), Jvm.Cond.code ({ cls := "java/lang/String", name := "encodeUTF8", desc := "(B[BZ)[B" } : Jvm.MethodName) jdk_42_method_46_code (9 : Nat) (Option.some (Jvm.ClassFile.FieldType.array Jvm.ClassFile.FieldType.byte)), Jvm.Cond.code ({ cls := "java/lang/StringCoding", name := "hasNegatives", desc := "([BII)Z" } : Jvm.MethodName) jdk_123_method_2_code (3 : Nat) (Option.some Jvm.ClassFile.FieldType.boolean), Jvm.Cond.code ({ cls := "java/lang/StringCoding", name := "countPositives", desc := "([BII)I" } : Jvm.MethodName) jdk_123_method_3_code (5 : Nat) (Option.some Jvm.ClassFile.FieldType.int), Jvm.Cond.code ({ cls := "java/util/Base64$Encoder", name := "encodeToString", desc := "([B)Ljava/lang/String;" } : Jvm.MethodName) jdk_2452_method_5_code (3 : Nat) (Option.some (Jvm.ClassFile.FieldType.object "java/lang/String")), Jvm.Cond.code ({ cls := "java/util/Base64$Encoder", name := "encode", desc := "([B)[B" } : Jvm.MethodName) jdk_2452_method_3_code (5 : Nat) (Option.some (Jvm.ClassFile.FieldType.array Jvm.ClassFile.FieldType.byte)), Jvm.Cond.code ({ cls := "java/lang/Math", name := "multiplyExact", desc := "(II)I" } : Jvm.MethodName) jdk_29_method_28_code (4 : Nat) (Option.some Jvm.ClassFile.FieldType.int), Jvm.Cond.code ({ cls := "java/lang/Math", name := "addExact", desc := "(II)I" } : Jvm.MethodName) jdk_29_method_24_code (3 : Nat) (Option.some Jvm.ClassFile.FieldType.int), Jvm.Cond.code ({ cls := "java/util/Base64$Encoder", name := "encode0", desc := "([BII[B)I" } : Jvm.MethodName) jdk_2452_method_10_code (16 : Nat) (Option.some Jvm.ClassFile.FieldType.int), Jvm.Cond.code ({ cls := "java/util/Base64$Encoder", name := "encodeBlock", desc := "([BII[BIZ)V" } : Jvm.MethodName) jdk_2452_method_9_code (11 : Nat) (Option.none : Option Jvm.ClassFile.FieldType), Jvm.Cond.code ({ cls := "java/lang/String", name := "<init>", desc := "([BIII)V" } : Jvm.MethodName) jdk_42_method_7_code (7 : Nat) (Option.none : Option Jvm.ClassFile.FieldType), Jvm.Cond.code ({ cls := "java/lang/String", name := "checkBoundsOffCount", desc := "(III)I" } : Jvm.MethodName) jdk_42_method_157_code (3 : Nat) (Option.some Jvm.ClassFile.FieldType.int), Jvm.Cond.code ({ cls := "jdk/internal/util/Preconditions", name := "checkFromIndexSize", desc := "(IIILjava/util/function/BiFunction;)I" } : Jvm.MethodName) jdk_41_method_13_code (4 : Nat) (Option.some Jvm.ClassFile.FieldType.int), Jvm.Cond.code ({ cls := "com/example/edgewise/edgewise/CursorEncodePinLaw", name := "eqAt", desc := "(Ljava/lang/String;[CII)Z" } : Jvm.MethodName) method_3_code (4 : Nat) (Option.some Jvm.ClassFile.FieldType.boolean), Jvm.Cond.code ({ cls := "java/lang/String", name := "charAt", desc := "(I)C" } : Jvm.MethodName) jdk_42_method_56_code (2 : Nat) (Option.some Jvm.ClassFile.FieldType.char), Jvm.Cond.code ({ cls := "java/lang/StringLatin1", name := "charAt", desc := "([BI)C" } : Jvm.MethodName) jdk_43_method_2_code (2 : Nat) (Option.some Jvm.ClassFile.FieldType.char), Jvm.Cond.code ({ cls := "java/lang/String", name := "checkIndex", desc := "(II)V" } : Jvm.MethodName) jdk_42_method_155_code (2 : Nat) (Option.none : Option Jvm.ClassFile.FieldType), Jvm.Cond.code ({ cls := "jdk/internal/util/Preconditions", name := "checkIndex", desc := "(IILjava/util/function/BiFunction;)I" } : Jvm.MethodName) jdk_41_method_11_code (3 : Nat) (Option.some Jvm.ClassFile.FieldType.int), Jvm.Cond.code ({ cls := "java/lang/StringUTF16", name := "newBytesFor", desc := "(I)[B" } : Jvm.MethodName) jdk_52_method_2_code (1 : Nat) (Option.some (Jvm.ClassFile.FieldType.array Jvm.ClassFile.FieldType.byte)), Jvm.Cond.code ({ cls := "java/lang/StringUTF16", name := "newBytesLength", desc := "(I)I" } : Jvm.MethodName) jdk_52_method_3_code (1 : Nat) (Option.some Jvm.ClassFile.FieldType.int), Jvm.Cond.code ({ cls := "java/util/Arrays", name := "copyOf", desc := "([BI)[B" } : Jvm.MethodName) jdk_65_method_121_code (3 : Nat) (Option.some (Jvm.ClassFile.FieldType.array Jvm.ClassFile.FieldType.byte)), Jvm.Cond.code ({ cls := "java/lang/String", name := "<init>", desc := "([C)V" } : Jvm.MethodName) jdk_42_method_3_code (2 : Nat) (Option.none : Option Jvm.ClassFile.FieldType), Jvm.Cond.code ({ cls := "java/lang/String", name := "<init>", desc := "([CIILjava/lang/Void;)V" } : Jvm.MethodName) jdk_42_method_149_code (6 : Nat) (Option.none : Option Jvm.ClassFile.FieldType), Jvm.Cond.code ({ cls := "java/lang/StringUTF16", name := "compress", desc := "([CII)[B" } : Jvm.MethodName) jdk_52_method_16_code (6 : Nat) (Option.some (Jvm.ClassFile.FieldType.array Jvm.ClassFile.FieldType.byte)), Jvm.Cond.code ({ cls := "java/lang/StringUTF16", name := "compress", desc := "([CI[BII)I" } : Jvm.MethodName) jdk_52_method_21_code (7 : Nat) (Option.some Jvm.ClassFile.FieldType.int), Jvm.Cond.code ({ cls := "java/lang/StringUTF16", name := "coderFromArrayLen", desc := "([BI)B" } : Jvm.MethodName) jdk_52_method_15_code (2 : Nat) (Option.some Jvm.ClassFile.FieldType.byte)]
set_option maxRecDepth 65536 in
theorem codes_eq : words1.filter isCode = codes1 := rfl
theorem w_codes : ∀ c ∈ words1.filter isCode, c.before args0 about1 = true := by
  rw [codes_eq]
  intro c hc
  simp only [codes1, List.mem_cons, List.not_mem_nil, or_false] at hc
  rcases hc with rfl | rfl | rfl | rfl | rfl | rfl | rfl | rfl | rfl | rfl | rfl | rfl | rfl | rfl | rfl | rfl | rfl | rfl | rfl | rfl | rfl | rfl | rfl | rfl | rfl | rfl | rfl | rfl | rfl | rfl | rfl | rfl | rfl | rfl | rfl | rfl | rfl | rfl | rfl | rfl | rfl | rfl | rfl | rfl | rfl | rfl | rfl | rfl | rfl | rfl | rfl | rfl | rfl | rfl | rfl | rfl | rfl | rfl | rfl | rfl | rfl | rfl | rfl | rfl | rfl | rfl | rfl | rfl | rfl | rfl | rfl | rfl
  · exact w_c0
  · exact w_c1
  · exact w_c2
  · exact w_c3
  · exact w_c4
  · exact w_c5
  · exact w_c6
  · exact w_c7
  · exact w_c8
  · exact w_c9
  · exact w_c10
  · exact w_c11
  · exact w_c12
  · exact w_c13
  · exact w_c14
  · exact w_c15
  · exact w_c16
  · exact w_c17
  · exact w_c18
  · exact w_c19
  · exact w_c20
  · exact w_c21
  · exact w_c22
  · exact w_c23
  · exact w_c24
  · exact w_c25
  · exact w_c26
  · exact w_c27
  · exact w_c28
  · exact w_c29
  · exact w_c30
  · exact w_c31
  · exact w_c32
  · exact w_c33
  · exact w_c34
  · exact w_c35
  · exact w_c36
  · exact w_c37
  · exact w_c38
  · exact w_c39
  · exact w_c40
  · exact w_c41
  · exact w_c42
  · exact w_c43
  · exact w_c44
  · exact w_c45
  · exact w_c46
  · exact w_c47
  · exact w_c48
  · exact w_c49
  · exact w_c50
  · exact w_c51
  · exact w_c52
  · exact w_c53
  · exact w_c54
  · exact w_c55
  · exact w_c56
  · exact w_c57
  · exact w_c58
  · exact w_c59
  · exact w_c60
  · exact w_c61
  · exact w_c62
  · exact w_c63
  · exact w_c64
  · exact w_c65
  · exact w_c66
  · exact w_c67
  · exact w_c68
  · exact w_c69
  · exact w_c70
  · exact w_c71
set_option maxRecDepth 65536 in
theorem w_t1 : (words1.take 24).all (fun c => isCode c || c.before args0 about1) = true := by decide +kernel
set_option maxRecDepth 65536 in
theorem w_t2 : ((words1.drop 24).take 24).all (fun c => isCode c || c.before args0 about1) = true := by decide +kernel
set_option maxRecDepth 65536 in
theorem w_t3 : (((words1.drop 24).drop 24).take 24).all (fun c => isCode c || c.before args0 about1) = true := by decide +kernel
set_option maxRecDepth 65536 in
theorem w_t4 : ((((words1.drop 24).drop 24).drop 24).take 24).all (fun c => isCode c || c.before args0 about1) = true := by decide +kernel
set_option maxRecDepth 65536 in
theorem w_t5 : (((((words1.drop 24).drop 24).drop 24).drop 24).take 24).all (fun c => isCode c || c.before args0 about1) = true := by decide +kernel
set_option maxRecDepth 65536 in
theorem w_t6 : ((((((words1.drop 24).drop 24).drop 24).drop 24).drop 24).take 24).all (fun c => isCode c || c.before args0 about1) = true := by decide +kernel
set_option maxRecDepth 65536 in
theorem w_t7 : (((((((words1.drop 24).drop 24).drop 24).drop 24).drop 24).drop 24).take 24).all (fun c => isCode c || c.before args0 about1) = true := by decide +kernel
set_option maxRecDepth 65536 in
theorem w_t8 : ((((((((words1.drop 24).drop 24).drop 24).drop 24).drop 24).drop 24).drop 24).take 24).all (fun c => isCode c || c.before args0 about1) = true := by decide +kernel
set_option maxRecDepth 65536 in
theorem w_t9 : (((((((((words1.drop 24).drop 24).drop 24).drop 24).drop 24).drop 24).drop 24).drop 24).take 24).all (fun c => isCode c || c.before args0 about1) = true := by decide +kernel
set_option maxRecDepth 65536 in
theorem w_t10 : ((((((((((words1.drop 24).drop 24).drop 24).drop 24).drop 24).drop 24).drop 24).drop 24).drop 24).take 24).all (fun c => isCode c || c.before args0 about1) = true := by decide +kernel
set_option maxRecDepth 65536 in
theorem w_t11 : (((((((((((words1.drop 24).drop 24).drop 24).drop 24).drop 24).drop 24).drop 24).drop 24).drop 24).drop 24).take 24).all (fun c => isCode c || c.before args0 about1) = true := by decide +kernel
set_option maxRecDepth 65536 in
theorem w_t12 : ((((((((((((words1.drop 24).drop 24).drop 24).drop 24).drop 24).drop 24).drop 24).drop 24).drop 24).drop 24).drop 24).take 24).all (fun c => isCode c || c.before args0 about1) = true := by decide +kernel
set_option maxRecDepth 65536 in
theorem w_t13 : (((((((((((((words1.drop 24).drop 24).drop 24).drop 24).drop 24).drop 24).drop 24).drop 24).drop 24).drop 24).drop 24).drop 24).take 24).all (fun c => isCode c || c.before args0 about1) = true := by decide +kernel
set_option maxRecDepth 65536 in
theorem w_t14 : ((((((((((((((words1.drop 24).drop 24).drop 24).drop 24).drop 24).drop 24).drop 24).drop 24).drop 24).drop 24).drop 24).drop 24).drop 24).take 24).all (fun c => isCode c || c.before args0 about1) = true := by decide +kernel
set_option maxRecDepth 65536 in
theorem w_t15 : (((((((((((((((words1.drop 24).drop 24).drop 24).drop 24).drop 24).drop 24).drop 24).drop 24).drop 24).drop 24).drop 24).drop 24).drop 24).drop 24).take 24).all (fun c => isCode c || c.before args0 about1) = true := by decide +kernel
set_option maxRecDepth 65536 in
theorem w_t16 : (((((((((((((((words1.drop 24).drop 24).drop 24).drop 24).drop 24).drop 24).drop 24).drop 24).drop 24).drop 24).drop 24).drop 24).drop 24).drop 24).drop 24).all (fun c => isCode c || c.before args0 about1) = true := by decide +kernel
theorem w_tables : (allAtoms (Jvm.Cond.code x code maxLocals ret :: tables_1)).before args0 about1 = true := by
  rw [allAtoms_all]
  show words1.all (fun c => c.before args0 about1) = true
  refine all_split ?_ w_codes
  rw [← List.take_append_drop 24 words1, List.all_append, w_t1, ← List.take_append_drop 24 (words1.drop 24), List.all_append, w_t2, ← List.take_append_drop 24 ((words1.drop 24).drop 24), List.all_append, w_t3, ← List.take_append_drop 24 (((words1.drop 24).drop 24).drop 24), List.all_append, w_t4, ← List.take_append_drop 24 ((((words1.drop 24).drop 24).drop 24).drop 24), List.all_append, w_t5, ← List.take_append_drop 24 (((((words1.drop 24).drop 24).drop 24).drop 24).drop 24), List.all_append, w_t6, ← List.take_append_drop 24 ((((((words1.drop 24).drop 24).drop 24).drop 24).drop 24).drop 24), List.all_append, w_t7, ← List.take_append_drop 24 (((((((words1.drop 24).drop 24).drop 24).drop 24).drop 24).drop 24).drop 24), List.all_append, w_t8, ← List.take_append_drop 24 ((((((((words1.drop 24).drop 24).drop 24).drop 24).drop 24).drop 24).drop 24).drop 24), List.all_append, w_t9, ← List.take_append_drop 24 (((((((((words1.drop 24).drop 24).drop 24).drop 24).drop 24).drop 24).drop 24).drop 24).drop 24), List.all_append, w_t10, ← List.take_append_drop 24 ((((((((((words1.drop 24).drop 24).drop 24).drop 24).drop 24).drop 24).drop 24).drop 24).drop 24).drop 24), List.all_append, w_t11, ← List.take_append_drop 24 (((((((((((words1.drop 24).drop 24).drop 24).drop 24).drop 24).drop 24).drop 24).drop 24).drop 24).drop 24).drop 24), List.all_append, w_t12, ← List.take_append_drop 24 ((((((((((((words1.drop 24).drop 24).drop 24).drop 24).drop 24).drop 24).drop 24).drop 24).drop 24).drop 24).drop 24).drop 24), List.all_append, w_t13, ← List.take_append_drop 24 (((((((((((((words1.drop 24).drop 24).drop 24).drop 24).drop 24).drop 24).drop 24).drop 24).drop 24).drop 24).drop 24).drop 24).drop 24), List.all_append, w_t14, ← List.take_append_drop 24 ((((((((((((((words1.drop 24).drop 24).drop 24).drop 24).drop 24).drop 24).drop 24).drop 24).drop 24).drop 24).drop 24).drop 24).drop 24).drop 24), List.all_append, w_t15, w_t16]
  rfl
set_option maxRecDepth 65536 in
theorem w_rest : rest_1_c.before args0 about1 = true := by decide +kernel
set_option maxRecDepth 65536 in
theorem w_case : (Jvm.Cond.and given_1 narrow_1).before args0 about1 = true := by decide +kernel
set_option maxRecDepth 65536 in
theorem w_consts : constsHeld consts_1 about1 := Jvm.Lit.constsHeldB_iff.mp (by decide +kernel)
theorem w_applies : (headSpec (Jvm.Cond.code x code maxLocals ret :: tables_1) room_1).applies x e0.platform about1 = true :=
  (Spec.applies_iff w_frames).mpr ⟨w_running, w_runnable, w_alone, w_named, w_hears, w_ripe, w_room, w_tables⟩
theorem atStart : AtStart classFile x code maxLocals ret World_1 tables_1 room_1 Calls_1 rest_1 Pre_1 launch0 p0 e0 about1 theMethod args0 below0 :=
  ⟨lists_1, trivial, launch0.admits_env _ _ _, launch0.least_env, fairChoices_fair.cas, fairChoices_fair.clock, w_frames, w_args, w_heap, w_applies, ⟨w_consts, trivial⟩, w_rest, w_case⟩
end start1
theorem witness_1 : WitnessClaimed_1 := ⟨start1.p0, start1.e0, start1.about1, start1.theMethod, start1.args0, start1.below0, start1.atStart⟩
end Jvm.Pilot.@@N@@
