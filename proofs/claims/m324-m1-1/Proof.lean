import JvmDerived
import JvmDerived.Pilot.@@N@@Statement
import JvmDerived.Pilot.@@N@@Code
set_option linter.unusedVariables false
set_option linter.unusedSimpArgs false
namespace Jvm.Pilot.@@N@@
open Jvm Jvm.ClassFile Sem Op Lib Jvm.Free Jvm.Stand Jvm.LawKit Jvm.RoadKit Bundle Jvm.Pilot.@@N@@.Jvm.D
section Own
variable {p : Program} {l : Launch} {e : Env} {R : Room} {s : State} {m : MethodId} {args : Array Value} {below : List Frame} {meth : Method} {c : Code} {Z : State} {a0 : Array Value} {own : String} {cd : ByteArray} {mx : Nat} {ret : Option FieldType} {nm : String}
variable {EL : List (String × Nat)} {n0 bk : Nat} {eb : Heap → Nat} {Q : Option Value → Heap → Prop} {h h' h1 h2 : Heap} {k n : Nat} {vm0 : Vm}
/-- the cells that P names stand in h' as they stood in h -/
def OKp (P : Nat → Prop) (h h' : Heap) : Prop := h.size ≤ h'.size ∧ ∀ (x : Nat) (cl : Cell), P x → h[x]? = some cl → h'[x]? = some cl
section Facts
variable {P P' : Nat → Prop} {a b : Nat} {C O nn d : String} {v w : Value} {sl : Nat} {ty : FieldType}
theorem OKp.refl : OKp P h h := ⟨Nat.le_refl _, fun _ _ _ q => q⟩
theorem OKp.trans (A : OKp P h h1) (B : OKp P h1 h2) : OKp P h h2 := ⟨Nat.le_trans A.1 B.1, fun x cl q r => B.2 x cl q (A.2 x cl q r)⟩
theorem OKp.weak (A : OKp P h h') (q : ∀ x, P' x → P x) : OKp P' h h' := ⟨A.1, fun x cl r => A.2 x cl (q x r)⟩
theorem OKp.ofExt (E : Ext h h') : OKp P h h' := ⟨E.1, fun x cl _ r => E.2 x cl r⟩
theorem OKp.ofWr (W : Wr h h' a sl v) : OKp (fun x => x ≠ a) h h' := ⟨Nat.le_of_eq W.size.symm, fun x cl q r => by obtain ⟨c', e1, -, -, -, e5, -⟩ := wr_at W r; rw [← e5 q]; exact e1⟩
theorem OKp.ext (A : OKp P h h1) (E : Ext h1 h2) : OKp P h h2 := A.trans (OKp.ofExt E)
theorem OKp.wr (A : OKp P h h1) (W : Wr h1 h2 a sl v) (q : ∀ x, P x → x ≠ a) : OKp P h h2 := A.trans ((OKp.ofWr W).weak q)
theorem own_exa (K : OKp P h h') (F : Exa Z h a C) (q : P a) : Exa Z h' a C := by obtain ⟨cell, kk, g1, r⟩ := F; exact ⟨cell, kk, K.2 _ _ q g1, r⟩
theorem own_fld (K : OKp P h h') (F : Fld Z h a O nn d v) (q : P a) : Fld Z h' a O nn d v := by obtain ⟨cell, cf, kk, i, f, g1, r⟩ := F; exact ⟨cell, cf, kk, i, f, K.2 _ _ q g1, r⟩
theorem own_arr {cl : Cell} (K : OKp P h h') (F : Arr Z h a cl ty) (q : P a) : Arr Z h' a cl ty := ⟨K.2 _ _ q F.1, F.2⟩
theorem own_ins {bo : Bool} (K : OKp P h h') (F : Ins Z h a C bo) (q : P a) : Ins Z h' a C bo := by obtain ⟨cell, kk, g1, r⟩ := F; exact ⟨cell, kk, K.2 _ _ q g1, r⟩
/-- an array of ints (bytes, chars ..) with these components -/
def Ar (Z : State) (h : Heap) (a : Nat) (ty : FieldType) (xs : List Int32) : Prop := ∃ cl : Cell, Arr Z h a cl ty ∧ cl.slots.size = xs.length ∧ xs.length < 2147483648 ∧ (∀ (i : Nat) (x : Int32), xs[i]? = some x → cl.slots[i]? = some (Value.int x)) ∧ ∀ x ∈ xs, fits ty (Value.int x) = true
theorem Ar.kp {xs : List Int32} (K : OKp P h h') (F : Ar Z h a ty xs) (q : P a) : Ar Z h' a ty xs := by obtain ⟨cl, A, r⟩ := F; exact ⟨cl, own_arr K A q, r⟩
theorem Ar.lt {xs : List Int32} (F : Ar Z h a ty xs) : a < h.size := by obtain ⟨cl, A, r⟩ := F; exact A.lt
theorem Ar.ext {xs : List Int32} (F : Ar Z h a ty xs) (E : Ext h h') : Ar Z h' a ty xs := F.kp (P := fun _ => True) (OKp.ofExt E) trivial
theorem Ar.other {xs : List Int32} (F : Ar Z h b ty xs) (W : Wr h h' a sl v) (q : b ≠ a) : Ar Z h' b ty xs := F.kp (OKp.ofWr W) q
theorem own_len31 {i : Nat} {j : Int32} (hi : i < 2147483648) (hj : j = Int32.ofNat i) : ¬ j < 0 ∧ j.toNatClampNeg = i := by
  subst hj
  have e : (Int32.ofNat i).toInt = i := Int32.toInt_ofNat_small (by omega)
  refine ⟨?_, by simp only [Int32.toNatClampNeg, e]; omega⟩
  rw [Int32.lt_iff_toInt_lt, e]; have : (0 : Int32).toInt = 0 := rfl; omega
theorem Ar.set {xs : List Int32} {i : Nat} {x : Int32} (F : Ar Z h a ty xs) (W : Wr h h' a i (.int x)) (hi : i < xs.length) (hf : fits ty (.int x) = true) : Ar Z h' a ty (xs.set i x) := by
  obtain ⟨cl, A, g1, g2, g3, g4⟩ := F
  refine ⟨cl.setSlot i (.int x), A.same W, by rw [sz_set, List.length_set, g1], by rw [List.length_set]; exact g2, fun j y hy => ?_, fun y hy => ?_⟩
  · rw [List.getElem?_set] at hy
    by_cases q : i = j
    · subst q; rw [if_pos rfl, if_pos hi] at hy; cases hy; simp [Cell.setSlot, g1, hi]
    · rw [if_neg q] at hy; simp only [Cell.setSlot]; rw [Array.getElem?_setIfInBounds_ne q]; exact g3 j y hy
  · rcases List.mem_or_eq_of_mem_set hy with q | rfl
    · exact g4 y q
    · exact hf
theorem Ar.arv {xs : List Int32} (F : Ar Z h a ty xs) : ∃ kb, Arv Z h a kb ty (Int32.ofNat xs.length) (xs.map Value.int) (.int 0) := by
  obtain ⟨cl, A, g1, g2, g3, g4⟩ := F
  obtain ⟨q1, q2⟩ := own_len31 g2 rfl
  refine ⟨cl.cls, cl, A, rfl, by rw [q2, g1], q1, fun i hi => ?_, fun i hi => ?_⟩
  · rw [g1] at hi
    have e : xs[i]? = some xs[i] := List.getElem?_eq_getElem hi
    rw [g3 i _ e, List.getD_eq_getElem?_getD, List.getElem?_map, e]; rfl
  · rw [g1] at hi
    have e : xs[i]? = some xs[i] := List.getElem?_eq_getElem hi
    rw [List.getD_eq_getElem?_getD, List.getElem?_map, e]
    exact g4 _ (List.getElem_mem hi)
theorem Ar.ofArv {xs : List Int32} {kb : ClassId} (F : Arv Z h a kb ty (Int32.ofNat xs.length) (xs.map Value.int) (.int 0)) (hn : xs.length < 2147483648) : Ar Z h a ty xs := by
  obtain ⟨cl, A, -, g1, -, H, G⟩ := F
  rw [(own_len31 hn rfl).2] at g1
  refine ⟨cl, A, g1, hn, fun i x hx => ?_, fun x hx => ?_⟩
  · have hi : i < xs.length := (List.getElem?_eq_some_iff.mp hx).1
    rw [H i (by omega), List.getD_eq_getElem?_getD, List.getElem?_map, hx]; rfl
  · obtain ⟨i, hi, rfl⟩ := List.getElem_of_mem hx
    have q := G i (by omega)
    rw [List.getD_eq_getElem?_getD, List.getElem?_map, List.getElem?_eq_getElem hi] at q
    exact q
theorem own_ne_exa_ar {kk : Nat} {xs : List Int32} (E : Exa Z h a C) (wi : (Cond.instantiable C kk).before a0 Z = true) (F : Ar Z h b ty xs) : a ≠ b := by obtain ⟨cl, A, -⟩ := F; exact ne_arr E wi A
end Facts
/-- what may be written although String constants are booked -/
def Sf (Z : State) (h : Heap) (bk : Nat) (a : Nat) : Prop := bk ≤ a ∨ (∃ C, Exa Z h a C ∧ C ≠ "java/lang/String" ∧ C ≠ "[B") ∨ ∃ ty xs, Ar Z h a ty xs ∧ ty ≠ .byte
/-- what a walk bears along -/
def OInv (s Z : State) (own : String) (EL : List (String × Nat)) (m : MethodId) (n0 bk : Nat) (vm0 : Vm) (h : Heap) : Prop :=
  (∃ k0, s.Since vm0 k0 ∧ k0 ≤ h.size) ∧ Z.Warmed39 vm0 ∧ vm0.findClass own = some m.cls ∧ CHr Z EL s.vm s.heap vm0 h ∧ (∀ y, Bk Z EL vm0 h y → y < bk) ∧ OKp (fun x => x < n0) s.heap h ∧ Ext Z.heap h ∧ Z.heap.size ≤ n0
theorem own_exttrans {g : Heap} (A : Ext g h) (B : Ext h h') : Ext g h' := ⟨Nat.le_trans A.1 B.1, fun x cl q => B.2 x cl (A.2 x cl q)⟩
theorem OInv.ext (I : OInv s Z own EL m n0 bk vm0 h) (E : Ext h h') : OInv s Z own EL m n0 bk vm0 h' := by
  obtain ⟨⟨k0, i1, i2⟩, i3, i4, i5, i6, i7, i8, i9⟩ := I
  exact ⟨⟨k0, i1, Nat.le_trans i2 E.1⟩, i3, i4, i5.trans (CHr.ext E i5.1), fun y B => i6 y ((i5.1.step fun _ _ _ q => E.2 _ _ q).2 y B), i7.ext E, own_exttrans i8 E, i9⟩
theorem OInv.safe {a : Nat} (I : OInv s Z own EL m n0 bk vm0 h) (S : Sf Z h bk a) : Safe Z EL vm0 h a := by
  rcases S with q | ⟨C, E, q1, q2⟩ | ⟨ty, xs, ⟨cl, A, -⟩, q⟩
  · exact fun B => absurd (I.2.2.2.2.1 a B) (Nat.not_lt.mpr q)
  · exact Safe.exa I.2.1.alike E q1 q2
  · exact Safe.arr I.2.1.alike A q
theorem OInv.wr {a : Nat} {sl : Nat} {v : Value} (I : OInv s Z own EL m n0 bk vm0 h) (W : Wr h h' a sl v) (hn : n0 ≤ a) (S : Sf Z h bk a) : OInv s Z own EL m n0 bk vm0 h' := by
  have hs := I.safe S
  obtain ⟨⟨k0, i1, i2⟩, i3, i4, i5, i6, i7, i8, i9⟩ := I
  refine ⟨⟨k0, i1, by rw [W.size]; exact i2⟩, i3, i4, i5.trans (CHr.wr W hs i5.1), fun y B => i6 y ((i5.1.wrStep W hs).2 y B), i7.wr W (fun x q e => absurd (show x < n0 from q) (by rw [show x = a from e]; exact Nat.not_lt.mpr hn)), ?_, i9⟩
  refine ⟨by rw [W.size]; exact i8.1, fun x cl q => ?_⟩
  have hx := (Array.getElem?_eq_some_iff.mp q).1
  obtain ⟨c', e1, -, -, -, e5, -⟩ := wr_at W (i8.2 x cl q)
  rw [← e5 (fun e => by rw [show x = a from e] at hx; omega)]; exact e1
/-- .. over a law of the library that keeps all but one cell -/
theorem OInv.keep {a : Nat} (I : OInv s Z own EL m n0 bk vm0 h) (W : Keep h h' [a]) (hn : n0 ≤ a) (S : Sf Z h bk a) : OInv s Z own EL m n0 bk vm0 h' := by
  have hs : ∀ x ∈ [a], Safe Z EL vm0 h x := fun x hx => by cases List.mem_singleton.mp hx; exact I.safe S
  obtain ⟨⟨k0, i1, i2⟩, i3, i4, i5, i6, i7, i8, i9⟩ := I
  refine ⟨⟨k0, i1, Nat.le_trans i2 W.1⟩, i3, i4, i5.trans (CHr.keep W hs i5.1), fun y B => i6 y ((i5.1.keepStep W hs).2 y B), i7.trans ⟨W.1, fun x cl q r => W.2.1 x cl r fun hm => ?_⟩, ?_, i9⟩
  · cases List.mem_singleton.mp hm; exact absurd (show a < n0 from q) (Nat.not_lt.mpr hn)
  · refine ⟨Nat.le_trans i8.1 W.1, fun x cl q => W.2.1 x cl (i8.2 x cl q) fun hm => ?_⟩
    have hx := (Array.getElem?_eq_some_iff.mp q).1
    cases List.mem_singleton.mp hm; omega
/-- what a walk knows of its own method -/
def Ctx (p : Program) (meth : Method) (c : Code) (Z : State) (a0 : Array Value) (EL : List (String × Nat)) (cd : ByteArray) (mx : Nat) (ret : Option FieldType) (nm : String) : Prop :=
  p.tables.exec = Jvm.exec ∧ EW Z a0 EL ∧ True ∧ meth.sig.returnType = ret ∧ meth.locks = false ∧ c.code = cd ∧ c.maxLocals = mx ∧ meth.name = nm
/-- from this frame, over the heap h, the run returns, and Q holds of what it returns and leaves -/
def Go (p : Program) (l : Launch) (e : Env) (R : Room) (s : State) (m : MethodId) (args : Array Value) (below : List Frame) (meth : Method) (c : Code) (Z : State) (own : String) (EL : List (String × Nat)) (n0 : Nat) (eb : Heap → Nat) (Q : Option Value → Heap → Prop) (bk : Nat) (h : Heap) (k n : Nat) (pc : Nat) (Ls : Array Slot) (st : List Value) : Prop :=
  ∀ T L vm0, Stand p l e R (s.setVm vm0) m args below meth c T L k n → T.heap = h → Fr n0 L → OInv s Z own EL m n0 bk vm0 h →
    ∃ t v L', Steps p.tables e below (T.setTop (mkF m pc Ls st)) t ∧ t.status = .running ∧ Ended t below (.returned v) ∧ Fr n0 L' ∧ (∃ k' n', k' ≤ R.cells ∧ n' ≤ R.slots ∧ ReturnedEndW s (.returned v) t L' k' n') ∧ CHr Z EL s.vm s.heap t.vm t.heap ∧ (∀ y, Bk Z EL t.vm t.heap y → y < eb t.heap) ∧ OKp (fun x => x < n0) s.heap t.heap ∧ Ext Z.heap t.heap ∧ Q v t.heap
theorem Go.pure {pc pc' : Nat} {Ls Ls' : Array Slot} {st st' : List Value} (hs : ∀ T t, At T m c below → Steps p.tables e below (T.setTop (mkF m pc' Ls' st')) t → Steps p.tables e below (T.setTop (mkF m pc Ls st)) t) (K : Go p l e R s m args below meth c Z own EL n0 eb Q bk h k n pc' Ls' st') : Go p l e R s m args below meth c Z own EL n0 eb Q bk h k n pc Ls st := fun T L vm0 X eh hF I => by
  obtain ⟨t, v, L', h1, r⟩ := K T L vm0 X eh hF I
  exact ⟨t, v, L', hs T t X.here h1, r⟩
theorem Go.more {pc : Nat} {Ls : Array Slot} {st : List Value} (k2 n2 : Nat) (hk : k ≤ k2) (hn : n ≤ n2) (K : Go p l e R s m args below meth c Z own EL n0 eb Q bk h k2 n2 pc Ls st) : Go p l e R s m args below meth c Z own EL n0 eb Q bk h k n pc Ls st := fun T L vm0 X eh hF I => K T L vm0 (X.more hk hn) eh hF I
theorem Go.upbk {pc : Nat} {Ls : Array Slot} {st : List Value} (bk2 : Nat) (hb : bk ≤ bk2 ∨ h.size ≤ bk2) (K : Go p l e R s m args below meth c Z own EL n0 eb Q bk2 h k n pc Ls st) : Go p l e R s m args below meth c Z own EL n0 eb Q bk h k n pc Ls st := fun T L vm0 X eh hF I => K T L vm0 X eh hF (by
  obtain ⟨i1, i3, i4, i5, i6, i7, i8, i9⟩ := I
  refine ⟨i1, i3, i4, i5, fun y B => ?_, i7, i8, i9⟩
  rcases hb with q | q
  · exact Nat.lt_of_lt_of_le (i6 y B) q
  · obtain ⟨cell, g⟩ := B.there
    exact Nat.lt_of_lt_of_le (Array.getElem?_eq_some_iff.mp g).1 q)
theorem Go.rebk {pc : Nat} {Ls : Array Slot} {st : List Value} (bk2 : Nat) (e2 : bk = bk2) (K : Go p l e R s m args below meth c Z own EL n0 eb Q bk2 h k n pc Ls st) : Go p l e R s m args below meth c Z own EL n0 eb Q bk h k n pc Ls st := e2 ▸ K
/-- a contract -/
def Met (l : Launch) (Z : State) (EL : List (String × Nat)) (y : MethodName) (cd : ByteArray) (mx : Nat) (ret : Option FieldType) (ws : List Jvm.Cond) (rm : Room) (as : Array Value) (n0 bk : Nat) (h : Heap) (eb : Heap → Nat) (Q : Option Value → Heap → Prop) : Prop :=
  MetFree l y (head1 (Jvm.Cond.code y cd mx ret :: ws) rm) (fun a U => a = as ∧ Z.Warmed39 U.vm ∧ U.heap = h ∧ Ext Z.heap h ∧ CHv Z EL U.vm h ∧ ∀ y, Bk Z EL U.vm h y → y < bk) (fun _ _ _ _ _ => True) (fun _ U o U' => ∃ v L, o = .returned v ∧ (Fr n0 L ∧ OKp (fun x => x < n0) h U'.heap ∧ Ext Z.heap U'.heap ∧ (∀ y, Bk Z EL U'.vm U'.heap y → y < eb U'.heap) ∧ Q v U'.heap) ∧ CHr Z EL U.vm U.heap U'.vm U'.heap ∧ ReturnedEndW U o U' L rm.cells rm.slots)
theorem Met.intro {y : MethodName} {ws : List Jvm.Cond} {rm : Room} {as : Array Value} {Ls : Array Slot} (hpl : plainFor y = true) (hent : ∀ m, entryFrame m as mx = mkF m 0 Ls []) (hn0 : Z.heap.size ≤ n0) (hEL : EW Z a0 EL)
    (K : ∀ p e s m below meth c, Ctx p meth c Z a0 EL cd mx ret y.name → Go p l e rm s m as below meth c Z y.cls EL n0 eb Q bk h 0 0 0 Ls []) : Met l Z EL y cd mx ret ws rm as n0 bk h eb Q := by
  refine MetFree.of_bodySF hpl hisR ?_
  intro p e s m args below meth c s₁ Bd hml0 hP hK
  obtain ⟨rfl, hZ, rfl, hE, hH, hB⟩ := hP
  have X0 : Stand p l e rm s m args below meth c s₁ [] 0 0 := Stand.of_body Bd
  have e0 : s₁.heap = s.heap := by rw [Bd.state]; rfl
  have hv : s₁.vm = s.vm := by rw [Bd.state]; rfl
  have hS : s.Since s.vm 0 := by have q := X0.warmed.since 0; rw [hv] at q; exact q
  obtain ⟨t, v, L', h1, h2, h3, h4, ⟨k', n', h5, h6, h7⟩, h8, h9, h10, h11, h12⟩ := K p e s m below meth c ⟨Bd.exec, hEL, trivial, Bd.returns, Bd.notSynchronized, Bd.bytes, hml0, (name_of_methodNamed Bd.named Bd.method).1⟩ s₁ [] s.vm X0 e0 (Fr.nil _) ⟨⟨0, hS, Nat.zero_le _⟩, hZ, findClass_of_methodNamed Bd.named, CHr.refl hH, hB, OKp.refl, hE, hn0⟩
  exact ⟨t, _, castTop (hent m) h1, h2, h3, v, L', rfl, ⟨h4, h10, h11, h9, h12⟩, h8, h7.1, h7.2.1, h7.2.2.1, h7.2.2.2.mono h5 h6⟩
theorem Met.back {y : MethodName} {rm : Room} {as : Array Value} {cd' : ByteArray} {mx' : Nat} {ret' : Option FieldType} {b bkc : Nat} {eb' : Heap → Nat} {Q' : Option Value → Heap → Prop} {len W : Nat} (hM : Met l Z EL y cd' mx' ret' [] rm as b bkc h eb' Q') (hZ : Z.Warmed39 vm0) (hX : Ext Z.heap h) (wc : (Cond.code y cd' mx' ret').before a0 Z = true) (wz : (Cond.initialized y.cls).before a0 Z = true) (hf : rm.frames + 1 ≤ R.frames) (hl : W + (mx' + 11) + rm.locals ≤ R.locals) (hEL : EW Z a0 EL) (H : CHv Z EL vm0 h) (hB : ∀ y, Bk Z EL vm0 h y → y < bkc) :
    BackS l R p e below (s.setVm vm0) args y len W (fun A a => a = as ∧ A.U.heap = h ∧ A.cells + rm.cells ≤ R.cells ∧ A.slots + rm.slots ≤ R.slots)
      (fun A _ v B => ∃ L, (Fr b L ∧ OKp (fun x => x < b) h B.U.heap ∧ Ext Z.heap B.U.heap ∧ (∀ y, Bk Z EL B.U.vm B.U.heap y → y < eb' B.U.heap) ∧ Q' v B.U.heap) ∧ B.locs = A.locs ++ L ∧ B.cells = A.cells + rm.cells ∧ B.slots = A.slots + rm.slots ∧ CHr Z EL vm0 h B.U.vm B.U.heap) :=
  BackS.of_freeW (bytes := cd') (maxL := mx') (ret := ret') (E := fun _ first o t L k n => k = rm.cells ∧ n = rm.slots ∧ (∃ v, o = .returned v ∧ Fr b L ∧ OKp (fun x => x < b) h t.heap ∧ Ext Z.heap t.heap ∧ (∀ y, Bk Z EL t.vm t.heap y → y < eb' t.heap) ∧ Q' v t.heap) ∧ CHr Z EL first.vm first.heap t.vm t.heap) hM hf hl
    (fun m meth c A a Y hp => have hU : Z.Warmed39 A.U.vm := wtrans (s := s.setVm vm0) hZ Y.warmed
      ⟨by show (Cond.and _ .tt).before a A.U = true; rw [Cond.before_and, mv hU wc]; rfl, mv hU wc, mv hU wz, hp.2.2.1, hp.2.2.2⟩)
    (fun m meth c A a g mk Y hp => ⟨hp.1, wtrans (s := s.setVm vm0) hZ Y.warmed, hp.2.1, hX, (CHv.at Y hZ hEL H).1, fun y B => by
      rcases (CHv.at Y hZ hEL H).2.2 y B with q | q
      · exact hB y q
      · obtain ⟨cell, g⟩ := Bk.there B
        exact absurd (Array.getElem?_eq_some_iff.mp g).1 (Nat.not_lt.mpr q)⟩) (fun _ _ _ _ _ _ _ _ _ => trivial)
    (fun _ _ _ _ ⟨v, L, g1, g2, g3, g4⟩ => ⟨L, _, _, g4, rfl, rfl, ⟨v, g1, g2⟩, g3⟩)
    (fun m meth c A a g mk v t L k n Y hp _ _ ⟨e1, e2, ⟨v', e3, e4⟩, e5⟩ => by
      cases e3; subst e1 e2
      refine ⟨L, e4, rfl, rfl, rfl, (CHv.at Y hZ hEL H).trans ?_⟩
      rw [← hp.2.1]; exact e5)
/-- behind a call: the walk goes on -/
theorem Go.behind {pc pc' : Nat} {Ls : Array Slot} {st st' : List Value} {T T2 : State} {L Lc : List Loc} {vm1 : Vm} {b k2 n2 : Nat} {h2 : Heap} {eb' : Heap → Nat} (hT : T.heap = h) (hF : Fr n0 L) (I : OInv s Z own EL m n0 bk vm0 h) (hnb : n0 ≤ b) (X2 : Stand p l e R ((s.setVm vm0).setVm vm1) m args below meth c T2 (L ++ Lc) k2 n2) (e2 : T2.heap = h2)
    (hS2 : (s.setVm vm0).Since vm1 h2.size) (hgr : h.size ≤ h2.size) (q1 : Fr b Lc) (q2 : OKp (fun x => x < b) h h2) (q3 : Ext Z.heap h2) (q4 : ∀ y, Bk Z EL vm1 h2 y → y < eb' h2) (q5 : CHr Z EL vm0 h vm1 h2)
    (hst : Steps p.tables e below (T.setTop (mkF m pc Ls st)) (T2.setTop (mkF m pc' Ls st'))) (K : Go p l e R s m args below meth c Z own EL n0 eb Q (eb' h2) h2 k2 n2 pc' Ls st') :
    ∃ t v L', Steps p.tables e below (T.setTop (mkF m pc Ls st)) t ∧ t.status = .running ∧ Ended t below (.returned v) ∧ Fr n0 L' ∧ (∃ k' n', k' ≤ R.cells ∧ n' ≤ R.slots ∧ ReturnedEndW s (.returned v) t L' k' n') ∧ CHr Z EL s.vm s.heap t.vm t.heap ∧ (∀ y, Bk Z EL t.vm t.heap y → y < eb t.heap) ∧ OKp (fun x => x < n0) s.heap t.heap ∧ Ext Z.heap t.heap ∧ Q v t.heap := by
  obtain ⟨⟨k0, i1, i2⟩, i3, i4, i5, i6, i7, i8, i9⟩ := I
  obtain ⟨t, v, L', g1, r⟩ := K T2 (L ++ Lc) vm1 X2 e2 (hF.app fun y hy => Nat.le_trans hnb (q1 y hy)) ⟨⟨_, i1.trans hS2 (Nat.le_trans i2 hgr), Nat.le_refl _⟩, State.Warmed39.trans (t := s.setVm vm0) i3 hS2.1, (hS2.1.alike.findClass _ _).trans i4, i5.trans q5, q4, i7.trans (q2.weak fun x q => Nat.lt_of_lt_of_le q hnb), q3, i9⟩
  exact ⟨t, v, L', hst.trans g1, r⟩
theorem own_bkc {bkc : Nat} (I : OInv s Z own EL m n0 bk vm0 h) (hb : bk ≤ bkc ∨ h.size ≤ bkc) : ∀ y, Bk Z EL vm0 h y → y < bkc := fun y B => by
  rcases hb with q | q
  · exact Nat.lt_of_lt_of_le (I.2.2.2.2.1 y B) q
  · obtain ⟨cell, g⟩ := B.there
    exact Nat.lt_of_lt_of_le (Array.getElem?_eq_some_iff.mp g).1 q
section Calls
variable {pc : Nat} {Ls : Array Slot} {st : List Value} {i : Nat} {y y0 : MethodName} {cd' : ByteArray} {mx' : Nat} {ret' : Option FieldType} {rm : Room} {Q' : Option Value → Heap → Prop} {b bkc : Nat} {eb' : Heap → Nat} {W : Nat}
theorem Ctx.callS (C : Ctx p meth c Z a0 EL cd mx ret nm) (pc' : Nat) (argsL rest : List Value) (hd : decode cd pc = .ok (.invokestatic i, 3)) (hM : Met l Z EL y cd' mx' ret' [] rm argsL.toArray b bkc h eb' Q') (hnb : n0 ≤ b) (hb : bk ≤ bkc ∨ h.size ≤ bkc) (w1 : (Cond.methodLink own i y).before a0 Z = true) (w2 : (Cond.static y).before a0 Z = true) (w3 : (Cond.initialized y.cls).before a0 Z = true) (w4 : (Cond.code y cd' mx' ret').before a0 Z = true)
    (hy : y.cls ≠ "java/lang/invoke/MethodHandle" ∧ y.cls ≠ "java/lang/invoke/VarHandle") (hsz : Ls.size = mx) (hlen : ∀ sig, parseMethodDescriptor y.desc = some sig → argsL.length = sig.parameters.length) (hf : rm.frames + 1 ≤ R.frames) (hW : 2 * 0 + (rest.map fun v => v.category).sum ≤ W) (hl : W + (mx' + 11) + rm.locals ≤ R.locals) (hrc : k + rm.cells ≤ R.cells) (hrs : n + rm.slots ≤ R.slots) (hst : st = argsL.reverse ++ rest)
    (K : ∀ v h2, OKp (fun x => x < b) h h2 → Q' v h2 → Go p l e R s m args below meth c Z own EL n0 eb Q (eb' h2) h2 (k + rm.cells) (n + rm.slots) pc' Ls (v.toList ++ rest)) (hp : pc + 3 = pc' := by rfl) : Go p l e R s m args below meth c Z own EL n0 eb Q bk h k n pc Ls st := by
  subst hp hst
  obtain ⟨hx, hEL, -, hret, hlk, hby, hmx, -⟩ := C
  intro T L vm0 X eh hF I
  obtain ⟨⟨k0, i1, i2⟩, hZ, hown, i5, i6, i7, i8, i9⟩ := id I
  have hZ' : Z.Warmed39 (s.setVm vm0).vm := hZ
  obtain ⟨v, vm₁, ⟨T2, L2, k2, n2⟩, -, X2, hS2, hgr, ⟨Lc, ⟨q1, q2, q3, q4, q5⟩, l2, y2, z2, q6⟩, st2⟩ := callSS X hx hown (mvT hZ' w1) (mvT hZ' w2) (mvT hZ' w3) (mvT hZ' w4) hy (hM.back (W := W) hZ i8 w4 w3 hf hl hEL i5.1 (own_bkc I hb)) (g := mkF m pc Ls (argsL.reverse ++ rest)) rfl (hsz.trans hmx.symm) hlen rfl hW (Jvm.hb hby hd) (fun _ _ => ⟨rfl, eh, hrc, hrs⟩)
  dsimp only [Pt.U, Pt.locs, Pt.cells, Pt.slots] at X2 l2 y2 z2 st2 q1 q2 q3 q4 q5 q6 hS2 hgr
  subst l2 y2 z2
  exact Go.behind eh hF I hnb X2 rfl hS2 (eh ▸ hgr) q1 q2 q3 q4 q6 st2 (K v _ q2 q5)
theorem Ctx.callI (C : Ctx p meth c Z a0 EL cd mx ret nm) (pc' : Nat) {a : Nat} (argsL rest : List Value) (hd : decode cd pc = .ok (.invokespecial i, 3)) (hM : Met l Z EL y cd' mx' none [] rm (.ref a :: argsL).toArray b bkc h eb' Q') (hy1 : y.name = "<init>") (hnb : n0 ≤ b) (hb : bk ≤ bkc ∨ h.size ≤ bkc) (w1 : (Cond.methodLink own i y).before a0 Z = true) (w2 : (Cond.instanceMethod y).before a0 Z = true) (w3 : (Cond.initialized y.cls).before a0 Z = true) (w4 : (Cond.code y cd' mx' none).before a0 Z = true)
    (hy : y.cls ≠ "java/lang/invoke/MethodHandle" ∧ y.cls ≠ "java/lang/invoke/VarHandle") (hsz : Ls.size = mx) (hlen : ∀ sig, parseMethodDescriptor y.desc = some sig → argsL.length = sig.parameters.length) (hf : rm.frames + 1 ≤ R.frames) (hW : 2 * 0 + (rest.map fun v => v.category).sum ≤ W) (hl : W + (mx' + 11) + rm.locals ≤ R.locals) (hrc : k + rm.cells ≤ R.cells) (hrs : n + rm.slots ≤ R.slots) (hst : st = argsL.reverse ++ .ref a :: rest)
    (K : ∀ v h2, OKp (fun x => x < b) h h2 → Q' v h2 → Go p l e R s m args below meth c Z own EL n0 eb Q (eb' h2) h2 (k + rm.cells) (n + rm.slots) pc' Ls (v.toList ++ rest)) (hp : pc + 3 = pc' := by rfl) : Go p l e R s m args below meth c Z own EL n0 eb Q bk h k n pc Ls st := by
  subst hp hst
  obtain ⟨hx, hEL, -, hret, hlk, hby, hmx, -⟩ := C
  intro T L vm0 X eh hF I
  obtain ⟨⟨k0, i1, i2⟩, hZ, hown, i5, i6, i7, i8, i9⟩ := id I
  have hZ' : Z.Warmed39 (s.setVm vm0).vm := hZ
  obtain ⟨v, vm₁, ⟨T2, L2, k2, n2⟩, -, X2, hS2, hgr, ⟨Lc, ⟨q1, q2, q3, q4, q5⟩, l2, y2, z2, q6⟩, st2⟩ := X.specialBackS hx hy1 hown (mvT hZ' w1) (mvT hZ' w2) (mvT hZ' w4) hy (hM.back (W := W) hZ i8 w4 w3 hf hl hEL i5.1 (own_bkc I hb)) (g := mkF m pc Ls (argsL.reverse ++ .ref a :: rest)) rfl (hsz.trans hmx.symm) (Steps.refl _) hlen rfl hW (Jvm.hb hby hd) (fun _ _ => ⟨rfl, eh, hrc, hrs⟩)
  dsimp only [Pt.U, Pt.locs, Pt.cells, Pt.slots] at X2 l2 y2 z2 st2 q1 q2 q3 q4 q5 q6 hS2 hgr
  subst l2 y2 z2
  exact Go.behind eh hF I hnb X2 rfl hS2 (eh ▸ hgr) q1 q2 q3 q4 q6 st2 (K v _ q2 q5)
theorem Ctx.callV (C : Ctx p meth c Z a0 EL cd mx ret nm) (pc' : Nat) {a : Nat} {K0 : String} (argsL rest : List Value) (hd : decode cd pc = .ok (.invokevirtual i, 3)) (hM : Met l Z EL y cd' mx' ret' [] rm (.ref a :: argsL).toArray b bkc h eb' Q') (E : Exa Z h a K0) (hnb : n0 ≤ b) (hb : bk ≤ bkc ∨ h.size ≤ bkc) (w1 : (Cond.methodLink own i y0).before a0 Z = true) (w5 : (Cond.declares y0).before a0 Z = true) (w6 : (Cond.selects K0 y0 y).before a0 Z = true) (w2 : (Cond.instanceMethod y).before a0 Z = true) (w3 : (Cond.initialized y.cls).before a0 Z = true) (w4 : (Cond.code y cd' mx' ret').before a0 Z = true) (nf : ∀ {s' : State}, Z.Warmed39 s'.vm → NotFace s' y0)
    (hy : y0.cls ≠ "java/lang/invoke/MethodHandle" ∧ y0.cls ≠ "java/lang/invoke/VarHandle") (hsz : Ls.size = mx) (hlen : ∀ sig, parseMethodDescriptor y0.desc = some sig → argsL.length = sig.parameters.length) (hf : rm.frames + 1 ≤ R.frames) (hW : 2 * 0 + (rest.map fun v => v.category).sum ≤ W) (hl : W + (mx' + 11) + rm.locals ≤ R.locals) (hrc : k + rm.cells ≤ R.cells) (hrs : n + rm.slots ≤ R.slots) (hst : st = argsL.reverse ++ .ref a :: rest)
    (K : ∀ v h2, OKp (fun x => x < b) h h2 → Q' v h2 → Go p l e R s m args below meth c Z own EL n0 eb Q (eb' h2) h2 (k + rm.cells) (n + rm.slots) pc' Ls (v.toList ++ rest)) (hp : pc + 3 = pc' := by rfl) : Go p l e R s m args below meth c Z own EL n0 eb Q bk h k n pc Ls st := by
  subst hp hst
  obtain ⟨hx, hEL, -, hret, hlk, hby, hmx, -⟩ := C
  intro T L vm0 X eh hF I
  obtain ⟨⟨k0, i1, i2⟩, hZ, hown, i5, i6, i7, i8, i9⟩ := id I
  have hZ' : Z.Warmed39 (s.setVm vm0).vm := hZ
  obtain ⟨cq, kq, qa, qb, qc⟩ := isOf hZ' eh E
  obtain ⟨v, vm₁, ⟨T2, L2, k2, n2⟩, -, X2, hS2, hgr, ⟨Lc, ⟨q1, q2, q3, q4, q5⟩, l2, y2, z2, q6⟩, st2⟩ := X.virtualBackS hx hown (mvT hZ' w1) (mvT hZ' w5) (nf hZ') (mvT hZ' w6) (mvT hZ' w2) hy (hM.back (W := W) hZ i8 w4 w3 hf hl hEL i5.1 (own_bkc I hb)) qa qc (g := mkF m pc Ls (argsL.reverse ++ .ref a :: rest)) rfl (hsz.trans hmx.symm) (Steps.refl _) hlen rfl hW (Jvm.hb hby hd) (fun _ _ => ⟨rfl, eh, hrc, hrs⟩)
  dsimp only [Pt.U, Pt.locs, Pt.cells, Pt.slots] at X2 l2 y2 z2 st2 q1 q2 q3 q4 q5 q6 hS2 hgr
  subst l2 y2 z2
  exact Go.behind eh hF I hnb X2 rfl hS2 (eh ▸ hgr) q1 q2 q3 q4 q6 st2 (K v _ q2 q5)
theorem Ctx.callU (C : Ctx p meth c Z a0 EL cd mx ret nm) (pc' : Nat) {a : Nat} {K0 : String} (argsL rest : List Value) (hd : decode cd pc = .ok (.invokespecial i, 3)) (hM : Met l Z EL y cd' mx' ret' [] rm (.ref a :: argsL).toArray b bkc h eb' Q') (E : Ins Z h a K0 true) (hnm : y.name ≠ "<init>") (hnb : n0 ≤ b) (hb : bk ≤ bkc ∨ h.size ≤ bkc) (w1 : (Cond.methodLink own i y).before a0 Z = true) (w5 : (Cond.sameMethod y.cls y.cls y.name y.desc).before a0 Z = true) (w6 : (Cond.superclass own y.cls).before a0 Z = true) (w2 : (Cond.instanceMethod y).before a0 Z = true) (w3 : (Cond.initialized y.cls).before a0 Z = true) (w4 : (Cond.code y cd' mx' ret').before a0 Z = true)
    (hsz : Ls.size = mx) (hlen : ∀ sig, parseMethodDescriptor y.desc = some sig → argsL.length = sig.parameters.length) (hf : rm.frames + 1 ≤ R.frames) (hW : 2 * 0 + (rest.map fun v => v.category).sum ≤ W) (hl : W + (mx' + 11) + rm.locals ≤ R.locals) (hrc : k + rm.cells ≤ R.cells) (hrs : n + rm.slots ≤ R.slots) (hst : st = argsL.reverse ++ .ref a :: rest)
    (K : ∀ v h2, OKp (fun x => x < b) h h2 → Q' v h2 → Go p l e R s m args below meth c Z own EL n0 eb Q (eb' h2) h2 (k + rm.cells) (n + rm.slots) pc' Ls (v.toList ++ rest)) (hp : pc + 3 = pc' := by rfl) : Go p l e R s m args below meth c Z own EL n0 eb Q bk h k n pc Ls st := by
  subst hp hst
  obtain ⟨hx, hEL, -, hret, hlk, hby, hmx, -⟩ := C
  intro T L vm0 X eh hF I
  obtain ⟨⟨k0, i1, i2⟩, hZ, hown, i5, i6, i7, i8, i9⟩ := id I
  have hZ' : Z.Warmed39 (s.setVm vm0).vm := hZ
  obtain ⟨v, vm₁, ⟨T2, L2, k2, n2⟩, -, X2, hS2, hgr, ⟨Lc, ⟨q1, q2, q3, q4, q5⟩, l2, y2, z2, q6⟩, st2⟩ := superBackS X hx hZ' hown w1 w5 w2 w6 hnm (hM.back (W := W) hZ i8 w4 w3 hf hl hEL i5.1 (own_bkc I hb)) eh E (g := mkF m pc Ls (argsL.reverse ++ .ref a :: rest)) rfl (hsz.trans hmx.symm) w4 hlen rfl hW (Jvm.hb hby hd) (fun _ _ => ⟨rfl, eh, hrc, hrs⟩)
  dsimp only [Pt.U, Pt.locs, Pt.cells, Pt.slots] at X2 l2 y2 z2 st2 q1 q2 q3 q4 q5 q6 hS2 hgr
  subst l2 y2 z2
  exact Go.behind eh hF I hnb X2 rfl hS2 (eh ▸ hgr) q1 q2 q3 q4 q6 st2 (K v _ q2 q5)
end Calls
section Steps1
variable {pc : Nat} {Ls : Array Slot} {st : List Value} {i : Nat}
theorem Ctx.ldcI (C : Ctx p meth c Z a0 EL cd mx ret nm) (pc' : Nat) {v : Int32} (hd : decode cd pc = .ok (.ldc i, 2)) (w : (Cond.constant own i v).before a0 Z = true) (K : Go p l e R s m args below meth c Z own EL n0 eb Q bk h k n pc' Ls (.int v :: st)) (hp : pc + 2 = pc' := by rfl) : Go p l e R s m args below meth c Z own EL n0 eb Q bk h k n pc Ls st := by
  subst hp
  intro T L vm0 X eh hF I
  obtain ⟨t, v', L', g1, r⟩ := K T L vm0 X eh hF I
  exact ⟨t, v', L', Jvm.Stand.ldcI X C.1 I.2.2.1 (mvT (show Z.Warmed39 (s.setVm vm0).vm from I.2.1) w) rfl (Jvm.hb C.2.2.2.2.2.1 hd) g1, r⟩
theorem Ctx.ldc2 (C : Ctx p meth c Z a0 EL cd mx ret nm) (pc' : Nat) {v : Int64} (hd : decode cd pc = .ok (.ldc2_w i, 3)) (w : (Cond.constantLong own i v).before a0 Z = true) (K : Go p l e R s m args below meth c Z own EL n0 eb Q bk h k n pc' Ls (.long v :: st)) (hp : pc + 3 = pc' := by rfl) : Go p l e R s m args below meth c Z own EL n0 eb Q bk h k n pc Ls st := by
  subst hp
  intro T L vm0 X eh hF I
  obtain ⟨t, v', L', g1, r⟩ := K T L vm0 X eh hF I
  exact ⟨t, v', L', Jvm.Stand.ldc2J X C.1 I.2.2.1 (mvT (show Z.Warmed39 (s.setVm vm0).vm from I.2.1) w) rfl (Jvm.hb C.2.2.2.2.2.1 hd) g1, r⟩
/-- ldc of a String constant whose text is read -/
theorem Ctx.ldcT (C : Ctx p meth c Z a0 EL cd mx ret nm) (pc' : Nat) {text : String} {vs : List Value} {z : Int32} {nn : Nat} (hd : decode cd pc = .ok (.ldc i, 2)) (w : (Cond.stringLink own i text).before a0 Z = true) (wS : ∀ a ∈ Bundle.stringAtoms, a.before a0 Z = true) (hmem : (own, i) ∈ EL) (ht : (∀ c ∈ text.toList, c.toNat < 256) ∧ text.toList.map (fun c => Value.int (Jvm.Lit.byteI c.toNat.toUInt16)) = vs) (hz : ¬ z < 0) (hl : z.toNatClampNeg = vs.length) (hn : 4 * text.toList.length ≤ nn) (hbig : nn ≤ 536870912) (hc : k + 2 ≤ R.cells) (hs : n + (nn + 4) ≤ R.slots)
    (K : ∀ a t kb h2, Ext h h2 → Exa Z h2 a "java/lang/String" → Fld Z h2 a "java/lang/String" "coder" "B" (.int 0) → Fld Z h2 a "java/lang/String" "value" "[B" (.ref t) → Arv Z h2 t kb .byte z vs (.int 0) → Go p l e R s m args below meth c Z own EL n0 eb Q (h2.size) h2 (k + 2) (n + (nn + 4)) pc' Ls (.ref a :: st)) (hp : pc + 2 = pc' := by rfl) : Go p l e R s m args below meth c Z own EL n0 eb Q bk h k n pc Ls st := by
  subst hp
  intro T L vm0 X eh hF I
  obtain ⟨⟨k0, i1, i2⟩, i3, i4, i5, i6, i7, i8, i9⟩ := I
  obtain ⟨a, T', h2, k1, t, kb, X', e', E, hS, hk, hW, hf, A1, A2, A3, A4, -, -, hC, -, -, st1⟩ := ldcCH X C.1 i3 i4 w wS eh i1 i2 C.2.1 hmem i5.1 ht hz hl (g := mkF m pc Ls st) rfl (Jvm.hb C.2.2.2.2.2.1 hd) hn hbig hc hs
  obtain ⟨t', v', L', g1, r⟩ := K a t kb h2 E A1 A2 A3 A4 T' L T'.vm X' e' hF ⟨⟨k1, hS, hk⟩, hW, hf, i5.trans hC, fun y B => (Array.getElem?_eq_some_iff.mp B.there.choose_spec).1, i7.ext E, own_exttrans i8 E, i9⟩
  exact ⟨t', v', L', st1 _ g1, r⟩
/-- ldc of a String constant that is handed on unread -/
theorem Ctx.ldcO (C : Ctx p meth c Z a0 EL cd mx ret nm) (pc' : Nat) {text : String} {nn : Nat} (hd : decode cd pc = .ok (.ldc i, 2)) (w : (Cond.stringLink own i text).before a0 Z = true) (wS : ∀ a ∈ Bundle.stringAtoms, a.before a0 Z = true) (hn : 4 * text.toList.length ≤ nn) (hbig : nn ≤ 536870912) (hc : k + 2 ≤ R.cells) (hs : n + (nn + 4) ≤ R.slots)
    (K : ∀ a h2, Ext h h2 → Go p l e R s m args below meth c Z own EL n0 eb Q (h2.size) h2 (k + 2) (n + (nn + 4)) pc' Ls (.ref a :: st)) (hp : pc + 2 = pc' := by rfl) : Go p l e R s m args below meth c Z own EL n0 eb Q bk h k n pc Ls st := by
  subst hp
  intro T L vm0 X eh hF I
  obtain ⟨⟨k0, i1, i2⟩, i3, i4, i5, i6, i7, i8, i9⟩ := I
  obtain ⟨a, T', h2, k1, X', e', E, hS, hk, hW, hf, hC, -, st1⟩ := ldcOH X C.1 i3 i4 w wS eh i1 i2 C.2.1 i5.1 (g := mkF m pc Ls st) rfl (Jvm.hb C.2.2.2.2.2.1 hd) hn hbig hc hs
  obtain ⟨t', v', L', g1, r⟩ := K a h2 E T' L T'.vm X' e' hF ⟨⟨k1, hS, hk⟩, hW, hf, i5.trans hC, fun y B => (Array.getElem?_eq_some_iff.mp B.there.choose_spec).1, i7.ext E, own_exttrans i8 E, i9⟩
  exact ⟨t', v', L', st1 _ g1, r⟩
theorem Ctx.gets (C : Ctx p meth c Z a0 EL cd mx ret nm) (pc' : Nat) {O nn d : String} {v : Value} (hd : decode cd pc = .ok (.getstatic i, 3)) (w : (Cond.fieldLink own i O nn d).before a0 Z = true) (S : Sta Z Z.heap O nn d v) (K : Go p l e R s m args below meth c Z own EL n0 eb Q bk h k n pc' Ls (v :: st)) (hp : pc + 3 = pc' := by rfl) : Go p l e R s m args below meth c Z own EL n0 eb Q bk h k n pc Ls st := by
  subst hp
  intro T L vm0 X eh hF I
  obtain ⟨T2, X2, e2, st2⟩ := getS (host := "") X C.1 (show Z.Warmed39 (s.setVm vm0).vm from I.2.1) I.2.2.1 w Via.refl eh (S.ext I.2.2.2.2.2.2.1) (g := mkF m pc Ls st) rfl (Jvm.hb C.2.2.2.2.2.1 hd)
  obtain ⟨t, v', L', g1, r⟩ := K T2 L vm0 X2 e2 hF I
  exact ⟨t, v', L', st2 _ g1, r⟩
theorem Ctx.getf (C : Ctx p meth c Z a0 EL cd mx ret nm) (pc' : Nat) {R0 O nn d : String} {a : Nat} {v : Value} (hd : decode cd pc = .ok (.getfield i, 3)) (w : (Cond.fieldLink own i R0 nn d).before a0 Z = true) (via : Via Z R0 O nn d) (F : Fld Z h a O nn d v) (K : Go p l e R s m args below meth c Z own EL n0 eb Q bk h k n pc' Ls (v :: st)) (hp : pc + 3 = pc' := by rfl) : Go p l e R s m args below meth c Z own EL n0 eb Q bk h k n pc Ls (.ref a :: st) := by
  subst hp
  intro T L vm0 X eh hF I
  obtain ⟨T2, X2, e2, st2⟩ := getF X C.1 (show Z.Warmed39 (s.setVm vm0).vm from I.2.1) (host := "") I.2.2.1 (Or.inl w) via eh F (g := mkF m pc Ls (.ref a :: st)) rfl rfl (Jvm.hb C.2.2.2.2.2.1 hd)
  obtain ⟨t, v', L', g1, r⟩ := K T2 L vm0 X2 e2 hF I
  exact ⟨t, v', L', st2 _ g1, r⟩
theorem Ctx.putf (C : Ctx p meth c Z a0 EL cd mx ret nm) (pc' : Nat) {R0 O nn d C0 : String} {kk : Nat} {ty : FieldType} {a : Nat} {v old : Value} (hd : decode cd pc = .ok (.putfield i, 3)) (w : (Cond.fieldLink own i R0 nn d).before a0 Z = true) (via : Via Z R0 O nn d) (F : Fld Z h a O nn d old) (E : Exa Z h a C0) (Ly : (Cond.lays C0 O nn d).before a0 Z = true ∨ ((Cond.laysFinal C0 O nn d).before a0 Z = true ∧ own = O ∧ nm = "<init>")) (wi : (Cond.instantiable C0 kk).before a0 Z = true) (hty : parseFieldDescriptor d = some ty) (hnr : narrow ty v = v) (hf : fits ty v = true) (hn0 : n0 ≤ a) (S : Sf Z h bk a)
    (K : ∀ h2, Wr h h2 a (Jvm.RoadKit.slotOf Z O nn d) v → Go p l e R s m args below meth c Z own EL n0 eb Q bk h2 k n pc' Ls st) (hp : pc + 3 = pc' := by rfl) : Go p l e R s m args below meth c Z own EL n0 eb Q bk h k n pc Ls (v :: .ref a :: st) := by
  subst hp
  intro T L vm0 X eh hF I
  obtain ⟨T2, h2, X2, e2, W, st2⟩ := putF X C.1 (show Z.Warmed39 (s.setVm vm0).vm from I.2.1) (host := "") I.2.2.1 (Or.inl w) via eh F E (Ly.imp id fun q => ⟨q.1, q.2.1, C.2.2.2.2.2.2.2.trans q.2.2⟩) wi hty hnr hf (g := mkF m pc Ls (v :: .ref a :: st)) rfl rfl (Jvm.hb C.2.2.2.2.2.1 hd)
  obtain ⟨t, v', L', g1, r⟩ := K h2 W T2 _ vm0 X2 e2 (Fr.snoc X2 hF hn0) (I.wr W hn0 S)
  exact ⟨t, v', L', st2 _ g1, r⟩
theorem Ctx.newo (C : Ctx p meth c Z a0 EL cd mx ret nm) (pc' : Nat) {C0 : String} {kk : Nat} (hd : decode cd pc = .ok (.new i, 3)) (w : (Cond.classLink own i C0).before a0 Z = true) (wi : (Cond.instantiable C0 kk).before a0 Z = true) (wz : (Cond.initialized C0).before a0 Z = true) (hc : k + 1 ≤ R.cells) (hl : n + kk ≤ R.slots)
    (K : ∀ a h2, a = h.size → Ext h h2 → Exa Z h2 a C0 → (∀ {O nn d : String} {ty : FieldType}, Laid Z a0 C0 O nn d → parseFieldDescriptor d = some ty → Fld Z h2 a O nn d (defaultValue ty)) → Go p l e R s m args below meth c Z own EL n0 eb Q bk h2 (k + 1) (n + kk) pc' Ls (.ref a :: st)) (hp : pc + 3 = pc' := by rfl) : Go p l e R s m args below meth c Z own EL n0 eb Q bk h k n pc Ls st := by
  subst hp
  intro T L vm0 X eh hF I
  obtain ⟨T2, h2, X2, e2, E, A, D, -, st2⟩ := newO X C.1 (show Z.Warmed39 (s.setVm vm0).vm from I.2.1) I.2.2.1 w wi wz eh (g := mkF m pc Ls st) rfl (Jvm.hb C.2.2.2.2.2.1 hd) hc hl
  obtain ⟨t, v', L', g1, r⟩ := K h.size h2 rfl E A D T2 L vm0 X2 e2 hF (I.ext E)
  exact ⟨t, v', L', st2 _ g1, r⟩
theorem own_newar {cA : ClassId} {ty : FieldType} {z : Int32} {zn : Nat} {a : Nat} (A : Arr Z h a (newA cA ty z) ty) (hz : z = Int32.ofNat zn) (hb : zn < 2147483648) (ht : defaultValue ty = .int 0) (hf : fits ty (.int 0) = true) : Ar Z h a ty (List.replicate zn 0) := by
  obtain ⟨q1, q2⟩ := own_len31 hb hz
  refine ⟨_, A, by rw [sz_new, q2, List.length_replicate], by rw [List.length_replicate]; exact hb, fun j x hx => ?_, fun x hx => by cases List.eq_of_mem_replicate hx; exact hf⟩
  rw [List.getElem?_replicate] at hx
  split at hx
  · cases hx; rename_i hj; simp [newA, q2, hj, ht]
  · cases hx
theorem Ctx.newarr (C : Ctx p meth c Z a0 EL cd mx ret nm) (pc' : Nat) {aty : ArrayType} {z : Int32} {zn cap : Nat} (hd : decode cd pc = .ok (.newarray aty, 2)) (w : (Cond.arrayClass (newarray.typeOf aty)).before a0 Z = true) (hz : z = Int32.ofNat zn) (hcap : zn ≤ cap) (hbig : cap * 8 ≤ 536870912) (ht : defaultValue (newarray.typeOf aty) = .int 0) (hf : fits (newarray.typeOf aty) (.int 0) = true) (hc : k + 1 ≤ R.cells) (hl : n + cap ≤ R.slots)
    (K : ∀ a h2, a = h.size → Ext h h2 → Ar Z h2 a (newarray.typeOf aty) (List.replicate zn 0) → Go p l e R s m args below meth c Z own EL n0 eb Q bk h2 (k + 1) (n + cap) pc' Ls (.ref a :: st)) (hp : pc + 2 = pc' := by rfl) : Go p l e R s m args below meth c Z own EL n0 eb Q bk h k n pc Ls (.int z :: st) := by
  subst hp
  intro T L vm0 X eh hF I
  obtain ⟨q1, q2⟩ := own_len31 (by omega) hz
  obtain ⟨T2, h2, cA, X2, e2, E, A, st2⟩ := newP X C.1 (show Z.Warmed39 (s.setVm vm0).vm from I.2.1) w eh (g := mkF m pc Ls (.int z :: st)) rfl (Jvm.hb C.2.2.2.2.2.1 hd) rfl q1 (cap := cap) (by rw [q2]; exact hcap) hbig hc hl
  obtain ⟨t, v', L', g1, r⟩ := K h.size h2 rfl E (own_newar A hz (by omega) ht hf) T2 L vm0 X2 e2 hF (I.ext E)
  exact ⟨t, v', L', st2 _ g1, r⟩
theorem Ctx.alen (C : Ctx p meth c Z a0 EL cd mx ret nm) (pc' : Nat) {a : Nat} {ty : FieldType} {xs : List Int32} {z : Int32} (hd : decode cd pc = .ok (.arraylength, 1)) (A : Ar Z h a ty xs) (hz : Int32.ofNat xs.length = z) (K : Go p l e R s m args below meth c Z own EL n0 eb Q bk h k n pc' Ls (.int z :: st)) (hp : pc + 1 = pc' := by rfl) : Go p l e R s m args below meth c Z own EL n0 eb Q bk h k n pc Ls (.ref a :: st) := by
  subst hp hz
  intro T L vm0 X eh hF I
  obtain ⟨cl, A, g1, g2, g3, g4⟩ := A
  obtain ⟨t, v', L', f1, r⟩ := K T L vm0 X eh hF I
  exact ⟨t, v', L', X.arraylength C.1 (cell := cl) (by rw [eh]; exact A.1) (State.isArrayOf_alike (show Z.vm.Alike (s.setVm vm0).vm from I.2.1.alike) A.2.1) (g := mkF m pc Ls (.ref a :: st)) rfl rfl (Jvm.hb C.2.2.2.2.2.1 hd) _ (by rw [g1]; exact f1), r⟩
theorem Ctx.iaload (C : Ctx p meth c Z a0 EL cd mx ret nm) (pc' : Nat) {a : Nat} {xs : List Int32} {j x : Int32} (ji : Nat) (hd : decode cd pc = .ok (.iaload, 1)) (A : Ar Z h a .int xs) (hj : j = Int32.ofNat ji) (hx : xs[ji]? = some x) (K : Go p l e R s m args below meth c Z own EL n0 eb Q bk h k n pc' Ls (.int x :: st)) (hp : pc + 1 = pc' := by rfl) : Go p l e R s m args below meth c Z own EL n0 eb Q bk h k n pc Ls (.int j :: .ref a :: st) := by
  subst hp
  intro T L vm0 X eh hF I
  obtain ⟨cl, A, g1, g2, g3, g4⟩ := A
  have hlt : ji < xs.length := (List.getElem?_eq_some_iff.mp hx).1
  obtain ⟨q1, q2⟩ := own_len31 (by omega) hj
  obtain ⟨t, v', L', f1, r⟩ := K T L vm0 X eh hF I
  exact ⟨t, v', L', X.iaload C.1 (cell := cl) (by rw [eh]; exact A.1) (State.isArrayOf_alike (show Z.vm.Alike (s.setVm vm0).vm from I.2.1.alike) A.2.1) A.2.2 (fun o => o.elim q1 fun q => by omega) (by rw [q2]; exact g3 _ _ hx) (g := mkF m pc Ls (.int j :: .ref a :: st)) rfl rfl (Jvm.hb C.2.2.2.2.2.1 hd) _ f1, r⟩
theorem Ctx.caload (C : Ctx p meth c Z a0 EL cd mx ret nm) (pc' : Nat) {a : Nat} {xs : List Int32} {j x : Int32} (ji : Nat) (hd : decode cd pc = .ok (.caload, 1)) (A : Ar Z h a .char xs) (hj : j = Int32.ofNat ji) (hx : xs[ji]? = some x) (K : Go p l e R s m args below meth c Z own EL n0 eb Q bk h k n pc' Ls (.int x :: st)) (hp : pc + 1 = pc' := by rfl) : Go p l e R s m args below meth c Z own EL n0 eb Q bk h k n pc Ls (.int j :: .ref a :: st) := by
  subst hp
  intro T L vm0 X eh hF I
  obtain ⟨cl, A, g1, g2, g3, g4⟩ := A
  have hlt : ji < xs.length := (List.getElem?_eq_some_iff.mp hx).1
  obtain ⟨q1, q2⟩ := own_len31 (by omega) hj
  obtain ⟨t, v', L', f1, r⟩ := K T L vm0 X eh hF I
  exact ⟨t, v', L', X.caload C.1 (cell := cl) (by rw [eh]; exact A.1) (State.isArrayOf_alike (show Z.vm.Alike (s.setVm vm0).vm from I.2.1.alike) A.2.1) A.2.2 (fun o => o.elim q1 fun q => by omega) (by rw [q2]; exact g3 _ _ hx) (g := mkF m pc Ls (.int j :: .ref a :: st)) rfl rfl (Jvm.hb C.2.2.2.2.2.1 hd) _ f1, r⟩
theorem Ctx.baload (C : Ctx p meth c Z a0 EL cd mx ret nm) (pc' : Nat) {a : Nat} {xs : List Int32} {j x : Int32} (ji : Nat) (hd : decode cd pc = .ok (.baload, 1)) (A : Ar Z h a .byte xs) (hj : j = Int32.ofNat ji) (hx : xs[ji]? = some x) (K : Go p l e R s m args below meth c Z own EL n0 eb Q bk h k n pc' Ls (.int x :: st)) (hp : pc + 1 = pc' := by rfl) : Go p l e R s m args below meth c Z own EL n0 eb Q bk h k n pc Ls (.int j :: .ref a :: st) := by
  subst hp
  intro T L vm0 X eh hF I
  obtain ⟨cl, A, g1, g2, g3, g4⟩ := A
  have hlt : ji < xs.length := (List.getElem?_eq_some_iff.mp hx).1
  obtain ⟨q1, q2⟩ := own_len31 (by omega) hj
  obtain ⟨t, v', L', f1, r⟩ := K T L vm0 X eh hF I
  exact ⟨t, v', L', X.baloadBytes C.1 (cell := cl) (by rw [eh]; exact A.1) (State.isArrayOf_alike (show Z.vm.Alike (s.setVm vm0).vm from I.2.1.alike) A.2.1) A.2.2 (fun o => o.elim q1 fun q => by omega) (by rw [q2]; exact g3 _ _ hx) (g := mkF m pc Ls (.int j :: .ref a :: st)) rfl rfl (Jvm.hb C.2.2.2.2.2.1 hd) _ f1, r⟩
theorem Ctx.iastore (C : Ctx p meth c Z a0 EL cd mx ret nm) (pc' : Nat) {a : Nat} {xs : List Int32} {j x : Int32} (ji : Nat) (hd : decode cd pc = .ok (.iastore, 1)) (A : Ar Z h a .int xs) (hj : j = Int32.ofNat ji) (hlt : ji < xs.length) (hf : fits .int (.int x) = true) (hn0 : n0 ≤ a) (S : Sf Z h bk a) (K : ∀ h2, Wr h h2 a ji (.int x) → Ar Z h2 a .int (xs.set ji x) → Go p l e R s m args below meth c Z own EL n0 eb Q bk h2 k n pc' Ls st) (hp : pc + 1 = pc' := by rfl) : Go p l e R s m args below meth c Z own EL n0 eb Q bk h k n pc Ls (.int x :: .int j :: .ref a :: st) := by
  subst hp
  intro T L vm0 X eh hF I
  have A0 := A
  obtain ⟨cl, A, g1, g2, g3, g4⟩ := A
  obtain ⟨q1, q2⟩ := own_len31 (by omega) hj
  obtain ⟨T2, h2, X2, e2, W, st2⟩ := stI X C.1 (show Z.Warmed39 (s.setVm vm0).vm from I.2.1) eh A (fun o => o.elim q1 fun q => by omega) (g := mkF m pc Ls (.int x :: .int j :: .ref a :: st)) rfl rfl (Jvm.hb C.2.2.2.2.2.1 hd)
  rw [q2] at W
  obtain ⟨t, v', L', f1, r⟩ := K h2 W (A0.set W hlt hf) T2 _ vm0 X2 e2 (Fr.snoc X2 hF hn0) (I.wr W hn0 S)
  exact ⟨t, v', L', st2 _ f1, r⟩
theorem Ctx.castore (C : Ctx p meth c Z a0 EL cd mx ret nm) (pc' : Nat) {a : Nat} {xs : List Int32} {j x : Int32} (ji : Nat) (hd : decode cd pc = .ok (.castore, 1)) (A : Ar Z h a .char xs) (hj : j = Int32.ofNat ji) (hlt : ji < xs.length) (hf : fits .char (.int (nar .char x)) = true) (hn0 : n0 ≤ a) (S : Sf Z h bk a) (K : ∀ h2, Wr h h2 a ji (.int (nar .char x)) → Ar Z h2 a .char (xs.set ji (nar .char x)) → Go p l e R s m args below meth c Z own EL n0 eb Q bk h2 k n pc' Ls st) (hp : pc + 1 = pc' := by rfl) : Go p l e R s m args below meth c Z own EL n0 eb Q bk h k n pc Ls (.int x :: .int j :: .ref a :: st) := by
  subst hp
  intro T L vm0 X eh hF I
  have A0 := A
  obtain ⟨cl, A, g1, g2, g3, g4⟩ := A
  obtain ⟨q1, q2⟩ := own_len31 (by omega) hj
  obtain ⟨T2, h2, X2, e2, W, st2⟩ := stC X C.1 (show Z.Warmed39 (s.setVm vm0).vm from I.2.1) eh A (fun o => o.elim q1 fun q => by omega) (g := mkF m pc Ls (.int x :: .int j :: .ref a :: st)) rfl rfl (Jvm.hb C.2.2.2.2.2.1 hd)
  rw [q2] at W
  obtain ⟨t, v', L', f1, r⟩ := K h2 W (A0.set W hlt hf) T2 _ vm0 X2 e2 (Fr.snoc X2 hF hn0) (I.wr W hn0 S)
  exact ⟨t, v', L', st2 _ f1, r⟩
theorem Ctx.bastore (C : Ctx p meth c Z a0 EL cd mx ret nm) (pc' : Nat) {a : Nat} {xs : List Int32} {j x : Int32} (ji : Nat) (hd : decode cd pc = .ok (.bastore, 1)) (A : Ar Z h a .byte xs) (hj : j = Int32.ofNat ji) (hlt : ji < xs.length) (hf : fits .byte (.int (nar .byte x)) = true) (hn0 : n0 ≤ a) (S : Sf Z h bk a) (K : ∀ h2, Wr h h2 a ji (.int (nar .byte x)) → Ar Z h2 a .byte (xs.set ji (nar .byte x)) → Go p l e R s m args below meth c Z own EL n0 eb Q bk h2 k n pc' Ls st) (hp : pc + 1 = pc' := by rfl) : Go p l e R s m args below meth c Z own EL n0 eb Q bk h k n pc Ls (.int x :: .int j :: .ref a :: st) := by
  subst hp
  intro T L vm0 X eh hF I
  have A0 := A
  obtain ⟨cl, A, g1, g2, g3, g4⟩ := A
  obtain ⟨q1, q2⟩ := own_len31 (by omega) hj
  obtain ⟨T2, h2, X2, e2, W, st2⟩ := stB X C.1 (show Z.Warmed39 (s.setVm vm0).vm from I.2.1) eh A (fun o => o.elim q1 fun q => by omega) (g := mkF m pc Ls (.int x :: .int j :: .ref a :: st)) rfl rfl (Jvm.hb C.2.2.2.2.2.1 hd)
  rw [q2] at W
  obtain ⟨t, v', L', f1, r⟩ := K h2 W (A0.set W hlt hf) T2 _ vm0 X2 e2 (Fr.snoc X2 hF hn0) (I.wr W hn0 S)
  exact ⟨t, v', L', st2 _ f1, r⟩

theorem Ctx.cast (C : Ctx p meth c Z a0 EL cd mx ret nm) (pc' : Nat) {K0 : String} {a : Nat} (hd : decode cd pc = .ok (.checkcast i, 3)) (w : (Cond.classLink own i K0).before a0 Z = true) (F : Ins Z h a K0 true) (K : Go p l e R s m args below meth c Z own EL n0 eb Q bk h k n pc' Ls (.ref a :: st)) (hp : pc + 3 = pc' := by rfl) : Go p l e R s m args below meth c Z own EL n0 eb Q bk h k n pc Ls (.ref a :: st) := by
  subst hp
  intro T L vm0 X eh hF I
  obtain ⟨T2, X2, e2, st2⟩ := castY X C.1 (show Z.Warmed39 (s.setVm vm0).vm from I.2.1) I.2.2.1 w eh F (g := mkF m pc Ls (.ref a :: st)) rfl rfl (Jvm.hb C.2.2.2.2.2.1 hd)
  obtain ⟨t, v', L', g1, r⟩ := K T2 L vm0 X2 e2 hF I
  exact ⟨t, v', L', st2 _ g1, r⟩
theorem Ctx.instY (C : Ctx p meth c Z a0 EL cd mx ret nm) (pc' : Nat) {K0 : String} {a : Nat} (hd : decode cd pc = .ok (.instanceof i, 3)) (w : (Cond.classLink own i K0).before a0 Z = true) (F : Ins Z h a K0 true) (K : Go p l e R s m args below meth c Z own EL n0 eb Q bk h k n pc' Ls (.int 1 :: st)) (hp : pc + 3 = pc' := by rfl) : Go p l e R s m args below meth c Z own EL n0 eb Q bk h k n pc Ls (.ref a :: st) := by
  subst hp
  intro T L vm0 X eh hF I
  obtain ⟨T2, X2, e2, st2⟩ := RoadKit.instY X C.1 (show Z.Warmed39 (s.setVm vm0).vm from I.2.1) I.2.2.1 w eh F (g := mkF m pc Ls (.ref a :: st)) rfl rfl (Jvm.hb C.2.2.2.2.2.1 hd)
  obtain ⟨t, v', L', g1, r⟩ := K T2 L vm0 X2 e2 hF I
  exact ⟨t, v', L', st2 _ g1, r⟩
theorem Ctx.instN (C : Ctx p meth c Z a0 EL cd mx ret nm) (pc' : Nat) {K0 C0 : String} {a : Nat} (hd : decode cd pc = .ok (.instanceof i, 3)) (w : (Cond.classLink own i K0).before a0 Z = true) (E : Exa Z h a C0) (F : ∃ c t, Z.vm.findClass C0 = some c ∧ Z.vm.findClass K0 = some t ∧ Z.vm.assignable c t = false) (K : Go p l e R s m args below meth c Z own EL n0 eb Q bk h k n pc' Ls (.int 0 :: st)) (hp : pc + 3 = pc' := by rfl) : Go p l e R s m args below meth c Z own EL n0 eb Q bk h k n pc Ls (.ref a :: st) := by
  subst hp
  intro T L vm0 X eh hF I
  obtain ⟨T2, X2, e2, st2⟩ := instNo X C.1 (show Z.Warmed39 (s.setVm vm0).vm from I.2.1) I.2.2.1 w eh E F (g := mkF m pc Ls (.ref a :: st)) rfl rfl (Jvm.hb C.2.2.2.2.2.1 hd)
  obtain ⟨t, v', L', g1, r⟩ := K T2 L vm0 X2 e2 hF I
  exact ⟨t, v', L', st2 _ g1, r⟩
theorem Ctx.instNull (C : Ctx p meth c Z a0 EL cd mx ret nm) (pc' : Nat) (hd : decode cd pc = .ok (.instanceof i, 3)) (K : Go p l e R s m args below meth c Z own EL n0 eb Q bk h k n pc' Ls (.int 0 :: st)) (hp : pc + 3 = pc' := by rfl) : Go p l e R s m args below meth c Z own EL n0 eb Q bk h k n pc Ls (.null :: st) := by
  subst hp
  intro T L vm0 X eh hF I
  obtain ⟨t, v', L', g1, r⟩ := K T L vm0 X eh hF I
  exact ⟨t, v', L', X.instanceofNull C.1 (g := mkF m pc Ls (.null :: st)) rfl rfl (Jvm.hb C.2.2.2.2.2.1 hd) _ g1, r⟩
theorem Ctx.objInit (C : Ctx p meth c Z a0 EL cd mx ret nm) (pc' : Nat) {a : Nat} {W : Nat} (hd : decode cd pc = .ok (.invokespecial i, 3)) (w1 : (Cond.methodLink own i Lib.objectInit).before a0 Z = true) (w2 : (Cond.instanceMethod Lib.objectInit).before a0 Z = true) (w3 : (Cond.code Lib.objectInit ⟨#[0xb1]⟩ 1 none).before a0 Z = true) (hsz : Ls.size = mx) (hf : 1 ≤ R.frames) (hW : 2 * 0 + (st.map fun v => v.category).sum ≤ W) (hl : W + 12 ≤ R.locals) (K : Go p l e R s m args below meth c Z own EL n0 eb Q bk h k n pc' Ls st) (hp : pc + 3 = pc' := by rfl) : Go p l e R s m args below meth c Z own EL n0 eb Q bk h k n pc Ls (.ref a :: st) := by
  subst hp
  intro T L vm0 X eh hF I
  obtain ⟨T2, X2, e2, st2⟩ := initO X C.1 (show Z.Warmed39 (s.setVm vm0).vm from I.2.1) I.2.2.1 w1 w2 w3 eh (g := mkF m pc Ls (.ref a :: st)) rfl (hsz.trans C.2.2.2.2.2.2.1.symm) rfl (Jvm.hb C.2.2.2.2.2.1 hd) hf hW hl
  obtain ⟨t, v', L', g1, r⟩ := K T2 L vm0 X2 e2 hF I
  exact ⟨t, v', L', st2 _ g1, r⟩
theorem own_eqcopy (xs : List Int32) (si ni : Nat) (h : si + ni ≤ xs.length) {V : Type} (f : Int32 → V) (d : V) : (List.range ni).map (fun j => (xs.map f).getD (si + j) d) = ((xs.drop si).take ni).map f := by
  refine List.ext_getElem? fun j => ?_
  simp only [List.getElem?_map, List.getElem?_take, List.getElem?_drop]
  by_cases q : j < ni
  · rw [List.getElem?_range q, if_pos q]
    have q2 : si + j < xs.length := by omega
    simp [q2]
  · rw [if_neg q, List.getElem?_eq_none (by simp; omega)]; rfl
/-- System.arraycopy between two arrays of one primitive kind -/
theorem Ctx.acopy (C : Ctx p meth c Z a0 EL cd mx ret nm) (pc' : Nat) {a b : Nat} {ty : FieldType} {xs ys : List Int32} {sp dp nn : Int32} {si di ni W : Nat} (hd : decode cd pc = .ok (.invokestatic i, 3)) (w1 : (Cond.methodLink own i Jvm.Stand.acN).before a0 Z = true) (w2 : (Cond.native Jvm.Stand.acN).before a0 Z = true) (w3 : (Cond.static Jvm.Stand.acN).before a0 Z = true) (w4 : (Cond.initialized "java/lang/System").before a0 Z = true) (A : Ar Z h a ty xs) (B : Ar Z h b ty ys) (hty : refKind ty = false)
    (e1 : sp = Int32.ofNat si) (e2 : dp = Int32.ofNat di) (e3 : nn = Int32.ofNat ni) (h4 : si + ni ≤ xs.length) (h5 : di + ni ≤ ys.length) (hn0 : n0 ≤ b) (S : Sf Z h bk b) (hsz : Ls.size = mx) (hf : 1 ≤ R.frames) (hW : 2 * 0 + (st.map fun v => v.category).sum ≤ W) (hlo : W + (nativeFrameWords "java/lang/System" "arraycopy" 5 + 11) ≤ R.locals)
    (K : ∀ h2, OKp (fun x => x ≠ b) h h2 → Ar Z h2 b ty (ys.take di ++ (xs.drop si).take ni ++ ys.drop (di + ni)) → Go p l e R s m args below meth c Z own EL n0 eb Q bk h2 k n pc' Ls st) (hp : pc + 3 = pc' := by rfl) : Go p l e R s m args below meth c Z own EL n0 eb Q bk h k n pc Ls (.int nn :: .int dp :: .ref b :: .int sp :: .ref a :: st) := by
  subst hp
  intro T L vm0 X eh hF I
  obtain ⟨ka, A'⟩ := A.arv
  obtain ⟨kb, B'⟩ := B.arv
  have lx : xs.length < 2147483648 := by obtain ⟨_, _, _, g, _⟩ := A; exact g
  have ly : ys.length < 2147483648 := by obtain ⟨_, _, _, g, _⟩ := B; exact g
  obtain ⟨s1, s2⟩ := own_len31 (show si < 2147483648 by omega) e1
  obtain ⟨d1, d2⟩ := own_len31 (show di < 2147483648 by omega) e2
  obtain ⟨m1, m2⟩ := own_len31 (show ni < 2147483648 by omega) e3
  obtain ⟨T2, h2, L2, X2, e2', F2, K2, V2, st2⟩ := cpA X C.1 (show Z.Warmed39 (s.setVm vm0).vm from I.2.1) I.2.2.1 w1 w2 w3 w4 eh A' B' (Or.inl ⟨rfl, hty⟩) s1 d1 m1 (by rw [s2, m2, (own_len31 lx rfl).2]; exact h4) (by rw [d2, m2, (own_len31 ly rfl).2]; exact h5) rfl (by rw [d2, m2, List.length_map]; exact h5) hF hn0 (g := mkF m pc Ls (.int nn :: .int dp :: .ref b :: .int sp :: .ref a :: st)) rfl (hsz.trans C.2.2.2.2.2.2.1.symm) rfl (Jvm.hb C.2.2.2.2.2.1 hd) hf hW hlo
  have eq : (ys.map Value.int).take dp.toNatClampNeg ++ (List.range nn.toNatClampNeg).map (fun j => (xs.map Value.int).getD (sp.toNatClampNeg + j) (.int 0)) ++ (ys.map Value.int).drop (dp.toNatClampNeg + nn.toNatClampNeg) = (ys.take di ++ (xs.drop si).take ni ++ ys.drop (di + ni)).map Value.int := by
    rw [d2, m2, s2, own_eqcopy xs si ni h4 Value.int (.int 0)]
    simp only [List.map_append, List.map_take, List.map_drop]
  rw [eq] at V2
  have hlen : (ys.take di ++ (xs.drop si).take ni ++ ys.drop (di + ni)).length = ys.length := by simp only [List.length_append, List.length_take, List.length_drop]; omega
  obtain ⟨t, v', L', g1, r⟩ := K h2 ⟨K2.1, fun x cl q r => K2.2.1 x cl r fun hm => q (List.mem_singleton.mp hm)⟩ (Ar.ofArv (by rw [hlen]; exact V2) (by rw [hlen]; exact ly)) T2 _ vm0 X2 e2' F2 (I.keep K2 hn0 S)
  exact ⟨t, v', L', st2 _ g1, r⟩
theorem own_leave {T : State} {L : List Loc} {fs : List Frame} {v : Option Value} (C : Ctx p meth c Z a0 EL cd mx ret nm) (X : Stand p l e R (s.setVm vm0) m args below meth c T L k n) (eh : T.heap = h) (hF : Fr n0 L) (I : OInv s Z own EL m n0 bk vm0 h) (hk : k ≤ R.cells) (hn : n ≤ R.slots) (hE : bk ≤ eb h ∨ h.size ≤ eb h) (hw : ReturnedEndW s (.returned v) (T.setFrames fs) L k n) (K : Q v h) :
    Fr n0 L ∧ (∃ k' n', k' ≤ R.cells ∧ n' ≤ R.slots ∧ ReturnedEndW s (.returned v) (T.setFrames fs) L k' n') ∧ CHr Z EL s.vm s.heap (T.setFrames fs).vm (T.setFrames fs).heap ∧ (∀ y, Bk Z EL (T.setFrames fs).vm (T.setFrames fs).heap y → y < eb (T.setFrames fs).heap) ∧ OKp (fun x => x < n0) s.heap (T.setFrames fs).heap ∧ Ext Z.heap (T.setFrames fs).heap ∧ Q v (T.setFrames fs).heap := by
  have e1 : (T.setFrames fs).heap = h := eh
  have e2 : (T.setFrames fs).vm = T.vm := rfl
  rw [e1, e2]
  obtain ⟨i1, i3, i4, i5, i6, i7, i8, i9⟩ := id I
  have A := CHv.at X i3 C.2.1 i5.1
  refine ⟨hF, ⟨k, n, hk, hn, hw⟩, i5.trans A, fun y B => ?_, i7, i8, K⟩
  rcases A.2.2 y B with q | q
  · exact own_bkc I hE y q
  · obtain ⟨cell, g⟩ := B.there
    exact absurd (Array.getElem?_eq_some_iff.mp g).1 (Nat.not_lt.mpr q)
theorem Ctx.retN (C : Ctx p meth c Z a0 EL cd mx ret nm) {z : Int32} {t : FieldType} (hret : ret = some t) (ht : t = .boolean ∨ t = .byte ∨ t = .char ∨ t = .short) (hd : decode cd pc = .ok (.ireturn, 1)) (hk : k ≤ R.cells) (hn : n ≤ R.slots) (hE : bk ≤ eb h ∨ h.size ≤ eb h) (K : Q (some (.int (nar t z))) h) : Go p l e R s m args below meth c Z own EL n0 eb Q bk h k n pc Ls (.int z :: st) := by
  intro T L vm0 X eh hF I
  obtain ⟨k0, i1, i2⟩ := I.1
  obtain ⟨fs, hr, hrun, hended, hw⟩ := X.leaveW i1 (eh ▸ i2) (v := some (.int (nar t z))) (fun g => by rw [C.2.2.2.1, hret] at g; cases g) C.2.2.2.2.1
  exact ⟨_, _, L, RoadKit.retN X C.1 (C.2.2.2.1.trans hret) ht (Jvm.hb C.2.2.2.2.2.1 hd) hr, hrun, hended, own_leave C X eh hF I hk hn hE hw K⟩
theorem Ctx.retI (C : Ctx p meth c Z a0 EL cd mx ret nm) {z : Int32} (hret : ret = some .int) (hd : decode cd pc = .ok (.ireturn, 1)) (hk : k ≤ R.cells) (hn : n ≤ R.slots) (hE : bk ≤ eb h ∨ h.size ≤ eb h) (K : Q (some (.int z)) h) : Go p l e R s m args below meth c Z own EL n0 eb Q bk h k n pc Ls (.int z :: st) := by
  intro T L vm0 X eh hF I
  obtain ⟨k0, i1, i2⟩ := I.1
  obtain ⟨fs, hr, hrun, hended, hw⟩ := X.leaveW i1 (eh ▸ i2) (v := some (.int z)) (fun g => by rw [C.2.2.2.1, hret] at g; cases g) C.2.2.2.2.1
  exact ⟨_, _, L, retOut X C.1 (C.2.2.2.1.trans hret) rfl (Or.inl ⟨rfl, Or.inl rfl, _, rfl⟩) (Jvm.hb C.2.2.2.2.2.1 hd) hr, hrun, hended, own_leave C X eh hF I hk hn hE hw K⟩
theorem Ctx.retA (C : Ctx p meth c Z a0 EL cd mx ret nm) {w : Value} {t : FieldType} (hret : ret = some t) (ht : t.isReference = true) (hd : decode cd pc = .ok (.areturn, 1)) (hv : w.isRef = true) (hk : k ≤ R.cells) (hn : n ≤ R.slots) (hE : bk ≤ eb h ∨ h.size ≤ eb h) (K : Q (some w) h) : Go p l e R s m args below meth c Z own EL n0 eb Q bk h k n pc Ls (w :: st) := by
  intro T L vm0 X eh hF I
  obtain ⟨k0, i1, i2⟩ := I.1
  obtain ⟨fs, hr, hrun, hended, hw⟩ := X.leaveW i1 (eh ▸ i2) (v := some w) (fun g => by rw [C.2.2.2.1, hret] at g; cases g) C.2.2.2.2.1
  have hnr : narrow t w = w := by rcases ref_cases hv with rfl | ⟨a, rfl⟩ <;> cases t <;> rfl
  exact ⟨_, _, L, retOut X C.1 (C.2.2.2.1.trans hret) hnr (Or.inr (Or.inr (Or.inr (Or.inr ⟨rfl, ht, hv⟩)))) (Jvm.hb C.2.2.2.2.2.1 hd) hr, hrun, hended, own_leave C X eh hF I hk hn hE hw K⟩
theorem Ctx.retV (C : Ctx p meth c Z a0 EL cd mx ret nm) (hret : ret = none) (hd : decode cd pc = .ok (.return_, 1)) (hk : k ≤ R.cells) (hn : n ≤ R.slots) (hE : bk ≤ eb h ∨ h.size ≤ eb h) (K : Q none h) : Go p l e R s m args below meth c Z own EL n0 eb Q bk h k n pc Ls [] := by
  intro T L vm0 X eh hF I
  obtain ⟨k0, i1, i2⟩ := I.1
  obtain ⟨fs, hr, hrun, hended, hw⟩ := X.leaveW i1 (eh ▸ i2) (v := none) (fun _ => rfl) C.2.2.2.2.1
  exact ⟨_, _, L, X.returnOut C.1 (C.2.2.2.1.trans hret) (Jvm.hb C.2.2.2.2.2.1 hd) hr, hrun, hended, own_leave C X eh hF I hk hn hE hw K⟩
end Steps1
theorem Ctx.iloadN (C : Ctx p meth c Z a0 EL cd mx ret nm) {pc : Nat} {Ls : Array Slot} {st : List Value} (pc' : Nat) {j : Fin 4} {v : Int32} (hd : decode cd pc = .ok (.iload_n j, 1)) (hl : Ls[j.val]? = some (.val (.int v))) (K : Go p l e R s m args below meth c Z own EL n0 eb Q bk h k n pc' Ls (.int v :: st)) (hp : pc + 1 = pc' := by rfl) : Go p l e R s m args below meth c Z own EL n0 eb Q bk h k n pc Ls (st) := by
  subst hp
  exact Go.pure (fun T t h hr => XS.iloadN h C.1 rfl (Jvm.hb C.2.2.2.2.2.1 hd) hl hr) K
theorem Ctx.iload (C : Ctx p meth c Z a0 EL cd mx ret nm) {pc : Nat} {Ls : Array Slot} {st : List Value} (pc' : Nat) {j : Nat} {v : Int32} (hd : decode cd pc = .ok (.iload j, 2)) (hl : Ls[j]? = some (.val (.int v))) (K : Go p l e R s m args below meth c Z own EL n0 eb Q bk h k n pc' Ls (.int v :: st)) (hp : pc + 2 = pc' := by rfl) : Go p l e R s m args below meth c Z own EL n0 eb Q bk h k n pc Ls (st) := by
  subst hp
  exact Go.pure (fun T t h hr => XS.iload h C.1 rfl (Jvm.hb C.2.2.2.2.2.1 hd) hl hr) K
theorem Ctx.lloadN (C : Ctx p meth c Z a0 EL cd mx ret nm) {pc : Nat} {Ls : Array Slot} {st : List Value} (pc' : Nat) {j : Fin 4} {v : Int64} (hd : decode cd pc = .ok (.lload_n j, 1)) (hl : Ls[j.val]? = some (.val (.long v))) (K : Go p l e R s m args below meth c Z own EL n0 eb Q bk h k n pc' Ls (.long v :: st)) (hp : pc + 1 = pc' := by rfl) : Go p l e R s m args below meth c Z own EL n0 eb Q bk h k n pc Ls (st) := by
  subst hp
  exact Go.pure (fun T t h hr => XT.lloadN h C.1 rfl (Jvm.hb C.2.2.2.2.2.1 hd) hl hr) K
theorem Ctx.lload (C : Ctx p meth c Z a0 EL cd mx ret nm) {pc : Nat} {Ls : Array Slot} {st : List Value} (pc' : Nat) {j : Nat} {v : Int64} (hd : decode cd pc = .ok (.lload j, 2)) (hl : Ls[j]? = some (.val (.long v))) (K : Go p l e R s m args below meth c Z own EL n0 eb Q bk h k n pc' Ls (.long v :: st)) (hp : pc + 2 = pc' := by rfl) : Go p l e R s m args below meth c Z own EL n0 eb Q bk h k n pc Ls (st) := by
  subst hp
  exact Go.pure (fun T t h hr => XT.lload h C.1 rfl (Jvm.hb C.2.2.2.2.2.1 hd) hl hr) K
theorem Ctx.aloadN (C : Ctx p meth c Z a0 EL cd mx ret nm) {pc : Nat} {Ls : Array Slot} {st : List Value} (pc' : Nat) {j : Fin 4} {v : Value} (hd : decode cd pc = .ok (.aload_n j, 1)) (hl : Ls[j.val]? = some (.val v)) (hv : v.isRef = true) (K : Go p l e R s m args below meth c Z own EL n0 eb Q bk h k n pc' Ls (v :: st)) (hp : pc + 1 = pc' := by rfl) : Go p l e R s m args below meth c Z own EL n0 eb Q bk h k n pc Ls (st) := by
  subst hp
  exact Go.pure (fun T t h hr => XS.aloadN h C.1 rfl (Jvm.hb C.2.2.2.2.2.1 hd) hl hv hr) K
theorem Ctx.aload (C : Ctx p meth c Z a0 EL cd mx ret nm) {pc : Nat} {Ls : Array Slot} {st : List Value} (pc' : Nat) {j : Nat} {v : Value} (hd : decode cd pc = .ok (.aload j, 2)) (hl : Ls[j]? = some (.val v)) (hv : v.isRef = true) (K : Go p l e R s m args below meth c Z own EL n0 eb Q bk h k n pc' Ls (v :: st)) (hp : pc + 2 = pc' := by rfl) : Go p l e R s m args below meth c Z own EL n0 eb Q bk h k n pc Ls (st) := by
  subst hp
  exact Go.pure (fun T t h hr => XS.aload h C.1 rfl (Jvm.hb C.2.2.2.2.2.1 hd) hl hv hr) K
theorem Ctx.istoreN (C : Ctx p meth c Z a0 EL cd mx ret nm) {pc : Nat} {Ls : Array Slot} {st : List Value} (pc' : Nat) {j : Fin 4} {v : Int32} {L' : Array Slot} (hd : decode cd pc = .ok (.istore_n j, 1)) (hl : storeLocals Ls j.val (.int v) = some L') (K : Go p l e R s m args below meth c Z own EL n0 eb Q bk h k n pc' L' (st)) (hp : pc + 1 = pc' := by rfl) : Go p l e R s m args below meth c Z own EL n0 eb Q bk h k n pc Ls (.int v :: st) := by
  subst hp
  exact Go.pure (fun T t h hr => XS.istoreN h C.1 rfl (Jvm.hb C.2.2.2.2.2.1 hd) rfl hl hr) K
theorem Ctx.istore (C : Ctx p meth c Z a0 EL cd mx ret nm) {pc : Nat} {Ls : Array Slot} {st : List Value} (pc' : Nat) {j : Nat} {v : Int32} {L' : Array Slot} (hd : decode cd pc = .ok (.istore j, 2)) (hl : storeLocals Ls j (.int v) = some L') (K : Go p l e R s m args below meth c Z own EL n0 eb Q bk h k n pc' L' (st)) (hp : pc + 2 = pc' := by rfl) : Go p l e R s m args below meth c Z own EL n0 eb Q bk h k n pc Ls (.int v :: st) := by
  subst hp
  exact Go.pure (fun T t h hr => XS.istore h C.1 rfl (Jvm.hb C.2.2.2.2.2.1 hd) rfl hl hr) K
theorem Ctx.lstoreN (C : Ctx p meth c Z a0 EL cd mx ret nm) {pc : Nat} {Ls : Array Slot} {st : List Value} (pc' : Nat) {j : Fin 4} {v : Int64} {L' : Array Slot} (hd : decode cd pc = .ok (.lstore_n j, 1)) (hl : storeLocals Ls j.val (.long v) = some L') (K : Go p l e R s m args below meth c Z own EL n0 eb Q bk h k n pc' L' (st)) (hp : pc + 1 = pc' := by rfl) : Go p l e R s m args below meth c Z own EL n0 eb Q bk h k n pc Ls (.long v :: st) := by
  subst hp
  exact Go.pure (fun T t h hr => XT.lstoreN h C.1 rfl (Jvm.hb C.2.2.2.2.2.1 hd) rfl hl hr) K
theorem Ctx.lstore (C : Ctx p meth c Z a0 EL cd mx ret nm) {pc : Nat} {Ls : Array Slot} {st : List Value} (pc' : Nat) {j : Nat} {v : Int64} {L' : Array Slot} (hd : decode cd pc = .ok (.lstore j, 2)) (hl : storeLocals Ls j (.long v) = some L') (K : Go p l e R s m args below meth c Z own EL n0 eb Q bk h k n pc' L' (st)) (hp : pc + 2 = pc' := by rfl) : Go p l e R s m args below meth c Z own EL n0 eb Q bk h k n pc Ls (.long v :: st) := by
  subst hp
  exact Go.pure (fun T t h hr => XT.lstore h C.1 rfl (Jvm.hb C.2.2.2.2.2.1 hd) rfl hl hr) K
theorem Ctx.astoreN (C : Ctx p meth c Z a0 EL cd mx ret nm) {pc : Nat} {Ls : Array Slot} {st : List Value} (pc' : Nat) {j : Fin 4} {v : Value} {L' : Array Slot} (hd : decode cd pc = .ok (.astore_n j, 1)) (hl : storeLocals Ls j.val v = some L') (hv : v.isRef = true) (K : Go p l e R s m args below meth c Z own EL n0 eb Q bk h k n pc' L' (st)) (hp : pc + 1 = pc' := by rfl) : Go p l e R s m args below meth c Z own EL n0 eb Q bk h k n pc Ls (v :: st) := by
  subst hp
  exact Go.pure (fun T t h hr => XS.astoreN h C.1 rfl (Jvm.hb C.2.2.2.2.2.1 hd) rfl hv hl hr) K
theorem Ctx.astore (C : Ctx p meth c Z a0 EL cd mx ret nm) {pc : Nat} {Ls : Array Slot} {st : List Value} (pc' : Nat) {j : Nat} {v : Value} {L' : Array Slot} (hd : decode cd pc = .ok (.astore j, 2)) (hl : storeLocals Ls j v = some L') (hv : v.isRef = true) (K : Go p l e R s m args below meth c Z own EL n0 eb Q bk h k n pc' L' (st)) (hp : pc + 2 = pc' := by rfl) : Go p l e R s m args below meth c Z own EL n0 eb Q bk h k n pc Ls (v :: st) := by
  subst hp
  exact Go.pure (fun T t h hr => XS.astore h C.1 rfl (Jvm.hb C.2.2.2.2.2.1 hd) rfl hv hl hr) K
theorem Ctx.iconst (C : Ctx p meth c Z a0 EL cd mx ret nm) {pc : Nat} {Ls : Array Slot} {st : List Value} (pc' : Nat) {i : Int} (v : Int32) (hd : decode cd pc = .ok (.iconst i, 1)) (hv : Int32.ofInt i = v) (K : Go p l e R s m args below meth c Z own EL n0 eb Q bk h k n pc' Ls (.int v :: st)) (hp : pc + 1 = pc' := by rfl) : Go p l e R s m args below meth c Z own EL n0 eb Q bk h k n pc Ls (st) := by
  subst hp
  exact Go.pure (fun T t h hr => XT.iconstV h C.1 rfl v (Jvm.hb C.2.2.2.2.2.1 hd) hv hr) K
theorem Ctx.bipush (C : Ctx p meth c Z a0 EL cd mx ret nm) {pc : Nat} {Ls : Array Slot} {st : List Value} (pc' : Nat) {i : Int} (v : Int32) (hd : decode cd pc = .ok (.bipush i, 2)) (hv : (Int8.ofInt i).toInt32 = v) (K : Go p l e R s m args below meth c Z own EL n0 eb Q bk h k n pc' Ls (.int v :: st)) (hp : pc + 2 = pc' := by rfl) : Go p l e R s m args below meth c Z own EL n0 eb Q bk h k n pc Ls (st) := by
  subst hp
  exact Go.pure (fun T t h hr => XT.bipushV h C.1 rfl v (Jvm.hb C.2.2.2.2.2.1 hd) hv hr) K
theorem Ctx.sipush (C : Ctx p meth c Z a0 EL cd mx ret nm) {pc : Nat} {Ls : Array Slot} {st : List Value} (pc' : Nat) {i : Int} (v : Int32) (hd : decode cd pc = .ok (.sipush i, 3)) (hv : (Int16.ofInt i).toInt32 = v) (K : Go p l e R s m args below meth c Z own EL n0 eb Q bk h k n pc' Ls (.int v :: st)) (hp : pc + 3 = pc' := by rfl) : Go p l e R s m args below meth c Z own EL n0 eb Q bk h k n pc Ls (st) := by
  subst hp
  exact Go.pure (fun T t h hr => XT.sipushV h C.1 rfl v (Jvm.hb C.2.2.2.2.2.1 hd) hv hr) K
theorem Ctx.lconst (C : Ctx p meth c Z a0 EL cd mx ret nm) {pc : Nat} {Ls : Array Slot} {st : List Value} (pc' : Nat) {i : Fin 2} (v : Int64) (hd : decode cd pc = .ok (.lconst i, 1)) (hv : Int64.ofNat i = v) (K : Go p l e R s m args below meth c Z own EL n0 eb Q bk h k n pc' Ls (.long v :: st)) (hp : pc + 1 = pc' := by rfl) : Go p l e R s m args below meth c Z own EL n0 eb Q bk h k n pc Ls (st) := by
  subst hp
  exact Go.pure (fun T t h hr => XT.lconstV h C.1 rfl v (Jvm.hb C.2.2.2.2.2.1 hd) hv hr) K
theorem Ctx.aconstNull (C : Ctx p meth c Z a0 EL cd mx ret nm) {pc : Nat} {Ls : Array Slot} {st : List Value} (pc' : Nat)  (hd : decode cd pc = .ok (.aconst_null, 1))  (K : Go p l e R s m args below meth c Z own EL n0 eb Q bk h k n pc' Ls (.null :: st)) (hp : pc + 1 = pc' := by rfl) : Go p l e R s m args below meth c Z own EL n0 eb Q bk h k n pc Ls (st) := by
  subst hp
  exact Go.pure (fun T t h hr => XS.aconstNull h C.1 rfl (Jvm.hb C.2.2.2.2.2.1 hd)  hr) K
theorem Ctx.iadd (C : Ctx p meth c Z a0 EL cd mx ret nm) {pc : Nat} {Ls : Array Slot} {st : List Value} (pc' : Nat) {x y : Int32} (hd : decode cd pc = .ok (.iadd, 1))  (K : Go p l e R s m args below meth c Z own EL n0 eb Q bk h k n pc' Ls (.int (x + y) :: st)) (hp : pc + 1 = pc' := by rfl) : Go p l e R s m args below meth c Z own EL n0 eb Q bk h k n pc Ls (.int y :: .int x :: st) := by
  subst hp
  exact Go.pure (fun T t h hr => XS.iadd h C.1 rfl (Jvm.hb C.2.2.2.2.2.1 hd) rfl hr) K
theorem Ctx.isub (C : Ctx p meth c Z a0 EL cd mx ret nm) {pc : Nat} {Ls : Array Slot} {st : List Value} (pc' : Nat) {x y : Int32} (hd : decode cd pc = .ok (.isub, 1))  (K : Go p l e R s m args below meth c Z own EL n0 eb Q bk h k n pc' Ls (.int (x - y) :: st)) (hp : pc + 1 = pc' := by rfl) : Go p l e R s m args below meth c Z own EL n0 eb Q bk h k n pc Ls (.int y :: .int x :: st) := by
  subst hp
  exact Go.pure (fun T t h hr => XS.isub h C.1 rfl (Jvm.hb C.2.2.2.2.2.1 hd) rfl hr) K
theorem Ctx.imul (C : Ctx p meth c Z a0 EL cd mx ret nm) {pc : Nat} {Ls : Array Slot} {st : List Value} (pc' : Nat) {x y : Int32} (hd : decode cd pc = .ok (.imul, 1))  (K : Go p l e R s m args below meth c Z own EL n0 eb Q bk h k n pc' Ls (.int (x * y) :: st)) (hp : pc + 1 = pc' := by rfl) : Go p l e R s m args below meth c Z own EL n0 eb Q bk h k n pc Ls (.int y :: .int x :: st) := by
  subst hp
  exact Go.pure (fun T t h hr => XS.imul h C.1 rfl (Jvm.hb C.2.2.2.2.2.1 hd) rfl hr) K
theorem Ctx.iand (C : Ctx p meth c Z a0 EL cd mx ret nm) {pc : Nat} {Ls : Array Slot} {st : List Value} (pc' : Nat) {x y : Int32} (hd : decode cd pc = .ok (.iand, 1))  (K : Go p l e R s m args below meth c Z own EL n0 eb Q bk h k n pc' Ls (.int (x &&& y) :: st)) (hp : pc + 1 = pc' := by rfl) : Go p l e R s m args below meth c Z own EL n0 eb Q bk h k n pc Ls (.int y :: .int x :: st) := by
  subst hp
  exact Go.pure (fun T t h hr => XS.iand h C.1 rfl (Jvm.hb C.2.2.2.2.2.1 hd) rfl hr) K
theorem Ctx.ior (C : Ctx p meth c Z a0 EL cd mx ret nm) {pc : Nat} {Ls : Array Slot} {st : List Value} (pc' : Nat) {x y : Int32} (hd : decode cd pc = .ok (.ior, 1))  (K : Go p l e R s m args below meth c Z own EL n0 eb Q bk h k n pc' Ls (.int (x ||| y) :: st)) (hp : pc + 1 = pc' := by rfl) : Go p l e R s m args below meth c Z own EL n0 eb Q bk h k n pc Ls (.int y :: .int x :: st) := by
  subst hp
  exact Go.pure (fun T t h hr => XT.ior h C.1 rfl (Jvm.hb C.2.2.2.2.2.1 hd) rfl hr) K
theorem Ctx.ixor (C : Ctx p meth c Z a0 EL cd mx ret nm) {pc : Nat} {Ls : Array Slot} {st : List Value} (pc' : Nat) {x y : Int32} (hd : decode cd pc = .ok (.ixor, 1))  (K : Go p l e R s m args below meth c Z own EL n0 eb Q bk h k n pc' Ls (.int (x ^^^ y) :: st)) (hp : pc + 1 = pc' := by rfl) : Go p l e R s m args below meth c Z own EL n0 eb Q bk h k n pc Ls (.int y :: .int x :: st) := by
  subst hp
  exact Go.pure (fun T t h hr => XT.ixor h C.1 rfl (Jvm.hb C.2.2.2.2.2.1 hd) rfl hr) K
theorem Ctx.ishl (C : Ctx p meth c Z a0 EL cd mx ret nm) {pc : Nat} {Ls : Array Slot} {st : List Value} (pc' : Nat) {x y : Int32} (hd : decode cd pc = .ok (.ishl, 1))  (K : Go p l e R s m args below meth c Z own EL n0 eb Q bk h k n pc' Ls (.int (x <<< (y &&& 31)) :: st)) (hp : pc + 1 = pc' := by rfl) : Go p l e R s m args below meth c Z own EL n0 eb Q bk h k n pc Ls (.int y :: .int x :: st) := by
  subst hp
  exact Go.pure (fun T t h hr => XT.ishl h C.1 rfl (Jvm.hb C.2.2.2.2.2.1 hd) rfl hr) K
theorem Ctx.ishr (C : Ctx p meth c Z a0 EL cd mx ret nm) {pc : Nat} {Ls : Array Slot} {st : List Value} (pc' : Nat) {x y : Int32} (hd : decode cd pc = .ok (.ishr, 1))  (K : Go p l e R s m args below meth c Z own EL n0 eb Q bk h k n pc' Ls (.int (x >>> (y &&& 31)) :: st)) (hp : pc + 1 = pc' := by rfl) : Go p l e R s m args below meth c Z own EL n0 eb Q bk h k n pc Ls (.int y :: .int x :: st) := by
  subst hp
  exact Go.pure (fun T t h hr => XT.ishr h C.1 rfl (Jvm.hb C.2.2.2.2.2.1 hd) rfl hr) K
theorem Ctx.iushr (C : Ctx p meth c Z a0 EL cd mx ret nm) {pc : Nat} {Ls : Array Slot} {st : List Value} (pc' : Nat) {x y : Int32} (hd : decode cd pc = .ok (.iushr, 1))  (K : Go p l e R s m args below meth c Z own EL n0 eb Q bk h k n pc' Ls (.int (XT.ushr x y) :: st)) (hp : pc + 1 = pc' := by rfl) : Go p l e R s m args below meth c Z own EL n0 eb Q bk h k n pc Ls (.int y :: .int x :: st) := by
  subst hp
  exact Go.pure (fun T t h hr => XT.iushr h C.1 rfl (Jvm.hb C.2.2.2.2.2.1 hd) rfl hr) K
theorem Ctx.ineg (C : Ctx p meth c Z a0 EL cd mx ret nm) {pc : Nat} {Ls : Array Slot} {st : List Value} (pc' : Nat) {x : Int32} (hd : decode cd pc = .ok (.ineg, 1))  (K : Go p l e R s m args below meth c Z own EL n0 eb Q bk h k n pc' Ls (.int (-x) :: st)) (hp : pc + 1 = pc' := by rfl) : Go p l e R s m args below meth c Z own EL n0 eb Q bk h k n pc Ls (.int x :: st) := by
  subst hp
  exact Go.pure (fun T t h hr => XS.ineg h C.1 rfl (Jvm.hb C.2.2.2.2.2.1 hd) rfl hr) K
theorem Ctx.ladd (C : Ctx p meth c Z a0 EL cd mx ret nm) {pc : Nat} {Ls : Array Slot} {st : List Value} (pc' : Nat) {x y : Int64} (hd : decode cd pc = .ok (.ladd, 1))  (K : Go p l e R s m args below meth c Z own EL n0 eb Q bk h k n pc' Ls (.long (x + y) :: st)) (hp : pc + 1 = pc' := by rfl) : Go p l e R s m args below meth c Z own EL n0 eb Q bk h k n pc Ls (.long y :: .long x :: st) := by
  subst hp
  exact Go.pure (fun T t h hr => XT.ladd h C.1 rfl (Jvm.hb C.2.2.2.2.2.1 hd) rfl hr) K
theorem Ctx.lsub (C : Ctx p meth c Z a0 EL cd mx ret nm) {pc : Nat} {Ls : Array Slot} {st : List Value} (pc' : Nat) {x y : Int64} (hd : decode cd pc = .ok (.lsub, 1))  (K : Go p l e R s m args below meth c Z own EL n0 eb Q bk h k n pc' Ls (.long (x - y) :: st)) (hp : pc + 1 = pc' := by rfl) : Go p l e R s m args below meth c Z own EL n0 eb Q bk h k n pc Ls (.long y :: .long x :: st) := by
  subst hp
  exact Go.pure (fun T t h hr => XT.lsub h C.1 rfl (Jvm.hb C.2.2.2.2.2.1 hd) rfl hr) K
theorem Ctx.lmul (C : Ctx p meth c Z a0 EL cd mx ret nm) {pc : Nat} {Ls : Array Slot} {st : List Value} (pc' : Nat) {x y : Int64} (hd : decode cd pc = .ok (.lmul, 1))  (K : Go p l e R s m args below meth c Z own EL n0 eb Q bk h k n pc' Ls (.long (x * y) :: st)) (hp : pc + 1 = pc' := by rfl) : Go p l e R s m args below meth c Z own EL n0 eb Q bk h k n pc Ls (.long y :: .long x :: st) := by
  subst hp
  exact Go.pure (fun T t h hr => XT.lmul h C.1 rfl (Jvm.hb C.2.2.2.2.2.1 hd) rfl hr) K
theorem Ctx.land (C : Ctx p meth c Z a0 EL cd mx ret nm) {pc : Nat} {Ls : Array Slot} {st : List Value} (pc' : Nat) {x y : Int64} (hd : decode cd pc = .ok (.land, 1))  (K : Go p l e R s m args below meth c Z own EL n0 eb Q bk h k n pc' Ls (.long (x &&& y) :: st)) (hp : pc + 1 = pc' := by rfl) : Go p l e R s m args below meth c Z own EL n0 eb Q bk h k n pc Ls (.long y :: .long x :: st) := by
  subst hp
  exact Go.pure (fun T t h hr => XT.land h C.1 rfl (Jvm.hb C.2.2.2.2.2.1 hd) rfl hr) K
theorem Ctx.lor (C : Ctx p meth c Z a0 EL cd mx ret nm) {pc : Nat} {Ls : Array Slot} {st : List Value} (pc' : Nat) {x y : Int64} (hd : decode cd pc = .ok (.lor, 1))  (K : Go p l e R s m args below meth c Z own EL n0 eb Q bk h k n pc' Ls (.long (x ||| y) :: st)) (hp : pc + 1 = pc' := by rfl) : Go p l e R s m args below meth c Z own EL n0 eb Q bk h k n pc Ls (.long y :: .long x :: st) := by
  subst hp
  exact Go.pure (fun T t h hr => XT.lor h C.1 rfl (Jvm.hb C.2.2.2.2.2.1 hd) rfl hr) K
theorem Ctx.lxor (C : Ctx p meth c Z a0 EL cd mx ret nm) {pc : Nat} {Ls : Array Slot} {st : List Value} (pc' : Nat) {x y : Int64} (hd : decode cd pc = .ok (.lxor, 1))  (K : Go p l e R s m args below meth c Z own EL n0 eb Q bk h k n pc' Ls (.long (x ^^^ y) :: st)) (hp : pc + 1 = pc' := by rfl) : Go p l e R s m args below meth c Z own EL n0 eb Q bk h k n pc Ls (.long y :: .long x :: st) := by
  subst hp
  exact Go.pure (fun T t h hr => XT.lxor h C.1 rfl (Jvm.hb C.2.2.2.2.2.1 hd) rfl hr) K
theorem Ctx.ldiv (C : Ctx p meth c Z a0 EL cd mx ret nm) {pc : Nat} {Ls : Array Slot} {st : List Value} (pc' : Nat) {x y : Int64} (hd : decode cd pc = .ok (.ldiv, 1)) (hy : y ≠ 0) (K : Go p l e R s m args below meth c Z own EL n0 eb Q bk h k n pc' Ls (.long (x / y) :: st)) (hp : pc + 1 = pc' := by rfl) : Go p l e R s m args below meth c Z own EL n0 eb Q bk h k n pc Ls (.long y :: .long x :: st) := by
  subst hp
  exact Go.pure (fun T t h hr => XT.ldiv h C.1 rfl (Jvm.hb C.2.2.2.2.2.1 hd) rfl hy hr) K
theorem Ctx.i2l (C : Ctx p meth c Z a0 EL cd mx ret nm) {pc : Nat} {Ls : Array Slot} {st : List Value} (pc' : Nat) {x : Int32} (hd : decode cd pc = .ok (.i2l, 1))  (K : Go p l e R s m args below meth c Z own EL n0 eb Q bk h k n pc' Ls (.long x.toInt64 :: st)) (hp : pc + 1 = pc' := by rfl) : Go p l e R s m args below meth c Z own EL n0 eb Q bk h k n pc Ls (.int x :: st) := by
  subst hp
  exact Go.pure (fun T t h hr => XT.i2l h C.1 rfl (Jvm.hb C.2.2.2.2.2.1 hd) rfl hr) K
theorem Ctx.l2i (C : Ctx p meth c Z a0 EL cd mx ret nm) {pc : Nat} {Ls : Array Slot} {st : List Value} (pc' : Nat) {x : Int64} (hd : decode cd pc = .ok (.l2i, 1))  (K : Go p l e R s m args below meth c Z own EL n0 eb Q bk h k n pc' Ls (.int x.toInt32 :: st)) (hp : pc + 1 = pc' := by rfl) : Go p l e R s m args below meth c Z own EL n0 eb Q bk h k n pc Ls (.long x :: st) := by
  subst hp
  exact Go.pure (fun T t h hr => XT.l2i h C.1 rfl (Jvm.hb C.2.2.2.2.2.1 hd) rfl hr) K
theorem Ctx.i2b (C : Ctx p meth c Z a0 EL cd mx ret nm) {pc : Nat} {Ls : Array Slot} {st : List Value} (pc' : Nat) {x : Int32} (hd : decode cd pc = .ok (.i2b, 1))  (K : Go p l e R s m args below meth c Z own EL n0 eb Q bk h k n pc' Ls (.int x.toInt8.toInt32 :: st)) (hp : pc + 1 = pc' := by rfl) : Go p l e R s m args below meth c Z own EL n0 eb Q bk h k n pc Ls (.int x :: st) := by
  subst hp
  exact Go.pure (fun T t h hr => XT.i2b h C.1 rfl (Jvm.hb C.2.2.2.2.2.1 hd) rfl hr) K
theorem Ctx.i2c (C : Ctx p meth c Z a0 EL cd mx ret nm) {pc : Nat} {Ls : Array Slot} {st : List Value} (pc' : Nat) {x : Int32} (hd : decode cd pc = .ok (.i2c, 1))  (K : Go p l e R s m args below meth c Z own EL n0 eb Q bk h k n pc' Ls (.int x.toUInt32.toUInt16.toUInt32.toInt32 :: st)) (hp : pc + 1 = pc' := by rfl) : Go p l e R s m args below meth c Z own EL n0 eb Q bk h k n pc Ls (.int x :: st) := by
  subst hp
  exact Go.pure (fun T t h hr => XT.i2c h C.1 rfl (Jvm.hb C.2.2.2.2.2.1 hd) rfl hr) K
theorem Ctx.lcmp (C : Ctx p meth c Z a0 EL cd mx ret nm) {pc : Nat} {Ls : Array Slot} {st : List Value} (pc' : Nat) {x y : Int64} (hd : decode cd pc = .ok (.lcmp, 1))  (K : Go p l e R s m args below meth c Z own EL n0 eb Q bk h k n pc' Ls (.int (XT.cmpL x y) :: st)) (hp : pc + 1 = pc' := by rfl) : Go p l e R s m args below meth c Z own EL n0 eb Q bk h k n pc Ls (.long y :: .long x :: st) := by
  subst hp
  exact Go.pure (fun T t h hr => XT.lcmp h C.1 rfl (Jvm.hb C.2.2.2.2.2.1 hd) rfl hr) K
theorem Ctx.pop (C : Ctx p meth c Z a0 EL cd mx ret nm) {pc : Nat} {Ls : Array Slot} {st : List Value} (pc' : Nat) {x : Value} (hd : decode cd pc = .ok (.pop, 1)) (hc : x.category = 1) (K : Go p l e R s m args below meth c Z own EL n0 eb Q bk h k n pc' Ls (st)) (hp : pc + 1 = pc' := by rfl) : Go p l e R s m args below meth c Z own EL n0 eb Q bk h k n pc Ls (x :: st) := by
  subst hp
  exact Go.pure (fun T t h hr => XT.pop h C.1 rfl (Jvm.hb C.2.2.2.2.2.1 hd) rfl hc hr) K
theorem Ctx.dup (C : Ctx p meth c Z a0 EL cd mx ret nm) {pc : Nat} {Ls : Array Slot} {st : List Value} (pc' : Nat) {x : Value} (hd : decode cd pc = .ok (.dup, 1)) (hc : x.category = 1) (K : Go p l e R s m args below meth c Z own EL n0 eb Q bk h k n pc' Ls (x :: x :: st)) (hp : pc + 1 = pc' := by rfl) : Go p l e R s m args below meth c Z own EL n0 eb Q bk h k n pc Ls (x :: st) := by
  subst hp
  exact Go.pure (fun T t h hr => XS.dup h C.1 rfl (Jvm.hb C.2.2.2.2.2.1 hd) rfl hc hr) K
theorem Ctx.dupX1 (C : Ctx p meth c Z a0 EL cd mx ret nm) {pc : Nat} {Ls : Array Slot} {st : List Value} (pc' : Nat) {x y : Value} (hd : decode cd pc = .ok (.dup_x1, 1)) (hc : x.category = 1) (hc' : y.category = 1) (K : Go p l e R s m args below meth c Z own EL n0 eb Q bk h k n pc' Ls (x :: y :: x :: st)) (hp : pc + 1 = pc' := by rfl) : Go p l e R s m args below meth c Z own EL n0 eb Q bk h k n pc Ls (x :: y :: st) := by
  subst hp
  exact Go.pure (fun T t h hr => XT.dupX1 h C.1 rfl (Jvm.hb C.2.2.2.2.2.1 hd) rfl hc hc' hr) K
theorem Ctx.dup2 (C : Ctx p meth c Z a0 EL cd mx ret nm) {pc : Nat} {Ls : Array Slot} {st : List Value} (pc' : Nat) {x y : Value} (hd : decode cd pc = .ok (.dup2, 1)) (hc : x.category = 1) (hc' : y.category = 1) (K : Go p l e R s m args below meth c Z own EL n0 eb Q bk h k n pc' Ls (x :: y :: x :: y :: st)) (hp : pc + 1 = pc' := by rfl) : Go p l e R s m args below meth c Z own EL n0 eb Q bk h k n pc Ls (x :: y :: st) := by
  subst hp
  exact Go.pure (fun T t h hr => XT.dup2 h C.1 rfl (Jvm.hb C.2.2.2.2.2.1 hd) rfl hc hc' hr) K

theorem Ctx.goto (C : Ctx p meth c Z a0 EL cd mx ret nm) {pc : Nat} {Ls : Array Slot} {st : List Value} (pc' : Nat) {o : Int} (hd : decode cd pc = .ok (.goto o, 3)) (ho : 0 ≤ (pc : Int) + o) (hp : ((pc : Int) + o).toNat = pc') (K : Go p l e R s m args below meth c Z own EL n0 eb Q bk h k n pc' Ls st) : Go p l e R s m args below meth c Z own EL n0 eb Q bk h k n pc Ls st :=
  Go.pure (fun T t h hr => XS.goto h C.1 rfl (pc0 := pc) rfl (Jvm.hb C.2.2.2.2.2.1 hd) ho hp hr) K
theorem Ctx.ifY (C : Ctx p meth c Z a0 EL cd mx ret nm) {pc : Nat} {Ls : Array Slot} {st : List Value} (pc' : Nat) {o : Int} {kc : ClassFile.Cond} {x : Int32} (hd : decode cd pc = .ok (.ifCond kc o, 3)) (ho : 0 ≤ (pc : Int) + o) (hp : ((pc : Int) + o).toNat = pc') (hc : ifCond.holds kc x = true) (K : Go p l e R s m args below meth c Z own EL n0 eb Q bk h k n pc' Ls st) : Go p l e R s m args below meth c Z own EL n0 eb Q bk h k n pc Ls (.int x :: st) :=
  Go.pure (fun T t h hr => XS.ifYes h C.1 rfl (pc0 := pc) rfl (Jvm.hb C.2.2.2.2.2.1 hd) rfl hc ho hp hr) K
theorem Ctx.ifN (C : Ctx p meth c Z a0 EL cd mx ret nm) {pc : Nat} {Ls : Array Slot} {st : List Value} (pc' : Nat) {o : Int} {kc : ClassFile.Cond} {x : Int32} (hd : decode cd pc = .ok (.ifCond kc o, 3)) (hp : pc + 3 = pc') (hc : ifCond.holds kc x = false) (K : Go p l e R s m args below meth c Z own EL n0 eb Q bk h k n pc' Ls st) : Go p l e R s m args below meth c Z own EL n0 eb Q bk h k n pc Ls (.int x :: st) := by
  subst hp
  exact Go.pure (fun T t h hr => XS.ifNo h C.1 rfl (Jvm.hb C.2.2.2.2.2.1 hd) rfl hc hr) K
theorem Ctx.icY (C : Ctx p meth c Z a0 EL cd mx ret nm) {pc : Nat} {Ls : Array Slot} {st : List Value} (pc' : Nat) {o : Int} {kc : ClassFile.Cond} {x y : Int32} (hd : decode cd pc = .ok (.if_icmp kc o, 3)) (ho : 0 ≤ (pc : Int) + o) (hp : ((pc : Int) + o).toNat = pc') (hc : if_icmp.holds kc x y = true) (K : Go p l e R s m args below meth c Z own EL n0 eb Q bk h k n pc' Ls st) : Go p l e R s m args below meth c Z own EL n0 eb Q bk h k n pc Ls (.int y :: .int x :: st) :=
  Go.pure (fun T t h hr => XS.icmpYes h C.1 rfl (pc0 := pc) rfl (Jvm.hb C.2.2.2.2.2.1 hd) rfl hc ho hp hr) K
theorem Ctx.icN (C : Ctx p meth c Z a0 EL cd mx ret nm) {pc : Nat} {Ls : Array Slot} {st : List Value} (pc' : Nat) {o : Int} {kc : ClassFile.Cond} {x y : Int32} (hd : decode cd pc = .ok (.if_icmp kc o, 3)) (hp : pc + 3 = pc') (hc : if_icmp.holds kc x y = false) (K : Go p l e R s m args below meth c Z own EL n0 eb Q bk h k n pc' Ls st) : Go p l e R s m args below meth c Z own EL n0 eb Q bk h k n pc Ls (.int y :: .int x :: st) := by
  subst hp
  exact Go.pure (fun T t h hr => XS.icmpNo h C.1 rfl (Jvm.hb C.2.2.2.2.2.1 hd) rfl hc hr) K
theorem Ctx.nullY (C : Ctx p meth c Z a0 EL cd mx ret nm) {pc : Nat} {Ls : Array Slot} {st : List Value} (pc' : Nat) {o : Int} (hd : decode cd pc = .ok (.ifnull o, 3)) (ho : 0 ≤ (pc : Int) + o) (hp : ((pc : Int) + o).toNat = pc') (K : Go p l e R s m args below meth c Z own EL n0 eb Q bk h k n pc' Ls st) : Go p l e R s m args below meth c Z own EL n0 eb Q bk h k n pc Ls (.null :: st) :=
  Go.pure (fun T t h hr => XS.ifnullYes h C.1 rfl (pc0 := pc) rfl (Jvm.hb C.2.2.2.2.2.1 hd) rfl ho hp hr) K
theorem Ctx.nullN (C : Ctx p meth c Z a0 EL cd mx ret nm) {pc : Nat} {Ls : Array Slot} {st : List Value} (pc' : Nat) {o : Int} {a : Addr} (hd : decode cd pc = .ok (.ifnull o, 3)) (hp : pc + 3 = pc') (K : Go p l e R s m args below meth c Z own EL n0 eb Q bk h k n pc' Ls st) : Go p l e R s m args below meth c Z own EL n0 eb Q bk h k n pc Ls (.ref a :: st) := by
  subst hp
  exact Go.pure (fun T t h hr => XS.ifnullNo h C.1 rfl (Jvm.hb C.2.2.2.2.2.1 hd) rfl hr) K
theorem Ctx.nonY (C : Ctx p meth c Z a0 EL cd mx ret nm) {pc : Nat} {Ls : Array Slot} {st : List Value} (pc' : Nat) {o : Int} {a : Addr} (hd : decode cd pc = .ok (.ifnonnull o, 3)) (ho : 0 ≤ (pc : Int) + o) (hp : ((pc : Int) + o).toNat = pc') (K : Go p l e R s m args below meth c Z own EL n0 eb Q bk h k n pc' Ls st) : Go p l e R s m args below meth c Z own EL n0 eb Q bk h k n pc Ls (.ref a :: st) :=
  Go.pure (fun T t h hr => XT.ifnonnullYes h C.1 rfl (pc0 := pc) rfl (Jvm.hb C.2.2.2.2.2.1 hd) rfl ho hp hr) K
theorem Ctx.nonN (C : Ctx p meth c Z a0 EL cd mx ret nm) {pc : Nat} {Ls : Array Slot} {st : List Value} (pc' : Nat) {o : Int} (hd : decode cd pc = .ok (.ifnonnull o, 3)) (hp : pc + 3 = pc') (K : Go p l e R s m args below meth c Z own EL n0 eb Q bk h k n pc' Ls st) : Go p l e R s m args below meth c Z own EL n0 eb Q bk h k n pc Ls (.null :: st) := by
  subst hp
  exact Go.pure (fun T t h hr => XT.ifnonnullNo h C.1 rfl (Jvm.hb C.2.2.2.2.2.1 hd) rfl hr) K
theorem Ctx.acY (C : Ctx p meth c Z a0 EL cd mx ret nm) {pc : Nat} {Ls : Array Slot} {st : List Value} (pc' : Nat) {o : Int} {kc : ClassFile.ACond} {x y : Value} (hd : decode cd pc = .ok (.if_acmp kc o, 3)) (ho : 0 ≤ (pc : Int) + o) (hp : ((pc : Int) + o).toNat = pc') (hx : x.isRef = true) (hy : y.isRef = true) (hc : XT.acmp kc x y = true) (K : Go p l e R s m args below meth c Z own EL n0 eb Q bk h k n pc' Ls st) : Go p l e R s m args below meth c Z own EL n0 eb Q bk h k n pc Ls (y :: x :: st) :=
  Go.pure (fun T t h hr => XT.acmpYes h C.1 rfl (pc0 := pc) rfl (Jvm.hb C.2.2.2.2.2.1 hd) rfl hx hy hc ho hp hr) K
theorem Ctx.acN (C : Ctx p meth c Z a0 EL cd mx ret nm) {pc : Nat} {Ls : Array Slot} {st : List Value} (pc' : Nat) {o : Int} {kc : ClassFile.ACond} {x y : Value} (hd : decode cd pc = .ok (.if_acmp kc o, 3)) (hp : pc + 3 = pc') (hx : x.isRef = true) (hy : y.isRef = true) (hc : XT.acmp kc x y = false) (K : Go p l e R s m args below meth c Z own EL n0 eb Q bk h k n pc' Ls st) : Go p l e R s m args below meth c Z own EL n0 eb Q bk h k n pc Ls (y :: x :: st) := by
  subst hp
  exact Go.pure (fun T t h hr => XT.acmpNo h C.1 rfl (Jvm.hb C.2.2.2.2.2.1 hd) rfl hx hy hc hr) K
theorem Ctx.iinc (C : Ctx p meth c Z a0 EL cd mx ret nm) {pc : Nat} {Ls : Array Slot} {st : List Value} (pc' : Nat) {j : Nat} {i : Int} {x : Int32} {L' : Array Slot} (v : Int32) (hd : decode cd pc = .ok (.iinc j i, 3)) (hv : Int32.ofInt i = v) (hl : Ls[j]? = some (.val (.int x))) (hl' : storeLocals Ls j (.int (x + v)) = some L') (K : Go p l e R s m args below meth c Z own EL n0 eb Q bk h k n pc' L' st) (hp : pc + 3 = pc' := by rfl) : Go p l e R s m args below meth c Z own EL n0 eb Q bk h k n pc Ls st := by
  subst hp
  exact Go.pure (fun T t h hr => XT.iincV h C.1 rfl v (Jvm.hb C.2.2.2.2.2.1 hd) hv hl hl' hr) K
theorem Ctx.irem (C : Ctx p meth c Z a0 EL cd mx ret nm) {pc : Nat} {Ls : Array Slot} {st : List Value} (pc' : Nat) {x y : Int32} (hd : decode cd pc = .ok (.irem, 1)) (hy : y ≠ 0) (K : Go p l e R s m args below meth c Z own EL n0 eb Q bk h k n pc' Ls (.int (x % y) :: st)) (hp : pc + 1 = pc' := by rfl) : Go p l e R s m args below meth c Z own EL n0 eb Q bk h k n pc Ls (.int y :: .int x :: st) := by
  subst hp
  exact Go.pure (fun T t h hr => XS.irem h C.1 rfl (Jvm.hb C.2.2.2.2.2.1 hd) rfl hy (by rw [irem_eq_mod]; exact hr)) K
theorem Ctx.idiv (C : Ctx p meth c Z a0 EL cd mx ret nm) {pc : Nat} {Ls : Array Slot} {st : List Value} (pc' : Nat) {x y : Int32} (hd : decode cd pc = .ok (.idiv, 1)) (hy : y ≠ 0) (K : Go p l e R s m args below meth c Z own EL n0 eb Q bk h k n pc' Ls (.int (x / y) :: st)) (hp : pc + 1 = pc' := by rfl) : Go p l e R s m args below meth c Z own EL n0 eb Q bk h k n pc Ls (.int y :: .int x :: st) := by
  subst hp
  exact Go.pure (fun T t h hr => XS.idiv h C.1 rfl (Jvm.hb C.2.2.2.2.2.1 hd) rfl hy hr) K
theorem Ctx.lrem (C : Ctx p meth c Z a0 EL cd mx ret nm) {pc : Nat} {Ls : Array Slot} {st : List Value} (pc' : Nat) {x y : Int64} (hd : decode cd pc = .ok (.lrem, 1)) (hy : y ≠ 0) (K : Go p l e R s m args below meth c Z own EL n0 eb Q bk h k n pc' Ls (.long (x % y) :: st)) (hp : pc + 1 = pc' := by rfl) : Go p l e R s m args below meth c Z own EL n0 eb Q bk h k n pc Ls (.long y :: .long x :: st) := by
  subst hp
  exact Go.pure (fun T t h hr => XT.lrem h C.1 rfl (Jvm.hb C.2.2.2.2.2.1 hd) rfl hy (by rw [lrem_mod]; exact hr)) K
theorem Ctx.lushr (C : Ctx p meth c Z a0 EL cd mx ret nm) {pc : Nat} {Ls : Array Slot} {st : List Value} (pc' : Nat) {x : Int64} {y : Int32} (hd : decode cd pc = .ok (.lushr, 1)) (K : Go p l e R s m args below meth c Z own EL n0 eb Q bk h k n pc' Ls (.long (XT.ushrL x y) :: st)) (hp : pc + 1 = pc' := by rfl) : Go p l e R s m args below meth c Z own EL n0 eb Q bk h k n pc Ls (.int y :: .long x :: st) := by
  subst hp
  exact Go.pure (fun T t h hr => XT.lushr h C.1 rfl (Jvm.hb C.2.2.2.2.2.1 hd) rfl hr) K
theorem Ctx.lshl (C : Ctx p meth c Z a0 EL cd mx ret nm) {pc : Nat} {Ls : Array Slot} {st : List Value} (pc' : Nat) {x : Int64} {y : Int32} (hd : decode cd pc = .ok (.lshl, 1)) (K : Go p l e R s m args below meth c Z own EL n0 eb Q bk h k n pc' Ls (.long (x <<< (y.toInt64 &&& 63)) :: st)) (hp : pc + 1 = pc' := by rfl) : Go p l e R s m args below meth c Z own EL n0 eb Q bk h k n pc Ls (.int y :: .long x :: st) := by
  subst hp
  exact Go.pure (fun T t h hr => XT.lshl h C.1 rfl (Jvm.hb C.2.2.2.2.2.1 hd) rfl hr) K
end Own

section Own2
variable {Z : State} {h h' h1 h2 : Heap} {a t : Nat} {b b' : Nat} {cs : List Int32} {P : Nat → Prop} {a0 : Array Value}
def own_lo (x : Int32) : Int32 := x.toInt8.toInt32
theorem own_narb (x : Int32) : nar .byte x.toInt8.toInt32 = own_lo x := by show x.toInt8.toInt32.toInt8.toInt32 = x.toInt8.toInt32; simp
theorem own_fitsb (x : Int32) : fits .byte (.int (nar .byte x)) = true := fits_nar_byte x
/-- a String of Latin-1 chars; its two cells lie below b -/
def Str (Z : State) (h : Heap) (b : Nat) (a : Nat) (cs : List Int32) : Prop := ∃ t : Nat, a < b ∧ t < b ∧ Exa Z h a "java/lang/String" ∧ Fld Z h a "java/lang/String" "coder" "B" (.int 0) ∧ Fld Z h a "java/lang/String" "value" "[B" (.ref t) ∧ Ar Z h t .byte (cs.map own_lo) ∧ ∀ x ∈ cs, ¬ x < 0 ∧ ¬ 255 < x
theorem Str.kp (F : Str Z h b a cs) (K : OKp P h h') (q : ∀ x, x < b → P x) : Str Z h' b a cs := by
  obtain ⟨t, f1, f2, f3, f4, f5, f6, f7⟩ := F
  exact ⟨t, f1, f2, own_exa K f3 (q _ f1), own_fld K f4 (q _ f1), own_fld K f5 (q _ f1), f6.kp K (q _ f2), f7⟩
theorem Str.ext (F : Str Z h b a cs) (E : Ext h h') : Str Z h' b a cs := F.kp (P := fun _ => True) (OKp.ofExt E) fun _ _ => trivial
theorem Str.wr {a' : Nat} {sl : Nat} {v : Value} (F : Str Z h b a cs) (W : Wr h h' a' sl v) (q : b ≤ a') : Str Z h' b a cs := F.kp (OKp.ofWr W) fun x r e => by rw [show x = a' from e] at r; omega
theorem Str.mono (F : Str Z h b a cs) (q : b ≤ b') : Str Z h b' a cs := by
  obtain ⟨t, f1, f2, r⟩ := F
  exact ⟨t, Nat.lt_of_lt_of_le f1 q, Nat.lt_of_lt_of_le f2 q, r⟩
theorem Str.lt (F : Str Z h b a cs) : a < h.size := by obtain ⟨t, f1, f2, f3, r⟩ := F; exact f3.lt
theorem Str.exa (F : Str Z h b a cs) : Exa Z h a "java/lang/String" := by obtain ⟨t, f1, f2, f3, r⟩ := F; exact f3
theorem Str.made (X : Exa Z h a "java/lang/String") (C : Fld Z h a "java/lang/String" "coder" "B" (.int 0)) (V : Fld Z h a "java/lang/String" "value" "[B" (.ref t)) (R : Ar Z h t .byte (cs.map own_lo)) (q : ∀ x ∈ cs, ¬ x < 0 ∧ ¬ 255 < x) : Str Z h h.size a cs := ⟨t, X.lt, R.lt, X, C, V, R, q⟩
theorem Str.lit {kb : ClassId} (X : Exa Z h a "java/lang/String") (C : Fld Z h a "java/lang/String" "coder" "B" (.int 0)) (V : Fld Z h a "java/lang/String" "value" "[B" (.ref t)) (W : Arv Z h t kb .byte (Int32.ofNat (cs.map own_lo).length) ((cs.map own_lo).map Value.int) (.int 0)) (hl : (cs.map own_lo).length < 2147483648) (q : ∀ x ∈ cs, ¬ x < 0 ∧ ¬ 255 < x) : Str Z h h.size a cs :=
  Str.made X C V (Ar.ofArv W hl) q
theorem Str.obj {C : String} {kk : Nat} {x : Nat} (F : Str Z h b a cs) (K : OKp (fun y => y ≠ x) h h') (E : Exa Z h x C) (hC : "java/lang/String" ≠ C) (wi : (Cond.instantiable C kk).before a0 Z = true) : Str Z h' b a cs := by
  obtain ⟨t, f1, f2, f3, f4, f5, f6, f7⟩ := F
  have n1 : a ≠ x := ne_exa f3 E hC
  have n2 : t ≠ x := Ne.symm (own_ne_exa_ar E wi f6)
  exact ⟨t, f1, f2, own_exa K f3 n1, own_fld K f4 n1, own_fld K f5 n1, f6.kp K n2, f7⟩
theorem own_c0 {x : Int32} (h1 : ¬ x < 0) (h2 : ¬ 255 < x) : x.toUInt32.toUInt16.toUInt32.toInt32 = x := by
  have q := c_i2c x
  rw [Int32.lt_iff_toInt_lt] at h1 h2
  have e1 : (0 : Int32).toInt = 0 := rfl
  have e2 : (255 : Int32).toInt = 255 := by decide
  rw [← Int32.toInt_inj]
  omega
theorem own_lo_inj {x y : Int32} (h1 : ¬ x < 0) (h2 : ¬ 255 < x) (k1 : ¬ y < 0) (k2 : ¬ 255 < y) (e : own_lo x = own_lo y) : x = y := by
  have q1 := c_i2b x
  have q2 := c_i2b y
  simp only [own_lo] at e
  rw [e] at q1
  rw [Int32.lt_iff_toInt_lt] at h1 h2 k1 k2
  have e1 : (0 : Int32).toInt = 0 := rfl
  have e2 : (255 : Int32).toInt = 255 := by decide
  rw [← Int32.toInt_inj]
  omega
theorem own_mapinj : ∀ {xs ys : List Int32}, (∀ x ∈ xs, ¬ x < 0 ∧ ¬ 255 < x) → (∀ x ∈ ys, ¬ x < 0 ∧ ¬ 255 < x) → (xs.map own_lo = ys.map own_lo ↔ xs = ys)
  | [], [], _, _ => by simp
  | [], _ :: _, _, _ => by simp
  | _ :: _, [], _, _ => by simp
  | x :: xs, y :: ys, p, q => by
    have ih := own_mapinj (xs := xs) (ys := ys) (fun z hz => p z (List.mem_cons_of_mem _ hz)) (fun z hz => q z (List.mem_cons_of_mem _ hz))
    have px := p x List.mem_cons_self
    have qy := q y List.mem_cons_self
    simp only [List.map_cons, List.cons.injEq, ih]
    exact ⟨fun ⟨u, v⟩ => ⟨own_lo_inj px.1 px.2 qy.1 qy.2 u, v⟩, fun ⟨u, v⟩ => ⟨by rw [u], v⟩⟩
theorem own_ofNat {i j : Nat} (hi : i < 2147483648) (hj : j < 2147483648) : (Int32.ofNat i = Int32.ofNat j ↔ i = j) ∧ (Int32.ofNat i < Int32.ofNat j ↔ i < j) := by
  have e1 : (Int32.ofNat i).toInt = i := Int32.toInt_ofNat_small (by omega)
  have e2 : (Int32.ofNat j).toInt = j := Int32.toInt_ofNat_small (by omega)
  rw [← Int32.toInt_inj, Int32.lt_iff_toInt_lt, e1, e2]
  omega
theorem own_succ (i : Nat) : Int32.ofNat i + 1 = Int32.ofNat (i + 1) := (Int32.ofNat_add i 1).symm
/-- an int that says whether P -/
def OB (r : Int32) (P : Prop) : Prop := (r = 1 ∧ P) ∨ (r = 0 ∧ ¬ P)
theorem OB.y {u : Int32} {P : Prop} (h : OB u P) (q : ¬ u = 0) : P := h.elim (·.2) fun r => absurd r.1 q
theorem OB.n {u : Int32} {P : Prop} (h : OB u P) (q : u = 0) : ¬ P := h.elim (fun r => absurd (r.1.symm.trans q) (by decide)) (·.2)
theorem OB.one {u : Int32} {P : Prop} (h : OB u P) (q : P) : u = 1 := h.elim (·.1) fun r => absurd q r.2
theorem OB.zero {u : Int32} {P : Prop} (h : OB u P) (q : ¬ P) : u = 0 := h.elim (fun r => absurd r.2 q) (·.1)
theorem own_arlen {xs : List Int32} {ty : FieldType} (A : Ar Z h a ty xs) : xs.length < 2147483648 := by obtain ⟨_, _, _, g, _⟩ := A; exact g
theorem own_arfun {xs ys : List Int32} {ty ty' : FieldType} (A : Ar Z h a ty xs) (B : Ar Z h a ty' ys) : xs = ys := by
  obtain ⟨c1, A1, a1, a2, a3, a4⟩ := A
  obtain ⟨c2, B1, b1, b2, b3, b4⟩ := B
  cases A1.1.symm.trans B1.1
  refine List.ext_getElem? fun i => ?_
  by_cases q : i < xs.length
  · have e1 := List.getElem?_eq_getElem q
    have e2 := List.getElem?_eq_getElem (show i < ys.length by omega)
    rw [e1, e2]
    have := (a3 i _ e1).symm.trans (b3 i _ e2)
    simpa using this
  · rw [List.getElem?_eq_none (by omega), List.getElem?_eq_none (by omega)]
theorem own_fldfun {C n d : String} {v w : Value} (F : Fld Z h a C n d v) (G : Fld Z h a C n d w) : v = w := by
  obtain ⟨c1, cf1, k1, i1, f1, p1, p2, p3, p4, p5, p6, p7⟩ := F
  obtain ⟨c2, cf2, k2, i2, f2, q1, q2, q3, q4, q5, q6, q7⟩ := G
  cases p1.symm.trans q1
  cases p2.symm.trans q2
  exact Option.some.inj (p7.symm.trans q7)
theorem own_strfun {b' : Nat} {ds : List Int32} (F : Str Z h b a cs) (G : Str Z h b' a ds) : cs = ds := by
  obtain ⟨t, f1, f2, f3, f4, f5, f6, f7⟩ := F
  obtain ⟨u, g1, g2, g3, g4, g5, g6, g7⟩ := G
  cases own_fldfun f5 g5
  exact (own_mapinj f7 g7).mp (own_arfun f6 g6)
theorem own_sub0 (z : Int32) : XT.ushr (z - z) 31 = 0 := by
  have e : z - z = 0 := Int32.sub_self z
  rw [e]; decide
theorem own_shr0 (z : Int32) : z >>> ((0 : Int32) &&& 31) = z := by
  have q := c_ishr z 0 0 (by decide)
  rw [← Int32.toInt_inj, q]; simp
theorem own_loand {x : Int32} (h1 : ¬ x < 0) (h2 : ¬ 255 < x) : own_lo x &&& 255 = x := by
  have q1 := c_i2b x
  have q2 := c_mask (own_lo x) 255 8 (by decide) (by decide)
  rw [Int32.lt_iff_toInt_lt] at h1 h2
  have e1 : (0 : Int32).toInt = 0 := rfl
  have e2 : (255 : Int32).toInt = 255 := by decide
  rw [← Int32.toInt_inj, q2]
  simp only [own_lo]
  omega
theorem own_ch {x : Int32} (h1 : ¬ x < 0) (h2 : ¬ 255 < x) : nar .char (own_lo x &&& 255).toUInt32.toUInt16.toUInt32.toInt32 = x := by
  rw [own_loand h1 h2, own_c0 h1 h2]; exact own_c0 h1 h2
theorem own_chget {cs : List Int32} {i : Nat} {x : Int32} (h : cs[i]? = some x) : (cs.map own_lo)[i]? = some (own_lo x) := by rw [List.getElem?_map, h]; rfl
end Own2

theorem pn_0 : plainName "java/lang/StringLatin1" = true := by first | (simp [plainName, overriddenIn]; done) | decide +kernel
theorem d0_0 : decode jdk_43_method_3_code 0 = .ok (.iload_n 0, 1) := by decide +kernel
theorem d0_1 : decode jdk_43_method_3_code 1 = .ok (.sipush 255, 3) := by decide +kernel
theorem d0_4 : decode jdk_43_method_3_code 4 = .ok (.if_icmp .gt 7, 3) := by decide +kernel
theorem d0_7 : decode jdk_43_method_3_code 7 = .ok (.iconst 1, 1) := by decide +kernel
theorem d0_8 : decode jdk_43_method_3_code 8 = .ok (.goto 4, 3) := by decide +kernel
theorem d0_12 : decode jdk_43_method_3_code 12 = .ok (.ireturn, 1) := by decide +kernel
theorem ef_1 (m : MethodId) (x0 : Int32) : entryFrame m #[(.int x0)] 1 = mkF m 0 #[.val (.int x0)] [] := by first | (simp [entryFrame, mkF, argsToLocals, Value.category]; done) | rfl
set_option maxRecDepth 65536 in
set_option maxHeartbeats 40000000 in
theorem met_can (l : Launch) (Z : State) (a0 : Array Value) (hw : ∀ d ∈ tables_1, d.before a0 Z = true) (EL : List (String × Nat)) (hEL : EW Z a0 EL) (n0 bk : Nat) (h0 : Heap) (hz0 : Z.heap.size ≤ n0) (hn0 : n0 ≤ h0.size) (x : Int32) (q : ¬ 255 < x) : Met l Z EL (⟨"java/lang/StringLatin1", "canEncode", "(C)Z"⟩ : MethodName) jdk_43_method_3_code 1 (some .boolean) [] ({ frames := 0, cells := 0, slots := 0, locals := 0 } : Room) #[(.int x)] n0 bk h0 (fun _ => bk) (fun v h => v = some (.int 1) ∧ h0 = h) := by
  refine Met.intro (plainFor_of_name pn_0) (fun m => ef_1 m x) hz0 hEL ?_
  intro p e s m below meth c C
  refine C.iloadN 1 d0_0 rfl ?_
  refine C.sipush 4 (255 : Int32) d0_1 (by decide) ?_
  refine C.icN 7 d0_4 rfl (XT.ii_gt_f (show ¬ ((255 : Int32) < x) from q)) ?_
  refine C.iconst 8 (1 : Int32) d0_7 (by decide) ?_
  refine C.goto 12 d0_8 (by decide) (by decide) ?_
  refine C.retN (t := .boolean) rfl (by simp) d0_12 (by decide) (by decide) (Or.inl (Nat.le_refl _)) ?_
  exact ⟨rfl, rfl⟩
theorem d1_0 : decode jdk_43_method_46_code 0 = .ok (.iconst 1, 1) := by decide +kernel
theorem d1_1 : decode jdk_43_method_46_code 1 = .ok (.newarray .byte, 2) := by decide +kernel
theorem d1_3 : decode jdk_43_method_46_code 3 = .ok (.dup, 1) := by decide +kernel
theorem d1_4 : decode jdk_43_method_46_code 4 = .ok (.iconst 0, 1) := by decide +kernel
theorem d1_5 : decode jdk_43_method_46_code 5 = .ok (.iload_n 0, 1) := by decide +kernel
theorem d1_6 : decode jdk_43_method_46_code 6 = .ok (.i2b, 1) := by decide +kernel
theorem d1_7 : decode jdk_43_method_46_code 7 = .ok (.bastore, 1) := by decide +kernel
theorem d1_8 : decode jdk_43_method_46_code 8 = .ok (.areturn, 1) := by decide +kernel
theorem ef_2 (m : MethodId) (x0 : Int32) : entryFrame m #[(.int x0)] 1 = mkF m 0 #[.val (.int x0)] [] := by first | (simp [entryFrame, mkF, argsToLocals, Value.category]; done) | rfl
set_option maxRecDepth 65536 in
set_option maxHeartbeats 40000000 in
theorem met_tb (l : Launch) (Z : State) (a0 : Array Value) (hw : ∀ d ∈ tables_1, d.before a0 Z = true) (EL : List (String × Nat)) (hEL : EW Z a0 EL) (n0 bk : Nat) (h0 : Heap) (hz0 : Z.heap.size ≤ n0) (hn0 : n0 ≤ h0.size) (x : Int32) (hbk : bk ≤ h0.size) : Met l Z EL (⟨"java/lang/StringLatin1", "toBytes", "(C)[B"⟩ : MethodName) jdk_43_method_46_code 1 (some (.array .byte)) [] ({ frames := 0, cells := 1, slots := 1, locals := 0 } : Room) #[(.int x)] n0 bk h0 (fun _ => bk) (fun v h => ∃ t, v = some (.ref t) ∧ n0 ≤ t ∧ h0.size ≤ t ∧ Ar Z h t .byte [own_lo x]) := by
  refine Met.intro (plainFor_of_name pn_0) (fun m => ef_2 m x) hz0 hEL ?_
  intro p e s m below meth c C
  refine C.iconst 1 (1 : Int32) d1_0 (by decide) ?_
  refine C.newarr (zn := 1) (cap := 1) 3 d1_1 (hw _ (List.mem_of_getElem? (i := 14) rfl)) rfl (by decide) (by decide) rfl (by decide) (by decide) (by decide) ?_
  intro t h1 g_t E1 R_t
  replace R_t : Ar Z h1 t .byte (List.replicate 1 0) := R_t
  have lt_t : t < h1.size := R_t.lt
  have sz_h1 : h0.size ≤ h1.size := E1.1
  have hbt : bk ≤ t := by omega
  refine C.dup 4 d1_3 rfl ?_
  refine C.iconst 5 (0 : Int32) d1_4 (by decide) ?_
  refine C.iloadN 6 d1_5 rfl ?_
  refine C.i2b 7 d1_6 ?_
  refine C.bastore 8 0 d1_7 R_t rfl (by decide) (own_fitsb _) (by omega) (Or.inl hbt) ?_
  intro h2 W2 N2
  have sz_h2 : h1.size ≤ h2.size := (Nat.le_of_eq W2.size.symm)
  replace R_t : Ar Z h2 t .byte [own_lo x] := (by have q := N2; rw [own_narb] at q; exact q)
  refine C.retA rfl rfl d1_8 rfl (by decide) (by decide) (Or.inl (Nat.le_refl _)) ?_
  exact ⟨t, rfl, by omega, by omega, R_t⟩
theorem pn_1 : plainName "java/lang/String" = true := by first | (simp [plainName, overriddenIn]; done) | decide +kernel
theorem d2_0 : decode jdk_42_method_151_code 0 = .ok (.aload_n 0, 1) := by decide +kernel
theorem d2_1 : decode jdk_42_method_151_code 1 = .ok (.invokespecial 1, 3) := by decide +kernel
theorem d2_4 : decode jdk_42_method_151_code 4 = .ok (.aload_n 0, 1) := by decide +kernel
theorem d2_5 : decode jdk_42_method_151_code 5 = .ok (.aload_n 1, 1) := by decide +kernel
theorem d2_6 : decode jdk_42_method_151_code 6 = .ok (.putfield 9, 3) := by decide +kernel
theorem d2_9 : decode jdk_42_method_151_code 9 = .ok (.aload_n 0, 1) := by decide +kernel
theorem d2_10 : decode jdk_42_method_151_code 10 = .ok (.iload_n 2, 1) := by decide +kernel
theorem d2_11 : decode jdk_42_method_151_code 11 = .ok (.putfield 15, 3) := by decide +kernel
theorem d2_14 : decode jdk_42_method_151_code 14 = .ok (.return_, 1) := by decide +kernel
theorem ef_3 (m : MethodId) (x0 : Nat) (x1 : Nat) (x2 : Int32) : entryFrame m #[(.ref x0), (.ref x1), (.int x2)] 3 = mkF m 0 #[.val (.ref x0), .val (.ref x1), .val (.int x2)] [] := by first | (simp [entryFrame, mkF, argsToLocals, Value.category]; done) | rfl
set_option maxRecDepth 65536 in
set_option maxHeartbeats 40000000 in
theorem met_si (l : Launch) (Z : State) (a0 : Array Value) (hw : ∀ d ∈ tables_1, d.before a0 Z = true) (EL : List (String × Nat)) (hEL : EW Z a0 EL) (n0 bk : Nat) (h0 : Heap) (hz0 : Z.heap.size ≤ n0) (hn0 : n0 ≤ h0.size) (a : Nat) (t : Nat) (X : Exa Z h0 a "java/lang/String") (FV : Fld Z h0 a "java/lang/String" "value" "[B" .null) (FC : Fld Z h0 a "java/lang/String" "coder" "B" (.int (0 : Int32))) (hna : n0 ≤ a) (hba : bk ≤ a) : Met l Z EL (⟨"java/lang/String", "<init>", "([BB)V"⟩ : MethodName) jdk_42_method_151_code 3 none [] ({ frames := 1, cells := 0, slots := 0, locals := 12 } : Room) #[(.ref a), (.ref t), (.int (0 : Int32))] n0 bk h0 (fun _ => bk) (fun v h => v = none ∧ OKp (fun x => x ≠ a) h0 h ∧ Exa Z h a "java/lang/String" ∧ Fld Z h a "java/lang/String" "value" "[B" (.ref t) ∧ Fld Z h a "java/lang/String" "coder" "B" (.int 0)) := by
  refine Met.intro (plainFor_of_name pn_1) (fun m => ef_3 m a t (0 : Int32)) hz0 hEL ?_
  intro p e s m below meth c C
  refine C.aloadN 1 d2_0 rfl rfl ?_
  refine C.objInit (W := 0) 4 d2_1 (hw _ (List.mem_of_getElem? (i := 55) rfl)) (hw _ (List.mem_of_getElem? (i := 23) rfl)) (hw _ (List.mem_of_getElem? (i := 24) rfl)) rfl (by decide) (Nat.le_of_eq rfl) (by decide) ?_
  refine C.aloadN 5 d2_4 rfl rfl ?_
  refine C.aloadN 6 d2_5 rfl rfl ?_
  refine C.putf (ty := (.array .byte)) 9 d2_6 (hw _ (List.mem_of_getElem? (i := 56) rfl)) Via.refl FV X (Or.inr ⟨(hw _ (List.mem_of_getElem? (i := 15) rfl)), rfl, rfl⟩) (hw _ (List.mem_of_getElem? (i := 13) rfl)) (by decide) rfl rfl (by omega) (Or.inl (by omega)) ?_
  intro h1 W1
  have sz_h1 : h0.size ≤ h1.size := (Nat.le_of_eq W1.size.symm)
  replace FC := FC.other W1 (Or.inr (slot_ne (t := .byte) (t' := (.array .byte)) (Or.inr (hw _ (List.mem_of_getElem? (i := 16) rfl))) (Or.inr (hw _ (List.mem_of_getElem? (i := 15) rfl))) (by decide) (by decide) (by decide)))
  replace FV := FV.same W1
  replace X := X.wr W1
  refine C.aloadN 10 d2_9 rfl rfl ?_
  refine C.iloadN 11 d2_10 rfl ?_
  refine C.putf (ty := .byte) 14 d2_11 (hw _ (List.mem_of_getElem? (i := 57) rfl)) Via.refl FC X (Or.inr ⟨(hw _ (List.mem_of_getElem? (i := 16) rfl)), rfl, rfl⟩) (hw _ (List.mem_of_getElem? (i := 13) rfl)) (by decide) rfl rfl (by omega) (Or.inl (by omega)) ?_
  intro h2 W2
  have sz_h2 : h1.size ≤ h2.size := (Nat.le_of_eq W2.size.symm)
  replace FV := FV.other W2 (Or.inr (slot_ne (t := (.array .byte)) (t' := .byte) (Or.inr (hw _ (List.mem_of_getElem? (i := 15) rfl))) (Or.inr (hw _ (List.mem_of_getElem? (i := 16) rfl))) (by decide) (by decide) (by decide)))
  replace FC := FC.same W2
  replace X := X.wr W2
  refine C.retV rfl d2_14 (by decide) (by decide) (Or.inl (Nat.le_refl _)) ?_
  exact ⟨rfl, (OKp.ofWr W1).trans (OKp.ofWr W2), X, FV, FC⟩
theorem pd__C_rZ : parseMethodDescriptor "(C)Z" = some ⟨[.char], some .boolean⟩ := by decide +kernel
theorem pd__C_rAB : parseMethodDescriptor "(C)[B" = some ⟨[.char], some (.array .byte)⟩ := by decide +kernel
theorem pd__ABB_rV : parseMethodDescriptor "([BB)V" = some ⟨[(.array .byte), .byte], none⟩ := by decide +kernel
theorem d3_0 : decode jdk_42_method_139_code 0 = .ok (.getstatic 38, 3) := by decide +kernel
theorem d3_3 : decode jdk_42_method_139_code 3 = .ok (.ifCond .eq 23, 3) := by decide +kernel
theorem d3_6 : decode jdk_42_method_139_code 6 = .ok (.iload_n 0, 1) := by decide +kernel
theorem d3_7 : decode jdk_42_method_139_code 7 = .ok (.invokestatic 1015, 3) := by decide +kernel
theorem d3_10 : decode jdk_42_method_139_code 10 = .ok (.ifCond .eq 16, 3) := by decide +kernel
theorem d3_13 : decode jdk_42_method_139_code 13 = .ok (.new 10, 3) := by decide +kernel
theorem d3_16 : decode jdk_42_method_139_code 16 = .ok (.dup, 1) := by decide +kernel
theorem d3_17 : decode jdk_42_method_139_code 17 = .ok (.iload_n 0, 1) := by decide +kernel
theorem d3_18 : decode jdk_42_method_139_code 18 = .ok (.invokestatic 1018, 3) := by decide +kernel
theorem d3_21 : decode jdk_42_method_139_code 21 = .ok (.iconst 0, 1) := by decide +kernel
theorem d3_22 : decode jdk_42_method_139_code 22 = .ok (.invokespecial 209, 3) := by decide +kernel
theorem d3_25 : decode jdk_42_method_139_code 25 = .ok (.areturn, 1) := by decide +kernel
theorem ef_4 (m : MethodId) (x0 : Int32) : entryFrame m #[(.int x0)] 1 = mkF m 0 #[.val (.int x0)] [] := by first | (simp [entryFrame, mkF, argsToLocals, Value.category]; done) | rfl
set_option maxRecDepth 65536 in
set_option maxHeartbeats 40000000 in
theorem met_vo (l : Launch) (Z : State) (a0 : Array Value) (hw : ∀ d ∈ tables_1, d.before a0 Z = true) (EL : List (String × Nat)) (hEL : EW Z a0 EL) (n0 bk : Nat) (h0 : Heap) (hz0 : Z.heap.size ≤ n0) (hn0 : n0 ≤ h0.size) (x : Int32) (z0 : Int32) (q0 : ¬ x < 0) (q : ¬ 255 < x) (SC : Sta Z Z.heap "java/lang/String" "COMPACT_STRINGS" "Z" (.int z0)) (hzc : ¬ z0 = 0) (hbk : bk ≤ h0.size) : Met l Z EL (⟨"java/lang/String", "valueOf", "(C)Ljava/lang/String;"⟩ : MethodName) jdk_42_method_139_code 1 (some (.object "java/lang/String")) [] ({ frames := 2, cells := 2, slots := 5, locals := 27 } : Room) #[(.int x)] n0 bk h0 (fun _ => bk) (fun v h => ∃ a, v = some (.ref a) ∧ Str Z h h.size a [x]) := by
  refine Met.intro (plainFor_of_name pn_1) (fun m => ef_4 m x) hz0 hEL ?_
  intro p e s m below meth c C
  refine C.gets 3 d3_0 (hw _ (List.mem_of_getElem? (i := 42) rfl)) SC ?_
  refine C.ifN 6 d3_3 rfl (XT.i0_eq_f (show ¬ (z0 = 0) from hzc)) ?_
  refine C.iloadN 7 d3_6 rfl ?_
  refine C.callS (b := h0.size) 10 [(.int x)] [] d3_7 (met_can l Z a0 hw EL hEL h0.size bk h0 (by omega) (by omega) x q) (by omega) (Or.inl (Nat.le_refl _)) (hw _ (List.mem_of_getElem? (i := 43) rfl)) (hw _ (List.mem_of_getElem? (i := 44) rfl)) (hw _ (List.mem_of_getElem? (i := 45) rfl)) (hw _ (List.mem_of_getElem? (i := 46) rfl)) (by decide) rfl (lenOf pd__C_rZ rfl) (by decide) (W := 0) (Nat.le_of_eq rfl) (by decide) (by decide) (by decide) rfl ?_
  rintro _ h7_2 K7_2 ⟨rfl, rfl⟩
  refine C.ifN 13 d3_10 rfl (XT.i0_eq_f (show ¬ ((1 : Int32) = 0) from (by decide))) ?_
  refine C.newo 16 d3_13 (hw _ (List.mem_of_getElem? (i := 47) rfl)) (hw _ (List.mem_of_getElem? (i := 13) rfl)) (hw _ (List.mem_of_getElem? (i := 12) rfl)) (by decide) (by decide) ?_
  intro a h1 g_a E1 X_a D1
  have lt_a : a < h1.size := X_a.lt
  have sz_h1 : h0.size ≤ h1.size := E1.1
  have FV : Fld Z h1 a "java/lang/String" "value" "[B" .null := D1 (Or.inr (hw _ (List.mem_of_getElem? (i := 15) rfl))) (ty := (.array .byte)) (by decide)
  have FC : Fld Z h1 a "java/lang/String" "coder" "B" (.int (0 : Int32)) := D1 (Or.inr (hw _ (List.mem_of_getElem? (i := 16) rfl))) (ty := .byte) (by decide)
  refine C.dup 17 d3_16 rfl ?_
  refine C.iloadN 18 d3_17 rfl ?_
  refine C.callS (b := h1.size) 21 [(.int x)] [(.ref a), (.ref a)] d3_18 (met_tb l Z a0 hw EL hEL h1.size bk h1 (by omega) (by omega) x (by omega)) (by omega) (Or.inl (Nat.le_refl _)) (hw _ (List.mem_of_getElem? (i := 48) rfl)) (hw _ (List.mem_of_getElem? (i := 49) rfl)) (hw _ (List.mem_of_getElem? (i := 45) rfl)) (hw _ (List.mem_of_getElem? (i := 50) rfl)) (by decide) rfl (lenOf pd__C_rAB rfl) (by decide) (W := 2) (Nat.le_of_eq rfl) (by decide) (by decide) (by decide) rfl ?_
  rintro _ h2 K2 ⟨t, rfl, gt1, gt2, Rt⟩
  have sz_h2 : h1.size ≤ h2.size := K2.1
  replace X_a := own_exa K2 X_a (by first | omega | (dsimp only; omega))
  replace FV := own_fld K2 FV (by first | omega | (dsimp only; omega))
  replace FC := own_fld K2 FC (by first | omega | (dsimp only; omega))
  have lt_t : t < h2.size := Rt.lt
  refine C.iconst 22 (0 : Int32) d3_21 (by decide) ?_
  refine C.callI (b := a) 25 [(.ref t), (.int (0 : Int32))] [(.ref a)] d3_22 (met_si l Z a0 hw EL hEL a bk h2 (by omega) (by omega) a t X_a FV FC (by omega) (by omega)) rfl (by omega) (Or.inl (Nat.le_refl _)) (hw _ (List.mem_of_getElem? (i := 51) rfl)) (hw _ (List.mem_of_getElem? (i := 52) rfl)) (hw _ (List.mem_of_getElem? (i := 12) rfl)) (hw _ (List.mem_of_getElem? (i := 54) rfl)) (by decide) rfl (lenOf pd__ABB_rV rfl) (by decide) (W := 1) (Nat.le_of_eq rfl) (by decide) (by decide) (by decide) rfl ?_
  rintro _ h3 K3 ⟨rfl, Kq, X_a2, FV2, FC2⟩
  have sz_h3 : h2.size ≤ h3.size := Kq.1
  replace Rt := Rt.kp Kq (by first | omega | (dsimp only; omega))
  refine C.retA rfl rfl d3_25 rfl (by decide) (by decide) (Or.inl (Nat.le_refl _)) ?_
  exact ⟨a, rfl, Str.made X_a2 FC2 FV2 (cs := [x]) Rt (fun y hy => by cases List.mem_singleton.mp hy; exact ⟨q0, q⟩)⟩
def own_byte (x i : Int32) : Int32 := XT.ushr x (8 * i) &&& 255
def own_part (x i : Int32) : List Int32 := if own_byte x i = 0 then [] else [own_byte x i]
theorem own_byte_rng (x i : Int32) : ¬ own_byte x i < 0 ∧ ¬ 255 < own_byte x i := by
  have q := c_mask (XT.ushr x (8 * i)) 255 8 (by decide) (by decide)
  rw [Int32.lt_iff_toInt_lt, Int32.lt_iff_toInt_lt]
  have e1 : (0 : Int32).toInt = 0 := rfl
  have e2 : (255 : Int32).toInt = 255 := by decide
  simp only [own_byte]
  omega
theorem pn_2 : plainName "com/example/rules_for_records/rulesforrecords/messageinterpolation/CandidateEqualsPinLaw" = true := by first | (simp [plainName, overriddenIn]; done) | decide +kernel
theorem pd__C_rLjava_lang_String : parseMethodDescriptor "(C)Ljava/lang/String;" = some ⟨[.char], some (.object "java/lang/String")⟩ := by decide +kernel
theorem d4_0 : decode method_2_code 0 = .ok (.iload_n 0, 1) := by decide +kernel
theorem d4_1 : decode method_2_code 1 = .ok (.bipush 8, 2) := by decide +kernel
theorem d4_3 : decode method_2_code 3 = .ok (.iload_n 1, 1) := by decide +kernel
theorem d4_4 : decode method_2_code 4 = .ok (.imul, 1) := by decide +kernel
theorem d4_5 : decode method_2_code 5 = .ok (.iushr, 1) := by decide +kernel
theorem d4_6 : decode method_2_code 6 = .ok (.sipush 255, 3) := by decide +kernel
theorem d4_9 : decode method_2_code 9 = .ok (.iand, 1) := by decide +kernel
theorem d4_10 : decode method_2_code 10 = .ok (.istore_n 2, 1) := by decide +kernel
theorem d4_11 : decode method_2_code 11 = .ok (.iload_n 2, 1) := by decide +kernel
theorem d4_12 : decode method_2_code 12 = .ok (.ifCond .ne 6, 3) := by decide +kernel
theorem d4_15 : decode method_2_code 15 = .ok (.ldc 7, 2) := by decide +kernel
theorem d4_17 : decode method_2_code 17 = .ok (.areturn, 1) := by decide +kernel
theorem d4_18 : decode method_2_code 18 = .ok (.iload_n 2, 1) := by decide +kernel
theorem d4_19 : decode method_2_code 19 = .ok (.i2c, 1) := by decide +kernel
theorem d4_20 : decode method_2_code 20 = .ok (.invokestatic 9, 3) := by decide +kernel
theorem d4_23 : decode method_2_code 23 = .ok (.areturn, 1) := by decide +kernel
theorem ef_5 (m : MethodId) (x0 : Int32) (x1 : Int32) : entryFrame m #[(.int x0), (.int x1)] 3 = mkF m 0 #[.val (.int x0), .val (.int x1), .unset] [] := by first | (simp [entryFrame, mkF, argsToLocals, Value.category]; done) | rfl
set_option maxRecDepth 65536 in
set_option maxHeartbeats 40000000 in
theorem met_part (l : Launch) (Z : State) (a0 : Array Value) (hw : ∀ d ∈ tables_1, d.before a0 Z = true) (EL : List (String × Nat)) (hEL : EW Z a0 EL) (n0 bk : Nat) (h0 : Heap) (hz0 : Z.heap.size ≤ n0) (hn0 : n0 ≤ h0.size) (x : Int32) (i : Int32) (z0 : Int32) (SC : Sta Z Z.heap "java/lang/String" "COMPACT_STRINGS" "Z" (.int z0)) (hzc : ¬ z0 = 0) (wS : ∀ a ∈ Bundle.stringAtoms, a.before a0 Z = true) (hmem : ("com/example/rules_for_records/rulesforrecords/messageinterpolation/CandidateEqualsPinLaw", 7) ∈ EL) : Met l Z EL (⟨"com/example/rules_for_records/rulesforrecords/messageinterpolation/CandidateEqualsPinLaw", "part", "(II)Ljava/lang/String;"⟩ : MethodName) method_2_code 3 (some (.object "java/lang/String")) [] ({ frames := 3, cells := 2, slots := 5, locals := 39 } : Room) #[(.int x), (.int i)] n0 bk h0 (fun h => h.size) (fun v h => ∃ a, v = some (.ref a) ∧ Str Z h h.size a (own_part x i)) := by
  refine Met.intro (plainFor_of_name pn_2) (fun m => ef_5 m x i) hz0 hEL ?_
  intro p e s m below meth c C
  refine C.iloadN 1 d4_0 rfl ?_
  refine C.bipush 3 (8 : Int32) d4_1 (by decide) ?_
  refine C.iloadN 4 d4_3 rfl ?_
  refine C.imul 5 d4_4 ?_
  refine C.iushr 6 d4_5 ?_
  refine C.sipush 9 (255 : Int32) d4_6 (by decide) ?_
  refine C.iand 10 d4_9 ?_
  generalize hbb : ((XT.ushr x ((8 : Int32) * i)) &&& (255 : Int32)) = bb
  refine C.istoreN 11 (L' := #[.val (.int x), .val (.int i), .val (.int bb)]) d4_10 rfl ?_
  refine C.iloadN 12 d4_11 rfl ?_
  rcases Decidable.em (bb = 0) with h12 | h12
  · skip
    refine C.ifN 15 d4_12 rfl (XT.i0_ne_f h12) ?_
    refine C.ldcT (nn := 0) (vs := (([] : List Int32).map own_lo).map Value.int) (z := Int32.ofNat (([] : List Int32).map own_lo).length) 17 d4_15 (hw _ (List.mem_of_getElem? (i := 11) rfl)) wS hmem ⟨by decide, by decide⟩ (by decide) (by decide) (by decide) (by decide) (by decide) (by decide) ?_
    intro a t1 kb1 h1 E1 A1 B1 V1 W1
    have sz_h1 : h0.size ≤ h1.size := E1.1
    have S1 : Str Z h1 h1.size a [] := Str.lit A1 B1 V1 W1 (by decide) (by decide)
    refine C.retA rfl rfl d4_17 rfl (by decide) (by decide) (Or.inr (Nat.le_refl _)) ?_
    exact ⟨a, rfl, by rw [show own_part x i = [] from if_pos (hbb.trans h12)]; exact S1⟩
  · skip
    refine C.ifY 18 d4_12 (by decide) (by decide) (XT.i0_ne_t h12) ?_
    refine C.iloadN 19 d4_18 rfl ?_
    refine C.i2c 20 d4_19 ?_
    have hr := own_byte_rng x i
    rw [show own_byte x i = bb from hbb] at hr
    rw [own_c0 hr.1 hr.2]
    refine C.callS (b := h0.size) 23 [(.int bb)] [] d4_20 (met_vo l Z a0 hw EL hEL h0.size h0.size h0 (by omega) (by omega) bb z0 hr.1 hr.2 SC hzc (Nat.le_refl _)) (by omega) (Or.inr (Nat.le_refl _)) (hw _ (List.mem_of_getElem? (i := 39) rfl)) (hw _ (List.mem_of_getElem? (i := 40) rfl)) (hw _ (List.mem_of_getElem? (i := 12) rfl)) (hw _ (List.mem_of_getElem? (i := 41) rfl)) (by decide) rfl (lenOf pd__C_rLjava_lang_String rfl) (by decide) (W := 0) (Nat.le_of_eq rfl) (by decide) (by decide) (by decide) rfl ?_
    rintro _ h1 K1 ⟨a, rfl, S1⟩
    have sz_h1 : h0.size ≤ h1.size := K1.1
    refine C.retA rfl rfl d4_23 rfl (by decide) (by decide) (Or.inr (Nat.le_refl _)) ?_
    exact ⟨a, rfl, by rw [show own_part x i = [bb] from (if_neg (fun e => h12 (hbb.symm.trans e))).trans (by rw [show own_byte x i = bb from hbb])]; exact S1⟩
theorem pn_3 : plainName "com/example/rules_for_records/rulesforrecords/messageinterpolation/BundleLookup$Candidate" = true := by first | (simp [plainName, overriddenIn]; done) | decide +kernel
theorem d5_0 : decode prog_9_method_1_code 0 = .ok (.aload_n 0, 1) := by decide +kernel
theorem d5_1 : decode prog_9_method_1_code 1 = .ok (.invokespecial 1, 3) := by decide +kernel
theorem d5_4 : decode prog_9_method_1_code 4 = .ok (.aload_n 0, 1) := by decide +kernel
theorem d5_5 : decode prog_9_method_1_code 5 = .ok (.aload_n 1, 1) := by decide +kernel
theorem d5_6 : decode prog_9_method_1_code 6 = .ok (.putfield 7, 3) := by decide +kernel
theorem d5_9 : decode prog_9_method_1_code 9 = .ok (.aload_n 0, 1) := by decide +kernel
theorem d5_10 : decode prog_9_method_1_code 10 = .ok (.aload_n 2, 1) := by decide +kernel
theorem d5_11 : decode prog_9_method_1_code 11 = .ok (.putfield 13, 3) := by decide +kernel
theorem d5_14 : decode prog_9_method_1_code 14 = .ok (.aload_n 0, 1) := by decide +kernel
theorem d5_15 : decode prog_9_method_1_code 15 = .ok (.aload_n 3, 1) := by decide +kernel
theorem d5_16 : decode prog_9_method_1_code 16 = .ok (.putfield 16, 3) := by decide +kernel
theorem d5_19 : decode prog_9_method_1_code 19 = .ok (.aload_n 0, 1) := by decide +kernel
theorem d5_20 : decode prog_9_method_1_code 20 = .ok (.aload 4, 2) := by decide +kernel
theorem d5_22 : decode prog_9_method_1_code 22 = .ok (.putfield 19, 3) := by decide +kernel
theorem d5_25 : decode prog_9_method_1_code 25 = .ok (.return_, 1) := by decide +kernel
theorem ef_6 (m : MethodId) (x0 : Nat) (x1 : Nat) (x2 : Nat) (x3 : Nat) (x4 : Nat) : entryFrame m #[(.ref x0), (.ref x1), (.ref x2), (.ref x3), (.ref x4)] 5 = mkF m 0 #[.val (.ref x0), .val (.ref x1), .val (.ref x2), .val (.ref x3), .val (.ref x4)] [] := by first | (simp [entryFrame, mkF, argsToLocals, Value.category]; done) | rfl
set_option maxRecDepth 65536 in
set_option maxHeartbeats 40000000 in
theorem met_ci (l : Launch) (Z : State) (a0 : Array Value) (hw : ∀ d ∈ tables_1, d.before a0 Z = true) (EL : List (String × Nat)) (hEL : EW Z a0 EL) (n0 bk : Nat) (h0 : Heap) (hz0 : Z.heap.size ≤ n0) (hn0 : n0 ≤ h0.size) (a : Nat) (s1 : Nat) (s2 : Nat) (s3 : Nat) (s4 : Nat) (X : Exa Z h0 a "com/example/rules_for_records/rulesforrecords/messageinterpolation/BundleLookup$Candidate") (F1 : Fld Z h0 a "com/example/rules_for_records/rulesforrecords/messageinterpolation/BundleLookup$Candidate" "language" "Ljava/lang/String;" .null) (F2 : Fld Z h0 a "com/example/rules_for_records/rulesforrecords/messageinterpolation/BundleLookup$Candidate" "script" "Ljava/lang/String;" .null) (F3 : Fld Z h0 a "com/example/rules_for_records/rulesforrecords/messageinterpolation/BundleLookup$Candidate" "region" "Ljava/lang/String;" .null) (F4 : Fld Z h0 a "com/example/rules_for_records/rulesforrecords/messageinterpolation/BundleLookup$Candidate" "variant" "Ljava/lang/String;" .null) (hna : n0 ≤ a) : Met l Z EL (⟨"com/example/rules_for_records/rulesforrecords/messageinterpolation/BundleLookup$Candidate", "<init>", "(Ljava/lang/String;Ljava/lang/String;Ljava/lang/String;Ljava/lang/String;)V"⟩ : MethodName) prog_9_method_1_code 5 none [] ({ frames := 1, cells := 0, slots := 0, locals := 12 } : Room) #[(.ref a), (.ref s1), (.ref s2), (.ref s3), (.ref s4)] n0 bk h0 (fun _ => bk) (fun v h => v = none ∧ OKp (fun x => x ≠ a) h0 h ∧ Exa Z h a "com/example/rules_for_records/rulesforrecords/messageinterpolation/BundleLookup$Candidate" ∧ Fld Z h a "com/example/rules_for_records/rulesforrecords/messageinterpolation/BundleLookup$Candidate" "language" "Ljava/lang/String;" (.ref s1) ∧ Fld Z h a "com/example/rules_for_records/rulesforrecords/messageinterpolation/BundleLookup$Candidate" "script" "Ljava/lang/String;" (.ref s2) ∧ Fld Z h a "com/example/rules_for_records/rulesforrecords/messageinterpolation/BundleLookup$Candidate" "region" "Ljava/lang/String;" (.ref s3) ∧ Fld Z h a "com/example/rules_for_records/rulesforrecords/messageinterpolation/BundleLookup$Candidate" "variant" "Ljava/lang/String;" (.ref s4)) := by
  refine Met.intro (plainFor_of_name pn_3) (fun m => ef_6 m a s1 s2 s3 s4) hz0 hEL ?_
  intro p e s m below meth c C
  refine C.aloadN 1 d5_0 rfl rfl ?_
  refine C.objInit (W := 0) 4 d5_1 (hw _ (List.mem_of_getElem? (i := 22) rfl)) (hw _ (List.mem_of_getElem? (i := 23) rfl)) (hw _ (List.mem_of_getElem? (i := 24) rfl)) rfl (by decide) (Nat.le_of_eq rfl) (by decide) ?_
  refine C.aloadN 5 d5_4 rfl rfl ?_
  refine C.aloadN 6 d5_5 rfl rfl ?_
  refine C.putf (ty := (.object "java/lang/String")) 9 d5_6 (hw _ (List.mem_of_getElem? (i := 25) rfl)) Via.refl F1 X (Or.inr ⟨(hw _ (List.mem_of_getElem? (i := 26) rfl)), rfl, rfl⟩) (hw _ (List.mem_of_getElem? (i := 6) rfl)) (by decide) rfl rfl (by omega) (Or.inr (Or.inl ⟨_, X, by decide, by decide⟩)) ?_
  intro h1 W1
  have sz_h1 : h0.size ≤ h1.size := (Nat.le_of_eq W1.size.symm)
  replace F2 := F2.other W1 (Or.inr (slot_ne (t := (.object "java/lang/String")) (t' := (.object "java/lang/String")) (Or.inr (hw _ (List.mem_of_getElem? (i := 28) rfl))) (Or.inr (hw _ (List.mem_of_getElem? (i := 26) rfl))) (by decide) (by decide) (by decide)))
  replace F3 := F3.other W1 (Or.inr (slot_ne (t := (.object "java/lang/String")) (t' := (.object "java/lang/String")) (Or.inr (hw _ (List.mem_of_getElem? (i := 30) rfl))) (Or.inr (hw _ (List.mem_of_getElem? (i := 26) rfl))) (by decide) (by decide) (by decide)))
  replace F4 := F4.other W1 (Or.inr (slot_ne (t := (.object "java/lang/String")) (t' := (.object "java/lang/String")) (Or.inr (hw _ (List.mem_of_getElem? (i := 32) rfl))) (Or.inr (hw _ (List.mem_of_getElem? (i := 26) rfl))) (by decide) (by decide) (by decide)))
  replace F1 := F1.same W1
  replace X := X.wr W1
  refine C.aloadN 10 d5_9 rfl rfl ?_
  refine C.aloadN 11 d5_10 rfl rfl ?_
  refine C.putf (ty := (.object "java/lang/String")) 14 d5_11 (hw _ (List.mem_of_getElem? (i := 27) rfl)) Via.refl F2 X (Or.inr ⟨(hw _ (List.mem_of_getElem? (i := 28) rfl)), rfl, rfl⟩) (hw _ (List.mem_of_getElem? (i := 6) rfl)) (by decide) rfl rfl (by omega) (Or.inr (Or.inl ⟨_, X, by decide, by decide⟩)) ?_
  intro h2 W2
  have sz_h2 : h1.size ≤ h2.size := (Nat.le_of_eq W2.size.symm)
  replace F1 := F1.other W2 (Or.inr (slot_ne (t := (.object "java/lang/String")) (t' := (.object "java/lang/String")) (Or.inr (hw _ (List.mem_of_getElem? (i := 26) rfl))) (Or.inr (hw _ (List.mem_of_getElem? (i := 28) rfl))) (by decide) (by decide) (by decide)))
  replace F3 := F3.other W2 (Or.inr (slot_ne (t := (.object "java/lang/String")) (t' := (.object "java/lang/String")) (Or.inr (hw _ (List.mem_of_getElem? (i := 30) rfl))) (Or.inr (hw _ (List.mem_of_getElem? (i := 28) rfl))) (by decide) (by decide) (by decide)))
  replace F4 := F4.other W2 (Or.inr (slot_ne (t := (.object "java/lang/String")) (t' := (.object "java/lang/String")) (Or.inr (hw _ (List.mem_of_getElem? (i := 32) rfl))) (Or.inr (hw _ (List.mem_of_getElem? (i := 28) rfl))) (by decide) (by decide) (by decide)))
  replace F2 := F2.same W2
  replace X := X.wr W2
  refine C.aloadN 15 d5_14 rfl rfl ?_
  refine C.aloadN 16 d5_15 rfl rfl ?_
  refine C.putf (ty := (.object "java/lang/String")) 19 d5_16 (hw _ (List.mem_of_getElem? (i := 29) rfl)) Via.refl F3 X (Or.inr ⟨(hw _ (List.mem_of_getElem? (i := 30) rfl)), rfl, rfl⟩) (hw _ (List.mem_of_getElem? (i := 6) rfl)) (by decide) rfl rfl (by omega) (Or.inr (Or.inl ⟨_, X, by decide, by decide⟩)) ?_
  intro h3 W3
  have sz_h3 : h2.size ≤ h3.size := (Nat.le_of_eq W3.size.symm)
  replace F1 := F1.other W3 (Or.inr (slot_ne (t := (.object "java/lang/String")) (t' := (.object "java/lang/String")) (Or.inr (hw _ (List.mem_of_getElem? (i := 26) rfl))) (Or.inr (hw _ (List.mem_of_getElem? (i := 30) rfl))) (by decide) (by decide) (by decide)))
  replace F2 := F2.other W3 (Or.inr (slot_ne (t := (.object "java/lang/String")) (t' := (.object "java/lang/String")) (Or.inr (hw _ (List.mem_of_getElem? (i := 28) rfl))) (Or.inr (hw _ (List.mem_of_getElem? (i := 30) rfl))) (by decide) (by decide) (by decide)))
  replace F4 := F4.other W3 (Or.inr (slot_ne (t := (.object "java/lang/String")) (t' := (.object "java/lang/String")) (Or.inr (hw _ (List.mem_of_getElem? (i := 32) rfl))) (Or.inr (hw _ (List.mem_of_getElem? (i := 30) rfl))) (by decide) (by decide) (by decide)))
  replace F3 := F3.same W3
  replace X := X.wr W3
  refine C.aloadN 20 d5_19 rfl rfl ?_
  refine C.aload 22 d5_20 rfl rfl ?_
  refine C.putf (ty := (.object "java/lang/String")) 25 d5_22 (hw _ (List.mem_of_getElem? (i := 31) rfl)) Via.refl F4 X (Or.inr ⟨(hw _ (List.mem_of_getElem? (i := 32) rfl)), rfl, rfl⟩) (hw _ (List.mem_of_getElem? (i := 6) rfl)) (by decide) rfl rfl (by omega) (Or.inr (Or.inl ⟨_, X, by decide, by decide⟩)) ?_
  intro h4 W4
  have sz_h4 : h3.size ≤ h4.size := (Nat.le_of_eq W4.size.symm)
  replace F1 := F1.other W4 (Or.inr (slot_ne (t := (.object "java/lang/String")) (t' := (.object "java/lang/String")) (Or.inr (hw _ (List.mem_of_getElem? (i := 26) rfl))) (Or.inr (hw _ (List.mem_of_getElem? (i := 32) rfl))) (by decide) (by decide) (by decide)))
  replace F2 := F2.other W4 (Or.inr (slot_ne (t := (.object "java/lang/String")) (t' := (.object "java/lang/String")) (Or.inr (hw _ (List.mem_of_getElem? (i := 28) rfl))) (Or.inr (hw _ (List.mem_of_getElem? (i := 32) rfl))) (by decide) (by decide) (by decide)))
  replace F3 := F3.other W4 (Or.inr (slot_ne (t := (.object "java/lang/String")) (t' := (.object "java/lang/String")) (Or.inr (hw _ (List.mem_of_getElem? (i := 30) rfl))) (Or.inr (hw _ (List.mem_of_getElem? (i := 32) rfl))) (by decide) (by decide) (by decide)))
  replace F4 := F4.same W4
  replace X := X.wr W4
  refine C.retV rfl d5_25 (by decide) (by decide) (Or.inl (Nat.le_refl _)) ?_
  exact ⟨rfl, (((OKp.ofWr W1).trans (OKp.ofWr W2)).trans (OKp.ofWr W3)).trans (OKp.ofWr W4), X, F1, F2, F3, F4⟩
/-- a Candidate with these four texts; its cells lie below b -/
def Cand (Z : State) (h : Heap) (b : Nat) (a : Nat) (c1 c2 c3 c4 : List Int32) : Prop := ∃ s1 s2 s3 s4, a < b ∧ Exa Z h a "com/example/rules_for_records/rulesforrecords/messageinterpolation/BundleLookup$Candidate" ∧ Fld Z h a "com/example/rules_for_records/rulesforrecords/messageinterpolation/BundleLookup$Candidate" "language" "Ljava/lang/String;" (.ref s1) ∧ Fld Z h a "com/example/rules_for_records/rulesforrecords/messageinterpolation/BundleLookup$Candidate" "script" "Ljava/lang/String;" (.ref s2) ∧ Fld Z h a "com/example/rules_for_records/rulesforrecords/messageinterpolation/BundleLookup$Candidate" "region" "Ljava/lang/String;" (.ref s3) ∧ Fld Z h a "com/example/rules_for_records/rulesforrecords/messageinterpolation/BundleLookup$Candidate" "variant" "Ljava/lang/String;" (.ref s4) ∧ Str Z h b s1 c1 ∧ Str Z h b s2 c2 ∧ Str Z h b s3 c3 ∧ Str Z h b s4 c4
theorem Cand.kp {Z : State} {h h' : Heap} {a : Nat} {b : Nat} {c1 c2 c3 c4 : List Int32} {P : Nat → Prop} (F : Cand Z h b a c1 c2 c3 c4) (K : OKp P h h') (q : ∀ x, x < b → P x) : Cand Z h' b a c1 c2 c3 c4 := by
  obtain ⟨s1, s2, s3, s4, f0, f1, f2, f3, f4, f5, f6, f7, f8, f9⟩ := F
  exact ⟨s1, s2, s3, s4, f0, own_exa K f1 (q _ f0), own_fld K f2 (q _ f0), own_fld K f3 (q _ f0), own_fld K f4 (q _ f0), own_fld K f5 (q _ f0), f6.kp K q, f7.kp K q, f8.kp K q, f9.kp K q⟩
theorem Cand.ext {Z : State} {h h' : Heap} {a : Nat} {b : Nat} {c1 c2 c3 c4 : List Int32} (F : Cand Z h b a c1 c2 c3 c4) (E : Ext h h') : Cand Z h' b a c1 c2 c3 c4 := F.kp (P := fun _ => True) (OKp.ofExt E) fun _ _ => trivial
theorem Cand.lt {Z : State} {h : Heap} {a : Nat} {b : Nat} {c1 c2 c3 c4 : List Int32} (F : Cand Z h b a c1 c2 c3 c4) : a < b := by obtain ⟨s1, s2, s3, s4, f0, r⟩ := F; exact f0
theorem Cand.exa {Z : State} {h : Heap} {a : Nat} {b : Nat} {c1 c2 c3 c4 : List Int32} (F : Cand Z h b a c1 c2 c3 c4) : Exa Z h a "com/example/rules_for_records/rulesforrecords/messageinterpolation/BundleLookup$Candidate" := by obtain ⟨s1, s2, s3, s4, f0, f1, r⟩ := F; exact f1
theorem pd__II_rLjava_lang_String : parseMethodDescriptor "(II)Ljava/lang/String;" = some ⟨[.int, .int], some (.object "java/lang/String")⟩ := by decide +kernel
theorem pd__Ljava_lang_StringLjava_lang_StringLjava_lang_StringLjava_lang_String_rV : parseMethodDescriptor "(Ljava/lang/String;Ljava/lang/String;Ljava/lang/String;Ljava/lang/String;)V" = some ⟨[(.object "java/lang/String"), (.object "java/lang/String"), (.object "java/lang/String"), (.object "java/lang/String")], none⟩ := by decide +kernel
theorem d6_0 : decode method_3_code 0 = .ok (.new 15, 3) := by decide +kernel
theorem d6_3 : decode method_3_code 3 = .ok (.dup, 1) := by decide +kernel
theorem d6_4 : decode method_3_code 4 = .ok (.iload_n 0, 1) := by decide +kernel
theorem d6_5 : decode method_3_code 5 = .ok (.iconst 0, 1) := by decide +kernel
theorem d6_6 : decode method_3_code 6 = .ok (.invokestatic 17, 3) := by decide +kernel
theorem d6_9 : decode method_3_code 9 = .ok (.iload_n 0, 1) := by decide +kernel
theorem d6_10 : decode method_3_code 10 = .ok (.iconst 1, 1) := by decide +kernel
theorem d6_11 : decode method_3_code 11 = .ok (.invokestatic 17, 3) := by decide +kernel
theorem d6_14 : decode method_3_code 14 = .ok (.iload_n 0, 1) := by decide +kernel
theorem d6_15 : decode method_3_code 15 = .ok (.iconst 2, 1) := by decide +kernel
theorem d6_16 : decode method_3_code 16 = .ok (.invokestatic 17, 3) := by decide +kernel
theorem d6_19 : decode method_3_code 19 = .ok (.iload_n 0, 1) := by decide +kernel
theorem d6_20 : decode method_3_code 20 = .ok (.iconst 3, 1) := by decide +kernel
theorem d6_21 : decode method_3_code 21 = .ok (.invokestatic 17, 3) := by decide +kernel
theorem d6_24 : decode method_3_code 24 = .ok (.invokespecial 23, 3) := by decide +kernel
theorem d6_27 : decode method_3_code 27 = .ok (.areturn, 1) := by decide +kernel
theorem ef_7 (m : MethodId) (x0 : Int32) : entryFrame m #[(.int x0)] 1 = mkF m 0 #[.val (.int x0)] [] := by first | (simp [entryFrame, mkF, argsToLocals, Value.category]; done) | rfl
set_option maxRecDepth 65536 in
set_option maxHeartbeats 40000000 in
theorem met_make (l : Launch) (Z : State) (a0 : Array Value) (hw : ∀ d ∈ tables_1, d.before a0 Z = true) (EL : List (String × Nat)) (hEL : EW Z a0 EL) (n0 bk : Nat) (h0 : Heap) (hz0 : Z.heap.size ≤ n0) (hn0 : n0 ≤ h0.size) (x : Int32) (z0 : Int32) (SC : Sta Z Z.heap "java/lang/String" "COMPACT_STRINGS" "Z" (.int z0)) (hzc : ¬ z0 = 0) (wS : ∀ a ∈ Bundle.stringAtoms, a.before a0 Z = true) (hmem : ("com/example/rules_for_records/rulesforrecords/messageinterpolation/CandidateEqualsPinLaw", 7) ∈ EL) : Met l Z EL (⟨"com/example/rules_for_records/rulesforrecords/messageinterpolation/CandidateEqualsPinLaw", "make", "(I)Lcom/example/rules_for_records/rulesforrecords/messageinterpolation/BundleLookup$Candidate;"⟩ : MethodName) method_3_code 1 (some (.object "com/example/rules_for_records/rulesforrecords/messageinterpolation/BundleLookup$Candidate")) [] ({ frames := 4, cells := 9, slots := 24, locals := 58 } : Room) #[(.int x)] n0 bk h0 (fun h => h.size) (fun v h => ∃ a, v = some (.ref a) ∧ Cand Z h h.size a (own_part x 0) (own_part x 1) (own_part x 2) (own_part x 3)) := by
  refine Met.intro (plainFor_of_name pn_2) (fun m => ef_7 m x) hz0 hEL ?_
  intro p e s m below meth c C
  refine C.newo 3 d6_0 (hw _ (List.mem_of_getElem? (i := 5) rfl)) (hw _ (List.mem_of_getElem? (i := 6) rfl)) (hw _ (List.mem_of_getElem? (i := 7) rfl)) (by decide) (by decide) ?_
  intro a hn g_a En X_a Dn
  have lt_a : a < hn.size := X_a.lt
  have sz_hn : h0.size ≤ hn.size := En.1
  have F1 : Fld Z hn a "com/example/rules_for_records/rulesforrecords/messageinterpolation/BundleLookup$Candidate" "language" "Ljava/lang/String;" .null := Dn (Or.inr (hw _ (List.mem_of_getElem? (i := 26) rfl))) (ty := (.object "java/lang/String")) (by decide)
  have F2 : Fld Z hn a "com/example/rules_for_records/rulesforrecords/messageinterpolation/BundleLookup$Candidate" "script" "Ljava/lang/String;" .null := Dn (Or.inr (hw _ (List.mem_of_getElem? (i := 28) rfl))) (ty := (.object "java/lang/String")) (by decide)
  have F3 : Fld Z hn a "com/example/rules_for_records/rulesforrecords/messageinterpolation/BundleLookup$Candidate" "region" "Ljava/lang/String;" .null := Dn (Or.inr (hw _ (List.mem_of_getElem? (i := 30) rfl))) (ty := (.object "java/lang/String")) (by decide)
  have F4 : Fld Z hn a "com/example/rules_for_records/rulesforrecords/messageinterpolation/BundleLookup$Candidate" "variant" "Ljava/lang/String;" .null := Dn (Or.inr (hw _ (List.mem_of_getElem? (i := 32) rfl))) (ty := (.object "java/lang/String")) (by decide)
  refine C.dup 4 d6_3 rfl ?_
  refine C.iloadN 5 d6_4 rfl ?_
  refine C.iconst 6 (0 : Int32) d6_5 (by decide) ?_
  refine C.callS (b := hn.size) 9 [(.int x), (.int (0 : Int32))] [(.ref a), (.ref a)] d6_6 (met_part l Z a0 hw EL hEL hn.size bk hn (by omega) (by omega) x (0 : Int32) z0 SC hzc wS hmem) (by omega) (Or.inl (Nat.le_refl _)) (hw _ (List.mem_of_getElem? (i := 8) rfl)) (hw _ (List.mem_of_getElem? (i := 9) rfl)) (hw _ (List.mem_of_getElem? (i := 3) rfl)) (hw _ (List.mem_of_getElem? (i := 10) rfl)) (by decide) rfl (lenOf pd__II_rLjava_lang_String rfl) (by decide) (W := 2) (Nat.le_of_eq rfl) (by decide) (by decide) (by decide) rfl ?_
  rintro _ hp1 Kp1 ⟨s1, rfl, S1⟩
  refine Go.rebk hp1.size rfl ?_
  have sz_hp1 : hn.size ≤ hp1.size := Kp1.1
  replace X_a := own_exa Kp1 X_a (by first | omega | (dsimp only; omega))
  replace F1 := own_fld Kp1 F1 (by first | omega | (dsimp only; omega))
  replace F2 := own_fld Kp1 F2 (by first | omega | (dsimp only; omega))
  replace F3 := own_fld Kp1 F3 (by first | omega | (dsimp only; omega))
  replace F4 := own_fld Kp1 F4 (by first | omega | (dsimp only; omega))
  refine C.iloadN 10 d6_9 rfl ?_
  refine C.iconst 11 (1 : Int32) d6_10 (by decide) ?_
  refine C.callS (b := hp1.size) 14 [(.int x), (.int (1 : Int32))] [(.ref s1), (.ref a), (.ref a)] d6_11 (met_part l Z a0 hw EL hEL hp1.size hp1.size hp1 (by omega) (by omega) x (1 : Int32) z0 SC hzc wS hmem) (by omega) (Or.inr (Nat.le_refl _)) (hw _ (List.mem_of_getElem? (i := 8) rfl)) (hw _ (List.mem_of_getElem? (i := 9) rfl)) (hw _ (List.mem_of_getElem? (i := 3) rfl)) (hw _ (List.mem_of_getElem? (i := 10) rfl)) (by decide) rfl (lenOf pd__II_rLjava_lang_String rfl) (by decide) (W := 3) (Nat.le_of_eq rfl) (by decide) (by decide) (by decide) rfl ?_
  rintro _ hp2 Kp2 ⟨s2, rfl, S2⟩
  refine Go.rebk hp2.size rfl ?_
  have sz_hp2 : hp1.size ≤ hp2.size := Kp2.1
  replace X_a := own_exa Kp2 X_a (by first | omega | (dsimp only; omega))
  replace F1 := own_fld Kp2 F1 (by first | omega | (dsimp only; omega))
  replace F2 := own_fld Kp2 F2 (by first | omega | (dsimp only; omega))
  replace F3 := own_fld Kp2 F3 (by first | omega | (dsimp only; omega))
  replace F4 := own_fld Kp2 F4 (by first | omega | (dsimp only; omega))
  replace S1 := S1.kp Kp2 (fun x q => by first | omega | (dsimp only; omega))
  refine C.iloadN 15 d6_14 rfl ?_
  refine C.iconst 16 (2 : Int32) d6_15 (by decide) ?_
  refine C.callS (b := hp2.size) 19 [(.int x), (.int (2 : Int32))] [(.ref s2), (.ref s1), (.ref a), (.ref a)] d6_16 (met_part l Z a0 hw EL hEL hp2.size hp2.size hp2 (by omega) (by omega) x (2 : Int32) z0 SC hzc wS hmem) (by omega) (Or.inr (Nat.le_refl _)) (hw _ (List.mem_of_getElem? (i := 8) rfl)) (hw _ (List.mem_of_getElem? (i := 9) rfl)) (hw _ (List.mem_of_getElem? (i := 3) rfl)) (hw _ (List.mem_of_getElem? (i := 10) rfl)) (by decide) rfl (lenOf pd__II_rLjava_lang_String rfl) (by decide) (W := 4) (Nat.le_of_eq rfl) (by decide) (by decide) (by decide) rfl ?_
  rintro _ hp3 Kp3 ⟨s3, rfl, S3⟩
  refine Go.rebk hp3.size rfl ?_
  have sz_hp3 : hp2.size ≤ hp3.size := Kp3.1
  replace X_a := own_exa Kp3 X_a (by first | omega | (dsimp only; omega))
  replace F1 := own_fld Kp3 F1 (by first | omega | (dsimp only; omega))
  replace F2 := own_fld Kp3 F2 (by first | omega | (dsimp only; omega))
  replace F3 := own_fld Kp3 F3 (by first | omega | (dsimp only; omega))
  replace F4 := own_fld Kp3 F4 (by first | omega | (dsimp only; omega))
  replace S1 := S1.kp Kp3 (fun x q => by first | omega | (dsimp only; omega))
  replace S2 := S2.kp Kp3 (fun x q => by first | omega | (dsimp only; omega))
  refine C.iloadN 20 d6_19 rfl ?_
  refine C.iconst 21 (3 : Int32) d6_20 (by decide) ?_
  refine C.callS (b := hp3.size) 24 [(.int x), (.int (3 : Int32))] [(.ref s3), (.ref s2), (.ref s1), (.ref a), (.ref a)] d6_21 (met_part l Z a0 hw EL hEL hp3.size hp3.size hp3 (by omega) (by omega) x (3 : Int32) z0 SC hzc wS hmem) (by omega) (Or.inr (Nat.le_refl _)) (hw _ (List.mem_of_getElem? (i := 8) rfl)) (hw _ (List.mem_of_getElem? (i := 9) rfl)) (hw _ (List.mem_of_getElem? (i := 3) rfl)) (hw _ (List.mem_of_getElem? (i := 10) rfl)) (by decide) rfl (lenOf pd__II_rLjava_lang_String rfl) (by decide) (W := 5) (Nat.le_of_eq rfl) (by decide) (by decide) (by decide) rfl ?_
  rintro _ hp4 Kp4 ⟨s4, rfl, S4⟩
  refine Go.rebk hp4.size rfl ?_
  have sz_hp4 : hp3.size ≤ hp4.size := Kp4.1
  replace X_a := own_exa Kp4 X_a (by first | omega | (dsimp only; omega))
  replace F1 := own_fld Kp4 F1 (by first | omega | (dsimp only; omega))
  replace F2 := own_fld Kp4 F2 (by first | omega | (dsimp only; omega))
  replace F3 := own_fld Kp4 F3 (by first | omega | (dsimp only; omega))
  replace F4 := own_fld Kp4 F4 (by first | omega | (dsimp only; omega))
  replace S1 := S1.kp Kp4 (fun x q => by first | omega | (dsimp only; omega))
  replace S2 := S2.kp Kp4 (fun x q => by first | omega | (dsimp only; omega))
  replace S3 := S3.kp Kp4 (fun x q => by first | omega | (dsimp only; omega))
  refine C.callI (b := a) 27 [(.ref s1), (.ref s2), (.ref s3), (.ref s4)] [(.ref a)] d6_24 (met_ci l Z a0 hw EL hEL a hp4.size hp4 (by omega) (by omega) a s1 s2 s3 s4 X_a F1 F2 F3 F4 (by omega)) rfl (by omega) (Or.inr (Nat.le_refl _)) (hw _ (List.mem_of_getElem? (i := 19) rfl)) (hw _ (List.mem_of_getElem? (i := 20) rfl)) (hw _ (List.mem_of_getElem? (i := 7) rfl)) (hw _ (List.mem_of_getElem? (i := 21) rfl)) (by decide) rfl (lenOf pd__Ljava_lang_StringLjava_lang_StringLjava_lang_StringLjava_lang_String_rV rfl) (by decide) (W := 1) (Nat.le_of_eq rfl) (by decide) (by decide) (by decide) rfl ?_
  rintro _ hq Kq ⟨rfl, Kq, X2, G1, G2, G3, G4⟩
  have sz_hq : hp4.size ≤ hq.size := Kq.1
  replace S1 := (S1.obj Kq X_a (by decide) (hw _ (List.mem_of_getElem? (i := 6) rfl))).mono (show _ ≤ hq.size by omega)
  replace S2 := (S2.obj Kq X_a (by decide) (hw _ (List.mem_of_getElem? (i := 6) rfl))).mono (show _ ≤ hq.size by omega)
  replace S3 := (S3.obj Kq X_a (by decide) (hw _ (List.mem_of_getElem? (i := 6) rfl))).mono (show _ ≤ hq.size by omega)
  replace S4 := (S4.obj Kq X_a (by decide) (hw _ (List.mem_of_getElem? (i := 6) rfl))).mono (show _ ≤ hq.size by omega)
  refine C.retA rfl rfl d6_27 rfl (by decide) (by decide) (Or.inr (Nat.le_refl _)) ?_
  exact ⟨a, rfl, s1, s2, s3, s4, X2.lt, X2, G1, G2, G3, G4, S1, S2, S3, S4⟩
theorem d7_0 : decode jdk_43_method_13_code 0 = .ok (.aload_n 0, 1) := by decide +kernel
theorem d7_1 : decode jdk_43_method_13_code 1 = .ok (.arraylength, 1) := by decide +kernel
theorem d7_2 : decode jdk_43_method_13_code 2 = .ok (.aload_n 1, 1) := by decide +kernel
theorem d7_3 : decode jdk_43_method_13_code 3 = .ok (.arraylength, 1) := by decide +kernel
theorem d7_4 : decode jdk_43_method_13_code 4 = .ok (.if_icmp .ne 30, 3) := by decide +kernel
theorem d7_7 : decode jdk_43_method_13_code 7 = .ok (.iconst 0, 1) := by decide +kernel
theorem d7_8 : decode jdk_43_method_13_code 8 = .ok (.istore_n 2, 1) := by decide +kernel
theorem d7_9 : decode jdk_43_method_13_code 9 = .ok (.iload_n 2, 1) := by decide +kernel
theorem d7_10 : decode jdk_43_method_13_code 10 = .ok (.aload_n 0, 1) := by decide +kernel
theorem d7_11 : decode jdk_43_method_13_code 11 = .ok (.arraylength, 1) := by decide +kernel
theorem d7_12 : decode jdk_43_method_13_code 12 = .ok (.if_icmp .ge 20, 3) := by decide +kernel
theorem d7_15 : decode jdk_43_method_13_code 15 = .ok (.aload_n 0, 1) := by decide +kernel
theorem d7_16 : decode jdk_43_method_13_code 16 = .ok (.iload_n 2, 1) := by decide +kernel
theorem d7_17 : decode jdk_43_method_13_code 17 = .ok (.baload, 1) := by decide +kernel
theorem d7_18 : decode jdk_43_method_13_code 18 = .ok (.aload_n 1, 1) := by decide +kernel
theorem d7_19 : decode jdk_43_method_13_code 19 = .ok (.iload_n 2, 1) := by decide +kernel
theorem d7_20 : decode jdk_43_method_13_code 20 = .ok (.baload, 1) := by decide +kernel
theorem d7_21 : decode jdk_43_method_13_code 21 = .ok (.if_icmp .eq 5, 3) := by decide +kernel
theorem d7_24 : decode jdk_43_method_13_code 24 = .ok (.iconst 0, 1) := by decide +kernel
theorem d7_25 : decode jdk_43_method_13_code 25 = .ok (.ireturn, 1) := by decide +kernel
theorem d7_26 : decode jdk_43_method_13_code 26 = .ok (.iinc 2 1, 3) := by decide +kernel
theorem d7_29 : decode jdk_43_method_13_code 29 = .ok (.goto (-20), 3) := by decide +kernel
theorem d7_32 : decode jdk_43_method_13_code 32 = .ok (.iconst 1, 1) := by decide +kernel
theorem d7_33 : decode jdk_43_method_13_code 33 = .ok (.ireturn, 1) := by decide +kernel
theorem d7_34 : decode jdk_43_method_13_code 34 = .ok (.iconst 0, 1) := by decide +kernel
theorem d7_35 : decode jdk_43_method_13_code 35 = .ok (.ireturn, 1) := by decide +kernel
theorem ef_8 (m : MethodId) (x0 : Nat) (x1 : Nat) : entryFrame m #[(.ref x0), (.ref x1)] 3 = mkF m 0 #[.val (.ref x0), .val (.ref x1), .unset] [] := by first | (simp [entryFrame, mkF, argsToLocals, Value.category]; done) | rfl
set_option maxRecDepth 65536 in
set_option maxHeartbeats 40000000 in
theorem met_leq (l : Launch) (Z : State) (a0 : Array Value) (hw : ∀ d ∈ tables_1, d.before a0 Z = true) (EL : List (String × Nat)) (hEL : EW Z a0 EL) (n0 bk : Nat) (h0 : Heap) (hz0 : Z.heap.size ≤ n0) (hn0 : n0 ≤ h0.size) (t : Nat) (u : Nat) (xs : List Int32) (ys : List Int32) (At : Ar Z h0 t .byte xs) (Au : Ar Z h0 u .byte ys) : Met l Z EL (⟨"java/lang/StringLatin1", "equals", "([B[B)Z"⟩ : MethodName) jdk_43_method_13_code 3 (some .boolean) [] ({ frames := 0, cells := 0, slots := 0, locals := 0 } : Room) #[(.ref t), (.ref u)] n0 bk h0 (fun _ => bk) (fun v h => ∃ r, v = some (.int r) ∧ OB r (xs = ys) ∧ h0 = h) := by
  refine Met.intro (plainFor_of_name pn_0) (fun m => ef_8 m t u) hz0 hEL ?_
  intro p e s m below meth c C
  have lx := own_arlen At
  have ly := own_arlen Au
  refine C.aloadN 1 d7_0 rfl rfl ?_
  refine C.alen 2 d7_1 At rfl ?_
  refine C.aloadN 3 d7_2 rfl rfl ?_
  refine C.alen 4 d7_3 Au rfl ?_
  rcases Decidable.em ((Int32.ofNat xs.length) = (Int32.ofNat ys.length)) with h4 | h4
  · skip
    refine C.icN 7 d7_4 rfl (XT.ii_ne_f h4) ?_
    have hlen : xs.length = ys.length := (own_ofNat lx ly).1.mp h4
    refine C.iconst 8 (0 : Int32) d7_7 (by decide) ?_
    refine C.istoreN 9 (L' := #[.val (.ref t), .val (.ref u), .val (.int (0 : Int32))]) d7_8 rfl ?_
    have L9 : ∀ (n : Nat), ∀ (i : Nat), (xs.length - i = n) → (i ≤ xs.length) → (∀ j, j < i → xs[j]? = ys[j]?) → Go p l e ({ frames := 0, cells := 0, slots := 0, locals := 0 } : Room) s m #[(.ref t), (.ref u)] below meth c Z "java/lang/StringLatin1" EL n0 (fun _ => bk) (fun v h => ∃ r, v = some (.int r) ∧ OB r (xs = ys) ∧ h0 = h) bk h0 0 0 9 #[.val (.ref t), .val (.ref u), .val (.int (Int32.ofNat i))] [] := by
      intro n
      induction n using Nat.strongRecOn with
      | ind n ih =>
        intro i hn hi he
        refine C.iloadN 10 d7_9 rfl ?_
        refine C.aloadN 11 d7_10 rfl rfl ?_
        refine C.alen 12 d7_11 At rfl ?_
        rcases Decidable.em ((Int32.ofNat i) < (Int32.ofNat xs.length)) with h12 | h12
        · skip
          refine C.icN 15 d7_12 rfl (XT.ii_ge_f h12) ?_
          have hlt : i < xs.length := (own_ofNat (by omega) lx).2.mp h12
          obtain ⟨x1, hx1⟩ : ∃ x, xs[i]? = some x := ⟨_, List.getElem?_eq_getElem hlt⟩
          obtain ⟨y1, hy1⟩ : ∃ y, ys[i]? = some y := ⟨_, List.getElem?_eq_getElem (show i < ys.length by omega)⟩
          refine C.aloadN 16 d7_15 rfl rfl ?_
          refine C.iloadN 17 d7_16 rfl ?_
          refine C.baload 18 i d7_17 At rfl hx1 ?_
          refine C.aloadN 19 d7_18 rfl rfl ?_
          refine C.iloadN 20 d7_19 rfl ?_
          refine C.baload 21 i d7_20 Au rfl hy1 ?_
          rcases Decidable.em (x1 = y1) with h21 | h21
          · skip
            refine C.icY 26 d7_21 (by decide) (by decide) (XT.ii_eq_t h21) ?_
            refine C.iinc 29 (L' := #[.val (.ref t), .val (.ref u), .val (.int ((Int32.ofNat i) + (1 : Int32)))]) (1 : Int32) d7_26 (by decide) rfl rfl ?_
            refine C.goto 9 d7_29 (by decide) (by decide) ?_
            rw [own_succ i]
            exact ih _ (show xs.length - (i + 1) < n by omega) (i + 1) rfl (by omega) (fun j hj => by
              by_cases q : j = i
              · subst q; rw [hx1, hy1, h21]
              · exact he j (by omega))
          · skip
            refine C.icN 24 d7_21 rfl (XT.ii_eq_f h21) ?_
            refine C.iconst 25 (0 : Int32) d7_24 (by decide) ?_
            refine C.retN (t := .boolean) rfl (by simp) d7_25 (by decide) (by decide) (Or.inl (Nat.le_refl _)) ?_
            exact ⟨0, rfl, Or.inr ⟨rfl, fun e => h21 (by rw [e] at hx1; exact Option.some.inj (hx1.symm.trans hy1))⟩, rfl⟩
        · skip
          refine C.icY 32 d7_12 (by decide) (by decide) (XT.ii_ge_t h12) ?_
          have hge : ¬ i < xs.length := fun q => h12 ((own_ofNat (by omega) lx).2.mpr q)
          refine C.iconst 33 (1 : Int32) d7_32 (by decide) ?_
          refine C.retN (t := .boolean) rfl (by simp) d7_33 (by decide) (by decide) (Or.inl (Nat.le_refl _)) ?_
          exact ⟨1, rfl, Or.inl ⟨rfl, List.ext_getElem? fun j => by by_cases q : j < i; exact he j q; rw [List.getElem?_eq_none (by omega), List.getElem?_eq_none (by omega)]⟩, rfl⟩
    exact L9 _ 0 rfl (Nat.zero_le _) (fun j hj => absurd hj (Nat.not_lt_zero _))
  · skip
    refine C.icY 34 d7_4 (by decide) (by decide) (XT.ii_ne_t h4) ?_
    refine C.iconst 35 (0 : Int32) d7_34 (by decide) ?_
    refine C.retN (t := .boolean) rfl (by simp) d7_35 (by decide) (by decide) (Or.inl (Nat.le_refl _)) ?_
    exact ⟨0, rfl, Or.inr ⟨rfl, fun e => h4 (by rw [e])⟩, rfl⟩
theorem pd__ABAB_rZ : parseMethodDescriptor "([B[B)Z" = some ⟨[(.array .byte), (.array .byte)], some .boolean⟩ := by decide +kernel
theorem d8_0 : decode jdk_42_method_66_code 0 = .ok (.aload_n 0, 1) := by decide +kernel
theorem d8_1 : decode jdk_42_method_66_code 1 = .ok (.aload_n 1, 1) := by decide +kernel
theorem d8_2 : decode jdk_42_method_66_code 2 = .ok (.if_acmp .ne 5, 3) := by decide +kernel
theorem d8_5 : decode jdk_42_method_66_code 5 = .ok (.iconst 1, 1) := by decide +kernel
theorem d8_6 : decode jdk_42_method_66_code 6 = .ok (.ireturn, 1) := by decide +kernel
theorem d8_7 : decode jdk_42_method_66_code 7 = .ok (.aload_n 1, 1) := by decide +kernel
theorem d8_8 : decode jdk_42_method_66_code 8 = .ok (.instanceof 10, 3) := by decide +kernel
theorem d8_11 : decode jdk_42_method_66_code 11 = .ok (.ifCond .eq 43, 3) := by decide +kernel
theorem d8_14 : decode jdk_42_method_66_code 14 = .ok (.aload_n 1, 1) := by decide +kernel
theorem d8_15 : decode jdk_42_method_66_code 15 = .ok (.checkcast 10, 3) := by decide +kernel
theorem d8_18 : decode jdk_42_method_66_code 18 = .ok (.astore_n 2, 1) := by decide +kernel
theorem d8_19 : decode jdk_42_method_66_code 19 = .ok (.getstatic 38, 3) := by decide +kernel
theorem d8_22 : decode jdk_42_method_66_code 22 = .ok (.ifCond .eq 14, 3) := by decide +kernel
theorem d8_25 : decode jdk_42_method_66_code 25 = .ok (.aload_n 0, 1) := by decide +kernel
theorem d8_26 : decode jdk_42_method_66_code 26 = .ok (.getfield 15, 3) := by decide +kernel
theorem d8_29 : decode jdk_42_method_66_code 29 = .ok (.aload_n 2, 1) := by decide +kernel
theorem d8_30 : decode jdk_42_method_66_code 30 = .ok (.getfield 15, 3) := by decide +kernel
theorem d8_33 : decode jdk_42_method_66_code 33 = .ok (.if_icmp .ne 21, 3) := by decide +kernel
theorem d8_36 : decode jdk_42_method_66_code 36 = .ok (.aload_n 0, 1) := by decide +kernel
theorem d8_37 : decode jdk_42_method_66_code 37 = .ok (.getfield 9, 3) := by decide +kernel
theorem d8_40 : decode jdk_42_method_66_code 40 = .ok (.aload_n 2, 1) := by decide +kernel
theorem d8_41 : decode jdk_42_method_66_code 41 = .ok (.getfield 9, 3) := by decide +kernel
theorem d8_44 : decode jdk_42_method_66_code 44 = .ok (.invokestatic 541, 3) := by decide +kernel
theorem d8_47 : decode jdk_42_method_66_code 47 = .ok (.ifCond .eq 7, 3) := by decide +kernel
theorem d8_50 : decode jdk_42_method_66_code 50 = .ok (.iconst 1, 1) := by decide +kernel
theorem d8_51 : decode jdk_42_method_66_code 51 = .ok (.goto 4, 3) := by decide +kernel
theorem d8_54 : decode jdk_42_method_66_code 54 = .ok (.iconst 0, 1) := by decide +kernel
theorem d8_55 : decode jdk_42_method_66_code 55 = .ok (.ireturn, 1) := by decide +kernel
theorem ef_9 (m : MethodId) (x0 : Nat) (x1 : Nat) : entryFrame m #[(.ref x0), (.ref x1)] 3 = mkF m 0 #[.val (.ref x0), .val (.ref x1), .unset] [] := by first | (simp [entryFrame, mkF, argsToLocals, Value.category]; done) | rfl
set_option maxRecDepth 65536 in
set_option maxHeartbeats 40000000 in
theorem met_seq (l : Launch) (Z : State) (a0 : Array Value) (hw : ∀ d ∈ tables_1, d.before a0 Z = true) (EL : List (String × Nat)) (hEL : EW Z a0 EL) (n0 bk : Nat) (h0 : Heap) (hz0 : Z.heap.size ≤ n0) (hn0 : n0 ≤ h0.size) (a : Nat) (b : Nat) (ba : Nat) (bb : Nat) (cs : List Int32) (ds : List Int32) (z0 : Int32) (Sa : Str Z h0 ba a cs) (Sb : Str Z h0 bb b ds) (SC : Sta Z Z.heap "java/lang/String" "COMPACT_STRINGS" "Z" (.int z0)) (hzc : ¬ z0 = 0) : Met l Z EL (⟨"java/lang/String", "equals", "(Ljava/lang/Object;)Z"⟩ : MethodName) jdk_42_method_66_code 3 (some .boolean) [] ({ frames := 1, cells := 0, slots := 0, locals := 14 } : Room) #[(.ref a), (.ref b)] n0 bk h0 (fun _ => bk) (fun v h => ∃ r, v = some (.int r) ∧ OB r (cs = ds) ∧ h0 = h) := by
  refine Met.intro (plainFor_of_name pn_1) (fun m => ef_9 m a b) hz0 hEL ?_
  intro p e s m below meth c C
  have Sa0 := Sa
  have Sb0 := Sb
  obtain ⟨t, f1, f2, f3, f4, f5, f6, f7⟩ := Sa
  obtain ⟨u, g1, g2, g3, g4, g5, g6, g7⟩ := Sb
  refine C.aloadN 1 d8_0 rfl rfl ?_
  refine C.aloadN 2 d8_1 rfl rfl ?_
  rcases Decidable.em (((.ref a) : Value) = (.ref b)) with h2 | h2
  · skip
    refine C.acN 5 d8_2 rfl rfl rfl (XT.aa_ne_f h2) ?_
    refine C.iconst 6 (1 : Int32) d8_5 (by decide) ?_
    refine C.retN (t := .boolean) rfl (by simp) d8_6 (by decide) (by decide) (Or.inl (Nat.le_refl _)) ?_
    exact ⟨1, rfl, Or.inl ⟨rfl, by cases h2; exact own_strfun Sa0 Sb0⟩, rfl⟩
  · skip
    refine C.acY 7 d8_2 (by decide) (by decide) rfl rfl (XT.aa_ne_t h2) ?_
    refine C.aloadN 8 d8_7 rfl rfl ?_
    refine C.instY 11 d8_8 (hw _ (List.mem_of_getElem? (i := 47) rfl)) (Ins.self g3) ?_
    refine C.ifN 14 d8_11 rfl (XT.i0_eq_f (show ¬ (1 = 0) from (by decide))) ?_
    refine C.aloadN 15 d8_14 rfl rfl ?_
    refine C.cast 18 d8_15 (hw _ (List.mem_of_getElem? (i := 47) rfl)) (Ins.self g3) ?_
    refine C.astoreN 19 (L' := #[.val (.ref a), .val (.ref b), .val (.ref b)]) d8_18 rfl rfl ?_
    refine C.gets 22 d8_19 (hw _ (List.mem_of_getElem? (i := 42) rfl)) SC ?_
    refine C.ifN 25 d8_22 rfl (XT.i0_eq_f (show ¬ (z0 = 0) from hzc)) ?_
    refine C.aloadN 26 d8_25 rfl rfl ?_
    refine C.getf 29 d8_26 (hw _ (List.mem_of_getElem? (i := 57) rfl)) Via.refl f4 ?_
    refine C.aloadN 30 d8_29 rfl rfl ?_
    refine C.getf 33 d8_30 (hw _ (List.mem_of_getElem? (i := 57) rfl)) Via.refl g4 ?_
    refine C.icN 36 d8_33 rfl (XT.ii_ne_f (show 0 = 0 from rfl)) ?_
    refine C.aloadN 37 d8_36 rfl rfl ?_
    refine C.getf 40 d8_37 (hw _ (List.mem_of_getElem? (i := 56) rfl)) Via.refl f5 ?_
    refine C.aloadN 41 d8_40 rfl rfl ?_
    refine C.getf 44 d8_41 (hw _ (List.mem_of_getElem? (i := 56) rfl)) Via.refl g5 ?_
    refine C.callS (b := h0.size) 47 [(.ref t), (.ref u)] [] d8_44 (met_leq l Z a0 hw EL hEL h0.size bk h0 (by omega) (by omega) t u _ _ f6 g6) (by omega) (Or.inl (Nat.le_refl _)) (hw _ (List.mem_of_getElem? (i := 68) rfl)) (hw _ (List.mem_of_getElem? (i := 69) rfl)) (hw _ (List.mem_of_getElem? (i := 45) rfl)) (hw _ (List.mem_of_getElem? (i := 70) rfl)) (by decide) rfl (lenOf pd__ABAB_rZ rfl) (by decide) (W := 0) (Nat.le_of_eq rfl) (by decide) (by decide) (by decide) rfl ?_
    rintro _ h44_8 K44_8 ⟨r, rfl, hr, rfl⟩
    rcases Decidable.em (r = 0) with h47 | h47
    · skip
      refine C.ifY 54 d8_47 (by decide) (by decide) (XT.i0_eq_t h47) ?_
      refine C.iconst 55 (0 : Int32) d8_54 (by decide) ?_
      refine C.retN (t := .boolean) rfl (by simp) d8_55 (by decide) (by decide) (Or.inl (Nat.le_refl _)) ?_
      exact ⟨0, rfl, Or.inr ⟨rfl, fun e => hr.n h47 ((own_mapinj f7 g7).mpr e)⟩, rfl⟩
    · skip
      refine C.ifN 50 d8_47 rfl (XT.i0_eq_f h47) ?_
      refine C.iconst 51 (1 : Int32) d8_50 (by decide) ?_
      refine C.goto 55 d8_51 (by decide) (by decide) ?_
      refine C.retN (t := .boolean) rfl (by simp) d8_55 (by decide) (by decide) (Or.inl (Nat.le_refl _)) ?_
      exact ⟨1, rfl, Or.inl ⟨rfl, (own_mapinj f7 g7).mp (hr.y h47)⟩, rfl⟩
theorem own_noinst {Z : State} {a0 : Array Value} {C O K : String} {kk : Nat} (w : (Cond.superclass C O).before a0 Z = true) (wo : (Cond.noSuperclass O).before a0 Z = true) (wi : (Cond.instantiable K kk).before a0 Z = true) (q1 : C ≠ K) (q2 : O ≠ K) : ∃ c t, Z.vm.findClass C = some c ∧ Z.vm.findClass K = some t ∧ Z.vm.assignable c t = false := by
  obtain ⟨t, kt, g1, g2, g3, g4, -⟩ := Cond.instantiable_spec wi
  obtain ⟨c, h0⟩ := found_sup w
  obtain ⟨pp, k, kp, a1, a2, a3, a4, a5, -, a7⟩ := Cond.superclass_spec h0 w
  obtain ⟨o, ko, b1, b2, b3, -, -⟩ := Cond.noSuperclass_spec wo
  cases a1.symm.trans b1
  have ne := ids_ne h0 g1 q1
  have ne2 := ids_ne b1 g1 q2
  have gi : kt.isInterface = false := by simp only [Bool.or_eq_false_iff] at g4; exact g4.1
  refine ⟨c, t, h0, g1, ?_⟩
  show Z.vm.assignableAux (255 + 1) c t = false
  have sub : ∀ fuel, Z.vm.isSubclassAux fuel c t = false := fun fuel => by
    cases fuel with
    | zero => rfl
    | succ f =>
      cases f with
      | zero => simp [Vm.isSubclassAux, ne, a2, a4]
      | succ f => simp [Vm.isSubclassAux, ne, a2, a4, ne2, b2, b3]
  simp [Vm.assignableAux, ne, a2, g2, a5, g3, gi, Vm.isSubclass, sub]
theorem d9_0 : decode prog_9_method_5_code 0 = .ok (.aload_n 1, 1) := by decide +kernel
theorem d9_1 : decode prog_9_method_5_code 1 = .ok (.instanceof 8, 3) := by decide +kernel
theorem d9_4 : decode prog_9_method_5_code 4 = .ok (.ifCond .eq 68, 3) := by decide +kernel
theorem d9_72 : decode prog_9_method_5_code 72 = .ok (.iconst 0, 1) := by decide +kernel
theorem d9_73 : decode prog_9_method_5_code 73 = .ok (.ireturn, 1) := by decide +kernel
theorem ef_10 (m : MethodId) (x0 : Nat) : entryFrame m #[(.ref x0), .null] 3 = mkF m 0 #[.val (.ref x0), .val .null, .unset] [] := by first | (simp [entryFrame, mkF, argsToLocals, Value.category]; done) | rfl
set_option maxRecDepth 65536 in
set_option maxHeartbeats 40000000 in
theorem met_eqn (l : Launch) (Z : State) (a0 : Array Value) (hw : ∀ d ∈ tables_1, d.before a0 Z = true) (EL : List (String × Nat)) (hEL : EW Z a0 EL) (n0 bk : Nat) (h0 : Heap) (hz0 : Z.heap.size ≤ n0) (hn0 : n0 ≤ h0.size) (a : Nat) : Met l Z EL (⟨"com/example/rules_for_records/rulesforrecords/messageinterpolation/BundleLookup$Candidate", "equals", "(Ljava/lang/Object;)Z"⟩ : MethodName) prog_9_method_5_code 3 (some .boolean) [] ({ frames := 0, cells := 0, slots := 0, locals := 0 } : Room) #[(.ref a), .null] n0 bk h0 (fun _ => bk) (fun v h => v = some (.int 0) ∧ h0 = h) := by
  refine Met.intro (plainFor_of_name pn_3) (fun m => ef_10 m a) hz0 hEL ?_
  intro p e s m below meth c C
  refine C.aloadN 1 d9_0 rfl rfl ?_
  refine C.instNull 4 d9_1 ?_
  refine C.ifY 72 d9_4 (by decide) (by decide) (XT.i0_eq_t (show 0 = 0 from rfl)) ?_
  refine C.iconst 73 (0 : Int32) d9_72 (by decide) ?_
  refine C.retN (t := .boolean) rfl (by simp) d9_73 (by decide) (by decide) (Or.inl (Nat.le_refl _)) ?_
  exact ⟨rfl, rfl⟩
theorem ef_11 (m : MethodId) (x0 : Nat) (x1 : Nat) : entryFrame m #[(.ref x0), (.ref x1)] 3 = mkF m 0 #[.val (.ref x0), .val (.ref x1), .unset] [] := by first | (simp [entryFrame, mkF, argsToLocals, Value.category]; done) | rfl
set_option maxRecDepth 65536 in
set_option maxHeartbeats 40000000 in
theorem met_eqs (l : Launch) (Z : State) (a0 : Array Value) (hw : ∀ d ∈ tables_1, d.before a0 Z = true) (EL : List (String × Nat)) (hEL : EW Z a0 EL) (n0 bk : Nat) (h0 : Heap) (hz0 : Z.heap.size ≤ n0) (hn0 : n0 ≤ h0.size) (a : Nat) (b : Nat) (Xb : Exa Z h0 b "java/lang/String") : Met l Z EL (⟨"com/example/rules_for_records/rulesforrecords/messageinterpolation/BundleLookup$Candidate", "equals", "(Ljava/lang/Object;)Z"⟩ : MethodName) prog_9_method_5_code 3 (some .boolean) [] ({ frames := 0, cells := 0, slots := 0, locals := 0 } : Room) #[(.ref a), (.ref b)] n0 bk h0 (fun _ => bk) (fun v h => v = some (.int 0) ∧ h0 = h) := by
  refine Met.intro (plainFor_of_name pn_3) (fun m => ef_11 m a b) hz0 hEL ?_
  intro p e s m below meth c C
  refine C.aloadN 1 d9_0 rfl rfl ?_
  refine C.instN 4 d9_1 (hw _ (List.mem_of_getElem? (i := 58) rfl)) Xb (own_noinst (hw _ (List.mem_of_getElem? (i := 59) rfl)) (hw _ (List.mem_of_getElem? (i := 60) rfl)) (hw _ (List.mem_of_getElem? (i := 6) rfl)) (by decide) (by decide)) ?_
  refine C.ifY 72 d9_4 (by decide) (by decide) (XT.i0_eq_t (show 0 = 0 from rfl)) ?_
  refine C.iconst 73 (0 : Int32) d9_72 (by decide) ?_
  refine C.retN (t := .boolean) rfl (by simp) d9_73 (by decide) (by decide) (Or.inl (Nat.le_refl _)) ?_
  exact ⟨rfl, rfl⟩
theorem pd__Ljava_lang_Object_rZ : parseMethodDescriptor "(Ljava/lang/Object;)Z" = some ⟨[(.object "java/lang/Object")], some .boolean⟩ := by decide +kernel
theorem d9_7 : decode prog_9_method_5_code 7 = .ok (.aload_n 1, 1) := by decide +kernel
theorem d9_8 : decode prog_9_method_5_code 8 = .ok (.checkcast 8, 3) := by decide +kernel
theorem d9_11 : decode prog_9_method_5_code 11 = .ok (.astore_n 2, 1) := by decide +kernel
theorem d9_12 : decode prog_9_method_5_code 12 = .ok (.aload_n 0, 1) := by decide +kernel
theorem d9_13 : decode prog_9_method_5_code 13 = .ok (.getfield 7, 3) := by decide +kernel
theorem d9_16 : decode prog_9_method_5_code 16 = .ok (.aload_n 2, 1) := by decide +kernel
theorem d9_17 : decode prog_9_method_5_code 17 = .ok (.getfield 7, 3) := by decide +kernel
theorem d9_20 : decode prog_9_method_5_code 20 = .ok (.invokevirtual 90, 3) := by decide +kernel
theorem d9_23 : decode prog_9_method_5_code 23 = .ok (.ifCond .eq 49, 3) := by decide +kernel
theorem d9_26 : decode prog_9_method_5_code 26 = .ok (.aload_n 0, 1) := by decide +kernel
theorem d9_27 : decode prog_9_method_5_code 27 = .ok (.getfield 13, 3) := by decide +kernel
theorem d9_30 : decode prog_9_method_5_code 30 = .ok (.aload_n 2, 1) := by decide +kernel
theorem d9_31 : decode prog_9_method_5_code 31 = .ok (.getfield 13, 3) := by decide +kernel
theorem d9_34 : decode prog_9_method_5_code 34 = .ok (.invokevirtual 90, 3) := by decide +kernel
theorem d9_37 : decode prog_9_method_5_code 37 = .ok (.ifCond .eq 35, 3) := by decide +kernel
theorem d9_40 : decode prog_9_method_5_code 40 = .ok (.aload_n 0, 1) := by decide +kernel
theorem d9_41 : decode prog_9_method_5_code 41 = .ok (.getfield 16, 3) := by decide +kernel
theorem d9_44 : decode prog_9_method_5_code 44 = .ok (.aload_n 2, 1) := by decide +kernel
theorem d9_45 : decode prog_9_method_5_code 45 = .ok (.getfield 16, 3) := by decide +kernel
theorem d9_48 : decode prog_9_method_5_code 48 = .ok (.invokevirtual 90, 3) := by decide +kernel
theorem d9_51 : decode prog_9_method_5_code 51 = .ok (.ifCond .eq 21, 3) := by decide +kernel
theorem d9_54 : decode prog_9_method_5_code 54 = .ok (.aload_n 0, 1) := by decide +kernel
theorem d9_55 : decode prog_9_method_5_code 55 = .ok (.getfield 19, 3) := by decide +kernel
theorem d9_58 : decode prog_9_method_5_code 58 = .ok (.aload_n 2, 1) := by decide +kernel
theorem d9_59 : decode prog_9_method_5_code 59 = .ok (.getfield 19, 3) := by decide +kernel
theorem d9_62 : decode prog_9_method_5_code 62 = .ok (.invokevirtual 90, 3) := by decide +kernel
theorem d9_65 : decode prog_9_method_5_code 65 = .ok (.ifCond .eq 7, 3) := by decide +kernel
theorem d9_68 : decode prog_9_method_5_code 68 = .ok (.iconst 1, 1) := by decide +kernel
theorem d9_69 : decode prog_9_method_5_code 69 = .ok (.goto 4, 3) := by decide +kernel
theorem ef_12 (m : MethodId) (x0 : Nat) (x1 : Nat) : entryFrame m #[(.ref x0), (.ref x1)] 3 = mkF m 0 #[.val (.ref x0), .val (.ref x1), .unset] [] := by first | (simp [entryFrame, mkF, argsToLocals, Value.category]; done) | rfl
set_option maxRecDepth 65536 in
set_option maxHeartbeats 40000000 in
theorem met_eqc (l : Launch) (Z : State) (a0 : Array Value) (hw : ∀ d ∈ tables_1, d.before a0 Z = true) (EL : List (String × Nat)) (hEL : EW Z a0 EL) (n0 bk : Nat) (h0 : Heap) (hz0 : Z.heap.size ≤ n0) (hn0 : n0 ≤ h0.size) (a : Nat) (b : Nat) (ba : Nat) (bb : Nat) (c1 : List Int32) (c2 : List Int32) (c3 : List Int32) (c4 : List Int32) (d1 : List Int32) (d2 : List Int32) (d3 : List Int32) (d4 : List Int32) (z0 : Int32) (Ca : Cand Z h0 ba a c1 c2 c3 c4) (Cb : Cand Z h0 bb b d1 d2 d3 d4) (SC : Sta Z Z.heap "java/lang/String" "COMPACT_STRINGS" "Z" (.int z0)) (hzc : ¬ z0 = 0) : Met l Z EL (⟨"com/example/rules_for_records/rulesforrecords/messageinterpolation/BundleLookup$Candidate", "equals", "(Ljava/lang/Object;)Z"⟩ : MethodName) prog_9_method_5_code 3 (some .boolean) [] ({ frames := 2, cells := 0, slots := 0, locals := 28 } : Room) #[(.ref a), (.ref b)] n0 bk h0 (fun _ => bk) (fun v h => ∃ r, v = some (.int r) ∧ OB r (c1 = d1 ∧ c2 = d2 ∧ c3 = d3 ∧ c4 = d4) ∧ h0 = h) := by
  refine Met.intro (plainFor_of_name pn_3) (fun m => ef_12 m a b) hz0 hEL ?_
  intro p e s m below meth c C
  obtain ⟨s1, s2, s3, s4, f0, f1, fa1, fa2, fa3, fa4, S1, S2, S3, S4⟩ := Ca
  obtain ⟨r1, r2, r3, r4, g0, g1, ga1, ga2, ga3, ga4, R1, R2, R3, R4⟩ := Cb
  refine C.aloadN 1 d9_0 rfl rfl ?_
  refine C.instY 4 d9_1 (hw _ (List.mem_of_getElem? (i := 58) rfl)) (Ins.self g1) ?_
  refine C.ifN 7 d9_4 rfl (XT.i0_eq_f (show ¬ (1 = 0) from (by decide))) ?_
  refine C.aloadN 8 d9_7 rfl rfl ?_
  refine C.cast 11 d9_8 (hw _ (List.mem_of_getElem? (i := 58) rfl)) (Ins.self g1) ?_
  refine C.astoreN 12 (L' := #[.val (.ref a), .val (.ref b), .val (.ref b)]) d9_11 rfl rfl ?_
  refine C.aloadN 13 d9_12 rfl rfl ?_
  refine C.getf 16 d9_13 (hw _ (List.mem_of_getElem? (i := 25) rfl)) Via.refl fa1 ?_
  refine C.aloadN 17 d9_16 rfl rfl ?_
  refine C.getf 20 d9_17 (hw _ (List.mem_of_getElem? (i := 25) rfl)) Via.refl ga1 ?_
  refine C.callV (b := h0.size) 23 [(.ref r1)] [] d9_20 (met_seq l Z a0 hw EL hEL h0.size bk h0 (by omega) (by omega) s1 r1 _ _ c1 d1 z0 S1 R1 SC hzc) S1.exa (by omega) (Or.inl (Nat.le_refl _)) (hw _ (List.mem_of_getElem? (i := 63) rfl)) (hw _ (List.mem_of_getElem? (i := 64) rfl)) (hw _ (List.mem_of_getElem? (i := 66) rfl)) (hw _ (List.mem_of_getElem? (i := 65) rfl)) (hw _ (List.mem_of_getElem? (i := 12) rfl)) (hw _ (List.mem_of_getElem? (i := 67) rfl)) (fun hZ => notFace_of_selects (args := #[]) (mvT hZ (hw _ (List.mem_of_getElem? (i := 66) rfl)))) (by decide) rfl (lenOf pd__Ljava_lang_Object_rZ rfl) (by decide) (W := 0) (Nat.le_of_eq rfl) (by decide) (by decide) (by decide) rfl ?_
  rintro _ h20_5 K20_5 ⟨e1, rfl, he1, rfl⟩
  rcases Decidable.em (e1 = 0) with hh1 | hh1
  · skip
    refine C.ifY 72 d9_23 (by decide) (by decide) (XT.i0_eq_t hh1) ?_
    refine C.iconst 73 (0 : Int32) d9_72 (by decide) ?_
    refine C.retN (t := .boolean) rfl (by simp) d9_73 (by decide) (by decide) (Or.inl (Nat.le_refl _)) ?_
    exact ⟨0, rfl, Or.inr ⟨rfl, fun q => he1.n hh1 q.1⟩, rfl⟩
  · skip
    refine C.ifN 26 d9_23 rfl (XT.i0_eq_f hh1) ?_
    refine C.aloadN 27 d9_26 rfl rfl ?_
    refine C.getf 30 d9_27 (hw _ (List.mem_of_getElem? (i := 27) rfl)) Via.refl fa2 ?_
    refine C.aloadN 31 d9_30 rfl rfl ?_
    refine C.getf 34 d9_31 (hw _ (List.mem_of_getElem? (i := 27) rfl)) Via.refl ga2 ?_
    refine C.callV (b := h0.size) 37 [(.ref r2)] [] d9_34 (met_seq l Z a0 hw EL hEL h0.size bk h0 (by omega) (by omega) s2 r2 _ _ c2 d2 z0 S2 R2 SC hzc) S2.exa (by omega) (Or.inl (Nat.le_refl _)) (hw _ (List.mem_of_getElem? (i := 63) rfl)) (hw _ (List.mem_of_getElem? (i := 64) rfl)) (hw _ (List.mem_of_getElem? (i := 66) rfl)) (hw _ (List.mem_of_getElem? (i := 65) rfl)) (hw _ (List.mem_of_getElem? (i := 12) rfl)) (hw _ (List.mem_of_getElem? (i := 67) rfl)) (fun hZ => notFace_of_selects (args := #[]) (mvT hZ (hw _ (List.mem_of_getElem? (i := 66) rfl)))) (by decide) rfl (lenOf pd__Ljava_lang_Object_rZ rfl) (by decide) (W := 0) (Nat.le_of_eq rfl) (by decide) (by decide) (by decide) rfl ?_
    rintro _ h34_8 K34_8 ⟨e2, rfl, he2, rfl⟩
    rcases Decidable.em (e2 = 0) with hh2 | hh2
    · skip
      refine C.ifY 72 d9_37 (by decide) (by decide) (XT.i0_eq_t hh2) ?_
      refine C.iconst 73 (0 : Int32) d9_72 (by decide) ?_
      refine C.retN (t := .boolean) rfl (by simp) d9_73 (by decide) (by decide) (Or.inl (Nat.le_refl _)) ?_
      exact ⟨0, rfl, Or.inr ⟨rfl, fun q => he2.n hh2 q.2.1⟩, rfl⟩
    · skip
      refine C.ifN 40 d9_37 rfl (XT.i0_eq_f hh2) ?_
      refine C.aloadN 41 d9_40 rfl rfl ?_
      refine C.getf 44 d9_41 (hw _ (List.mem_of_getElem? (i := 29) rfl)) Via.refl fa3 ?_
      refine C.aloadN 45 d9_44 rfl rfl ?_
      refine C.getf 48 d9_45 (hw _ (List.mem_of_getElem? (i := 29) rfl)) Via.refl ga3 ?_
      refine C.callV (b := h0.size) 51 [(.ref r3)] [] d9_48 (met_seq l Z a0 hw EL hEL h0.size bk h0 (by omega) (by omega) s3 r3 _ _ c3 d3 z0 S3 R3 SC hzc) S3.exa (by omega) (Or.inl (Nat.le_refl _)) (hw _ (List.mem_of_getElem? (i := 63) rfl)) (hw _ (List.mem_of_getElem? (i := 64) rfl)) (hw _ (List.mem_of_getElem? (i := 66) rfl)) (hw _ (List.mem_of_getElem? (i := 65) rfl)) (hw _ (List.mem_of_getElem? (i := 12) rfl)) (hw _ (List.mem_of_getElem? (i := 67) rfl)) (fun hZ => notFace_of_selects (args := #[]) (mvT hZ (hw _ (List.mem_of_getElem? (i := 66) rfl)))) (by decide) rfl (lenOf pd__Ljava_lang_Object_rZ rfl) (by decide) (W := 0) (Nat.le_of_eq rfl) (by decide) (by decide) (by decide) rfl ?_
      rintro _ h48_11 K48_11 ⟨e3, rfl, he3, rfl⟩
      rcases Decidable.em (e3 = 0) with hh3 | hh3
      · skip
        refine C.ifY 72 d9_51 (by decide) (by decide) (XT.i0_eq_t hh3) ?_
        refine C.iconst 73 (0 : Int32) d9_72 (by decide) ?_
        refine C.retN (t := .boolean) rfl (by simp) d9_73 (by decide) (by decide) (Or.inl (Nat.le_refl _)) ?_
        exact ⟨0, rfl, Or.inr ⟨rfl, fun q => he3.n hh3 q.2.2.1⟩, rfl⟩
      · skip
        refine C.ifN 54 d9_51 rfl (XT.i0_eq_f hh3) ?_
        refine C.aloadN 55 d9_54 rfl rfl ?_
        refine C.getf 58 d9_55 (hw _ (List.mem_of_getElem? (i := 31) rfl)) Via.refl fa4 ?_
        refine C.aloadN 59 d9_58 rfl rfl ?_
        refine C.getf 62 d9_59 (hw _ (List.mem_of_getElem? (i := 31) rfl)) Via.refl ga4 ?_
        refine C.callV (b := h0.size) 65 [(.ref r4)] [] d9_62 (met_seq l Z a0 hw EL hEL h0.size bk h0 (by omega) (by omega) s4 r4 _ _ c4 d4 z0 S4 R4 SC hzc) S4.exa (by omega) (Or.inl (Nat.le_refl _)) (hw _ (List.mem_of_getElem? (i := 63) rfl)) (hw _ (List.mem_of_getElem? (i := 64) rfl)) (hw _ (List.mem_of_getElem? (i := 66) rfl)) (hw _ (List.mem_of_getElem? (i := 65) rfl)) (hw _ (List.mem_of_getElem? (i := 12) rfl)) (hw _ (List.mem_of_getElem? (i := 67) rfl)) (fun hZ => notFace_of_selects (args := #[]) (mvT hZ (hw _ (List.mem_of_getElem? (i := 66) rfl)))) (by decide) rfl (lenOf pd__Ljava_lang_Object_rZ rfl) (by decide) (W := 0) (Nat.le_of_eq rfl) (by decide) (by decide) (by decide) rfl ?_
        rintro _ h62_14 K62_14 ⟨e4, rfl, he4, rfl⟩
        rcases Decidable.em (e4 = 0) with hh4 | hh4
        · skip
          refine C.ifY 72 d9_65 (by decide) (by decide) (XT.i0_eq_t hh4) ?_
          refine C.iconst 73 (0 : Int32) d9_72 (by decide) ?_
          refine C.retN (t := .boolean) rfl (by simp) d9_73 (by decide) (by decide) (Or.inl (Nat.le_refl _)) ?_
          exact ⟨0, rfl, Or.inr ⟨rfl, fun q => he4.n hh4 q.2.2.2⟩, rfl⟩
        · skip
          refine C.ifN 68 d9_65 rfl (XT.i0_eq_f hh4) ?_
          refine C.iconst 69 (1 : Int32) d9_68 (by decide) ?_
          refine C.goto 73 d9_69 (by decide) (by decide) ?_
          refine C.retN (t := .boolean) rfl (by simp) d9_73 (by decide) (by decide) (Or.inl (Nat.le_refl _)) ?_
          exact ⟨1, rfl, Or.inl ⟨rfl, he1.y hh1, he2.y hh2, he3.y hh3, he4.y hh4⟩, rfl⟩
theorem own_part_inj {x y i : Int32} (h : own_part x i = own_part y i) : own_byte x i = own_byte y i := by
  unfold own_part at h
  by_cases p : own_byte x i = 0 <;> by_cases q : own_byte y i = 0 <;> simp [p, q] at h ⊢
  exact h
theorem own_byte0 (x : Int32) : (own_byte x 0).toInt = x.toInt % 256 := by
  have e : own_byte x 0 = x &&& 255 := by
    show (x.toUInt32 >>> ((8 * 0 : Int32) &&& 31).toUInt32).toInt32 &&& 255 = _
    have : (x.toUInt32 >>> ((8 * 0 : Int32) &&& 31).toUInt32).toInt32 = x := by
      have h : ((8 * 0 : Int32) &&& 31).toUInt32 = 0 := by decide
      rw [h]; simp
    rw [this]
  rw [e]; exact c_mask x 255 8 (by decide) (by decide)
theorem own_bytek (x i : Int32) (k : Nat) (h0 : 0 < k) (hk : (8 * i).toBitVec.toNat % 32 = k) : (own_byte x i).toInt = (x.toInt % 4294967296) / (2 ^ k : Nat) % 256 := by
  have e1 := c_mask (XT.ushr x (8 * i)) 255 8 (by decide) (by decide)
  have e2 := c_iushr x (8 * i) k hk h0
  have e3 : (own_byte x i).toInt = (XT.ushr x (8 * i)).toInt % 256 := e1
  rw [e3]
  have e4 : (XT.ushr x (8 * i)).toInt = (x.toInt % 4294967296) / (2 ^ k : Nat) := e2
  rw [e4]
theorem own_parts {x y : Int32} : (own_part x 0 = own_part y 0 ∧ own_part x 1 = own_part y 1 ∧ own_part x 2 = own_part y 2 ∧ own_part x 3 = own_part y 3) ↔ x = y := by
  refine ⟨fun ⟨h0, h1, h2, h3⟩ => ?_, fun e => by rw [e]; exact ⟨rfl, rfl, rfl, rfl⟩⟩
  have b0 := congrArg Int32.toInt (own_part_inj h0)
  have b1 := congrArg Int32.toInt (own_part_inj h1)
  have b2 := congrArg Int32.toInt (own_part_inj h2)
  have b3 := congrArg Int32.toInt (own_part_inj h3)
  rw [own_byte0, own_byte0] at b0
  rw [own_bytek x 1 8 (by decide) (by decide), own_bytek y 1 8 (by decide) (by decide)] at b1
  rw [own_bytek x 2 16 (by decide) (by decide), own_bytek y 2 16 (by decide) (by decide)] at b2
  rw [own_bytek x 3 24 (by decide) (by decide), own_bytek y 3 24 (by decide) (by decide)] at b3
  have r1 := rng32 x
  have r2 := rng32 y
  rw [← Int32.toInt_inj]
  simp only [show (2 : Nat) ^ 8 = 256 from rfl, show (2 : Nat) ^ 16 = 65536 from rfl, show (2 : Nat) ^ 24 = 16777216 from rfl] at b1 b2 b3
  omega
theorem pd__I_rLcom_example_rulesuforurecords_rulesforrecords_messageinterpolation_BundleLookup_SCandidate : parseMethodDescriptor "(I)Lcom/example/rules_for_records/rulesforrecords/messageinterpolation/BundleLookup$Candidate;" = some ⟨[.int], some (.object "com/example/rules_for_records/rulesforrecords/messageinterpolation/BundleLookup$Candidate")⟩ := by decide +kernel
theorem ef_13 (m : MethodId) (x0 : Int32) (x1 : Int32) (x2 : Int32) (x3 : Int32) : entryFrame m #[(.int x0), (.int x1), (.int x2), (.int x3)] maxLocals = mkF m 0 #[.val (.int x0), .val (.int x1), .val (.int x2), .val (.int x3), .unset, .unset, .unset, .unset, .unset, .unset] [] := by first | (simp [entryFrame, mkF, argsToLocals, Value.category, maxLocals]; done) | rfl
set_option maxRecDepth 65536 in
set_option maxHeartbeats 40000000 in
theorem met_law (l : Launch) (Z : State) (a0 : Array Value) (hw : ∀ d ∈ tables_1, d.before a0 Z = true) (EL : List (String × Nat)) (hEL : EW Z a0 EL) (n0 bk : Nat) (h0 : Heap) (hz0 : Z.heap.size ≤ n0) (hn0 : n0 ≤ h0.size) (i0 : Int32) (i1 : Int32) (i2 : Int32) (i3 : Int32) (z0 : Int32) (SC : Sta Z Z.heap "java/lang/String" "COMPACT_STRINGS" "Z" (.int z0)) (hzc : ¬ z0 = 0) (wS : ∀ a ∈ Bundle.stringAtoms, a.before a0 Z = true) (hmem : ("com/example/rules_for_records/rulesforrecords/messageinterpolation/CandidateEqualsPinLaw", 7) ∈ EL) : Met l Z EL x code maxLocals ret tables_1 room_1 #[(.int i0), (.int i1), (.int i2), (.int i3)] n0 bk h0 (fun h => h.size) (fun v h => v = some (.int 1)) := by
  refine Met.intro (plainFor_of_name pn_2) (fun m => ef_13 m i0 i1 i2 i3) hz0 hEL ?_
  intro p e s m below meth c C
  have L57 : ∀ (mm : Int32), Go p l e room_1 s m #[(.int i0), (.int i1), (.int i2), (.int i3)] below meth c Z x.cls EL n0 (fun h => h.size) (fun v h => v = some (.int 1)) bk h0 0 0 57 #[.val (.int i0), .val (.int i1), .val (.int i2), .val (.int i3), .val (.int mm), .unset, .unset, .unset, .unset, .unset] [] := by
    intro mm
    refine C.iloadN 58 at_57 rfl ?_
    refine C.iload 60 at_58 rfl ?_
    refine C.iconst 61 (-1 : Int32) at_60 (by decide) ?_
    refine C.ixor 62 at_61 ?_
    refine C.iand 63 at_62 ?_
    refine C.iloadN 64 at_63 rfl ?_
    refine C.iload 66 at_64 rfl ?_
    refine C.iand 67 at_66 ?_
    refine C.ior 68 at_67 ?_
    generalize hy : ((i0 &&& (mm ^^^ (-1 : Int32))) ||| (i1 &&& mm)) = y
    refine C.istore 70 (L' := #[.val (.int i0), .val (.int i1), .val (.int i2), .val (.int i3), .val (.int mm), .val (.int y), .unset, .unset, .unset, .unset]) at_68 rfl ?_
    refine C.iloadN 71 at_70 rfl ?_
    refine C.callS (b := h0.size) 74 [(.int i0)] [] at_71 (met_make l Z a0 hw EL hEL h0.size bk h0 (by omega) (by omega) i0 z0 SC hzc wS hmem) (by omega) (Or.inl (Nat.le_refl _)) (hw _ (List.mem_of_getElem? (i := 1) rfl)) (hw _ (List.mem_of_getElem? (i := 2) rfl)) (hw _ (List.mem_of_getElem? (i := 3) rfl)) (hw _ (List.mem_of_getElem? (i := 4) rfl)) (by decide) rfl (lenOf pd__I_rLcom_example_rulesuforurecords_rulesforrecords_messageinterpolation_BundleLookup_SCandidate rfl) (by decide) (W := 0) (Nat.le_of_eq rfl) (by decide) (by decide) (by decide) rfl ?_
    rintro _ hA KA ⟨a1, rfl, C1⟩
    refine Go.rebk hA.size rfl ?_
    have sz_hA : h0.size ≤ hA.size := KA.1
    refine C.astore 76 (L' := #[.val (.int i0), .val (.int i1), .val (.int i2), .val (.int i3), .val (.int mm), .val (.int y), .val (.ref a1), .unset, .unset, .unset]) at_74 rfl rfl ?_
    refine C.iload 78 at_76 rfl ?_
    refine C.callS (b := hA.size) 81 [(.int y)] [] at_78 (met_make l Z a0 hw EL hEL hA.size hA.size hA (by omega) (by omega) y z0 SC hzc wS hmem) (by omega) (Or.inr (Nat.le_refl _)) (hw _ (List.mem_of_getElem? (i := 1) rfl)) (hw _ (List.mem_of_getElem? (i := 2) rfl)) (hw _ (List.mem_of_getElem? (i := 3) rfl)) (hw _ (List.mem_of_getElem? (i := 4) rfl)) (by decide) rfl (lenOf pd__I_rLcom_example_rulesuforurecords_rulesforrecords_messageinterpolation_BundleLookup_SCandidate rfl) (by decide) (W := 0) (Nat.le_of_eq rfl) (by decide) (by decide) (by decide) rfl ?_
    rintro _ hB KB ⟨a2, rfl, C2⟩
    refine Go.rebk hB.size rfl ?_
    have sz_hB : hA.size ≤ hB.size := KB.1
    replace C1 := C1.kp KB (fun x q => by first | omega | (dsimp only; omega))
    refine C.astore 83 (L' := #[.val (.int i0), .val (.int i1), .val (.int i2), .val (.int i3), .val (.int mm), .val (.int y), .val (.ref a1), .val (.ref a2), .unset, .unset]) at_81 rfl rfl ?_
    refine C.iloadN 84 at_83 rfl ?_
    refine C.iconst 85 (3 : Int32) at_84 (by decide) ?_
    refine C.iand 86 at_85 ?_
    refine C.istore 88 (L' := #[.val (.int i0), .val (.int i1), .val (.int i2), .val (.int i3), .val (.int mm), .val (.int y), .val (.ref a1), .val (.ref a2), .val (.int (i3 &&& (3 : Int32))), .unset]) at_86 rfl ?_
    refine C.iload 90 at_88 rfl ?_
    refine C.iconst 91 (1 : Int32) at_90 (by decide) ?_
    rcases Decidable.em ((i3 &&& (3 : Int32)) = (1 : Int32)) with h91 | h91
    · skip
      refine C.icN 94 at_91 rfl (XT.ii_ne_f h91) ?_
      refine C.aload 96 at_94 rfl rfl ?_
      refine C.aconstNull 97 at_96 ?_
      refine C.callV (b := hB.size) 100 [.null] [] at_97 (met_eqn l Z a0 hw EL hEL hB.size hB.size hB (by omega) (by omega) a1) C1.exa (by omega) (Or.inr (Nat.le_refl _)) (hw _ (List.mem_of_getElem? (i := 33) rfl)) (hw _ (List.mem_of_getElem? (i := 34) rfl)) (hw _ (List.mem_of_getElem? (i := 36) rfl)) (hw _ (List.mem_of_getElem? (i := 35) rfl)) (hw _ (List.mem_of_getElem? (i := 7) rfl)) (hw _ (List.mem_of_getElem? (i := 37) rfl)) (fun hZ => notFace_of_selects (args := #[]) (mvT hZ (hw _ (List.mem_of_getElem? (i := 36) rfl)))) (by decide) rfl (lenOf pd__Ljava_lang_Object_rZ rfl) (by decide) (W := 0) (Nat.le_of_eq rfl) (by decide) (by decide) (by decide) rfl ?_
      rintro _ h97_3 K97_3 ⟨rfl, rfl⟩
      refine C.ifN 103 at_100 rfl (XT.i0_ne_f (show (0 : Int32) = 0 from rfl)) ?_
      refine C.iconst 104 (1 : Int32) at_103 (by decide) ?_
      refine C.goto 108 at_104 (by decide) (by decide) ?_
      refine C.retN (t := .boolean) rfl (by simp) at_108 (by decide) (by decide) (Or.inr (Nat.le_refl _)) ?_
      exact rfl
    · skip
      refine C.icY 109 at_91 (by decide) (by decide) (XT.ii_ne_t h91) ?_
      refine C.iload 111 at_109 rfl ?_
      refine C.iconst 112 (2 : Int32) at_111 (by decide) ?_
      rcases Decidable.em ((i3 &&& (3 : Int32)) = (2 : Int32)) with h112 | h112
      · skip
        refine C.icN 115 at_112 rfl (XT.ii_ne_f h112) ?_
        refine C.iloadN 116 at_115 rfl ?_
        refine C.iconst 117 (0 : Int32) at_116 (by decide) ?_
        refine C.callS (b := hB.size) 120 [(.int i0), (.int (0 : Int32))] [] at_117 (met_part l Z a0 hw EL hEL hB.size hB.size hB (by omega) (by omega) i0 (0 : Int32) z0 SC hzc wS hmem) (by omega) (Or.inr (Nat.le_refl _)) (hw _ (List.mem_of_getElem? (i := 8) rfl)) (hw _ (List.mem_of_getElem? (i := 9) rfl)) (hw _ (List.mem_of_getElem? (i := 3) rfl)) (hw _ (List.mem_of_getElem? (i := 10) rfl)) (by decide) rfl (lenOf pd__II_rLjava_lang_String rfl) (by decide) (W := 0) (Nat.le_of_eq rfl) (by decide) (by decide) (by decide) rfl ?_
        rintro _ hP KP ⟨s1, rfl, S1⟩
        refine Go.rebk hP.size rfl ?_
        have sz_hP : hB.size ≤ hP.size := KP.1
        replace C1 := C1.kp KP (fun x q => by first | omega | (dsimp only; omega))
        replace C2 := C2.kp KP (fun x q => by first | omega | (dsimp only; omega))
        refine C.astore 122 (L' := #[.val (.int i0), .val (.int i1), .val (.int i2), .val (.int i3), .val (.int mm), .val (.int y), .val (.ref a1), .val (.ref a2), .val (.int (i3 &&& (3 : Int32))), .val (.ref s1)]) at_120 rfl rfl ?_
        refine C.aload 124 at_122 rfl rfl ?_
        refine C.aload 126 at_124 rfl rfl ?_
        refine C.callV (b := hP.size) 129 [(.ref s1)] [] at_126 (met_eqs l Z a0 hw EL hEL hP.size hP.size hP (by omega) (by omega) a1 s1 S1.exa) C1.exa (by omega) (Or.inr (Nat.le_refl _)) (hw _ (List.mem_of_getElem? (i := 33) rfl)) (hw _ (List.mem_of_getElem? (i := 34) rfl)) (hw _ (List.mem_of_getElem? (i := 36) rfl)) (hw _ (List.mem_of_getElem? (i := 35) rfl)) (hw _ (List.mem_of_getElem? (i := 7) rfl)) (hw _ (List.mem_of_getElem? (i := 37) rfl)) (fun hZ => notFace_of_selects (args := #[]) (mvT hZ (hw _ (List.mem_of_getElem? (i := 36) rfl)))) (by decide) rfl (lenOf pd__Ljava_lang_Object_rZ rfl) (by decide) (W := 0) (Nat.le_of_eq rfl) (by decide) (by decide) (by decide) rfl ?_
        rintro _ h126_5 K126_5 ⟨rfl, rfl⟩
        refine C.ifN 132 at_129 rfl (XT.i0_ne_f (show (0 : Int32) = 0 from rfl)) ?_
        refine C.iconst 133 (1 : Int32) at_132 (by decide) ?_
        refine C.goto 137 at_133 (by decide) (by decide) ?_
        refine C.retN (t := .boolean) rfl (by simp) at_137 (by decide) (by decide) (Or.inr (Nat.le_refl _)) ?_
        exact rfl
      · skip
        refine C.icY 138 at_112 (by decide) (by decide) (XT.ii_ne_t h112) ?_
        refine C.iload 140 at_138 rfl ?_
        refine C.iconst 141 (3 : Int32) at_140 (by decide) ?_
        rcases Decidable.em ((i3 &&& (3 : Int32)) = (3 : Int32)) with h141 | h141
        · skip
          refine C.icN 144 at_141 rfl (XT.ii_ne_f h141) ?_
          refine C.aload 146 at_144 rfl rfl ?_
          refine C.aload 148 at_146 rfl rfl ?_
          refine C.callV (b := hB.size) 151 [(.ref a1)] [] at_148 (met_eqc l Z a0 hw EL hEL hB.size hB.size hB (by omega) (by omega) a1 a1 _ _ _ _ _ _ _ _ _ _ z0 C1 C1 SC hzc) C1.exa (by omega) (Or.inr (Nat.le_refl _)) (hw _ (List.mem_of_getElem? (i := 33) rfl)) (hw _ (List.mem_of_getElem? (i := 34) rfl)) (hw _ (List.mem_of_getElem? (i := 36) rfl)) (hw _ (List.mem_of_getElem? (i := 35) rfl)) (hw _ (List.mem_of_getElem? (i := 7) rfl)) (hw _ (List.mem_of_getElem? (i := 37) rfl)) (fun hZ => notFace_of_selects (args := #[]) (mvT hZ (hw _ (List.mem_of_getElem? (i := 36) rfl)))) (by decide) rfl (lenOf pd__Ljava_lang_Object_rZ rfl) (by decide) (W := 0) (Nat.le_of_eq rfl) (by decide) (by decide) (by decide) rfl ?_
          rintro _ h148_6 K148_6 ⟨r, rfl, hr, rfl⟩
          refine C.retN (t := .boolean) rfl (by simp) at_151 (by decide) (by decide) (Or.inr (Nat.le_refl _)) ?_
          exact (by rw [hr.one ⟨rfl, rfl, rfl, rfl⟩]; rfl)
        · skip
          refine C.icY 152 at_141 (by decide) (by decide) (XT.ii_ne_t h141) ?_
          refine C.iloadN 153 at_152 rfl ?_
          refine C.iload 155 at_153 rfl ?_
          rcases Decidable.em (i0 = y) with h155 | h155
          · skip
            refine C.icN 158 at_155 rfl (XT.ii_ne_f h155) ?_
            refine C.iconst 159 (1 : Int32) at_158 (by decide) ?_
            refine C.goto 163 at_159 (by decide) (by decide) ?_
            refine C.istore 165 (L' := #[.val (.int i0), .val (.int i1), .val (.int i2), .val (.int i3), .val (.int mm), .val (.int y), .val (.ref a1), .val (.ref a2), .val (.int (i3 &&& (3 : Int32))), .val (.int (1 : Int32))]) at_163 rfl ?_
            refine C.aload 167 at_165 rfl rfl ?_
            refine C.aload 169 at_167 rfl rfl ?_
            refine C.callV (b := hB.size) 172 [(.ref a2)] [] at_169 (met_eqc l Z a0 hw EL hEL hB.size hB.size hB (by omega) (by omega) a1 a2 _ _ _ _ _ _ _ _ _ _ z0 C1 C2 SC hzc) C1.exa (by omega) (Or.inr (Nat.le_refl _)) (hw _ (List.mem_of_getElem? (i := 33) rfl)) (hw _ (List.mem_of_getElem? (i := 34) rfl)) (hw _ (List.mem_of_getElem? (i := 36) rfl)) (hw _ (List.mem_of_getElem? (i := 35) rfl)) (hw _ (List.mem_of_getElem? (i := 7) rfl)) (hw _ (List.mem_of_getElem? (i := 37) rfl)) (fun hZ => notFace_of_selects (args := #[]) (mvT hZ (hw _ (List.mem_of_getElem? (i := 36) rfl)))) (by decide) rfl (lenOf pd__Ljava_lang_Object_rZ rfl) (by decide) (W := 0) (Nat.le_of_eq rfl) (by decide) (by decide) (by decide) rfl ?_
            rintro _ h169_7 K169_7 ⟨r, rfl, hr, rfl⟩
            refine C.iload 174 at_172 rfl ?_
            refine C.icN 177 at_174 rfl (XT.ii_ne_f (show r = (1 : Int32) from (hr.one (own_parts.mpr h155)))) ?_
            refine C.aload 179 at_177 rfl rfl ?_
            refine C.aload 181 at_179 rfl rfl ?_
            refine C.callV (b := hB.size) 184 [(.ref a1)] [] at_181 (met_eqc l Z a0 hw EL hEL hB.size hB.size hB (by omega) (by omega) a2 a1 _ _ _ _ _ _ _ _ _ _ z0 C2 C1 SC hzc) C2.exa (by omega) (Or.inr (Nat.le_refl _)) (hw _ (List.mem_of_getElem? (i := 33) rfl)) (hw _ (List.mem_of_getElem? (i := 34) rfl)) (hw _ (List.mem_of_getElem? (i := 36) rfl)) (hw _ (List.mem_of_getElem? (i := 35) rfl)) (hw _ (List.mem_of_getElem? (i := 7) rfl)) (hw _ (List.mem_of_getElem? (i := 37) rfl)) (fun hZ => notFace_of_selects (args := #[]) (mvT hZ (hw _ (List.mem_of_getElem? (i := 36) rfl)))) (by decide) rfl (lenOf pd__Ljava_lang_Object_rZ rfl) (by decide) (W := 0) (Nat.le_of_eq rfl) (by decide) (by decide) (by decide) rfl ?_
            rintro _ h181_8 K181_8 ⟨r2, rfl, hr2, rfl⟩
            refine C.iload 186 at_184 rfl ?_
            refine C.icN 189 at_186 rfl (XT.ii_ne_f (show r2 = (1 : Int32) from (hr2.one (own_parts.mpr h155.symm)))) ?_
            refine C.iconst 190 (1 : Int32) at_189 (by decide) ?_
            refine C.goto 194 at_190 (by decide) (by decide) ?_
            refine C.retN (t := .boolean) rfl (by simp) at_194 (by decide) (by decide) (Or.inr (Nat.le_refl _)) ?_
            exact rfl
          · skip
            refine C.icY 162 at_155 (by decide) (by decide) (XT.ii_ne_t h155) ?_
            refine C.iconst 163 (0 : Int32) at_162 (by decide) ?_
            refine C.istore 165 (L' := #[.val (.int i0), .val (.int i1), .val (.int i2), .val (.int i3), .val (.int mm), .val (.int y), .val (.ref a1), .val (.ref a2), .val (.int (i3 &&& (3 : Int32))), .val (.int (0 : Int32))]) at_163 rfl ?_
            refine C.aload 167 at_165 rfl rfl ?_
            refine C.aload 169 at_167 rfl rfl ?_
            refine C.callV (b := hB.size) 172 [(.ref a2)] [] at_169 (met_eqc l Z a0 hw EL hEL hB.size hB.size hB (by omega) (by omega) a1 a2 _ _ _ _ _ _ _ _ _ _ z0 C1 C2 SC hzc) C1.exa (by omega) (Or.inr (Nat.le_refl _)) (hw _ (List.mem_of_getElem? (i := 33) rfl)) (hw _ (List.mem_of_getElem? (i := 34) rfl)) (hw _ (List.mem_of_getElem? (i := 36) rfl)) (hw _ (List.mem_of_getElem? (i := 35) rfl)) (hw _ (List.mem_of_getElem? (i := 7) rfl)) (hw _ (List.mem_of_getElem? (i := 37) rfl)) (fun hZ => notFace_of_selects (args := #[]) (mvT hZ (hw _ (List.mem_of_getElem? (i := 36) rfl)))) (by decide) rfl (lenOf pd__Ljava_lang_Object_rZ rfl) (by decide) (W := 0) (Nat.le_of_eq rfl) (by decide) (by decide) (by decide) rfl ?_
            rintro _ h169_9 K169_9 ⟨r, rfl, hr, rfl⟩
            refine C.iload 174 at_172 rfl ?_
            refine C.icN 177 at_174 rfl (XT.ii_ne_f (show r = (0 : Int32) from (hr.zero (fun q => h155 (own_parts.mp q))))) ?_
            refine C.aload 179 at_177 rfl rfl ?_
            refine C.aload 181 at_179 rfl rfl ?_
            refine C.callV (b := hB.size) 184 [(.ref a1)] [] at_181 (met_eqc l Z a0 hw EL hEL hB.size hB.size hB (by omega) (by omega) a2 a1 _ _ _ _ _ _ _ _ _ _ z0 C2 C1 SC hzc) C2.exa (by omega) (Or.inr (Nat.le_refl _)) (hw _ (List.mem_of_getElem? (i := 33) rfl)) (hw _ (List.mem_of_getElem? (i := 34) rfl)) (hw _ (List.mem_of_getElem? (i := 36) rfl)) (hw _ (List.mem_of_getElem? (i := 35) rfl)) (hw _ (List.mem_of_getElem? (i := 7) rfl)) (hw _ (List.mem_of_getElem? (i := 37) rfl)) (fun hZ => notFace_of_selects (args := #[]) (mvT hZ (hw _ (List.mem_of_getElem? (i := 36) rfl)))) (by decide) rfl (lenOf pd__Ljava_lang_Object_rZ rfl) (by decide) (W := 0) (Nat.le_of_eq rfl) (by decide) (by decide) (by decide) rfl ?_
            rintro _ h181_10 K181_10 ⟨r2, rfl, hr2, rfl⟩
            refine C.iload 186 at_184 rfl ?_
            refine C.icN 189 at_186 rfl (XT.ii_ne_f (show r2 = (0 : Int32) from (hr2.zero (fun q => h155 (own_parts.mp q).symm)))) ?_
            refine C.iconst 190 (1 : Int32) at_189 (by decide) ?_
            refine C.goto 194 at_190 (by decide) (by decide) ?_
            refine C.retN (t := .boolean) rfl (by simp) at_194 (by decide) (by decide) (Or.inr (Nat.le_refl _)) ?_
            exact rfl
  have L43 : ∀ (mm : Int32), Go p l e room_1 s m #[(.int i0), (.int i1), (.int i2), (.int i3)] below meth c Z x.cls EL n0 (fun h => h.size) (fun v h => v = some (.int 1)) bk h0 0 0 43 #[.val (.int i0), .val (.int i1), .val (.int i2), .val (.int i3), .val (.int mm), .unset, .unset, .unset, .unset, .unset] [] := by
    intro mm
    refine C.iloadN 44 at_43 rfl ?_
    refine C.bipush 46 (8 : Int32) at_44 (by decide) ?_
    refine C.iand 47 at_46 ?_
    rcases Decidable.em ((i2 &&& (8 : Int32)) = 0) with h47 | h47
    · skip
      refine C.ifY 57 at_47 (by decide) (by decide) (XT.i0_eq_t h47) ?_
      exact L57 _
    · skip
      refine C.ifN 50 at_47 rfl (XT.i0_eq_f h47) ?_
      refine C.iload 52 at_50 rfl ?_
      refine C.ldcI 54 at_52 (hw _ (List.mem_of_getElem? (i := 61) rfl)) ?_
      refine C.ior 55 at_54 ?_
      refine C.istore 57 (L' := #[.val (.int i0), .val (.int i1), .val (.int i2), .val (.int i3), .val (.int (mm ||| (-16777216 : Int32))), .unset, .unset, .unset, .unset, .unset]) at_55 rfl ?_
      exact L57 _
  have L30 : ∀ (mm : Int32), Go p l e room_1 s m #[(.int i0), (.int i1), (.int i2), (.int i3)] below meth c Z x.cls EL n0 (fun h => h.size) (fun v h => v = some (.int 1)) bk h0 0 0 30 #[.val (.int i0), .val (.int i1), .val (.int i2), .val (.int i3), .val (.int mm), .unset, .unset, .unset, .unset, .unset] [] := by
    intro mm
    refine C.iloadN 31 at_30 rfl ?_
    refine C.iconst 32 (4 : Int32) at_31 (by decide) ?_
    refine C.iand 33 at_32 ?_
    rcases Decidable.em ((i2 &&& (4 : Int32)) = 0) with h33 | h33
    · skip
      refine C.ifY 43 at_33 (by decide) (by decide) (XT.i0_eq_t h33) ?_
      exact L43 _
    · skip
      refine C.ifN 36 at_33 rfl (XT.i0_eq_f h33) ?_
      refine C.iload 38 at_36 rfl ?_
      refine C.ldcI 40 at_38 (hw _ (List.mem_of_getElem? (i := 38) rfl)) ?_
      refine C.ior 41 at_40 ?_
      refine C.istore 43 (L' := #[.val (.int i0), .val (.int i1), .val (.int i2), .val (.int i3), .val (.int (mm ||| (16711680 : Int32))), .unset, .unset, .unset, .unset, .unset]) at_41 rfl ?_
      exact L43 _
  have L17 : ∀ (mm : Int32), Go p l e room_1 s m #[(.int i0), (.int i1), (.int i2), (.int i3)] below meth c Z x.cls EL n0 (fun h => h.size) (fun v h => v = some (.int 1)) bk h0 0 0 17 #[.val (.int i0), .val (.int i1), .val (.int i2), .val (.int i3), .val (.int mm), .unset, .unset, .unset, .unset, .unset] [] := by
    intro mm
    refine C.iloadN 18 at_17 rfl ?_
    refine C.iconst 19 (2 : Int32) at_18 (by decide) ?_
    refine C.iand 20 at_19 ?_
    rcases Decidable.em ((i2 &&& (2 : Int32)) = 0) with h20 | h20
    · skip
      refine C.ifY 30 at_20 (by decide) (by decide) (XT.i0_eq_t h20) ?_
      exact L30 _
    · skip
      refine C.ifN 23 at_20 rfl (XT.i0_eq_f h20) ?_
      refine C.iload 25 at_23 rfl ?_
      refine C.ldcI 27 at_25 (hw _ (List.mem_of_getElem? (i := 0) rfl)) ?_
      refine C.ior 28 at_27 ?_
      refine C.istore 30 (L' := #[.val (.int i0), .val (.int i1), .val (.int i2), .val (.int i3), .val (.int (mm ||| (65280 : Int32))), .unset, .unset, .unset, .unset, .unset]) at_28 rfl ?_
      exact L30 _
  refine C.iconst 1 (0 : Int32) at_0 (by decide) ?_
  refine C.istore 3 (L' := #[.val (.int i0), .val (.int i1), .val (.int i2), .val (.int i3), .val (.int (0 : Int32)), .unset, .unset, .unset, .unset, .unset]) at_1 rfl ?_
  refine C.iloadN 4 at_3 rfl ?_
  refine C.iconst 5 (1 : Int32) at_4 (by decide) ?_
  refine C.iand 6 at_5 ?_
  rcases Decidable.em ((i2 &&& (1 : Int32)) = 0) with h6 | h6
  · skip
    refine C.ifY 17 at_6 (by decide) (by decide) (XT.i0_eq_t h6) ?_
    exact L17 _
  · skip
    refine C.ifN 9 at_6 rfl (XT.i0_eq_f h6) ?_
    refine C.iload 11 at_9 rfl ?_
    refine C.sipush 14 (255 : Int32) at_11 (by decide) ?_
    refine C.ior 15 at_14 ?_
    refine C.istore 17 (L' := #[.val (.int i0), .val (.int i1), .val (.int i2), .val (.int i3), .val (.int ((0 : Int32) ||| (255 : Int32))), .unset, .unset, .unset, .unset, .unset]) at_15 rfl ?_
    exact L17 _
set_option maxRecDepth 65536 in
set_option maxHeartbeats 40000000 in
theorem comes_1 {Post : Tables → Env → Array Value → State → Outcome → State → Prop} (hpost : ∀ tb e args s v u, (limb_1_1.after args s (.returned v) u = true ∧ limb_1_2.after args s (.returned v) u = true ∧ True) → ReturnedEndW s (.returned v) u (Jvm.fieldLocs frame_1_writes args s ++ Jvm.arrayLocs frame_1_arrays args s ++ Jvm.staticLocs frame_1_statics s) 56 1216 → Post tb e args s (.returned v) u) :
    ArmFor flags0 classFile x code maxLocals ret World_1 tables_1 room_1 Calls_1 rest_1 Pre_1 Post := by
  intro l hfl _ _ p e ha hc hk s m args below hf hA hF happ hP
  obtain ⟨hcalls, hrest, hpre⟩ := hP
  obtain ⟨-, -, -, hnamed, -, -, -, hat⟩ := (Spec.applies_iff hf).mp happ
  obtain ⟨hg, hn⟩ := and_e (Cond.before_iff.mp (show (Jvm.Cond.and given_1 narrow_1).before args s = true from hpre))
  obtain ⟨g0, gr0⟩ := and_e hg
  obtain ⟨ga0, gr1⟩ := and_e gr0
  obtain ⟨ga1, gr2⟩ := and_e gr1
  obtain ⟨ga2, gr3⟩ := and_e gr2
  have ga3 := gr3
  obtain ⟨w0, w1, w2, w3, rfl⟩ : ∃ w0 w1 w2 w3 : Value, args = #[w0, w1, w2, w3] := by
    have hs : args.size = 4 := by simpa [Cond.value, given_1] using g0
    obtain ⟨L⟩ := args
    match L, hs with
    | [w0, w1, w2, w3], _ => exact ⟨w0, w1, w2, w3, rfl⟩
  have hw := fun d (hd : d ∈ tables_1) => atoms_spec (ws := Jvm.Cond.code x code maxLocals ret :: tables_1) hat d (List.mem_cons_of_mem _ hd)
  have hfit : Fit s := fun {y c} hc i hi => by
    obtain ⟨ha, rfl⟩ := Array.getElem?_eq_some_iff.mp hc
    have q := List.all_eq_true.mp ((Array.all_eq_true_iff_forall_mem.mp hF) _ (Array.getElem_mem ha)) i (List.mem_range.mpr hi)
    simpa [Array.getElem?_eq_getElem hi] using q
  obtain ⟨i0, e0⟩ := is_v ga0
  obtain rfl : w0 = (.int i0) := Option.some.inj e0
  obtain ⟨i1, e1⟩ := is_v ga1
  obtain rfl : w1 = (.int i1) := Option.some.inj e1
  obtain ⟨i2, e2⟩ := is_v ga2
  obtain rfl : w2 = (.int i2) := Option.some.inj e2
  obtain ⟨i3, e3⟩ := is_v ga3
  obtain rfl : w3 = (.int i3) := Option.some.inj e3
  obtain ⟨hsets, hown0⟩ := atoms_of _ (rest_1_c_eq ▸ (show rest_1_c.before _ s = true from hrest))
  have n5 := not_v (Cond.before_iff.mp (hsets _ (List.mem_of_getElem? (i := 2) rfl)))
  obtain ⟨z0, ez0⟩ := is_v (Cond.before_iff.mp (hsets _ (List.mem_of_getElem? (i := 1) rfl)))
  have SC : Sta s s.heap "java/lang/String" "COMPACT_STRINGS" "Z" (.int z0) := Sta.start ez0 (Or.inl (hsets _ (List.mem_of_getElem? (i := 0) rfl)))
  have hzc : ¬ z0 = 0 := gotF (Cond.eq_ints ez0 (Term.int_eval (0))) n5
  have hcw : Jvm.Lit.compactW.before _ s = true := hsets _ (List.mem_of_getElem? (i := 2) rfl)
  have wS : ∀ a ∈ Bundle.stringAtoms, a.before _ s = true := fun d hd => by
    simp only [Bundle.stringAtoms, List.mem_cons, List.not_mem_nil, or_false] at hd
    rcases hd with rfl | rfl | rfl | rfl | rfl | rfl | rfl
    · exact hw _ (List.mem_of_getElem? (i := 12) rfl)
    · exact hw _ (List.mem_of_getElem? (i := 13) rfl)
    · exact hw _ (List.mem_of_getElem? (i := 14) rfl)
    · exact hw _ (List.mem_of_getElem? (i := 15) rfl)
    · exact hw _ (List.mem_of_getElem? (i := 16) rfl)
    · exact hw _ (List.mem_of_getElem? (i := 17) rfl)
    · exact hw _ (List.mem_of_getElem? (i := 18) rfl)
  have hEL : EW s _ consts_1 := (EW.cons (hw _ (List.mem_of_getElem? (i := 11) rfl)) (by decide) EW.nil)
  have hcons : ∀ p ∈ consts_1, Jvm.Lit.constHeld s p.1 p.2 := hcalls.1
  have hCH := CHv.start hEL hcons hcw (hw _ (List.mem_of_getElem? (i := 14) rfl)) (hw _ (List.mem_of_getElem? (i := 13) rfl))
  obtain ⟨n, o, h1, h2, h3, _, L, rfl, ⟨N, -, -, -, rfl⟩, -, hq⟩ := met_law l s _ hw consts_1 hEL s.heap.size s.heap.size s.heap (Nat.le_refl _) (Nat.le_refl _) i0 i1 i2 i3 z0 SC hzc wS (by simp [consts_1]) p e ha hc hk s m _ below hf ((Spec.applies_iff_loose hf).mp happ).1 ⟨rfl, State.Warmed39.refl s, rfl, ⟨Nat.le_refl _, fun _ _ q => q⟩, hCH, fun y B => (Array.getElem?_eq_some_iff.mp B.there.choose_spec).1⟩ trivial
  refine ⟨n, _, h1, h2, h3, hpost _ _ _ _ _ _ ⟨Cond.after_iff.mpr rfl, Cond.after_iff.mpr (eq_i res_at (Term.int_eval (1)) rfl), trivial⟩ ⟨hq.1, hq.2.1, hq.2.2.1, (hq.2.2.2.sift fun y hy => Or.inr (N y hy)).mono (by decide) (by decide)⟩⟩
theorem main_1_1 : Claimed_1_1 := comes_1 fun _ _ _ _ _ _ h hF => ⟨h.1, hF⟩
theorem main_1_2 : Claimed_1_2 := comes_1 fun _ _ _ _ _ _ h hF => ⟨h.2.1, hF⟩
end Jvm.Pilot.@@N@@
namespace Jvm.Pilot.@@N@@
open Jvm Jvm.ClassFile Sem Op Lib Jvm.Free Jvm.Stand Jvm.Pilot.@@N@@.Jvm.D
/-! MADE BY PROGRAM (witnessworld.py) out of the Statement's table words and the real class files: 15 classes; the members and pool entries that the words name. The judged class is class 1, her method 3. -/
namespace start1
open Jvm.ClassFile
def u (s : String) : CpInfo := .utf8 (stringToUtf16 s)
/-- a pool by its gaps: so many unusable entries, then the entry; so many at the end -/
def gap : Nat → List CpInfo → List CpInfo
  | 0, r => r
  | n + 1, r => .unusable :: gap n r
def poolList (es : List (Nat × CpInfo)) (last : Nat) : List CpInfo := es.foldr (fun e r => gap e.1 (e.2 :: r)) (gap last [])
def pool (es : List (Nat × CpInfo)) (last : Nat) : Array CpInfo := ⟨poolList es last⟩
def fileOf (pool : Array CpInfo) (this : Nat) (attrs : Array Attribute := #[]) (ms : Array MethodInfo := #[]) (fl : Nat := 33) (sup : Nat := 0) (ifs : Array Nat := #[]) (fds : Array FieldInfo := #[]) : ClassFile where
  minorVersion := 0
  majorVersion := 65
  constantPool := pool
  accessFlags := fl
  thisClass := this
  superClass := sup
  interfaces := ifs
  fields := fds
  methods := ms
  attributes := attrs
def plain (name : String) (sup : Option ClassId) : Class where
  name := name
  kind := .ordinary
  loader := none
  accessFlags := 33
  super := sup
  interfaces := #[]
  cf := none
  fields := #[]
  methods := #[]
  instanceTypes := #[]
  staticTypes := #[]
  resolved := #[]
  callSites := []
  init := .initialized
  statics := none
  mirror := none

def pool0 : Array CpInfo := pool [(5, u "<init>"), (0, u "()V"), (1, .class_ 10), (1, u "java/lang/Object")] 113

def k0c0 : Code := { maxStack := 0, maxLocals := 1, code := object_method_1_code, exceptionTable := #[], attributes := #[] }
def k0m0 : Method := { name := "<init>", desc := "()V", sig := { parameters := [], returnType := none }, accessFlags := 1, code := some k0c0 }
/-- java/lang/Object -/
def k0 : Class := { plain "java/lang/Object" none with
  accessFlags := 33
  interfaces := #[]
  cf := some (fileOf pool0 8 #[] #[{ accessFlags := 1, nameIndex := 5, descriptorIndex := 6, attributes := #[] }] 33 0 #[] #[])
  fields := #[]
  methods := #[k0m0]
  instanceTypes := #[]
  staticTypes := #[]
  resolved := Array.replicate 124 none
  statics := none }

def pool1 : Array CpInfo := pool [(2, .class_ 4), (1, u "java/lang/Object"), (0, u "<init>"), (0, u "()V"), (0, .string 8), (0, u ""), (0, .methodref 10 11), (0, .class_ 12), (0, .nameAndType 13 14), (0, u "java/lang/String"), (0, u "valueOf"), (0, u "(C)Ljava/lang/String;"), (0, .class_ 16), (0, u "com/example/rules_for_records/rulesforrecords/messageinterpolation/BundleLookup$Candidate"), (0, .methodref 18 19), (0, .class_ 20), (0, .nameAndType 21 22), (0, u "com/example/rules_for_records/rulesforrecords/messageinterpolation/CandidateEqualsPinLaw"), (0, u "part"), (0, u "(II)Ljava/lang/String;"), (0, .methodref 15 24), (0, .nameAndType 5 25), (0, u "(Ljava/lang/String;Ljava/lang/String;Ljava/lang/String;Ljava/lang/String;)V"), (0, .integer 65280), (0, .integer 16711680), (0, .integer 4278190080), (0, .methodref 18 30), (0, .nameAndType 31 32), (0, u "make"), (0, u "(I)Lcom/example/rules_for_records/rulesforrecords/messageinterpolation/BundleLookup$Candidate;"), (0, .methodref 15 34), (0, .nameAndType 35 36), (0, u "equals"), (0, u "(Ljava/lang/Object;)Z"), (3, u "law"), (0, u "(IIII)Z")] 6

def k1m0 : Method := { name := "<init>", desc := "()V", sig := { parameters := [], returnType := none }, accessFlags := 1, code := none }
def k1c1 : Code := { maxStack := 3, maxLocals := 3, code := method_2_code, exceptionTable := #[], attributes := #[] }
def k1m1 : Method := { name := "part", desc := "(II)Ljava/lang/String;", sig := { parameters := [.int, .int], returnType := some (.object "java/lang/String") }, accessFlags := 10, code := some k1c1 }
def k1c2 : Code := { maxStack := 7, maxLocals := 1, code := method_3_code, exceptionTable := #[], attributes := #[] }
def k1m2 : Method := { name := "make", desc := "(I)Lcom/example/rules_for_records/rulesforrecords/messageinterpolation/BundleLookup$Candidate;", sig := { parameters := [.int], returnType := some (.object "com/example/rules_for_records/rulesforrecords/messageinterpolation/BundleLookup$Candidate") }, accessFlags := 10, code := some k1c2 }
def k1c3 : Code := { maxStack := 3, maxLocals := 10, code := code, exceptionTable := #[], attributes := #[] }
def k1m3 : Method := { name := "law", desc := "(IIII)Z", sig := { parameters := [.int, .int, .int, .int], returnType := some .boolean }, accessFlags := 9, code := some k1c3 }
/-- com/example/rules_for_records/rulesforrecords/messageinterpolation/CandidateEqualsPinLaw -/
def k1 : Class := { plain "com/example/rules_for_records/rulesforrecords/messageinterpolation/CandidateEqualsPinLaw" (some 0) with
  accessFlags := 49
  interfaces := #[]
  cf := some (fileOf pool1 18 #[] #[{ accessFlags := 1, nameIndex := 5, descriptorIndex := 6, attributes := #[] }, { accessFlags := 10, nameIndex := 21, descriptorIndex := 22, attributes := #[] }, { accessFlags := 10, nameIndex := 31, descriptorIndex := 32, attributes := #[] }, { accessFlags := 9, nameIndex := 40, descriptorIndex := 41, attributes := #[] }] 49 2 #[] #[])
  fields := #[]
  methods := #[k1m0, k1m1, k1m2, k1m3]
  instanceTypes := #[]
  staticTypes := #[]
  resolved := Array.replicate 48 none
  statics := none }

def pool2 : Array CpInfo := pool [(1, .methodref 2 3), (0, .class_ 4), (0, .nameAndType 5 6), (0, u "java/lang/Object"), (0, u "<init>"), (0, u "()V"), (0, .fieldref 8 9), (0, .class_ 10), (0, .nameAndType 11 12), (0, u "com/example/rules_for_records/rulesforrecords/messageinterpolation/BundleLookup$Candidate"), (0, u "language"), (0, u "Ljava/lang/String;"), (0, .fieldref 8 14), (0, .nameAndType 15 12), (0, u "script"), (0, .fieldref 8 17), (0, .nameAndType 18 12), (0, u "region"), (0, .fieldref 8 20), (0, .nameAndType 21 12), (0, u "variant"), (6, .class_ 30), (1, u "java/lang/String"), (14, .class_ 47), (1, u "com/example/rules_for_records/rulesforrecords/messageinterpolation/BundleLookup"), (10, u "(Ljava/lang/String;Ljava/lang/String;Ljava/lang/String;Ljava/lang/String;)V"), (31, .methodref 28 91), (0, .nameAndType 92 93), (0, u "equals"), (0, u "(Ljava/lang/Object;)Z")] 20

def k2c0 : Code := { maxStack := 2, maxLocals := 5, code := prog_9_method_1_code, exceptionTable := #[], attributes := #[] }
def k2m0 : Method := { name := "<init>", desc := "(Ljava/lang/String;Ljava/lang/String;Ljava/lang/String;Ljava/lang/String;)V", sig := { parameters := [(.object "java/lang/String"), (.object "java/lang/String"), (.object "java/lang/String"), (.object "java/lang/String")], returnType := none }, accessFlags := 0, code := some k2c0 }
def k2c1 : Code := { maxStack := 2, maxLocals := 3, code := prog_9_method_5_code, exceptionTable := #[], attributes := #[] }
def k2m1 : Method := { name := "equals", desc := "(Ljava/lang/Object;)Z", sig := { parameters := [(.object "java/lang/Object")], returnType := some .boolean }, accessFlags := 1, code := some k2c1 }
/-- com/example/rules_for_records/rulesforrecords/messageinterpolation/BundleLookup$Candidate -/
def k2 : Class := { plain "com/example/rules_for_records/rulesforrecords/messageinterpolation/BundleLookup$Candidate" (some 0) with
  accessFlags := 32
  interfaces := #[]
  cf := some (fileOf pool2 8 #[.nestHost 45] #[{ accessFlags := 0, nameIndex := 5, descriptorIndex := 58, attributes := #[] }, { accessFlags := 1, nameIndex := 92, descriptorIndex := 93, attributes := #[] }] 32 2 #[] #[{ accessFlags := 18, nameIndex := 11, descriptorIndex := 12, attributes := #[] }, { accessFlags := 18, nameIndex := 15, descriptorIndex := 12, attributes := #[] }, { accessFlags := 18, nameIndex := 18, descriptorIndex := 12, attributes := #[] }, { accessFlags := 18, nameIndex := 21, descriptorIndex := 12, attributes := #[] }])
  fields := #[{ name := "language", type := (.object "java/lang/String"), accessFlags := 18, slot := 0, constantValue := 0 }, { name := "script", type := (.object "java/lang/String"), accessFlags := 18, slot := 1, constantValue := 0 }, { name := "region", type := (.object "java/lang/String"), accessFlags := 18, slot := 2, constantValue := 0 }, { name := "variant", type := (.object "java/lang/String"), accessFlags := 18, slot := 3, constantValue := 0 }]
  methods := #[k2m0, k2m1]
  instanceTypes := #[(.object "java/lang/String"), (.object "java/lang/String"), (.object "java/lang/String"), (.object "java/lang/String")]
  staticTypes := #[]
  resolved := Array.replicate 114 none
  statics := none }

def pool3 : Array CpInfo := pool [(1, .class_ 2), (0, u "java/io/Serializable"), (0, .class_ 4), (0, u "java/lang/Object")] 2

/-- java/io/Serializable -/
def k3 : Class := { plain "java/io/Serializable" (some 0) with
  accessFlags := 1537
  interfaces := #[]
  cf := some (fileOf pool3 1 #[] #[] 1537 3 #[] #[])
  fields := #[]
  methods := #[]
  instanceTypes := #[]
  staticTypes := #[]
  resolved := Array.replicate 7 none
  statics := none }

def pool4 : Array CpInfo := pool [(1, .class_ 2), (0, u "java/lang/Comparable"), (0, .class_ 4), (0, u "java/lang/Object")] 7

/-- java/lang/Comparable -/
def k4 : Class := { plain "java/lang/Comparable" (some 0) with
  accessFlags := 1537
  interfaces := #[]
  cf := some (fileOf pool4 1 #[] #[] 1537 3 #[] #[])
  fields := #[]
  methods := #[]
  instanceTypes := #[]
  staticTypes := #[]
  resolved := Array.replicate 12 none
  statics := none }

def pool5 : Array CpInfo := pool [(2, .class_ 4), (1, u "java/lang/CharSequence"), (42, .class_ 48), (0, u "java/lang/CharSequence$1CodePointIterator"), (10, .class_ 60), (0, u "java/lang/CharSequence$1CharIterator"), (5, .class_ 67), (0, u "java/lang/Object")] 63

/-- java/lang/CharSequence -/
def k5 : Class := { plain "java/lang/CharSequence" (some 0) with
  accessFlags := 1537
  interfaces := #[]
  cf := some (fileOf pool5 2 #[.nestMembers #[47, 59]] #[] 1537 66 #[] #[])
  fields := #[]
  methods := #[]
  instanceTypes := #[]
  staticTypes := #[]
  resolved := Array.replicate 131 none
  statics := none }

def pool6 : Array CpInfo := pool [(1, .class_ 2), (0, u "java/lang/constant/Constable"), (0, .class_ 4), (0, u "java/lang/Object")] 6

/-- java/lang/constant/Constable -/
def k6 : Class := { plain "java/lang/constant/Constable" (some 0) with
  accessFlags := 1537
  interfaces := #[]
  cf := some (fileOf pool6 1 #[] #[] 1537 3 #[] #[])
  fields := #[]
  methods := #[]
  instanceTypes := #[]
  staticTypes := #[]
  resolved := Array.replicate 11 none
  statics := none }

def pool7 : Array CpInfo := pool [(1, .class_ 2), (0, u "java/lang/constant/ConstantDesc"), (0, .class_ 4), (0, u "java/lang/Object")] 32

/-- java/lang/constant/ConstantDesc -/
def k7 : Class := { plain "java/lang/constant/ConstantDesc" (some 0) with
  accessFlags := 1537
  interfaces := #[]
  cf := some (fileOf pool7 1 #[] #[] 1537 3 #[] #[])
  fields := #[]
  methods := #[]
  instanceTypes := #[]
  staticTypes := #[]
  resolved := Array.replicate 37 none
  statics := none }

def pool8 : Array CpInfo := pool [(1, .methodref 2 3), (0, .class_ 4), (0, .nameAndType 5 6), (0, u "java/lang/Object"), (0, u "<init>"), (0, u "()V"), (2, .fieldref 10 11), (0, .class_ 12), (0, .nameAndType 13 14), (0, u "java/lang/String"), (0, u "value"), (0, u "[B"), (0, .fieldref 10 16), (0, .nameAndType 17 18), (0, u "coder"), (0, u "B"), (2, u "hash"), (0, u "I"), (2, u "hashIsZero"), (0, u "Z"), (11, .fieldref 10 39), (0, .nameAndType 40 26), (0, u "COMPACT_STRINGS"), (12, u "toBytes"), (53, .class_ 109), (1, u "java/lang/StringLatin1"), (99, .methodref 10 210), (0, .nameAndType 5 211), (0, u "([BB)V"), (157, u "(C)Z"), (171, .methodref 107 542), (0, .nameAndType 543 544), (0, u "equals"), (0, u "([B[B)Z"), (28, u "(Ljava/lang/Object;)Z"), (1, .class_ 576), (0, u "java/lang/CharSequence"), (22, u "CASE_INSENSITIVE_ORDER"), (0, u "Ljava/util/Comparator;"), (181, u "valueOf"), (0, u "(C)Ljava/lang/String;"), (231, .methodref 107 1016), (0, .nameAndType 1017 369), (0, u "canEncode"), (0, .methodref 107 1019), (0, .nameAndType 53 1020), (0, u "(C)[B"), (80, u "serialPersistentFields"), (0, u "[Ljava/io/ObjectStreamField;"), (0, .class_ 1104), (0, u "java/lang/String$CaseInsensitiveComparator"), (1, .class_ 1107), (0, u "java/io/Serializable"), (0, .class_ 1109), (0, u "java/lang/Comparable"), (0, .class_ 1111), (0, u "java/lang/constant/Constable"), (0, .class_ 1113), (0, u "java/lang/constant/ConstantDesc"), (2, u "serialVersionUID"), (0, u "J"), (3, u "REPL"), (0, u "C"), (2, u "LATIN1"), (1, u "UTF16")] 323

def k8m0 : Method := { name := "<init>", desc := "()V", sig := { parameters := [], returnType := none }, accessFlags := 1, code := none }
def k8c1 : Code := { maxStack := 2, maxLocals := 3, code := jdk_42_method_66_code, exceptionTable := #[], attributes := #[] }
def k8m1 : Method := { name := "equals", desc := "(Ljava/lang/Object;)Z", sig := { parameters := [(.object "java/lang/Object")], returnType := some .boolean }, accessFlags := 1, code := some k8c1 }
def k8c2 : Code := { maxStack := 4, maxLocals := 1, code := jdk_42_method_139_code, exceptionTable := #[], attributes := #[] }
def k8m2 : Method := { name := "valueOf", desc := "(C)Ljava/lang/String;", sig := { parameters := [.char], returnType := some (.object "java/lang/String") }, accessFlags := 9, code := some k8c2 }
def k8c3 : Code := { maxStack := 2, maxLocals := 3, code := jdk_42_method_151_code, exceptionTable := #[], attributes := #[] }
def k8m3 : Method := { name := "<init>", desc := "([BB)V", sig := { parameters := [(.array .byte), .byte], returnType := none }, accessFlags := 0, code := some k8c3 }
/-- java/lang/String -/
def k8 : Class := { plain "java/lang/String" (some 0) with
  accessFlags := 49
  interfaces := #[3, 4, 5, 6, 7]
  cf := some (fileOf pool8 10 #[.nestMembers #[1103]] #[{ accessFlags := 1, nameIndex := 5, descriptorIndex := 6, attributes := #[] }, { accessFlags := 1, nameIndex := 543, descriptorIndex := 573, attributes := #[] }, { accessFlags := 9, nameIndex := 782, descriptorIndex := 783, attributes := #[] }, { accessFlags := 0, nameIndex := 5, descriptorIndex := 211, attributes := #[] }] 49 2 #[1106, 1108, 575, 1110, 1112] #[{ accessFlags := 18, nameIndex := 13, descriptorIndex := 14, attributes := #[] }, { accessFlags := 18, nameIndex := 17, descriptorIndex := 18, attributes := #[] }, { accessFlags := 2, nameIndex := 21, descriptorIndex := 22, attributes := #[] }, { accessFlags := 2, nameIndex := 25, descriptorIndex := 26, attributes := #[] }, { accessFlags := 26, nameIndex := 1116, descriptorIndex := 1117, attributes := #[] }, { accessFlags := 24, nameIndex := 40, descriptorIndex := 26, attributes := #[] }, { accessFlags := 26, nameIndex := 1101, descriptorIndex := 1102, attributes := #[] }, { accessFlags := 26, nameIndex := 1121, descriptorIndex := 1122, attributes := #[] }, { accessFlags := 25, nameIndex := 599, descriptorIndex := 600, attributes := #[] }, { accessFlags := 24, nameIndex := 1125, descriptorIndex := 18, attributes := #[] }, { accessFlags := 24, nameIndex := 1127, descriptorIndex := 18, attributes := #[] }])
  fields := #[{ name := "value", type := (.array .byte), accessFlags := 18, slot := 0, constantValue := 0 }, { name := "coder", type := .byte, accessFlags := 18, slot := 1, constantValue := 0 }, { name := "hash", type := .int, accessFlags := 2, slot := 2, constantValue := 0 }, { name := "hashIsZero", type := .boolean, accessFlags := 2, slot := 3, constantValue := 0 }, { name := "serialVersionUID", type := .long, accessFlags := 26, slot := 0, constantValue := 0 }, { name := "COMPACT_STRINGS", type := .boolean, accessFlags := 24, slot := 1, constantValue := 0 }, { name := "serialPersistentFields", type := (.array (.object "java/io/ObjectStreamField")), accessFlags := 26, slot := 2, constantValue := 0 }, { name := "REPL", type := .char, accessFlags := 26, slot := 3, constantValue := 0 }, { name := "CASE_INSENSITIVE_ORDER", type := (.object "java/util/Comparator"), accessFlags := 25, slot := 4, constantValue := 0 }, { name := "LATIN1", type := .byte, accessFlags := 24, slot := 5, constantValue := 0 }, { name := "UTF16", type := .byte, accessFlags := 24, slot := 6, constantValue := 0 }]
  methods := #[k8m0, k8m1, k8m2, k8m3]
  instanceTypes := #[(.array .byte), .byte, .int, .boolean]
  staticTypes := #[.long, .boolean, (.array (.object "java/io/ObjectStreamField")), .char, (.object "java/util/Comparator"), .byte, .byte]
  resolved := Array.replicate 1451 none
  statics := some 0 }

def pool9 : Array CpInfo := pool [(4, .class_ 6), (1, u "java/lang/Object"), (0, u "<init>"), (0, u "()V"), (5, .class_ 16), (1, u "java/lang/StringLatin1"), (73, u "canEncode"), (14, u "(C)Z"), (15, u "$assertionsDisabled"), (0, u "Z"), (98, .class_ 223), (1, u "java/lang/StringLatin1$LinesSpliterator"), (57, u "equals"), (0, u "([B[B)Z"), (97, u "toBytes"), (1, u "(C)[B"), (7, .class_ 391), (0, u "java/lang/StringLatin1$CharsSpliterator")] 3

def k9m0 : Method := { name := "<init>", desc := "()V", sig := { parameters := [], returnType := none }, accessFlags := 0, code := none }
def k9c1 : Code := { maxStack := 2, maxLocals := 1, code := jdk_43_method_3_code, exceptionTable := #[], attributes := #[] }
def k9m1 : Method := { name := "canEncode", desc := "(C)Z", sig := { parameters := [.char], returnType := some .boolean }, accessFlags := 9, code := some k9c1 }
def k9c2 : Code := { maxStack := 3, maxLocals := 3, code := jdk_43_method_13_code, exceptionTable := #[], attributes := #[] }
def k9m2 : Method := { name := "equals", desc := "([B[B)Z", sig := { parameters := [(.array .byte), (.array .byte)], returnType := some .boolean }, accessFlags := 9, code := some k9c2 }
def k9c3 : Code := { maxStack := 4, maxLocals := 1, code := jdk_43_method_46_code, exceptionTable := #[], attributes := #[] }
def k9m3 : Method := { name := "toBytes", desc := "(C)[B", sig := { parameters := [.char], returnType := some (.array .byte) }, accessFlags := 9, code := some k9c3 }
/-- java/lang/StringLatin1 -/
def k9 : Class := { plain "java/lang/StringLatin1" (some 0) with
  accessFlags := 48
  interfaces := #[]
  cf := some (fileOf pool9 14 #[.nestMembers #[390, 221]] #[{ accessFlags := 0, nameIndex := 7, descriptorIndex := 8, attributes := #[] }, { accessFlags := 9, nameIndex := 90, descriptorIndex := 105, attributes := #[] }, { accessFlags := 9, nameIndex := 281, descriptorIndex := 282, attributes := #[] }, { accessFlags := 9, nameIndex := 380, descriptorIndex := 382, attributes := #[] }] 48 4 #[] #[{ accessFlags := 4120, nameIndex := 121, descriptorIndex := 122, attributes := #[] }])
  fields := #[{ name := "$assertionsDisabled", type := .boolean, accessFlags := 4120, slot := 0, constantValue := 0 }]
  methods := #[k9m0, k9m1, k9m2, k9m3]
  instanceTypes := #[]
  staticTypes := #[.boolean]
  resolved := Array.replicate 395 none
  statics := none }

def pool10 : Array CpInfo := pool [(2, .class_ 4), (1, u "java/lang/Object"), (0, u "<init>"), (0, u "()V"), (17, .class_ 26), (1, u "jdk/internal/util/Preconditions"), (28, .class_ 56), (0, u "jdk/internal/util/Preconditions$4"), (57, .class_ 115), (0, u "jdk/internal/util/Preconditions$1"), (7, u "SIOOBE_FORMATTER"), (0, u "Ljava/util/function/BiFunction;"), (0, .class_ 126), (0, u "jdk/internal/util/Preconditions$2"), (3, u "AIOOBE_FORMATTER"), (0, .class_ 132), (0, u "jdk/internal/util/Preconditions$3"), (3, u "IOOBE_FORMATTER")] 57

def k10m0 : Method := { name := "<init>", desc := "()V", sig := { parameters := [], returnType := none }, accessFlags := 1, code := none }
/-- jdk/internal/util/Preconditions -/
def k10 : Class := { plain "jdk/internal/util/Preconditions" (some 0) with
  accessFlags := 33
  interfaces := #[]
  cf := some (fileOf pool10 24 #[.nestMembers #[55, 131, 125, 114]] #[{ accessFlags := 1, nameIndex := 5, descriptorIndex := 6, attributes := #[] }] 33 2 #[] #[{ accessFlags := 25, nameIndex := 123, descriptorIndex := 124, attributes := #[] }, { accessFlags := 25, nameIndex := 130, descriptorIndex := 124, attributes := #[] }, { accessFlags := 25, nameIndex := 136, descriptorIndex := 124, attributes := #[] }])
  fields := #[{ name := "SIOOBE_FORMATTER", type := (.object "java/util/function/BiFunction"), accessFlags := 25, slot := 0, constantValue := 0 }, { name := "AIOOBE_FORMATTER", type := (.object "java/util/function/BiFunction"), accessFlags := 25, slot := 1, constantValue := 0 }, { name := "IOOBE_FORMATTER", type := (.object "java/util/function/BiFunction"), accessFlags := 25, slot := 2, constantValue := 0 }]
  methods := #[k10m0]
  instanceTypes := #[]
  staticTypes := #[(.object "java/util/function/BiFunction"), (.object "java/util/function/BiFunction"), (.object "java/util/function/BiFunction")]
  resolved := Array.replicate 194 none
  statics := some 1 }

def pool11 : Array CpInfo := pool [(9, u "<init>"), (6, .class_ 18), (1, u "java/lang/Object"), (0, u "()V"), (1, .class_ 23), (1, u "jdk/internal/util/ArraysSupport"), (0, u "LOG2_ARRAY_LONG_INDEX_SCALE"), (0, u "I"), (2, u "U"), (0, u "Ljdk/internal/misc/Unsafe;"), (8, u "BIG_ENDIAN"), (0, u "Z"), (8, u "LOG2_BYTE_BIT_SIZE"), (4, u "LOG2_ARRAY_INT_INDEX_SCALE"), (54, u "JLA"), (0, u "Ljdk/internal/access/JavaLangAccess;"), (11, u "LOG2_ARRAY_BOOLEAN_INDEX_SCALE"), (9, u "LOG2_ARRAY_BYTE_INDEX_SCALE"), (5, u "LOG2_ARRAY_CHAR_INDEX_SCALE"), (5, u "LOG2_ARRAY_SHORT_INDEX_SCALE"), (18, u "LOG2_ARRAY_FLOAT_INDEX_SCALE"), (24, u "LOG2_ARRAY_DOUBLE_INDEX_SCALE"), (89, u "T_BOOLEAN"), (2, u "T_CHAR"), (1, u "T_FLOAT"), (1, u "T_DOUBLE"), (1, u "T_BYTE"), (1, u "T_SHORT"), (1, u "T_INT"), (1, u "T_LONG"), (1, u "SOFT_MAX_ARRAY_LENGTH")] 83

def k11m0 : Method := { name := "<init>", desc := "()V", sig := { parameters := [], returnType := none }, accessFlags := 2, code := none }
/-- jdk/internal/util/ArraysSupport -/
def k11 : Class := { plain "jdk/internal/util/ArraysSupport" (some 0) with
  accessFlags := 33
  interfaces := #[]
  cf := some (fileOf pool11 21 #[] #[{ accessFlags := 2, nameIndex := 9, descriptorIndex := 19, attributes := #[] }] 33 16 #[] #[{ accessFlags := 24, nameIndex := 28, descriptorIndex := 29, attributes := #[] }, { accessFlags := 26, nameIndex := 38, descriptorIndex := 39, attributes := #[] }, { accessFlags := 25, nameIndex := 121, descriptorIndex := 25, attributes := #[] }, { accessFlags := 25, nameIndex := 131, descriptorIndex := 25, attributes := #[] }, { accessFlags := 25, nameIndex := 137, descriptorIndex := 25, attributes := #[] }, { accessFlags := 25, nameIndex := 143, descriptorIndex := 25, attributes := #[] }, { accessFlags := 25, nameIndex := 53, descriptorIndex := 25, attributes := #[] }, { accessFlags := 25, nameIndex := 24, descriptorIndex := 25, attributes := #[] }, { accessFlags := 25, nameIndex := 162, descriptorIndex := 25, attributes := #[] }, { accessFlags := 25, nameIndex := 187, descriptorIndex := 25, attributes := #[] }, { accessFlags := 26, nameIndex := 48, descriptorIndex := 25, attributes := #[] }, { accessFlags := 25, nameIndex := 277, descriptorIndex := 25, attributes := #[] }, { accessFlags := 25, nameIndex := 280, descriptorIndex := 25, attributes := #[] }, { accessFlags := 25, nameIndex := 282, descriptorIndex := 25, attributes := #[] }, { accessFlags := 25, nameIndex := 284, descriptorIndex := 25, attributes := #[] }, { accessFlags := 25, nameIndex := 286, descriptorIndex := 25, attributes := #[] }, { accessFlags := 25, nameIndex := 288, descriptorIndex := 25, attributes := #[] }, { accessFlags := 25, nameIndex := 290, descriptorIndex := 25, attributes := #[] }, { accessFlags := 25, nameIndex := 292, descriptorIndex := 25, attributes := #[] }, { accessFlags := 26, nameIndex := 108, descriptorIndex := 109, attributes := #[] }, { accessFlags := 25, nameIndex := 294, descriptorIndex := 25, attributes := #[] }])
  fields := #[{ name := "U", type := (.object "jdk/internal/misc/Unsafe"), accessFlags := 24, slot := 0, constantValue := 0 }, { name := "BIG_ENDIAN", type := .boolean, accessFlags := 26, slot := 1, constantValue := 0 }, { name := "LOG2_ARRAY_BOOLEAN_INDEX_SCALE", type := .int, accessFlags := 25, slot := 2, constantValue := 0 }, { name := "LOG2_ARRAY_BYTE_INDEX_SCALE", type := .int, accessFlags := 25, slot := 3, constantValue := 0 }, { name := "LOG2_ARRAY_CHAR_INDEX_SCALE", type := .int, accessFlags := 25, slot := 4, constantValue := 0 }, { name := "LOG2_ARRAY_SHORT_INDEX_SCALE", type := .int, accessFlags := 25, slot := 5, constantValue := 0 }, { name := "LOG2_ARRAY_INT_INDEX_SCALE", type := .int, accessFlags := 25, slot := 6, constantValue := 0 }, { name := "LOG2_ARRAY_LONG_INDEX_SCALE", type := .int, accessFlags := 25, slot := 7, constantValue := 0 }, { name := "LOG2_ARRAY_FLOAT_INDEX_SCALE", type := .int, accessFlags := 25, slot := 8, constantValue := 0 }, { name := "LOG2_ARRAY_DOUBLE_INDEX_SCALE", type := .int, accessFlags := 25, slot := 9, constantValue := 0 }, { name := "LOG2_BYTE_BIT_SIZE", type := .int, accessFlags := 26, slot := 10, constantValue := 0 }, { name := "T_BOOLEAN", type := .int, accessFlags := 25, slot := 11, constantValue := 0 }, { name := "T_CHAR", type := .int, accessFlags := 25, slot := 12, constantValue := 0 }, { name := "T_FLOAT", type := .int, accessFlags := 25, slot := 13, constantValue := 0 }, { name := "T_DOUBLE", type := .int, accessFlags := 25, slot := 14, constantValue := 0 }, { name := "T_BYTE", type := .int, accessFlags := 25, slot := 15, constantValue := 0 }, { name := "T_SHORT", type := .int, accessFlags := 25, slot := 16, constantValue := 0 }, { name := "T_INT", type := .int, accessFlags := 25, slot := 17, constantValue := 0 }, { name := "T_LONG", type := .int, accessFlags := 25, slot := 18, constantValue := 0 }, { name := "JLA", type := (.object "jdk/internal/access/JavaLangAccess"), accessFlags := 26, slot := 19, constantValue := 0 }, { name := "SOFT_MAX_ARRAY_LENGTH", type := .int, accessFlags := 25, slot := 20, constantValue := 0 }]
  methods := #[k11m0]
  instanceTypes := #[]
  staticTypes := #[(.object "jdk/internal/misc/Unsafe"), .boolean, .int, .int, .int, .int, .int, .int, .int, .int, .int, .int, .int, .int, .int, .int, .int, .int, .int, (.object "jdk/internal/access/JavaLangAccess"), .int]
  resolved := Array.replicate 378 none
  statics := none }

def pool12 : Array CpInfo := pool [(1, u "java/lang/Cloneable"), (0, .class_ 1), (0, u "java/lang/Object"), (0, .class_ 3)] 3

/-- java/lang/Cloneable -/
def k12 : Class := { plain "java/lang/Cloneable" (some 0) with
  accessFlags := 1537
  interfaces := #[]
  cf := some (fileOf pool12 2 #[] #[] 1537 4 #[] #[])
  fields := #[]
  methods := #[]
  instanceTypes := #[]
  staticTypes := #[]
  resolved := Array.replicate 8 none
  statics := none }

/-- the primitive byte -/
def k13 : Class := { plain "byte" none with kind := .primitive 'B', accessFlags := 0x411 }
/-- [B -/
def k14 : Class := { plain "[B" (some 0) with kind := .array 13 .byte, interfaces := #[12, 3], accessFlags := 1041 }

def heap : Heap := #[{ cls := 8, slots := #[.long 0, .int 1, .null, .int 0, .null, .int 0, .int 0], vm := .statics 8 },
  { cls := 10, slots := #[.null, .null, .null], vm := .statics 10 }]
def classes : Array Class := #[k0, k1, k2, k3, k4, k5, k6, k7, k8, k9, k10, k11, k12, k13, k14]
def interned : List (Array UInt16 × Addr) := []
def slotsUsed : Nat := 10
def theMethod : MethodId := ⟨1, 3⟩
def args0 : Array Value := #[.int 5, .int 6, .int 7, .int 8]
def aboutOver (below : List Frame) : State where
  vm := { classes := classes, interned := interned.toArray }
  heap := heap
  slotsUsed := slotsUsed
  threads := #[{ frames := .invoking theMethod args0 :: below }]
def below0 : List Frame := [.native { method := ⟨0, 0⟩, args := #[] }]
def about1 : State := aboutOver below0
def p0 : Program := .bare "" "" ""
def e0 : Env := launch0.env 0 0 0
theorem w_frames : about1.frames = Frame.invoking theMethod args0 :: below0 := rfl
set_option maxRecDepth 65536 in
theorem w_args : argsFit about1.vm theMethod args0 = true := by decide +kernel
set_option maxRecDepth 65536 in
theorem w_heap : heapFits about1 = true := by decide +kernel
set_option maxRecDepth 65536 in
theorem w_runnable : about1.curStatus? = some .runnable := by decide +kernel
set_option maxRecDepth 65536 in
theorem w_alone : about1.alone = true := by decide +kernel
set_option maxRecDepth 65536 in
theorem w_named : about1.methodNamed? x = some theMethod := by decide +kernel
set_option maxRecDepth 65536 in
theorem w_hears : about1.hears theMethod below0 = true := by decide +kernel
set_option maxRecDepth 65536 in
theorem w_ripe : about1.ripe theMethod args0 below0 = true := by decide +kernel
theorem w_running : about1.status = .running := rfl
set_option maxRecDepth 65536 in
theorem w_room : about1.hasRoom e0.platform room_1 = true :=
  launch0.hasRoom_least _ room_1 (by decide +kernel) (by decide +kernel) (by decide +kernel) (by decide +kernel) (by decide +kernel) (by decide +kernel)
theorem allAtoms_all (ts : List Jvm.Cond) (a : Array Jvm.Value) (st : Jvm.State) : (allAtoms ts).before a st = ts.all (fun c => c.before a st) := by
  induction ts with
  | nil => rfl
  | cons c t ih =>
    show (Jvm.Cond.and c (allAtoms t)).before a st = _
    rw [Jvm.Cond.before_and, ih, List.all_cons]
def words1 : List Jvm.Cond := Jvm.Cond.code x code maxLocals ret :: tables_1
/-- a 'code' word, met by the world's own term for the bytes: nothing is compared byte by byte -/
theorem code_word {y : MethodName} {bytes : ByteArray} {mx : Nat} {rt : Option FieldType} {a : Array Value} {s : State} {m : MethodId} {meth : Method} {c : Code} (h1 : s.methodNamed? y = some m) (h2 : s.vm.method? m = some meth) (h3 : meth.code = some c) (h4 : c.code = bytes)
    (h5 : (c.maxLocals == mx && c.exceptionTable.isEmpty && decide (c.maxStack ≤ mostOperands) && decide (meth.sig.returnType = rt) && !meth.locks && decide (parseMethodDescriptor y.desc = some meth.sig)) = true) : (Jvm.Cond.code y bytes mx rt).before a s = true := by
  simp only [Bool.and_eq_true, beq_iff_eq, Bool.not_eq_true', decide_eq_true_eq] at h5
  obtain ⟨⟨⟨⟨⟨g1, g2⟩, g3⟩, g4⟩, g5⟩, g6⟩ := h5
  simp [Cond.before, Cond.holds, Cond.value, h1, h2, h3, h4, g1, g2, g3, g4, g5, g6]
def isCode : Jvm.Cond → Bool
  | .code _ _ _ _ => true
  | _ => false
theorem all_split {L : List Jvm.Cond} {P : Jvm.Cond → Bool} (h1 : L.all (fun c => isCode c || P c) = true) (h2 : ∀ c ∈ L.filter isCode, P c = true) : L.all P = true := by
  refine List.all_eq_true.mpr fun c hc => ?_
  have h := List.all_eq_true.mp h1 c hc
  rcases Bool.eq_false_or_eq_true (isCode c) with hi | hi
  · exact h2 c (List.mem_filter.mpr ⟨hc, hi⟩)
  · simpa [hi] using h
set_option maxRecDepth 65536 in
theorem w_c0 : (Jvm.Cond.code x code maxLocals ret).before args0 about1 = true := code_word (m := ⟨1, 3⟩) (meth := k1m3) (c := k1c3) (by decide +kernel) rfl rfl rfl (by decide +kernel)
set_option maxRecDepth 65536 in
theorem w_c1 : (Jvm.Cond.code ({ cls := "com/example/rules_for_records/rulesforrecords/messageinterpolation/CandidateEqualsPinLaw", name := "make", desc := "(I)Lcom/example/rules_for_records/rulesforrecords/messageinterpolation/BundleLookup$Candidate;" } : Jvm.MethodName) method_3_code (1 : Nat) (Option.some (Jvm.ClassFile.FieldType.object "com/example/rules_for_records/rulesforrecords/messageinterpolation/BundleLookup$Candidate"))).before args0 about1 = true := code_word (m := ⟨1, 2⟩) (meth := k1m2) (c := k1c2) (by decide +kernel) rfl rfl rfl (by decide +kernel)
set_option maxRecDepth 65536 in
theorem w_c2 : (Jvm.Cond.code ({ cls := "com/example/rules_for_records/rulesforrecords/messageinterpolation/CandidateEqualsPinLaw", name := "part", desc := "(II)Ljava/lang/String;" } : Jvm.MethodName) method_2_code (3 : Nat) (Option.some (Jvm.ClassFile.FieldType.object "java/lang/String"))).before args0 about1 = true := code_word (m := ⟨1, 1⟩) (meth := k1m1) (c := k1c1) (by decide +kernel) rfl rfl rfl (by decide +kernel)
set_option maxRecDepth 65536 in
theorem w_c3 : (Jvm.Cond.code ({ cls := "com/example/rules_for_records/rulesforrecords/messageinterpolation/BundleLookup$Candidate", name := "<init>", desc := "(Ljava/lang/String;Ljava/lang/String;Ljava/lang/String;Ljava/lang/String;)V" } : Jvm.MethodName) prog_9_method_1_code (5 : Nat) (Option.none : Option Jvm.ClassFile.FieldType)).before args0 about1 = true := code_word (m := ⟨2, 0⟩) (meth := k2m0) (c := k2c0) (by decide +kernel) rfl rfl rfl (by decide +kernel)
set_option maxRecDepth 65536 in
theorem w_c4 : (Jvm.Cond.code ({ cls := "java/lang/Object", name := "<init>", desc := "()V" } : Jvm.MethodName) object_method_1_code (1 : Nat) (Option.none : Option Jvm.ClassFile.FieldType)).before args0 about1 = true := code_word (m := ⟨0, 0⟩) (meth := k0m0) (c := k0c0) (by decide +kernel) rfl rfl rfl (by decide +kernel)
set_option maxRecDepth 65536 in
theorem w_c5 : (Jvm.Cond.code ({ cls := "com/example/rules_for_records/rulesforrecords/messageinterpolation/BundleLookup$Candidate", name := "equals", desc := "(Ljava/lang/Object;)Z" } : Jvm.MethodName) prog_9_method_5_code (3 : Nat) (Option.some Jvm.ClassFile.FieldType.boolean)).before args0 about1 = true := code_word (m := ⟨2, 1⟩) (meth := k2m1) (c := k2c1) (by decide +kernel) rfl rfl rfl (by decide +kernel)
set_option maxRecDepth 65536 in
theorem w_c6 : (Jvm.Cond.code ({ cls := "java/lang/String", name := "valueOf", desc := "(C)Ljava/lang/String;" } : Jvm.MethodName) jdk_42_method_139_code (1 : Nat) (Option.some (Jvm.ClassFile.FieldType.object "java/lang/String"))).before args0 about1 = true := code_word (m := ⟨8, 2⟩) (meth := k8m2) (c := k8c2) (by decide +kernel) rfl rfl rfl (by decide +kernel)
set_option maxRecDepth 65536 in
theorem w_c7 : (Jvm.Cond.code ({ cls := "java/lang/StringLatin1", name := "canEncode", desc := "(C)Z" } : Jvm.MethodName) jdk_43_method_3_code (1 : Nat) (Option.some Jvm.ClassFile.FieldType.boolean)).before args0 about1 = true := code_word (m := ⟨9, 1⟩) (meth := k9m1) (c := k9c1) (by decide +kernel) rfl rfl rfl (by decide +kernel)
set_option maxRecDepth 65536 in
theorem w_c8 : (Jvm.Cond.code ({ cls := "java/lang/StringLatin1", name := "toBytes", desc := "(C)[B" } : Jvm.MethodName) jdk_43_method_46_code (1 : Nat) (Option.some (Jvm.ClassFile.FieldType.array Jvm.ClassFile.FieldType.byte))).before args0 about1 = true := code_word (m := ⟨9, 3⟩) (meth := k9m3) (c := k9c3) (by decide +kernel) rfl rfl rfl (by decide +kernel)
set_option maxRecDepth 65536 in
theorem w_c9 : (Jvm.Cond.code ({ cls := "java/lang/String", name := "<init>", desc := "([BB)V" } : Jvm.MethodName) jdk_42_method_151_code (3 : Nat) (Option.none : Option Jvm.ClassFile.FieldType)).before args0 about1 = true := code_word (m := ⟨8, 3⟩) (meth := k8m3) (c := k8c3) (by decide +kernel) rfl rfl rfl (by decide +kernel)
set_option maxRecDepth 65536 in
theorem w_c10 : (Jvm.Cond.code ({ cls := "java/lang/String", name := "equals", desc := "(Ljava/lang/Object;)Z" } : Jvm.MethodName) jdk_42_method_66_code (3 : Nat) (Option.some Jvm.ClassFile.FieldType.boolean)).before args0 about1 = true := code_word (m := ⟨8, 1⟩) (meth := k8m1) (c := k8c1) (by decide +kernel) rfl rfl rfl (by decide +kernel)
set_option maxRecDepth 65536 in
theorem w_c11 : (Jvm.Cond.code ({ cls := "java/lang/StringLatin1", name := "equals", desc := "([B[B)Z" } : Jvm.MethodName) jdk_43_method_13_code (3 : Nat) (Option.some Jvm.ClassFile.FieldType.boolean)).before args0 about1 = true := code_word (m := ⟨9, 2⟩) (meth := k9m2) (c := k9c2) (by decide +kernel) rfl rfl rfl (by decide +kernel)
def codes1 : List Jvm.Cond := [Jvm.Cond.code x code maxLocals ret, Jvm.Cond.code ({ cls := "com/example/rules_for_records/rulesforrecords/messageinterpolation/CandidateEqualsPinLaw", name := "make", desc := "(I)Lcom/example/rules_for_records/rulesforrecords/messageinterpolation/BundleLookup$Candidate;" } : Jvm.MethodName) method_3_code (1 : Nat) (Option.some (Jvm.ClassFile.FieldType.object "com/example/rules_for_records/rulesforrecords/messageinterpolation/BundleLookup$Candidate")), Jvm.Cond.code ({ cls := "com/example/rules_for_records/rulesforrecords/messageinterpolation/CandidateEqualsPinLaw", name := "part", desc := "(II)Ljava/lang/String;" } : Jvm.MethodName) method_2_code (3 : Nat) (Option.some (Jvm.ClassFile.FieldType.object "java/lang/String")), Jvm.Cond.code ({ cls := "com/example/rules_for_records/rulesforrecords/messageinterpolation/BundleLookup$Candidate", name := "<init>", desc := "(Ljava/lang/String;Ljava/lang/String;Ljava/lang/String;Ljava/lang/String;)V" } : Jvm.MethodName) prog_9_method_1_code (5 : Nat) (Option.none : Option Jvm.ClassFile.FieldType), Jvm.Cond.code ({ cls := "java/lang/Object", name := "<init>", desc := "()V" } : Jvm.MethodName) object_method_1_code (1 : Nat) (Option.none : Option Jvm.ClassFile.FieldType), Jvm.Cond.code ({ cls := "com/example/rules_for_records/rulesforrecords/messageinterpolation/BundleLookup$Candidate", name := "equals", desc := "(Ljava/lang/Object;)Z" } : Jvm.MethodName) prog_9_method_5_code (3 : Nat) (Option.some Jvm.ClassFile.FieldType.boolean), Jvm.Cond.code ({ cls := "java/lang/String", name := "valueOf", desc := "(C)Ljava/lang/String;" } : Jvm.MethodName) jdk_42_method_139_code (1 : Nat) (Option.some (Jvm.ClassFile.FieldType.object "java/lang/String")), Jvm.Cond.code ({ cls := "java/lang/StringLatin1", name := "canEncode", desc := "(C)Z" } : Jvm.MethodName) jdk_43_method_3_code (1 : Nat) (Option.some Jvm.ClassFile.FieldType.boolean), Jvm.Cond.code ({ cls := "java/lang/StringLatin1", name := "toBytes", desc := "(C)[B" } : Jvm.MethodName) jdk_43_method_46_code (1 : Nat) (Option.some (Jvm.ClassFile.FieldType.array Jvm.ClassFile.FieldType.byte)), Jvm.Cond.code ({ cls := "java/lang/String", name := "<init>", desc := "([BB)V" } : Jvm.MethodName) jdk_42_method_151_code (3 : Nat) (Option.none : Option Jvm.ClassFile.FieldType), Jvm.Cond.code ({ cls := "java/lang/String", name := "equals", desc := "(Ljava/lang/Object;)Z" } : Jvm.MethodName) jdk_42_method_66_code (3 : Nat) (Option.some Jvm.ClassFile.FieldType.boolean), Jvm.Cond.code ({ cls := "java/lang/StringLatin1", name := "equals", desc := "([B[B)Z" } : Jvm.MethodName) jdk_43_method_13_code (3 : Nat) (Option.some Jvm.ClassFile.FieldType.boolean)]
set_option maxRecDepth 65536 in
theorem codes_eq : words1.filter isCode = codes1 := rfl
theorem w_codes : ∀ c ∈ words1.filter isCode, c.before args0 about1 = true := by
  rw [codes_eq]
  intro c hc
  simp only [codes1, List.mem_cons, List.not_mem_nil, or_false] at hc
  rcases hc with rfl | rfl | rfl | rfl | rfl | rfl | rfl | rfl | rfl | rfl | rfl | rfl
  · exact w_c0
  · exact w_c1
  · exact w_c2
  · exact w_c3
  · exact w_c4
  · exact w_c5
  · exact w_c6
  · exact w_c7
  · exact w_c8
  · exact w_c9
  · exact w_c10
  · exact w_c11
set_option maxRecDepth 65536 in
theorem w_t1 : (words1.take 24).all (fun c => isCode c || c.before args0 about1) = true := by decide +kernel
set_option maxRecDepth 65536 in
theorem w_t2 : ((words1.drop 24).take 24).all (fun c => isCode c || c.before args0 about1) = true := by decide +kernel
set_option maxRecDepth 65536 in
theorem w_t3 : ((words1.drop 24).drop 24).all (fun c => isCode c || c.before args0 about1) = true := by decide +kernel
theorem w_tables : (allAtoms (Jvm.Cond.code x code maxLocals ret :: tables_1)).before args0 about1 = true := by
  rw [allAtoms_all]
  show words1.all (fun c => c.before args0 about1) = true
  refine all_split ?_ w_codes
  rw [← List.take_append_drop 24 words1, List.all_append, w_t1, ← List.take_append_drop 24 (words1.drop 24), List.all_append, w_t2, w_t3]
  rfl
set_option maxRecDepth 65536 in
theorem w_rest : rest_1_c.before args0 about1 = true := by decide +kernel
set_option maxRecDepth 65536 in
theorem w_case : (Jvm.Cond.and given_1 narrow_1).before args0 about1 = true := by decide +kernel
set_option maxRecDepth 65536 in
theorem w_consts : constsHeld consts_1 about1 := Jvm.Lit.constsHeldB_iff.mp (by decide +kernel)
theorem w_applies : (headSpec (Jvm.Cond.code x code maxLocals ret :: tables_1) room_1).applies x e0.platform about1 = true :=
  (Spec.applies_iff w_frames).mpr ⟨w_running, w_runnable, w_alone, w_named, w_hears, w_ripe, w_room, w_tables⟩
theorem atStart : AtStart classFile x code maxLocals ret World_1 tables_1 room_1 Calls_1 rest_1 Pre_1 launch0 p0 e0 about1 theMethod args0 below0 :=
  ⟨lists_1, trivial, launch0.admits_env _ _ _, launch0.least_env, fairChoices_fair.cas, fairChoices_fair.clock, w_frames, w_args, w_heap, w_applies, ⟨w_consts, trivial⟩, w_rest, w_case⟩
end start1
theorem witness_1 : WitnessClaimed_1 := ⟨start1.p0, start1.e0, start1.about1, start1.theMethod, start1.args0, start1.below0, start1.atStart⟩
end Jvm.Pilot.@@N@@
