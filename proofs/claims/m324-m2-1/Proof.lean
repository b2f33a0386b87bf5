import JvmDerived
import JvmDerived.Pilot.@@N@@Statement
import JvmDerived.Pilot.@@N@@Code
set_option linter.unusedVariables false
set_option linter.unusedSimpArgs false
namespace Jvm.Pilot.@@N@@
open Jvm Jvm.ClassFile Sem Op Lib Jvm.Free Jvm.Stand Jvm.LawKit Jvm.RoadKit Bundle Jvm.Pilot.@@N@@.Jvm.D
section Own
variable {p : Program} {l : Launch} {e : Env} {R : Room} {s : State} {m : MethodId} {args : Array Value} {below : List Frame} {meth : Method} {c : Code} {Z : State} {a0 : Array Value} {own : String} {cd : ByteArray} {mx : Nat} {ret : Option FieldType} {nm : String}
variable {EL : List (String × Nat)} {n0 bk : Nat} {eb : Heap → Nat} {Q : Option Value → Heap → Prop} {h h' h1 h2 : Heap} {k n : Nat} {vm0 : Vm}
/-- the cells that P names stand in h' as they stood in h -/
def OKp (P : Nat → Prop) (h h' : Heap) : Prop := h.size ≤ h'.size ∧ ∀ (x : Nat) (cl : Cell), P x → h[x]? = some cl → h'[x]? = some cl
section Facts
variable {P P' : Nat → Prop} {a b : Nat} {C O nn d : String} {v w : Value} {sl : Nat} {ty : FieldType}
theorem OKp.refl : OKp P h h := ⟨Nat.le_refl _, fun _ _ _ q => q⟩
theorem OKp.trans (A : OKp P h h1) (B : OKp P h1 h2) : OKp P h h2 := ⟨Nat.le_trans A.1 B.1, fun x cl q r => B.2 x cl q (A.2 x cl q r)⟩
theorem OKp.weak (A : OKp P h h') (q : ∀ x, P' x → P x) : OKp P' h h' := ⟨A.1, fun x cl r => A.2 x cl (q x r)⟩
theorem OKp.ofExt (E : Ext h h') : OKp P h h' := ⟨E.1, fun x cl _ r => E.2 x cl r⟩
theorem OKp.ofWr (W : Wr h h' a sl v) : OKp (fun x => x ≠ a) h h' := ⟨Nat.le_of_eq W.size.symm, fun x cl q r => by obtain ⟨c', e1, -, -, -, e5, -⟩ := wr_at W r; rw [← e5 q]; exact e1⟩
theorem OKp.ext (A : OKp P h h1) (E : Ext h1 h2) : OKp P h h2 := A.trans (OKp.ofExt E)
theorem OKp.wr (A : OKp P h h1) (W : Wr h1 h2 a sl v) (q : ∀ x, P x → x ≠ a) : OKp P h h2 := A.trans ((OKp.ofWr W).weak q)
theorem own_exa (K : OKp P h h') (F : Exa Z h a C) (q : P a) : Exa Z h' a C := by obtain ⟨cell, kk, g1, r⟩ := F; exact ⟨cell, kk, K.2 _ _ q g1, r⟩
theorem own_fld (K : OKp P h h') (F : Fld Z h a O nn d v) (q : P a) : Fld Z h' a O nn d v := by obtain ⟨cell, cf, kk, i, f, g1, r⟩ := F; exact ⟨cell, cf, kk, i, f, K.2 _ _ q g1, r⟩
theorem own_arr {cl : Cell} (K : OKp P h h') (F : Arr Z h a cl ty) (q : P a) : Arr Z h' a cl ty := ⟨K.2 _ _ q F.1, F.2⟩
theorem own_ins {bo : Bool} (K : OKp P h h') (F : Ins Z h a C bo) (q : P a) : Ins Z h' a C bo := by obtain ⟨cell, kk, g1, r⟩ := F; exact ⟨cell, kk, K.2 _ _ q g1, r⟩
/-- an array of ints (bytes, chars ..) with these components -/
def Ar (Z : State) (h : Heap) (a : Nat) (ty : FieldType) (xs : List Int32) : Prop := ∃ cl : Cell, Arr Z h a cl ty ∧ cl.slots.size = xs.length ∧ xs.length < 2147483648 ∧ (∀ (i : Nat) (x : Int32), xs[i]? = some x → cl.slots[i]? = some (Value.int x)) ∧ ∀ x ∈ xs, fits ty (Value.int x) = true
theorem Ar.kp {xs : List Int32} (K : OKp P h h') (F : Ar Z h a ty xs) (q : P a) : Ar Z h' a ty xs := by obtain ⟨cl, A, r⟩ := F; exact ⟨cl, own_arr K A q, r⟩
theorem Ar.lt {xs : List Int32} (F : Ar Z h a ty xs) : a < h.size := by obtain ⟨cl, A, r⟩ := F; exact A.lt
theorem Ar.ext {xs : List Int32} (F : Ar Z h a ty xs) (E : Ext h h') : Ar Z h' a ty xs := F.kp (P := fun _ => True) (OKp.ofExt E) trivial
theorem Ar.other {xs : List Int32} (F : Ar Z h b ty xs) (W : Wr h h' a sl v) (q : b ≠ a) : Ar Z h' b ty xs := F.kp (OKp.ofWr W) q
theorem own_len31 {i : Nat} {j : Int32} (hi : i < 2147483648) (hj : j = Int32.ofNat i) : ¬ j < 0 ∧ j.toNatClampNeg = i := by
  subst hj
  have e : (Int32.ofNat i).toInt = i := Int32.toInt_ofNat_small (by omega)
  refine ⟨?_, by simp only [Int32.toNatClampNeg, e]; omega⟩
  rw [Int32.lt_iff_toInt_lt, e]; have : (0 : Int32).toInt = 0 := rfl; omega
theorem Ar.set {xs : List Int32} {i : Nat} {x : Int32} (F : Ar Z h a ty xs) (W : Wr h h' a i (.int x)) (hi : i < xs.length) (hf : fits ty (.int x) = true) : Ar Z h' a ty (xs.set i x) := by
  obtain ⟨cl, A, g1, g2, g3, g4⟩ := F
  refine ⟨cl.setSlot i (.int x), A.same W, by rw [sz_set, List.length_set, g1], by rw [List.length_set]; exact g2, fun j y hy => ?_, fun y hy => ?_⟩
  · rw [List.getElem?_set] at hy
    by_cases q : i = j
    · subst q; rw [if_pos rfl, if_pos hi] at hy; cases hy; simp [Cell.setSlot, g1, hi]
    · rw [if_neg q] at hy; simp only [Cell.setSlot]; rw [Array.getElem?_setIfInBounds_ne q]; exact g3 j y hy
  · rcases List.mem_or_eq_of_mem_set hy with q | rfl
    · exact g4 y q
    · exact hf
theorem Ar.arv {xs : List Int32} (F : Ar Z h a ty xs) : ∃ kb, Arv Z h a kb ty (Int32.ofNat xs.length) (xs.map Value.int) (.int 0) := by
  obtain ⟨cl, A, g1, g2, g3, g4⟩ := F
  obtain ⟨q1, q2⟩ := own_len31 g2 rfl
  refine ⟨cl.cls, cl, A, rfl, by rw [q2, g1], q1, fun i hi => ?_, fun i hi => ?_⟩
  · rw [g1] at hi
    have e : xs[i]? = some xs[i] := List.getElem?_eq_getElem hi
    rw [g3 i _ e, List.getD_eq_getElem?_getD, List.getElem?_map, e]; rfl
  · rw [g1] at hi
    have e : xs[i]? = some xs[i] := List.getElem?_eq_getElem hi
    rw [List.getD_eq_getElem?_getD, List.getElem?_map, e]
    exact g4 _ (List.getElem_mem hi)
theorem Ar.ofArv {xs : List Int32} {kb : ClassId} (F : Arv Z h a kb ty (Int32.ofNat xs.length) (xs.map Value.int) (.int 0)) (hn : xs.length < 2147483648) : Ar Z h a ty xs := by
  obtain ⟨cl, A, -, g1, -, H, G⟩ := F
  rw [(own_len31 hn rfl).2] at g1
  refine ⟨cl, A, g1, hn, fun i x hx => ?_, fun x hx => ?_⟩
  · have hi : i < xs.length := (List.getElem?_eq_some_iff.mp hx).1
    rw [H i (by omega), List.getD_eq_getElem?_getD, List.getElem?_map, hx]; rfl
  · obtain ⟨i, hi, rfl⟩ := List.getElem_of_mem hx
    have q := G i (by omega)
    rw [List.getD_eq_getElem?_getD, List.getElem?_map, List.getElem?_eq_getElem hi] at q
    exact q
theorem own_ne_exa_ar {kk : Nat} {xs : List Int32} (E : Exa Z h a C) (wi : (Cond.instantiable C kk).before a0 Z = true) (F : Ar Z h b ty xs) : a ≠ b := by obtain ⟨cl, A, -⟩ := F; exact ne_arr E wi A
end Facts
/-- what may be written although String constants are booked -/
def Sf (Z : State) (h : Heap) (bk : Nat) (a : Nat) : Prop := bk ≤ a ∨ (∃ C, Exa Z h a C ∧ C ≠ "java/lang/String" ∧ C ≠ "[B") ∨ ∃ ty xs, Ar Z h a ty xs ∧ ty ≠ .byte
/-- what a walk bears along -/
def OInv (s Z : State) (own : String) (EL : List (String × Nat)) (m : MethodId) (n0 bk : Nat) (vm0 : Vm) (h : Heap) : Prop :=
  (∃ k0, s.Since vm0 k0 ∧ k0 ≤ h.size) ∧ Z.Warmed39 vm0 ∧ vm0.findClass own = some m.cls ∧ CHr Z EL s.vm s.heap vm0 h ∧ (∀ y, Bk Z EL vm0 h y → y < bk) ∧ OKp (fun x => x < n0) s.heap h ∧ Ext Z.heap h ∧ Z.heap.size ≤ n0
theorem own_exttrans {g : Heap} (A : Ext g h) (B : Ext h h') : Ext g h' := ⟨Nat.le_trans A.1 B.1, fun x cl q => B.2 x cl (A.2 x cl q)⟩
theorem OInv.ext (I : OInv s Z own EL m n0 bk vm0 h) (E : Ext h h') : OInv s Z own EL m n0 bk vm0 h' := by
  obtain ⟨⟨k0, i1, i2⟩, i3, i4, i5, i6, i7, i8, i9⟩ := I
  exact ⟨⟨k0, i1, Nat.le_trans i2 E.1⟩, i3, i4, i5.trans (CHr.ext E i5.1), fun y B => i6 y ((i5.1.step fun _ _ _ q => E.2 _ _ q).2 y B), i7.ext E, own_exttrans i8 E, i9⟩
theorem OInv.safe {a : Nat} (I : OInv s Z own EL m n0 bk vm0 h) (S : Sf Z h bk a) : Safe Z EL vm0 h a := by
  rcases S with q | ⟨C, E, q1, q2⟩ | ⟨ty, xs, ⟨cl, A, -⟩, q⟩
  · exact fun B => absurd (I.2.2.2.2.1 a B) (Nat.not_lt.mpr q)
  · exact Safe.exa I.2.1.alike E q1 q2
  · exact Safe.arr I.2.1.alike A q
theorem OInv.wr {a : Nat} {sl : Nat} {v : Value} (I : OInv s Z own EL m n0 bk vm0 h) (W : Wr h h' a sl v) (hn : n0 ≤ a) (S : Sf Z h bk a) : OInv s Z own EL m n0 bk vm0 h' := by
  have hs := I.safe S
  obtain ⟨⟨k0, i1, i2⟩, i3, i4, i5, i6, i7, i8, i9⟩ := I
  refine ⟨⟨k0, i1, by rw [W.size]; exact i2⟩, i3, i4, i5.trans (CHr.wr W hs i5.1), fun y B => i6 y ((i5.1.wrStep W hs).2 y B), i7.wr W (fun x q e => absurd (show x < n0 from q) (by rw [show x = a from e]; exact Nat.not_lt.mpr hn)), ?_, i9⟩
  refine ⟨by rw [W.size]; exact i8.1, fun x cl q => ?_⟩
  have hx := (Array.getElem?_eq_some_iff.mp q).1
  obtain ⟨c', e1, -, -, -, e5, -⟩ := wr_at W (i8.2 x cl q)
  rw [← e5 (fun e => by rw [show x = a from e] at hx; omega)]; exact e1
/-- .. over a law of the library that keeps all but one cell -/
theorem OInv.keep {a : Nat} (I : OInv s Z own EL m n0 bk vm0 h) (W : Keep h h' [a]) (hn : n0 ≤ a) (S : Sf Z h bk a) : OInv s Z own EL m n0 bk vm0 h' := by
  have hs : ∀ x ∈ [a], Safe Z EL vm0 h x := fun x hx => by cases List.mem_singleton.mp hx; exact I.safe S
  obtain ⟨⟨k0, i1, i2⟩, i3, i4, i5, i6, i7, i8, i9⟩ := I
  refine ⟨⟨k0, i1, Nat.le_trans i2 W.1⟩, i3, i4, i5.trans (CHr.keep W hs i5.1), fun y B => i6 y ((i5.1.keepStep W hs).2 y B), i7.trans ⟨W.1, fun x cl q r => W.2.1 x cl r fun hm => ?_⟩, ?_, i9⟩
  · cases List.mem_singleton.mp hm; exact absurd (show a < n0 from q) (Nat.not_lt.mpr hn)
  · refine ⟨Nat.le_trans i8.1 W.1, fun x cl q => W.2.1 x cl (i8.2 x cl q) fun hm => ?_⟩
    have hx := (Array.getElem?_eq_some_iff.mp q).1
    cases List.mem_singleton.mp hm; omega
/-- what a walk knows of its own method -/
def Ctx (p : Program) (meth : Method) (c : Code) (Z : State) (a0 : Array Value) (EL : List (String × Nat)) (cd : ByteArray) (mx : Nat) (ret : Option FieldType) (nm : String) : Prop :=
  p.tables.exec = Jvm.exec ∧ EW Z a0 EL ∧ True ∧ meth.sig.returnType = ret ∧ meth.locks = false ∧ c.code = cd ∧ c.maxLocals = mx ∧ meth.name = nm
/-- from this frame, over the heap h, the run returns, and Q holds of what it returns and leaves -/
def Go (p : Program) (l : Launch) (e : Env) (R : Room) (s : State) (m : MethodId) (args : Array Value) (below : List Frame) (meth : Method) (c : Code) (Z : State) (own : String) (EL : List (String × Nat)) (n0 : Nat) (eb : Heap → Nat) (Q : Option Value → Heap → Prop) (bk : Nat) (h : Heap) (k n : Nat) (pc : Nat) (Ls : Array Slot) (st : List Value) : Prop :=
  ∀ T L vm0, Stand p l e R (s.setVm vm0) m args below meth c T L k n → T.heap = h → Fr n0 L → OInv s Z own EL m n0 bk vm0 h →
    ∃ t v L', Steps p.tables e below (T.setTop (mkF m pc Ls st)) t ∧ t.status = .running ∧ Ended t below (.returned v) ∧ Fr n0 L' ∧ (∃ k' n', k' ≤ R.cells ∧ n' ≤ R.slots ∧ ReturnedEndW s (.returned v) t L' k' n') ∧ CHr Z EL s.vm s.heap t.vm t.heap ∧ (∀ y, Bk Z EL t.vm t.heap y → y < eb t.heap) ∧ OKp (fun x => x < n0) s.heap t.heap ∧ Ext Z.heap t.heap ∧ Q v t.heap
theorem Go.pure {pc pc' : Nat} {Ls Ls' : Array Slot} {st st' : List Value} (hs : ∀ T t, At T m c below → Steps p.tables e below (T.setTop (mkF m pc' Ls' st')) t → Steps p.tables e below (T.setTop (mkF m pc Ls st)) t) (K : Go p l e R s m args below meth c Z own EL n0 eb Q bk h k n pc' Ls' st') : Go p l e R s m args below meth c Z own EL n0 eb Q bk h k n pc Ls st := fun T L vm0 X eh hF I => by
  obtain ⟨t, v, L', h1, r⟩ := K T L vm0 X eh hF I
  exact ⟨t, v, L', hs T t X.here h1, r⟩
theorem Go.more {pc : Nat} {Ls : Array Slot} {st : List Value} (k2 n2 : Nat) (hk : k ≤ k2) (hn : n ≤ n2) (K : Go p l e R s m args below meth c Z own EL n0 eb Q bk h k2 n2 pc Ls st) : Go p l e R s m args below meth c Z own EL n0 eb Q bk h k n pc Ls st := fun T L vm0 X eh hF I => K T L vm0 (X.more hk hn) eh hF I
theorem Go.upbk {pc : Nat} {Ls : Array Slot} {st : List Value} (bk2 : Nat) (hb : bk ≤ bk2 ∨ h.size ≤ bk2) (K : Go p l e R s m args below meth c Z own EL n0 eb Q bk2 h k n pc Ls st) : Go p l e R s m args below meth c Z own EL n0 eb Q bk h k n pc Ls st := fun T L vm0 X eh hF I => K T L vm0 X eh hF (by
  obtain ⟨i1, i3, i4, i5, i6, i7, i8, i9⟩ := I
  refine ⟨i1, i3, i4, i5, fun y B => ?_, i7, i8, i9⟩
  rcases hb with q | q
  · exact Nat.lt_of_lt_of_le (i6 y B) q
  · obtain ⟨cell, g⟩ := B.there
    exact Nat.lt_of_lt_of_le (Array.getElem?_eq_some_iff.mp g).1 q)
theorem Go.rebk {pc : Nat} {Ls : Array Slot} {st : List Value} (bk2 : Nat) (e2 : bk = bk2) (K : Go p l e R s m args below meth c Z own EL n0 eb Q bk2 h k n pc Ls st) : Go p l e R s m args below meth c Z own EL n0 eb Q bk h k n pc Ls st := e2 ▸ K
/-- a contract -/
def Met (l : Launch) (Z : State) (EL : List (String × Nat)) (y : MethodName) (cd : ByteArray) (mx : Nat) (ret : Option FieldType) (ws : List Jvm.Cond) (rm : Room) (as : Array Value) (n0 bk : Nat) (h : Heap) (eb : Heap → Nat) (Q : Option Value → Heap → Prop) : Prop :=
  MetFree l y (head1 (Jvm.Cond.code y cd mx ret :: ws) rm) (fun a U => a = as ∧ Z.Warmed39 U.vm ∧ U.heap = h ∧ Ext Z.heap h ∧ CHv Z EL U.vm h ∧ ∀ y, Bk Z EL U.vm h y → y < bk) (fun _ _ _ _ _ => True) (fun _ U o U' => ∃ v L, o = .returned v ∧ (Fr n0 L ∧ OKp (fun x => x < n0) h U'.heap ∧ Ext Z.heap U'.heap ∧ (∀ y, Bk Z EL U'.vm U'.heap y → y < eb U'.heap) ∧ Q v U'.heap) ∧ CHr Z EL U.vm U.heap U'.vm U'.heap ∧ ReturnedEndW U o U' L rm.cells rm.slots)
theorem Met.intro {y : MethodName} {ws : List Jvm.Cond} {rm : Room} {as : Array Value} {Ls : Array Slot} (hpl : plainFor y = true) (hent : ∀ m, entryFrame m as mx = mkF m 0 Ls []) (hn0 : Z.heap.size ≤ n0) (hEL : EW Z a0 EL)
    (K : ∀ p e s m below meth c, Ctx p meth c Z a0 EL cd mx ret y.name → Go p l e rm s m as below meth c Z y.cls EL n0 eb Q bk h 0 0 0 Ls []) : Met l Z EL y cd mx ret ws rm as n0 bk h eb Q := by
  refine MetFree.of_bodySF hpl hisR ?_
  intro p e s m args below meth c s₁ Bd hml0 hP hK
  obtain ⟨rfl, hZ, rfl, hE, hH, hB⟩ := hP
  have X0 : Stand p l e rm s m args below meth c s₁ [] 0 0 := Stand.of_body Bd
  have e0 : s₁.heap = s.heap := by rw [Bd.state]; rfl
  have hv : s₁.vm = s.vm := by rw [Bd.state]; rfl
  have hS : s.Since s.vm 0 := by have q := X0.warmed.since 0; rw [hv] at q; exact q
  obtain ⟨t, v, L', h1, h2, h3, h4, ⟨k', n', h5, h6, h7⟩, h8, h9, h10, h11, h12⟩ := K p e s m below meth c ⟨Bd.exec, hEL, trivial, Bd.returns, Bd.notSynchronized, Bd.bytes, hml0, (name_of_methodNamed Bd.named Bd.method).1⟩ s₁ [] s.vm X0 e0 (Fr.nil _) ⟨⟨0, hS, Nat.zero_le _⟩, hZ, findClass_of_methodNamed Bd.named, CHr.refl hH, hB, OKp.refl, hE, hn0⟩
  exact ⟨t, _, castTop (hent m) h1, h2, h3, v, L', rfl, ⟨h4, h10, h11, h9, h12⟩, h8, h7.1, h7.2.1, h7.2.2.1, h7.2.2.2.mono h5 h6⟩
theorem Met.back {y : MethodName} {rm : Room} {as : Array Value} {cd' : ByteArray} {mx' : Nat} {ret' : Option FieldType} {b bkc : Nat} {eb' : Heap → Nat} {Q' : Option Value → Heap → Prop} {len W : Nat} (hM : Met l Z EL y cd' mx' ret' [] rm as b bkc h eb' Q') (hZ : Z.Warmed39 vm0) (hX : Ext Z.heap h) (wc : (Cond.code y cd' mx' ret').before a0 Z = true) (wz : (Cond.initialized y.cls).before a0 Z = true) (hf : rm.frames + 1 ≤ R.frames) (hl : W + (mx' + 11) + rm.locals ≤ R.locals) (hEL : EW Z a0 EL) (H : CHv Z EL vm0 h) (hB : ∀ y, Bk Z EL vm0 h y → y < bkc) :
    BackS l R p e below (s.setVm vm0) args y len W (fun A a => a = as ∧ A.U.heap = h ∧ A.cells + rm.cells ≤ R.cells ∧ A.slots + rm.slots ≤ R.slots)
      (fun A _ v B => ∃ L, (Fr b L ∧ OKp (fun x => x < b) h B.U.heap ∧ Ext Z.heap B.U.heap ∧ (∀ y, Bk Z EL B.U.vm B.U.heap y → y < eb' B.U.heap) ∧ Q' v B.U.heap) ∧ B.locs = A.locs ++ L ∧ B.cells = A.cells + rm.cells ∧ B.slots = A.slots + rm.slots ∧ CHr Z EL vm0 h B.U.vm B.U.heap) :=
  BackS.of_freeW (bytes := cd') (maxL := mx') (ret := ret') (E := fun _ first o t L k n => k = rm.cells ∧ n = rm.slots ∧ (∃ v, o = .returned v ∧ Fr b L ∧ OKp (fun x => x < b) h t.heap ∧ Ext Z.heap t.heap ∧ (∀ y, Bk Z EL t.vm t.heap y → y < eb' t.heap) ∧ Q' v t.heap) ∧ CHr Z EL first.vm first.heap t.vm t.heap) hM hf hl
    (fun m meth c A a Y hp => have hU : Z.Warmed39 A.U.vm := wtrans (s := s.setVm vm0) hZ Y.warmed
      ⟨by show (Cond.and _ .tt).before a A.U = true; rw [Cond.before_and, mv hU wc]; rfl, mv hU wc, mv hU wz, hp.2.2.1, hp.2.2.2⟩)
    (fun m meth c A a g mk Y hp => ⟨hp.1, wtrans (s := s.setVm vm0) hZ Y.warmed, hp.2.1, hX, (CHv.at Y hZ hEL H).1, fun y B => by
      rcases (CHv.at Y hZ hEL H).2.2 y B with q | q
      · exact hB y q
      · obtain ⟨cell, g⟩ := Bk.there B
        exact absurd (Array.getElem?_eq_some_iff.mp g).1 (Nat.not_lt.mpr q)⟩) (fun _ _ _ _ _ _ _ _ _ => trivial)
    (fun _ _ _ _ ⟨v, L, g1, g2, g3, g4⟩ => ⟨L, _, _, g4, rfl, rfl, ⟨v, g1, g2⟩, g3⟩)
    (fun m meth c A a g mk v t L k n Y hp _ _ ⟨e1, e2, ⟨v', e3, e4⟩, e5⟩ => by
      cases e3; subst e1 e2
      refine ⟨L, e4, rfl, rfl, rfl, (CHv.at Y hZ hEL H).trans ?_⟩
      rw [← hp.2.1]; exact e5)
/-- behind a call: the walk goes on -/
theorem Go.behind {pc pc' : Nat} {Ls : Array Slot} {st st' : List Value} {T T2 : State} {L Lc : List Loc} {vm1 : Vm} {b k2 n2 : Nat} {h2 : Heap} {eb' : Heap → Nat} (hT : T.heap = h) (hF : Fr n0 L) (I : OInv s Z own EL m n0 bk vm0 h) (hnb : n0 ≤ b) (X2 : Stand p l e R ((s.setVm vm0).setVm vm1) m args below meth c T2 (L ++ Lc) k2 n2) (e2 : T2.heap = h2)
    (hS2 : (s.setVm vm0).Since vm1 h2.size) (hgr : h.size ≤ h2.size) (q1 : Fr b Lc) (q2 : OKp (fun x => x < b) h h2) (q3 : Ext Z.heap h2) (q4 : ∀ y, Bk Z EL vm1 h2 y → y < eb' h2) (q5 : CHr Z EL vm0 h vm1 h2)
    (hst : Steps p.tables e below (T.setTop (mkF m pc Ls st)) (T2.setTop (mkF m pc' Ls st'))) (K : Go p l e R s m args below meth c Z own EL n0 eb Q (eb' h2) h2 k2 n2 pc' Ls st') :
    ∃ t v L', Steps p.tables e below (T.setTop (mkF m pc Ls st)) t ∧ t.status = .running ∧ Ended t below (.returned v) ∧ Fr n0 L' ∧ (∃ k' n', k' ≤ R.cells ∧ n' ≤ R.slots ∧ ReturnedEndW s (.returned v) t L' k' n') ∧ CHr Z EL s.vm s.heap t.vm t.heap ∧ (∀ y, Bk Z EL t.vm t.heap y → y < eb t.heap) ∧ OKp (fun x => x < n0) s.heap t.heap ∧ Ext Z.heap t.heap ∧ Q v t.heap := by
  obtain ⟨⟨k0, i1, i2⟩, i3, i4, i5, i6, i7, i8, i9⟩ := I
  obtain ⟨t, v, L', g1, r⟩ := K T2 (L ++ Lc) vm1 X2 e2 (hF.app fun y hy => Nat.le_trans hnb (q1 y hy)) ⟨⟨_, i1.trans hS2 (Nat.le_trans i2 hgr), Nat.le_refl _⟩, State.Warmed39.trans (t := s.setVm vm0) i3 hS2.1, (hS2.1.alike.findClass _ _).trans i4, i5.trans q5, q4, i7.trans (q2.weak fun x q => Nat.lt_of_lt_of_le q hnb), q3, i9⟩
  exact ⟨t, v, L', hst.trans g1, r⟩
theorem own_bkc {bkc : Nat} (I : OInv s Z own EL m n0 bk vm0 h) (hb : bk ≤ bkc ∨ h.size ≤ bkc) : ∀ y, Bk Z EL vm0 h y → y < bkc := fun y B => by
  rcases hb with q | q
  · exact Nat.lt_of_lt_of_le (I.2.2.2.2.1 y B) q
  · obtain ⟨cell, g⟩ := B.there
    exact Nat.lt_of_lt_of_le (Array.getElem?_eq_some_iff.mp g).1 q
section Calls
variable {pc : Nat} {Ls : Array Slot} {st : List Value} {i : Nat} {y y0 : MethodName} {cd' : ByteArray} {mx' : Nat} {ret' : Option FieldType} {rm : Room} {Q' : Option Value → Heap → Prop} {b bkc : Nat} {eb' : Heap → Nat} {W : Nat}
theorem Ctx.callS (C : Ctx p meth c Z a0 EL cd mx ret nm) (pc' : Nat) (argsL rest : List Value) (hd : decode cd pc = .ok (.invokestatic i, 3)) (hM : Met l Z EL y cd' mx' ret' [] rm argsL.toArray b bkc h eb' Q') (hnb : n0 ≤ b) (hb : bk ≤ bkc ∨ h.size ≤ bkc) (w1 : (Cond.methodLink own i y).before a0 Z = true) (w2 : (Cond.static y).before a0 Z = true) (w3 : (Cond.initialized y.cls).before a0 Z = true) (w4 : (Cond.code y cd' mx' ret').before a0 Z = true)
    (hy : y.cls ≠ "java/lang/invoke/MethodHandle" ∧ y.cls ≠ "java/lang/invoke/VarHandle") (hsz : Ls.size = mx) (hlen : ∀ sig, parseMethodDescriptor y.desc = some sig → argsL.length = sig.parameters.length) (hf : rm.frames + 1 ≤ R.frames) (hW : 2 * 0 + (rest.map fun v => v.category).sum ≤ W) (hl : W + (mx' + 11) + rm.locals ≤ R.locals) (hrc : k + rm.cells ≤ R.cells) (hrs : n + rm.slots ≤ R.slots) (hst : st = argsL.reverse ++ rest)
    (K : ∀ v h2, OKp (fun x => x < b) h h2 → Q' v h2 → Go p l e R s m args below meth c Z own EL n0 eb Q (eb' h2) h2 (k + rm.cells) (n + rm.slots) pc' Ls (v.toList ++ rest)) (hp : pc + 3 = pc' := by rfl) : Go p l e R s m args below meth c Z own EL n0 eb Q bk h k n pc Ls st := by
  subst hp hst
  obtain ⟨hx, hEL, -, hret, hlk, hby, hmx, -⟩ := C
  intro T L vm0 X eh hF I
  obtain ⟨⟨k0, i1, i2⟩, hZ, hown, i5, i6, i7, i8, i9⟩ := id I
  have hZ' : Z.Warmed39 (s.setVm vm0).vm := hZ
  obtain ⟨v, vm₁, ⟨T2, L2, k2, n2⟩, -, X2, hS2, hgr, ⟨Lc, ⟨q1, q2, q3, q4, q5⟩, l2, y2, z2, q6⟩, st2⟩ := callSS X hx hown (mvT hZ' w1) (mvT hZ' w2) (mvT hZ' w3) (mvT hZ' w4) hy (hM.back (W := W) hZ i8 w4 w3 hf hl hEL i5.1 (own_bkc I hb)) (g := mkF m pc Ls (argsL.reverse ++ rest)) rfl (hsz.trans hmx.symm) hlen rfl hW (Jvm.hb hby hd) (fun _ _ => ⟨rfl, eh, hrc, hrs⟩)
  dsimp only [Pt.U, Pt.locs, Pt.cells, Pt.slots] at X2 l2 y2 z2 st2 q1 q2 q3 q4 q5 q6 hS2 hgr
  subst l2 y2 z2
  exact Go.behind eh hF I hnb X2 rfl hS2 (eh ▸ hgr) q1 q2 q3 q4 q6 st2 (K v _ q2 q5)
theorem Ctx.callI (C : Ctx p meth c Z a0 EL cd mx ret nm) (pc' : Nat) {a : Nat} (argsL rest : List Value) (hd : decode cd pc = .ok (.invokespecial i, 3)) (hM : Met l Z EL y cd' mx' none [] rm (.ref a :: argsL).toArray b bkc h eb' Q') (hy1 : y.name = "<init>") (hnb : n0 ≤ b) (hb : bk ≤ bkc ∨ h.size ≤ bkc) (w1 : (Cond.methodLink own i y).before a0 Z = true) (w2 : (Cond.instanceMethod y).before a0 Z = true) (w3 : (Cond.initialized y.cls).before a0 Z = true) (w4 : (Cond.code y cd' mx' none).before a0 Z = true)
    (hy : y.cls ≠ "java/lang/invoke/MethodHandle" ∧ y.cls ≠ "java/lang/invoke/VarHandle") (hsz : Ls.size = mx) (hlen : ∀ sig, parseMethodDescriptor y.desc = some sig → argsL.length = sig.parameters.length) (hf : rm.frames + 1 ≤ R.frames) (hW : 2 * 0 + (rest.map fun v => v.category).sum ≤ W) (hl : W + (mx' + 11) + rm.locals ≤ R.locals) (hrc : k + rm.cells ≤ R.cells) (hrs : n + rm.slots ≤ R.slots) (hst : st = argsL.reverse ++ .ref a :: rest)
    (K : ∀ v h2, OKp (fun x => x < b) h h2 → Q' v h2 → Go p l e R s m args below meth c Z own EL n0 eb Q (eb' h2) h2 (k + rm.cells) (n + rm.slots) pc' Ls (v.toList ++ rest)) (hp : pc + 3 = pc' := by rfl) : Go p l e R s m args below meth c Z own EL n0 eb Q bk h k n pc Ls st := by
  subst hp hst
  obtain ⟨hx, hEL, -, hret, hlk, hby, hmx, -⟩ := C
  intro T L vm0 X eh hF I
  obtain ⟨⟨k0, i1, i2⟩, hZ, hown, i5, i6, i7, i8, i9⟩ := id I
  have hZ' : Z.Warmed39 (s.setVm vm0).vm := hZ
  obtain ⟨v, vm₁, ⟨T2, L2, k2, n2⟩, -, X2, hS2, hgr, ⟨Lc, ⟨q1, q2, q3, q4, q5⟩, l2, y2, z2, q6⟩, st2⟩ := X.specialBackS hx hy1 hown (mvT hZ' w1) (mvT hZ' w2) (mvT hZ' w4) hy (hM.back (W := W) hZ i8 w4 w3 hf hl hEL i5.1 (own_bkc I hb)) (g := mkF m pc Ls (argsL.reverse ++ .ref a :: rest)) rfl (hsz.trans hmx.symm) (Steps.refl _) hlen rfl hW (Jvm.hb hby hd) (fun _ _ => ⟨rfl, eh, hrc, hrs⟩)
  dsimp only [Pt.U, Pt.locs, Pt.cells, Pt.slots] at X2 l2 y2 z2 st2 q1 q2 q3 q4 q5 q6 hS2 hgr
  subst l2 y2 z2
  exact Go.behind eh hF I hnb X2 rfl hS2 (eh ▸ hgr) q1 q2 q3 q4 q6 st2 (K v _ q2 q5)
theorem own_nf {s' : State} {a1 : Array Value} {x y z : MethodName} {K : String} (ws : (Cond.selects K x z).before a1 s' = true) (hc : z.cls = y.cls) : NotFace s' y := fun r0 h0 => by
  obtain ⟨c, r1, m1, q1, q2, q3, q4, mk, q5, q6⟩ := Cond.selects_spec ws
  have hcl := findClass_of_methodNamed h0
  have hcl2 := findClass_of_methodNamed q3
  rw [hc, hcl] at hcl2
  have e : r0.cls = m1.cls := Option.some.inj hcl2
  rw [← e] at q5
  exact ⟨mk, q5, q6⟩
theorem Ctx.callV (C : Ctx p meth c Z a0 EL cd mx ret nm) (pc' : Nat) {a : Nat} {K0 : String} (argsL rest : List Value) (hd : decode cd pc = .ok (.invokevirtual i, 3)) (hM : Met l Z EL y cd' mx' ret' [] rm (.ref a :: argsL).toArray b bkc h eb' Q') (E : Exa Z h a K0) (hnb : n0 ≤ b) (hb : bk ≤ bkc ∨ h.size ≤ bkc) (w1 : (Cond.methodLink own i y0).before a0 Z = true) (w5 : (Cond.declares y0).before a0 Z = true) (w6 : (Cond.selects K0 y0 y).before a0 Z = true) (w2 : (Cond.instanceMethod y).before a0 Z = true) (w3 : (Cond.initialized y.cls).before a0 Z = true) (w4 : (Cond.code y cd' mx' ret').before a0 Z = true) (nf : ∀ {s' : State}, Z.Warmed39 s'.vm → NotFace s' y0)
    (hy : y0.cls ≠ "java/lang/invoke/MethodHandle" ∧ y0.cls ≠ "java/lang/invoke/VarHandle") (hsz : Ls.size = mx) (hlen : ∀ sig, parseMethodDescriptor y0.desc = some sig → argsL.length = sig.parameters.length) (hf : rm.frames + 1 ≤ R.frames) (hW : 2 * 0 + (rest.map fun v => v.category).sum ≤ W) (hl : W + (mx' + 11) + rm.locals ≤ R.locals) (hrc : k + rm.cells ≤ R.cells) (hrs : n + rm.slots ≤ R.slots) (hst : st = argsL.reverse ++ .ref a :: rest)
    (K : ∀ v h2, OKp (fun x => x < b) h h2 → Q' v h2 → Go p l e R s m args below meth c Z own EL n0 eb Q (eb' h2) h2 (k + rm.cells) (n + rm.slots) pc' Ls (v.toList ++ rest)) (hp : pc + 3 = pc' := by rfl) : Go p l e R s m args below meth c Z own EL n0 eb Q bk h k n pc Ls st := by
  subst hp hst
  obtain ⟨hx, hEL, -, hret, hlk, hby, hmx, -⟩ := C
  intro T L vm0 X eh hF I
  obtain ⟨⟨k0, i1, i2⟩, hZ, hown, i5, i6, i7, i8, i9⟩ := id I
  have hZ' : Z.Warmed39 (s.setVm vm0).vm := hZ
  obtain ⟨cq, kq, qa, qb, qc⟩ := isOf hZ' eh E
  obtain ⟨v, vm₁, ⟨T2, L2, k2, n2⟩, -, X2, hS2, hgr, ⟨Lc, ⟨q1, q2, q3, q4, q5⟩, l2, y2, z2, q6⟩, st2⟩ := X.virtualBackS hx hown (mvT hZ' w1) (mvT hZ' w5) (nf hZ') (mvT hZ' w6) (mvT hZ' w2) hy (hM.back (W := W) hZ i8 w4 w3 hf hl hEL i5.1 (own_bkc I hb)) qa qc (g := mkF m pc Ls (argsL.reverse ++ .ref a :: rest)) rfl (hsz.trans hmx.symm) (Steps.refl _) hlen rfl hW (Jvm.hb hby hd) (fun _ _ => ⟨rfl, eh, hrc, hrs⟩)
  dsimp only [Pt.U, Pt.locs, Pt.cells, Pt.slots] at X2 l2 y2 z2 st2 q1 q2 q3 q4 q5 q6 hS2 hgr
  subst l2 y2 z2
  exact Go.behind eh hF I hnb X2 rfl hS2 (eh ▸ hgr) q1 q2 q3 q4 q6 st2 (K v _ q2 q5)
theorem Ctx.callU (C : Ctx p meth c Z a0 EL cd mx ret nm) (pc' : Nat) {a : Nat} {K0 : String} (argsL rest : List Value) (hd : decode cd pc = .ok (.invokespecial i, 3)) (hM : Met l Z EL y cd' mx' ret' [] rm (.ref a :: argsL).toArray b bkc h eb' Q') (E : Ins Z h a K0 true) (hnm : y.name ≠ "<init>") (hnb : n0 ≤ b) (hb : bk ≤ bkc ∨ h.size ≤ bkc) (w1 : (Cond.methodLink own i y).before a0 Z = true) (w5 : (Cond.sameMethod y.cls y.cls y.name y.desc).before a0 Z = true) (w6 : (Cond.superclass own y.cls).before a0 Z = true) (w2 : (Cond.instanceMethod y).before a0 Z = true) (w3 : (Cond.initialized y.cls).before a0 Z = true) (w4 : (Cond.code y cd' mx' ret').before a0 Z = true)
    (hsz : Ls.size = mx) (hlen : ∀ sig, parseMethodDescriptor y.desc = some sig → argsL.length = sig.parameters.length) (hf : rm.frames + 1 ≤ R.frames) (hW : 2 * 0 + (rest.map fun v => v.category).sum ≤ W) (hl : W + (mx' + 11) + rm.locals ≤ R.locals) (hrc : k + rm.cells ≤ R.cells) (hrs : n + rm.slots ≤ R.slots) (hst : st = argsL.reverse ++ .ref a :: rest)
    (K : ∀ v h2, OKp (fun x => x < b) h h2 → Q' v h2 → Go p l e R s m args below meth c Z own EL n0 eb Q (eb' h2) h2 (k + rm.cells) (n + rm.slots) pc' Ls (v.toList ++ rest)) (hp : pc + 3 = pc' := by rfl) : Go p l e R s m args below meth c Z own EL n0 eb Q bk h k n pc Ls st := by
  subst hp hst
  obtain ⟨hx, hEL, -, hret, hlk, hby, hmx, -⟩ := C
  intro T L vm0 X eh hF I
  obtain ⟨⟨k0, i1, i2⟩, hZ, hown, i5, i6, i7, i8, i9⟩ := id I
  have hZ' : Z.Warmed39 (s.setVm vm0).vm := hZ
  obtain ⟨v, vm₁, ⟨T2, L2, k2, n2⟩, -, X2, hS2, hgr, ⟨Lc, ⟨q1, q2, q3, q4, q5⟩, l2, y2, z2, q6⟩, st2⟩ := superBackS X hx hZ' hown w1 w5 w2 w6 hnm (hM.back (W := W) hZ i8 w4 w3 hf hl hEL i5.1 (own_bkc I hb)) eh E (g := mkF m pc Ls (argsL.reverse ++ .ref a :: rest)) rfl (hsz.trans hmx.symm) w4 hlen rfl hW (Jvm.hb hby hd) (fun _ _ => ⟨rfl, eh, hrc, hrs⟩)
  dsimp only [Pt.U, Pt.locs, Pt.cells, Pt.slots] at X2 l2 y2 z2 st2 q1 q2 q3 q4 q5 q6 hS2 hgr
  subst l2 y2 z2
  exact Go.behind eh hF I hnb X2 rfl hS2 (eh ▸ hgr) q1 q2 q3 q4 q6 st2 (K v _ q2 q5)
end Calls
section Steps1
variable {pc : Nat} {Ls : Array Slot} {st : List Value} {i : Nat}
theorem Ctx.ldcI (C : Ctx p meth c Z a0 EL cd mx ret nm) (pc' : Nat) {v : Int32} (hd : decode cd pc = .ok (.ldc i, 2)) (w : (Cond.constant own i v).before a0 Z = true) (K : Go p l e R s m args below meth c Z own EL n0 eb Q bk h k n pc' Ls (.int v :: st)) (hp : pc + 2 = pc' := by rfl) : Go p l e R s m args below meth c Z own EL n0 eb Q bk h k n pc Ls st := by
  subst hp
  intro T L vm0 X eh hF I
  obtain ⟨t, v', L', g1, r⟩ := K T L vm0 X eh hF I
  exact ⟨t, v', L', Jvm.Stand.ldcI X C.1 I.2.2.1 (mvT (show Z.Warmed39 (s.setVm vm0).vm from I.2.1) w) rfl (Jvm.hb C.2.2.2.2.2.1 hd) g1, r⟩
theorem Ctx.ldc2 (C : Ctx p meth c Z a0 EL cd mx ret nm) (pc' : Nat) {v : Int64} (hd : decode cd pc = .ok (.ldc2_w i, 3)) (w : (Cond.constantLong own i v).before a0 Z = true) (K : Go p l e R s m args below meth c Z own EL n0 eb Q bk h k n pc' Ls (.long v :: st)) (hp : pc + 3 = pc' := by rfl) : Go p l e R s m args below meth c Z own EL n0 eb Q bk h k n pc Ls st := by
  subst hp
  intro T L vm0 X eh hF I
  obtain ⟨t, v', L', g1, r⟩ := K T L vm0 X eh hF I
  exact ⟨t, v', L', Jvm.Stand.ldc2J X C.1 I.2.2.1 (mvT (show Z.Warmed39 (s.setVm vm0).vm from I.2.1) w) rfl (Jvm.hb C.2.2.2.2.2.1 hd) g1, r⟩
/-- ldc of a String constant whose text is read -/
theorem Ctx.ldcT (C : Ctx p meth c Z a0 EL cd mx ret nm) (pc' : Nat) {text : String} {vs : List Value} {z : Int32} {nn : Nat} (hd : decode cd pc = .ok (.ldc i, 2)) (w : (Cond.stringLink own i text).before a0 Z = true) (wS : ∀ a ∈ Bundle.stringAtoms, a.before a0 Z = true) (hmem : (own, i) ∈ EL) (ht : (∀ c ∈ text.toList, c.toNat < 256) ∧ text.toList.map (fun c => Value.int (Jvm.Lit.byteI c.toNat.toUInt16)) = vs) (hz : ¬ z < 0) (hl : z.toNatClampNeg = vs.length) (hn : 4 * text.toList.length ≤ nn) (hbig : nn ≤ 536870912) (hc : k + 2 ≤ R.cells) (hs : n + (nn + 4) ≤ R.slots)
    (K : ∀ a t kb h2, Ext h h2 → Exa Z h2 a "java/lang/String" → Fld Z h2 a "java/lang/String" "coder" "B" (.int 0) → Fld Z h2 a "java/lang/String" "value" "[B" (.ref t) → Arv Z h2 t kb .byte z vs (.int 0) → Go p l e R s m args below meth c Z own EL n0 eb Q (h2.size) h2 (k + 2) (n + (nn + 4)) pc' Ls (.ref a :: st)) (hp : pc + 2 = pc' := by rfl) : Go p l e R s m args below meth c Z own EL n0 eb Q bk h k n pc Ls st := by
  subst hp
  intro T L vm0 X eh hF I
  obtain ⟨⟨k0, i1, i2⟩, i3, i4, i5, i6, i7, i8, i9⟩ := I
  obtain ⟨a, T', h2, k1, t, kb, X', e', E, hS, hk, hW, hf, A1, A2, A3, A4, -, -, hC, -, -, st1⟩ := ldcCH X C.1 i3 i4 w wS eh i1 i2 C.2.1 hmem i5.1 ht hz hl (g := mkF m pc Ls st) rfl (Jvm.hb C.2.2.2.2.2.1 hd) hn hbig hc hs
  obtain ⟨t', v', L', g1, r⟩ := K a t kb h2 E A1 A2 A3 A4 T' L T'.vm X' e' hF ⟨⟨k1, hS, hk⟩, hW, hf, i5.trans hC, fun y B => (Array.getElem?_eq_some_iff.mp B.there.choose_spec).1, i7.ext E, own_exttrans i8 E, i9⟩
  exact ⟨t', v', L', st1 _ g1, r⟩
/-- ldc of a String constant that is handed on unread -/
theorem Ctx.ldcO (C : Ctx p meth c Z a0 EL cd mx ret nm) (pc' : Nat) {text : String} {nn : Nat} (hd : decode cd pc = .ok (.ldc i, 2)) (w : (Cond.stringLink own i text).before a0 Z = true) (wS : ∀ a ∈ Bundle.stringAtoms, a.before a0 Z = true) (hn : 4 * text.toList.length ≤ nn) (hbig : nn ≤ 536870912) (hc : k + 2 ≤ R.cells) (hs : n + (nn + 4) ≤ R.slots)
    (K : ∀ a h2, Ext h h2 → Go p l e R s m args below meth c Z own EL n0 eb Q (h2.size) h2 (k + 2) (n + (nn + 4)) pc' Ls (.ref a :: st)) (hp : pc + 2 = pc' := by rfl) : Go p l e R s m args below meth c Z own EL n0 eb Q bk h k n pc Ls st := by
  subst hp
  intro T L vm0 X eh hF I
  obtain ⟨⟨k0, i1, i2⟩, i3, i4, i5, i6, i7, i8, i9⟩ := I
  obtain ⟨a, T', h2, k1, X', e', E, hS, hk, hW, hf, hC, -, st1⟩ := ldcOH X C.1 i3 i4 w wS eh i1 i2 C.2.1 i5.1 (g := mkF m pc Ls st) rfl (Jvm.hb C.2.2.2.2.2.1 hd) hn hbig hc hs
  obtain ⟨t', v', L', g1, r⟩ := K a h2 E T' L T'.vm X' e' hF ⟨⟨k1, hS, hk⟩, hW, hf, i5.trans hC, fun y B => (Array.getElem?_eq_some_iff.mp B.there.choose_spec).1, i7.ext E, own_exttrans i8 E, i9⟩
  exact ⟨t', v', L', st1 _ g1, r⟩
theorem Ctx.gets (C : Ctx p meth c Z a0 EL cd mx ret nm) (pc' : Nat) {O nn d : String} {v : Value} (hd : decode cd pc = .ok (.getstatic i, 3)) (w : (Cond.fieldLink own i O nn d).before a0 Z = true) (S : Sta Z Z.heap O nn d v) (K : Go p l e R s m args below meth c Z own EL n0 eb Q bk h k n pc' Ls (v :: st)) (hp : pc + 3 = pc' := by rfl) : Go p l e R s m args below meth c Z own EL n0 eb Q bk h k n pc Ls st := by
  subst hp
  intro T L vm0 X eh hF I
  obtain ⟨T2, X2, e2, st2⟩ := getS (host := "") X C.1 (show Z.Warmed39 (s.setVm vm0).vm from I.2.1) I.2.2.1 w Via.refl eh (S.ext I.2.2.2.2.2.2.1) (g := mkF m pc Ls st) rfl (Jvm.hb C.2.2.2.2.2.1 hd)
  obtain ⟨t, v', L', g1, r⟩ := K T2 L vm0 X2 e2 hF I
  exact ⟨t, v', L', st2 _ g1, r⟩
theorem Ctx.getf (C : Ctx p meth c Z a0 EL cd mx ret nm) (pc' : Nat) {R0 O nn d : String} {a : Nat} {v : Value} (hd : decode cd pc = .ok (.getfield i, 3)) (w : (Cond.fieldLink own i R0 nn d).before a0 Z = true) (via : Via Z R0 O nn d) (F : Fld Z h a O nn d v) (K : Go p l e R s m args below meth c Z own EL n0 eb Q bk h k n pc' Ls (v :: st)) (hp : pc + 3 = pc' := by rfl) : Go p l e R s m args below meth c Z own EL n0 eb Q bk h k n pc Ls (.ref a :: st) := by
  subst hp
  intro T L vm0 X eh hF I
  obtain ⟨T2, X2, e2, st2⟩ := getF X C.1 (show Z.Warmed39 (s.setVm vm0).vm from I.2.1) (host := "") I.2.2.1 (Or.inl w) via eh F (g := mkF m pc Ls (.ref a :: st)) rfl rfl (Jvm.hb C.2.2.2.2.2.1 hd)
  obtain ⟨t, v', L', g1, r⟩ := K T2 L vm0 X2 e2 hF I
  exact ⟨t, v', L', st2 _ g1, r⟩
theorem Ctx.putf (C : Ctx p meth c Z a0 EL cd mx ret nm) (pc' : Nat) {R0 O nn d C0 : String} {kk : Nat} {ty : FieldType} {a : Nat} {v old : Value} (hd : decode cd pc = .ok (.putfield i, 3)) (w : (Cond.fieldLink own i R0 nn d).before a0 Z = true) (via : Via Z R0 O nn d) (F : Fld Z h a O nn d old) (E : Exa Z h a C0) (Ly : (Cond.lays C0 O nn d).before a0 Z = true ∨ ((Cond.laysFinal C0 O nn d).before a0 Z = true ∧ own = O ∧ nm = "<init>")) (wi : (Cond.instantiable C0 kk).before a0 Z = true) (hty : parseFieldDescriptor d = some ty) (hnr : narrow ty v = v) (hf : fits ty v = true) (hn0 : n0 ≤ a) (S : Sf Z h bk a)
    (K : ∀ h2, Wr h h2 a (Jvm.RoadKit.slotOf Z O nn d) v → Go p l e R s m args below meth c Z own EL n0 eb Q bk h2 k n pc' Ls st) (hp : pc + 3 = pc' := by rfl) : Go p l e R s m args below meth c Z own EL n0 eb Q bk h k n pc Ls (v :: .ref a :: st) := by
  subst hp
  intro T L vm0 X eh hF I
  obtain ⟨T2, h2, X2, e2, W, st2⟩ := putF X C.1 (show Z.Warmed39 (s.setVm vm0).vm from I.2.1) (host := "") I.2.2.1 (Or.inl w) via eh F E (Ly.imp id fun q => ⟨q.1, q.2.1, C.2.2.2.2.2.2.2.trans q.2.2⟩) wi hty hnr hf (g := mkF m pc Ls (v :: .ref a :: st)) rfl rfl (Jvm.hb C.2.2.2.2.2.1 hd)
  obtain ⟨t, v', L', g1, r⟩ := K h2 W T2 _ vm0 X2 e2 (Fr.snoc X2 hF hn0) (I.wr W hn0 S)
  exact ⟨t, v', L', st2 _ g1, r⟩
theorem Ctx.newo (C : Ctx p meth c Z a0 EL cd mx ret nm) (pc' : Nat) {C0 : String} {kk : Nat} (hd : decode cd pc = .ok (.new i, 3)) (w : (Cond.classLink own i C0).before a0 Z = true) (wi : (Cond.instantiable C0 kk).before a0 Z = true) (wz : (Cond.initialized C0).before a0 Z = true) (hc : k + 1 ≤ R.cells) (hl : n + kk ≤ R.slots)
    (K : ∀ a h2, a = h.size → Ext h h2 → Exa Z h2 a C0 → (∀ {O nn d : String} {ty : FieldType}, Laid Z a0 C0 O nn d → parseFieldDescriptor d = some ty → Fld Z h2 a O nn d (defaultValue ty)) → Go p l e R s m args below meth c Z own EL n0 eb Q bk h2 (k + 1) (n + kk) pc' Ls (.ref a :: st)) (hp : pc + 3 = pc' := by rfl) : Go p l e R s m args below meth c Z own EL n0 eb Q bk h k n pc Ls st := by
  subst hp
  intro T L vm0 X eh hF I
  obtain ⟨T2, h2, X2, e2, E, A, D, -, st2⟩ := newO X C.1 (show Z.Warmed39 (s.setVm vm0).vm from I.2.1) I.2.2.1 w wi wz eh (g := mkF m pc Ls st) rfl (Jvm.hb C.2.2.2.2.2.1 hd) hc hl
  obtain ⟨t, v', L', g1, r⟩ := K h.size h2 rfl E A D T2 L vm0 X2 e2 hF (I.ext E)
  exact ⟨t, v', L', st2 _ g1, r⟩
theorem own_newar {cA : ClassId} {ty : FieldType} {z : Int32} {zn : Nat} {a : Nat} (A : Arr Z h a (newA cA ty z) ty) (hz : z = Int32.ofNat zn) (hb : zn < 2147483648) (ht : defaultValue ty = .int 0) (hf : fits ty (.int 0) = true) : Ar Z h a ty (List.replicate zn 0) := by
  obtain ⟨q1, q2⟩ := own_len31 hb hz
  refine ⟨_, A, by rw [sz_new, q2, List.length_replicate], by rw [List.length_replicate]; exact hb, fun j x hx => ?_, fun x hx => by cases List.eq_of_mem_replicate hx; exact hf⟩
  rw [List.getElem?_replicate] at hx
  split at hx
  · cases hx; rename_i hj; simp [newA, q2, hj, ht]
  · cases hx
theorem Ctx.newarr (C : Ctx p meth c Z a0 EL cd mx ret nm) (pc' : Nat) {aty : ArrayType} {z : Int32} {zn cap : Nat} (hd : decode cd pc = .ok (.newarray aty, 2)) (w : (Cond.arrayClass (newarray.typeOf aty)).before a0 Z = true) (hz : z = Int32.ofNat zn) (hcap : zn ≤ cap) (hbig : cap * 8 ≤ 536870912) (ht : defaultValue (newarray.typeOf aty) = .int 0) (hf : fits (newarray.typeOf aty) (.int 0) = true) (hc : k + 1 ≤ R.cells) (hl : n + cap ≤ R.slots)
    (K : ∀ a h2, a = h.size → Ext h h2 → Ar Z h2 a (newarray.typeOf aty) (List.replicate zn 0) → Go p l e R s m args below meth c Z own EL n0 eb Q bk h2 (k + 1) (n + cap) pc' Ls (.ref a :: st)) (hp : pc + 2 = pc' := by rfl) : Go p l e R s m args below meth c Z own EL n0 eb Q bk h k n pc Ls (.int z :: st) := by
  subst hp
  intro T L vm0 X eh hF I
  obtain ⟨q1, q2⟩ := own_len31 (by omega) hz
  obtain ⟨T2, h2, cA, X2, e2, E, A, st2⟩ := newP X C.1 (show Z.Warmed39 (s.setVm vm0).vm from I.2.1) w eh (g := mkF m pc Ls (.int z :: st)) rfl (Jvm.hb C.2.2.2.2.2.1 hd) rfl q1 (cap := cap) (by rw [q2]; exact hcap) hbig hc hl
  obtain ⟨t, v', L', g1, r⟩ := K h.size h2 rfl E (own_newar A hz (by omega) ht hf) T2 L vm0 X2 e2 hF (I.ext E)
  exact ⟨t, v', L', st2 _ g1, r⟩
theorem Ctx.alen (C : Ctx p meth c Z a0 EL cd mx ret nm) (pc' : Nat) {a : Nat} {ty : FieldType} {xs : List Int32} {z : Int32} (hd : decode cd pc = .ok (.arraylength, 1)) (A : Ar Z h a ty xs) (hz : Int32.ofNat xs.length = z) (K : Go p l e R s m args below meth c Z own EL n0 eb Q bk h k n pc' Ls (.int z :: st)) (hp : pc + 1 = pc' := by rfl) : Go p l e R s m args below meth c Z own EL n0 eb Q bk h k n pc Ls (.ref a :: st) := by
  subst hp hz
  intro T L vm0 X eh hF I
  obtain ⟨cl, A, g1, g2, g3, g4⟩ := A
  obtain ⟨t, v', L', f1, r⟩ := K T L vm0 X eh hF I
  exact ⟨t, v', L', X.arraylength C.1 (cell := cl) (by rw [eh]; exact A.1) (State.isArrayOf_alike (show Z.vm.Alike (s.setVm vm0).vm from I.2.1.alike) A.2.1) (g := mkF m pc Ls (.ref a :: st)) rfl rfl (Jvm.hb C.2.2.2.2.2.1 hd) _ (by rw [g1]; exact f1), r⟩
theorem Ctx.iaload (C : Ctx p meth c Z a0 EL cd mx ret nm) (pc' : Nat) {a : Nat} {xs : List Int32} {j x : Int32} (ji : Nat) (hd : decode cd pc = .ok (.iaload, 1)) (A : Ar Z h a .int xs) (hj : j = Int32.ofNat ji) (hx : xs[ji]? = some x) (K : Go p l e R s m args below meth c Z own EL n0 eb Q bk h k n pc' Ls (.int x :: st)) (hp : pc + 1 = pc' := by rfl) : Go p l e R s m args below meth c Z own EL n0 eb Q bk h k n pc Ls (.int j :: .ref a :: st) := by
  subst hp
  intro T L vm0 X eh hF I
  obtain ⟨cl, A, g1, g2, g3, g4⟩ := A
  have hlt : ji < xs.length := (List.getElem?_eq_some_iff.mp hx).1
  obtain ⟨q1, q2⟩ := own_len31 (by omega) hj
  obtain ⟨t, v', L', f1, r⟩ := K T L vm0 X eh hF I
  exact ⟨t, v', L', X.iaload C.1 (cell := cl) (by rw [eh]; exact A.1) (State.isArrayOf_alike (show Z.vm.Alike (s.setVm vm0).vm from I.2.1.alike) A.2.1) A.2.2 (fun o => o.elim q1 fun q => by omega) (by rw [q2]; exact g3 _ _ hx) (g := mkF m pc Ls (.int j :: .ref a :: st)) rfl rfl (Jvm.hb C.2.2.2.2.2.1 hd) _ f1, r⟩
theorem Ctx.caload (C : Ctx p meth c Z a0 EL cd mx ret nm) (pc' : Nat) {a : Nat} {xs : List Int32} {j x : Int32} (ji : Nat) (hd : decode cd pc = .ok (.caload, 1)) (A : Ar Z h a .char xs) (hj : j = Int32.ofNat ji) (hx : xs[ji]? = some x) (K : Go p l e R s m args below meth c Z own EL n0 eb Q bk h k n pc' Ls (.int x :: st)) (hp : pc + 1 = pc' := by rfl) : Go p l e R s m args below meth c Z own EL n0 eb Q bk h k n pc Ls (.int j :: .ref a :: st) := by
  subst hp
  intro T L vm0 X eh hF I
  obtain ⟨cl, A, g1, g2, g3, g4⟩ := A
  have hlt : ji < xs.length := (List.getElem?_eq_some_iff.mp hx).1
  obtain ⟨q1, q2⟩ := own_len31 (by omega) hj
  obtain ⟨t, v', L', f1, r⟩ := K T L vm0 X eh hF I
  exact ⟨t, v', L', X.caload C.1 (cell := cl) (by rw [eh]; exact A.1) (State.isArrayOf_alike (show Z.vm.Alike (s.setVm vm0).vm from I.2.1.alike) A.2.1) A.2.2 (fun o => o.elim q1 fun q => by omega) (by rw [q2]; exact g3 _ _ hx) (g := mkF m pc Ls (.int j :: .ref a :: st)) rfl rfl (Jvm.hb C.2.2.2.2.2.1 hd) _ f1, r⟩
theorem Ctx.baload (C : Ctx p meth c Z a0 EL cd mx ret nm) (pc' : Nat) {a : Nat} {xs : List Int32} {j x : Int32} (ji : Nat) (hd : decode cd pc = .ok (.baload, 1)) (A : Ar Z h a .byte xs) (hj : j = Int32.ofNat ji) (hx : xs[ji]? = some x) (K : Go p l e R s m args below meth c Z own EL n0 eb Q bk h k n pc' Ls (.int x :: st)) (hp : pc + 1 = pc' := by rfl) : Go p l e R s m args below meth c Z own EL n0 eb Q bk h k n pc Ls (.int j :: .ref a :: st) := by
  subst hp
  intro T L vm0 X eh hF I
  obtain ⟨cl, A, g1, g2, g3, g4⟩ := A
  have hlt : ji < xs.length := (List.getElem?_eq_some_iff.mp hx).1
  obtain ⟨q1, q2⟩ := own_len31 (by omega) hj
  obtain ⟨t, v', L', f1, r⟩ := K T L vm0 X eh hF I
  exact ⟨t, v', L', X.baloadBytes C.1 (cell := cl) (by rw [eh]; exact A.1) (State.isArrayOf_alike (show Z.vm.Alike (s.setVm vm0).vm from I.2.1.alike) A.2.1) A.2.2 (fun o => o.elim q1 fun q => by omega) (by rw [q2]; exact g3 _ _ hx) (g := mkF m pc Ls (.int j :: .ref a :: st)) rfl rfl (Jvm.hb C.2.2.2.2.2.1 hd) _ f1, r⟩
theorem Ctx.iastore (C : Ctx p meth c Z a0 EL cd mx ret nm) (pc' : Nat) {a : Nat} {xs : List Int32} {j x : Int32} (ji : Nat) (hd : decode cd pc = .ok (.iastore, 1)) (A : Ar Z h a .int xs) (hj : j = Int32.ofNat ji) (hlt : ji < xs.length) (hf : fits .int (.int x) = true) (hn0 : n0 ≤ a) (S : Sf Z h bk a) (K : ∀ h2, Wr h h2 a ji (.int x) → Ar Z h2 a .int (xs.set ji x) → Go p l e R s m args below meth c Z own EL n0 eb Q bk h2 k n pc' Ls st) (hp : pc + 1 = pc' := by rfl) : Go p l e R s m args below meth c Z own EL n0 eb Q bk h k n pc Ls (.int x :: .int j :: .ref a :: st) := by
  subst hp
  intro T L vm0 X eh hF I
  have A0 := A
  obtain ⟨cl, A, g1, g2, g3, g4⟩ := A
  obtain ⟨q1, q2⟩ := own_len31 (by omega) hj
  obtain ⟨T2, h2, X2, e2, W, st2⟩ := stI X C.1 (show Z.Warmed39 (s.setVm vm0).vm from I.2.1) eh A (fun o => o.elim q1 fun q => by omega) (g := mkF m pc Ls (.int x :: .int j :: .ref a :: st)) rfl rfl (Jvm.hb C.2.2.2.2.2.1 hd)
  rw [q2] at W
  obtain ⟨t, v', L', f1, r⟩ := K h2 W (A0.set W hlt hf) T2 _ vm0 X2 e2 (Fr.snoc X2 hF hn0) (I.wr W hn0 S)
  exact ⟨t, v', L', st2 _ f1, r⟩
theorem Ctx.castore (C : Ctx p meth c Z a0 EL cd mx ret nm) (pc' : Nat) {a : Nat} {xs : List Int32} {j x : Int32} (ji : Nat) (hd : decode cd pc = .ok (.castore, 1)) (A : Ar Z h a .char xs) (hj : j = Int32.ofNat ji) (hlt : ji < xs.length) (hf : fits .char (.int (nar .char x)) = true) (hn0 : n0 ≤ a) (S : Sf Z h bk a) (K : ∀ h2, Wr h h2 a ji (.int (nar .char x)) → Ar Z h2 a .char (xs.set ji (nar .char x)) → Go p l e R s m args below meth c Z own EL n0 eb Q bk h2 k n pc' Ls st) (hp : pc + 1 = pc' := by rfl) : Go p l e R s m args below meth c Z own EL n0 eb Q bk h k n pc Ls (.int x :: .int j :: .ref a :: st) := by
  subst hp
  intro T L vm0 X eh hF I
  have A0 := A
  obtain ⟨cl, A, g1, g2, g3, g4⟩ := A
  obtain ⟨q1, q2⟩ := own_len31 (by omega) hj
  obtain ⟨T2, h2, X2, e2, W, st2⟩ := stC X C.1 (show Z.Warmed39 (s.setVm vm0).vm from I.2.1) eh A (fun o => o.elim q1 fun q => by omega) (g := mkF m pc Ls (.int x :: .int j :: .ref a :: st)) rfl rfl (Jvm.hb C.2.2.2.2.2.1 hd)
  rw [q2] at W
  obtain ⟨t, v', L', f1, r⟩ := K h2 W (A0.set W hlt hf) T2 _ vm0 X2 e2 (Fr.snoc X2 hF hn0) (I.wr W hn0 S)
  exact ⟨t, v', L', st2 _ f1, r⟩
theorem Ctx.bastore (C : Ctx p meth c Z a0 EL cd mx ret nm) (pc' : Nat) {a : Nat} {xs : List Int32} {j x : Int32} (ji : Nat) (hd : decode cd pc = .ok (.bastore, 1)) (A : Ar Z h a .byte xs) (hj : j = Int32.ofNat ji) (hlt : ji < xs.length) (hf : fits .byte (.int (nar .byte x)) = true) (hn0 : n0 ≤ a) (S : Sf Z h bk a) (K : ∀ h2, Wr h h2 a ji (.int (nar .byte x)) → Ar Z h2 a .byte (xs.set ji (nar .byte x)) → Go p l e R s m args below meth c Z own EL n0 eb Q bk h2 k n pc' Ls st) (hp : pc + 1 = pc' := by rfl) : Go p l e R s m args below meth c Z own EL n0 eb Q bk h k n pc Ls (.int x :: .int j :: .ref a :: st) := by
  subst hp
  intro T L vm0 X eh hF I
  have A0 := A
  obtain ⟨cl, A, g1, g2, g3, g4⟩ := A
  obtain ⟨q1, q2⟩ := own_len31 (by omega) hj
  obtain ⟨T2, h2, X2, e2, W, st2⟩ := stB X C.1 (show Z.Warmed39 (s.setVm vm0).vm from I.2.1) eh A (fun o => o.elim q1 fun q => by omega) (g := mkF m pc Ls (.int x :: .int j :: .ref a :: st)) rfl rfl (Jvm.hb C.2.2.2.2.2.1 hd)
  rw [q2] at W
  obtain ⟨t, v', L', f1, r⟩ := K h2 W (A0.set W hlt hf) T2 _ vm0 X2 e2 (Fr.snoc X2 hF hn0) (I.wr W hn0 S)
  exact ⟨t, v', L', st2 _ f1, r⟩

theorem Ctx.cast (C : Ctx p meth c Z a0 EL cd mx ret nm) (pc' : Nat) {K0 : String} {a : Nat} (hd : decode cd pc = .ok (.checkcast i, 3)) (w : (Cond.classLink own i K0).before a0 Z = true) (F : Ins Z h a K0 true) (K : Go p l e R s m args below meth c Z own EL n0 eb Q bk h k n pc' Ls (.ref a :: st)) (hp : pc + 3 = pc' := by rfl) : Go p l e R s m args below meth c Z own EL n0 eb Q bk h k n pc Ls (.ref a :: st) := by
  subst hp
  intro T L vm0 X eh hF I
  obtain ⟨T2, X2, e2, st2⟩ := castY X C.1 (show Z.Warmed39 (s.setVm vm0).vm from I.2.1) I.2.2.1 w eh F (g := mkF m pc Ls (.ref a :: st)) rfl rfl (Jvm.hb C.2.2.2.2.2.1 hd)
  obtain ⟨t, v', L', g1, r⟩ := K T2 L vm0 X2 e2 hF I
  exact ⟨t, v', L', st2 _ g1, r⟩
theorem Ctx.instY (C : Ctx p meth c Z a0 EL cd mx ret nm) (pc' : Nat) {K0 : String} {a : Nat} (hd : decode cd pc = .ok (.instanceof i, 3)) (w : (Cond.classLink own i K0).before a0 Z = true) (F : Ins Z h a K0 true) (K : Go p l e R s m args below meth c Z own EL n0 eb Q bk h k n pc' Ls (.int 1 :: st)) (hp : pc + 3 = pc' := by rfl) : Go p l e R s m args below meth c Z own EL n0 eb Q bk h k n pc Ls (.ref a :: st) := by
  subst hp
  intro T L vm0 X eh hF I
  obtain ⟨T2, X2, e2, st2⟩ := RoadKit.instY X C.1 (show Z.Warmed39 (s.setVm vm0).vm from I.2.1) I.2.2.1 w eh F (g := mkF m pc Ls (.ref a :: st)) rfl rfl (Jvm.hb C.2.2.2.2.2.1 hd)
  obtain ⟨t, v', L', g1, r⟩ := K T2 L vm0 X2 e2 hF I
  exact ⟨t, v', L', st2 _ g1, r⟩
theorem Ctx.instN (C : Ctx p meth c Z a0 EL cd mx ret nm) (pc' : Nat) {K0 C0 : String} {a : Nat} (hd : decode cd pc = .ok (.instanceof i, 3)) (w : (Cond.classLink own i K0).before a0 Z = true) (E : Exa Z h a C0) (F : ∃ c t, Z.vm.findClass C0 = some c ∧ Z.vm.findClass K0 = some t ∧ Z.vm.assignable c t = false) (K : Go p l e R s m args below meth c Z own EL n0 eb Q bk h k n pc' Ls (.int 0 :: st)) (hp : pc + 3 = pc' := by rfl) : Go p l e R s m args below meth c Z own EL n0 eb Q bk h k n pc Ls (.ref a :: st) := by
  subst hp
  intro T L vm0 X eh hF I
  obtain ⟨T2, X2, e2, st2⟩ := instNo X C.1 (show Z.Warmed39 (s.setVm vm0).vm from I.2.1) I.2.2.1 w eh E F (g := mkF m pc Ls (.ref a :: st)) rfl rfl (Jvm.hb C.2.2.2.2.2.1 hd)
  obtain ⟨t, v', L', g1, r⟩ := K T2 L vm0 X2 e2 hF I
  exact ⟨t, v', L', st2 _ g1, r⟩
theorem Ctx.instNull (C : Ctx p meth c Z a0 EL cd mx ret nm) (pc' : Nat) (hd : decode cd pc = .ok (.instanceof i, 3)) (K : Go p l e R s m args below meth c Z own EL n0 eb Q bk h k n pc' Ls (.int 0 :: st)) (hp : pc + 3 = pc' := by rfl) : Go p l e R s m args below meth c Z own EL n0 eb Q bk h k n pc Ls (.null :: st) := by
  subst hp
  intro T L vm0 X eh hF I
  obtain ⟨t, v', L', g1, r⟩ := K T L vm0 X eh hF I
  exact ⟨t, v', L', X.instanceofNull C.1 (g := mkF m pc Ls (.null :: st)) rfl rfl (Jvm.hb C.2.2.2.2.2.1 hd) _ g1, r⟩
theorem Ctx.objInit (C : Ctx p meth c Z a0 EL cd mx ret nm) (pc' : Nat) {a : Nat} {W : Nat} (hd : decode cd pc = .ok (.invokespecial i, 3)) (w1 : (Cond.methodLink own i Lib.objectInit).before a0 Z = true) (w2 : (Cond.instanceMethod Lib.objectInit).before a0 Z = true) (w3 : (Cond.code Lib.objectInit ⟨#[0xb1]⟩ 1 none).before a0 Z = true) (hsz : Ls.size = mx) (hf : 1 ≤ R.frames) (hW : 2 * 0 + (st.map fun v => v.category).sum ≤ W) (hl : W + 12 ≤ R.locals) (K : Go p l e R s m args below meth c Z own EL n0 eb Q bk h k n pc' Ls st) (hp : pc + 3 = pc' := by rfl) : Go p l e R s m args below meth c Z own EL n0 eb Q bk h k n pc Ls (.ref a :: st) := by
  subst hp
  intro T L vm0 X eh hF I
  obtain ⟨T2, X2, e2, st2⟩ := initO X C.1 (show Z.Warmed39 (s.setVm vm0).vm from I.2.1) I.2.2.1 w1 w2 w3 eh (g := mkF m pc Ls (.ref a :: st)) rfl (hsz.trans C.2.2.2.2.2.2.1.symm) rfl (Jvm.hb C.2.2.2.2.2.1 hd) hf hW hl
  obtain ⟨t, v', L', g1, r⟩ := K T2 L vm0 X2 e2 hF I
  exact ⟨t, v', L', st2 _ g1, r⟩
theorem own_eqcopy (xs : List Int32) (si ni : Nat) (h : si + ni ≤ xs.length) {V : Type} (f : Int32 → V) (d : V) : (List.range ni).map (fun j => (xs.map f).getD (si + j) d) = ((xs.drop si).take ni).map f := by
  refine List.ext_getElem? fun j => ?_
  simp only [List.getElem?_map, List.getElem?_take, List.getElem?_drop]
  by_cases q : j < ni
  · rw [List.getElem?_range q, if_pos q]
    have q2 : si + j < xs.length := by omega
    simp [q2]
  · rw [if_neg q, List.getElem?_eq_none (by simp; omega)]; rfl
/-- System.arraycopy between two arrays of one primitive kind -/
theorem Ctx.acopy (C : Ctx p meth c Z a0 EL cd mx ret nm) (pc' : Nat) {a b : Nat} {ty : FieldType} {xs ys : List Int32} {sp dp nn : Int32} {si di ni W : Nat} (hd : decode cd pc = .ok (.invokestatic i, 3)) (w1 : (Cond.methodLink own i Jvm.Stand.acN).before a0 Z = true) (w2 : (Cond.native Jvm.Stand.acN).before a0 Z = true) (w3 : (Cond.static Jvm.Stand.acN).before a0 Z = true) (w4 : (Cond.initialized "java/lang/System").before a0 Z = true) (A : Ar Z h a ty xs) (B : Ar Z h b ty ys) (hty : refKind ty = false)
    (e1 : sp = Int32.ofNat si) (e2 : dp = Int32.ofNat di) (e3 : nn = Int32.ofNat ni) (h4 : si + ni ≤ xs.length) (h5 : di + ni ≤ ys.length) (hn0 : n0 ≤ b) (S : Sf Z h bk b) (hsz : Ls.size = mx) (hf : 1 ≤ R.frames) (hW : 2 * 0 + (st.map fun v => v.category).sum ≤ W) (hlo : W + (nativeFrameWords "java/lang/System" "arraycopy" 5 + 11) ≤ R.locals)
    (K : ∀ h2, OKp (fun x => x ≠ b) h h2 → Ar Z h2 b ty (ys.take di ++ (xs.drop si).take ni ++ ys.drop (di + ni)) → Go p l e R s m args below meth c Z own EL n0 eb Q bk h2 k n pc' Ls st) (hp : pc + 3 = pc' := by rfl) : Go p l e R s m args below meth c Z own EL n0 eb Q bk h k n pc Ls (.int nn :: .int dp :: .ref b :: .int sp :: .ref a :: st) := by
  subst hp
  intro T L vm0 X eh hF I
  obtain ⟨ka, A'⟩ := A.arv
  obtain ⟨kb, B'⟩ := B.arv
  have lx : xs.length < 2147483648 := by obtain ⟨_, _, _, g, _⟩ := A; exact g
  have ly : ys.length < 2147483648 := by obtain ⟨_, _, _, g, _⟩ := B; exact g
  obtain ⟨s1, s2⟩ := own_len31 (show si < 2147483648 by omega) e1
  obtain ⟨d1, d2⟩ := own_len31 (show di < 2147483648 by omega) e2
  obtain ⟨m1, m2⟩ := own_len31 (show ni < 2147483648 by omega) e3
  obtain ⟨T2, h2, L2, X2, e2', F2, K2, V2, st2⟩ := cpA X C.1 (show Z.Warmed39 (s.setVm vm0).vm from I.2.1) I.2.2.1 w1 w2 w3 w4 eh A' B' (Or.inl ⟨rfl, hty⟩) s1 d1 m1 (by rw [s2, m2, (own_len31 lx rfl).2]; exact h4) (by rw [d2, m2, (own_len31 ly rfl).2]; exact h5) rfl (by rw [d2, m2, List.length_map]; exact h5) hF hn0 (g := mkF m pc Ls (.int nn :: .int dp :: .ref b :: .int sp :: .ref a :: st)) rfl (hsz.trans C.2.2.2.2.2.2.1.symm) rfl (Jvm.hb C.2.2.2.2.2.1 hd) hf hW hlo
  have eq : (ys.map Value.int).take dp.toNatClampNeg ++ (List.range nn.toNatClampNeg).map (fun j => (xs.map Value.int).getD (sp.toNatClampNeg + j) (.int 0)) ++ (ys.map Value.int).drop (dp.toNatClampNeg + nn.toNatClampNeg) = (ys.take di ++ (xs.drop si).take ni ++ ys.drop (di + ni)).map Value.int := by
    rw [d2, m2, s2, own_eqcopy xs si ni h4 Value.int (.int 0)]
    simp only [List.map_append, List.map_take, List.map_drop]
  rw [eq] at V2
  have hlen : (ys.take di ++ (xs.drop si).take ni ++ ys.drop (di + ni)).length = ys.length := by simp only [List.length_append, List.length_take, List.length_drop]; omega
  obtain ⟨t, v', L', g1, r⟩ := K h2 ⟨K2.1, fun x cl q r => K2.2.1 x cl r fun hm => q (List.mem_singleton.mp hm)⟩ (Ar.ofArv (by rw [hlen]; exact V2) (by rw [hlen]; exact ly)) T2 _ vm0 X2 e2' F2 (I.keep K2 hn0 S)
  exact ⟨t, v', L', st2 _ g1, r⟩
theorem own_leave {T : State} {L : List Loc} {fs : List Frame} {v : Option Value} (C : Ctx p meth c Z a0 EL cd mx ret nm) (X : Stand p l e R (s.setVm vm0) m args below meth c T L k n) (eh : T.heap = h) (hF : Fr n0 L) (I : OInv s Z own EL m n0 bk vm0 h) (hk : k ≤ R.cells) (hn : n ≤ R.slots) (hE : bk ≤ eb h ∨ h.size ≤ eb h) (hw : ReturnedEndW s (.returned v) (T.setFrames fs) L k n) (K : Q v h) :
    Fr n0 L ∧ (∃ k' n', k' ≤ R.cells ∧ n' ≤ R.slots ∧ ReturnedEndW s (.returned v) (T.setFrames fs) L k' n') ∧ CHr Z EL s.vm s.heap (T.setFrames fs).vm (T.setFrames fs).heap ∧ (∀ y, Bk Z EL (T.setFrames fs).vm (T.setFrames fs).heap y → y < eb (T.setFrames fs).heap) ∧ OKp (fun x => x < n0) s.heap (T.setFrames fs).heap ∧ Ext Z.heap (T.setFrames fs).heap ∧ Q v (T.setFrames fs).heap := by
  have e1 : (T.setFrames fs).heap = h := eh
  have e2 : (T.setFrames fs).vm = T.vm := rfl
  rw [e1, e2]
  obtain ⟨i1, i3, i4, i5, i6, i7, i8, i9⟩ := id I
  have A := CHv.at X i3 C.2.1 i5.1
  refine ⟨hF, ⟨k, n, hk, hn, hw⟩, i5.trans A, fun y B => ?_, i7, i8, K⟩
  rcases A.2.2 y B with q | q
  · exact own_bkc I hE y q
  · obtain ⟨cell, g⟩ := B.there
    exact absurd (Array.getElem?_eq_some_iff.mp g).1 (Nat.not_lt.mpr q)
theorem Ctx.retN (C : Ctx p meth c Z a0 EL cd mx ret nm) {z : Int32} {t : FieldType} (hret : ret = some t) (ht : t = .boolean ∨ t = .byte ∨ t = .char ∨ t = .short) (hd : decode cd pc = .ok (.ireturn, 1)) (hk : k ≤ R.cells) (hn : n ≤ R.slots) (hE : bk ≤ eb h ∨ h.size ≤ eb h) (K : Q (some (.int (nar t z))) h) : Go p l e R s m args below meth c Z own EL n0 eb Q bk h k n pc Ls (.int z :: st) := by
  intro T L vm0 X eh hF I
  obtain ⟨k0, i1, i2⟩ := I.1
  obtain ⟨fs, hr, hrun, hended, hw⟩ := X.leaveW i1 (eh ▸ i2) (v := some (.int (nar t z))) (fun g => by rw [C.2.2.2.1, hret] at g; cases g) C.2.2.2.2.1
  exact ⟨_, _, L, RoadKit.retN X C.1 (C.2.2.2.1.trans hret) ht (Jvm.hb C.2.2.2.2.2.1 hd) hr, hrun, hended, own_leave C X eh hF I hk hn hE hw K⟩
theorem Ctx.retI (C : Ctx p meth c Z a0 EL cd mx ret nm) {z : Int32} (hret : ret = some .int) (hd : decode cd pc = .ok (.ireturn, 1)) (hk : k ≤ R.cells) (hn : n ≤ R.slots) (hE : bk ≤ eb h ∨ h.size ≤ eb h) (K : Q (some (.int z)) h) : Go p l e R s m args below meth c Z own EL n0 eb Q bk h k n pc Ls (.int z :: st) := by
  intro T L vm0 X eh hF I
  obtain ⟨k0, i1, i2⟩ := I.1
  obtain ⟨fs, hr, hrun, hended, hw⟩ := X.leaveW i1 (eh ▸ i2) (v := some (.int z)) (fun g => by rw [C.2.2.2.1, hret] at g; cases g) C.2.2.2.2.1
  exact ⟨_, _, L, retOut X C.1 (C.2.2.2.1.trans hret) rfl (Or.inl ⟨rfl, Or.inl rfl, _, rfl⟩) (Jvm.hb C.2.2.2.2.2.1 hd) hr, hrun, hended, own_leave C X eh hF I hk hn hE hw K⟩
theorem Ctx.retA (C : Ctx p meth c Z a0 EL cd mx ret nm) {w : Value} {t : FieldType} (hret : ret = some t) (ht : t.isReference = true) (hd : decode cd pc = .ok (.areturn, 1)) (hv : w.isRef = true) (hk : k ≤ R.cells) (hn : n ≤ R.slots) (hE : bk ≤ eb h ∨ h.size ≤ eb h) (K : Q (some w) h) : Go p l e R s m args below meth c Z own EL n0 eb Q bk h k n pc Ls (w :: st) := by
  intro T L vm0 X eh hF I
  obtain ⟨k0, i1, i2⟩ := I.1
  obtain ⟨fs, hr, hrun, hended, hw⟩ := X.leaveW i1 (eh ▸ i2) (v := some w) (fun g => by rw [C.2.2.2.1, hret] at g; cases g) C.2.2.2.2.1
  have hnr : narrow t w = w := by rcases ref_cases hv with rfl | ⟨a, rfl⟩ <;> cases t <;> rfl
  exact ⟨_, _, L, retOut X C.1 (C.2.2.2.1.trans hret) hnr (Or.inr (Or.inr (Or.inr (Or.inr ⟨rfl, ht, hv⟩)))) (Jvm.hb C.2.2.2.2.2.1 hd) hr, hrun, hended, own_leave C X eh hF I hk hn hE hw K⟩
theorem Ctx.retV (C : Ctx p meth c Z a0 EL cd mx ret nm) (hret : ret = none) (hd : decode cd pc = .ok (.return_, 1)) (hk : k ≤ R.cells) (hn : n ≤ R.slots) (hE : bk ≤ eb h ∨ h.size ≤ eb h) (K : Q none h) : Go p l e R s m args below meth c Z own EL n0 eb Q bk h k n pc Ls [] := by
  intro T L vm0 X eh hF I
  obtain ⟨k0, i1, i2⟩ := I.1
  obtain ⟨fs, hr, hrun, hended, hw⟩ := X.leaveW i1 (eh ▸ i2) (v := none) (fun _ => rfl) C.2.2.2.2.1
  exact ⟨_, _, L, X.returnOut C.1 (C.2.2.2.1.trans hret) (Jvm.hb C.2.2.2.2.2.1 hd) hr, hrun, hended, own_leave C X eh hF I hk hn hE hw K⟩
end Steps1
theorem Ctx.iloadN (C : Ctx p meth c Z a0 EL cd mx ret nm) {pc : Nat} {Ls : Array Slot} {st : List Value} (pc' : Nat) {j : Fin 4} {v : Int32} (hd : decode cd pc = .ok (.iload_n j, 1)) (hl : Ls[j.val]? = some (.val (.int v))) (K : Go p l e R s m args below meth c Z own EL n0 eb Q bk h k n pc' Ls (.int v :: st)) (hp : pc + 1 = pc' := by rfl) : Go p l e R s m args below meth c Z own EL n0 eb Q bk h k n pc Ls (st) := by
  subst hp
  exact Go.pure (fun T t h hr => XS.iloadN h C.1 rfl (Jvm.hb C.2.2.2.2.2.1 hd) hl hr) K
theorem Ctx.iload (C : Ctx p meth c Z a0 EL cd mx ret nm) {pc : Nat} {Ls : Array Slot} {st : List Value} (pc' : Nat) {j : Nat} {v : Int32} (hd : decode cd pc = .ok (.iload j, 2)) (hl : Ls[j]? = some (.val (.int v))) (K : Go p l e R s m args below meth c Z own EL n0 eb Q bk h k n pc' Ls (.int v :: st)) (hp : pc + 2 = pc' := by rfl) : Go p l e R s m args below meth c Z own EL n0 eb Q bk h k n pc Ls (st) := by
  subst hp
  exact Go.pure (fun T t h hr => XS.iload h C.1 rfl (Jvm.hb C.2.2.2.2.2.1 hd) hl hr) K
theorem Ctx.lloadN (C : Ctx p meth c Z a0 EL cd mx ret nm) {pc : Nat} {Ls : Array Slot} {st : List Value} (pc' : Nat) {j : Fin 4} {v : Int64} (hd : decode cd pc = .ok (.lload_n j, 1)) (hl : Ls[j.val]? = some (.val (.long v))) (K : Go p l e R s m args below meth c Z own EL n0 eb Q bk h k n pc' Ls (.long v :: st)) (hp : pc + 1 = pc' := by rfl) : Go p l e R s m args below meth c Z own EL n0 eb Q bk h k n pc Ls (st) := by
  subst hp
  exact Go.pure (fun T t h hr => XT.lloadN h C.1 rfl (Jvm.hb C.2.2.2.2.2.1 hd) hl hr) K
theorem Ctx.lload (C : Ctx p meth c Z a0 EL cd mx ret nm) {pc : Nat} {Ls : Array Slot} {st : List Value} (pc' : Nat) {j : Nat} {v : Int64} (hd : decode cd pc = .ok (.lload j, 2)) (hl : Ls[j]? = some (.val (.long v))) (K : Go p l e R s m args below meth c Z own EL n0 eb Q bk h k n pc' Ls (.long v :: st)) (hp : pc + 2 = pc' := by rfl) : Go p l e R s m args below meth c Z own EL n0 eb Q bk h k n pc Ls (st) := by
  subst hp
  exact Go.pure (fun T t h hr => XT.lload h C.1 rfl (Jvm.hb C.2.2.2.2.2.1 hd) hl hr) K
theorem Ctx.aloadN (C : Ctx p meth c Z a0 EL cd mx ret nm) {pc : Nat} {Ls : Array Slot} {st : List Value} (pc' : Nat) {j : Fin 4} {v : Value} (hd : decode cd pc = .ok (.aload_n j, 1)) (hl : Ls[j.val]? = some (.val v)) (hv : v.isRef = true) (K : Go p l e R s m args below meth c Z own EL n0 eb Q bk h k n pc' Ls (v :: st)) (hp : pc + 1 = pc' := by rfl) : Go p l e R s m args below meth c Z own EL n0 eb Q bk h k n pc Ls (st) := by
  subst hp
  exact Go.pure (fun T t h hr => XS.aloadN h C.1 rfl (Jvm.hb C.2.2.2.2.2.1 hd) hl hv hr) K
theorem Ctx.aload (C : Ctx p meth c Z a0 EL cd mx ret nm) {pc : Nat} {Ls : Array Slot} {st : List Value} (pc' : Nat) {j : Nat} {v : Value} (hd : decode cd pc = .ok (.aload j, 2)) (hl : Ls[j]? = some (.val v)) (hv : v.isRef = true) (K : Go p l e R s m args below meth c Z own EL n0 eb Q bk h k n pc' Ls (v :: st)) (hp : pc + 2 = pc' := by rfl) : Go p l e R s m args below meth c Z own EL n0 eb Q bk h k n pc Ls (st) := by
  subst hp
  exact Go.pure (fun T t h hr => XS.aload h C.1 rfl (Jvm.hb C.2.2.2.2.2.1 hd) hl hv hr) K
theorem Ctx.istoreN (C : Ctx p meth c Z a0 EL cd mx ret nm) {pc : Nat} {Ls : Array Slot} {st : List Value} (pc' : Nat) {j : Fin 4} {v : Int32} {L' : Array Slot} (hd : decode cd pc = .ok (.istore_n j, 1)) (hl : storeLocals Ls j.val (.int v) = some L') (K : Go p l e R s m args below meth c Z own EL n0 eb Q bk h k n pc' L' (st)) (hp : pc + 1 = pc' := by rfl) : Go p l e R s m args below meth c Z own EL n0 eb Q bk h k n pc Ls (.int v :: st) := by
  subst hp
  exact Go.pure (fun T t h hr => XS.istoreN h C.1 rfl (Jvm.hb C.2.2.2.2.2.1 hd) rfl hl hr) K
theorem Ctx.istore (C : Ctx p meth c Z a0 EL cd mx ret nm) {pc : Nat} {Ls : Array Slot} {st : List Value} (pc' : Nat) {j : Nat} {v : Int32} {L' : Array Slot} (hd : decode cd pc = .ok (.istore j, 2)) (hl : storeLocals Ls j (.int v) = some L') (K : Go p l e R s m args below meth c Z own EL n0 eb Q bk h k n pc' L' (st)) (hp : pc + 2 = pc' := by rfl) : Go p l e R s m args below meth c Z own EL n0 eb Q bk h k n pc Ls (.int v :: st) := by
  subst hp
  exact Go.pure (fun T t h hr => XS.istore h C.1 rfl (Jvm.hb C.2.2.2.2.2.1 hd) rfl hl hr) K
theorem Ctx.lstoreN (C : Ctx p meth c Z a0 EL cd mx ret nm) {pc : Nat} {Ls : Array Slot} {st : List Value} (pc' : Nat) {j : Fin 4} {v : Int64} {L' : Array Slot} (hd : decode cd pc = .ok (.lstore_n j, 1)) (hl : storeLocals Ls j.val (.long v) = some L') (K : Go p l e R s m args below meth c Z own EL n0 eb Q bk h k n pc' L' (st)) (hp : pc + 1 = pc' := by rfl) : Go p l e R s m args below meth c Z own EL n0 eb Q bk h k n pc Ls (.long v :: st) := by
  subst hp
  exact Go.pure (fun T t h hr => XT.lstoreN h C.1 rfl (Jvm.hb C.2.2.2.2.2.1 hd) rfl hl hr) K
theorem Ctx.lstore (C : Ctx p meth c Z a0 EL cd mx ret nm) {pc : Nat} {Ls : Array Slot} {st : List Value} (pc' : Nat) {j : Nat} {v : Int64} {L' : Array Slot} (hd : decode cd pc = .ok (.lstore j, 2)) (hl : storeLocals Ls j (.long v) = some L') (K : Go p l e R s m args below meth c Z own EL n0 eb Q bk h k n pc' L' (st)) (hp : pc + 2 = pc' := by rfl) : Go p l e R s m args below meth c Z own EL n0 eb Q bk h k n pc Ls (.long v :: st) := by
  subst hp
  exact Go.pure (fun T t h hr => XT.lstore h C.1 rfl (Jvm.hb C.2.2.2.2.2.1 hd) rfl hl hr) K
theorem Ctx.astoreN (C : Ctx p meth c Z a0 EL cd mx ret nm) {pc : Nat} {Ls : Array Slot} {st : List Value} (pc' : Nat) {j : Fin 4} {v : Value} {L' : Array Slot} (hd : decode cd pc = .ok (.astore_n j, 1)) (hl : storeLocals Ls j.val v = some L') (hv : v.isRef = true) (K : Go p l e R s m args below meth c Z own EL n0 eb Q bk h k n pc' L' (st)) (hp : pc + 1 = pc' := by rfl) : Go p l e R s m args below meth c Z own EL n0 eb Q bk h k n pc Ls (v :: st) := by
  subst hp
  exact Go.pure (fun T t h hr => XS.astoreN h C.1 rfl (Jvm.hb C.2.2.2.2.2.1 hd) rfl hv hl hr) K
theorem Ctx.astore (C : Ctx p meth c Z a0 EL cd mx ret nm) {pc : Nat} {Ls : Array Slot} {st : List Value} (pc' : Nat) {j : Nat} {v : Value} {L' : Array Slot} (hd : decode cd pc = .ok (.astore j, 2)) (hl : storeLocals Ls j v = some L') (hv : v.isRef = true) (K : Go p l e R s m args below meth c Z own EL n0 eb Q bk h k n pc' L' (st)) (hp : pc + 2 = pc' := by rfl) : Go p l e R s m args below meth c Z own EL n0 eb Q bk h k n pc Ls (v :: st) := by
  subst hp
  exact Go.pure (fun T t h hr => XS.astore h C.1 rfl (Jvm.hb C.2.2.2.2.2.1 hd) rfl hv hl hr) K
theorem Ctx.iconst (C : Ctx p meth c Z a0 EL cd mx ret nm) {pc : Nat} {Ls : Array Slot} {st : List Value} (pc' : Nat) {i : Int} (v : Int32) (hd : decode cd pc = .ok (.iconst i, 1)) (hv : Int32.ofInt i = v) (K : Go p l e R s m args below meth c Z own EL n0 eb Q bk h k n pc' Ls (.int v :: st)) (hp : pc + 1 = pc' := by rfl) : Go p l e R s m args below meth c Z own EL n0 eb Q bk h k n pc Ls (st) := by
  subst hp
  exact Go.pure (fun T t h hr => XT.iconstV h C.1 rfl v (Jvm.hb C.2.2.2.2.2.1 hd) hv hr) K
theorem Ctx.bipush (C : Ctx p meth c Z a0 EL cd mx ret nm) {pc : Nat} {Ls : Array Slot} {st : List Value} (pc' : Nat) {i : Int} (v : Int32) (hd : decode cd pc = .ok (.bipush i, 2)) (hv : (Int8.ofInt i).toInt32 = v) (K : Go p l e R s m args below meth c Z own EL n0 eb Q bk h k n pc' Ls (.int v :: st)) (hp : pc + 2 = pc' := by rfl) : Go p l e R s m args below meth c Z own EL n0 eb Q bk h k n pc Ls (st) := by
  subst hp
  exact Go.pure (fun T t h hr => XT.bipushV h C.1 rfl v (Jvm.hb C.2.2.2.2.2.1 hd) hv hr) K
theorem Ctx.sipush (C : Ctx p meth c Z a0 EL cd mx ret nm) {pc : Nat} {Ls : Array Slot} {st : List Value} (pc' : Nat) {i : Int} (v : Int32) (hd : decode cd pc = .ok (.sipush i, 3)) (hv : (Int16.ofInt i).toInt32 = v) (K : Go p l e R s m args below meth c Z own EL n0 eb Q bk h k n pc' Ls (.int v :: st)) (hp : pc + 3 = pc' := by rfl) : Go p l e R s m args below meth c Z own EL n0 eb Q bk h k n pc Ls (st) := by
  subst hp
  exact Go.pure (fun T t h hr => XT.sipushV h C.1 rfl v (Jvm.hb C.2.2.2.2.2.1 hd) hv hr) K
theorem Ctx.lconst (C : Ctx p meth c Z a0 EL cd mx ret nm) {pc : Nat} {Ls : Array Slot} {st : List Value} (pc' : Nat) {i : Fin 2} (v : Int64) (hd : decode cd pc = .ok (.lconst i, 1)) (hv : Int64.ofNat i = v) (K : Go p l e R s m args below meth c Z own EL n0 eb Q bk h k n pc' Ls (.long v :: st)) (hp : pc + 1 = pc' := by rfl) : Go p l e R s m args below meth c Z own EL n0 eb Q bk h k n pc Ls (st) := by
  subst hp
  exact Go.pure (fun T t h hr => XT.lconstV h C.1 rfl v (Jvm.hb C.2.2.2.2.2.1 hd) hv hr) K
theorem Ctx.aconstNull (C : Ctx p meth c Z a0 EL cd mx ret nm) {pc : Nat} {Ls : Array Slot} {st : List Value} (pc' : Nat)  (hd : decode cd pc = .ok (.aconst_null, 1))  (K : Go p l e R s m args below meth c Z own EL n0 eb Q bk h k n pc' Ls (.null :: st)) (hp : pc + 1 = pc' := by rfl) : Go p l e R s m args below meth c Z own EL n0 eb Q bk h k n pc Ls (st) := by
  subst hp
  exact Go.pure (fun T t h hr => XS.aconstNull h C.1 rfl (Jvm.hb C.2.2.2.2.2.1 hd)  hr) K
theorem Ctx.iadd (C : Ctx p meth c Z a0 EL cd mx ret nm) {pc : Nat} {Ls : Array Slot} {st : List Value} (pc' : Nat) {x y : Int32} (hd : decode cd pc = .ok (.iadd, 1))  (K : Go p l e R s m args below meth c Z own EL n0 eb Q bk h k n pc' Ls (.int (x + y) :: st)) (hp : pc + 1 = pc' := by rfl) : Go p l e R s m args below meth c Z own EL n0 eb Q bk h k n pc Ls (.int y :: .int x :: st) := by
  subst hp
  exact Go.pure (fun T t h hr => XS.iadd h C.1 rfl (Jvm.hb C.2.2.2.2.2.1 hd) rfl hr) K
theorem Ctx.isub (C : Ctx p meth c Z a0 EL cd mx ret nm) {pc : Nat} {Ls : Array Slot} {st : List Value} (pc' : Nat) {x y : Int32} (hd : decode cd pc = .ok (.isub, 1))  (K : Go p l e R s m args below meth c Z own EL n0 eb Q bk h k n pc' Ls (.int (x - y) :: st)) (hp : pc + 1 = pc' := by rfl) : Go p l e R s m args below meth c Z own EL n0 eb Q bk h k n pc Ls (.int y :: .int x :: st) := by
  subst hp
  exact Go.pure (fun T t h hr => XS.isub h C.1 rfl (Jvm.hb C.2.2.2.2.2.1 hd) rfl hr) K
theorem Ctx.imul (C : Ctx p meth c Z a0 EL cd mx ret nm) {pc : Nat} {Ls : Array Slot} {st : List Value} (pc' : Nat) {x y : Int32} (hd : decode cd pc = .ok (.imul, 1))  (K : Go p l e R s m args below meth c Z own EL n0 eb Q bk h k n pc' Ls (.int (x * y) :: st)) (hp : pc + 1 = pc' := by rfl) : Go p l e R s m args below meth c Z own EL n0 eb Q bk h k n pc Ls (.int y :: .int x :: st) := by
  subst hp
  exact Go.pure (fun T t h hr => XS.imul h C.1 rfl (Jvm.hb C.2.2.2.2.2.1 hd) rfl hr) K
theorem Ctx.iand (C : Ctx p meth c Z a0 EL cd mx ret nm) {pc : Nat} {Ls : Array Slot} {st : List Value} (pc' : Nat) {x y : Int32} (hd : decode cd pc = .ok (.iand, 1))  (K : Go p l e R s m args below meth c Z own EL n0 eb Q bk h k n pc' Ls (.int (x &&& y) :: st)) (hp : pc + 1 = pc' := by rfl) : Go p l e R s m args below meth c Z own EL n0 eb Q bk h k n pc Ls (.int y :: .int x :: st) := by
  subst hp
  exact Go.pure (fun T t h hr => XS.iand h C.1 rfl (Jvm.hb C.2.2.2.2.2.1 hd) rfl hr) K
theorem Ctx.ior (C : Ctx p meth c Z a0 EL cd mx ret nm) {pc : Nat} {Ls : Array Slot} {st : List Value} (pc' : Nat) {x y : Int32} (hd : decode cd pc = .ok (.ior, 1))  (K : Go p l e R s m args below meth c Z own EL n0 eb Q bk h k n pc' Ls (.int (x ||| y) :: st)) (hp : pc + 1 = pc' := by rfl) : Go p l e R s m args below meth c Z own EL n0 eb Q bk h k n pc Ls (.int y :: .int x :: st) := by
  subst hp
  exact Go.pure (fun T t h hr => XT.ior h C.1 rfl (Jvm.hb C.2.2.2.2.2.1 hd) rfl hr) K
theorem Ctx.ixor (C : Ctx p meth c Z a0 EL cd mx ret nm) {pc : Nat} {Ls : Array Slot} {st : List Value} (pc' : Nat) {x y : Int32} (hd : decode cd pc = .ok (.ixor, 1))  (K : Go p l e R s m args below meth c Z own EL n0 eb Q bk h k n pc' Ls (.int (x ^^^ y) :: st)) (hp : pc + 1 = pc' := by rfl) : Go p l e R s m args below meth c Z own EL n0 eb Q bk h k n pc Ls (.int y :: .int x :: st) := by
  subst hp
  exact Go.pure (fun T t h hr => XT.ixor h C.1 rfl (Jvm.hb C.2.2.2.2.2.1 hd) rfl hr) K
theorem Ctx.ishl (C : Ctx p meth c Z a0 EL cd mx ret nm) {pc : Nat} {Ls : Array Slot} {st : List Value} (pc' : Nat) {x y : Int32} (hd : decode cd pc = .ok (.ishl, 1))  (K : Go p l e R s m args below meth c Z own EL n0 eb Q bk h k n pc' Ls (.int (x <<< (y &&& 31)) :: st)) (hp : pc + 1 = pc' := by rfl) : Go p l e R s m args below meth c Z own EL n0 eb Q bk h k n pc Ls (.int y :: .int x :: st) := by
  subst hp
  exact Go.pure (fun T t h hr => XT.ishl h C.1 rfl (Jvm.hb C.2.2.2.2.2.1 hd) rfl hr) K
theorem Ctx.ishr (C : Ctx p meth c Z a0 EL cd mx ret nm) {pc : Nat} {Ls : Array Slot} {st : List Value} (pc' : Nat) {x y : Int32} (hd : decode cd pc = .ok (.ishr, 1))  (K : Go p l e R s m args below meth c Z own EL n0 eb Q bk h k n pc' Ls (.int (x >>> (y &&& 31)) :: st)) (hp : pc + 1 = pc' := by rfl) : Go p l e R s m args below meth c Z own EL n0 eb Q bk h k n pc Ls (.int y :: .int x :: st) := by
  subst hp
  exact Go.pure (fun T t h hr => XT.ishr h C.1 rfl (Jvm.hb C.2.2.2.2.2.1 hd) rfl hr) K
theorem Ctx.iushr (C : Ctx p meth c Z a0 EL cd mx ret nm) {pc : Nat} {Ls : Array Slot} {st : List Value} (pc' : Nat) {x y : Int32} (hd : decode cd pc = .ok (.iushr, 1))  (K : Go p l e R s m args below meth c Z own EL n0 eb Q bk h k n pc' Ls (.int (XT.ushr x y) :: st)) (hp : pc + 1 = pc' := by rfl) : Go p l e R s m args below meth c Z own EL n0 eb Q bk h k n pc Ls (.int y :: .int x :: st) := by
  subst hp
  exact Go.pure (fun T t h hr => XT.iushr h C.1 rfl (Jvm.hb C.2.2.2.2.2.1 hd) rfl hr) K
theorem Ctx.ineg (C : Ctx p meth c Z a0 EL cd mx ret nm) {pc : Nat} {Ls : Array Slot} {st : List Value} (pc' : Nat) {x : Int32} (hd : decode cd pc = .ok (.ineg, 1))  (K : Go p l e R s m args below meth c Z own EL n0 eb Q bk h k n pc' Ls (.int (-x) :: st)) (hp : pc + 1 = pc' := by rfl) : Go p l e R s m args below meth c Z own EL n0 eb Q bk h k n pc Ls (.int x :: st) := by
  subst hp
  exact Go.pure (fun T t h hr => XS.ineg h C.1 rfl (Jvm.hb C.2.2.2.2.2.1 hd) rfl hr) K
theorem Ctx.ladd (C : Ctx p meth c Z a0 EL cd mx ret nm) {pc : Nat} {Ls : Array Slot} {st : List Value} (pc' : Nat) {x y : Int64} (hd : decode cd pc = .ok (.ladd, 1))  (K : Go p l e R s m args below meth c Z own EL n0 eb Q bk h k n pc' Ls (.long (x + y) :: st)) (hp : pc + 1 = pc' := by rfl) : Go p l e R s m args below meth c Z own EL n0 eb Q bk h k n pc Ls (.long y :: .long x :: st) := by
  subst hp
  exact Go.pure (fun T t h hr => XT.ladd h C.1 rfl (Jvm.hb C.2.2.2.2.2.1 hd) rfl hr) K
theorem Ctx.lsub (C : Ctx p meth c Z a0 EL cd mx ret nm) {pc : Nat} {Ls : Array Slot} {st : List Value} (pc' : Nat) {x y : Int64} (hd : decode cd pc = .ok (.lsub, 1))  (K : Go p l e R s m args below meth c Z own EL n0 eb Q bk h k n pc' Ls (.long (x - y) :: st)) (hp : pc + 1 = pc' := by rfl) : Go p l e R s m args below meth c Z own EL n0 eb Q bk h k n pc Ls (.long y :: .long x :: st) := by
  subst hp
  exact Go.pure (fun T t h hr => XT.lsub h C.1 rfl (Jvm.hb C.2.2.2.2.2.1 hd) rfl hr) K
theorem Ctx.lmul (C : Ctx p meth c Z a0 EL cd mx ret nm) {pc : Nat} {Ls : Array Slot} {st : List Value} (pc' : Nat) {x y : Int64} (hd : decode cd pc = .ok (.lmul, 1))  (K : Go p l e R s m args below meth c Z own EL n0 eb Q bk h k n pc' Ls (.long (x * y) :: st)) (hp : pc + 1 = pc' := by rfl) : Go p l e R s m args below meth c Z own EL n0 eb Q bk h k n pc Ls (.long y :: .long x :: st) := by
  subst hp
  exact Go.pure (fun T t h hr => XT.lmul h C.1 rfl (Jvm.hb C.2.2.2.2.2.1 hd) rfl hr) K
theorem Ctx.land (C : Ctx p meth c Z a0 EL cd mx ret nm) {pc : Nat} {Ls : Array Slot} {st : List Value} (pc' : Nat) {x y : Int64} (hd : decode cd pc = .ok (.land, 1))  (K : Go p l e R s m args below meth c Z own EL n0 eb Q bk h k n pc' Ls (.long (x &&& y) :: st)) (hp : pc + 1 = pc' := by rfl) : Go p l e R s m args below meth c Z own EL n0 eb Q bk h k n pc Ls (.long y :: .long x :: st) := by
  subst hp
  exact Go.pure (fun T t h hr => XT.land h C.1 rfl (Jvm.hb C.2.2.2.2.2.1 hd) rfl hr) K
theorem Ctx.lor (C : Ctx p meth c Z a0 EL cd mx ret nm) {pc : Nat} {Ls : Array Slot} {st : List Value} (pc' : Nat) {x y : Int64} (hd : decode cd pc = .ok (.lor, 1))  (K : Go p l e R s m args below meth c Z own EL n0 eb Q bk h k n pc' Ls (.long (x ||| y) :: st)) (hp : pc + 1 = pc' := by rfl) : Go p l e R s m args below meth c Z own EL n0 eb Q bk h k n pc Ls (.long y :: .long x :: st) := by
  subst hp
  exact Go.pure (fun T t h hr => XT.lor h C.1 rfl (Jvm.hb C.2.2.2.2.2.1 hd) rfl hr) K
theorem Ctx.lxor (C : Ctx p meth c Z a0 EL cd mx ret nm) {pc : Nat} {Ls : Array Slot} {st : List Value} (pc' : Nat) {x y : Int64} (hd : decode cd pc = .ok (.lxor, 1))  (K : Go p l e R s m args below meth c Z own EL n0 eb Q bk h k n pc' Ls (.long (x ^^^ y) :: st)) (hp : pc + 1 = pc' := by rfl) : Go p l e R s m args below meth c Z own EL n0 eb Q bk h k n pc Ls (.long y :: .long x :: st) := by
  subst hp
  exact Go.pure (fun T t h hr => XT.lxor h C.1 rfl (Jvm.hb C.2.2.2.2.2.1 hd) rfl hr) K
theorem Ctx.ldiv (C : Ctx p meth c Z a0 EL cd mx ret nm) {pc : Nat} {Ls : Array Slot} {st : List Value} (pc' : Nat) {x y : Int64} (hd : decode cd pc = .ok (.ldiv, 1)) (hy : y ≠ 0) (K : Go p l e R s m args below meth c Z own EL n0 eb Q bk h k n pc' Ls (.long (x / y) :: st)) (hp : pc + 1 = pc' := by rfl) : Go p l e R s m args below meth c Z own EL n0 eb Q bk h k n pc Ls (.long y :: .long x :: st) := by
  subst hp
  exact Go.pure (fun T t h hr => XT.ldiv h C.1 rfl (Jvm.hb C.2.2.2.2.2.1 hd) rfl hy hr) K
theorem Ctx.i2l (C : Ctx p meth c Z a0 EL cd mx ret nm) {pc : Nat} {Ls : Array Slot} {st : List Value} (pc' : Nat) {x : Int32} (hd : decode cd pc = .ok (.i2l, 1))  (K : Go p l e R s m args below meth c Z own EL n0 eb Q bk h k n pc' Ls (.long x.toInt64 :: st)) (hp : pc + 1 = pc' := by rfl) : Go p l e R s m args below meth c Z own EL n0 eb Q bk h k n pc Ls (.int x :: st) := by
  subst hp
  exact Go.pure (fun T t h hr => XT.i2l h C.1 rfl (Jvm.hb C.2.2.2.2.2.1 hd) rfl hr) K
theorem Ctx.l2i (C : Ctx p meth c Z a0 EL cd mx ret nm) {pc : Nat} {Ls : Array Slot} {st : List Value} (pc' : Nat) {x : Int64} (hd : decode cd pc = .ok (.l2i, 1))  (K : Go p l e R s m args below meth c Z own EL n0 eb Q bk h k n pc' Ls (.int x.toInt32 :: st)) (hp : pc + 1 = pc' := by rfl) : Go p l e R s m args below meth c Z own EL n0 eb Q bk h k n pc Ls (.long x :: st) := by
  subst hp
  exact Go.pure (fun T t h hr => XT.l2i h C.1 rfl (Jvm.hb C.2.2.2.2.2.1 hd) rfl hr) K
theorem Ctx.i2b (C : Ctx p meth c Z a0 EL cd mx ret nm) {pc : Nat} {Ls : Array Slot} {st : List Value} (pc' : Nat) {x : Int32} (hd : decode cd pc = .ok (.i2b, 1))  (K : Go p l e R s m args below meth c Z own EL n0 eb Q bk h k n pc' Ls (.int x.toInt8.toInt32 :: st)) (hp : pc + 1 = pc' := by rfl) : Go p l e R s m args below meth c Z own EL n0 eb Q bk h k n pc Ls (.int x :: st) := by
  subst hp
  exact Go.pure (fun T t h hr => XT.i2b h C.1 rfl (Jvm.hb C.2.2.2.2.2.1 hd) rfl hr) K
theorem Ctx.i2c (C : Ctx p meth c Z a0 EL cd mx ret nm) {pc : Nat} {Ls : Array Slot} {st : List Value} (pc' : Nat) {x : Int32} (hd : decode cd pc = .ok (.i2c, 1))  (K : Go p l e R s m args below meth c Z own EL n0 eb Q bk h k n pc' Ls (.int x.toUInt32.toUInt16.toUInt32.toInt32 :: st)) (hp : pc + 1 = pc' := by rfl) : Go p l e R s m args below meth c Z own EL n0 eb Q bk h k n pc Ls (.int x :: st) := by
  subst hp
  exact Go.pure (fun T t h hr => XT.i2c h C.1 rfl (Jvm.hb C.2.2.2.2.2.1 hd) rfl hr) K
theorem Ctx.lcmp (C : Ctx p meth c Z a0 EL cd mx ret nm) {pc : Nat} {Ls : Array Slot} {st : List Value} (pc' : Nat) {x y : Int64} (hd : decode cd pc = .ok (.lcmp, 1))  (K : Go p l e R s m args below meth c Z own EL n0 eb Q bk h k n pc' Ls (.int (XT.cmpL x y) :: st)) (hp : pc + 1 = pc' := by rfl) : Go p l e R s m args below meth c Z own EL n0 eb Q bk h k n pc Ls (.long y :: .long x :: st) := by
  subst hp
  exact Go.pure (fun T t h hr => XT.lcmp h C.1 rfl (Jvm.hb C.2.2.2.2.2.1 hd) rfl hr) K
theorem Ctx.pop (C : Ctx p meth c Z a0 EL cd mx ret nm) {pc : Nat} {Ls : Array Slot} {st : List Value} (pc' : Nat) {x : Value} (hd : decode cd pc = .ok (.pop, 1)) (hc : x.category = 1) (K : Go p l e R s m args below meth c Z own EL n0 eb Q bk h k n pc' Ls (st)) (hp : pc + 1 = pc' := by rfl) : Go p l e R s m args below meth c Z own EL n0 eb Q bk h k n pc Ls (x :: st) := by
  subst hp
  exact Go.pure (fun T t h hr => XT.pop h C.1 rfl (Jvm.hb C.2.2.2.2.2.1 hd) rfl hc hr) K
theorem Ctx.dup (C : Ctx p meth c Z a0 EL cd mx ret nm) {pc : Nat} {Ls : Array Slot} {st : List Value} (pc' : Nat) {x : Value} (hd : decode cd pc = .ok (.dup, 1)) (hc : x.category = 1) (K : Go p l e R s m args below meth c Z own EL n0 eb Q bk h k n pc' Ls (x :: x :: st)) (hp : pc + 1 = pc' := by rfl) : Go p l e R s m args below meth c Z own EL n0 eb Q bk h k n pc Ls (x :: st) := by
  subst hp
  exact Go.pure (fun T t h hr => XS.dup h C.1 rfl (Jvm.hb C.2.2.2.2.2.1 hd) rfl hc hr) K
theorem Ctx.dupX1 (C : Ctx p meth c Z a0 EL cd mx ret nm) {pc : Nat} {Ls : Array Slot} {st : List Value} (pc' : Nat) {x y : Value} (hd : decode cd pc = .ok (.dup_x1, 1)) (hc : x.category = 1) (hc' : y.category = 1) (K : Go p l e R s m args below meth c Z own EL n0 eb Q bk h k n pc' Ls (x :: y :: x :: st)) (hp : pc + 1 = pc' := by rfl) : Go p l e R s m args below meth c Z own EL n0 eb Q bk h k n pc Ls (x :: y :: st) := by
  subst hp
  exact Go.pure (fun T t h hr => XT.dupX1 h C.1 rfl (Jvm.hb C.2.2.2.2.2.1 hd) rfl hc hc' hr) K
theorem Ctx.dup2 (C : Ctx p meth c Z a0 EL cd mx ret nm) {pc : Nat} {Ls : Array Slot} {st : List Value} (pc' : Nat) {x y : Value} (hd : decode cd pc = .ok (.dup2, 1)) (hc : x.category = 1) (hc' : y.category = 1) (K : Go p l e R s m args below meth c Z own EL n0 eb Q bk h k n pc' Ls (x :: y :: x :: y :: st)) (hp : pc + 1 = pc' := by rfl) : Go p l e R s m args below meth c Z own EL n0 eb Q bk h k n pc Ls (x :: y :: st) := by
  subst hp
  exact Go.pure (fun T t h hr => XT.dup2 h C.1 rfl (Jvm.hb C.2.2.2.2.2.1 hd) rfl hc hc' hr) K

theorem Ctx.goto (C : Ctx p meth c Z a0 EL cd mx ret nm) {pc : Nat} {Ls : Array Slot} {st : List Value} (pc' : Nat) {o : Int} (hd : decode cd pc = .ok (.goto o, 3)) (ho : 0 ≤ (pc : Int) + o) (hp : ((pc : Int) + o).toNat = pc') (K : Go p l e R s m args below meth c Z own EL n0 eb Q bk h k n pc' Ls st) : Go p l e R s m args below meth c Z own EL n0 eb Q bk h k n pc Ls st :=
  Go.pure (fun T t h hr => XS.goto h C.1 rfl (pc0 := pc) rfl (Jvm.hb C.2.2.2.2.2.1 hd) ho hp hr) K
theorem Ctx.ifY (C : Ctx p meth c Z a0 EL cd mx ret nm) {pc : Nat} {Ls : Array Slot} {st : List Value} (pc' : Nat) {o : Int} {kc : ClassFile.Cond} {x : Int32} (hd : decode cd pc = .ok (.ifCond kc o, 3)) (ho : 0 ≤ (pc : Int) + o) (hp : ((pc : Int) + o).toNat = pc') (hc : ifCond.holds kc x = true) (K : Go p l e R s m args below meth c Z own EL n0 eb Q bk h k n pc' Ls st) : Go p l e R s m args below meth c Z own EL n0 eb Q bk h k n pc Ls (.int x :: st) :=
  Go.pure (fun T t h hr => XS.ifYes h C.1 rfl (pc0 := pc) rfl (Jvm.hb C.2.2.2.2.2.1 hd) rfl hc ho hp hr) K
theorem Ctx.ifN (C : Ctx p meth c Z a0 EL cd mx ret nm) {pc : Nat} {Ls : Array Slot} {st : List Value} (pc' : Nat) {o : Int} {kc : ClassFile.Cond} {x : Int32} (hd : decode cd pc = .ok (.ifCond kc o, 3)) (hp : pc + 3 = pc') (hc : ifCond.holds kc x = false) (K : Go p l e R s m args below meth c Z own EL n0 eb Q bk h k n pc' Ls st) : Go p l e R s m args below meth c Z own EL n0 eb Q bk h k n pc Ls (.int x :: st) := by
  subst hp
  exact Go.pure (fun T t h hr => XS.ifNo h C.1 rfl (Jvm.hb C.2.2.2.2.2.1 hd) rfl hc hr) K
theorem Ctx.icY (C : Ctx p meth c Z a0 EL cd mx ret nm) {pc : Nat} {Ls : Array Slot} {st : List Value} (pc' : Nat) {o : Int} {kc : ClassFile.Cond} {x y : Int32} (hd : decode cd pc = .ok (.if_icmp kc o, 3)) (ho : 0 ≤ (pc : Int) + o) (hp : ((pc : Int) + o).toNat = pc') (hc : if_icmp.holds kc x y = true) (K : Go p l e R s m args below meth c Z own EL n0 eb Q bk h k n pc' Ls st) : Go p l e R s m args below meth c Z own EL n0 eb Q bk h k n pc Ls (.int y :: .int x :: st) :=
  Go.pure (fun T t h hr => XS.icmpYes h C.1 rfl (pc0 := pc) rfl (Jvm.hb C.2.2.2.2.2.1 hd) rfl hc ho hp hr) K
theorem Ctx.icN (C : Ctx p meth c Z a0 EL cd mx ret nm) {pc : Nat} {Ls : Array Slot} {st : List Value} (pc' : Nat) {o : Int} {kc : ClassFile.Cond} {x y : Int32} (hd : decode cd pc = .ok (.if_icmp kc o, 3)) (hp : pc + 3 = pc') (hc : if_icmp.holds kc x y = false) (K : Go p l e R s m args below meth c Z own EL n0 eb Q bk h k n pc' Ls st) : Go p l e R s m args below meth c Z own EL n0 eb Q bk h k n pc Ls (.int y :: .int x :: st) := by
  subst hp
  exact Go.pure (fun T t h hr => XS.icmpNo h C.1 rfl (Jvm.hb C.2.2.2.2.2.1 hd) rfl hc hr) K
theorem Ctx.nullY (C : Ctx p meth c Z a0 EL cd mx ret nm) {pc : Nat} {Ls : Array Slot} {st : List Value} (pc' : Nat) {o : Int} (hd : decode cd pc = .ok (.ifnull o, 3)) (ho : 0 ≤ (pc : Int) + o) (hp : ((pc : Int) + o).toNat = pc') (K : Go p l e R s m args below meth c Z own EL n0 eb Q bk h k n pc' Ls st) : Go p l e R s m args below meth c Z own EL n0 eb Q bk h k n pc Ls (.null :: st) :=
  Go.pure (fun T t h hr => XS.ifnullYes h C.1 rfl (pc0 := pc) rfl (Jvm.hb C.2.2.2.2.2.1 hd) rfl ho hp hr) K
theorem Ctx.nullN (C : Ctx p meth c Z a0 EL cd mx ret nm) {pc : Nat} {Ls : Array Slot} {st : List Value} (pc' : Nat) {o : Int} {a : Addr} (hd : decode cd pc = .ok (.ifnull o, 3)) (hp : pc + 3 = pc') (K : Go p l e R s m args below meth c Z own EL n0 eb Q bk h k n pc' Ls st) : Go p l e R s m args below meth c Z own EL n0 eb Q bk h k n pc Ls (.ref a :: st) := by
  subst hp
  exact Go.pure (fun T t h hr => XS.ifnullNo h C.1 rfl (Jvm.hb C.2.2.2.2.2.1 hd) rfl hr) K
theorem Ctx.nonY (C : Ctx p meth c Z a0 EL cd mx ret nm) {pc : Nat} {Ls : Array Slot} {st : List Value} (pc' : Nat) {o : Int} {a : Addr} (hd : decode cd pc = .ok (.ifnonnull o, 3)) (ho : 0 ≤ (pc : Int) + o) (hp : ((pc : Int) + o).toNat = pc') (K : Go p l e R s m args below meth c Z own EL n0 eb Q bk h k n pc' Ls st) : Go p l e R s m args below meth c Z own EL n0 eb Q bk h k n pc Ls (.ref a :: st) :=
  Go.pure (fun T t h hr => XT.ifnonnullYes h C.1 rfl (pc0 := pc) rfl (Jvm.hb C.2.2.2.2.2.1 hd) rfl ho hp hr) K
theorem Ctx.nonN (C : Ctx p meth c Z a0 EL cd mx ret nm) {pc : Nat} {Ls : Array Slot} {st : List Value} (pc' : Nat) {o : Int} (hd : decode cd pc = .ok (.ifnonnull o, 3)) (hp : pc + 3 = pc') (K : Go p l e R s m args below meth c Z own EL n0 eb Q bk h k n pc' Ls st) : Go p l e R s m args below meth c Z own EL n0 eb Q bk h k n pc Ls (.null :: st) := by
  subst hp
  exact Go.pure (fun T t h hr => XT.ifnonnullNo h C.1 rfl (Jvm.hb C.2.2.2.2.2.1 hd) rfl hr) K
theorem Ctx.acY (C : Ctx p meth c Z a0 EL cd mx ret nm) {pc : Nat} {Ls : Array Slot} {st : List Value} (pc' : Nat) {o : Int} {kc : ClassFile.ACond} {x y : Value} (hd : decode cd pc = .ok (.if_acmp kc o, 3)) (ho : 0 ≤ (pc : Int) + o) (hp : ((pc : Int) + o).toNat = pc') (hx : x.isRef = true) (hy : y.isRef = true) (hc : XT.acmp kc x y = true) (K : Go p l e R s m args below meth c Z own EL n0 eb Q bk h k n pc' Ls st) : Go p l e R s m args below meth c Z own EL n0 eb Q bk h k n pc Ls (y :: x :: st) :=
  Go.pure (fun T t h hr => XT.acmpYes h C.1 rfl (pc0 := pc) rfl (Jvm.hb C.2.2.2.2.2.1 hd) rfl hx hy hc ho hp hr) K
theorem Ctx.acN (C : Ctx p meth c Z a0 EL cd mx ret nm) {pc : Nat} {Ls : Array Slot} {st : List Value} (pc' : Nat) {o : Int} {kc : ClassFile.ACond} {x y : Value} (hd : decode cd pc = .ok (.if_acmp kc o, 3)) (hp : pc + 3 = pc') (hx : x.isRef = true) (hy : y.isRef = true) (hc : XT.acmp kc x y = false) (K : Go p l e R s m args below meth c Z own EL n0 eb Q bk h k n pc' Ls st) : Go p l e R s m args below meth c Z own EL n0 eb Q bk h k n pc Ls (y :: x :: st) := by
  subst hp
  exact Go.pure (fun T t h hr => XT.acmpNo h C.1 rfl (Jvm.hb C.2.2.2.2.2.1 hd) rfl hx hy hc hr) K
theorem Ctx.iinc (C : Ctx p meth c Z a0 EL cd mx ret nm) {pc : Nat} {Ls : Array Slot} {st : List Value} (pc' : Nat) {j : Nat} {i : Int} {x : Int32} {L' : Array Slot} (v : Int32) (hd : decode cd pc = .ok (.iinc j i, 3)) (hv : Int32.ofInt i = v) (hl : Ls[j]? = some (.val (.int x))) (hl' : storeLocals Ls j (.int (x + v)) = some L') (K : Go p l e R s m args below meth c Z own EL n0 eb Q bk h k n pc' L' st) (hp : pc + 3 = pc' := by rfl) : Go p l e R s m args below meth c Z own EL n0 eb Q bk h k n pc Ls st := by
  subst hp
  exact Go.pure (fun T t h hr => XT.iincV h C.1 rfl v (Jvm.hb C.2.2.2.2.2.1 hd) hv hl hl' hr) K
theorem Ctx.irem (C : Ctx p meth c Z a0 EL cd mx ret nm) {pc : Nat} {Ls : Array Slot} {st : List Value} (pc' : Nat) {x y : Int32} (hd : decode cd pc = .ok (.irem, 1)) (hy : y ≠ 0) (K : Go p l e R s m args below meth c Z own EL n0 eb Q bk h k n pc' Ls (.int (x % y) :: st)) (hp : pc + 1 = pc' := by rfl) : Go p l e R s m args below meth c Z own EL n0 eb Q bk h k n pc Ls (.int y :: .int x :: st) := by
  subst hp
  exact Go.pure (fun T t h hr => XS.irem h C.1 rfl (Jvm.hb C.2.2.2.2.2.1 hd) rfl hy (by rw [irem_eq_mod]; exact hr)) K
theorem Ctx.idiv (C : Ctx p meth c Z a0 EL cd mx ret nm) {pc : Nat} {Ls : Array Slot} {st : List Value} (pc' : Nat) {x y : Int32} (hd : decode cd pc = .ok (.idiv, 1)) (hy : y ≠ 0) (K : Go p l e R s m args below meth c Z own EL n0 eb Q bk h k n pc' Ls (.int (x / y) :: st)) (hp : pc + 1 = pc' := by rfl) : Go p l e R s m args below meth c Z own EL n0 eb Q bk h k n pc Ls (.int y :: .int x :: st) := by
  subst hp
  exact Go.pure (fun T t h hr => XS.idiv h C.1 rfl (Jvm.hb C.2.2.2.2.2.1 hd) rfl hy hr) K
theorem Ctx.lrem (C : Ctx p meth c Z a0 EL cd mx ret nm) {pc : Nat} {Ls : Array Slot} {st : List Value} (pc' : Nat) {x y : Int64} (hd : decode cd pc = .ok (.lrem, 1)) (hy : y ≠ 0) (K : Go p l e R s m args below meth c Z own EL n0 eb Q bk h k n pc' Ls (.long (x % y) :: st)) (hp : pc + 1 = pc' := by rfl) : Go p l e R s m args below meth c Z own EL n0 eb Q bk h k n pc Ls (.long y :: .long x :: st) := by
  subst hp
  exact Go.pure (fun T t h hr => XT.lrem h C.1 rfl (Jvm.hb C.2.2.2.2.2.1 hd) rfl hy (by rw [lrem_mod]; exact hr)) K
theorem Ctx.lushr (C : Ctx p meth c Z a0 EL cd mx ret nm) {pc : Nat} {Ls : Array Slot} {st : List Value} (pc' : Nat) {x : Int64} {y : Int32} (hd : decode cd pc = .ok (.lushr, 1)) (K : Go p l e R s m args below meth c Z own EL n0 eb Q bk h k n pc' Ls (.long (XT.ushrL x y) :: st)) (hp : pc + 1 = pc' := by rfl) : Go p l e R s m args below meth c Z own EL n0 eb Q bk h k n pc Ls (.int y :: .long x :: st) := by
  subst hp
  exact Go.pure (fun T t h hr => XT.lushr h C.1 rfl (Jvm.hb C.2.2.2.2.2.1 hd) rfl hr) K
theorem Ctx.lshl (C : Ctx p meth c Z a0 EL cd mx ret nm) {pc : Nat} {Ls : Array Slot} {st : List Value} (pc' : Nat) {x : Int64} {y : Int32} (hd : decode cd pc = .ok (.lshl, 1)) (K : Go p l e R s m args below meth c Z own EL n0 eb Q bk h k n pc' Ls (.long (x <<< (y.toInt64 &&& 63)) :: st)) (hp : pc + 1 = pc' := by rfl) : Go p l e R s m args below meth c Z own EL n0 eb Q bk h k n pc Ls (.int y :: .long x :: st) := by
  subst hp
  exact Go.pure (fun T t h hr => XT.lshl h C.1 rfl (Jvm.hb C.2.2.2.2.2.1 hd) rfl hr) K
end Own

section Own2
variable {Z : State} {h h' h1 h2 : Heap} {a t : Nat} {b b' : Nat} {cs : List Int32} {P : Nat → Prop} {a0 : Array Value}
def own_lo (x : Int32) : Int32 := x.toInt8.toInt32
theorem own_narb (x : Int32) : nar .byte x.toInt8.toInt32 = own_lo x := by show x.toInt8.toInt32.toInt8.toInt32 = x.toInt8.toInt32; simp
theorem own_fitsb (x : Int32) : fits .byte (.int (nar .byte x)) = true := fits_nar_byte x
/-- a String of Latin-1 chars; its two cells lie below b -/
def Str (Z : State) (h : Heap) (b : Nat) (a : Nat) (cs : List Int32) : Prop := ∃ t : Nat, a < b ∧ t < b ∧ Exa Z h a "java/lang/String" ∧ Fld Z h a "java/lang/String" "coder" "B" (.int 0) ∧ Fld Z h a "java/lang/String" "value" "[B" (.ref t) ∧ Ar Z h t .byte (cs.map own_lo) ∧ ∀ x ∈ cs, ¬ x < 0 ∧ ¬ 255 < x
theorem Str.kp (F : Str Z h b a cs) (K : OKp P h h') (q : ∀ x, x < b → P x) : Str Z h' b a cs := by
  obtain ⟨t, f1, f2, f3, f4, f5, f6, f7⟩ := F
  exact ⟨t, f1, f2, own_exa K f3 (q _ f1), own_fld K f4 (q _ f1), own_fld K f5 (q _ f1), f6.kp K (q _ f2), f7⟩
theorem Str.ext (F : Str Z h b a cs) (E : Ext h h') : Str Z h' b a cs := F.kp (P := fun _ => True) (OKp.ofExt E) fun _ _ => trivial
theorem Str.wr {a' : Nat} {sl : Nat} {v : Value} (F : Str Z h b a cs) (W : Wr h h' a' sl v) (q : b ≤ a') : Str Z h' b a cs := F.kp (OKp.ofWr W) fun x r e => by rw [show x = a' from e] at r; omega
theorem Str.mono (F : Str Z h b a cs) (q : b ≤ b') : Str Z h b' a cs := by
  obtain ⟨t, f1, f2, r⟩ := F
  exact ⟨t, Nat.lt_of_lt_of_le f1 q, Nat.lt_of_lt_of_le f2 q, r⟩
theorem Str.lt (F : Str Z h b a cs) : a < h.size := by obtain ⟨t, f1, f2, f3, r⟩ := F; exact f3.lt
theorem Str.exa (F : Str Z h b a cs) : Exa Z h a "java/lang/String" := by obtain ⟨t, f1, f2, f3, r⟩ := F; exact f3
theorem Str.made (X : Exa Z h a "java/lang/String") (C : Fld Z h a "java/lang/String" "coder" "B" (.int 0)) (V : Fld Z h a "java/lang/String" "value" "[B" (.ref t)) (R : Ar Z h t .byte (cs.map own_lo)) (q : ∀ x ∈ cs, ¬ x < 0 ∧ ¬ 255 < x) : Str Z h h.size a cs := ⟨t, X.lt, R.lt, X, C, V, R, q⟩
theorem Str.lit {kb : ClassId} (X : Exa Z h a "java/lang/String") (C : Fld Z h a "java/lang/String" "coder" "B" (.int 0)) (V : Fld Z h a "java/lang/String" "value" "[B" (.ref t)) (W : Arv Z h t kb .byte (Int32.ofNat (cs.map own_lo).length) ((cs.map own_lo).map Value.int) (.int 0)) (hl : (cs.map own_lo).length < 2147483648) (q : ∀ x ∈ cs, ¬ x < 0 ∧ ¬ 255 < x) : Str Z h h.size a cs :=
  Str.made X C V (Ar.ofArv W hl) q
theorem Str.obj {C : String} {kk : Nat} {x : Nat} (F : Str Z h b a cs) (K : OKp (fun y => y ≠ x) h h') (E : Exa Z h x C) (hC : "java/lang/String" ≠ C) (wi : (Cond.instantiable C kk).before a0 Z = true) : Str Z h' b a cs := by
  obtain ⟨t, f1, f2, f3, f4, f5, f6, f7⟩ := F
  have n1 : a ≠ x := ne_exa f3 E hC
  have n2 : t ≠ x := Ne.symm (own_ne_exa_ar E wi f6)
  exact ⟨t, f1, f2, own_exa K f3 n1, own_fld K f4 n1, own_fld K f5 n1, f6.kp K n2, f7⟩
theorem own_c0 {x : Int32} (h1 : ¬ x < 0) (h2 : ¬ 255 < x) : x.toUInt32.toUInt16.toUInt32.toInt32 = x := by
  have q := c_i2c x
  rw [Int32.lt_iff_toInt_lt] at h1 h2
  have e1 : (0 : Int32).toInt = 0 := rfl
  have e2 : (255 : Int32).toInt = 255 := by decide
  rw [← Int32.toInt_inj]
  omega
theorem own_lo_inj {x y : Int32} (h1 : ¬ x < 0) (h2 : ¬ 255 < x) (k1 : ¬ y < 0) (k2 : ¬ 255 < y) (e : own_lo x = own_lo y) : x = y := by
  have q1 := c_i2b x
  have q2 := c_i2b y
  simp only [own_lo] at e
  rw [e] at q1
  rw [Int32.lt_iff_toInt_lt] at h1 h2 k1 k2
  have e1 : (0 : Int32).toInt = 0 := rfl
  have e2 : (255 : Int32).toInt = 255 := by decide
  rw [← Int32.toInt_inj]
  omega
theorem own_mapinj : ∀ {xs ys : List Int32}, (∀ x ∈ xs, ¬ x < 0 ∧ ¬ 255 < x) → (∀ x ∈ ys, ¬ x < 0 ∧ ¬ 255 < x) → (xs.map own_lo = ys.map own_lo ↔ xs = ys)
  | [], [], _, _ => by simp
  | [], _ :: _, _, _ => by simp
  | _ :: _, [], _, _ => by simp
  | x :: xs, y :: ys, p, q => by
    have ih := own_mapinj (xs := xs) (ys := ys) (fun z hz => p z (List.mem_cons_of_mem _ hz)) (fun z hz => q z (List.mem_cons_of_mem _ hz))
    have px := p x List.mem_cons_self
    have qy := q y List.mem_cons_self
    simp only [List.map_cons, List.cons.injEq, ih]
    exact ⟨fun ⟨u, v⟩ => ⟨own_lo_inj px.1 px.2 qy.1 qy.2 u, v⟩, fun ⟨u, v⟩ => ⟨by rw [u], v⟩⟩
theorem own_ofNat {i j : Nat} (hi : i < 2147483648) (hj : j < 2147483648) : (Int32.ofNat i = Int32.ofNat j ↔ i = j) ∧ (Int32.ofNat i < Int32.ofNat j ↔ i < j) := by
  have e1 : (Int32.ofNat i).toInt = i := Int32.toInt_ofNat_small (by omega)
  have e2 : (Int32.ofNat j).toInt = j := Int32.toInt_ofNat_small (by omega)
  rw [← Int32.toInt_inj, Int32.lt_iff_toInt_lt, e1, e2]
  omega
theorem own_succ (i : Nat) : Int32.ofNat i + 1 = Int32.ofNat (i + 1) := (Int32.ofNat_add i 1).symm
/-- an int that says whether P -/
def OB (r : Int32) (P : Prop) : Prop := (r = 1 ∧ P) ∨ (r = 0 ∧ ¬ P)
theorem OB.y {u : Int32} {P : Prop} (h : OB u P) (q : ¬ u = 0) : P := h.elim (·.2) fun r => absurd r.1 q
theorem OB.n {u : Int32} {P : Prop} (h : OB u P) (q : u = 0) : ¬ P := h.elim (fun r => absurd (r.1.symm.trans q) (by decide)) (·.2)
theorem OB.one {u : Int32} {P : Prop} (h : OB u P) (q : P) : u = 1 := h.elim (·.1) fun r => absurd q r.2
theorem OB.zero {u : Int32} {P : Prop} (h : OB u P) (q : ¬ P) : u = 0 := h.elim (fun r => absurd r.2 q) (·.1)
theorem own_arlen {xs : List Int32} {ty : FieldType} (A : Ar Z h a ty xs) : xs.length < 2147483648 := by obtain ⟨_, _, _, g, _⟩ := A; exact g
theorem own_arfun {xs ys : List Int32} {ty ty' : FieldType} (A : Ar Z h a ty xs) (B : Ar Z h a ty' ys) : xs = ys := by
  obtain ⟨c1, A1, a1, a2, a3, a4⟩ := A
  obtain ⟨c2, B1, b1, b2, b3, b4⟩ := B
  cases A1.1.symm.trans B1.1
  refine List.ext_getElem? fun i => ?_
  by_cases q : i < xs.length
  · have e1 := List.getElem?_eq_getElem q
    have e2 := List.getElem?_eq_getElem (show i < ys.length by omega)
    rw [e1, e2]
    have := (a3 i _ e1).symm.trans (b3 i _ e2)
    simpa using this
  · rw [List.getElem?_eq_none (by omega), List.getElem?_eq_none (by omega)]
theorem own_fldfun {C n d : String} {v w : Value} (F : Fld Z h a C n d v) (G : Fld Z h a C n d w) : v = w := by
  obtain ⟨c1, cf1, k1, i1, f1, p1, p2, p3, p4, p5, p6, p7⟩ := F
  obtain ⟨c2, cf2, k2, i2, f2, q1, q2, q3, q4, q5, q6, q7⟩ := G
  cases p1.symm.trans q1
  cases p2.symm.trans q2
  exact Option.some.inj (p7.symm.trans q7)
theorem own_strfun {b' : Nat} {ds : List Int32} (F : Str Z h b a cs) (G : Str Z h b' a ds) : cs = ds := by
  obtain ⟨t, f1, f2, f3, f4, f5, f6, f7⟩ := F
  obtain ⟨u, g1, g2, g3, g4, g5, g6, g7⟩ := G
  cases own_fldfun f5 g5
  exact (own_mapinj f7 g7).mp (own_arfun f6 g6)
theorem own_sub0 (z : Int32) : XT.ushr (z - z) 31 = 0 := by
  have e : z - z = 0 := Int32.sub_self z
  rw [e]; decide
theorem own_shr0 (z : Int32) : z >>> ((0 : Int32) &&& 31) = z := by
  have q := c_ishr z 0 0 (by decide)
  rw [← Int32.toInt_inj, q]; simp
theorem own_loand {x : Int32} (h1 : ¬ x < 0) (h2 : ¬ 255 < x) : own_lo x &&& 255 = x := by
  have q1 := c_i2b x
  have q2 := c_mask (own_lo x) 255 8 (by decide) (by decide)
  rw [Int32.lt_iff_toInt_lt] at h1 h2
  have e1 : (0 : Int32).toInt = 0 := rfl
  have e2 : (255 : Int32).toInt = 255 := by decide
  rw [← Int32.toInt_inj, q2]
  simp only [own_lo]
  omega
theorem own_ch {x : Int32} (h1 : ¬ x < 0) (h2 : ¬ 255 < x) : nar .char (own_lo x &&& 255).toUInt32.toUInt16.toUInt32.toInt32 = x := by
  rw [own_loand h1 h2, own_c0 h1 h2]; exact own_c0 h1 h2
theorem own_chget {cs : List Int32} {i : Nat} {x : Int32} (h : cs[i]? = some x) : (cs.map own_lo)[i]? = some (own_lo x) := by rw [List.getElem?_map, h]; rfl
end Own2

theorem pn_0 : plainName "java/lang/String" = true := by first | (simp [plainName, overriddenIn]; done) | decide +kernel
theorem d0_0 : decode jdk_42_method_152_code 0 = .ok (.getstatic 38, 3) := by decide +kernel
theorem d0_3 : decode jdk_42_method_152_code 3 = .ok (.ifCond .eq 10, 3) := by decide +kernel
theorem d0_6 : decode jdk_42_method_152_code 6 = .ok (.aload_n 0, 1) := by decide +kernel
theorem d0_7 : decode jdk_42_method_152_code 7 = .ok (.getfield 15, 3) := by decide +kernel
theorem d0_10 : decode jdk_42_method_152_code 10 = .ok (.goto 4, 3) := by decide +kernel
theorem d0_14 : decode jdk_42_method_152_code 14 = .ok (.ireturn, 1) := by decide +kernel
theorem ef_1 (m : MethodId) (x0 : Nat) : entryFrame m #[(.ref x0)] 1 = mkF m 0 #[.val (.ref x0)] [] := by first | (simp [entryFrame, mkF, argsToLocals, Value.category]; done) | rfl
set_option maxRecDepth 65536 in
set_option maxHeartbeats 40000000 in
theorem met_coder (l : Launch) (Z : State) (a0 : Array Value) (hw : ∀ d ∈ tables_1, d.before a0 Z = true) (EL : List (String × Nat)) (hEL : EW Z a0 EL) (n0 bk : Nat) (h0 : Heap) (hz0 : Z.heap.size ≤ n0) (hn0 : n0 ≤ h0.size) (a : Nat) (ba : Nat) (cs : List Int32) (z0 : Int32) (Sa : Str Z h0 ba a cs) (SC : Sta Z Z.heap "java/lang/String" "COMPACT_STRINGS" "Z" (.int z0)) (hzc : ¬ z0 = 0) : Met l Z EL (⟨"java/lang/String", "coder", "()B"⟩ : MethodName) jdk_42_method_152_code 1 (some .byte) [] ({ frames := 0, cells := 0, slots := 0, locals := 0 } : Room) #[(.ref a)] n0 bk h0 (fun _ => bk) (fun v h => v = some (.int 0) ∧ h0 = h) := by
  refine Met.intro (plainFor_of_name pn_0) (fun m => ef_1 m a) hz0 hEL ?_
  intro p e s m below meth c C
  obtain ⟨t, f1, f2, f3, f4, f5, f6, f7⟩ := Sa
  refine C.gets 3 d0_0 (hw _ (List.mem_of_getElem? (i := 18) rfl)) SC ?_
  refine C.ifN 6 d0_3 rfl (XT.i0_eq_f (show ¬ (z0 = 0) from hzc)) ?_
  refine C.aloadN 7 d0_6 rfl rfl ?_
  refine C.getf 10 d0_7 (hw _ (List.mem_of_getElem? (i := 30) rfl)) Via.refl f4 ?_
  refine C.goto 14 d0_10 (by decide) (by decide) ?_
  refine C.retN (t := .byte) rfl (by simp) d0_14 (by decide) (by decide) (Or.inl (Nat.le_refl _)) ?_
  exact ⟨rfl, rfl⟩
theorem d1_0 : decode jdk_42_method_154_code 0 = .ok (.getstatic 38, 3) := by decide +kernel
theorem d1_3 : decode jdk_42_method_154_code 3 = .ok (.ifCond .eq 14, 3) := by decide +kernel
theorem d1_6 : decode jdk_42_method_154_code 6 = .ok (.aload_n 0, 1) := by decide +kernel
theorem d1_7 : decode jdk_42_method_154_code 7 = .ok (.getfield 15, 3) := by decide +kernel
theorem d1_10 : decode jdk_42_method_154_code 10 = .ok (.ifCond .ne 7, 3) := by decide +kernel
theorem d1_13 : decode jdk_42_method_154_code 13 = .ok (.iconst 1, 1) := by decide +kernel
theorem d1_14 : decode jdk_42_method_154_code 14 = .ok (.goto 4, 3) := by decide +kernel
theorem d1_18 : decode jdk_42_method_154_code 18 = .ok (.ireturn, 1) := by decide +kernel
theorem ef_2 (m : MethodId) (x0 : Nat) : entryFrame m #[(.ref x0)] 1 = mkF m 0 #[.val (.ref x0)] [] := by first | (simp [entryFrame, mkF, argsToLocals, Value.category]; done) | rfl
set_option maxRecDepth 65536 in
set_option maxHeartbeats 40000000 in
theorem met_isl (l : Launch) (Z : State) (a0 : Array Value) (hw : ∀ d ∈ tables_1, d.before a0 Z = true) (EL : List (String × Nat)) (hEL : EW Z a0 EL) (n0 bk : Nat) (h0 : Heap) (hz0 : Z.heap.size ≤ n0) (hn0 : n0 ≤ h0.size) (a : Nat) (ba : Nat) (cs : List Int32) (z0 : Int32) (Sa : Str Z h0 ba a cs) (SC : Sta Z Z.heap "java/lang/String" "COMPACT_STRINGS" "Z" (.int z0)) (hzc : ¬ z0 = 0) : Met l Z EL (⟨"java/lang/String", "isLatin1", "()Z"⟩ : MethodName) jdk_42_method_154_code 1 (some .boolean) [] ({ frames := 0, cells := 0, slots := 0, locals := 0 } : Room) #[(.ref a)] n0 bk h0 (fun _ => bk) (fun v h => v = some (.int 1) ∧ h0 = h) := by
  refine Met.intro (plainFor_of_name pn_0) (fun m => ef_2 m a) hz0 hEL ?_
  intro p e s m below meth c C
  obtain ⟨t, f1, f2, f3, f4, f5, f6, f7⟩ := Sa
  refine C.gets 3 d1_0 (hw _ (List.mem_of_getElem? (i := 18) rfl)) SC ?_
  refine C.ifN 6 d1_3 rfl (XT.i0_eq_f (show ¬ (z0 = 0) from hzc)) ?_
  refine C.aloadN 7 d1_6 rfl rfl ?_
  refine C.getf 10 d1_7 (hw _ (List.mem_of_getElem? (i := 30) rfl)) Via.refl f4 ?_
  refine C.ifN 13 d1_10 rfl (XT.i0_ne_f (show (0 : Int32) = 0 from rfl)) ?_
  refine C.iconst 14 (1 : Int32) d1_13 (by decide) ?_
  refine C.goto 18 d1_14 (by decide) (by decide) ?_
  refine C.retN (t := .boolean) rfl (by simp) d1_18 (by decide) (by decide) (Or.inl (Nat.le_refl _)) ?_
  exact ⟨rfl, rfl⟩
theorem pd___rB : parseMethodDescriptor "()B" = some ⟨[], some .byte⟩ := by decide +kernel
theorem d2_0 : decode jdk_42_method_54_code 0 = .ok (.aload_n 0, 1) := by decide +kernel
theorem d2_1 : decode jdk_42_method_54_code 1 = .ok (.getfield 9, 3) := by decide +kernel
theorem d2_4 : decode jdk_42_method_54_code 4 = .ok (.arraylength, 1) := by decide +kernel
theorem d2_5 : decode jdk_42_method_54_code 5 = .ok (.aload_n 0, 1) := by decide +kernel
theorem d2_6 : decode jdk_42_method_54_code 6 = .ok (.invokevirtual 335, 3) := by decide +kernel
theorem d2_9 : decode jdk_42_method_54_code 9 = .ok (.ishr, 1) := by decide +kernel
theorem d2_10 : decode jdk_42_method_54_code 10 = .ok (.ireturn, 1) := by decide +kernel
theorem ef_3 (m : MethodId) (x0 : Nat) : entryFrame m #[(.ref x0)] 1 = mkF m 0 #[.val (.ref x0)] [] := by first | (simp [entryFrame, mkF, argsToLocals, Value.category]; done) | rfl
set_option maxRecDepth 65536 in
set_option maxHeartbeats 40000000 in
theorem met_len (l : Launch) (Z : State) (a0 : Array Value) (hw : ∀ d ∈ tables_1, d.before a0 Z = true) (EL : List (String × Nat)) (hEL : EW Z a0 EL) (n0 bk : Nat) (h0 : Heap) (hz0 : Z.heap.size ≤ n0) (hn0 : n0 ≤ h0.size) (a : Nat) (ba : Nat) (cs : List Int32) (z0 : Int32) (Sa : Str Z h0 ba a cs) (SC : Sta Z Z.heap "java/lang/String" "COMPACT_STRINGS" "Z" (.int z0)) (hzc : ¬ z0 = 0) : Met l Z EL (⟨"java/lang/String", "length", "()I"⟩ : MethodName) jdk_42_method_54_code 1 (some .int) [] ({ frames := 1, cells := 0, slots := 0, locals := 13 } : Room) #[(.ref a)] n0 bk h0 (fun _ => bk) (fun v h => v = some (.int (Int32.ofNat cs.length)) ∧ h0 = h) := by
  refine Met.intro (plainFor_of_name pn_0) (fun m => ef_3 m a) hz0 hEL ?_
  intro p e s m below meth c C
  have Sa0 := Sa
  obtain ⟨t, f1, f2, f3, f4, f5, f6, f7⟩ := Sa
  refine C.aloadN 1 d2_0 rfl rfl ?_
  refine C.getf 4 d2_1 (hw _ (List.mem_of_getElem? (i := 32) rfl)) Via.refl f5 ?_
  refine C.alen 5 d2_4 f6 (by rw [List.length_map]) ?_
  refine C.aloadN 6 d2_5 rfl rfl ?_
  refine C.callV (b := h0.size) 9 [] [(.int (Int32.ofNat cs.length))] d2_6 (met_coder l Z a0 hw EL hEL h0.size bk h0 (by omega) (by omega) a ba cs z0 Sa0 SC hzc) f3 (by omega) (Or.inl (Nat.le_refl _)) (hw _ (List.mem_of_getElem? (i := 66) rfl)) (hw _ (List.mem_of_getElem? (i := 67) rfl)) (hw _ (List.mem_of_getElem? (i := 69) rfl)) (hw _ (List.mem_of_getElem? (i := 68) rfl)) (hw _ (List.mem_of_getElem? (i := 7) rfl)) (hw _ (List.mem_of_getElem? (i := 70) rfl)) (fun hZ => notFace_of_selects (args := #[]) (mvT hZ (hw _ (List.mem_of_getElem? (i := 69) rfl)))) (by decide) rfl (lenOf pd___rB rfl) (by decide) (W := 1) (Nat.le_of_eq rfl) (by decide) (by decide) (by decide) rfl ?_
  rintro _ h6_3 K6_3 ⟨rfl, rfl⟩
  refine C.ishr 10 d2_9 ?_
  refine C.retI rfl d2_10 (by decide) (by decide) (Or.inl (Nat.le_refl _)) ?_
  exact ⟨by rw [own_shr0], rfl⟩
theorem pn_1 : plainName "jdk/internal/util/Preconditions" = true := by first | (simp [plainName, overriddenIn]; done) | decide +kernel
theorem d3_0 : decode jdk_41_method_11_code 0 = .ok (.iload_n 0, 1) := by decide +kernel
theorem d3_1 : decode jdk_41_method_11_code 1 = .ok (.ifCond .lt 8, 3) := by decide +kernel
theorem d3_4 : decode jdk_41_method_11_code 4 = .ok (.iload_n 0, 1) := by decide +kernel
theorem d3_5 : decode jdk_41_method_11_code 5 = .ok (.iload_n 1, 1) := by decide +kernel
theorem d3_6 : decode jdk_41_method_11_code 6 = .ok (.if_icmp .lt 10, 3) := by decide +kernel
theorem d3_16 : decode jdk_41_method_11_code 16 = .ok (.iload_n 0, 1) := by decide +kernel
theorem d3_17 : decode jdk_41_method_11_code 17 = .ok (.ireturn, 1) := by decide +kernel
theorem ef_4 (m : MethodId) (x0 : Int32) (x1 : Int32) (x2 : Value) (hx2 : x2.category = 1) : entryFrame m #[(.int x0), (.int x1), x2] 3 = mkF m 0 #[.val (.int x0), .val (.int x1), .val x2] [] := by first | (simp [entryFrame, mkF, argsToLocals, show ∀ z : Int32, (Value.int z).category = 1 from fun _ => rfl, show ∀ z : Nat, (Value.ref z).category = 1 from fun _ => rfl, hx2]; done) | rfl
set_option maxRecDepth 65536 in
set_option maxHeartbeats 40000000 in
theorem met_chk (l : Launch) (Z : State) (a0 : Array Value) (hw : ∀ d ∈ tables_1, d.before a0 Z = true) (EL : List (String × Nat)) (hEL : EW Z a0 EL) (n0 bk : Nat) (h0 : Heap) (hz0 : Z.heap.size ≤ n0) (hn0 : n0 ≤ h0.size) (i : Int32) (n : Int32) (fm : Value) (hi : ¬ i < 0) (hin : i < n) (hfm : fm.isRef = true) : Met l Z EL (⟨"jdk/internal/util/Preconditions", "checkIndex", "(IILjava/util/function/BiFunction;)I"⟩ : MethodName) jdk_41_method_11_code 3 (some .int) [] ({ frames := 0, cells := 0, slots := 0, locals := 0 } : Room) #[(.int i), (.int n), fm] n0 bk h0 (fun _ => bk) (fun v h => v = some (.int i) ∧ h0 = h) := by
  refine Met.intro (plainFor_of_name pn_1) (fun m => ef_4 m i n fm (XT.cat1 hfm)) hz0 hEL ?_
  intro p e s m below meth c C
  refine C.iloadN 1 d3_0 rfl ?_
  refine C.ifN 4 d3_1 rfl (XT.i0_lt_f (show ¬ (i < 0) from hi)) ?_
  refine C.iloadN 5 d3_4 rfl ?_
  refine C.iloadN 6 d3_5 rfl ?_
  refine C.icY 16 d3_6 (by decide) (by decide) (XT.ii_lt_t (show i < n from hin)) ?_
  refine C.iloadN 17 d3_16 rfl ?_
  refine C.retI rfl d3_17 (by decide) (by decide) (Or.inl (Nat.le_refl _)) ?_
  exact ⟨rfl, rfl⟩
theorem pd__IILjava_util_function_BiFunction_rI : parseMethodDescriptor "(IILjava/util/function/BiFunction;)I" = some ⟨[.int, .int, (.object "java/util/function/BiFunction")], some .int⟩ := by decide +kernel
theorem d4_0 : decode jdk_42_method_155_code 0 = .ok (.iload_n 0, 1) := by decide +kernel
theorem d4_1 : decode jdk_42_method_155_code 1 = .ok (.iload_n 1, 1) := by decide +kernel
theorem d4_2 : decode jdk_42_method_155_code 2 = .ok (.getstatic 1053, 3) := by decide +kernel
theorem d4_5 : decode jdk_42_method_155_code 5 = .ok (.invokestatic 1059, 3) := by decide +kernel
theorem d4_8 : decode jdk_42_method_155_code 8 = .ok (.pop, 1) := by decide +kernel
theorem d4_9 : decode jdk_42_method_155_code 9 = .ok (.return_, 1) := by decide +kernel
theorem ef_5 (m : MethodId) (x0 : Int32) (x1 : Int32) : entryFrame m #[(.int x0), (.int x1)] 2 = mkF m 0 #[.val (.int x0), .val (.int x1)] [] := by first | (simp [entryFrame, mkF, argsToLocals, Value.category]; done) | rfl
set_option maxRecDepth 65536 in
set_option maxHeartbeats 40000000 in
theorem met_chi (l : Launch) (Z : State) (a0 : Array Value) (hw : ∀ d ∈ tables_1, d.before a0 Z = true) (EL : List (String × Nat)) (hEL : EW Z a0 EL) (n0 bk : Nat) (h0 : Heap) (hz0 : Z.heap.size ≤ n0) (hn0 : n0 ≤ h0.size) (i : Int32) (n : Int32) (fm : Value) (hi : ¬ i < 0) (hin : i < n) (hfm : fm.isRef = true) (SF : Sta Z Z.heap "jdk/internal/util/Preconditions" "SIOOBE_FORMATTER" "Ljava/util/function/BiFunction;" fm) : Met l Z EL (⟨"java/lang/String", "checkIndex", "(II)V"⟩ : MethodName) jdk_42_method_155_code 2 none [] ({ frames := 1, cells := 0, slots := 0, locals := 14 } : Room) #[(.int i), (.int n)] n0 bk h0 (fun _ => bk) (fun v h => v = none ∧ h0 = h) := by
  refine Met.intro (plainFor_of_name pn_0) (fun m => ef_5 m i n) hz0 hEL ?_
  intro p e s m below meth c C
  refine C.iloadN 1 d4_0 rfl ?_
  refine C.iloadN 2 d4_1 rfl ?_
  refine C.gets 5 d4_2 (hw _ (List.mem_of_getElem? (i := 56) rfl)) SF ?_
  refine C.callS (b := h0.size) 8 [(.int i), (.int n), fm] [] d4_5 (met_chk l Z a0 hw EL hEL h0.size bk h0 (by omega) (by omega) i n fm hi hin hfm) (by omega) (Or.inl (Nat.le_refl _)) (hw _ (List.mem_of_getElem? (i := 58) rfl)) (hw _ (List.mem_of_getElem? (i := 59) rfl)) (hw _ (List.mem_of_getElem? (i := 57) rfl)) (hw _ (List.mem_of_getElem? (i := 60) rfl)) (by decide) rfl (lenOf pd__IILjava_util_function_BiFunction_rI rfl) (by decide) (W := 0) (Nat.le_of_eq rfl) (by decide) (by decide) (by decide) rfl ?_
  rintro _ h5_2 K5_2 ⟨rfl, rfl⟩
  refine C.pop 9 d4_8 rfl ?_
  refine C.retV rfl d4_9 (by decide) (by decide) (Or.inl (Nat.le_refl _)) ?_
  exact ⟨rfl, rfl⟩
theorem pn_2 : plainName "java/lang/StringLatin1" = true := by first | (simp [plainName, overriddenIn]; done) | decide +kernel
theorem pd__II_rV : parseMethodDescriptor "(II)V" = some ⟨[.int, .int], none⟩ := by decide +kernel
theorem d5_0 : decode jdk_43_method_2_code 0 = .ok (.iload_n 1, 1) := by decide +kernel
theorem d5_1 : decode jdk_43_method_2_code 1 = .ok (.aload_n 0, 1) := by decide +kernel
theorem d5_2 : decode jdk_43_method_2_code 2 = .ok (.arraylength, 1) := by decide +kernel
theorem d5_3 : decode jdk_43_method_2_code 3 = .ok (.invokestatic 9, 3) := by decide +kernel
theorem d5_6 : decode jdk_43_method_2_code 6 = .ok (.aload_n 0, 1) := by decide +kernel
theorem d5_7 : decode jdk_43_method_2_code 7 = .ok (.iload_n 1, 1) := by decide +kernel
theorem d5_8 : decode jdk_43_method_2_code 8 = .ok (.baload, 1) := by decide +kernel
theorem d5_9 : decode jdk_43_method_2_code 9 = .ok (.sipush 255, 3) := by decide +kernel
theorem d5_12 : decode jdk_43_method_2_code 12 = .ok (.iand, 1) := by decide +kernel
theorem d5_13 : decode jdk_43_method_2_code 13 = .ok (.i2c, 1) := by decide +kernel
theorem d5_14 : decode jdk_43_method_2_code 14 = .ok (.ireturn, 1) := by decide +kernel
theorem ef_6 (m : MethodId) (x0 : Nat) (x1 : Int32) : entryFrame m #[(.ref x0), (.int x1)] 2 = mkF m 0 #[.val (.ref x0), .val (.int x1)] [] := by first | (simp [entryFrame, mkF, argsToLocals, Value.category]; done) | rfl
set_option maxRecDepth 65536 in
set_option maxHeartbeats 40000000 in
theorem met_lch (l : Launch) (Z : State) (a0 : Array Value) (hw : ∀ d ∈ tables_1, d.before a0 Z = true) (EL : List (String × Nat)) (hEL : EW Z a0 EL) (n0 bk : Nat) (h0 : Heap) (hz0 : Z.heap.size ≤ n0) (hn0 : n0 ≤ h0.size) (t : Nat) (cs : List Int32) (i : Nat) (x : Int32) (fm : Value) (R : Ar Z h0 t .byte (cs.map own_lo)) (hx : cs[i]? = some x) (q1 : ¬ x < 0) (q2 : ¬ 255 < x) (hfm : fm.isRef = true) (SF : Sta Z Z.heap "jdk/internal/util/Preconditions" "SIOOBE_FORMATTER" "Ljava/util/function/BiFunction;" fm) : Met l Z EL (⟨"java/lang/StringLatin1", "charAt", "([BI)C"⟩ : MethodName) jdk_43_method_2_code 2 (some .char) [] ({ frames := 2, cells := 0, slots := 0, locals := 27 } : Room) #[(.ref t), (.int (Int32.ofNat i))] n0 bk h0 (fun _ => bk) (fun v h => v = some (.int x) ∧ h0 = h) := by
  refine Met.intro (plainFor_of_name pn_2) (fun m => ef_6 m t (Int32.ofNat i)) hz0 hEL ?_
  intro p e s m below meth c C
  have hl := own_arlen R
  rw [List.length_map] at hl
  have hi : i < cs.length := (List.getElem?_eq_some_iff.mp hx).1
  refine C.iloadN 1 d5_0 rfl ?_
  refine C.aloadN 2 d5_1 rfl rfl ?_
  refine C.alen 3 d5_2 R (by rw [List.length_map]) ?_
  refine C.callS (b := h0.size) 6 [(.int (Int32.ofNat i)), (.int (Int32.ofNat cs.length))] [] d5_3 (met_chi l Z a0 hw EL hEL h0.size bk h0 (by omega) (by omega) _ _ fm (own_len31 (show i < 2147483648 by omega) rfl).1 ((own_ofNat (by omega) hl).2.mpr hi) hfm SF) (by omega) (Or.inl (Nat.le_refl _)) (hw _ (List.mem_of_getElem? (i := 53) rfl)) (hw _ (List.mem_of_getElem? (i := 54) rfl)) (hw _ (List.mem_of_getElem? (i := 7) rfl)) (hw _ (List.mem_of_getElem? (i := 55) rfl)) (by decide) rfl (lenOf pd__II_rV rfl) (by decide) (W := 0) (Nat.le_of_eq rfl) (by decide) (by decide) (by decide) rfl ?_
  rintro _ h3_2 K3_2 ⟨rfl, rfl⟩
  refine C.aloadN 7 d5_6 rfl rfl ?_
  refine C.iloadN 8 d5_7 rfl ?_
  refine C.baload 9 i d5_8 R rfl (own_chget hx) ?_
  refine C.sipush 12 (255 : Int32) d5_9 (by decide) ?_
  refine C.iand 13 d5_12 ?_
  refine C.i2c 14 d5_13 ?_
  refine C.retN (t := .char) rfl (by simp) d5_14 (by decide) (by decide) (Or.inl (Nat.le_refl _)) ?_
  exact ⟨by rw [own_ch q1 q2], rfl⟩
theorem pd___rZ : parseMethodDescriptor "()Z" = some ⟨[], some .boolean⟩ := by decide +kernel
theorem pd__ABI_rC : parseMethodDescriptor "([BI)C" = some ⟨[(.array .byte), .int], some .char⟩ := by decide +kernel
theorem d6_0 : decode jdk_42_method_56_code 0 = .ok (.aload_n 0, 1) := by decide +kernel
theorem d6_1 : decode jdk_42_method_56_code 1 = .ok (.invokevirtual 492, 3) := by decide +kernel
theorem d6_4 : decode jdk_42_method_56_code 4 = .ok (.ifCond .eq 12, 3) := by decide +kernel
theorem d6_7 : decode jdk_42_method_56_code 7 = .ok (.aload_n 0, 1) := by decide +kernel
theorem d6_8 : decode jdk_42_method_56_code 8 = .ok (.getfield 9, 3) := by decide +kernel
theorem d6_11 : decode jdk_42_method_56_code 11 = .ok (.iload_n 1, 1) := by decide +kernel
theorem d6_12 : decode jdk_42_method_56_code 12 = .ok (.invokestatic 495, 3) := by decide +kernel
theorem d6_15 : decode jdk_42_method_56_code 15 = .ok (.ireturn, 1) := by decide +kernel
theorem ef_7 (m : MethodId) (x0 : Nat) (x1 : Int32) : entryFrame m #[(.ref x0), (.int x1)] 2 = mkF m 0 #[.val (.ref x0), .val (.int x1)] [] := by first | (simp [entryFrame, mkF, argsToLocals, Value.category]; done) | rfl
set_option maxRecDepth 65536 in
set_option maxHeartbeats 40000000 in
theorem met_cha (l : Launch) (Z : State) (a0 : Array Value) (hw : ∀ d ∈ tables_1, d.before a0 Z = true) (EL : List (String × Nat)) (hEL : EW Z a0 EL) (n0 bk : Nat) (h0 : Heap) (hz0 : Z.heap.size ≤ n0) (hn0 : n0 ≤ h0.size) (a : Nat) (ba : Nat) (cs : List Int32) (i : Nat) (x : Int32) (z0 : Int32) (fm : Value) (Sa : Str Z h0 ba a cs) (hx : cs[i]? = some x) (SC : Sta Z Z.heap "java/lang/String" "COMPACT_STRINGS" "Z" (.int z0)) (hzc : ¬ z0 = 0) (hfm : fm.isRef = true) (SF : Sta Z Z.heap "jdk/internal/util/Preconditions" "SIOOBE_FORMATTER" "Ljava/util/function/BiFunction;" fm) : Met l Z EL (⟨"java/lang/String", "charAt", "(I)C"⟩ : MethodName) jdk_42_method_56_code 2 (some .char) [] ({ frames := 3, cells := 0, slots := 0, locals := 40 } : Room) #[(.ref a), (.int (Int32.ofNat i))] n0 bk h0 (fun _ => bk) (fun v h => v = some (.int x) ∧ h0 = h) := by
  refine Met.intro (plainFor_of_name pn_0) (fun m => ef_7 m a (Int32.ofNat i)) hz0 hEL ?_
  intro p e s m below meth c C
  have Sa0 := Sa
  obtain ⟨t, f1, f2, f3, f4, f5, f6, f7⟩ := Sa
  obtain ⟨q1, q2⟩ := f7 x (List.mem_of_getElem? hx)
  refine C.aloadN 1 d6_0 rfl rfl ?_
  refine C.callV (b := h0.size) 4 [] [] d6_1 (met_isl l Z a0 hw EL hEL h0.size bk h0 (by omega) (by omega) a ba cs z0 Sa0 SC hzc) f3 (by omega) (Or.inl (Nat.le_refl _)) (hw _ (List.mem_of_getElem? (i := 44) rfl)) (hw _ (List.mem_of_getElem? (i := 45) rfl)) (hw _ (List.mem_of_getElem? (i := 47) rfl)) (hw _ (List.mem_of_getElem? (i := 46) rfl)) (hw _ (List.mem_of_getElem? (i := 7) rfl)) (hw _ (List.mem_of_getElem? (i := 48) rfl)) (fun hZ => notFace_of_selects (args := #[]) (mvT hZ (hw _ (List.mem_of_getElem? (i := 47) rfl)))) (by decide) rfl (lenOf pd___rZ rfl) (by decide) (W := 0) (Nat.le_of_eq rfl) (by decide) (by decide) (by decide) rfl ?_
  rintro _ h1_1 K1_1 ⟨rfl, rfl⟩
  refine C.ifN 7 d6_4 rfl (XT.i0_eq_f (show ¬ ((1 : Int32) = 0) from (by decide))) ?_
  refine C.aloadN 8 d6_7 rfl rfl ?_
  refine C.getf 11 d6_8 (hw _ (List.mem_of_getElem? (i := 32) rfl)) Via.refl f5 ?_
  refine C.iloadN 12 d6_11 rfl ?_
  refine C.callS (b := h0.size) 15 [(.ref t), (.int (Int32.ofNat i))] [] d6_12 (met_lch l Z a0 hw EL hEL h0.size bk h0 (by omega) (by omega) t cs i x fm f6 hx q1 q2 hfm SF) (by omega) (Or.inl (Nat.le_refl _)) (hw _ (List.mem_of_getElem? (i := 49) rfl)) (hw _ (List.mem_of_getElem? (i := 50) rfl)) (hw _ (List.mem_of_getElem? (i := 51) rfl)) (hw _ (List.mem_of_getElem? (i := 52) rfl)) (by decide) rfl (lenOf pd__ABI_rC rfl) (by decide) (W := 0) (Nat.le_of_eq rfl) (by decide) (by decide) (by decide) rfl ?_
  rintro _ h12_3 K12_3 ⟨rfl, rfl⟩
  refine C.retN (t := .char) rfl (by simp) d6_15 (by decide) (by decide) (Or.inl (Nat.le_refl _)) ?_
  exact ⟨congrArg (fun z => some (Value.int z)) (own_c0 q1 q2), rfl⟩
theorem own_cmpset {xs : List Int32} {i : Nat} {x : Int32} (hx : xs[i]? = some x) : ((xs.take i).map own_lo ++ List.replicate (xs.length - i) 0).set i (own_lo x) = (xs.take (i + 1)).map own_lo ++ List.replicate (xs.length - (i + 1)) 0 := by
  have hi : i < xs.length := (List.getElem?_eq_some_iff.mp hx).1
  have e : xs[i] = x := (List.getElem?_eq_some_iff.mp hx).2
  have l1 : ((xs.take i).map own_lo).length = i := by rw [List.length_map, List.length_take]; omega
  rw [List.set_append_right _ _ (by omega), l1, Nat.sub_self]
  obtain ⟨d, hd⟩ : ∃ d, xs.length - i = d + 1 := ⟨xs.length - i - 1, by omega⟩
  rw [hd, List.replicate_succ, List.set_cons_zero, List.take_add_one, hx, show xs.length - (i + 1) = d by omega]
  simp
theorem own_fit {ty : FieldType} {Z : State} {h : Heap} {a : Nat} {xs : List Int32} (F : Ar Z h a ty xs) : ∀ x ∈ xs, fits ty (.int x) = true := by obtain ⟨_, _, _, _, _, g⟩ := F; exact g
theorem own_chr {Z : State} {h : Heap} {a : Nat} {xs : List Int32} (F : Ar Z h a .char xs) : ∀ x ∈ xs, ¬ x < 0 := fun x hx => (rng_char (own_fit F x hx)).1
theorem pn_3 : plainName "java/lang/StringUTF16" = true := by first | (simp [plainName, overriddenIn]; done) | decide +kernel
theorem d7_0 : decode jdk_52_method_21_code 0 = .ok (.iconst 0, 1) := by decide +kernel
theorem d7_1 : decode jdk_52_method_21_code 1 = .ok (.istore 5, 2) := by decide +kernel
theorem d7_3 : decode jdk_52_method_21_code 3 = .ok (.iload 5, 2) := by decide +kernel
theorem d7_5 : decode jdk_52_method_21_code 5 = .ok (.iload 4, 2) := by decide +kernel
theorem d7_7 : decode jdk_52_method_21_code 7 = .ok (.if_icmp .ge 37, 3) := by decide +kernel
theorem d7_10 : decode jdk_52_method_21_code 10 = .ok (.aload_n 0, 1) := by decide +kernel
theorem d7_11 : decode jdk_52_method_21_code 11 = .ok (.iload_n 1, 1) := by decide +kernel
theorem d7_12 : decode jdk_52_method_21_code 12 = .ok (.caload, 1) := by decide +kernel
theorem d7_13 : decode jdk_52_method_21_code 13 = .ok (.istore 6, 2) := by decide +kernel
theorem d7_15 : decode jdk_52_method_21_code 15 = .ok (.iload 6, 2) := by decide +kernel
theorem d7_17 : decode jdk_52_method_21_code 17 = .ok (.sipush 255, 3) := by decide +kernel
theorem d7_20 : decode jdk_52_method_21_code 20 = .ok (.if_icmp .le 6, 3) := by decide +kernel
theorem d7_26 : decode jdk_52_method_21_code 26 = .ok (.aload_n 2, 1) := by decide +kernel
theorem d7_27 : decode jdk_52_method_21_code 27 = .ok (.iload_n 3, 1) := by decide +kernel
theorem d7_28 : decode jdk_52_method_21_code 28 = .ok (.iload 6, 2) := by decide +kernel
theorem d7_30 : decode jdk_52_method_21_code 30 = .ok (.i2b, 1) := by decide +kernel
theorem d7_31 : decode jdk_52_method_21_code 31 = .ok (.bastore, 1) := by decide +kernel
theorem d7_32 : decode jdk_52_method_21_code 32 = .ok (.iinc 1 1, 3) := by decide +kernel
theorem d7_35 : decode jdk_52_method_21_code 35 = .ok (.iinc 3 1, 3) := by decide +kernel
theorem d7_38 : decode jdk_52_method_21_code 38 = .ok (.iinc 5 1, 3) := by decide +kernel
theorem d7_41 : decode jdk_52_method_21_code 41 = .ok (.goto (-38), 3) := by decide +kernel
theorem d7_44 : decode jdk_52_method_21_code 44 = .ok (.iload 4, 2) := by decide +kernel
theorem d7_46 : decode jdk_52_method_21_code 46 = .ok (.ireturn, 1) := by decide +kernel
theorem ef_8 (m : MethodId) (x0 : Nat) (x1 : Int32) (x2 : Nat) (x3 : Int32) (x4 : Int32) : entryFrame m #[(.ref x0), (.int x1), (.ref x2), (.int x3), (.int x4)] 7 = mkF m 0 #[.val (.ref x0), .val (.int x1), .val (.ref x2), .val (.int x3), .val (.int x4), .unset, .unset] [] := by first | (simp [entryFrame, mkF, argsToLocals, Value.category]; done) | rfl
set_option maxRecDepth 65536 in
set_option maxHeartbeats 40000000 in
theorem met_cmp5 (l : Launch) (Z : State) (a0 : Array Value) (hw : ∀ d ∈ tables_1, d.before a0 Z = true) (EL : List (String × Nat)) (hEL : EW Z a0 EL) (n0 bk : Nat) (h0 : Heap) (hz0 : Z.heap.size ≤ n0) (hn0 : n0 ≤ h0.size) (a : Nat) (t : Nat) (xs : List Int32) (Aa : Ar Z h0 a .char xs) (At : Ar Z h0 t .byte (List.replicate xs.length 0)) (hp : 0 < xs.length) (hq : ∀ x ∈ xs, ¬ 255 < x) (hat : a ≠ t) (hnt : n0 ≤ t) (hbt : bk ≤ t) : Met l Z EL (⟨"java/lang/StringUTF16", "compress", "([CI[BII)I"⟩ : MethodName) jdk_52_method_21_code 7 (some .int) [] ({ frames := 0, cells := 0, slots := 0, locals := 0 } : Room) #[(.ref a), (.int (0 : Int32)), (.ref t), (.int (0 : Int32)), (.int (Int32.ofNat xs.length))] n0 bk h0 (fun _ => bk) (fun v h => v = some (.int (Int32.ofNat xs.length)) ∧ OKp (fun y => y ≠ t) h0 h ∧ Ar Z h t .byte (xs.map own_lo)) := by
  refine Met.intro (plainFor_of_name pn_3) (fun m => ef_8 m a (0 : Int32) t (0 : Int32) (Int32.ofNat xs.length)) hz0 hEL ?_
  intro p e s m below meth c C
  have lx := own_arlen Aa
  have L3 : ∀ (n : Nat), ∀ (i : Nat) (hh : Heap) (c6 : Int32), (xs.length - i = n) → (i ≤ xs.length) → (Ar Z hh a .char xs) → (Ar Z hh t .byte ((xs.take i).map own_lo ++ List.replicate (xs.length - i) 0)) → (OKp (fun y => y ≠ t) h0 hh) → Go p l e ({ frames := 0, cells := 0, slots := 0, locals := 0 } : Room) s m #[(.ref a), (.int (0 : Int32)), (.ref t), (.int (0 : Int32)), (.int (Int32.ofNat xs.length))] below meth c Z "java/lang/StringUTF16" EL n0 (fun _ => bk) (fun v h => v = some (.int (Int32.ofNat xs.length)) ∧ OKp (fun y => y ≠ t) h0 h ∧ Ar Z h t .byte (xs.map own_lo)) bk hh 0 0 3 #[.val (.ref a), .val (.int (Int32.ofNat i)), .val (.ref t), .val (.int (Int32.ofNat i)), .val (.int (Int32.ofNat xs.length)), .val (.int (Int32.ofNat i)), .val (.int c6)] [] := by
    intro n
    induction n using Nat.strongRecOn with
    | ind n ih =>
      intro i hh c6 hn hi Aa At Kh
      refine C.iload 5 d7_3 rfl ?_
      refine C.iload 7 d7_5 rfl ?_
      rcases Decidable.em ((Int32.ofNat i) < (Int32.ofNat xs.length)) with h7 | h7
      · skip
        refine C.icN 10 d7_7 rfl (XT.ii_ge_f h7) ?_
        have hlt : i < xs.length := (own_ofNat (by omega) lx).2.mp h7
        obtain ⟨x1, hx1⟩ : ∃ x, xs[i]? = some x := ⟨_, List.getElem?_eq_getElem hlt⟩
        refine C.aloadN 11 d7_10 rfl rfl ?_
        refine C.iloadN 12 d7_11 rfl ?_
        refine C.caload 13 i d7_12 Aa rfl hx1 ?_
        refine C.istore 15 (L' := #[.val (.ref a), .val (.int (Int32.ofNat i)), .val (.ref t), .val (.int (Int32.ofNat i)), .val (.int (Int32.ofNat xs.length)), .val (.int (Int32.ofNat i)), .val (.int x1)]) d7_13 rfl ?_
        refine C.iload 17 d7_15 rfl ?_
        refine C.sipush 20 (255 : Int32) d7_17 (by decide) ?_
        refine C.icY 26 d7_20 (by decide) (by decide) (XT.ii_le_t (show ¬ ((255 : Int32) < x1) from (hq x1 (List.mem_of_getElem? hx1)))) ?_
        refine C.aloadN 27 d7_26 rfl rfl ?_
        refine C.iloadN 28 d7_27 rfl ?_
        refine C.iload 30 d7_28 rfl ?_
        refine C.i2b 31 d7_30 ?_
        refine C.bastore 32 i d7_31 At rfl (by simp; omega) (own_fitsb _) (by omega) (Or.inl hbt) ?_
        intro h2 W2 N2
        have sz_h2 : hh.size ≤ h2.size := (Nat.le_of_eq W2.size.symm)
        replace Aa := Aa.other W2 (by first | omega | (dsimp only; omega))
        replace At := N2
        refine C.iinc 35 (L' := #[.val (.ref a), .val (.int ((Int32.ofNat i) + (1 : Int32))), .val (.ref t), .val (.int (Int32.ofNat i)), .val (.int (Int32.ofNat xs.length)), .val (.int (Int32.ofNat i)), .val (.int x1)]) (1 : Int32) d7_32 (by decide) rfl rfl ?_
        refine C.iinc 38 (L' := #[.val (.ref a), .val (.int ((Int32.ofNat i) + (1 : Int32))), .val (.ref t), .val (.int ((Int32.ofNat i) + (1 : Int32))), .val (.int (Int32.ofNat xs.length)), .val (.int (Int32.ofNat i)), .val (.int x1)]) (1 : Int32) d7_35 (by decide) rfl rfl ?_
        refine C.iinc 41 (L' := #[.val (.ref a), .val (.int ((Int32.ofNat i) + (1 : Int32))), .val (.ref t), .val (.int ((Int32.ofNat i) + (1 : Int32))), .val (.int (Int32.ofNat xs.length)), .val (.int ((Int32.ofNat i) + (1 : Int32))), .val (.int x1)]) (1 : Int32) d7_38 (by decide) rfl rfl ?_
        refine C.goto 3 d7_41 (by decide) (by decide) ?_
        rw [own_succ i]
        refine ih _ (show xs.length - (i + 1) < n by omega) (i + 1) h2 x1 rfl (by omega) Aa (by have q := At; rw [own_narb, own_cmpset hx1] at q; exact q) (Kh.wr W2 (fun _ q => q))
      · skip
        refine C.icY 44 d7_7 (by decide) (by decide) (XT.ii_ge_t h7) ?_
        have hge : ¬ i < xs.length := fun q => h7 ((own_ofNat (by omega) lx).2.mpr q)
        refine C.iload 46 d7_44 rfl ?_
        refine C.retI rfl d7_46 (by decide) (by decide) (Or.inl (Nat.le_refl _)) ?_
        exact ⟨rfl, Kh, by have q := At; rw [show i = xs.length by omega, List.take_length, Nat.sub_self] at q; simpa using q⟩
  refine C.iconst 1 (0 : Int32) d7_0 (by decide) ?_
  refine C.istore 3 (L' := #[.val (.ref a), .val (.int (0 : Int32)), .val (.ref t), .val (.int (0 : Int32)), .val (.int (Int32.ofNat xs.length)), .val (.int (0 : Int32)), .unset]) d7_1 rfl ?_
  refine C.iload 5 d7_3 rfl ?_
  refine C.iload 7 d7_5 rfl ?_
  refine C.icN 10 d7_7 rfl (XT.ii_ge_f (show (0 : Int32) < (Int32.ofNat xs.length) from ((own_ofNat (show 0 < 2147483648 by decide) lx).2.mpr hp))) ?_
  have hlt : 0 < xs.length := hp
  obtain ⟨x1, hx1⟩ : ∃ x, xs[0]? = some x := ⟨_, List.getElem?_eq_getElem hlt⟩
  refine C.aloadN 11 d7_10 rfl rfl ?_
  refine C.iloadN 12 d7_11 rfl ?_
  refine C.caload 13 0 d7_12 Aa rfl hx1 ?_
  refine C.istore 15 (L' := #[.val (.ref a), .val (.int (0 : Int32)), .val (.ref t), .val (.int (0 : Int32)), .val (.int (Int32.ofNat xs.length)), .val (.int (0 : Int32)), .val (.int x1)]) d7_13 rfl ?_
  refine C.iload 17 d7_15 rfl ?_
  refine C.sipush 20 (255 : Int32) d7_17 (by decide) ?_
  refine C.icY 26 d7_20 (by decide) (by decide) (XT.ii_le_t (show ¬ ((255 : Int32) < x1) from (hq x1 (List.mem_of_getElem? hx1)))) ?_
  refine C.aloadN 27 d7_26 rfl rfl ?_
  refine C.iloadN 28 d7_27 rfl ?_
  refine C.iload 30 d7_28 rfl ?_
  refine C.i2b 31 d7_30 ?_
  refine C.bastore 32 0 d7_31 At rfl (by simp; omega) (own_fitsb _) (by omega) (Or.inl hbt) ?_
  intro h2 W2 N2
  have sz_h2 : h0.size ≤ h2.size := (Nat.le_of_eq W2.size.symm)
  replace Aa := Aa.other W2 (by first | omega | (dsimp only; omega))
  replace At := N2
  refine C.iinc 35 (L' := #[.val (.ref a), .val (.int ((0 : Int32) + (1 : Int32))), .val (.ref t), .val (.int (0 : Int32)), .val (.int (Int32.ofNat xs.length)), .val (.int (0 : Int32)), .val (.int x1)]) (1 : Int32) d7_32 (by decide) rfl rfl ?_
  refine C.iinc 38 (L' := #[.val (.ref a), .val (.int ((0 : Int32) + (1 : Int32))), .val (.ref t), .val (.int ((0 : Int32) + (1 : Int32))), .val (.int (Int32.ofNat xs.length)), .val (.int (0 : Int32)), .val (.int x1)]) (1 : Int32) d7_35 (by decide) rfl rfl ?_
  refine C.iinc 41 (L' := #[.val (.ref a), .val (.int ((0 : Int32) + (1 : Int32))), .val (.ref t), .val (.int ((0 : Int32) + (1 : Int32))), .val (.int (Int32.ofNat xs.length)), .val (.int ((0 : Int32) + (1 : Int32))), .val (.int x1)]) (1 : Int32) d7_38 (by decide) rfl rfl ?_
  refine C.goto 3 d7_41 (by decide) (by decide) ?_
  rw [show (0 : Int32) + 1 = Int32.ofNat 1 from rfl]
  refine L3 _ 1 h2 x1 rfl (by omega) Aa (by have q := At; rw [own_narb, show List.replicate xs.length (0 : Int32) = (xs.take 0).map own_lo ++ List.replicate (xs.length - 0) 0 from rfl, own_cmpset hx1] at q; exact q) (OKp.refl.wr W2 (fun _ q => q))
theorem d8_0 : decode jdk_52_method_15_code 0 = .ok (.iload_n 1, 1) := by decide +kernel
theorem d8_1 : decode jdk_52_method_15_code 1 = .ok (.aload_n 0, 1) := by decide +kernel
theorem d8_2 : decode jdk_52_method_15_code 2 = .ok (.arraylength, 1) := by decide +kernel
theorem d8_3 : decode jdk_52_method_15_code 3 = .ok (.isub, 1) := by decide +kernel
theorem d8_4 : decode jdk_52_method_15_code 4 = .ok (.bipush 31, 2) := by decide +kernel
theorem d8_6 : decode jdk_52_method_15_code 6 = .ok (.iushr, 1) := by decide +kernel
theorem d8_7 : decode jdk_52_method_15_code 7 = .ok (.i2b, 1) := by decide +kernel
theorem d8_8 : decode jdk_52_method_15_code 8 = .ok (.ireturn, 1) := by decide +kernel
theorem ef_9 (m : MethodId) (x0 : Nat) (x1 : Int32) : entryFrame m #[(.ref x0), (.int x1)] 2 = mkF m 0 #[.val (.ref x0), .val (.int x1)] [] := by first | (simp [entryFrame, mkF, argsToLocals, Value.category]; done) | rfl
set_option maxRecDepth 65536 in
set_option maxHeartbeats 40000000 in
theorem met_cfa (l : Launch) (Z : State) (a0 : Array Value) (hw : ∀ d ∈ tables_1, d.before a0 Z = true) (EL : List (String × Nat)) (hEL : EW Z a0 EL) (n0 bk : Nat) (h0 : Heap) (hz0 : Z.heap.size ≤ n0) (hn0 : n0 ≤ h0.size) (t : Nat) (xs : List Int32) (k : Nat) (R : Ar Z h0 t .byte xs) (hk : xs.length = k) : Met l Z EL (⟨"java/lang/StringUTF16", "coderFromArrayLen", "([BI)B"⟩ : MethodName) jdk_52_method_15_code 2 (some .byte) [] ({ frames := 0, cells := 0, slots := 0, locals := 0 } : Room) #[(.ref t), (.int (Int32.ofNat k))] n0 bk h0 (fun _ => bk) (fun v h => v = some (.int 0) ∧ h0 = h) := by
  refine Met.intro (plainFor_of_name pn_3) (fun m => ef_9 m t (Int32.ofNat k)) hz0 hEL ?_
  intro p e s m below meth c C
  refine C.iloadN 1 d8_0 rfl ?_
  refine C.aloadN 2 d8_1 rfl rfl ?_
  refine C.alen 3 d8_2 R (by rw [hk]) ?_
  refine C.isub 4 d8_3 ?_
  refine C.bipush 6 (31 : Int32) d8_4 (by decide) ?_
  refine C.iushr 7 d8_6 ?_
  refine C.i2b 8 d8_7 ?_
  refine C.retN (t := .byte) rfl (by simp) d8_8 (by decide) (by decide) (Or.inl (Nat.le_refl _)) ?_
  exact ⟨by rw [own_sub0]; rfl, rfl⟩
theorem pd__ACIABII_rI : parseMethodDescriptor "([CI[BII)I" = some ⟨[(.array .char), .int, (.array .byte), .int, .int], some .int⟩ := by decide +kernel
theorem d9_0 : decode jdk_52_method_16_code 0 = .ok (.iload_n 2, 1) := by decide +kernel
theorem d9_1 : decode jdk_52_method_16_code 1 = .ok (.newarray .byte, 2) := by decide +kernel
theorem d9_3 : decode jdk_52_method_16_code 3 = .ok (.astore_n 3, 1) := by decide +kernel
theorem d9_4 : decode jdk_52_method_16_code 4 = .ok (.aload_n 0, 1) := by decide +kernel
theorem d9_5 : decode jdk_52_method_16_code 5 = .ok (.iload_n 1, 1) := by decide +kernel
theorem d9_6 : decode jdk_52_method_16_code 6 = .ok (.aload_n 3, 1) := by decide +kernel
theorem d9_7 : decode jdk_52_method_16_code 7 = .ok (.iconst 0, 1) := by decide +kernel
theorem d9_8 : decode jdk_52_method_16_code 8 = .ok (.iload_n 2, 1) := by decide +kernel
theorem d9_9 : decode jdk_52_method_16_code 9 = .ok (.invokestatic 115, 3) := by decide +kernel
theorem d9_12 : decode jdk_52_method_16_code 12 = .ok (.istore 4, 2) := by decide +kernel
theorem d9_14 : decode jdk_52_method_16_code 14 = .ok (.iload 4, 2) := by decide +kernel
theorem d9_16 : decode jdk_52_method_16_code 16 = .ok (.iload_n 2, 1) := by decide +kernel
theorem d9_17 : decode jdk_52_method_16_code 17 = .ok (.if_icmp .eq 40, 3) := by decide +kernel
theorem d9_57 : decode jdk_52_method_16_code 57 = .ok (.aload_n 3, 1) := by decide +kernel
theorem d9_58 : decode jdk_52_method_16_code 58 = .ok (.areturn, 1) := by decide +kernel
theorem ef_10 (m : MethodId) (x0 : Nat) (x1 : Int32) (x2 : Int32) : entryFrame m #[(.ref x0), (.int x1), (.int x2)] 6 = mkF m 0 #[.val (.ref x0), .val (.int x1), .val (.int x2), .unset, .unset, .unset] [] := by first | (simp [entryFrame, mkF, argsToLocals, Value.category]; done) | rfl
set_option maxRecDepth 65536 in
set_option maxHeartbeats 40000000 in
theorem met_cmp3 (l : Launch) (Z : State) (a0 : Array Value) (hw : ∀ d ∈ tables_1, d.before a0 Z = true) (EL : List (String × Nat)) (hEL : EW Z a0 EL) (n0 bk : Nat) (h0 : Heap) (hz0 : Z.heap.size ≤ n0) (hn0 : n0 ≤ h0.size) (a : Nat) (xs : List Int32) (Aa : Ar Z h0 a .char xs) (hp : 0 < xs.length) (hcap : xs.length ≤ 4) (hq : ∀ x ∈ xs, ¬ 255 < x) (hbk : bk ≤ h0.size) : Met l Z EL (⟨"java/lang/StringUTF16", "compress", "([CII)[B"⟩ : MethodName) jdk_52_method_16_code 6 (some (.array .byte)) [] ({ frames := 1, cells := 1, slots := 4, locals := 18 } : Room) #[(.ref a), (.int (0 : Int32)), (.int (Int32.ofNat xs.length))] n0 bk h0 (fun _ => bk) (fun v h => ∃ t, v = some (.ref t) ∧ n0 ≤ t ∧ h0.size ≤ t ∧ Ar Z h t .byte (xs.map own_lo)) := by
  refine Met.intro (plainFor_of_name pn_3) (fun m => ef_10 m a (0 : Int32) (Int32.ofNat xs.length)) hz0 hEL ?_
  intro p e s m below meth c C
  have la : (_ : Nat) < _ := Aa.lt
  refine C.iloadN 1 d9_0 rfl ?_
  refine C.newarr (zn := xs.length) (cap := 4) 3 d9_1 (hw _ (List.mem_of_getElem? (i := 23) rfl)) rfl hcap (by decide) rfl (by decide) (by decide) (by decide) ?_
  intro t h1 g_t E1 R_t
  replace R_t : Ar Z h1 t .byte (List.replicate xs.length 0) := R_t
  have lt_t : t < h1.size := R_t.lt
  have sz_h1 : h0.size ≤ h1.size := E1.1
  replace Aa := Aa.ext E1
  refine C.astoreN 4 (L' := #[.val (.ref a), .val (.int (0 : Int32)), .val (.int (Int32.ofNat xs.length)), .val (.ref t), .unset, .unset]) d9_3 rfl rfl ?_
  refine C.aloadN 5 d9_4 rfl rfl ?_
  refine C.iloadN 6 d9_5 rfl ?_
  refine C.aloadN 7 d9_6 rfl rfl ?_
  refine C.iconst 8 (0 : Int32) d9_7 (by decide) ?_
  refine C.iloadN 9 d9_8 rfl ?_
  refine C.callS (b := h0.size) 12 [(.ref a), (.int (0 : Int32)), (.ref t), (.int (0 : Int32)), (.int (Int32.ofNat xs.length))] [] d9_9 (met_cmp5 l Z a0 hw EL hEL h0.size bk h1 (by omega) (by omega) a t xs Aa R_t hp hq (by omega) (by omega) (by omega)) (by omega) (Or.inl (Nat.le_refl _)) (hw _ (List.mem_of_getElem? (i := 24) rfl)) (hw _ (List.mem_of_getElem? (i := 25) rfl)) (hw _ (List.mem_of_getElem? (i := 21) rfl)) (hw _ (List.mem_of_getElem? (i := 26) rfl)) (by decide) rfl (lenOf pd__ACIABII_rI rfl) (by decide) (W := 0) (Nat.le_of_eq rfl) (by decide) (by decide) (by decide) rfl ?_
  rintro _ h2 K2 ⟨rfl, Kq, At⟩
  have sz_h2 : h1.size ≤ h2.size := Kq.1
  replace Aa := Aa.kp Kq (by first | omega | (dsimp only; omega))
  refine C.istore 14 (L' := #[.val (.ref a), .val (.int (0 : Int32)), .val (.int (Int32.ofNat xs.length)), .val (.ref t), .val (.int (Int32.ofNat xs.length)), .unset]) d9_12 rfl ?_
  refine C.iload 16 d9_14 rfl ?_
  refine C.iloadN 17 d9_16 rfl ?_
  refine C.icY 57 d9_17 (by decide) (by decide) (XT.ii_eq_t (show (Int32.ofNat xs.length) = (Int32.ofNat xs.length) from rfl)) ?_
  refine C.aloadN 58 d9_57 rfl rfl ?_
  refine C.retA rfl rfl d9_58 rfl (by decide) (by decide) (Or.inl (Nat.le_refl _)) ?_
  exact ⟨t, rfl, by omega, by omega, At⟩
theorem pd__ABI_rB : parseMethodDescriptor "([BI)B" = some ⟨[(.array .byte), .int], some .byte⟩ := by decide +kernel
theorem pd__ACII_rAB : parseMethodDescriptor "([CII)[B" = some ⟨[(.array .char), .int, .int], some (.array .byte)⟩ := by decide +kernel
theorem d10_0 : decode jdk_42_method_149_code 0 = .ok (.aload_n 0, 1) := by decide +kernel
theorem d10_1 : decode jdk_42_method_149_code 1 = .ok (.invokespecial 1, 3) := by decide +kernel
theorem d10_4 : decode jdk_42_method_149_code 4 = .ok (.iload_n 3, 1) := by decide +kernel
theorem d10_5 : decode jdk_42_method_149_code 5 = .ok (.ifCond .ne 22, 3) := by decide +kernel
theorem d10_27 : decode jdk_42_method_149_code 27 = .ok (.getstatic 38, 3) := by decide +kernel
theorem d10_30 : decode jdk_42_method_149_code 30 = .ok (.ifCond .eq 28, 3) := by decide +kernel
theorem d10_33 : decode jdk_42_method_149_code 33 = .ok (.aload_n 1, 1) := by decide +kernel
theorem d10_34 : decode jdk_42_method_149_code 34 = .ok (.iload_n 2, 1) := by decide +kernel
theorem d10_35 : decode jdk_42_method_149_code 35 = .ok (.iload_n 3, 1) := by decide +kernel
theorem d10_36 : decode jdk_42_method_149_code 36 = .ok (.invokestatic 177, 3) := by decide +kernel
theorem d10_39 : decode jdk_42_method_149_code 39 = .ok (.astore 5, 2) := by decide +kernel
theorem d10_41 : decode jdk_42_method_149_code 41 = .ok (.aload_n 0, 1) := by decide +kernel
theorem d10_42 : decode jdk_42_method_149_code 42 = .ok (.aload 5, 2) := by decide +kernel
theorem d10_44 : decode jdk_42_method_149_code 44 = .ok (.iload_n 3, 1) := by decide +kernel
theorem d10_45 : decode jdk_42_method_149_code 45 = .ok (.invokestatic 47, 3) := by decide +kernel
theorem d10_48 : decode jdk_42_method_149_code 48 = .ok (.putfield 15, 3) := by decide +kernel
theorem d10_51 : decode jdk_42_method_149_code 51 = .ok (.aload_n 0, 1) := by decide +kernel
theorem d10_52 : decode jdk_42_method_149_code 52 = .ok (.aload 5, 2) := by decide +kernel
theorem d10_54 : decode jdk_42_method_149_code 54 = .ok (.putfield 9, 3) := by decide +kernel
theorem d10_57 : decode jdk_42_method_149_code 57 = .ok (.return_, 1) := by decide +kernel
theorem ef_11 (m : MethodId) (x0 : Nat) (x1 : Nat) (x2 : Int32) (x3 : Int32) : entryFrame m #[(.ref x0), (.ref x1), (.int x2), (.int x3), .null] 6 = mkF m 0 #[.val (.ref x0), .val (.ref x1), .val (.int x2), .val (.int x3), .val .null, .unset] [] := by first | (simp [entryFrame, mkF, argsToLocals, Value.category]; done) | rfl
set_option maxRecDepth 65536 in
set_option maxHeartbeats 40000000 in
theorem met_s4 (l : Launch) (Z : State) (a0 : Array Value) (hw : ∀ d ∈ tables_1, d.before a0 Z = true) (EL : List (String × Nat)) (hEL : EW Z a0 EL) (n0 bk : Nat) (h0 : Heap) (hz0 : Z.heap.size ≤ n0) (hn0 : n0 ≤ h0.size) (a : Nat) (b : Nat) (xs : List Int32) (z0 : Int32) (X : Exa Z h0 a "java/lang/String") (FV : Fld Z h0 a "java/lang/String" "value" "[B" .null) (FC : Fld Z h0 a "java/lang/String" "coder" "B" (.int (0 : Int32))) (hna : n0 ≤ a) (hba : bk ≤ a) (Ac : Ar Z h0 b .char xs) (hp : 0 < xs.length) (hcap : xs.length ≤ 4) (hq : ∀ x ∈ xs, ¬ 255 < x) (SC : Sta Z Z.heap "java/lang/String" "COMPACT_STRINGS" "Z" (.int z0)) (hzc : ¬ z0 = 0) : Met l Z EL (⟨"java/lang/String", "<init>", "([CIILjava/lang/Void;)V"⟩ : MethodName) jdk_42_method_149_code 6 none [] ({ frames := 2, cells := 1, slots := 4, locals := 35 } : Room) #[(.ref a), (.ref b), (.int (0 : Int32)), (.int (Int32.ofNat xs.length)), .null] n0 bk h0 (fun _ => bk) (fun v h => v = none ∧ Str Z h h.size a xs ∧ OKp (fun y => y ≠ a ∧ y < h0.size) h0 h) := by
  refine Met.intro (plainFor_of_name pn_0) (fun m => ef_11 m a b (0 : Int32) (Int32.ofNat xs.length)) hz0 hEL ?_
  intro p e s m below meth c C
  have la : (_ : Nat) < _ := X.lt
  have lb : (_ : Nat) < _ := Ac.lt
  have lx := own_arlen Ac
  have hcr := own_chr Ac
  refine C.aloadN 1 d10_0 rfl rfl ?_
  refine C.objInit (W := 0) 4 d10_1 (hw _ (List.mem_of_getElem? (i := 15) rfl)) (hw _ (List.mem_of_getElem? (i := 16) rfl)) (hw _ (List.mem_of_getElem? (i := 17) rfl)) rfl (by decide) (Nat.le_of_eq rfl) (by decide) ?_
  refine C.iloadN 5 d10_4 rfl ?_
  refine C.ifY 27 d10_5 (by decide) (by decide) (XT.i0_ne_t (show ¬ ((Int32.ofNat xs.length) = 0) from (fun e => by have q := ((own_ofNat lx (show 0 < 2147483648 by decide)).1.mp e); omega))) ?_
  refine C.gets 30 d10_27 (hw _ (List.mem_of_getElem? (i := 18) rfl)) SC ?_
  refine C.ifN 33 d10_30 rfl (XT.i0_eq_f (show ¬ (z0 = 0) from hzc)) ?_
  refine C.aloadN 34 d10_33 rfl rfl ?_
  refine C.iloadN 35 d10_34 rfl ?_
  refine C.iloadN 36 d10_35 rfl ?_
  refine C.callS (b := h0.size) 39 [(.ref b), (.int (0 : Int32)), (.int (Int32.ofNat xs.length))] [] d10_36 (met_cmp3 l Z a0 hw EL hEL h0.size bk h0 (by omega) (by omega) b xs Ac hp hcap hq (by omega)) (by omega) (Or.inl (Nat.le_refl _)) (hw _ (List.mem_of_getElem? (i := 19) rfl)) (hw _ (List.mem_of_getElem? (i := 20) rfl)) (hw _ (List.mem_of_getElem? (i := 21) rfl)) (hw _ (List.mem_of_getElem? (i := 22) rfl)) (by decide) rfl (lenOf pd__ACII_rAB rfl) (by decide) (W := 0) (Nat.le_of_eq rfl) (by decide) (by decide) (by decide) rfl ?_
  rintro _ h1 K1 ⟨t, rfl, g1, g2, Rt⟩
  have sz_h1 : h0.size ≤ h1.size := K1.1
  replace X := own_exa K1 X (by first | omega | (dsimp only; omega))
  replace FV := own_fld K1 FV (by first | omega | (dsimp only; omega))
  replace FC := own_fld K1 FC (by first | omega | (dsimp only; omega))
  refine C.astore 41 (L' := #[.val (.ref a), .val (.ref b), .val (.int (0 : Int32)), .val (.int (Int32.ofNat xs.length)), .val .null, .val (.ref t)]) d10_39 rfl rfl ?_
  refine C.aloadN 42 d10_41 rfl rfl ?_
  refine C.aload 44 d10_42 rfl rfl ?_
  refine C.iloadN 45 d10_44 rfl ?_
  refine C.callS (b := h1.size) 48 [(.ref t), (.int (Int32.ofNat xs.length))] [(.ref a)] d10_45 (met_cfa l Z a0 hw EL hEL h1.size bk h1 (by omega) (by omega) t (xs.map own_lo) xs.length Rt (List.length_map _)) (by omega) (Or.inl (Nat.le_refl _)) (hw _ (List.mem_of_getElem? (i := 27) rfl)) (hw _ (List.mem_of_getElem? (i := 28) rfl)) (hw _ (List.mem_of_getElem? (i := 21) rfl)) (hw _ (List.mem_of_getElem? (i := 29) rfl)) (by decide) rfl (lenOf pd__ABI_rB rfl) (by decide) (W := 1) (Nat.le_of_eq rfl) (by decide) (by decide) (by decide) rfl ?_
  rintro _ h45_4 K45_4 ⟨rfl, rfl⟩
  refine C.putf (ty := .byte) 51 d10_48 (hw _ (List.mem_of_getElem? (i := 30) rfl)) Via.refl FC X (Or.inr ⟨(hw _ (List.mem_of_getElem? (i := 31) rfl)), rfl, rfl⟩) (hw _ (List.mem_of_getElem? (i := 6) rfl)) (by decide) rfl rfl (by omega) (Or.inl (by omega)) ?_
  intro h2 W2
  have sz_h2 : h1.size ≤ h2.size := (Nat.le_of_eq W2.size.symm)
  replace FV := FV.other W2 (Or.inr (slot_ne (t := (.array .byte)) (t' := .byte) (Or.inr (hw _ (List.mem_of_getElem? (i := 33) rfl))) (Or.inr (hw _ (List.mem_of_getElem? (i := 31) rfl))) (by decide) (by decide) (by decide)))
  replace FC := FC.same W2
  replace X := X.wr W2
  replace Rt := Rt.other W2 (by first | omega | (dsimp only; omega))
  refine C.aloadN 52 d10_51 rfl rfl ?_
  refine C.aload 54 d10_52 rfl rfl ?_
  refine C.putf (ty := (.array .byte)) 57 d10_54 (hw _ (List.mem_of_getElem? (i := 32) rfl)) Via.refl FV X (Or.inr ⟨(hw _ (List.mem_of_getElem? (i := 33) rfl)), rfl, rfl⟩) (hw _ (List.mem_of_getElem? (i := 6) rfl)) (by decide) rfl rfl (by omega) (Or.inl (by omega)) ?_
  intro h3 W3
  have sz_h3 : h2.size ≤ h3.size := (Nat.le_of_eq W3.size.symm)
  replace FC := FC.other W3 (Or.inr (slot_ne (t := .byte) (t' := (.array .byte)) (Or.inr (hw _ (List.mem_of_getElem? (i := 31) rfl))) (Or.inr (hw _ (List.mem_of_getElem? (i := 33) rfl))) (by decide) (by decide) (by decide)))
  replace FV := FV.same W3
  replace X := X.wr W3
  replace Rt := Rt.other W3 (by first | omega | (dsimp only; omega))
  refine C.retV rfl d10_57 (by decide) (by decide) (Or.inl (Nat.le_refl _)) ?_
  exact ⟨rfl, Str.made X FC FV Rt (fun y hy => ⟨hcr y hy, hq y hy⟩), (K1.weak (fun y q => q.2)).trans (((OKp.ofWr W2).trans (OKp.ofWr W3)).weak (fun y q => q.1))⟩
theorem pd__ACIILjava_lang_Void_rV : parseMethodDescriptor "([CIILjava/lang/Void;)V" = some ⟨[(.array .char), .int, .int, (.object "java/lang/Void")], none⟩ := by decide +kernel
theorem d11_0 : decode jdk_42_method_3_code 0 = .ok (.aload_n 0, 1) := by decide +kernel
theorem d11_1 : decode jdk_42_method_3_code 1 = .ok (.aload_n 1, 1) := by decide +kernel
theorem d11_2 : decode jdk_42_method_3_code 2 = .ok (.iconst 0, 1) := by decide +kernel
theorem d11_3 : decode jdk_42_method_3_code 3 = .ok (.aload_n 1, 1) := by decide +kernel
theorem d11_4 : decode jdk_42_method_3_code 4 = .ok (.arraylength, 1) := by decide +kernel
theorem d11_5 : decode jdk_42_method_3_code 5 = .ok (.aconst_null, 1) := by decide +kernel
theorem d11_6 : decode jdk_42_method_3_code 6 = .ok (.invokespecial 27, 3) := by decide +kernel
theorem d11_9 : decode jdk_42_method_3_code 9 = .ok (.return_, 1) := by decide +kernel
theorem ef_12 (m : MethodId) (x0 : Nat) (x1 : Nat) : entryFrame m #[(.ref x0), (.ref x1)] 2 = mkF m 0 #[.val (.ref x0), .val (.ref x1)] [] := by first | (simp [entryFrame, mkF, argsToLocals, Value.category]; done) | rfl
set_option maxRecDepth 65536 in
set_option maxHeartbeats 40000000 in
theorem met_s1 (l : Launch) (Z : State) (a0 : Array Value) (hw : ∀ d ∈ tables_1, d.before a0 Z = true) (EL : List (String × Nat)) (hEL : EW Z a0 EL) (n0 bk : Nat) (h0 : Heap) (hz0 : Z.heap.size ≤ n0) (hn0 : n0 ≤ h0.size) (a : Nat) (b : Nat) (xs : List Int32) (z0 : Int32) (X : Exa Z h0 a "java/lang/String") (FV : Fld Z h0 a "java/lang/String" "value" "[B" .null) (FC : Fld Z h0 a "java/lang/String" "coder" "B" (.int (0 : Int32))) (hna : n0 ≤ a) (hba : bk ≤ a) (Ac : Ar Z h0 b .char xs) (hp : 0 < xs.length) (hcap : xs.length ≤ 4) (hq : ∀ x ∈ xs, ¬ 255 < x) (SC : Sta Z Z.heap "java/lang/String" "COMPACT_STRINGS" "Z" (.int z0)) (hzc : ¬ z0 = 0) : Met l Z EL (⟨"java/lang/String", "<init>", "([C)V"⟩ : MethodName) jdk_42_method_3_code 2 none [] ({ frames := 3, cells := 1, slots := 4, locals := 52 } : Room) #[(.ref a), (.ref b)] n0 bk h0 (fun _ => bk) (fun v h => v = none ∧ Str Z h h.size a xs ∧ OKp (fun y => y ≠ a ∧ y < h0.size) h0 h) := by
  refine Met.intro (plainFor_of_name pn_0) (fun m => ef_12 m a b) hz0 hEL ?_
  intro p e s m below meth c C
  refine C.aloadN 1 d11_0 rfl rfl ?_
  refine C.aloadN 2 d11_1 rfl rfl ?_
  refine C.iconst 3 (0 : Int32) d11_2 (by decide) ?_
  refine C.aloadN 4 d11_3 rfl rfl ?_
  refine C.alen 5 d11_4 Ac rfl ?_
  refine C.aconstNull 6 d11_5 ?_
  refine C.callI (b := n0) 9 [(.ref b), (.int (0 : Int32)), (.int (Int32.ofNat xs.length)), .null] [] d11_6 (met_s4 l Z a0 hw EL hEL n0 bk h0 (by omega) (by omega) a b xs z0 X FV FC hna hba Ac hp hcap hq SC hzc) rfl (by omega) (Or.inl (Nat.le_refl _)) (hw _ (List.mem_of_getElem? (i := 11) rfl)) (hw _ (List.mem_of_getElem? (i := 12) rfl)) (hw _ (List.mem_of_getElem? (i := 7) rfl)) (hw _ (List.mem_of_getElem? (i := 14) rfl)) (by decide) rfl (lenOf pd__ACIILjava_lang_Void_rV rfl) (by decide) (W := 0) (Nat.le_of_eq rfl) (by decide) (by decide) (by decide) rfl ?_
  rintro _ h1 K1 ⟨rfl, Sa, Kq⟩
  have sz_h1 : h0.size ≤ h1.size := K1.1
  refine C.retV rfl d11_9 (by decide) (by decide) (Or.inl (Nat.le_refl _)) ?_
  exact ⟨rfl, Sa, Kq⟩
theorem own_mem {x : Int32} (h1 : ¬ x < 0) (h2 : ¬ 255 < x) {cs : List Int32} (hc : ∀ y ∈ cs, ¬ y < 0 ∧ ¬ 255 < y) : own_lo x ∈ cs.map own_lo ↔ x ∈ cs := by
  rw [List.mem_map]
  exact ⟨fun ⟨y, hy, e⟩ => by rw [← own_lo_inj (hc y hy).1 (hc y hy).2 h1 h2 e]; exact hy, fun h => ⟨x, h, rfl⟩⟩
theorem own_memget {xs : List Int32} {x : Int32} : x ∈ xs ↔ ∃ i, i < xs.length ∧ xs[i]? = some x := by
  rw [List.mem_iff_getElem?]
  exact ⟨fun ⟨i, h⟩ => ⟨i, (List.getElem?_eq_some_iff.mp h).1, h⟩, fun ⟨i, _, h⟩ => ⟨i, h⟩⟩
theorem d12_0 : decode jdk_43_method_23_code 0 = .ok (.iload_n 1, 1) := by decide +kernel
theorem d12_1 : decode jdk_43_method_23_code 1 = .ok (.i2b, 1) := by decide +kernel
theorem d12_2 : decode jdk_43_method_23_code 2 = .ok (.istore 4, 2) := by decide +kernel
theorem d12_4 : decode jdk_43_method_23_code 4 = .ok (.iload_n 2, 1) := by decide +kernel
theorem d12_5 : decode jdk_43_method_23_code 5 = .ok (.istore 5, 2) := by decide +kernel
theorem d12_7 : decode jdk_43_method_23_code 7 = .ok (.iload 5, 2) := by decide +kernel
theorem d12_9 : decode jdk_43_method_23_code 9 = .ok (.iload_n 3, 1) := by decide +kernel
theorem d12_10 : decode jdk_43_method_23_code 10 = .ok (.if_icmp .ge 21, 3) := by decide +kernel
theorem d12_13 : decode jdk_43_method_23_code 13 = .ok (.aload_n 0, 1) := by decide +kernel
theorem d12_14 : decode jdk_43_method_23_code 14 = .ok (.iload 5, 2) := by decide +kernel
theorem d12_16 : decode jdk_43_method_23_code 16 = .ok (.baload, 1) := by decide +kernel
theorem d12_17 : decode jdk_43_method_23_code 17 = .ok (.iload 4, 2) := by decide +kernel
theorem d12_19 : decode jdk_43_method_23_code 19 = .ok (.if_icmp .ne 6, 3) := by decide +kernel
theorem d12_22 : decode jdk_43_method_23_code 22 = .ok (.iload 5, 2) := by decide +kernel
theorem d12_24 : decode jdk_43_method_23_code 24 = .ok (.ireturn, 1) := by decide +kernel
theorem d12_25 : decode jdk_43_method_23_code 25 = .ok (.iinc 5 1, 3) := by decide +kernel
theorem d12_28 : decode jdk_43_method_23_code 28 = .ok (.goto (-21), 3) := by decide +kernel
theorem d12_31 : decode jdk_43_method_23_code 31 = .ok (.iconst (-1), 1) := by decide +kernel
theorem d12_32 : decode jdk_43_method_23_code 32 = .ok (.ireturn, 1) := by decide +kernel
theorem ef_13 (m : MethodId) (x0 : Nat) (x1 : Int32) (x2 : Int32) (x3 : Int32) : entryFrame m #[(.ref x0), (.int x1), (.int x2), (.int x3)] 6 = mkF m 0 #[.val (.ref x0), .val (.int x1), .val (.int x2), .val (.int x3), .unset, .unset] [] := by first | (simp [entryFrame, mkF, argsToLocals, Value.category]; done) | rfl
set_option maxRecDepth 65536 in
set_option maxHeartbeats 40000000 in
theorem met_ioc (l : Launch) (Z : State) (a0 : Array Value) (hw : ∀ d ∈ tables_1, d.before a0 Z = true) (EL : List (String × Nat)) (hEL : EW Z a0 EL) (n0 bk : Nat) (h0 : Heap) (hz0 : Z.heap.size ≤ n0) (hn0 : n0 ≤ h0.size) (t : Nat) (x : Int32) (xs : List Int32) (R : Ar Z h0 t .byte xs) : Met l Z EL (⟨"java/lang/StringLatin1", "indexOfChar", "([BIII)I"⟩ : MethodName) jdk_43_method_23_code 6 (some .int) [] ({ frames := 0, cells := 0, slots := 0, locals := 0 } : Room) #[(.ref t), (.int x), (.int (0 : Int32)), (.int (Int32.ofNat xs.length))] n0 bk h0 (fun _ => bk) (fun v h => ∃ r, v = some (.int r) ∧ (¬ r < 0 ↔ own_lo x ∈ xs) ∧ h0 = h) := by
  refine Met.intro (plainFor_of_name pn_2) (fun m => ef_13 m t x (0 : Int32) (Int32.ofNat xs.length)) hz0 hEL ?_
  intro p e s m below meth c C
  have lx := own_arlen R
  have L7 : ∀ (n : Nat), ∀ (i : Nat), (xs.length - i = n) → (i ≤ xs.length) → (∀ j, j < i → xs[j]? ≠ some (own_lo x)) → Go p l e ({ frames := 0, cells := 0, slots := 0, locals := 0 } : Room) s m #[(.ref t), (.int x), (.int (0 : Int32)), (.int (Int32.ofNat xs.length))] below meth c Z "java/lang/StringLatin1" EL n0 (fun _ => bk) (fun v h => ∃ r, v = some (.int r) ∧ (¬ r < 0 ↔ own_lo x ∈ xs) ∧ h0 = h) bk h0 0 0 7 #[.val (.ref t), .val (.int x), .val (.int (0 : Int32)), .val (.int (Int32.ofNat xs.length)), .val (.int x.toInt8.toInt32), .val (.int (Int32.ofNat i))] [] := by
    intro n
    induction n using Nat.strongRecOn with
    | ind n ih =>
      intro i hn hi he
      refine C.iload 9 d12_7 rfl ?_
      refine C.iloadN 10 d12_9 rfl ?_
      rcases Decidable.em ((Int32.ofNat i) < (Int32.ofNat xs.length)) with h10 | h10
      · skip
        refine C.icN 13 d12_10 rfl (XT.ii_ge_f h10) ?_
        have hlt : i < xs.length := (own_ofNat (by omega) lx).2.mp h10
        obtain ⟨x1, hx1⟩ : ∃ y, xs[i]? = some y := ⟨_, List.getElem?_eq_getElem hlt⟩
        refine C.aloadN 14 d12_13 rfl rfl ?_
        refine C.iload 16 d12_14 rfl ?_
        refine C.baload 17 i d12_16 R rfl hx1 ?_
        refine C.iload 19 d12_17 rfl ?_
        rcases Decidable.em (x1 = x.toInt8.toInt32) with h19 | h19
        · skip
          refine C.icN 22 d12_19 rfl (XT.ii_ne_f h19) ?_
          refine C.iload 24 d12_22 rfl ?_
          refine C.retI rfl d12_24 (by decide) (by decide) (Or.inl (Nat.le_refl _)) ?_
          exact ⟨_, rfl, ⟨fun _ => by rw [show own_lo x = x1 from h19.symm]; exact List.mem_of_getElem? hx1, fun _ => (own_len31 (show i < 2147483648 by omega) rfl).1⟩, rfl⟩
        · skip
          refine C.icY 25 d12_19 (by decide) (by decide) (XT.ii_ne_t h19) ?_
          refine C.iinc 28 (L' := #[.val (.ref t), .val (.int x), .val (.int (0 : Int32)), .val (.int (Int32.ofNat xs.length)), .val (.int x.toInt8.toInt32), .val (.int ((Int32.ofNat i) + (1 : Int32)))]) (1 : Int32) d12_25 (by decide) rfl rfl ?_
          refine C.goto 7 d12_28 (by decide) (by decide) ?_
          rw [own_succ i]
          exact ih _ (show xs.length - (i + 1) < n by omega) (i + 1) rfl (by omega) (fun j hj => by
            by_cases q : j = i
            · subst q; rw [hx1]; exact fun e => h19 (Option.some.inj e)
            · exact he j (by omega))
      · skip
        refine C.icY 31 d12_10 (by decide) (by decide) (XT.ii_ge_t h10) ?_
        have hge : ¬ i < xs.length := fun q => h10 ((own_ofNat (by omega) lx).2.mpr q)
        refine C.iconst 32 (-1 : Int32) d12_31 (by decide) ?_
        refine C.retI rfl d12_32 (by decide) (by decide) (Or.inl (Nat.le_refl _)) ?_
        exact ⟨_, rfl, ⟨fun q => absurd (by decide) q, fun q => by obtain ⟨j, hj, e⟩ := own_memget.mp q; exact absurd e (he j (by omega))⟩, rfl⟩
  refine C.iloadN 1 d12_0 rfl ?_
  refine C.i2b 2 d12_1 ?_
  refine C.istore 4 (L' := #[.val (.ref t), .val (.int x), .val (.int (0 : Int32)), .val (.int (Int32.ofNat xs.length)), .val (.int x.toInt8.toInt32), .unset]) d12_2 rfl ?_
  refine C.iloadN 5 d12_4 rfl ?_
  refine C.istore 7 (L' := #[.val (.ref t), .val (.int x), .val (.int (0 : Int32)), .val (.int (Int32.ofNat xs.length)), .val (.int x.toInt8.toInt32), .val (.int (0 : Int32))]) d12_5 rfl ?_
  exact L7 _ 0 rfl (Nat.zero_le _) (fun j hj => absurd hj (Nat.not_lt_zero _))
theorem d13_0 : decode jdk_29_method_65_code 0 = .ok (.iload_n 0, 1) := by decide +kernel
theorem d13_1 : decode jdk_29_method_65_code 1 = .ok (.iload_n 1, 1) := by decide +kernel
theorem d13_2 : decode jdk_29_method_65_code 2 = .ok (.if_icmp .lt 7, 3) := by decide +kernel
theorem d13_5 : decode jdk_29_method_65_code 5 = .ok (.iload_n 0, 1) := by decide +kernel
theorem d13_6 : decode jdk_29_method_65_code 6 = .ok (.goto 4, 3) := by decide +kernel
theorem d13_10 : decode jdk_29_method_65_code 10 = .ok (.ireturn, 1) := by decide +kernel
theorem ef_14 (m : MethodId) (x0 : Int32) (x1 : Int32) : entryFrame m #[(.int x0), (.int x1)] 2 = mkF m 0 #[.val (.int x0), .val (.int x1)] [] := by first | (simp [entryFrame, mkF, argsToLocals, Value.category]; done) | rfl
set_option maxRecDepth 65536 in
set_option maxHeartbeats 40000000 in
theorem met_max (l : Launch) (Z : State) (a0 : Array Value) (hw : ∀ d ∈ tables_1, d.before a0 Z = true) (EL : List (String × Nat)) (hEL : EW Z a0 EL) (n0 bk : Nat) (h0 : Heap) (hz0 : Z.heap.size ≤ n0) (hn0 : n0 ≤ h0.size) (x : Int32) (y : Int32) (q : ¬ x < y) : Met l Z EL (⟨"java/lang/Math", "max", "(II)I"⟩ : MethodName) jdk_29_method_65_code 2 (some .int) [] ({ frames := 0, cells := 0, slots := 0, locals := 0 } : Room) #[(.int x), (.int y)] n0 bk h0 (fun _ => bk) (fun v h => v = some (.int x) ∧ h0 = h) := by
  refine Met.intro ((by decide +kernel)) (fun m => ef_14 m x y) hz0 hEL ?_
  intro p e s m below meth c C
  refine C.iloadN 1 d13_0 rfl ?_
  refine C.iloadN 2 d13_1 rfl ?_
  refine C.icN 5 d13_2 rfl (XT.ii_lt_f (show ¬ (x < y) from q)) ?_
  refine C.iloadN 6 d13_5 rfl ?_
  refine C.goto 10 d13_6 (by decide) (by decide) ?_
  refine C.retI rfl d13_10 (by decide) (by decide) (Or.inl (Nat.le_refl _)) ?_
  exact ⟨rfl, rfl⟩
theorem d14_0 : decode jdk_29_method_69_code 0 = .ok (.iload_n 0, 1) := by decide +kernel
theorem d14_1 : decode jdk_29_method_69_code 1 = .ok (.iload_n 1, 1) := by decide +kernel
theorem d14_2 : decode jdk_29_method_69_code 2 = .ok (.if_icmp .gt 7, 3) := by decide +kernel
theorem d14_5 : decode jdk_29_method_69_code 5 = .ok (.iload_n 0, 1) := by decide +kernel
theorem d14_6 : decode jdk_29_method_69_code 6 = .ok (.goto 4, 3) := by decide +kernel
theorem d14_10 : decode jdk_29_method_69_code 10 = .ok (.ireturn, 1) := by decide +kernel
theorem ef_15 (m : MethodId) (x0 : Int32) (x1 : Int32) : entryFrame m #[(.int x0), (.int x1)] 2 = mkF m 0 #[.val (.int x0), .val (.int x1)] [] := by first | (simp [entryFrame, mkF, argsToLocals, Value.category]; done) | rfl
set_option maxRecDepth 65536 in
set_option maxHeartbeats 40000000 in
theorem met_min (l : Launch) (Z : State) (a0 : Array Value) (hw : ∀ d ∈ tables_1, d.before a0 Z = true) (EL : List (String × Nat)) (hEL : EW Z a0 EL) (n0 bk : Nat) (h0 : Heap) (hz0 : Z.heap.size ≤ n0) (hn0 : n0 ≤ h0.size) (x : Int32) (y : Int32) (q : ¬ y < x) : Met l Z EL (⟨"java/lang/Math", "min", "(II)I"⟩ : MethodName) jdk_29_method_69_code 2 (some .int) [] ({ frames := 0, cells := 0, slots := 0, locals := 0 } : Room) #[(.int x), (.int y)] n0 bk h0 (fun _ => bk) (fun v h => v = some (.int x) ∧ h0 = h) := by
  refine Met.intro ((by decide +kernel)) (fun m => ef_15 m x y) hz0 hEL ?_
  intro p e s m below meth c C
  refine C.iloadN 1 d14_0 rfl ?_
  refine C.iloadN 2 d14_1 rfl ?_
  refine C.icN 5 d14_2 rfl (XT.ii_gt_f (show ¬ (y < x) from q)) ?_
  refine C.iloadN 6 d14_5 rfl ?_
  refine C.goto 10 d14_6 (by decide) (by decide) ?_
  refine C.retI rfl d14_10 (by decide) (by decide) (Or.inl (Nat.le_refl _)) ?_
  exact ⟨rfl, rfl⟩
theorem d15_0 : decode jdk_43_method_4_code 0 = .ok (.iload_n 0, 1) := by decide +kernel
theorem d15_1 : decode jdk_43_method_4_code 1 = .ok (.ifCond .lt 14, 3) := by decide +kernel
theorem d15_4 : decode jdk_43_method_4_code 4 = .ok (.iload_n 0, 1) := by decide +kernel
theorem d15_5 : decode jdk_43_method_4_code 5 = .ok (.sipush 255, 3) := by decide +kernel
theorem d15_8 : decode jdk_43_method_4_code 8 = .ok (.if_icmp .gt 7, 3) := by decide +kernel
theorem d15_11 : decode jdk_43_method_4_code 11 = .ok (.iconst 1, 1) := by decide +kernel
theorem d15_12 : decode jdk_43_method_4_code 12 = .ok (.goto 4, 3) := by decide +kernel
theorem d15_16 : decode jdk_43_method_4_code 16 = .ok (.ireturn, 1) := by decide +kernel
theorem ef_16 (m : MethodId) (x0 : Int32) : entryFrame m #[(.int x0)] 1 = mkF m 0 #[.val (.int x0)] [] := by first | (simp [entryFrame, mkF, argsToLocals, Value.category]; done) | rfl
set_option maxRecDepth 65536 in
set_option maxHeartbeats 40000000 in
theorem met_cani (l : Launch) (Z : State) (a0 : Array Value) (hw : ∀ d ∈ tables_1, d.before a0 Z = true) (EL : List (String × Nat)) (hEL : EW Z a0 EL) (n0 bk : Nat) (h0 : Heap) (hz0 : Z.heap.size ≤ n0) (hn0 : n0 ≤ h0.size) (x : Int32) (q0 : ¬ x < 0) (q : ¬ 255 < x) : Met l Z EL (⟨"java/lang/StringLatin1", "canEncode", "(I)Z"⟩ : MethodName) jdk_43_method_4_code 1 (some .boolean) [] ({ frames := 0, cells := 0, slots := 0, locals := 0 } : Room) #[(.int x)] n0 bk h0 (fun _ => bk) (fun v h => v = some (.int 1) ∧ h0 = h) := by
  refine Met.intro (plainFor_of_name pn_2) (fun m => ef_16 m x) hz0 hEL ?_
  intro p e s m below meth c C
  refine C.iloadN 1 d15_0 rfl ?_
  refine C.ifN 4 d15_1 rfl (XT.i0_lt_f (show ¬ (x < 0) from q0)) ?_
  refine C.iloadN 5 d15_4 rfl ?_
  refine C.sipush 8 (255 : Int32) d15_5 (by decide) ?_
  refine C.icN 11 d15_8 rfl (XT.ii_gt_f (show ¬ ((255 : Int32) < x) from q)) ?_
  refine C.iconst 12 (1 : Int32) d15_11 (by decide) ?_
  refine C.goto 16 d15_12 (by decide) (by decide) ?_
  refine C.retN (t := .boolean) rfl (by simp) d15_16 (by decide) (by decide) (Or.inl (Nat.le_refl _)) ?_
  exact ⟨rfl, rfl⟩
theorem pd__I_rZ : parseMethodDescriptor "(I)Z" = some ⟨[.int], some .boolean⟩ := by decide +kernel
theorem pd__II_rI : parseMethodDescriptor "(II)I" = some ⟨[.int, .int], some .int⟩ := by decide +kernel
theorem pd__ABIII_rI : parseMethodDescriptor "([BIII)I" = some ⟨[(.array .byte), .int, .int, .int], some .int⟩ := by decide +kernel
theorem d16_0 : decode jdk_43_method_22_code 0 = .ok (.iload_n 1, 1) := by decide +kernel
theorem d16_1 : decode jdk_43_method_22_code 1 = .ok (.invokestatic 88, 3) := by decide +kernel
theorem d16_4 : decode jdk_43_method_22_code 4 = .ok (.ifCond .ne 5, 3) := by decide +kernel
theorem d16_9 : decode jdk_43_method_22_code 9 = .ok (.iload_n 2, 1) := by decide +kernel
theorem d16_10 : decode jdk_43_method_22_code 10 = .ok (.iconst 0, 1) := by decide +kernel
theorem d16_11 : decode jdk_43_method_22_code 11 = .ok (.invokestatic 92, 3) := by decide +kernel
theorem d16_14 : decode jdk_43_method_22_code 14 = .ok (.istore_n 2, 1) := by decide +kernel
theorem d16_15 : decode jdk_43_method_22_code 15 = .ok (.iload_n 3, 1) := by decide +kernel
theorem d16_16 : decode jdk_43_method_22_code 16 = .ok (.aload_n 0, 1) := by decide +kernel
theorem d16_17 : decode jdk_43_method_22_code 17 = .ok (.arraylength, 1) := by decide +kernel
theorem d16_18 : decode jdk_43_method_22_code 18 = .ok (.invokestatic 38, 3) := by decide +kernel
theorem d16_21 : decode jdk_43_method_22_code 21 = .ok (.istore_n 3, 1) := by decide +kernel
theorem d16_22 : decode jdk_43_method_22_code 22 = .ok (.iload_n 2, 1) := by decide +kernel
theorem d16_23 : decode jdk_43_method_22_code 23 = .ok (.iload_n 3, 1) := by decide +kernel
theorem d16_24 : decode jdk_43_method_22_code 24 = .ok (.if_icmp .lt 5, 3) := by decide +kernel
theorem d16_27 : decode jdk_43_method_22_code 27 = .ok (.iconst (-1), 1) := by decide +kernel
theorem d16_28 : decode jdk_43_method_22_code 28 = .ok (.ireturn, 1) := by decide +kernel
theorem d16_29 : decode jdk_43_method_22_code 29 = .ok (.aload_n 0, 1) := by decide +kernel
theorem d16_30 : decode jdk_43_method_22_code 30 = .ok (.iload_n 1, 1) := by decide +kernel
theorem d16_31 : decode jdk_43_method_22_code 31 = .ok (.iload_n 2, 1) := by decide +kernel
theorem d16_32 : decode jdk_43_method_22_code 32 = .ok (.iload_n 3, 1) := by decide +kernel
theorem d16_33 : decode jdk_43_method_22_code 33 = .ok (.invokestatic 95, 3) := by decide +kernel
theorem d16_36 : decode jdk_43_method_22_code 36 = .ok (.ireturn, 1) := by decide +kernel
theorem ef_17 (m : MethodId) (x0 : Nat) (x1 : Int32) (x2 : Int32) (x3 : Int32) : entryFrame m #[(.ref x0), (.int x1), (.int x2), (.int x3)] 4 = mkF m 0 #[.val (.ref x0), .val (.int x1), .val (.int x2), .val (.int x3)] [] := by first | (simp [entryFrame, mkF, argsToLocals, Value.category]; done) | rfl
set_option maxRecDepth 65536 in
set_option maxHeartbeats 40000000 in
theorem met_lio (l : Launch) (Z : State) (a0 : Array Value) (hw : ∀ d ∈ tables_1, d.before a0 Z = true) (EL : List (String × Nat)) (hEL : EW Z a0 EL) (n0 bk : Nat) (h0 : Heap) (hz0 : Z.heap.size ≤ n0) (hn0 : n0 ≤ h0.size) (t : Nat) (x : Int32) (xs : List Int32) (R : Ar Z h0 t .byte xs) (q0 : ¬ x < 0) (q : ¬ 255 < x) : Met l Z EL (⟨"java/lang/StringLatin1", "indexOf", "([BIII)I"⟩ : MethodName) jdk_43_method_22_code 4 (some .int) [] ({ frames := 1, cells := 0, slots := 0, locals := 17 } : Room) #[(.ref t), (.int x), (.int (0 : Int32)), (.int (Int32.ofNat xs.length))] n0 bk h0 (fun _ => bk) (fun v h => ∃ r, v = some (.int r) ∧ (¬ r < 0 ↔ own_lo x ∈ xs) ∧ h0 = h) := by
  refine Met.intro (plainFor_of_name pn_2) (fun m => ef_17 m t x (0 : Int32) (Int32.ofNat xs.length)) hz0 hEL ?_
  intro p e s m below meth c C
  have lx := own_arlen R
  refine C.iloadN 1 d16_0 rfl ?_
  refine C.callS (b := h0.size) 4 [(.int x)] [] d16_1 (met_cani l Z a0 hw EL hEL h0.size bk h0 (by omega) (by omega) x q0 q) (by omega) (Or.inl (Nat.le_refl _)) (hw _ (List.mem_of_getElem? (i := 91) rfl)) (hw _ (List.mem_of_getElem? (i := 92) rfl)) (hw _ (List.mem_of_getElem? (i := 51) rfl)) (hw _ (List.mem_of_getElem? (i := 93) rfl)) (by decide) rfl (lenOf pd__I_rZ rfl) (by decide) (W := 0) (Nat.le_of_eq rfl) (by decide) (by decide) (by decide) rfl ?_
  rintro _ h1_1 K1_1 ⟨rfl, rfl⟩
  refine C.ifY 9 d16_4 (by decide) (by decide) (XT.i0_ne_t (show ¬ ((1 : Int32) = 0) from (by decide))) ?_
  refine C.iloadN 10 d16_9 rfl ?_
  refine C.iconst 11 (0 : Int32) d16_10 (by decide) ?_
  refine C.callS (b := h0.size) 14 [(.int (0 : Int32)), (.int (0 : Int32))] [] d16_11 (met_max l Z a0 hw EL hEL h0.size bk h0 (by omega) (by omega) 0 0 (by decide)) (by omega) (Or.inl (Nat.le_refl _)) (hw _ (List.mem_of_getElem? (i := 94) rfl)) (hw _ (List.mem_of_getElem? (i := 95) rfl)) (hw _ (List.mem_of_getElem? (i := 96) rfl)) (hw _ (List.mem_of_getElem? (i := 97) rfl)) (by decide) rfl (lenOf pd__II_rI rfl) (by decide) (W := 0) (Nat.le_of_eq rfl) (by decide) (by decide) (by decide) rfl ?_
  rintro _ h11_2 K11_2 ⟨rfl, rfl⟩
  refine C.istoreN 15 (L' := #[.val (.ref t), .val (.int x), .val (.int (0 : Int32)), .val (.int (Int32.ofNat xs.length))]) d16_14 rfl ?_
  refine C.iloadN 16 d16_15 rfl ?_
  refine C.aloadN 17 d16_16 rfl rfl ?_
  refine C.alen 18 d16_17 R rfl ?_
  refine C.callS (b := h0.size) 21 [(.int (Int32.ofNat xs.length)), (.int (Int32.ofNat xs.length))] [] d16_18 (met_min l Z a0 hw EL hEL h0.size bk h0 (by omega) (by omega) _ _ (fun q => absurd q (by rw [Int32.lt_iff_toInt_lt]; omega))) (by omega) (Or.inl (Nat.le_refl _)) (hw _ (List.mem_of_getElem? (i := 98) rfl)) (hw _ (List.mem_of_getElem? (i := 99) rfl)) (hw _ (List.mem_of_getElem? (i := 96) rfl)) (hw _ (List.mem_of_getElem? (i := 100) rfl)) (by decide) rfl (lenOf pd__II_rI rfl) (by decide) (W := 0) (Nat.le_of_eq rfl) (by decide) (by decide) (by decide) rfl ?_
  rintro _ h18_4 K18_4 ⟨rfl, rfl⟩
  refine C.istoreN 22 (L' := #[.val (.ref t), .val (.int x), .val (.int (0 : Int32)), .val (.int (Int32.ofNat xs.length))]) d16_21 rfl ?_
  refine C.iloadN 23 d16_22 rfl ?_
  refine C.iloadN 24 d16_23 rfl ?_
  rcases Decidable.em ((0 : Int32) < (Int32.ofNat xs.length)) with h24 | h24
  · skip
    refine C.icY 29 d16_24 (by decide) (by decide) (XT.ii_lt_t h24) ?_
    refine C.aloadN 30 d16_29 rfl rfl ?_
    refine C.iloadN 31 d16_30 rfl ?_
    refine C.iloadN 32 d16_31 rfl ?_
    refine C.iloadN 33 d16_32 rfl ?_
    refine C.callS (b := h0.size) 36 [(.ref t), (.int x), (.int (0 : Int32)), (.int (Int32.ofNat xs.length))] [] d16_33 (met_ioc l Z a0 hw EL hEL h0.size bk h0 (by omega) (by omega) t x xs R) (by omega) (Or.inl (Nat.le_refl _)) (hw _ (List.mem_of_getElem? (i := 101) rfl)) (hw _ (List.mem_of_getElem? (i := 102) rfl)) (hw _ (List.mem_of_getElem? (i := 51) rfl)) (hw _ (List.mem_of_getElem? (i := 103) rfl)) (by decide) rfl (lenOf pd__ABIII_rI rfl) (by decide) (W := 0) (Nat.le_of_eq rfl) (by decide) (by decide) (by decide) rfl ?_
    rintro _ h33_5 K33_5 ⟨r, rfl, hr, rfl⟩
    refine C.retI rfl d16_36 (by decide) (by decide) (Or.inl (Nat.le_refl _)) ?_
    exact ⟨r, rfl, hr, rfl⟩
  · skip
    refine C.icN 27 d16_24 rfl (XT.ii_lt_f h24) ?_
    refine C.iconst 28 (-1 : Int32) d16_27 (by decide) ?_
    refine C.retI rfl d16_28 (by decide) (by decide) (Or.inl (Nat.le_refl _)) ?_
    exact ⟨_, rfl, ⟨fun q => absurd (by decide) q, fun q => by obtain ⟨j, hj, e⟩ := own_memget.mp q; exact absurd ((own_ofNat (show 0 < 2147483648 by decide) lx).2.mpr (by omega)) h24⟩, rfl⟩
theorem pd___rI : parseMethodDescriptor "()I" = some ⟨[], some .int⟩ := by decide +kernel
theorem d17_0 : decode jdk_42_method_80_code 0 = .ok (.aload_n 0, 1) := by decide +kernel
theorem d17_1 : decode jdk_42_method_80_code 1 = .ok (.invokevirtual 492, 3) := by decide +kernel
theorem d17_4 : decode jdk_42_method_80_code 4 = .ok (.ifCond .eq 19, 3) := by decide +kernel
theorem d17_7 : decode jdk_42_method_80_code 7 = .ok (.aload_n 0, 1) := by decide +kernel
theorem d17_8 : decode jdk_42_method_80_code 8 = .ok (.getfield 9, 3) := by decide +kernel
theorem d17_11 : decode jdk_42_method_80_code 11 = .ok (.iload_n 1, 1) := by decide +kernel
theorem d17_12 : decode jdk_42_method_80_code 12 = .ok (.iload_n 2, 1) := by decide +kernel
theorem d17_13 : decode jdk_42_method_80_code 13 = .ok (.aload_n 0, 1) := by decide +kernel
theorem d17_14 : decode jdk_42_method_80_code 14 = .ok (.invokevirtual 505, 3) := by decide +kernel
theorem d17_17 : decode jdk_42_method_80_code 17 = .ok (.invokestatic 637, 3) := by decide +kernel
theorem d17_20 : decode jdk_42_method_80_code 20 = .ok (.goto 16, 3) := by decide +kernel
theorem d17_36 : decode jdk_42_method_80_code 36 = .ok (.ireturn, 1) := by decide +kernel
theorem ef_18 (m : MethodId) (x0 : Nat) (x1 : Int32) (x2 : Int32) : entryFrame m #[(.ref x0), (.int x1), (.int x2)] 3 = mkF m 0 #[.val (.ref x0), .val (.int x1), .val (.int x2)] [] := by first | (simp [entryFrame, mkF, argsToLocals, Value.category]; done) | rfl
set_option maxRecDepth 65536 in
set_option maxHeartbeats 40000000 in
theorem met_io2 (l : Launch) (Z : State) (a0 : Array Value) (hw : ∀ d ∈ tables_1, d.before a0 Z = true) (EL : List (String × Nat)) (hEL : EW Z a0 EL) (n0 bk : Nat) (h0 : Heap) (hz0 : Z.heap.size ≤ n0) (hn0 : n0 ≤ h0.size) (a : Nat) (ba : Nat) (cs : List Int32) (x : Int32) (z0 : Int32) (Sa : Str Z h0 ba a cs) (q0 : ¬ x < 0) (q : ¬ 255 < x) (SC : Sta Z Z.heap "java/lang/String" "COMPACT_STRINGS" "Z" (.int z0)) (hzc : ¬ z0 = 0) : Met l Z EL (⟨"java/lang/String", "indexOf", "(II)I"⟩ : MethodName) jdk_42_method_80_code 3 (some .int) [] ({ frames := 2, cells := 0, slots := 0, locals := 32 } : Room) #[(.ref a), (.int x), (.int (0 : Int32))] n0 bk h0 (fun _ => bk) (fun v h => ∃ r, v = some (.int r) ∧ (¬ r < 0 ↔ x ∈ cs) ∧ h0 = h) := by
  refine Met.intro (plainFor_of_name pn_0) (fun m => ef_18 m a x (0 : Int32)) hz0 hEL ?_
  intro p e s m below meth c C
  have Sa0 := Sa
  obtain ⟨t, f1, f2, f3, f4, f5, f6, f7⟩ := Sa
  refine C.aloadN 1 d17_0 rfl rfl ?_
  refine C.callV (b := h0.size) 4 [] [] d17_1 (met_isl l Z a0 hw EL hEL h0.size bk h0 (by omega) (by omega) a ba cs z0 Sa0 SC hzc) f3 (by omega) (Or.inl (Nat.le_refl _)) (hw _ (List.mem_of_getElem? (i := 44) rfl)) (hw _ (List.mem_of_getElem? (i := 45) rfl)) (hw _ (List.mem_of_getElem? (i := 47) rfl)) (hw _ (List.mem_of_getElem? (i := 46) rfl)) (hw _ (List.mem_of_getElem? (i := 7) rfl)) (hw _ (List.mem_of_getElem? (i := 48) rfl)) (fun hZ => notFace_of_selects (args := #[]) (mvT hZ (hw _ (List.mem_of_getElem? (i := 47) rfl)))) (by decide) rfl (lenOf pd___rZ rfl) (by decide) (W := 0) (Nat.le_of_eq rfl) (by decide) (by decide) (by decide) rfl ?_
  rintro _ h1_1 K1_1 ⟨rfl, rfl⟩
  refine C.ifN 7 d17_4 rfl (XT.i0_eq_f (show ¬ ((1 : Int32) = 0) from (by decide))) ?_
  refine C.aloadN 8 d17_7 rfl rfl ?_
  refine C.getf 11 d17_8 (hw _ (List.mem_of_getElem? (i := 32) rfl)) Via.refl f5 ?_
  refine C.iloadN 12 d17_11 rfl ?_
  refine C.iloadN 13 d17_12 rfl ?_
  refine C.aloadN 14 d17_13 rfl rfl ?_
  refine C.callV (b := h0.size) 17 [] [(.int (0 : Int32)), (.int x), (.ref t)] d17_14 (met_len l Z a0 hw EL hEL h0.size bk h0 (by omega) (by omega) a ba cs z0 Sa0 SC hzc) f3 (by omega) (Or.inl (Nat.le_refl _)) (hw _ (List.mem_of_getElem? (i := 87) rfl)) (hw _ (List.mem_of_getElem? (i := 62) rfl)) (hw _ (List.mem_of_getElem? (i := 64) rfl)) (hw _ (List.mem_of_getElem? (i := 63) rfl)) (hw _ (List.mem_of_getElem? (i := 7) rfl)) (hw _ (List.mem_of_getElem? (i := 65) rfl)) (fun hZ => notFace_of_selects (args := #[]) (mvT hZ (hw _ (List.mem_of_getElem? (i := 64) rfl)))) (by decide) rfl (lenOf pd___rI rfl) (by decide) (W := 3) (Nat.le_of_eq rfl) (by decide) (by decide) (by decide) rfl ?_
  rintro _ h14_3 K14_3 ⟨rfl, rfl⟩
  rw [show Int32.ofNat cs.length = Int32.ofNat (cs.map own_lo).length by rw [List.length_map]]
  refine C.callS (b := h0.size) 20 [(.ref t), (.int x), (.int (0 : Int32)), (.int (Int32.ofNat (cs.map own_lo).length))] [] d17_17 (met_lio l Z a0 hw EL hEL h0.size bk h0 (by omega) (by omega) t x (cs.map own_lo) f6 q0 q) (by omega) (Or.inl (Nat.le_refl _)) (hw _ (List.mem_of_getElem? (i := 88) rfl)) (hw _ (List.mem_of_getElem? (i := 89) rfl)) (hw _ (List.mem_of_getElem? (i := 51) rfl)) (hw _ (List.mem_of_getElem? (i := 90) rfl)) (by decide) rfl (lenOf pd__ABIII_rI rfl) (by decide) (W := 0) (Nat.le_of_eq rfl) (by decide) (by decide) (by decide) rfl ?_
  rintro _ h17_4 K17_4 ⟨r, rfl, hr, rfl⟩
  refine C.goto 36 d17_20 (by decide) (by decide) ?_
  refine C.retI rfl d17_36 (by decide) (by decide) (Or.inl (Nat.le_refl _)) ?_
  exact ⟨r, rfl, hr.trans (own_mem q0 q f7), rfl⟩
theorem d18_0 : decode jdk_42_method_79_code 0 = .ok (.aload_n 0, 1) := by decide +kernel
theorem d18_1 : decode jdk_42_method_79_code 1 = .ok (.iload_n 1, 1) := by decide +kernel
theorem d18_2 : decode jdk_42_method_79_code 2 = .ok (.iconst 0, 1) := by decide +kernel
theorem d18_3 : decode jdk_42_method_79_code 3 = .ok (.invokevirtual 633, 3) := by decide +kernel
theorem d18_6 : decode jdk_42_method_79_code 6 = .ok (.ireturn, 1) := by decide +kernel
theorem ef_19 (m : MethodId) (x0 : Nat) (x1 : Int32) : entryFrame m #[(.ref x0), (.int x1)] 2 = mkF m 0 #[.val (.ref x0), .val (.int x1)] [] := by first | (simp [entryFrame, mkF, argsToLocals, Value.category]; done) | rfl
set_option maxRecDepth 65536 in
set_option maxHeartbeats 40000000 in
theorem met_io1 (l : Launch) (Z : State) (a0 : Array Value) (hw : ∀ d ∈ tables_1, d.before a0 Z = true) (EL : List (String × Nat)) (hEL : EW Z a0 EL) (n0 bk : Nat) (h0 : Heap) (hz0 : Z.heap.size ≤ n0) (hn0 : n0 ≤ h0.size) (a : Nat) (ba : Nat) (cs : List Int32) (x : Int32) (z0 : Int32) (Sa : Str Z h0 ba a cs) (q0 : ¬ x < 0) (q : ¬ 255 < x) (SC : Sta Z Z.heap "java/lang/String" "COMPACT_STRINGS" "Z" (.int z0)) (hzc : ¬ z0 = 0) : Met l Z EL (⟨"java/lang/String", "indexOf", "(I)I"⟩ : MethodName) jdk_42_method_79_code 2 (some .int) [] ({ frames := 3, cells := 0, slots := 0, locals := 46 } : Room) #[(.ref a), (.int x)] n0 bk h0 (fun _ => bk) (fun v h => ∃ r, v = some (.int r) ∧ (¬ r < 0 ↔ x ∈ cs) ∧ h0 = h) := by
  refine Met.intro (plainFor_of_name pn_0) (fun m => ef_19 m a x) hz0 hEL ?_
  intro p e s m below meth c C
  have Xa := Sa.exa
  refine C.aloadN 1 d18_0 rfl rfl ?_
  refine C.iloadN 2 d18_1 rfl ?_
  refine C.iconst 3 (0 : Int32) d18_2 (by decide) ?_
  refine C.callV (b := h0.size) 6 [(.int x), (.int (0 : Int32))] [] d18_3 (met_io2 l Z a0 hw EL hEL h0.size bk h0 (by omega) (by omega) a ba cs x z0 Sa q0 q SC hzc) Xa (by omega) (Or.inl (Nat.le_refl _)) (hw _ (List.mem_of_getElem? (i := 82) rfl)) (hw _ (List.mem_of_getElem? (i := 83) rfl)) (hw _ (List.mem_of_getElem? (i := 85) rfl)) (hw _ (List.mem_of_getElem? (i := 84) rfl)) (hw _ (List.mem_of_getElem? (i := 7) rfl)) (hw _ (List.mem_of_getElem? (i := 86) rfl)) (fun hZ => notFace_of_selects (args := #[]) (mvT hZ (hw _ (List.mem_of_getElem? (i := 85) rfl)))) (by decide) rfl (lenOf pd__II_rI rfl) (by decide) (W := 0) (Nat.le_of_eq rfl) (by decide) (by decide) (by decide) rfl ?_
  rintro _ h3_1 K3_1 ⟨r, rfl, hr, rfl⟩
  refine C.retI rfl d18_6 (by decide) (by decide) (Or.inl (Nat.le_refl _)) ?_
  exact ⟨r, rfl, hr, rfl⟩
theorem own_rng (x : Int32) : ¬ (x &&& 255) < 0 ∧ ¬ 255 < (x &&& 255) := by
  have q := c_mask x 255 8 (by decide) (by decide)
  rw [Int32.lt_iff_toInt_lt, Int32.lt_iff_toInt_lt]
  have e1 : (0 : Int32).toInt = 0 := rfl
  have e2 : (255 : Int32).toInt = 255 := by decide
  omega
def own_esc (x : Int32) : Prop := x = 123 ∨ x = 125 ∨ x = 36 ∨ x = 92
def own_en (cs : List Int32) (j : Nat) : Prop := cs[j]? = some 92 ∧ ∃ y, cs[j + 1]? = some y ∧ own_esc y
theorem own_idx (x : Int32) {ln : Nat} (h1 : 1 ≤ ln) (h2 : ln ≤ 4) : ∃ j, j < ln ∧ (x &&& 2147483647) % Int32.ofNat ln = Int32.ofNat j := by
  have q1 := c_mask x 2147483647 31 (by decide) (by decide)
  have e1 : (Int32.ofNat ln).toInt = ln := Int32.toInt_ofNat_small (by omega)
  have q2 := (c_irem (x &&& 2147483647) (Int32.ofNat ln) ln e1).1 (by omega)
  have b1 := Int.emod_nonneg (x &&& 2147483647).toInt (show (ln : Int) ≠ 0 by omega)
  have b2 := Int.emod_lt_of_pos (x &&& 2147483647).toInt (show (0 : Int) < ln by omega)
  refine ⟨((x &&& 2147483647).toInt % ln).toNat, by omega, ?_⟩
  rw [← Int32.toInt_inj, q2, Int32.toInt_ofNat_small (by omega)]
  omega
theorem own_nz {ln : Nat} (h1 : 1 ≤ ln) (h2 : ln ≤ 4) : Int32.ofNat ln ≠ 0 := fun e => by
  have := ((own_ofNat (show ln < 2147483648 by omega) (show 0 < 2147483648 by decide)).1.mp e)
  omega
theorem pn_4 : plainName "com/example/rules_for_records/rulesforrecords/messageinterpolation/MessageSyntaxEscapesNextPinLaw" = true := by first | (simp [plainName, overriddenIn]; done) | decide +kernel
theorem d19_0 : decode method_2_code 0 = .ok (.iload_n 0, 1) := by decide +kernel
theorem d19_1 : decode method_2_code 1 = .ok (.bipush 7, 2) := by decide +kernel
theorem d19_3 : decode method_2_code 3 = .ok (.iand, 1) := by decide +kernel
theorem d19_4 : decode method_2_code 4 = .ok (.istore_n 1, 1) := by decide +kernel
theorem d19_5 : decode method_2_code 5 = .ok (.iload_n 1, 1) := by decide +kernel
theorem d19_6 : decode method_2_code 6 = .ok (.ifCond .ne 6, 3) := by decide +kernel
theorem d19_9 : decode method_2_code 9 = .ok (.bipush 123, 2) := by decide +kernel
theorem d19_11 : decode method_2_code 11 = .ok (.ireturn, 1) := by decide +kernel
theorem d19_12 : decode method_2_code 12 = .ok (.iload_n 1, 1) := by decide +kernel
theorem d19_13 : decode method_2_code 13 = .ok (.iconst 1, 1) := by decide +kernel
theorem d19_14 : decode method_2_code 14 = .ok (.if_icmp .ne 6, 3) := by decide +kernel
theorem d19_17 : decode method_2_code 17 = .ok (.bipush 125, 2) := by decide +kernel
theorem d19_19 : decode method_2_code 19 = .ok (.ireturn, 1) := by decide +kernel
theorem d19_20 : decode method_2_code 20 = .ok (.iload_n 1, 1) := by decide +kernel
theorem d19_21 : decode method_2_code 21 = .ok (.iconst 2, 1) := by decide +kernel
theorem d19_22 : decode method_2_code 22 = .ok (.if_icmp .ne 6, 3) := by decide +kernel
theorem d19_25 : decode method_2_code 25 = .ok (.bipush 36, 2) := by decide +kernel
theorem d19_27 : decode method_2_code 27 = .ok (.ireturn, 1) := by decide +kernel
theorem d19_28 : decode method_2_code 28 = .ok (.iload_n 1, 1) := by decide +kernel
theorem d19_29 : decode method_2_code 29 = .ok (.iconst 3, 1) := by decide +kernel
theorem d19_30 : decode method_2_code 30 = .ok (.if_icmp .ne 6, 3) := by decide +kernel
theorem d19_33 : decode method_2_code 33 = .ok (.bipush 92, 2) := by decide +kernel
theorem d19_35 : decode method_2_code 35 = .ok (.ireturn, 1) := by decide +kernel
theorem d19_36 : decode method_2_code 36 = .ok (.iload_n 0, 1) := by decide +kernel
theorem d19_37 : decode method_2_code 37 = .ok (.iconst 3, 1) := by decide +kernel
theorem d19_38 : decode method_2_code 38 = .ok (.iushr, 1) := by decide +kernel
theorem d19_39 : decode method_2_code 39 = .ok (.sipush 255, 3) := by decide +kernel
theorem d19_42 : decode method_2_code 42 = .ok (.iand, 1) := by decide +kernel
theorem d19_43 : decode method_2_code 43 = .ok (.i2c, 1) := by decide +kernel
theorem d19_44 : decode method_2_code 44 = .ok (.ireturn, 1) := by decide +kernel
theorem ef_20 (m : MethodId) (x0 : Int32) : entryFrame m #[(.int x0)] 2 = mkF m 0 #[.val (.int x0), .unset] [] := by first | (simp [entryFrame, mkF, argsToLocals, Value.category]; done) | rfl
set_option maxRecDepth 65536 in
set_option maxHeartbeats 40000000 in
theorem met_draw (l : Launch) (Z : State) (a0 : Array Value) (hw : ∀ d ∈ tables_1, d.before a0 Z = true) (EL : List (String × Nat)) (hEL : EW Z a0 EL) (n0 bk : Nat) (h0 : Heap) (hz0 : Z.heap.size ≤ n0) (hn0 : n0 ≤ h0.size) (x : Int32) : Met l Z EL (⟨"com/example/rules_for_records/rulesforrecords/messageinterpolation/MessageSyntaxEscapesNextPinLaw", "draw", "(I)C"⟩ : MethodName) method_2_code 2 (some .char) [] ({ frames := 0, cells := 0, slots := 0, locals := 0 } : Room) #[(.int x)] n0 bk h0 (fun _ => bk) (fun v h => ∃ c_, v = some (.int c_) ∧ ¬ c_ < 0 ∧ ¬ 255 < c_ ∧ h0 = h) := by
  refine Met.intro (plainFor_of_name pn_4) (fun m => ef_20 m x) hz0 hEL ?_
  intro p e s m below meth c C
  refine C.iloadN 1 d19_0 rfl ?_
  refine C.bipush 3 (7 : Int32) d19_1 (by decide) ?_
  refine C.iand 4 d19_3 ?_
  refine C.istoreN 5 (L' := #[.val (.int x), .val (.int (x &&& (7 : Int32)))]) d19_4 rfl ?_
  refine C.iloadN 6 d19_5 rfl ?_
  rcases Decidable.em ((x &&& (7 : Int32)) = 0) with h6 | h6
  · skip
    refine C.ifN 9 d19_6 rfl (XT.i0_ne_f h6) ?_
    refine C.bipush 11 (123 : Int32) d19_9 (by decide) ?_
    refine C.retN (t := .char) rfl (by simp) d19_11 (by decide) (by decide) (Or.inl (Nat.le_refl _)) ?_
    exact ⟨_, rfl, by decide, by decide, rfl⟩
  · skip
    refine C.ifY 12 d19_6 (by decide) (by decide) (XT.i0_ne_t h6) ?_
    refine C.iloadN 13 d19_12 rfl ?_
    refine C.iconst 14 (1 : Int32) d19_13 (by decide) ?_
    rcases Decidable.em ((x &&& (7 : Int32)) = (1 : Int32)) with h14 | h14
    · skip
      refine C.icN 17 d19_14 rfl (XT.ii_ne_f h14) ?_
      refine C.bipush 19 (125 : Int32) d19_17 (by decide) ?_
      refine C.retN (t := .char) rfl (by simp) d19_19 (by decide) (by decide) (Or.inl (Nat.le_refl _)) ?_
      exact ⟨_, rfl, by decide, by decide, rfl⟩
    · skip
      refine C.icY 20 d19_14 (by decide) (by decide) (XT.ii_ne_t h14) ?_
      refine C.iloadN 21 d19_20 rfl ?_
      refine C.iconst 22 (2 : Int32) d19_21 (by decide) ?_
      rcases Decidable.em ((x &&& (7 : Int32)) = (2 : Int32)) with h22 | h22
      · skip
        refine C.icN 25 d19_22 rfl (XT.ii_ne_f h22) ?_
        refine C.bipush 27 (36 : Int32) d19_25 (by decide) ?_
        refine C.retN (t := .char) rfl (by simp) d19_27 (by decide) (by decide) (Or.inl (Nat.le_refl _)) ?_
        exact ⟨_, rfl, by decide, by decide, rfl⟩
      · skip
        refine C.icY 28 d19_22 (by decide) (by decide) (XT.ii_ne_t h22) ?_
        refine C.iloadN 29 d19_28 rfl ?_
        refine C.iconst 30 (3 : Int32) d19_29 (by decide) ?_
        rcases Decidable.em ((x &&& (7 : Int32)) = (3 : Int32)) with h30 | h30
        · skip
          refine C.icN 33 d19_30 rfl (XT.ii_ne_f h30) ?_
          refine C.bipush 35 (92 : Int32) d19_33 (by decide) ?_
          refine C.retN (t := .char) rfl (by simp) d19_35 (by decide) (by decide) (Or.inl (Nat.le_refl _)) ?_
          exact ⟨_, rfl, by decide, by decide, rfl⟩
        · skip
          refine C.icY 36 d19_30 (by decide) (by decide) (XT.ii_ne_t h30) ?_
          refine C.iloadN 37 d19_36 rfl ?_
          refine C.iconst 38 (3 : Int32) d19_37 (by decide) ?_
          refine C.iushr 39 d19_38 ?_
          refine C.sipush 42 (255 : Int32) d19_39 (by decide) ?_
          refine C.iand 43 d19_42 ?_
          refine C.i2c 44 d19_43 ?_
          refine C.retN (t := .char) rfl (by simp) d19_44 (by decide) (by decide) (Or.inl (Nat.le_refl _)) ?_
          obtain ⟨q1, q2⟩ := own_rng (XT.ushr x 3)
          refine ⟨XT.ushr x 3 &&& 255, ?_, q1, q2, rfl⟩
          rw [own_c0 q1 q2]
          exact congrArg (fun z => some (Value.int z)) (own_c0 q1 q2)
theorem d20_0 : decode method_3_code 0 = .ok (.iload_n 0, 1) := by decide +kernel
theorem d20_1 : decode method_3_code 1 = .ok (.bipush 123, 2) := by decide +kernel
theorem d20_3 : decode method_3_code 3 = .ok (.if_icmp .eq 21, 3) := by decide +kernel
theorem d20_6 : decode method_3_code 6 = .ok (.iload_n 0, 1) := by decide +kernel
theorem d20_7 : decode method_3_code 7 = .ok (.bipush 125, 2) := by decide +kernel
theorem d20_9 : decode method_3_code 9 = .ok (.if_icmp .eq 15, 3) := by decide +kernel
theorem d20_12 : decode method_3_code 12 = .ok (.iload_n 0, 1) := by decide +kernel
theorem d20_13 : decode method_3_code 13 = .ok (.bipush 36, 2) := by decide +kernel
theorem d20_15 : decode method_3_code 15 = .ok (.if_icmp .eq 9, 3) := by decide +kernel
theorem d20_18 : decode method_3_code 18 = .ok (.iload_n 0, 1) := by decide +kernel
theorem d20_19 : decode method_3_code 19 = .ok (.bipush 92, 2) := by decide +kernel
theorem d20_21 : decode method_3_code 21 = .ok (.if_icmp .ne 7, 3) := by decide +kernel
theorem d20_24 : decode method_3_code 24 = .ok (.iconst 1, 1) := by decide +kernel
theorem d20_25 : decode method_3_code 25 = .ok (.goto 4, 3) := by decide +kernel
theorem d20_28 : decode method_3_code 28 = .ok (.iconst 0, 1) := by decide +kernel
theorem d20_29 : decode method_3_code 29 = .ok (.ireturn, 1) := by decide +kernel
theorem ef_21 (m : MethodId) (x0 : Int32) : entryFrame m #[(.int x0)] 1 = mkF m 0 #[.val (.int x0)] [] := by first | (simp [entryFrame, mkF, argsToLocals, Value.category]; done) | rfl
set_option maxRecDepth 65536 in
set_option maxHeartbeats 40000000 in
theorem met_esc (l : Launch) (Z : State) (a0 : Array Value) (hw : ∀ d ∈ tables_1, d.before a0 Z = true) (EL : List (String × Nat)) (hEL : EW Z a0 EL) (n0 bk : Nat) (h0 : Heap) (hz0 : Z.heap.size ≤ n0) (hn0 : n0 ≤ h0.size) (x : Int32) : Met l Z EL (⟨"com/example/rules_for_records/rulesforrecords/messageinterpolation/MessageSyntaxEscapesNextPinLaw", "escapable", "(C)Z"⟩ : MethodName) method_3_code 1 (some .boolean) [] ({ frames := 0, cells := 0, slots := 0, locals := 0 } : Room) #[(.int x)] n0 bk h0 (fun _ => bk) (fun v h => ∃ r, v = some (.int r) ∧ OB r (own_esc x) ∧ h0 = h) := by
  refine Met.intro (plainFor_of_name pn_4) (fun m => ef_21 m x) hz0 hEL ?_
  intro p e s m below meth c C
  refine C.iloadN 1 d20_0 rfl ?_
  refine C.bipush 3 (123 : Int32) d20_1 (by decide) ?_
  rcases Decidable.em (x = (123 : Int32)) with h3 | h3
  · skip
    refine C.icY 24 d20_3 (by decide) (by decide) (XT.ii_eq_t h3) ?_
    refine C.iconst 25 (1 : Int32) d20_24 (by decide) ?_
    refine C.goto 29 d20_25 (by decide) (by decide) ?_
    refine C.retN (t := .boolean) rfl (by simp) d20_29 (by decide) (by decide) (Or.inl (Nat.le_refl _)) ?_
    exact ⟨1, rfl, Or.inl ⟨rfl, Or.inl h3⟩, rfl⟩
  · skip
    refine C.icN 6 d20_3 rfl (XT.ii_eq_f h3) ?_
    refine C.iloadN 7 d20_6 rfl ?_
    refine C.bipush 9 (125 : Int32) d20_7 (by decide) ?_
    rcases Decidable.em (x = (125 : Int32)) with h9 | h9
    · skip
      refine C.icY 24 d20_9 (by decide) (by decide) (XT.ii_eq_t h9) ?_
      refine C.iconst 25 (1 : Int32) d20_24 (by decide) ?_
      refine C.goto 29 d20_25 (by decide) (by decide) ?_
      refine C.retN (t := .boolean) rfl (by simp) d20_29 (by decide) (by decide) (Or.inl (Nat.le_refl _)) ?_
      exact ⟨1, rfl, Or.inl ⟨rfl, Or.inr (Or.inl h9)⟩, rfl⟩
    · skip
      refine C.icN 12 d20_9 rfl (XT.ii_eq_f h9) ?_
      refine C.iloadN 13 d20_12 rfl ?_
      refine C.bipush 15 (36 : Int32) d20_13 (by decide) ?_
      rcases Decidable.em (x = (36 : Int32)) with h15 | h15
      · skip
        refine C.icY 24 d20_15 (by decide) (by decide) (XT.ii_eq_t h15) ?_
        refine C.iconst 25 (1 : Int32) d20_24 (by decide) ?_
        refine C.goto 29 d20_25 (by decide) (by decide) ?_
        refine C.retN (t := .boolean) rfl (by simp) d20_29 (by decide) (by decide) (Or.inl (Nat.le_refl _)) ?_
        exact ⟨1, rfl, Or.inl ⟨rfl, Or.inr (Or.inr (Or.inl h15))⟩, rfl⟩
      · skip
        refine C.icN 18 d20_15 rfl (XT.ii_eq_f h15) ?_
        refine C.iloadN 19 d20_18 rfl ?_
        refine C.bipush 21 (92 : Int32) d20_19 (by decide) ?_
        rcases Decidable.em (x = (92 : Int32)) with h21 | h21
        · skip
          refine C.icN 24 d20_21 rfl (XT.ii_ne_f h21) ?_
          refine C.iconst 25 (1 : Int32) d20_24 (by decide) ?_
          refine C.goto 29 d20_25 (by decide) (by decide) ?_
          refine C.retN (t := .boolean) rfl (by simp) d20_29 (by decide) (by decide) (Or.inl (Nat.le_refl _)) ?_
          exact ⟨1, rfl, Or.inl ⟨rfl, Or.inr (Or.inr (Or.inr h21))⟩, rfl⟩
        · skip
          refine C.icY 28 d20_21 (by decide) (by decide) (XT.ii_ne_t h21) ?_
          refine C.iconst 29 (0 : Int32) d20_28 (by decide) ?_
          refine C.retN (t := .boolean) rfl (by simp) d20_29 (by decide) (by decide) (Or.inl (Nat.le_refl _)) ?_
          exact ⟨0, rfl, Or.inr ⟨rfl, fun q => q.elim h3 fun q => q.elim h9 fun q => q.elim h15 h21⟩, rfl⟩
theorem pn_5 : plainName "com/example/rules_for_records/rulesforrecords/messageinterpolation/MessageSyntax" = true := by first | (simp [plainName, overriddenIn]; done) | decide +kernel
theorem pd__I_rC : parseMethodDescriptor "(I)C" = some ⟨[.int], some .char⟩ := by decide +kernel
theorem pd__I_rI : parseMethodDescriptor "(I)I" = some ⟨[.int], some .int⟩ := by decide +kernel
theorem d21_0 : decode prog_14_method_2_code 0 = .ok (.aload_n 0, 1) := by decide +kernel
theorem d21_1 : decode prog_14_method_2_code 1 = .ok (.iload_n 1, 1) := by decide +kernel
theorem d21_2 : decode prog_14_method_2_code 2 = .ok (.invokevirtual 7, 3) := by decide +kernel
theorem d21_5 : decode prog_14_method_2_code 5 = .ok (.bipush 92, 2) := by decide +kernel
theorem d21_7 : decode prog_14_method_2_code 7 = .ok (.if_icmp .ne 32, 3) := by decide +kernel
theorem d21_10 : decode prog_14_method_2_code 10 = .ok (.iload_n 1, 1) := by decide +kernel
theorem d21_11 : decode prog_14_method_2_code 11 = .ok (.iconst 1, 1) := by decide +kernel
theorem d21_12 : decode prog_14_method_2_code 12 = .ok (.iadd, 1) := by decide +kernel
theorem d21_13 : decode prog_14_method_2_code 13 = .ok (.aload_n 0, 1) := by decide +kernel
theorem d21_14 : decode prog_14_method_2_code 14 = .ok (.invokevirtual 13, 3) := by decide +kernel
theorem d21_17 : decode prog_14_method_2_code 17 = .ok (.if_icmp .ge 22, 3) := by decide +kernel
theorem d21_20 : decode prog_14_method_2_code 20 = .ok (.ldc 19, 2) := by decide +kernel
theorem d21_22 : decode prog_14_method_2_code 22 = .ok (.aload_n 0, 1) := by decide +kernel
theorem d21_23 : decode prog_14_method_2_code 23 = .ok (.iload_n 1, 1) := by decide +kernel
theorem d21_24 : decode prog_14_method_2_code 24 = .ok (.iconst 1, 1) := by decide +kernel
theorem d21_25 : decode prog_14_method_2_code 25 = .ok (.iadd, 1) := by decide +kernel
theorem d21_26 : decode prog_14_method_2_code 26 = .ok (.invokevirtual 7, 3) := by decide +kernel
theorem d21_29 : decode prog_14_method_2_code 29 = .ok (.invokevirtual 21, 3) := by decide +kernel
theorem d21_32 : decode prog_14_method_2_code 32 = .ok (.ifCond .lt 7, 3) := by decide +kernel
theorem d21_35 : decode prog_14_method_2_code 35 = .ok (.iconst 1, 1) := by decide +kernel
theorem d21_36 : decode prog_14_method_2_code 36 = .ok (.goto 4, 3) := by decide +kernel
theorem d21_39 : decode prog_14_method_2_code 39 = .ok (.iconst 0, 1) := by decide +kernel
theorem d21_40 : decode prog_14_method_2_code 40 = .ok (.ireturn, 1) := by decide +kernel
theorem ef_22 (m : MethodId) (x0 : Nat) (x1 : Int32) : entryFrame m #[(.ref x0), (.int x1)] 2 = mkF m 0 #[.val (.ref x0), .val (.int x1)] [] := by first | (simp [entryFrame, mkF, argsToLocals, Value.category]; done) | rfl
set_option maxRecDepth 65536 in
set_option maxHeartbeats 40000000 in
theorem met_en (l : Launch) (Z : State) (a0 : Array Value) (hw : ∀ d ∈ tables_1, d.before a0 Z = true) (EL : List (String × Nat)) (hEL : EW Z a0 EL) (n0 bk : Nat) (h0 : Heap) (hz0 : Z.heap.size ≤ n0) (hn0 : n0 ≤ h0.size) (s_ : Nat) (ba : Nat) (cs : List Int32) (j : Nat) (x1 : Int32) (z0 : Int32) (fm : Value) (Sa : Str Z h0 ba s_ cs) (hx : cs[j]? = some x1) (hl : cs.length ≤ 4) (SC : Sta Z Z.heap "java/lang/String" "COMPACT_STRINGS" "Z" (.int z0)) (hzc : ¬ z0 = 0) (hfm : fm.isRef = true) (SF : Sta Z Z.heap "jdk/internal/util/Preconditions" "SIOOBE_FORMATTER" "Ljava/util/function/BiFunction;" fm) (wS : ∀ a ∈ Bundle.stringAtoms, a.before a0 Z = true) (hmem : ("com/example/rules_for_records/rulesforrecords/messageinterpolation/MessageSyntax", 19) ∈ EL) : Met l Z EL (⟨"com/example/rules_for_records/rulesforrecords/messageinterpolation/MessageSyntax", "escapesNext", "(Ljava/lang/String;I)Z"⟩ : MethodName) prog_14_method_2_code 2 (some .boolean) [] ({ frames := 4, cells := 2, slots := 20, locals := 59 } : Room) #[(.ref s_), (.int (Int32.ofNat j))] n0 bk h0 (fun h => h.size) (fun v h => ∃ r, v = some (.int r) ∧ OB r (own_en cs j)) := by
  refine Met.intro (plainFor_of_name pn_5) (fun m => ef_22 m s_ (Int32.ofNat j)) hz0 hEL ?_
  intro p e s m below meth c C
  have Xs := Sa.exa
  have hj : j < cs.length := (List.getElem?_eq_some_iff.mp hx).1
  have lts : s_ < ba := by obtain ⟨t, f1, r⟩ := Sa; exact f1
  refine C.aloadN 1 d21_0 rfl rfl ?_
  refine C.iloadN 2 d21_1 rfl ?_
  refine C.callV (b := h0.size) 5 [(.int (Int32.ofNat j))] [] d21_2 (met_cha l Z a0 hw EL hEL h0.size bk h0 (by omega) (by omega) s_ ba cs j x1 z0 fm Sa hx SC hzc hfm SF) Xs (by omega) (Or.inl (Nat.le_refl _)) (hw _ (List.mem_of_getElem? (i := 39) rfl)) (hw _ (List.mem_of_getElem? (i := 40) rfl)) (hw _ (List.mem_of_getElem? (i := 42) rfl)) (hw _ (List.mem_of_getElem? (i := 41) rfl)) (hw _ (List.mem_of_getElem? (i := 7) rfl)) (hw _ (List.mem_of_getElem? (i := 43) rfl)) (fun hZ => notFace_of_selects (args := #[]) (mvT hZ (hw _ (List.mem_of_getElem? (i := 42) rfl)))) (by decide) rfl (lenOf pd__I_rC rfl) (by decide) (W := 0) (Nat.le_of_eq rfl) (by decide) (by decide) (by decide) rfl ?_
  rintro _ h2_1 K2_1 ⟨rfl, rfl⟩
  refine C.bipush 7 (92 : Int32) d21_5 (by decide) ?_
  rcases Decidable.em (x1 = (92 : Int32)) with h7 | h7
  · skip
    refine C.icN 10 d21_7 rfl (XT.ii_ne_f h7) ?_
    refine C.iloadN 11 d21_10 rfl ?_
    refine C.iconst 12 (1 : Int32) d21_11 (by decide) ?_
    refine C.iadd 13 d21_12 ?_
    refine C.aloadN 14 d21_13 rfl rfl ?_
    refine C.callV (b := h0.size) 17 [] [(.int ((Int32.ofNat j) + (1 : Int32)))] d21_14 (met_len l Z a0 hw EL hEL h0.size bk h0 (by omega) (by omega) s_ ba cs z0 Sa SC hzc) Xs (by omega) (Or.inl (Nat.le_refl _)) (hw _ (List.mem_of_getElem? (i := 61) rfl)) (hw _ (List.mem_of_getElem? (i := 62) rfl)) (hw _ (List.mem_of_getElem? (i := 64) rfl)) (hw _ (List.mem_of_getElem? (i := 63) rfl)) (hw _ (List.mem_of_getElem? (i := 7) rfl)) (hw _ (List.mem_of_getElem? (i := 65) rfl)) (fun hZ => notFace_of_selects (args := #[]) (mvT hZ (hw _ (List.mem_of_getElem? (i := 64) rfl)))) (by decide) rfl (lenOf pd___rI rfl) (by decide) (W := 1) (Nat.le_of_eq rfl) (by decide) (by decide) (by decide) rfl ?_
    rintro _ h14_2 K14_2 ⟨rfl, rfl⟩
    rcases Decidable.em (((Int32.ofNat j) + (1 : Int32)) < (Int32.ofNat cs.length)) with h17 | h17
    · skip
      refine C.icN 20 d21_17 rfl (XT.ii_ge_f h17) ?_
      rw [own_succ j] at h17
      have hlt : j + 1 < cs.length := (own_ofNat (by omega) (by omega)).2.mp h17
      obtain ⟨x2, hx2⟩ : ∃ y, cs[j + 1]? = some y := ⟨_, List.getElem?_eq_getElem hlt⟩
      have hc2 : ¬ x2 < 0 ∧ ¬ 255 < x2 := by obtain ⟨t, f1, f2, f3, f4, f5, f6, f7⟩ := Sa; exact f7 x2 (List.mem_of_getElem? hx2)
      refine C.ldcT (nn := 16) (vs := (([123, 125, 36, 92] : List Int32).map own_lo).map Value.int) (z := Int32.ofNat (([123, 125, 36, 92] : List Int32).map own_lo).length) 22 d21_20 (hw _ (List.mem_of_getElem? (i := 74) rfl)) wS hmem ⟨by decide, by decide⟩ (by decide) (by decide) (by decide) (by decide) (by decide) (by decide) ?_
      intro al t1 kb1 h1 E1 A1 B1 V1 W1
      have sz_h1 : h0.size ≤ h1.size := E1.1
      replace Sa := Sa.ext E1
      have S1 : Str Z h1 h1.size al [123, 125, 36, 92] := Str.lit A1 B1 V1 W1 (by decide) (by decide)
      have Sl := S1
      refine C.aloadN 23 d21_22 rfl rfl ?_
      refine C.iloadN 24 d21_23 rfl ?_
      refine C.iconst 25 (1 : Int32) d21_24 (by decide) ?_
      refine C.iadd 26 d21_25 ?_
      rw [own_succ j]
      refine C.callV (b := h1.size) 29 [(.int (Int32.ofNat (j + 1)))] [(.ref al)] d21_26 (met_cha l Z a0 hw EL hEL h1.size h1.size h1 (by omega) (by omega) s_ ba cs (j + 1) x2 z0 fm Sa hx2 SC hzc hfm SF) Sa.exa (by omega) (Or.inr (Nat.le_refl _)) (hw _ (List.mem_of_getElem? (i := 39) rfl)) (hw _ (List.mem_of_getElem? (i := 40) rfl)) (hw _ (List.mem_of_getElem? (i := 42) rfl)) (hw _ (List.mem_of_getElem? (i := 41) rfl)) (hw _ (List.mem_of_getElem? (i := 7) rfl)) (hw _ (List.mem_of_getElem? (i := 43) rfl)) (fun hZ => notFace_of_selects (args := #[]) (mvT hZ (hw _ (List.mem_of_getElem? (i := 42) rfl)))) (by decide) rfl (lenOf pd__I_rC rfl) (by decide) (W := 1) (Nat.le_of_eq rfl) (by decide) (by decide) (by decide) rfl ?_
      rintro _ h26_4 K26_4 ⟨rfl, rfl⟩
      refine C.callV (b := h1.size) 32 [(.int x2)] [] d21_29 (met_io1 l Z a0 hw EL hEL h1.size h1.size h1 (by omega) (by omega) al _ _ x2 z0 Sl hc2.1 hc2.2 SC hzc) Sl.exa (by omega) (Or.inr (Nat.le_refl _)) (hw _ (List.mem_of_getElem? (i := 77) rfl)) (hw _ (List.mem_of_getElem? (i := 78) rfl)) (hw _ (List.mem_of_getElem? (i := 80) rfl)) (hw _ (List.mem_of_getElem? (i := 79) rfl)) (hw _ (List.mem_of_getElem? (i := 7) rfl)) (hw _ (List.mem_of_getElem? (i := 81) rfl)) (fun hZ => notFace_of_selects (args := #[]) (mvT hZ (hw _ (List.mem_of_getElem? (i := 80) rfl)))) (by decide) rfl (lenOf pd__I_rI rfl) (by decide) (W := 0) (Nat.le_of_eq rfl) (by decide) (by decide) (by decide) rfl ?_
      rintro _ h29_5 K29_5 ⟨r, rfl, hr, rfl⟩
      rcases Decidable.em (r < 0) with h32 | h32
      · skip
        refine C.ifY 39 d21_32 (by decide) (by decide) (XT.i0_lt_t h32) ?_
        refine C.iconst 40 (0 : Int32) d21_39 (by decide) ?_
        refine C.retN (t := .boolean) rfl (by simp) d21_40 (by decide) (by decide) (Or.inr (Nat.le_refl _)) ?_
        exact ⟨0, rfl, Or.inr ⟨rfl, fun q => by obtain ⟨y, e, q⟩ := q.2; cases hx2.symm.trans e; exact absurd h32 (hr.mpr (by simpa [own_esc] using q))⟩⟩
      · skip
        refine C.ifN 35 d21_32 rfl (XT.i0_lt_f h32) ?_
        refine C.iconst 36 (1 : Int32) d21_35 (by decide) ?_
        refine C.goto 40 d21_36 (by decide) (by decide) ?_
        refine C.retN (t := .boolean) rfl (by simp) d21_40 (by decide) (by decide) (Or.inr (Nat.le_refl _)) ?_
        exact ⟨1, rfl, Or.inl ⟨rfl, by rw [← h7]; exact hx, x2, hx2, by simpa [own_esc] using hr.mp h32⟩⟩
    · skip
      refine C.icY 39 d21_17 (by decide) (by decide) (XT.ii_ge_t h17) ?_
      rw [own_succ j] at h17
      have hge : ¬ j + 1 < cs.length := fun q => h17 ((own_ofNat (by omega) (by omega)).2.mpr q)
      refine C.iconst 40 (0 : Int32) d21_39 (by decide) ?_
      refine C.retN (t := .boolean) rfl (by simp) d21_40 (by decide) (by decide) (Or.inr (Nat.le_refl _)) ?_
      exact ⟨0, rfl, Or.inr ⟨rfl, fun q => by obtain ⟨y, e, -⟩ := q.2; rw [List.getElem?_eq_none (by omega)] at e; cases e⟩⟩
  · skip
    refine C.icY 39 d21_7 (by decide) (by decide) (XT.ii_ne_t h7) ?_
    refine C.iconst 40 (0 : Int32) d21_39 (by decide) ?_
    refine C.retN (t := .boolean) rfl (by simp) d21_40 (by decide) (by decide) (Or.inr (Nat.le_refl _)) ?_
    exact ⟨0, rfl, Or.inr ⟨rfl, fun q => h7 (Option.some.inj (hx.symm.trans q.1))⟩⟩
theorem own_fitc {x : Int32} (h1 : ¬ x < 0) (h2 : ¬ 255 < x) : fits .char (.int x) = true := by
  have q := fits_nar_char x
  rw [show nar .char x = x from own_c0 h1 h2] at q; exact q
theorem pd__C_rZ : parseMethodDescriptor "(C)Z" = some ⟨[.char], some .boolean⟩ := by decide +kernel
theorem pd__Ljava_lang_StringI_rZ : parseMethodDescriptor "(Ljava/lang/String;I)Z" = some ⟨[(.object "java/lang/String"), .int], some .boolean⟩ := by decide +kernel
theorem pd__AC_rV : parseMethodDescriptor "([C)V" = some ⟨[(.array .char)], none⟩ := by decide +kernel
theorem ef_23 (m : MethodId) (x0 : Int32) (x1 : Int32) (x2 : Int32) (x3 : Int32) (x4 : Int32) (x5 : Int32) : entryFrame m #[(.int x0), (.int x1), (.int x2), (.int x3), (.int x4), (.int x5)] maxLocals = mkF m 0 #[.val (.int x0), .val (.int x1), .val (.int x2), .val (.int x3), .val (.int x4), .val (.int x5), .unset, .unset, .unset, .unset, .unset, .unset, .unset, .unset, .unset, .unset] [] := by first | (simp [entryFrame, mkF, argsToLocals, Value.category, maxLocals]; done) | rfl
set_option maxRecDepth 65536 in
set_option maxHeartbeats 40000000 in
theorem met_law (l : Launch) (Z : State) (a0 : Array Value) (hw : ∀ d ∈ tables_1, d.before a0 Z = true) (EL : List (String × Nat)) (hEL : EW Z a0 EL) (n0 bk : Nat) (h0 : Heap) (hz0 : Z.heap.size ≤ n0) (hn0 : n0 ≤ h0.size) (i0 : Int32) (i1 : Int32) (i2 : Int32) (i3 : Int32) (i4 : Int32) (i5 : Int32) (z0 : Int32) (fm : Value) (SC : Sta Z Z.heap "java/lang/String" "COMPACT_STRINGS" "Z" (.int z0)) (hzc : ¬ z0 = 0) (hfm : fm.isRef = true) (SF : Sta Z Z.heap "jdk/internal/util/Preconditions" "SIOOBE_FORMATTER" "Ljava/util/function/BiFunction;" fm) (wS : ∀ a ∈ Bundle.stringAtoms, a.before a0 Z = true) (hmem : ("com/example/rules_for_records/rulesforrecords/messageinterpolation/MessageSyntax", 19) ∈ EL) (hbk : bk ≤ h0.size) : Met l Z EL x code maxLocals ret tables_1 room_1 #[(.int i0), (.int i1), (.int i2), (.int i3), (.int i4), (.int i5)] n0 bk h0 (fun h => h.size) (fun v h => v = some (.int 1)) := by
  refine Met.intro (plainFor_of_name pn_4) (fun m => ef_23 m i0 i1 i2 i3 i4 i5) hz0 hEL ?_
  intro p e s m below meth c C
  refine C.iloadN 1 at_0 rfl ?_
  refine C.callS (b := h0.size) 4 [(.int i0)] [] at_1 (met_draw l Z a0 hw EL hEL h0.size bk h0 (by omega) (by omega) i0) (by omega) (Or.inl (Nat.le_refl _)) (hw _ (List.mem_of_getElem? (i := 0) rfl)) (hw _ (List.mem_of_getElem? (i := 1) rfl)) (hw _ (List.mem_of_getElem? (i := 2) rfl)) (hw _ (List.mem_of_getElem? (i := 3) rfl)) (by decide) rfl (lenOf pd__I_rC rfl) (by decide) (W := 0) (Nat.le_of_eq rfl) (by decide) (by decide) (by decide) rfl ?_
  rintro _ h1_1 K1_1 ⟨ca, rfl, p0, q0, rfl⟩
  refine C.istore 6 (L' := #[.val (.int i0), .val (.int i1), .val (.int i2), .val (.int i3), .val (.int i4), .val (.int i5), .val (.int ca), .unset, .unset, .unset, .unset, .unset, .unset, .unset, .unset, .unset]) at_4 rfl ?_
  refine C.iloadN 7 at_6 rfl ?_
  refine C.callS (b := h0.size) 10 [(.int i1)] [] at_7 (met_draw l Z a0 hw EL hEL h0.size bk h0 (by omega) (by omega) i1) (by omega) (Or.inl (Nat.le_refl _)) (hw _ (List.mem_of_getElem? (i := 0) rfl)) (hw _ (List.mem_of_getElem? (i := 1) rfl)) (hw _ (List.mem_of_getElem? (i := 2) rfl)) (hw _ (List.mem_of_getElem? (i := 3) rfl)) (by decide) rfl (lenOf pd__I_rC rfl) (by decide) (W := 0) (Nat.le_of_eq rfl) (by decide) (by decide) (by decide) rfl ?_
  rintro _ h7_2 K7_2 ⟨cb, rfl, p1, q1, rfl⟩
  refine C.istore 12 (L' := #[.val (.int i0), .val (.int i1), .val (.int i2), .val (.int i3), .val (.int i4), .val (.int i5), .val (.int ca), .val (.int cb), .unset, .unset, .unset, .unset, .unset, .unset, .unset, .unset]) at_10 rfl ?_
  refine C.iloadN 13 at_12 rfl ?_
  refine C.callS (b := h0.size) 16 [(.int i2)] [] at_13 (met_draw l Z a0 hw EL hEL h0.size bk h0 (by omega) (by omega) i2) (by omega) (Or.inl (Nat.le_refl _)) (hw _ (List.mem_of_getElem? (i := 0) rfl)) (hw _ (List.mem_of_getElem? (i := 1) rfl)) (hw _ (List.mem_of_getElem? (i := 2) rfl)) (hw _ (List.mem_of_getElem? (i := 3) rfl)) (by decide) rfl (lenOf pd__I_rC rfl) (by decide) (W := 0) (Nat.le_of_eq rfl) (by decide) (by decide) (by decide) rfl ?_
  rintro _ h13_3 K13_3 ⟨cc, rfl, p2, q2, rfl⟩
  refine C.istore 18 (L' := #[.val (.int i0), .val (.int i1), .val (.int i2), .val (.int i3), .val (.int i4), .val (.int i5), .val (.int ca), .val (.int cb), .val (.int cc), .unset, .unset, .unset, .unset, .unset, .unset, .unset]) at_16 rfl ?_
  refine C.iloadN 19 at_18 rfl ?_
  refine C.callS (b := h0.size) 22 [(.int i3)] [] at_19 (met_draw l Z a0 hw EL hEL h0.size bk h0 (by omega) (by omega) i3) (by omega) (Or.inl (Nat.le_refl _)) (hw _ (List.mem_of_getElem? (i := 0) rfl)) (hw _ (List.mem_of_getElem? (i := 1) rfl)) (hw _ (List.mem_of_getElem? (i := 2) rfl)) (hw _ (List.mem_of_getElem? (i := 3) rfl)) (by decide) rfl (lenOf pd__I_rC rfl) (by decide) (W := 0) (Nat.le_of_eq rfl) (by decide) (by decide) (by decide) rfl ?_
  rintro _ h19_4 K19_4 ⟨cd_, rfl, p3, q3, rfl⟩
  refine C.istore 24 (L' := #[.val (.int i0), .val (.int i1), .val (.int i2), .val (.int i3), .val (.int i4), .val (.int i5), .val (.int ca), .val (.int cb), .val (.int cc), .val (.int cd_), .unset, .unset, .unset, .unset, .unset, .unset]) at_22 rfl ?_
  refine C.iconst 25 (4 : Int32) at_24 (by decide) ?_
  refine C.newarr (zn := 4) (cap := 4) 27 at_25 (hw _ (List.mem_of_getElem? (i := 4) rfl)) rfl (by decide) (by decide) rfl (by decide) (by decide) (by decide) ?_
  intro al hal g_al Eal R_al
  replace R_al : Ar Z hal al .char [0, 0, 0, 0] := R_al
  have lt_al : al < hal.size := R_al.lt
  have sz_hal : h0.size ≤ hal.size := Eal.1
  refine C.dup 28 at_27 rfl ?_
  refine C.iconst 29 (0 : Int32) at_28 (by decide) ?_
  refine C.iload 31 at_29 rfl ?_
  refine C.castore 32 0 at_31 R_al rfl (by simp) (by rw [show nar .char ca = ca from own_c0 p0 q0]; exact own_fitc p0 q0) (by omega) (Or.inr (Or.inr ⟨_, _, R_al, by decide⟩)) ?_
  intro h31_6 W31_6 N31_6
  have sz_h31_6 : hal.size ≤ h31_6.size := (Nat.le_of_eq W31_6.size.symm)
  replace R_al : Ar Z h31_6 al .char [ca, 0, 0, 0] := (by have q := N31_6; rw [show nar .char ca = ca from own_c0 p0 q0] at q; exact q)
  refine C.dup 33 at_32 rfl ?_
  refine C.iconst 34 (1 : Int32) at_33 (by decide) ?_
  refine C.iload 36 at_34 rfl ?_
  refine C.castore 37 1 at_36 R_al rfl (by simp) (by rw [show nar .char cb = cb from own_c0 p1 q1]; exact own_fitc p1 q1) (by omega) (Or.inr (Or.inr ⟨_, _, R_al, by decide⟩)) ?_
  intro h36_7 W36_7 N36_7
  have sz_h36_7 : h31_6.size ≤ h36_7.size := (Nat.le_of_eq W36_7.size.symm)
  replace R_al : Ar Z h36_7 al .char [ca, cb, 0, 0] := (by have q := N36_7; rw [show nar .char cb = cb from own_c0 p1 q1] at q; exact q)
  refine C.dup 38 at_37 rfl ?_
  refine C.iconst 39 (2 : Int32) at_38 (by decide) ?_
  refine C.iload 41 at_39 rfl ?_
  refine C.castore 42 2 at_41 R_al rfl (by simp) (by rw [show nar .char cc = cc from own_c0 p2 q2]; exact own_fitc p2 q2) (by omega) (Or.inr (Or.inr ⟨_, _, R_al, by decide⟩)) ?_
  intro h41_8 W41_8 N41_8
  have sz_h41_8 : h36_7.size ≤ h41_8.size := (Nat.le_of_eq W41_8.size.symm)
  replace R_al : Ar Z h41_8 al .char [ca, cb, cc, 0] := (by have q := N41_8; rw [show nar .char cc = cc from own_c0 p2 q2] at q; exact q)
  refine C.dup 43 at_42 rfl ?_
  refine C.iconst 44 (3 : Int32) at_43 (by decide) ?_
  refine C.iload 46 at_44 rfl ?_
  refine C.castore 47 3 at_46 R_al rfl (by simp) (by rw [show nar .char cd_ = cd_ from own_c0 p3 q3]; exact own_fitc p3 q3) (by omega) (Or.inr (Or.inr ⟨_, _, R_al, by decide⟩)) ?_
  intro h46_9 W46_9 N46_9
  have sz_h46_9 : h41_8.size ≤ h46_9.size := (Nat.le_of_eq W46_9.size.symm)
  replace R_al : Ar Z h46_9 al .char [ca, cb, cc, cd_] := (by have q := N46_9; rw [show nar .char cd_ = cd_ from own_c0 p3 q3] at q; exact q)
  refine C.astore 49 (L' := #[.val (.int i0), .val (.int i1), .val (.int i2), .val (.int i3), .val (.int i4), .val (.int i5), .val (.int ca), .val (.int cb), .val (.int cc), .val (.int cd_), .val (.ref al), .unset, .unset, .unset, .unset, .unset]) at_47 rfl rfl ?_
  refine C.iconst 50 (1 : Int32) at_49 (by decide) ?_
  refine C.iload 52 at_50 rfl ?_
  refine C.iconst 53 (3 : Int32) at_52 (by decide) ?_
  refine C.iand 54 at_53 ?_
  refine C.iadd 55 at_54 ?_
  generalize hl0 : ((1 : Int32) + (i4 &&& (3 : Int32))) = l0
  refine C.istore 57 (L' := #[.val (.int i0), .val (.int i1), .val (.int i2), .val (.int i3), .val (.int i4), .val (.int i5), .val (.int ca), .val (.int cb), .val (.int cc), .val (.int cd_), .val (.ref al), .val (.int l0), .unset, .unset, .unset, .unset]) at_55 rfl ?_
  have L182 : ∀ (s_ : Nat) (hh : Heap) (ln : Nat), (l0 = Int32.ofNat ln) → (1 ≤ ln) → (ln ≤ 4) → (Str Z hh hh.size s_ ([ca, cb, cc, cd_].take ln)) → (Ar Z hh al .char [ca, cb, cc, cd_]) → (h0.size ≤ hh.size) → Go p l e room_1 s m #[(.int i0), (.int i1), (.int i2), (.int i3), (.int i4), (.int i5)] below meth c Z x.cls EL n0 (fun h => h.size) (fun v h => v = some (.int 1)) bk hh 4 16 182 #[.val (.int i0), .val (.int i1), .val (.int i2), .val (.int i3), .val (.int i4), .val (.int i5), .val (.int ca), .val (.int cb), .val (.int cc), .val (.int cd_), .val (.ref al), .val (.int l0), .val (.ref s_), .unset, .unset, .unset] [] := by
    intro s_ hh ln hln hn1 hn4 S_ R_al szh
    refine C.iload 184 at_182 rfl ?_
    refine C.ldcI 186 at_184 (hw _ (List.mem_of_getElem? (i := 34) rfl)) ?_
    refine C.iand 187 at_186 ?_
    refine C.iload 189 at_187 rfl ?_
    refine C.irem 190 at_189 (hln ▸ own_nz hn1 hn4) ?_
    obtain ⟨j, hj, ej⟩ := own_idx i5 hn1 hn4
    rw [show (i5 &&& 2147483647) % l0 = Int32.ofNat j by rw [hln]; exact ej]
    refine C.istore 192 (L' := #[.val (.int i0), .val (.int i1), .val (.int i2), .val (.int i3), .val (.int i4), .val (.int i5), .val (.int ca), .val (.int cb), .val (.int cc), .val (.int cd_), .val (.ref al), .val (.int l0), .val (.ref s_), .val (.int (Int32.ofNat j)), .unset, .unset]) at_190 rfl ?_
    obtain ⟨x1, hx1⟩ : ∃ y, ([ca, cb, cc, cd_] : List Int32)[j]? = some y := ⟨_, List.getElem?_eq_getElem (show j < 4 by omega)⟩
    have hc1 : (([ca, cb, cc, cd_] : List Int32).take ln)[j]? = some x1 := by rw [List.getElem?_take, if_pos hj]; exact hx1
    refine C.aload 194 at_192 rfl rfl ?_
    refine C.iload 196 at_194 rfl ?_
    refine C.caload 197 j at_196 R_al rfl hx1 ?_
    refine C.bipush 199 (92 : Int32) at_197 (by decide) ?_
    rcases Decidable.em (x1 = (92 : Int32)) with h199 | h199
    · skip
      refine C.icY 208 at_199 (by decide) (by decide) (XT.ii_eq_t h199) ?_
      refine C.iload 210 at_208 rfl ?_
      refine C.iconst 211 (1 : Int32) at_210 (by decide) ?_
      refine C.iadd 212 at_211 ?_
      refine C.iload 214 at_212 rfl ?_
      rcases Decidable.em (((Int32.ofNat j) + (1 : Int32)) < l0) with h214 | h214
      · skip
        refine C.icY 223 at_214 (by decide) (by decide) (XT.ii_lt_t h214) ?_
        rw [own_succ j, hln] at h214
        have hlt : j + 1 < ln := (own_ofNat (by omega) (by omega)).2.mp h214
        obtain ⟨x2, hx2⟩ : ∃ y, ([ca, cb, cc, cd_] : List Int32)[j + 1]? = some y := ⟨_, List.getElem?_eq_getElem (show j + 1 < 4 by omega)⟩
        refine C.aload 225 at_223 rfl rfl ?_
        refine C.iload 227 at_225 rfl ?_
        refine C.iconst 228 (1 : Int32) at_227 (by decide) ?_
        refine C.iadd 229 at_228 ?_
        refine C.caload 230 (j + 1) at_229 R_al (own_succ j) hx2 ?_
        refine C.callS (b := hh.size) 233 [(.int x2)] [] at_230 (met_esc l Z a0 hw EL hEL hh.size bk hh (by omega) (by omega) x2) (by omega) (Or.inl (Nat.le_refl _)) (hw _ (List.mem_of_getElem? (i := 71) rfl)) (hw _ (List.mem_of_getElem? (i := 72) rfl)) (hw _ (List.mem_of_getElem? (i := 2) rfl)) (hw _ (List.mem_of_getElem? (i := 73) rfl)) (by decide) rfl (lenOf pd__C_rZ rfl) (by decide) (W := 0) (Nat.le_of_eq rfl) (by decide) (by decide) (by decide) rfl ?_
        rintro _ h230_13 K230_13 ⟨e, rfl, he, rfl⟩
        refine C.istore 235 (L' := #[.val (.int i0), .val (.int i1), .val (.int i2), .val (.int i3), .val (.int i4), .val (.int i5), .val (.int ca), .val (.int cb), .val (.int cc), .val (.int cd_), .val (.ref al), .val (.int l0), .val (.ref s_), .val (.int (Int32.ofNat j)), .val (.int e), .unset]) at_233 rfl ?_
        refine C.aload 237 at_235 rfl rfl ?_
        refine C.iload 239 at_237 rfl ?_
        refine C.callS (b := hh.size) 242 [(.ref s_), (.int (Int32.ofNat j))] [] at_239 (met_en l Z a0 hw EL hEL hh.size bk hh (by omega) (by omega) s_ _ _ j x1 z0 fm S_ hc1 (by simp; omega) SC hzc hfm SF wS hmem) (by omega) (Or.inl (Nat.le_refl _)) (hw _ (List.mem_of_getElem? (i := 35) rfl)) (hw _ (List.mem_of_getElem? (i := 36) rfl)) (hw _ (List.mem_of_getElem? (i := 37) rfl)) (hw _ (List.mem_of_getElem? (i := 38) rfl)) (by decide) rfl (lenOf pd__Ljava_lang_StringI_rZ rfl) (by decide) (W := 0) (Nat.le_of_eq rfl) (by decide) (by decide) (by decide) rfl ?_
        rintro _ hen Ken ⟨r, rfl, hr⟩
        refine Go.rebk hen.size rfl ?_
        have sz_hen : hh.size ≤ hen.size := Ken.1
        refine C.istore 244 (L' := #[.val (.int i0), .val (.int i1), .val (.int i2), .val (.int i3), .val (.int i4), .val (.int i5), .val (.int ca), .val (.int cb), .val (.int cc), .val (.int cd_), .val (.ref al), .val (.int l0), .val (.ref s_), .val (.int (Int32.ofNat j)), .val (.int e), .val (.int r)]) at_242 rfl ?_
        refine C.iload 246 at_244 rfl ?_
        refine C.iload 248 at_246 rfl ?_
        refine C.icN 251 at_248 rfl (XT.ii_ne_f (show r = e from (by rcases he with ⟨rfl, he⟩ | ⟨rfl, he⟩; exact hr.one ⟨by rw [← h199]; exact hc1, x2, by rw [List.getElem?_take, if_pos hlt]; exact hx2, he⟩; exact hr.zero (fun q => by obtain ⟨y, e, q⟩ := q.2; rw [List.getElem?_take, if_pos hlt] at e; cases hx2.symm.trans e; exact he q)))) ?_
        refine C.iconst 252 (1 : Int32) at_251 (by decide) ?_
        refine C.goto 256 at_252 (by decide) (by decide) ?_
        refine C.retN (t := .boolean) rfl (by simp) at_256 (by decide) (by decide) (Or.inr (Nat.le_refl _)) ?_
        exact rfl
      · skip
        refine C.icN 217 at_214 rfl (XT.ii_lt_f h214) ?_
        rw [own_succ j, hln] at h214
        have hge : ¬ j + 1 < ln := fun q => h214 ((own_ofNat (by omega) (by omega)).2.mpr q)
        refine C.iconst 218 (0 : Int32) at_217 (by decide) ?_
        refine C.istore 220 (L' := #[.val (.int i0), .val (.int i1), .val (.int i2), .val (.int i3), .val (.int i4), .val (.int i5), .val (.int ca), .val (.int cb), .val (.int cc), .val (.int cd_), .val (.ref al), .val (.int l0), .val (.ref s_), .val (.int (Int32.ofNat j)), .val (.int (0 : Int32)), .unset]) at_218 rfl ?_
        refine C.goto 235 at_220 (by decide) (by decide) ?_
        refine C.aload 237 at_235 rfl rfl ?_
        refine C.iload 239 at_237 rfl ?_
        refine C.callS (b := hh.size) 242 [(.ref s_), (.int (Int32.ofNat j))] [] at_239 (met_en l Z a0 hw EL hEL hh.size bk hh (by omega) (by omega) s_ _ _ j x1 z0 fm S_ hc1 (by simp; omega) SC hzc hfm SF wS hmem) (by omega) (Or.inl (Nat.le_refl _)) (hw _ (List.mem_of_getElem? (i := 35) rfl)) (hw _ (List.mem_of_getElem? (i := 36) rfl)) (hw _ (List.mem_of_getElem? (i := 37) rfl)) (hw _ (List.mem_of_getElem? (i := 38) rfl)) (by decide) rfl (lenOf pd__Ljava_lang_StringI_rZ rfl) (by decide) (W := 0) (Nat.le_of_eq rfl) (by decide) (by decide) (by decide) rfl ?_
        rintro _ hen Ken ⟨r, rfl, hr⟩
        refine Go.rebk hen.size rfl ?_
        have sz_hen : hh.size ≤ hen.size := Ken.1
        refine C.istore 244 (L' := #[.val (.int i0), .val (.int i1), .val (.int i2), .val (.int i3), .val (.int i4), .val (.int i5), .val (.int ca), .val (.int cb), .val (.int cc), .val (.int cd_), .val (.ref al), .val (.int l0), .val (.ref s_), .val (.int (Int32.ofNat j)), .val (.int (0 : Int32)), .val (.int r)]) at_242 rfl ?_
        refine C.iload 246 at_244 rfl ?_
        refine C.iload 248 at_246 rfl ?_
        refine C.icN 251 at_248 rfl (XT.ii_ne_f (show r = (0 : Int32) from (hr.zero (fun q => by obtain ⟨y, e, -⟩ := q.2; rw [List.getElem?_take, if_neg hge] at e; cases e)))) ?_
        refine C.iconst 252 (1 : Int32) at_251 (by decide) ?_
        refine C.goto 256 at_252 (by decide) (by decide) ?_
        refine C.retN (t := .boolean) rfl (by simp) at_256 (by decide) (by decide) (Or.inr (Nat.le_refl _)) ?_
        exact rfl
    · skip
      refine C.icN 202 at_199 rfl (XT.ii_eq_f h199) ?_
      refine C.iconst 203 (0 : Int32) at_202 (by decide) ?_
      refine C.istore 205 (L' := #[.val (.int i0), .val (.int i1), .val (.int i2), .val (.int i3), .val (.int i4), .val (.int i5), .val (.int ca), .val (.int cb), .val (.int cc), .val (.int cd_), .val (.ref al), .val (.int l0), .val (.ref s_), .val (.int (Int32.ofNat j)), .val (.int (0 : Int32)), .unset]) at_203 rfl ?_
      refine C.goto 235 at_205 (by decide) (by decide) ?_
      refine C.aload 237 at_235 rfl rfl ?_
      refine C.iload 239 at_237 rfl ?_
      refine C.callS (b := hh.size) 242 [(.ref s_), (.int (Int32.ofNat j))] [] at_239 (met_en l Z a0 hw EL hEL hh.size bk hh (by omega) (by omega) s_ _ _ j x1 z0 fm S_ hc1 (by simp; omega) SC hzc hfm SF wS hmem) (by omega) (Or.inl (Nat.le_refl _)) (hw _ (List.mem_of_getElem? (i := 35) rfl)) (hw _ (List.mem_of_getElem? (i := 36) rfl)) (hw _ (List.mem_of_getElem? (i := 37) rfl)) (hw _ (List.mem_of_getElem? (i := 38) rfl)) (by decide) rfl (lenOf pd__Ljava_lang_StringI_rZ rfl) (by decide) (W := 0) (Nat.le_of_eq rfl) (by decide) (by decide) (by decide) rfl ?_
      rintro _ hen Ken ⟨r, rfl, hr⟩
      refine Go.rebk hen.size rfl ?_
      have sz_hen : hh.size ≤ hen.size := Ken.1
      refine C.istore 244 (L' := #[.val (.int i0), .val (.int i1), .val (.int i2), .val (.int i3), .val (.int i4), .val (.int i5), .val (.int ca), .val (.int cb), .val (.int cc), .val (.int cd_), .val (.ref al), .val (.int l0), .val (.ref s_), .val (.int (Int32.ofNat j)), .val (.int (0 : Int32)), .val (.int r)]) at_242 rfl ?_
      refine C.iload 246 at_244 rfl ?_
      refine C.iload 248 at_246 rfl ?_
      refine C.icN 251 at_248 rfl (XT.ii_ne_f (show r = (0 : Int32) from (hr.zero (fun q => h199 (Option.some.inj (hc1.symm.trans q.1)))))) ?_
      refine C.iconst 252 (1 : Int32) at_251 (by decide) ?_
      refine C.goto 256 at_252 (by decide) (by decide) ?_
      refine C.retN (t := .boolean) rfl (by simp) at_256 (by decide) (by decide) (Or.inr (Nat.le_refl _)) ?_
      exact rfl
  refine C.iload 59 at_57 rfl ?_
  refine C.iconst 60 (1 : Int32) at_59 (by decide) ?_
  rcases Decidable.em (l0 = (1 : Int32)) with h60 | h60
  · skip
    refine C.icN 63 at_60 rfl (XT.ii_ne_f h60) ?_
    refine C.newo 66 at_63 (hw _ (List.mem_of_getElem? (i := 5) rfl)) (hw _ (List.mem_of_getElem? (i := 6) rfl)) (hw _ (List.mem_of_getElem? (i := 7) rfl)) (by decide) (by decide) ?_
    intro s_ hs1 g_s_ Es1 X_s_ Ds1
    have lt_s_ : s_ < hs1.size := X_s_.lt
    have sz_hs1 : h46_9.size ≤ hs1.size := Es1.1
    replace R_al := R_al.ext Es1
    have FV : Fld Z hs1 s_ "java/lang/String" "value" "[B" .null := Ds1 (Or.inr (hw _ (List.mem_of_getElem? (i := 33) rfl))) (ty := (.array .byte)) (by decide)
    have FC : Fld Z hs1 s_ "java/lang/String" "coder" "B" (.int (0 : Int32)) := Ds1 (Or.inr (hw _ (List.mem_of_getElem? (i := 31) rfl))) (ty := .byte) (by decide)
    refine C.dup 67 at_66 rfl ?_
    refine C.iconst 68 (1 : Int32) at_67 (by decide) ?_
    refine C.newarr (zn := 1) (cap := 4) 70 at_68 (hw _ (List.mem_of_getElem? (i := 4) rfl)) rfl (by decide) (by decide) rfl (by decide) (by decide) (by decide) ?_
    intro ac hc1 g_ac Ec1 R_ac
    replace R_ac : Ar Z hc1 ac .char [0] := R_ac
    have lt_ac : ac < hc1.size := R_ac.lt
    have sz_hc1 : hs1.size ≤ hc1.size := Ec1.1
    replace R_al := R_al.ext Ec1
    replace X_s_ := X_s_.ext Ec1
    replace FV := FV.ext Ec1
    replace FC := FC.ext Ec1
    refine C.dup 71 at_70 rfl ?_
    refine C.iconst 72 (0 : Int32) at_71 (by decide) ?_
    refine C.iload 74 at_72 rfl ?_
    refine C.castore 75 0 at_74 R_ac rfl (by simp) (by rw [show nar .char ca = ca from own_c0 p0 q0]; exact own_fitc p0 q0) (by omega) (Or.inr (Or.inr ⟨_, _, R_ac, by decide⟩)) ?_
    intro h74_19 W74_19 N74_19
    have sz_h74_19 : hc1.size ≤ h74_19.size := (Nat.le_of_eq W74_19.size.symm)
    replace R_al := R_al.other W74_19 (by first | omega | (dsimp only; omega))
    replace X_s_ := X_s_.wr W74_19
    replace FV := FV.other W74_19 (Or.inl (show (_ : Nat) ≠ _ by omega))
    replace FC := FC.other W74_19 (Or.inl (show (_ : Nat) ≠ _ by omega))
    replace R_ac : Ar Z h74_19 ac .char [ca] := (by have q := N74_19; rw [show nar .char ca = ca from own_c0 p0 q0] at q; exact q)
    refine C.callI (b := s_) 78 [(.ref ac)] [(.ref s_)] at_75 (met_s1 l Z a0 hw EL hEL s_ bk h74_19 (by omega) (by omega) s_ ac [ca] z0 X_s_ FV FC (by omega) (by omega) R_ac (by simp) (by simp) (fun y hy => by simp at hy; rcases hy with rfl <;> assumption) SC hzc) rfl (by omega) (Or.inl (Nat.le_refl _)) (hw _ (List.mem_of_getElem? (i := 8) rfl)) (hw _ (List.mem_of_getElem? (i := 9) rfl)) (hw _ (List.mem_of_getElem? (i := 7) rfl)) (hw _ (List.mem_of_getElem? (i := 10) rfl)) (by decide) rfl (lenOf pd__AC_rV rfl) (by decide) (W := 1) (Nat.le_of_eq rfl) (by decide) (by decide) (by decide) rfl ?_
    rintro _ hi1 Ki1 ⟨rfl, S_, Kq⟩
    have sz_hi1 : h74_19.size ≤ hi1.size := Kq.1
    replace R_al := R_al.kp Kq (by first | omega | (dsimp only; omega))
    refine C.astore 80 (L' := #[.val (.int i0), .val (.int i1), .val (.int i2), .val (.int i3), .val (.int i4), .val (.int i5), .val (.int ca), .val (.int cb), .val (.int cc), .val (.int cd_), .val (.ref al), .val (.int l0), .val (.ref s_), .unset, .unset, .unset]) at_78 rfl rfl ?_
    refine C.goto 182 at_80 (by decide) (by decide) ?_
    exact L182 s_ hi1 1 h60 (by decide) (by decide) S_ R_al (by omega)
  · skip
    refine C.icY 83 at_60 (by decide) (by decide) (XT.ii_ne_t h60) ?_
    refine C.iload 85 at_83 rfl ?_
    refine C.iconst 86 (2 : Int32) at_85 (by decide) ?_
    rcases Decidable.em (l0 = (2 : Int32)) with h86 | h86
    · skip
      refine C.icN 89 at_86 rfl (XT.ii_ne_f h86) ?_
      refine C.newo 92 at_89 (hw _ (List.mem_of_getElem? (i := 5) rfl)) (hw _ (List.mem_of_getElem? (i := 6) rfl)) (hw _ (List.mem_of_getElem? (i := 7) rfl)) (by decide) (by decide) ?_
      intro s_ hs2 g_s_ Es2 X_s_ Ds2
      have lt_s_ : s_ < hs2.size := X_s_.lt
      have sz_hs2 : h46_9.size ≤ hs2.size := Es2.1
      replace R_al := R_al.ext Es2
      have FV : Fld Z hs2 s_ "java/lang/String" "value" "[B" .null := Ds2 (Or.inr (hw _ (List.mem_of_getElem? (i := 33) rfl))) (ty := (.array .byte)) (by decide)
      have FC : Fld Z hs2 s_ "java/lang/String" "coder" "B" (.int (0 : Int32)) := Ds2 (Or.inr (hw _ (List.mem_of_getElem? (i := 31) rfl))) (ty := .byte) (by decide)
      refine C.dup 93 at_92 rfl ?_
      refine C.iconst 94 (2 : Int32) at_93 (by decide) ?_
      refine C.newarr (zn := 2) (cap := 4) 96 at_94 (hw _ (List.mem_of_getElem? (i := 4) rfl)) rfl (by decide) (by decide) rfl (by decide) (by decide) (by decide) ?_
      intro ac hc2 g_ac Ec2 R_ac
      replace R_ac : Ar Z hc2 ac .char [0, 0] := R_ac
      have lt_ac : ac < hc2.size := R_ac.lt
      have sz_hc2 : hs2.size ≤ hc2.size := Ec2.1
      replace R_al := R_al.ext Ec2
      replace X_s_ := X_s_.ext Ec2
      replace FV := FV.ext Ec2
      replace FC := FC.ext Ec2
      refine C.dup 97 at_96 rfl ?_
      refine C.iconst 98 (0 : Int32) at_97 (by decide) ?_
      refine C.iload 100 at_98 rfl ?_
      refine C.castore 101 0 at_100 R_ac rfl (by simp) (by rw [show nar .char ca = ca from own_c0 p0 q0]; exact own_fitc p0 q0) (by omega) (Or.inr (Or.inr ⟨_, _, R_ac, by decide⟩)) ?_
      intro h100_23 W100_23 N100_23
      have sz_h100_23 : hc2.size ≤ h100_23.size := (Nat.le_of_eq W100_23.size.symm)
      replace R_al := R_al.other W100_23 (by first | omega | (dsimp only; omega))
      replace X_s_ := X_s_.wr W100_23
      replace FV := FV.other W100_23 (Or.inl (show (_ : Nat) ≠ _ by omega))
      replace FC := FC.other W100_23 (Or.inl (show (_ : Nat) ≠ _ by omega))
      replace R_ac : Ar Z h100_23 ac .char [ca, 0] := (by have q := N100_23; rw [show nar .char ca = ca from own_c0 p0 q0] at q; exact q)
      refine C.dup 102 at_101 rfl ?_
      refine C.iconst 103 (1 : Int32) at_102 (by decide) ?_
      refine C.iload 105 at_103 rfl ?_
      refine C.castore 106 1 at_105 R_ac rfl (by simp) (by rw [show nar .char cb = cb from own_c0 p1 q1]; exact own_fitc p1 q1) (by omega) (Or.inr (Or.inr ⟨_, _, R_ac, by decide⟩)) ?_
      intro h105_24 W105_24 N105_24
      have sz_h105_24 : h100_23.size ≤ h105_24.size := (Nat.le_of_eq W105_24.size.symm)
      replace R_al := R_al.other W105_24 (by first | omega | (dsimp only; omega))
      replace X_s_ := X_s_.wr W105_24
      replace FV := FV.other W105_24 (Or.inl (show (_ : Nat) ≠ _ by omega))
      replace FC := FC.other W105_24 (Or.inl (show (_ : Nat) ≠ _ by omega))
      replace R_ac : Ar Z h105_24 ac .char [ca, cb] := (by have q := N105_24; rw [show nar .char cb = cb from own_c0 p1 q1] at q; exact q)
      refine C.callI (b := s_) 109 [(.ref ac)] [(.ref s_)] at_106 (met_s1 l Z a0 hw EL hEL s_ bk h105_24 (by omega) (by omega) s_ ac [ca, cb] z0 X_s_ FV FC (by omega) (by omega) R_ac (by simp) (by simp) (fun y hy => by simp at hy; rcases hy with rfl | rfl <;> assumption) SC hzc) rfl (by omega) (Or.inl (Nat.le_refl _)) (hw _ (List.mem_of_getElem? (i := 8) rfl)) (hw _ (List.mem_of_getElem? (i := 9) rfl)) (hw _ (List.mem_of_getElem? (i := 7) rfl)) (hw _ (List.mem_of_getElem? (i := 10) rfl)) (by decide) rfl (lenOf pd__AC_rV rfl) (by decide) (W := 1) (Nat.le_of_eq rfl) (by decide) (by decide) (by decide) rfl ?_
      rintro _ hi2 Ki2 ⟨rfl, S_, Kq⟩
      have sz_hi2 : h105_24.size ≤ hi2.size := Kq.1
      replace R_al := R_al.kp Kq (by first | omega | (dsimp only; omega))
      refine C.astore 111 (L' := #[.val (.int i0), .val (.int i1), .val (.int i2), .val (.int i3), .val (.int i4), .val (.int i5), .val (.int ca), .val (.int cb), .val (.int cc), .val (.int cd_), .val (.ref al), .val (.int l0), .val (.ref s_), .unset, .unset, .unset]) at_109 rfl rfl ?_
      refine C.goto 182 at_111 (by decide) (by decide) ?_
      exact L182 s_ hi2 2 h86 (by decide) (by decide) S_ R_al (by omega)
    · skip
      refine C.icY 114 at_86 (by decide) (by decide) (XT.ii_ne_t h86) ?_
      refine C.iload 116 at_114 rfl ?_
      refine C.iconst 117 (3 : Int32) at_116 (by decide) ?_
      rcases Decidable.em (l0 = (3 : Int32)) with h117 | h117
      · skip
        refine C.icN 120 at_117 rfl (XT.ii_ne_f h117) ?_
        refine C.newo 123 at_120 (hw _ (List.mem_of_getElem? (i := 5) rfl)) (hw _ (List.mem_of_getElem? (i := 6) rfl)) (hw _ (List.mem_of_getElem? (i := 7) rfl)) (by decide) (by decide) ?_
        intro s_ hs3 g_s_ Es3 X_s_ Ds3
        have lt_s_ : s_ < hs3.size := X_s_.lt
        have sz_hs3 : h46_9.size ≤ hs3.size := Es3.1
        replace R_al := R_al.ext Es3
        have FV : Fld Z hs3 s_ "java/lang/String" "value" "[B" .null := Ds3 (Or.inr (hw _ (List.mem_of_getElem? (i := 33) rfl))) (ty := (.array .byte)) (by decide)
        have FC : Fld Z hs3 s_ "java/lang/String" "coder" "B" (.int (0 : Int32)) := Ds3 (Or.inr (hw _ (List.mem_of_getElem? (i := 31) rfl))) (ty := .byte) (by decide)
        refine C.dup 124 at_123 rfl ?_
        refine C.iconst 125 (3 : Int32) at_124 (by decide) ?_
        refine C.newarr (zn := 3) (cap := 4) 127 at_125 (hw _ (List.mem_of_getElem? (i := 4) rfl)) rfl (by decide) (by decide) rfl (by decide) (by decide) (by decide) ?_
        intro ac hc3 g_ac Ec3 R_ac
        replace R_ac : Ar Z hc3 ac .char [0, 0, 0] := R_ac
        have lt_ac : ac < hc3.size := R_ac.lt
        have sz_hc3 : hs3.size ≤ hc3.size := Ec3.1
        replace R_al := R_al.ext Ec3
        replace X_s_ := X_s_.ext Ec3
        replace FV := FV.ext Ec3
        replace FC := FC.ext Ec3
        refine C.dup 128 at_127 rfl ?_
        refine C.iconst 129 (0 : Int32) at_128 (by decide) ?_
        refine C.iload 131 at_129 rfl ?_
        refine C.castore 132 0 at_131 R_ac rfl (by simp) (by rw [show nar .char ca = ca from own_c0 p0 q0]; exact own_fitc p0 q0) (by omega) (Or.inr (Or.inr ⟨_, _, R_ac, by decide⟩)) ?_
        intro h131_28 W131_28 N131_28
        have sz_h131_28 : hc3.size ≤ h131_28.size := (Nat.le_of_eq W131_28.size.symm)
        replace R_al := R_al.other W131_28 (by first | omega | (dsimp only; omega))
        replace X_s_ := X_s_.wr W131_28
        replace FV := FV.other W131_28 (Or.inl (show (_ : Nat) ≠ _ by omega))
        replace FC := FC.other W131_28 (Or.inl (show (_ : Nat) ≠ _ by omega))
        replace R_ac : Ar Z h131_28 ac .char [ca, 0, 0] := (by have q := N131_28; rw [show nar .char ca = ca from own_c0 p0 q0] at q; exact q)
        refine C.dup 133 at_132 rfl ?_
        refine C.iconst 134 (1 : Int32) at_133 (by decide) ?_
        refine C.iload 136 at_134 rfl ?_
        refine C.castore 137 1 at_136 R_ac rfl (by simp) (by rw [show nar .char cb = cb from own_c0 p1 q1]; exact own_fitc p1 q1) (by omega) (Or.inr (Or.inr ⟨_, _, R_ac, by decide⟩)) ?_
        intro h136_29 W136_29 N136_29
        have sz_h136_29 : h131_28.size ≤ h136_29.size := (Nat.le_of_eq W136_29.size.symm)
        replace R_al := R_al.other W136_29 (by first | omega | (dsimp only; omega))
        replace X_s_ := X_s_.wr W136_29
        replace FV := FV.other W136_29 (Or.inl (show (_ : Nat) ≠ _ by omega))
        replace FC := FC.other W136_29 (Or.inl (show (_ : Nat) ≠ _ by omega))
        replace R_ac : Ar Z h136_29 ac .char [ca, cb, 0] := (by have q := N136_29; rw [show nar .char cb = cb from own_c0 p1 q1] at q; exact q)
        refine C.dup 138 at_137 rfl ?_
        refine C.iconst 139 (2 : Int32) at_138 (by decide) ?_
        refine C.iload 141 at_139 rfl ?_
        refine C.castore 142 2 at_141 R_ac rfl (by simp) (by rw [show nar .char cc = cc from own_c0 p2 q2]; exact own_fitc p2 q2) (by omega) (Or.inr (Or.inr ⟨_, _, R_ac, by decide⟩)) ?_
        intro h141_30 W141_30 N141_30
        have sz_h141_30 : h136_29.size ≤ h141_30.size := (Nat.le_of_eq W141_30.size.symm)
        replace R_al := R_al.other W141_30 (by first | omega | (dsimp only; omega))
        replace X_s_ := X_s_.wr W141_30
        replace FV := FV.other W141_30 (Or.inl (show (_ : Nat) ≠ _ by omega))
        replace FC := FC.other W141_30 (Or.inl (show (_ : Nat) ≠ _ by omega))
        replace R_ac : Ar Z h141_30 ac .char [ca, cb, cc] := (by have q := N141_30; rw [show nar .char cc = cc from own_c0 p2 q2] at q; exact q)
        refine C.callI (b := s_) 145 [(.ref ac)] [(.ref s_)] at_142 (met_s1 l Z a0 hw EL hEL s_ bk h141_30 (by omega) (by omega) s_ ac [ca, cb, cc] z0 X_s_ FV FC (by omega) (by omega) R_ac (by simp) (by simp) (fun y hy => by simp at hy; rcases hy with rfl | rfl | rfl <;> assumption) SC hzc) rfl (by omega) (Or.inl (Nat.le_refl _)) (hw _ (List.mem_of_getElem? (i := 8) rfl)) (hw _ (List.mem_of_getElem? (i := 9) rfl)) (hw _ (List.mem_of_getElem? (i := 7) rfl)) (hw _ (List.mem_of_getElem? (i := 10) rfl)) (by decide) rfl (lenOf pd__AC_rV rfl) (by decide) (W := 1) (Nat.le_of_eq rfl) (by decide) (by decide) (by decide) rfl ?_
        rintro _ hi3 Ki3 ⟨rfl, S_, Kq⟩
        have sz_hi3 : h141_30.size ≤ hi3.size := Kq.1
        replace R_al := R_al.kp Kq (by first | omega | (dsimp only; omega))
        refine C.astore 147 (L' := #[.val (.int i0), .val (.int i1), .val (.int i2), .val (.int i3), .val (.int i4), .val (.int i5), .val (.int ca), .val (.int cb), .val (.int cc), .val (.int cd_), .val (.ref al), .val (.int l0), .val (.ref s_), .unset, .unset, .unset]) at_145 rfl rfl ?_
        refine C.goto 182 at_147 (by decide) (by decide) ?_
        exact L182 s_ hi3 3 h117 (by decide) (by decide) S_ R_al (by omega)
      · skip
        refine C.icY 150 at_117 (by decide) (by decide) (XT.ii_ne_t h117) ?_
        refine C.newo 153 at_150 (hw _ (List.mem_of_getElem? (i := 5) rfl)) (hw _ (List.mem_of_getElem? (i := 6) rfl)) (hw _ (List.mem_of_getElem? (i := 7) rfl)) (by decide) (by decide) ?_
        intro s_ hs4 g_s_ Es4 X_s_ Ds4
        have lt_s_ : s_ < hs4.size := X_s_.lt
        have sz_hs4 : h46_9.size ≤ hs4.size := Es4.1
        replace R_al := R_al.ext Es4
        have FV : Fld Z hs4 s_ "java/lang/String" "value" "[B" .null := Ds4 (Or.inr (hw _ (List.mem_of_getElem? (i := 33) rfl))) (ty := (.array .byte)) (by decide)
        have FC : Fld Z hs4 s_ "java/lang/String" "coder" "B" (.int (0 : Int32)) := Ds4 (Or.inr (hw _ (List.mem_of_getElem? (i := 31) rfl))) (ty := .byte) (by decide)
        refine C.dup 154 at_153 rfl ?_
        refine C.iconst 155 (4 : Int32) at_154 (by decide) ?_
        refine C.newarr (zn := 4) (cap := 4) 157 at_155 (hw _ (List.mem_of_getElem? (i := 4) rfl)) rfl (by decide) (by decide) rfl (by decide) (by decide) (by decide) ?_
        intro ac hc4 g_ac Ec4 R_ac
        replace R_ac : Ar Z hc4 ac .char [0, 0, 0, 0] := R_ac
        have lt_ac : ac < hc4.size := R_ac.lt
        have sz_hc4 : hs4.size ≤ hc4.size := Ec4.1
        replace R_al := R_al.ext Ec4
        replace X_s_ := X_s_.ext Ec4
        replace FV := FV.ext Ec4
        replace FC := FC.ext Ec4
        refine C.dup 158 at_157 rfl ?_
        refine C.iconst 159 (0 : Int32) at_158 (by decide) ?_
        refine C.iload 161 at_159 rfl ?_
        refine C.castore 162 0 at_161 R_ac rfl (by simp) (by rw [show nar .char ca = ca from own_c0 p0 q0]; exact own_fitc p0 q0) (by omega) (Or.inr (Or.inr ⟨_, _, R_ac, by decide⟩)) ?_
        intro h161_34 W161_34 N161_34
        have sz_h161_34 : hc4.size ≤ h161_34.size := (Nat.le_of_eq W161_34.size.symm)
        replace R_al := R_al.other W161_34 (by first | omega | (dsimp only; omega))
        replace X_s_ := X_s_.wr W161_34
        replace FV := FV.other W161_34 (Or.inl (show (_ : Nat) ≠ _ by omega))
        replace FC := FC.other W161_34 (Or.inl (show (_ : Nat) ≠ _ by omega))
        replace R_ac : Ar Z h161_34 ac .char [ca, 0, 0, 0] := (by have q := N161_34; rw [show nar .char ca = ca from own_c0 p0 q0] at q; exact q)
        refine C.dup 163 at_162 rfl ?_
        refine C.iconst 164 (1 : Int32) at_163 (by decide) ?_
        refine C.iload 166 at_164 rfl ?_
        refine C.castore 167 1 at_166 R_ac rfl (by simp) (by rw [show nar .char cb = cb from own_c0 p1 q1]; exact own_fitc p1 q1) (by omega) (Or.inr (Or.inr ⟨_, _, R_ac, by decide⟩)) ?_
        intro h166_35 W166_35 N166_35
        have sz_h166_35 : h161_34.size ≤ h166_35.size := (Nat.le_of_eq W166_35.size.symm)
        replace R_al := R_al.other W166_35 (by first | omega | (dsimp only; omega))
        replace X_s_ := X_s_.wr W166_35
        replace FV := FV.other W166_35 (Or.inl (show (_ : Nat) ≠ _ by omega))
        replace FC := FC.other W166_35 (Or.inl (show (_ : Nat) ≠ _ by omega))
        replace R_ac : Ar Z h166_35 ac .char [ca, cb, 0, 0] := (by have q := N166_35; rw [show nar .char cb = cb from own_c0 p1 q1] at q; exact q)
        refine C.dup 168 at_167 rfl ?_
        refine C.iconst 169 (2 : Int32) at_168 (by decide) ?_
        refine C.iload 171 at_169 rfl ?_
        refine C.castore 172 2 at_171 R_ac rfl (by simp) (by rw [show nar .char cc = cc from own_c0 p2 q2]; exact own_fitc p2 q2) (by omega) (Or.inr (Or.inr ⟨_, _, R_ac, by decide⟩)) ?_
        intro h171_36 W171_36 N171_36
        have sz_h171_36 : h166_35.size ≤ h171_36.size := (Nat.le_of_eq W171_36.size.symm)
        replace R_al := R_al.other W171_36 (by first | omega | (dsimp only; omega))
        replace X_s_ := X_s_.wr W171_36
        replace FV := FV.other W171_36 (Or.inl (show (_ : Nat) ≠ _ by omega))
        replace FC := FC.other W171_36 (Or.inl (show (_ : Nat) ≠ _ by omega))
        replace R_ac : Ar Z h171_36 ac .char [ca, cb, cc, 0] := (by have q := N171_36; rw [show nar .char cc = cc from own_c0 p2 q2] at q; exact q)
        refine C.dup 173 at_172 rfl ?_
        refine C.iconst 174 (3 : Int32) at_173 (by decide) ?_
        refine C.iload 176 at_174 rfl ?_
        refine C.castore 177 3 at_176 R_ac rfl (by simp) (by rw [show nar .char cd_ = cd_ from own_c0 p3 q3]; exact own_fitc p3 q3) (by omega) (Or.inr (Or.inr ⟨_, _, R_ac, by decide⟩)) ?_
        intro h176_37 W176_37 N176_37
        have sz_h176_37 : h171_36.size ≤ h176_37.size := (Nat.le_of_eq W176_37.size.symm)
        replace R_al := R_al.other W176_37 (by first | omega | (dsimp only; omega))
        replace X_s_ := X_s_.wr W176_37
        replace FV := FV.other W176_37 (Or.inl (show (_ : Nat) ≠ _ by omega))
        replace FC := FC.other W176_37 (Or.inl (show (_ : Nat) ≠ _ by omega))
        replace R_ac : Ar Z h176_37 ac .char [ca, cb, cc, cd_] := (by have q := N176_37; rw [show nar .char cd_ = cd_ from own_c0 p3 q3] at q; exact q)
        refine C.callI (b := s_) 180 [(.ref ac)] [(.ref s_)] at_177 (met_s1 l Z a0 hw EL hEL s_ bk h176_37 (by omega) (by omega) s_ ac [ca, cb, cc, cd_] z0 X_s_ FV FC (by omega) (by omega) R_ac (by simp) (by simp) (fun y hy => by simp at hy; rcases hy with rfl | rfl | rfl | rfl <;> assumption) SC hzc) rfl (by omega) (Or.inl (Nat.le_refl _)) (hw _ (List.mem_of_getElem? (i := 8) rfl)) (hw _ (List.mem_of_getElem? (i := 9) rfl)) (hw _ (List.mem_of_getElem? (i := 7) rfl)) (hw _ (List.mem_of_getElem? (i := 10) rfl)) (by decide) rfl (lenOf pd__AC_rV rfl) (by decide) (W := 1) (Nat.le_of_eq rfl) (by decide) (by decide) (by decide) rfl ?_
        rintro _ hi4 Ki4 ⟨rfl, S_, Kq⟩
        have sz_hi4 : h176_37.size ≤ hi4.size := Kq.1
        replace R_al := R_al.kp Kq (by first | omega | (dsimp only; omega))
        refine C.astore 182 (L' := #[.val (.int i0), .val (.int i1), .val (.int i2), .val (.int i3), .val (.int i4), .val (.int i5), .val (.int ca), .val (.int cb), .val (.int cc), .val (.int cd_), .val (.ref al), .val (.int l0), .val (.ref s_), .unset, .unset, .unset]) at_180 rfl rfl ?_
        exact L182 s_ hi4 4 (by have q := c_mask i4 3 2 (by decide) (by decide); have q2 := c_iadd 1 (i4 &&& 3); have q3 := rng32 l0; rw [hl0] at q2; have e1 : (1 : Int32).toInt = 1 := (by decide); have e2 : (2 : Int32).toInt = 2 := (by decide); have e3 : (3 : Int32).toInt = 3 := (by decide); have e4 : (Int32.ofNat 4).toInt = 4 := (by decide); rw [← Int32.toInt_inj] at h60 h86 h117 ⊢; omega) (by decide) (by decide) S_ R_al (by omega)
set_option maxRecDepth 65536 in
set_option maxHeartbeats 40000000 in
theorem comes_1 {Post : Tables → Env → Array Value → State → Outcome → State → Prop} (hpost : ∀ tb e args s v u, (limb_1_1.after args s (.returned v) u = true ∧ limb_1_2.after args s (.returned v) u = true ∧ True) → ReturnedEndW s (.returned v) u (Jvm.fieldLocs frame_1_writes args s ++ Jvm.arrayLocs frame_1_arrays args s ++ Jvm.staticLocs frame_1_statics s) 24 1152 → Post tb e args s (.returned v) u) :
    ArmFor flags0 classFile x code maxLocals ret World_1 tables_1 room_1 Calls_1 rest_1 Pre_1 Post := by
  intro l hfl _ _ p e ha hc hk s m args below hf hA hF happ hP
  obtain ⟨hcalls, hrest, hpre⟩ := hP
  obtain ⟨-, -, -, hnamed, -, -, -, hat⟩ := (Spec.applies_iff hf).mp happ
  obtain ⟨hg, hn⟩ := and_e (Cond.before_iff.mp (show (Jvm.Cond.and given_1 narrow_1).before args s = true from hpre))
  obtain ⟨g0, gr0⟩ := and_e hg
  obtain ⟨ga0, gr1⟩ := and_e gr0
  obtain ⟨ga1, gr2⟩ := and_e gr1
  obtain ⟨ga2, gr3⟩ := and_e gr2
  obtain ⟨ga3, gr4⟩ := and_e gr3
  obtain ⟨ga4, gr5⟩ := and_e gr4
  have ga5 := gr5
  obtain ⟨w0, w1, w2, w3, w4, w5, rfl⟩ : ∃ w0 w1 w2 w3 w4 w5 : Value, args = #[w0, w1, w2, w3, w4, w5] := by
    have hs : args.size = 6 := by simpa [Cond.value, given_1] using g0
    obtain ⟨L⟩ := args
    match L, hs with
    | [w0, w1, w2, w3, w4, w5], _ => exact ⟨w0, w1, w2, w3, w4, w5, rfl⟩
  have hw := fun d (hd : d ∈ tables_1) => atoms_spec (ws := Jvm.Cond.code x code maxLocals ret :: tables_1) hat d (List.mem_cons_of_mem _ hd)
  have hfit : Fit s := fun {y c} hc i hi => by
    obtain ⟨ha, rfl⟩ := Array.getElem?_eq_some_iff.mp hc
    have q := List.all_eq_true.mp ((Array.all_eq_true_iff_forall_mem.mp hF) _ (Array.getElem_mem ha)) i (List.mem_range.mpr hi)
    simpa [Array.getElem?_eq_getElem hi] using q
  obtain ⟨i0, e0⟩ := is_v ga0
  obtain rfl : w0 = (.int i0) := Option.some.inj e0
  obtain ⟨i1, e1⟩ := is_v ga1
  obtain rfl : w1 = (.int i1) := Option.some.inj e1
  obtain ⟨i2, e2⟩ := is_v ga2
  obtain rfl : w2 = (.int i2) := Option.some.inj e2
  obtain ⟨i3, e3⟩ := is_v ga3
  obtain rfl : w3 = (.int i3) := Option.some.inj e3
  obtain ⟨i4, e4⟩ := is_v ga4
  obtain rfl : w4 = (.int i4) := Option.some.inj e4
  obtain ⟨i5, e5⟩ := is_v ga5
  obtain rfl : w5 = (.int i5) := Option.some.inj e5
  obtain ⟨hsets, hown0⟩ := atoms_of _ (rest_1_c_eq ▸ (show rest_1_c.before _ s = true from hrest))
  have n5 := not_v (Cond.before_iff.mp (hsets _ (List.mem_of_getElem? (i := 2) rfl)))
  obtain ⟨z0, ez0⟩ := is_v (Cond.before_iff.mp (hsets _ (List.mem_of_getElem? (i := 1) rfl)))
  have SC : Sta s s.heap "java/lang/String" "COMPACT_STRINGS" "Z" (.int z0) := Sta.start ez0 (Or.inl (hsets _ (List.mem_of_getElem? (i := 0) rfl)))
  have hzc : ¬ z0 = 0 := gotF (Cond.eq_ints ez0 (Term.int_eval (0))) n5
  have hcw : Jvm.Lit.compactW.before _ s = true := hsets _ (List.mem_of_getElem? (i := 2) rfl)
  have wS : ∀ a ∈ Bundle.stringAtoms, a.before _ s = true := fun d hd => by
    simp only [Bundle.stringAtoms, List.mem_cons, List.not_mem_nil, or_false] at hd
    rcases hd with rfl | rfl | rfl | rfl | rfl | rfl | rfl
    · exact hw _ (List.mem_of_getElem? (i := 7) rfl)
    · exact hw _ (List.mem_of_getElem? (i := 6) rfl)
    · exact hw _ (List.mem_of_getElem? (i := 23) rfl)
    · exact hw _ (List.mem_of_getElem? (i := 33) rfl)
    · exact hw _ (List.mem_of_getElem? (i := 31) rfl)
    · exact hw _ (List.mem_of_getElem? (i := 75) rfl)
    · exact hw _ (List.mem_of_getElem? (i := 76) rfl)
  have hEL : EW s _ consts_1 := (EW.cons (hw _ (List.mem_of_getElem? (i := 74) rfl)) (by decide) EW.nil)
  have hcons : ∀ p ∈ consts_1, Jvm.Lit.constHeld s p.1 p.2 := hcalls.1
  have hCH := CHv.start hEL hcons hcw (hw _ (List.mem_of_getElem? (i := 23) rfl)) (hw _ (List.mem_of_getElem? (i := 6) rfl))
  obtain ⟨fm, efm, hfm⟩ := isR_v (Cond.before_iff.mp (hsets _ (List.mem_of_getElem? (i := 8) rfl)))
  have SF : Sta s s.heap "jdk/internal/util/Preconditions" "SIOOBE_FORMATTER" "Ljava/util/function/BiFunction;" fm := Sta.start efm (Or.inl (hsets _ (List.mem_of_getElem? (i := 7) rfl)))
  obtain ⟨n, o, h1, h2, h3, _, L, rfl, ⟨N, -, -, -, rfl⟩, -, hq⟩ := met_law l s _ hw consts_1 hEL s.heap.size s.heap.size s.heap (Nat.le_refl _) (Nat.le_refl _) i0 i1 i2 i3 i4 i5 z0 fm SC hzc hfm SF wS (by simp [consts_1]) (Nat.le_refl _) p e ha hc hk s m _ below hf ((Spec.applies_iff_loose hf).mp happ).1 ⟨rfl, State.Warmed39.refl s, rfl, ⟨Nat.le_refl _, fun _ _ q => q⟩, hCH, fun y B => (Array.getElem?_eq_some_iff.mp B.there.choose_spec).1⟩ trivial
  refine ⟨n, _, h1, h2, h3, hpost _ _ _ _ _ _ ⟨Cond.after_iff.mpr rfl, Cond.after_iff.mpr (eq_i res_at (Term.int_eval (1)) rfl), trivial⟩ ⟨hq.1, hq.2.1, hq.2.2.1, (hq.2.2.2.sift fun y hy => Or.inr (N y hy)).mono (by decide) (by decide)⟩⟩
theorem main_1_1 : Claimed_1_1 := comes_1 fun _ _ _ _ _ _ h hF => ⟨h.1, hF⟩
theorem main_1_2 : Claimed_1_2 := comes_1 fun _ _ _ _ _ _ h hF => ⟨h.2.1, hF⟩
end Jvm.Pilot.@@N@@
namespace Jvm.Pilot.@@N@@
open Jvm Jvm.ClassFile Sem Op Lib Jvm.Free Jvm.Stand Jvm.Pilot.@@N@@.Jvm.D
/-! MADE BY PROGRAM (witnessworld.py) out of the Statement's table words and the real class files: 21 classes; the members and pool entries that the words name. The judged class is class 1, her method 3. -/
namespace start1
open Jvm.ClassFile
def u (s : String) : CpInfo := .utf8 (stringToUtf16 s)
/-- a pool by its gaps: so many unusable entries, then the entry; so many at the end -/
def gap : Nat → List CpInfo → List CpInfo
  | 0, r => r
  | n + 1, r => .unusable :: gap n r
def poolList (es : List (Nat × CpInfo)) (last : Nat) : List CpInfo := es.foldr (fun e r => gap e.1 (e.2 :: r)) (gap last [])
def pool (es : List (Nat × CpInfo)) (last : Nat) : Array CpInfo := ⟨poolList es last⟩
def fileOf (pool : Array CpInfo) (this : Nat) (attrs : Array Attribute := #[]) (ms : Array MethodInfo := #[]) (fl : Nat := 33) (sup : Nat := 0) (ifs : Array Nat := #[]) (fds : Array FieldInfo := #[]) : ClassFile where
  minorVersion := 0
  majorVersion := 65
  constantPool := pool
  accessFlags := fl
  thisClass := this
  superClass := sup
  interfaces := ifs
  fields := fds
  methods := ms
  attributes := attrs
def plain (name : String) (sup : Option ClassId) : Class where
  name := name
  kind := .ordinary
  loader := none
  accessFlags := 33
  super := sup
  interfaces := #[]
  cf := none
  fields := #[]
  methods := #[]
  instanceTypes := #[]
  staticTypes := #[]
  resolved := #[]
  callSites := []
  init := .initialized
  statics := none
  mirror := none

def pool0 : Array CpInfo := pool [(5, u "<init>"), (0, u "()V"), (1, .class_ 10), (1, u "java/lang/Object")] 113

def k0c0 : Code := { maxStack := 0, maxLocals := 1, code := object_method_1_code, exceptionTable := #[], attributes := #[] }
def k0m0 : Method := { name := "<init>", desc := "()V", sig := { parameters := [], returnType := none }, accessFlags := 1, code := some k0c0 }
/-- java/lang/Object -/
def k0 : Class := { plain "java/lang/Object" none with
  accessFlags := 33
  interfaces := #[]
  cf := some (fileOf pool0 8 #[] #[{ accessFlags := 1, nameIndex := 5, descriptorIndex := 6, attributes := #[] }] 33 0 #[] #[])
  fields := #[]
  methods := #[k0m0]
  instanceTypes := #[]
  staticTypes := #[]
  resolved := Array.replicate 124 none
  statics := none }

def pool1 : Array CpInfo := pool [(2, .class_ 4), (1, u "java/lang/Object"), (0, u "<init>"), (0, u "()V"), (0, .methodref 8 9), (0, .class_ 10), (0, .nameAndType 11 12), (0, u "com/example/rules_for_records/rulesforrecords/messageinterpolation/MessageSyntaxEscapesNextPinLaw"), (0, u "draw"), (0, u "(I)C"), (0, .class_ 14), (0, u "java/lang/String"), (0, .methodref 13 16), (0, .nameAndType 5 17), (0, u "([C)V"), (0, .integer 2147483647), (0, .methodref 8 20), (0, .nameAndType 21 22), (0, u "escapable"), (0, u "(C)Z"), (0, .methodref 24 25), (0, .class_ 26), (0, .nameAndType 27 28), (0, u "com/example/rules_for_records/rulesforrecords/messageinterpolation/MessageSyntax"), (0, u "escapesNext"), (0, u "(Ljava/lang/String;I)Z"), (3, u "law"), (0, u "(IIIIII)Z")] 4

def k1m0 : Method := { name := "<init>", desc := "()V", sig := { parameters := [], returnType := none }, accessFlags := 2, code := none }
def k1c1 : Code := { maxStack := 2, maxLocals := 2, code := method_2_code, exceptionTable := #[], attributes := #[] }
def k1m1 : Method := { name := "draw", desc := "(I)C", sig := { parameters := [.int], returnType := some .char }, accessFlags := 10, code := some k1c1 }
def k1c2 : Code := { maxStack := 2, maxLocals := 1, code := method_3_code, exceptionTable := #[], attributes := #[] }
def k1m2 : Method := { name := "escapable", desc := "(C)Z", sig := { parameters := [.char], returnType := some .boolean }, accessFlags := 10, code := some k1c2 }
def k1c3 : Code := { maxStack := 6, maxLocals := 16, code := code, exceptionTable := #[], attributes := #[] }
def k1m3 : Method := { name := "law", desc := "(IIIIII)Z", sig := { parameters := [.int, .int, .int, .int, .int, .int], returnType := some .boolean }, accessFlags := 9, code := some k1c3 }
/-- com/example/rules_for_records/rulesforrecords/messageinterpolation/MessageSyntaxEscapesNextPinLaw -/
def k1 : Class := { plain "com/example/rules_for_records/rulesforrecords/messageinterpolation/MessageSyntaxEscapesNextPinLaw" (some 0) with
  accessFlags := 49
  interfaces := #[]
  cf := some (fileOf pool1 8 #[] #[{ accessFlags := 2, nameIndex := 5, descriptorIndex := 6, attributes := #[] }, { accessFlags := 10, nameIndex := 11, descriptorIndex := 12, attributes := #[] }, { accessFlags := 10, nameIndex := 21, descriptorIndex := 22, attributes := #[] }, { accessFlags := 9, nameIndex := 32, descriptorIndex := 33, attributes := #[] }] 49 2 #[] #[])
  fields := #[]
  methods := #[k1m0, k1m1, k1m2, k1m3]
  instanceTypes := #[]
  staticTypes := #[]
  resolved := Array.replicate 38 none
  statics := none }

def pool2 : Array CpInfo := pool [(1, .class_ 2), (0, u "java/io/Serializable"), (0, .class_ 4), (0, u "java/lang/Object")] 2

/-- java/io/Serializable -/
def k2 : Class := { plain "java/io/Serializable" (some 0) with
  accessFlags := 1537
  interfaces := #[]
  cf := some (fileOf pool2 1 #[] #[] 1537 3 #[] #[])
  fields := #[]
  methods := #[]
  instanceTypes := #[]
  staticTypes := #[]
  resolved := Array.replicate 7 none
  statics := none }

def pool3 : Array CpInfo := pool [(1, .class_ 2), (0, u "java/lang/Comparable"), (0, .class_ 4), (0, u "java/lang/Object")] 7

/-- java/lang/Comparable -/
def k3 : Class := { plain "java/lang/Comparable" (some 0) with
  accessFlags := 1537
  interfaces := #[]
  cf := some (fileOf pool3 1 #[] #[] 1537 3 #[] #[])
  fields := #[]
  methods := #[]
  instanceTypes := #[]
  staticTypes := #[]
  resolved := Array.replicate 12 none
  statics := none }

def pool4 : Array CpInfo := pool [(2, .class_ 4), (1, u "java/lang/CharSequence"), (42, .class_ 48), (0, u "java/lang/CharSequence$1CodePointIterator"), (10, .class_ 60), (0, u "java/lang/CharSequence$1CharIterator"), (5, .class_ 67), (0, u "java/lang/Object")] 63

/-- java/lang/CharSequence -/
def k4 : Class := { plain "java/lang/CharSequence" (some 0) with
  accessFlags := 1537
  interfaces := #[]
  cf := some (fileOf pool4 2 #[.nestMembers #[47, 59]] #[] 1537 66 #[] #[])
  fields := #[]
  methods := #[]
  instanceTypes := #[]
  staticTypes := #[]
  resolved := Array.replicate 131 none
  statics := none }

def pool5 : Array CpInfo := pool [(1, .class_ 2), (0, u "java/lang/constant/Constable"), (0, .class_ 4), (0, u "java/lang/Object")] 6

/-- java/lang/constant/Constable -/
def k5 : Class := { plain "java/lang/constant/Constable" (some 0) with
  accessFlags := 1537
  interfaces := #[]
  cf := some (fileOf pool5 1 #[] #[] 1537 3 #[] #[])
  fields := #[]
  methods := #[]
  instanceTypes := #[]
  staticTypes := #[]
  resolved := Array.replicate 11 none
  statics := none }

def pool6 : Array CpInfo := pool [(1, .class_ 2), (0, u "java/lang/constant/ConstantDesc"), (0, .class_ 4), (0, u "java/lang/Object")] 32

/-- java/lang/constant/ConstantDesc -/
def k6 : Class := { plain "java/lang/constant/ConstantDesc" (some 0) with
  accessFlags := 1537
  interfaces := #[]
  cf := some (fileOf pool6 1 #[] #[] 1537 3 #[] #[])
  fields := #[]
  methods := #[]
  instanceTypes := #[]
  staticTypes := #[]
  resolved := Array.replicate 37 none
  statics := none }

def pool7 : Array CpInfo := pool [(1, .methodref 2 3), (0, .class_ 4), (0, .nameAndType 5 6), (0, u "java/lang/Object"), (0, u "<init>"), (0, u "()V"), (2, .fieldref 10 11), (0, .class_ 12), (0, .nameAndType 13 14), (0, u "java/lang/String"), (0, u "value"), (0, u "[B"), (0, .fieldref 10 16), (0, .nameAndType 17 18), (0, u "coder"), (0, u "B"), (2, u "hash"), (0, u "I"), (2, u "hashIsZero"), (0, u "Z"), (0, .methodref 10 28), (0, .nameAndType 5 29), (0, u "([CIILjava/lang/Void;)V"), (8, .fieldref 10 39), (0, .nameAndType 40 26), (0, u "COMPACT_STRINGS"), (1, .class_ 44), (1, u "java/lang/StringUTF16"), (0, u "compress"), (1, .methodref 42 48), (0, .nameAndType 49 50), (0, u "coderFromArrayLen"), (0, u "([BI)B"), (56, .class_ 109), (1, u "java/lang/StringLatin1"), (32, u "()Z"), (34, .methodref 42 178), (0, .nameAndType 45 179), (0, u "([CII)[B"), (154, u "()I"), (0, .methodref 10 336), (0, .nameAndType 17 337), (0, u "()B"), (25, u "([BI)C"), (27, u "(II)V"), (35, u "(I)C"), (64, .methodref 10 493), (0, .nameAndType 494 142), (0, u "isLatin1"), (0, .methodref 107 496), (0, .nameAndType 497 363), (0, u "charAt"), (3, u "checkIndex"), (3, .methodref 10 506), (0, .nameAndType 507 334), (0, u "length"), (67, .class_ 576), (0, u "java/lang/CharSequence"), (22, u "CASE_INSENSITIVE_ORDER"), (0, u "Ljava/util/Comparator;"), (32, .methodref 10 634), (0, .nameAndType 635 636), (0, u "indexOf"), (0, u "(II)I"), (0, .methodref 107 638), (0, .nameAndType 635 639), (0, u "([BIII)I"), (125, u "(I)I"), (244, u "([C)V"), (42, .fieldref 1054 1055), (0, .class_ 1056), (0, .nameAndType 1057 1058), (0, u "jdk/internal/util/Preconditions"), (0, u "SIOOBE_FORMATTER"), (0, u "Ljava/util/function/BiFunction;"), (0, .methodref 1054 1060), (0, .nameAndType 501 1061), (0, u "(IILjava/util/function/BiFunction;)I"), (39, u "serialPersistentFields"), (0, u "[Ljava/io/ObjectStreamField;"), (0, .class_ 1104), (0, u "java/lang/String$CaseInsensitiveComparator"), (1, .class_ 1107), (0, u "java/io/Serializable"), (0, .class_ 1109), (0, u "java/lang/Comparable"), (0, .class_ 1111), (0, u "java/lang/constant/Constable"), (0, .class_ 1113), (0, u "java/lang/constant/ConstantDesc"), (2, u "serialVersionUID"), (0, u "J"), (3, u "REPL"), (0, u "C"), (2, u "LATIN1"), (1, u "UTF16")] 323

def k7m0 : Method := { name := "<init>", desc := "()V", sig := { parameters := [], returnType := none }, accessFlags := 1, code := none }
def k7c1 : Code := { maxStack := 5, maxLocals := 2, code := jdk_42_method_3_code, exceptionTable := #[], attributes := #[] }
def k7m1 : Method := { name := "<init>", desc := "([C)V", sig := { parameters := [(.array .char)], returnType := none }, accessFlags := 1, code := some k7c1 }
def k7c2 : Code := { maxStack := 2, maxLocals := 1, code := jdk_42_method_54_code, exceptionTable := #[], attributes := #[] }
def k7m2 : Method := { name := "length", desc := "()I", sig := { parameters := [], returnType := some .int }, accessFlags := 1, code := some k7c2 }
def k7c3 : Code := { maxStack := 2, maxLocals := 2, code := jdk_42_method_56_code, exceptionTable := #[], attributes := #[] }
def k7m3 : Method := { name := "charAt", desc := "(I)C", sig := { parameters := [.int], returnType := some .char }, accessFlags := 1, code := some k7c3 }
def k7c4 : Code := { maxStack := 3, maxLocals := 2, code := jdk_42_method_79_code, exceptionTable := #[], attributes := #[] }
def k7m4 : Method := { name := "indexOf", desc := "(I)I", sig := { parameters := [.int], returnType := some .int }, accessFlags := 1, code := some k7c4 }
def k7c5 : Code := { maxStack := 4, maxLocals := 3, code := jdk_42_method_80_code, exceptionTable := #[], attributes := #[] }
def k7m5 : Method := { name := "indexOf", desc := "(II)I", sig := { parameters := [.int, .int], returnType := some .int }, accessFlags := 1, code := some k7c5 }
def k7c6 : Code := { maxStack := 4, maxLocals := 6, code := jdk_42_method_149_code, exceptionTable := #[], attributes := #[] }
def k7m6 : Method := { name := "<init>", desc := "([CIILjava/lang/Void;)V", sig := { parameters := [(.array .char), .int, .int, (.object "java/lang/Void")], returnType := none }, accessFlags := 2, code := some k7c6 }
def k7c7 : Code := { maxStack := 1, maxLocals := 1, code := jdk_42_method_152_code, exceptionTable := #[], attributes := #[] }
def k7m7 : Method := { name := "coder", desc := "()B", sig := { parameters := [], returnType := some .byte }, accessFlags := 0, code := some k7c7 }
def k7c8 : Code := { maxStack := 1, maxLocals := 1, code := jdk_42_method_154_code, exceptionTable := #[], attributes := #[] }
def k7m8 : Method := { name := "isLatin1", desc := "()Z", sig := { parameters := [], returnType := some .boolean }, accessFlags := 0, code := some k7c8 }
def k7c9 : Code := { maxStack := 3, maxLocals := 2, code := jdk_42_method_155_code, exceptionTable := #[], attributes := #[] }
def k7m9 : Method := { name := "checkIndex", desc := "(II)V", sig := { parameters := [.int, .int], returnType := none }, accessFlags := 8, code := some k7c9 }
/-- java/lang/String -/
def k7 : Class := { plain "java/lang/String" (some 0) with
  accessFlags := 49
  interfaces := #[2, 3, 4, 5, 6]
  cf := some (fileOf pool7 10 #[.nestMembers #[1103]] #[{ accessFlags := 1, nameIndex := 5, descriptorIndex := 6, attributes := #[] }, { accessFlags := 1, nameIndex := 5, descriptorIndex := 1010, attributes := #[] }, { accessFlags := 1, nameIndex := 507, descriptorIndex := 334, attributes := #[] }, { accessFlags := 1, nameIndex := 497, descriptorIndex := 427, attributes := #[] }, { accessFlags := 1, nameIndex := 635, descriptorIndex := 765, attributes := #[] }, { accessFlags := 1, nameIndex := 635, descriptorIndex := 636, attributes := #[] }, { accessFlags := 2, nameIndex := 5, descriptorIndex := 29, attributes := #[] }, { accessFlags := 0, nameIndex := 17, descriptorIndex := 337, attributes := #[] }, { accessFlags := 0, nameIndex := 494, descriptorIndex := 142, attributes := #[] }, { accessFlags := 8, nameIndex := 501, descriptorIndex := 391, attributes := #[] }] 49 2 #[1106, 1108, 575, 1110, 1112] #[{ accessFlags := 18, nameIndex := 13, descriptorIndex := 14, attributes := #[] }, { accessFlags := 18, nameIndex := 17, descriptorIndex := 18, attributes := #[] }, { accessFlags := 2, nameIndex := 21, descriptorIndex := 22, attributes := #[] }, { accessFlags := 2, nameIndex := 25, descriptorIndex := 26, attributes := #[] }, { accessFlags := 26, nameIndex := 1116, descriptorIndex := 1117, attributes := #[] }, { accessFlags := 24, nameIndex := 40, descriptorIndex := 26, attributes := #[] }, { accessFlags := 26, nameIndex := 1101, descriptorIndex := 1102, attributes := #[] }, { accessFlags := 26, nameIndex := 1121, descriptorIndex := 1122, attributes := #[] }, { accessFlags := 25, nameIndex := 599, descriptorIndex := 600, attributes := #[] }, { accessFlags := 24, nameIndex := 1125, descriptorIndex := 18, attributes := #[] }, { accessFlags := 24, nameIndex := 1127, descriptorIndex := 18, attributes := #[] }])
  fields := #[{ name := "value", type := (.array .byte), accessFlags := 18, slot := 0, constantValue := 0 }, { name := "coder", type := .byte, accessFlags := 18, slot := 1, constantValue := 0 }, { name := "hash", type := .int, accessFlags := 2, slot := 2, constantValue := 0 }, { name := "hashIsZero", type := .boolean, accessFlags := 2, slot := 3, constantValue := 0 }, { name := "serialVersionUID", type := .long, accessFlags := 26, slot := 0, constantValue := 0 }, { name := "COMPACT_STRINGS", type := .boolean, accessFlags := 24, slot := 1, constantValue := 0 }, { name := "serialPersistentFields", type := (.array (.object "java/io/ObjectStreamField")), accessFlags := 26, slot := 2, constantValue := 0 }, { name := "REPL", type := .char, accessFlags := 26, slot := 3, constantValue := 0 }, { name := "CASE_INSENSITIVE_ORDER", type := (.object "java/util/Comparator"), accessFlags := 25, slot := 4, constantValue := 0 }, { name := "LATIN1", type := .byte, accessFlags := 24, slot := 5, constantValue := 0 }, { name := "UTF16", type := .byte, accessFlags := 24, slot := 6, constantValue := 0 }]
  methods := #[k7m0, k7m1, k7m2, k7m3, k7m4, k7m5, k7m6, k7m7, k7m8, k7m9]
  instanceTypes := #[(.array .byte), .byte, .int, .boolean]
  staticTypes := #[.long, .boolean, (.array (.object "java/io/ObjectStreamField")), .char, (.object "java/util/Comparator"), .byte, .byte]
  resolved := Array.replicate 1451 none
  statics := some 0 }

def pool8 : Array CpInfo := pool [(6, .class_ 8), (1, u "java/lang/Object"), (0, u "<init>"), (0, u "()V"), (1, .class_ 14), (1, u "java/lang/StringUTF16"), (31, u "$assertionsDisabled"), (0, u "Z"), (13, u "HI_BYTE_SHIFT"), (0, u "I"), (2, u "LO_BYTE_SHIFT"), (49, .methodref 12 116), (0, .nameAndType 117 118), (0, u "compress"), (0, u "([CI[BII)I"), (3, u "([CII)[B"), (138, u "coderFromArrayLen"), (0, u "([BI)B"), (106, .class_ 371), (1, u "java/lang/StringUTF16$LinesSpliterator"), (58, u "MAX_LENGTH"), (196, .class_ 628), (0, u "java/lang/StringUTF16$CodePointsSpliterator"), (0, .class_ 630), (0, u "java/lang/StringUTF16$CharsSpliterator")] 4

def k8m0 : Method := { name := "<init>", desc := "()V", sig := { parameters := [], returnType := none }, accessFlags := 0, code := none }
def k8c1 : Code := { maxStack := 2, maxLocals := 2, code := jdk_52_method_15_code, exceptionTable := #[], attributes := #[] }
def k8m1 : Method := { name := "coderFromArrayLen", desc := "([BI)B", sig := { parameters := [(.array .byte), .int], returnType := some .byte }, accessFlags := 8, code := some k8c1 }
def k8c2 : Code := { maxStack := 5, maxLocals := 6, code := jdk_52_method_16_code, exceptionTable := #[], attributes := #[] }
def k8m2 : Method := { name := "compress", desc := "([CII)[B", sig := { parameters := [(.array .char), .int, .int], returnType := some (.array .byte) }, accessFlags := 9, code := some k8c2 }
def k8c3 : Code := { maxStack := 3, maxLocals := 7, code := jdk_52_method_21_code, exceptionTable := #[], attributes := #[] }
def k8m3 : Method := { name := "compress", desc := "([CI[BII)I", sig := { parameters := [(.array .char), .int, (.array .byte), .int, .int], returnType := some .int }, accessFlags := 9, code := some k8c3 }
/-- java/lang/StringUTF16 -/
def k8 : Class := { plain "java/lang/StringUTF16" (some 0) with
  accessFlags := 48
  interfaces := #[]
  cf := some (fileOf pool8 12 #[.nestMembers #[627, 629, 369]] #[{ accessFlags := 0, nameIndex := 9, descriptorIndex := 10, attributes := #[] }, { accessFlags := 8, nameIndex := 261, descriptorIndex := 262, attributes := #[] }, { accessFlags := 9, nameIndex := 117, descriptorIndex := 122, attributes := #[] }, { accessFlags := 9, nameIndex := 117, descriptorIndex := 118, attributes := #[] }] 48 6 #[] #[{ accessFlags := 26, nameIndex := 61, descriptorIndex := 62, attributes := #[] }, { accessFlags := 26, nameIndex := 65, descriptorIndex := 62, attributes := #[] }, { accessFlags := 24, nameIndex := 430, descriptorIndex := 62, attributes := #[] }, { accessFlags := 4120, nameIndex := 46, descriptorIndex := 47, attributes := #[] }])
  fields := #[{ name := "HI_BYTE_SHIFT", type := .int, accessFlags := 26, slot := 0, constantValue := 0 }, { name := "LO_BYTE_SHIFT", type := .int, accessFlags := 26, slot := 1, constantValue := 0 }, { name := "MAX_LENGTH", type := .int, accessFlags := 24, slot := 2, constantValue := 0 }, { name := "$assertionsDisabled", type := .boolean, accessFlags := 4120, slot := 3, constantValue := 0 }]
  methods := #[k8m0, k8m1, k8m2, k8m3]
  instanceTypes := #[]
  staticTypes := #[.int, .int, .int, .boolean]
  resolved := Array.replicate 635 none
  statics := none }

def pool9 : Array CpInfo := pool [(2, .class_ 4), (1, u "java/lang/Object"), (0, u "<init>"), (0, u "()V"), (0, .methodref 8 9), (0, .class_ 10), (0, .nameAndType 11 12), (0, u "java/lang/String"), (0, u "charAt"), (0, u "(I)C"), (0, .methodref 8 14), (0, .nameAndType 15 16), (0, u "length"), (0, u "()I"), (0, .class_ 18), (0, u "com/example/rules_for_records/rulesforrecords/messageinterpolation/MessageSyntax"), (0, .string 20), (0, u "{}$\\"), (0, .methodref 8 22), (0, .nameAndType 23 24), (0, u "indexOf"), (0, u "(I)I"), (13, u "ESCAPABLE"), (0, u "Ljava/lang/String;"), (3, u "escapesNext"), (0, u "(Ljava/lang/String;I)Z")] 5

def k9m0 : Method := { name := "<init>", desc := "()V", sig := { parameters := [], returnType := none }, accessFlags := 2, code := none }
def k9c1 : Code := { maxStack := 4, maxLocals := 2, code := prog_14_method_2_code, exceptionTable := #[], attributes := #[] }
def k9m1 : Method := { name := "escapesNext", desc := "(Ljava/lang/String;I)Z", sig := { parameters := [(.object "java/lang/String"), .int], returnType := some .boolean }, accessFlags := 8, code := some k9c1 }
/-- com/example/rules_for_records/rulesforrecords/messageinterpolation/MessageSyntax -/
def k9 : Class := { plain "com/example/rules_for_records/rulesforrecords/messageinterpolation/MessageSyntax" (some 0) with
  accessFlags := 32
  interfaces := #[]
  cf := some (fileOf pool9 17 #[] #[{ accessFlags := 2, nameIndex := 5, descriptorIndex := 6, attributes := #[] }, { accessFlags := 8, nameIndex := 43, descriptorIndex := 44, attributes := #[] }] 32 2 #[] #[{ accessFlags := 26, nameIndex := 38, descriptorIndex := 39, attributes := #[] }])
  fields := #[{ name := "ESCAPABLE", type := (.object "java/lang/String"), accessFlags := 26, slot := 0, constantValue := 0 }]
  methods := #[k9m0, k9m1]
  instanceTypes := #[]
  staticTypes := #[(.object "java/lang/String")]
  resolved := Array.replicate 50 none
  statics := none }

def pool10 : Array CpInfo := pool [(1, .class_ 2), (0, u "java/lang/String"), (1, .class_ 6), (1, u "java/lang/Object"), (0, u "<init>"), (0, u "()V"), (0, .methodref 1 10), (0, .nameAndType 11 12), (0, u "checkIndex"), (0, u "(II)V"), (1, .class_ 16), (1, u "java/lang/StringLatin1"), (21, .methodref 39 40), (0, .class_ 41), (0, .nameAndType 42 43), (0, u "java/lang/Math"), (0, u "min"), (0, u "(II)I"), (9, u "([BI)C"), (34, .methodref 14 89), (0, .nameAndType 90 91), (0, u "canEncode"), (0, u "(I)Z"), (0, .methodref 39 93), (0, .nameAndType 94 43), (0, u "max"), (0, .methodref 14 96), (0, .nameAndType 97 98), (0, u "indexOfChar"), (0, u "([BIII)I"), (2, u "indexOf"), (19, u "$assertionsDisabled"), (0, u "Z"), (98, .class_ 223), (1, u "java/lang/StringLatin1$LinesSpliterator"), (28, u "charAt"), (137, .class_ 391), (0, u "java/lang/StringLatin1$CharsSpliterator")] 3

def k10m0 : Method := { name := "<init>", desc := "()V", sig := { parameters := [], returnType := none }, accessFlags := 0, code := none }
def k10c1 : Code := { maxStack := 2, maxLocals := 2, code := jdk_43_method_2_code, exceptionTable := #[], attributes := #[] }
def k10m1 : Method := { name := "charAt", desc := "([BI)C", sig := { parameters := [(.array .byte), .int], returnType := some .char }, accessFlags := 9, code := some k10c1 }
def k10c2 : Code := { maxStack := 2, maxLocals := 1, code := jdk_43_method_4_code, exceptionTable := #[], attributes := #[] }
def k10m2 : Method := { name := "canEncode", desc := "(I)Z", sig := { parameters := [.int], returnType := some .boolean }, accessFlags := 9, code := some k10c2 }
def k10c3 : Code := { maxStack := 4, maxLocals := 4, code := jdk_43_method_22_code, exceptionTable := #[], attributes := #[] }
def k10m3 : Method := { name := "indexOf", desc := "([BIII)I", sig := { parameters := [(.array .byte), .int, .int, .int], returnType := some .int }, accessFlags := 9, code := some k10c3 }
def k10c4 : Code := { maxStack := 2, maxLocals := 6, code := jdk_43_method_23_code, exceptionTable := #[], attributes := #[] }
def k10m4 : Method := { name := "indexOfChar", desc := "([BIII)I", sig := { parameters := [(.array .byte), .int, .int, .int], returnType := some .int }, accessFlags := 10, code := some k10c4 }
/-- java/lang/StringLatin1 -/
def k10 : Class := { plain "java/lang/StringLatin1" (some 0) with
  accessFlags := 48
  interfaces := #[]
  cf := some (fileOf pool10 14 #[.nestMembers #[390, 221]] #[{ accessFlags := 0, nameIndex := 7, descriptorIndex := 8, attributes := #[] }, { accessFlags := 9, nameIndex := 252, descriptorIndex := 53, attributes := #[] }, { accessFlags := 9, nameIndex := 90, descriptorIndex := 91, attributes := #[] }, { accessFlags := 9, nameIndex := 101, descriptorIndex := 98, attributes := #[] }, { accessFlags := 10, nameIndex := 97, descriptorIndex := 98, attributes := #[] }] 48 4 #[] #[{ accessFlags := 4120, nameIndex := 121, descriptorIndex := 122, attributes := #[] }])
  fields := #[{ name := "$assertionsDisabled", type := .boolean, accessFlags := 4120, slot := 0, constantValue := 0 }]
  methods := #[k10m0, k10m1, k10m2, k10m3, k10m4]
  instanceTypes := #[]
  staticTypes := #[.boolean]
  resolved := Array.replicate 395 none
  statics := none }

def pool11 : Array CpInfo := pool [(2, .class_ 4), (1, u "java/lang/Object"), (0, u "<init>"), (0, u "()V"), (17, .class_ 26), (1, u "jdk/internal/util/Preconditions"), (6, u "checkIndex"), (21, .class_ 56), (0, u "jdk/internal/util/Preconditions$4"), (57, .class_ 115), (0, u "jdk/internal/util/Preconditions$1"), (7, u "SIOOBE_FORMATTER"), (0, u "Ljava/util/function/BiFunction;"), (0, .class_ 126), (0, u "jdk/internal/util/Preconditions$2"), (3, u "AIOOBE_FORMATTER"), (0, .class_ 132), (0, u "jdk/internal/util/Preconditions$3"), (3, u "IOOBE_FORMATTER"), (41, u "(IILjava/util/function/BiFunction;)I")] 15

def k11m0 : Method := { name := "<init>", desc := "()V", sig := { parameters := [], returnType := none }, accessFlags := 1, code := none }
def k11c1 : Code := { maxStack := 3, maxLocals := 3, code := jdk_41_method_11_code, exceptionTable := #[], attributes := #[] }
def k11m1 : Method := { name := "checkIndex", desc := "(IILjava/util/function/BiFunction;)I", sig := { parameters := [.int, .int, (.object "java/util/function/BiFunction")], returnType := some .int }, accessFlags := 9, code := some k11c1 }
/-- jdk/internal/util/Preconditions -/
def k11 : Class := { plain "jdk/internal/util/Preconditions" (some 0) with
  accessFlags := 33
  interfaces := #[]
  cf := some (fileOf pool11 24 #[.nestMembers #[55, 131, 125, 114]] #[{ accessFlags := 1, nameIndex := 5, descriptorIndex := 6, attributes := #[] }, { accessFlags := 9, nameIndex := 33, descriptorIndex := 178, attributes := #[] }] 33 2 #[] #[{ accessFlags := 25, nameIndex := 123, descriptorIndex := 124, attributes := #[] }, { accessFlags := 25, nameIndex := 130, descriptorIndex := 124, attributes := #[] }, { accessFlags := 25, nameIndex := 136, descriptorIndex := 124, attributes := #[] }])
  fields := #[{ name := "SIOOBE_FORMATTER", type := (.object "java/util/function/BiFunction"), accessFlags := 25, slot := 0, constantValue := 0 }, { name := "AIOOBE_FORMATTER", type := (.object "java/util/function/BiFunction"), accessFlags := 25, slot := 1, constantValue := 0 }, { name := "IOOBE_FORMATTER", type := (.object "java/util/function/BiFunction"), accessFlags := 25, slot := 2, constantValue := 0 }]
  methods := #[k11m0, k11m1]
  instanceTypes := #[]
  staticTypes := #[(.object "java/util/function/BiFunction"), (.object "java/util/function/BiFunction"), (.object "java/util/function/BiFunction")]
  resolved := Array.replicate 194 none
  statics := some 1 }

def pool12 : Array CpInfo := pool [(1, .class_ 2), (0, u "java/lang/Math"), (1, .class_ 6), (1, u "java/lang/Object"), (0, u "<init>"), (0, u "()V"), (89, .class_ 100), (1, u "java/lang/Math$RandomNumberGeneratorHolder"), (71, u "negativeZeroFloatBits"), (0, u "J"), (2, u "negativeZeroDoubleBits"), (21, u "max"), (2, u "min"), (43, u "$assertionsDisabled"), (0, u "Z"), (88, u "(II)I"), (2, u "twoToTheDoubleScaleDown"), (0, u "D"), (4, u "twoToTheDoubleScaleUp"), (9, u "E"), (3, u "PI"), (2, u "TAU"), (2, u "DEGREES_TO_RADIANS"), (0, u "RADIANS_TO_DEGREES")] 94

def k12m0 : Method := { name := "<init>", desc := "()V", sig := { parameters := [], returnType := none }, accessFlags := 2, code := none }
def k12c1 : Code := { maxStack := 2, maxLocals := 2, code := jdk_29_method_65_code, exceptionTable := #[], attributes := #[] }
def k12m1 : Method := { name := "max", desc := "(II)I", sig := { parameters := [.int, .int], returnType := some .int }, accessFlags := 9, code := some k12c1 }
def k12c2 : Code := { maxStack := 2, maxLocals := 2, code := jdk_29_method_69_code, exceptionTable := #[], attributes := #[] }
def k12m2 : Method := { name := "min", desc := "(II)I", sig := { parameters := [.int, .int], returnType := some .int }, accessFlags := 9, code := some k12c2 }
/-- java/lang/Math -/
def k12 : Class := { plain "java/lang/Math" (some 0) with
  accessFlags := 49
  interfaces := #[]
  cf := some (fileOf pool12 1 #[.nestMembers #[98]] #[{ accessFlags := 2, nameIndex := 7, descriptorIndex := 8, attributes := #[] }, { accessFlags := 9, nameIndex := 198, descriptorIndex := 335, attributes := #[] }, { accessFlags := 9, nameIndex := 201, descriptorIndex := 335, attributes := #[] }] 49 4 #[] #[{ accessFlags := 25, nameIndex := 354, descriptorIndex := 339, attributes := #[] }, { accessFlags := 25, nameIndex := 358, descriptorIndex := 339, attributes := #[] }, { accessFlags := 25, nameIndex := 361, descriptorIndex := 339, attributes := #[] }, { accessFlags := 26, nameIndex := 364, descriptorIndex := 339, attributes := #[] }, { accessFlags := 26, nameIndex := 365, descriptorIndex := 339, attributes := #[] }, { accessFlags := 26, nameIndex := 172, descriptorIndex := 173, attributes := #[] }, { accessFlags := 26, nameIndex := 176, descriptorIndex := 173, attributes := #[] }, { accessFlags := 8, nameIndex := 344, descriptorIndex := 339, attributes := #[] }, { accessFlags := 8, nameIndex := 338, descriptorIndex := 339, attributes := #[] }, { accessFlags := 4120, nameIndex := 245, descriptorIndex := 246, attributes := #[] }])
  fields := #[{ name := "E", type := .double, accessFlags := 25, slot := 0, constantValue := 0 }, { name := "PI", type := .double, accessFlags := 25, slot := 1, constantValue := 0 }, { name := "TAU", type := .double, accessFlags := 25, slot := 2, constantValue := 0 }, { name := "DEGREES_TO_RADIANS", type := .double, accessFlags := 26, slot := 3, constantValue := 0 }, { name := "RADIANS_TO_DEGREES", type := .double, accessFlags := 26, slot := 4, constantValue := 0 }, { name := "negativeZeroFloatBits", type := .long, accessFlags := 26, slot := 5, constantValue := 0 }, { name := "negativeZeroDoubleBits", type := .long, accessFlags := 26, slot := 6, constantValue := 0 }, { name := "twoToTheDoubleScaleUp", type := .double, accessFlags := 8, slot := 7, constantValue := 0 }, { name := "twoToTheDoubleScaleDown", type := .double, accessFlags := 8, slot := 8, constantValue := 0 }, { name := "$assertionsDisabled", type := .boolean, accessFlags := 4120, slot := 9, constantValue := 0 }]
  methods := #[k12m0, k12m1, k12m2]
  instanceTypes := #[]
  staticTypes := #[.double, .double, .double, .double, .double, .long, .long, .double, .double, .boolean]
  resolved := Array.replicate 460 none
  statics := none }

def pool13 : Array CpInfo := pool [(9, u "<init>"), (6, .class_ 18), (1, u "java/lang/Object"), (0, u "()V"), (1, .class_ 23), (1, u "jdk/internal/util/ArraysSupport"), (0, u "LOG2_ARRAY_LONG_INDEX_SCALE"), (0, u "I"), (2, u "U"), (0, u "Ljdk/internal/misc/Unsafe;"), (8, u "BIG_ENDIAN"), (0, u "Z"), (8, u "LOG2_BYTE_BIT_SIZE"), (4, u "LOG2_ARRAY_INT_INDEX_SCALE"), (54, u "JLA"), (0, u "Ljdk/internal/access/JavaLangAccess;"), (11, u "LOG2_ARRAY_BOOLEAN_INDEX_SCALE"), (9, u "LOG2_ARRAY_BYTE_INDEX_SCALE"), (5, u "LOG2_ARRAY_CHAR_INDEX_SCALE"), (5, u "LOG2_ARRAY_SHORT_INDEX_SCALE"), (18, u "LOG2_ARRAY_FLOAT_INDEX_SCALE"), (24, u "LOG2_ARRAY_DOUBLE_INDEX_SCALE"), (89, u "T_BOOLEAN"), (2, u "T_CHAR"), (1, u "T_FLOAT"), (1, u "T_DOUBLE"), (1, u "T_BYTE"), (1, u "T_SHORT"), (1, u "T_INT"), (1, u "T_LONG"), (1, u "SOFT_MAX_ARRAY_LENGTH")] 83

def k13m0 : Method := { name := "<init>", desc := "()V", sig := { parameters := [], returnType := none }, accessFlags := 2, code := none }
/-- jdk/internal/util/ArraysSupport -/
def k13 : Class := { plain "jdk/internal/util/ArraysSupport" (some 0) with
  accessFlags := 33
  interfaces := #[]
  cf := some (fileOf pool13 21 #[] #[{ accessFlags := 2, nameIndex := 9, descriptorIndex := 19, attributes := #[] }] 33 16 #[] #[{ accessFlags := 24, nameIndex := 28, descriptorIndex := 29, attributes := #[] }, { accessFlags := 26, nameIndex := 38, descriptorIndex := 39, attributes := #[] }, { accessFlags := 25, nameIndex := 121, descriptorIndex := 25, attributes := #[] }, { accessFlags := 25, nameIndex := 131, descriptorIndex := 25, attributes := #[] }, { accessFlags := 25, nameIndex := 137, descriptorIndex := 25, attributes := #[] }, { accessFlags := 25, nameIndex := 143, descriptorIndex := 25, attributes := #[] }, { accessFlags := 25, nameIndex := 53, descriptorIndex := 25, attributes := #[] }, { accessFlags := 25, nameIndex := 24, descriptorIndex := 25, attributes := #[] }, { accessFlags := 25, nameIndex := 162, descriptorIndex := 25, attributes := #[] }, { accessFlags := 25, nameIndex := 187, descriptorIndex := 25, attributes := #[] }, { accessFlags := 26, nameIndex := 48, descriptorIndex := 25, attributes := #[] }, { accessFlags := 25, nameIndex := 277, descriptorIndex := 25, attributes := #[] }, { accessFlags := 25, nameIndex := 280, descriptorIndex := 25, attributes := #[] }, { accessFlags := 25, nameIndex := 282, descriptorIndex := 25, attributes := #[] }, { accessFlags := 25, nameIndex := 284, descriptorIndex := 25, attributes := #[] }, { accessFlags := 25, nameIndex := 286, descriptorIndex := 25, attributes := #[] }, { accessFlags := 25, nameIndex := 288, descriptorIndex := 25, attributes := #[] }, { accessFlags := 25, nameIndex := 290, descriptorIndex := 25, attributes := #[] }, { accessFlags := 25, nameIndex := 292, descriptorIndex := 25, attributes := #[] }, { accessFlags := 26, nameIndex := 108, descriptorIndex := 109, attributes := #[] }, { accessFlags := 25, nameIndex := 294, descriptorIndex := 25, attributes := #[] }])
  fields := #[{ name := "U", type := (.object "jdk/internal/misc/Unsafe"), accessFlags := 24, slot := 0, constantValue := 0 }, { name := "BIG_ENDIAN", type := .boolean, accessFlags := 26, slot := 1, constantValue := 0 }, { name := "LOG2_ARRAY_BOOLEAN_INDEX_SCALE", type := .int, accessFlags := 25, slot := 2, constantValue := 0 }, { name := "LOG2_ARRAY_BYTE_INDEX_SCALE", type := .int, accessFlags := 25, slot := 3, constantValue := 0 }, { name := "LOG2_ARRAY_CHAR_INDEX_SCALE", type := .int, accessFlags := 25, slot := 4, constantValue := 0 }, { name := "LOG2_ARRAY_SHORT_INDEX_SCALE", type := .int, accessFlags := 25, slot := 5, constantValue := 0 }, { name := "LOG2_ARRAY_INT_INDEX_SCALE", type := .int, accessFlags := 25, slot := 6, constantValue := 0 }, { name := "LOG2_ARRAY_LONG_INDEX_SCALE", type := .int, accessFlags := 25, slot := 7, constantValue := 0 }, { name := "LOG2_ARRAY_FLOAT_INDEX_SCALE", type := .int, accessFlags := 25, slot := 8, constantValue := 0 }, { name := "LOG2_ARRAY_DOUBLE_INDEX_SCALE", type := .int, accessFlags := 25, slot := 9, constantValue := 0 }, { name := "LOG2_BYTE_BIT_SIZE", type := .int, accessFlags := 26, slot := 10, constantValue := 0 }, { name := "T_BOOLEAN", type := .int, accessFlags := 25, slot := 11, constantValue := 0 }, { name := "T_CHAR", type := .int, accessFlags := 25, slot := 12, constantValue := 0 }, { name := "T_FLOAT", type := .int, accessFlags := 25, slot := 13, constantValue := 0 }, { name := "T_DOUBLE", type := .int, accessFlags := 25, slot := 14, constantValue := 0 }, { name := "T_BYTE", type := .int, accessFlags := 25, slot := 15, constantValue := 0 }, { name := "T_SHORT", type := .int, accessFlags := 25, slot := 16, constantValue := 0 }, { name := "T_INT", type := .int, accessFlags := 25, slot := 17, constantValue := 0 }, { name := "T_LONG", type := .int, accessFlags := 25, slot := 18, constantValue := 0 }, { name := "JLA", type := (.object "jdk/internal/access/JavaLangAccess"), accessFlags := 26, slot := 19, constantValue := 0 }, { name := "SOFT_MAX_ARRAY_LENGTH", type := .int, accessFlags := 25, slot := 20, constantValue := 0 }]
  methods := #[k13m0]
  instanceTypes := #[]
  staticTypes := #[(.object "jdk/internal/misc/Unsafe"), .boolean, .int, .int, .int, .int, .int, .int, .int, .int, .int, .int, .int, .int, .int, .int, .int, .int, .int, (.object "jdk/internal/access/JavaLangAccess"), .int]
  resolved := Array.replicate 378 none
  statics := none }

def pool14 : Array CpInfo := pool [(1, u "java/lang/Cloneable"), (0, .class_ 1), (0, u "java/lang/Object"), (0, .class_ 3)] 3

/-- java/lang/Cloneable -/
def k14 : Class := { plain "java/lang/Cloneable" (some 0) with
  accessFlags := 1537
  interfaces := #[]
  cf := some (fileOf pool14 2 #[] #[] 1537 4 #[] #[])
  fields := #[]
  methods := #[]
  instanceTypes := #[]
  staticTypes := #[]
  resolved := Array.replicate 8 none
  statics := none }

/-- the primitive byte -/
def k15 : Class := { plain "byte" none with kind := .primitive 'B', accessFlags := 0x411 }
/-- [B -/
def k16 : Class := { plain "[B" (some 0) with kind := .array 15 .byte, interfaces := #[14, 2], accessFlags := 1041 }

/-- the primitive char -/
def k17 : Class := { plain "char" none with kind := .primitive 'C', accessFlags := 0x411 }
/-- [C -/
def k18 : Class := { plain "[C" (some 0) with kind := .array 17 .char, interfaces := #[14, 2], accessFlags := 1041 }

/-- the primitive int -/
def k19 : Class := { plain "int" none with kind := .primitive 'I', accessFlags := 0x411 }
/-- [I -/
def k20 : Class := { plain "[I" (some 0) with kind := .array 19 .int, interfaces := #[14, 2], accessFlags := 1041 }

def heap : Heap := #[{ cls := 7, slots := #[.long 0, .int 1, .null, .int 0, .null, .int 0, .int 0], vm := .statics 7 },
  { cls := 11, slots := #[.null, .null, .null], vm := .statics 11 }]
def classes : Array Class := #[k0, k1, k2, k3, k4, k5, k6, k7, k8, k9, k10, k11, k12, k13, k14, k15, k16, k17, k18, k19, k20]
def interned : List (Array UInt16 × Addr) := []
def slotsUsed : Nat := 10
def theMethod : MethodId := ⟨1, 3⟩
def args0 : Array Value := #[.int 0, .int 1, .int 2, .int 3, .int 4, .int 5]
def aboutOver (below : List Frame) : State where
  vm := { classes := classes, interned := interned.toArray }
  heap := heap
  slotsUsed := slotsUsed
  threads := #[{ frames := .invoking theMethod args0 :: below }]
def below0 : List Frame := [.native { method := ⟨0, 0⟩, args := #[] }]
def about1 : State := aboutOver below0
def p0 : Program := .bare "" "" ""
def e0 : Env := launch0.env 0 0 0
theorem w_frames : about1.frames = Frame.invoking theMethod args0 :: below0 := rfl
set_option maxRecDepth 65536 in
theorem w_args : argsFit about1.vm theMethod args0 = true := by decide +kernel
set_option maxRecDepth 65536 in
theorem w_heap : heapFits about1 = true := by decide +kernel
set_option maxRecDepth 65536 in
theorem w_runnable : about1.curStatus? = some .runnable := by decide +kernel
set_option maxRecDepth 65536 in
theorem w_alone : about1.alone = true := by decide +kernel
set_option maxRecDepth 65536 in
theorem w_named : about1.methodNamed? x = some theMethod := by decide +kernel
set_option maxRecDepth 65536 in
theorem w_hears : about1.hears theMethod below0 = true := by decide +kernel
set_option maxRecDepth 65536 in
theorem w_ripe : about1.ripe theMethod args0 below0 = true := by decide +kernel
theorem w_running : about1.status = .running := rfl
set_option maxRecDepth 65536 in
theorem w_room : about1.hasRoom e0.platform room_1 = true :=
  launch0.hasRoom_least _ room_1 (by decide +kernel) (by decide +kernel) (by decide +kernel) (by decide +kernel) (by decide +kernel) (by decide +kernel)
theorem allAtoms_all (ts : List Jvm.Cond) (a : Array Jvm.Value) (st : Jvm.State) : (allAtoms ts).before a st = ts.all (fun c => c.before a st) := by
  induction ts with
  | nil => rfl
  | cons c t ih =>
    show (Jvm.Cond.and c (allAtoms t)).before a st = _
    rw [Jvm.Cond.before_and, ih, List.all_cons]
def words1 : List Jvm.Cond := Jvm.Cond.code x code maxLocals ret :: tables_1
/-- a 'code' word, met by the world's own term for the bytes: nothing is compared byte by byte -/
theorem code_word {y : MethodName} {bytes : ByteArray} {mx : Nat} {rt : Option FieldType} {a : Array Value} {s : State} {m : MethodId} {meth : Method} {c : Code} (h1 : s.methodNamed? y = some m) (h2 : s.vm.method? m = some meth) (h3 : meth.code = some c) (h4 : c.code = bytes)
    (h5 : (c.maxLocals == mx && c.exceptionTable.isEmpty && decide (c.maxStack ≤ mostOperands) && decide (meth.sig.returnType = rt) && !meth.locks && decide (parseMethodDescriptor y.desc = some meth.sig)) = true) : (Jvm.Cond.code y bytes mx rt).before a s = true := by
  simp only [Bool.and_eq_true, beq_iff_eq, Bool.not_eq_true', decide_eq_true_eq] at h5
  obtain ⟨⟨⟨⟨⟨g1, g2⟩, g3⟩, g4⟩, g5⟩, g6⟩ := h5
  simp [Cond.before, Cond.holds, Cond.value, h1, h2, h3, h4, g1, g2, g3, g4, g5, g6]
def isCode : Jvm.Cond → Bool
  | .code _ _ _ _ => true
  | _ => false
theorem all_split {L : List Jvm.Cond} {P : Jvm.Cond → Bool} (h1 : L.all (fun c => isCode c || P c) = true) (h2 : ∀ c ∈ L.filter isCode, P c = true) : L.all P = true := by
  refine List.all_eq_true.mpr fun c hc => ?_
  have h := List.all_eq_true.mp h1 c hc
  rcases Bool.eq_false_or_eq_true (isCode c) with hi | hi
  · exact h2 c (List.mem_filter.mpr ⟨hc, hi⟩)
  · simpa [hi] using h
set_option maxRecDepth 65536 in
theorem w_c0 : (Jvm.Cond.code x code maxLocals ret).before args0 about1 = true := code_word (m := ⟨1, 3⟩) (meth := k1m3) (c := k1c3) (by decide +kernel) rfl rfl rfl (by decide +kernel)
set_option maxRecDepth 65536 in
theorem w_c1 : (Jvm.Cond.code ({ cls := "com/example/rules_for_records/rulesforrecords/messageinterpolation/MessageSyntaxEscapesNextPinLaw", name := "draw", desc := "(I)C" } : Jvm.MethodName) method_2_code (2 : Nat) (Option.some Jvm.ClassFile.FieldType.char)).before args0 about1 = true := code_word (m := ⟨1, 1⟩) (meth := k1m1) (c := k1c1) (by decide +kernel) rfl rfl rfl (by decide +kernel)
set_option maxRecDepth 65536 in
theorem w_c2 : (Jvm.Cond.code ({ cls := "java/lang/String", name := "<init>", desc := "([C)V" } : Jvm.MethodName) jdk_42_method_3_code (2 : Nat) (Option.none : Option Jvm.ClassFile.FieldType)).before args0 about1 = true := code_word (m := ⟨7, 1⟩) (meth := k7m1) (c := k7c1) (by decide +kernel) rfl rfl rfl (by decide +kernel)
set_option maxRecDepth 65536 in
theorem w_c3 : (Jvm.Cond.code ({ cls := "java/lang/String", name := "<init>", desc := "([CIILjava/lang/Void;)V" } : Jvm.MethodName) jdk_42_method_149_code (6 : Nat) (Option.none : Option Jvm.ClassFile.FieldType)).before args0 about1 = true := code_word (m := ⟨7, 6⟩) (meth := k7m6) (c := k7c6) (by decide +kernel) rfl rfl rfl (by decide +kernel)
set_option maxRecDepth 65536 in
theorem w_c4 : (Jvm.Cond.code ({ cls := "java/lang/Object", name := "<init>", desc := "()V" } : Jvm.MethodName) object_method_1_code (1 : Nat) (Option.none : Option Jvm.ClassFile.FieldType)).before args0 about1 = true := code_word (m := ⟨0, 0⟩) (meth := k0m0) (c := k0c0) (by decide +kernel) rfl rfl rfl (by decide +kernel)
set_option maxRecDepth 65536 in
theorem w_c5 : (Jvm.Cond.code ({ cls := "java/lang/StringUTF16", name := "compress", desc := "([CII)[B" } : Jvm.MethodName) jdk_52_method_16_code (6 : Nat) (Option.some (Jvm.ClassFile.FieldType.array Jvm.ClassFile.FieldType.byte))).before args0 about1 = true := code_word (m := ⟨8, 2⟩) (meth := k8m2) (c := k8c2) (by decide +kernel) rfl rfl rfl (by decide +kernel)
set_option maxRecDepth 65536 in
theorem w_c6 : (Jvm.Cond.code ({ cls := "java/lang/StringUTF16", name := "compress", desc := "([CI[BII)I" } : Jvm.MethodName) jdk_52_method_21_code (7 : Nat) (Option.some Jvm.ClassFile.FieldType.int)).before args0 about1 = true := code_word (m := ⟨8, 3⟩) (meth := k8m3) (c := k8c3) (by decide +kernel) rfl rfl rfl (by decide +kernel)
set_option maxRecDepth 65536 in
theorem w_c7 : (Jvm.Cond.code ({ cls := "java/lang/StringUTF16", name := "coderFromArrayLen", desc := "([BI)B" } : Jvm.MethodName) jdk_52_method_15_code (2 : Nat) (Option.some Jvm.ClassFile.FieldType.byte)).before args0 about1 = true := code_word (m := ⟨8, 1⟩) (meth := k8m1) (c := k8c1) (by decide +kernel) rfl rfl rfl (by decide +kernel)
set_option maxRecDepth 65536 in
theorem w_c8 : (Jvm.Cond.code ({ cls := "com/example/rules_for_records/rulesforrecords/messageinterpolation/MessageSyntax", name := "escapesNext", desc := "(Ljava/lang/String;I)Z" } : Jvm.MethodName) prog_14_method_2_code (2 : Nat) (Option.some Jvm.ClassFile.FieldType.boolean)).before args0 about1 = true := code_word (m := ⟨9, 1⟩) (meth := k9m1) (c := k9c1) (by decide +kernel) rfl rfl rfl (by decide +kernel)
set_option maxRecDepth 65536 in
theorem w_c9 : (Jvm.Cond.code ({ cls := "java/lang/String", name := "charAt", desc := "(I)C" } : Jvm.MethodName) jdk_42_method_56_code (2 : Nat) (Option.some Jvm.ClassFile.FieldType.char)).before args0 about1 = true := code_word (m := ⟨7, 3⟩) (meth := k7m3) (c := k7c3) (by decide +kernel) rfl rfl rfl (by decide +kernel)
set_option maxRecDepth 65536 in
theorem w_c10 : (Jvm.Cond.code ({ cls := "java/lang/String", name := "isLatin1", desc := "()Z" } : Jvm.MethodName) jdk_42_method_154_code (1 : Nat) (Option.some Jvm.ClassFile.FieldType.boolean)).before args0 about1 = true := code_word (m := ⟨7, 8⟩) (meth := k7m8) (c := k7c8) (by decide +kernel) rfl rfl rfl (by decide +kernel)
set_option maxRecDepth 65536 in
theorem w_c11 : (Jvm.Cond.code ({ cls := "java/lang/StringLatin1", name := "charAt", desc := "([BI)C" } : Jvm.MethodName) jdk_43_method_2_code (2 : Nat) (Option.some Jvm.ClassFile.FieldType.char)).before args0 about1 = true := code_word (m := ⟨10, 1⟩) (meth := k10m1) (c := k10c1) (by decide +kernel) rfl rfl rfl (by decide +kernel)
set_option maxRecDepth 65536 in
theorem w_c12 : (Jvm.Cond.code ({ cls := "java/lang/String", name := "checkIndex", desc := "(II)V" } : Jvm.MethodName) jdk_42_method_155_code (2 : Nat) (Option.none : Option Jvm.ClassFile.FieldType)).before args0 about1 = true := code_word (m := ⟨7, 9⟩) (meth := k7m9) (c := k7c9) (by decide +kernel) rfl rfl rfl (by decide +kernel)
set_option maxRecDepth 65536 in
theorem w_c13 : (Jvm.Cond.code ({ cls := "jdk/internal/util/Preconditions", name := "checkIndex", desc := "(IILjava/util/function/BiFunction;)I" } : Jvm.MethodName) jdk_41_method_11_code (3 : Nat) (Option.some Jvm.ClassFile.FieldType.int)).before args0 about1 = true := code_word (m := ⟨11, 1⟩) (meth := k11m1) (c := k11c1) (by decide +kernel) rfl rfl rfl (by decide +kernel)
set_option maxRecDepth 65536 in
theorem w_c14 : (Jvm.Cond.code ({ cls := "java/lang/String", name := "length", desc := "()I" } : Jvm.MethodName) jdk_42_method_54_code (1 : Nat) (Option.some Jvm.ClassFile.FieldType.int)).before args0 about1 = true := code_word (m := ⟨7, 2⟩) (meth := k7m2) (c := k7c2) (by decide +kernel) rfl rfl rfl (by decide +kernel)
set_option maxRecDepth 65536 in
theorem w_c15 : (Jvm.Cond.code ({ cls := "java/lang/String", name := "coder", desc := "()B" } : Jvm.MethodName) jdk_42_method_152_code (1 : Nat) (Option.some Jvm.ClassFile.FieldType.byte)).before args0 about1 = true := code_word (m := ⟨7, 7⟩) (meth := k7m7) (c := k7c7) (by decide +kernel) rfl rfl rfl (by decide +kernel)
set_option maxRecDepth 65536 in
theorem w_c16 : (Jvm.Cond.code ({ cls := "com/example/rules_for_records/rulesforrecords/messageinterpolation/MessageSyntaxEscapesNextPinLaw", name := "escapable", desc := "(C)Z" } : Jvm.MethodName) method_3_code (1 : Nat) (Option.some Jvm.ClassFile.FieldType.boolean)).before args0 about1 = true := code_word (m := ⟨1, 2⟩) (meth := k1m2) (c := k1c2) (by decide +kernel) rfl rfl rfl (by decide +kernel)
set_option maxRecDepth 65536 in
theorem w_c17 : (Jvm.Cond.code ({ cls := "java/lang/String", name := "indexOf", desc := "(I)I" } : Jvm.MethodName) jdk_42_method_79_code (2 : Nat) (Option.some Jvm.ClassFile.FieldType.int)).before args0 about1 = true := code_word (m := ⟨7, 4⟩) (meth := k7m4) (c := k7c4) (by decide +kernel) rfl rfl rfl (by decide +kernel)
set_option maxRecDepth 65536 in
theorem w_c18 : (Jvm.Cond.code ({ cls := "java/lang/String", name := "indexOf", desc := "(II)I" } : Jvm.MethodName) jdk_42_method_80_code (3 : Nat) (Option.some Jvm.ClassFile.FieldType.int)).before args0 about1 = true := code_word (m := ⟨7, 5⟩) (meth := k7m5) (c := k7c5) (by decide +kernel) rfl rfl rfl (by decide +kernel)
set_option maxRecDepth 65536 in
theorem w_c19 : (Jvm.Cond.code ({ cls := "java/lang/StringLatin1", name := "indexOf", desc := "([BIII)I" } : Jvm.MethodName) jdk_43_method_22_code (4 : Nat) (Option.some Jvm.ClassFile.FieldType.int)).before args0 about1 = true := code_word (m := ⟨10, 3⟩) (meth := k10m3) (c := k10c3) (by decide +kernel) rfl rfl rfl (by decide +kernel)
set_option maxRecDepth 65536 in
theorem w_c20 : (Jvm.Cond.code ({ cls := "java/lang/StringLatin1", name := "canEncode", desc := "(I)Z" } : Jvm.MethodName) jdk_43_method_4_code (1 : Nat) (Option.some Jvm.ClassFile.FieldType.boolean)).before args0 about1 = true := code_word (m := ⟨10, 2⟩) (meth := k10m2) (c := k10c2) (by decide +kernel) rfl rfl rfl (by decide +kernel)
set_option maxRecDepth 65536 in
theorem w_c21 : (Jvm.Cond.code ({ cls := "java/lang/Math", name := "max", desc := "(II)I" } : Jvm.MethodName) jdk_29_method_65_code (2 : Nat) (Option.some Jvm.ClassFile.FieldType.int)).before args0 about1 = true := code_word (m := ⟨12, 1⟩) (meth := k12m1) (c := k12c1) (by decide +kernel) rfl rfl rfl (by decide +kernel)
set_option maxRecDepth 65536 in
theorem w_c22 : (Jvm.Cond.code ({ cls := "java/lang/Math", name := "min", desc := "(II)I" } : Jvm.MethodName) jdk_29_method_69_code (2 : Nat) (Option.some Jvm.ClassFile.FieldType.int)).before args0 about1 = true := code_word (m := ⟨12, 2⟩) (meth := k12m2) (c := k12c2) (by decide +kernel) rfl rfl rfl (by decide +kernel)
set_option maxRecDepth 65536 in
theorem w_c23 : (Jvm.Cond.code ({ cls := "java/lang/StringLatin1", name := "indexOfChar", desc := "([BIII)I" } : Jvm.MethodName) jdk_43_method_23_code (6 : Nat) (Option.some Jvm.ClassFile.FieldType.int)).before args0 about1 = true := code_word (m := ⟨10, 4⟩) (meth := k10m4) (c := k10c4) (by decide +kernel) rfl rfl rfl (by decide +kernel)
def codes1 : List Jvm.Cond := [Jvm.Cond.code x code maxLocals ret, Jvm.Cond.code ({ cls := "com/example/rules_for_records/rulesforrecords/messageinterpolation/MessageSyntaxEscapesNextPinLaw", name := "draw", desc := "(I)C" } : Jvm.MethodName) method_2_code (2 : Nat) (Option.some Jvm.ClassFile.FieldType.char), Jvm.Cond.code ({ cls := "java/lang/String", name := "<init>", desc := "([C)V" } : Jvm.MethodName) jdk_42_method_3_code (2 : Nat) (Option.none : Option Jvm.ClassFile.FieldType), Jvm.Cond.code ({ cls := "java/lang/String", name := "<init>", desc := "([CIILjava/lang/Void;)V" } : Jvm.MethodName) jdk_42_method_149_code (6 : Nat) (Option.none : Option Jvm.ClassFile.FieldType), Jvm.Cond.code ({ cls := "java/lang/Object", name := "<init>", desc := "()V" } : Jvm.MethodName) object_method_1_code (1 : Nat) (Option.none : Option Jvm.ClassFile.FieldType), Jvm.Cond.code ({ cls := "java/lang/StringUTF16", name := "compress", desc := "([CII)[B" } : Jvm.MethodName) jdk_52_method_16_code (6 : Nat) (Option.some (Jvm.ClassFile.FieldType.array Jvm.ClassFile.FieldType.byte)), Jvm.Cond.code ({ cls := "java/lang/StringUTF16", name := "compress", desc := "([CI[BII)I" } : Jvm.MethodName) jdk_52_method_21_code (7 : Nat) (Option.some Jvm.ClassFile.FieldType.int), Jvm.Cond.code ({ cls := "java/lang/StringUTF16", name := "coderFromArrayLen", desc := "([BI)B" } : Jvm.MethodName) jdk_52_method_15_code (2 : Nat) (Option.some Jvm.ClassFile.FieldType.byte), Jvm.Cond.code ({ cls := "com/example/rules_for_records/rulesforrecords/messageinterpolation/MessageSyntax", name := "escapesNext", desc := "(Ljava/lang/String;I)Z" } : Jvm.MethodName) prog_14_method_2_code (2 : Nat) (Option.some Jvm.ClassFile.FieldType.boolean), Jvm.Cond.code ({ cls := "java/lang/String", name := "charAt", desc := "(I)C" } : Jvm.MethodName) jdk_42_method_56_code (2 : Nat) (Option.some Jvm.ClassFile.FieldType.char), Jvm.Cond.code ({ cls := "java/lang/String", name := "isLatin1", desc := "()Z" } : Jvm.MethodName) jdk_42_method_154_code (1 : Nat) (Option.some Jvm.ClassFile.FieldType.boolean), Jvm.Cond.code ({ cls := "java/lang/StringLatin1", name := "charAt", desc := "([BI)C" } : Jvm.MethodName) jdk_43_method_2_code (2 : Nat) (Option.some Jvm.ClassFile.FieldType.char), Jvm.Cond.code ({ cls := "java/lang/String", name := "checkIndex", desc := "(II)V" } : Jvm.MethodName) jdk_42_method_155_code (2 : Nat) (Option.none : Option Jvm.ClassFile.FieldType), Jvm.Cond.code ({ cls := "jdk/internal/util/Preconditions", name := "checkIndex", desc := "(IILjava/util/function/BiFunction;)I" } : Jvm.MethodName) jdk_41_method_11_code (3 : Nat) (Option.some Jvm.ClassFile.FieldType.int), Jvm.Cond.code ({ cls := "java/lang/String", name := "length", desc := "()I" } : Jvm.MethodName) jdk_42_method_54_code (1 : Nat) (Option.some Jvm.ClassFile.FieldType.int), Jvm.Cond.code ({ cls := "java/lang/String", name := "coder", desc := "()B" } : Jvm.MethodName) jdk_42_method_152_code (1 : Nat) (Option.some Jvm.ClassFile.FieldType.byte), Jvm.Cond.code ({ cls := "com/example/rules_for_records/rulesforrecords/messageinterpolation/MessageSyntaxEscapesNextPinLaw", name := "escapable", desc := "(C)Z" } : Jvm.MethodName) method_3_code (1 : Nat) (Option.some Jvm.ClassFile.FieldType.boolean), Jvm.Cond.code ({ cls := "java/lang/String", name := "indexOf", desc := "(I)I" } : Jvm.MethodName) jdk_42_method_79_code (2 : Nat) (Option.some Jvm.ClassFile.FieldType.int), Jvm.Cond.code ({ cls := "java/lang/String", name := "indexOf", desc := "(II)I" } : Jvm.MethodName) jdk_42_method_80_code (3 : Nat) (Option.some Jvm.ClassFile.FieldType.int), Jvm.Cond.code ({ cls := "java/lang/StringLatin1", name := "indexOf", desc := "([BIII)I" } : Jvm.MethodName) jdk_43_method_22_code (4 : Nat) (Option.some Jvm.ClassFile.FieldType.int), Jvm.Cond.code ({ cls := "java/lang/StringLatin1", name := "canEncode", desc := "(I)Z" } : Jvm.MethodName) jdk_43_method_4_code (1 : Nat) (Option.some Jvm.ClassFile.FieldType.boolean), Jvm.Cond.code ({ cls := "java/lang/Math", name := "max", desc := "(II)I" } : Jvm.MethodName) jdk_29_method_65_code (2 : Nat) (Option.some Jvm.ClassFile.FieldType.int), Jvm.Cond.code ({ cls := "java/lang/Math", name := "min", desc := "(II)I" } : Jvm.MethodName) jdk_29_method_69_code (2 : Nat) (Option.some Jvm.ClassFile.FieldType.int), Jvm.Cond.code ({ cls := "java/lang/StringLatin1", name := "indexOfChar", desc := "([BIII)I" } : Jvm.MethodName) jdk_43_method_23_code (6 : Nat) (Option.some Jvm.ClassFile.FieldType.int)]
set_option maxRecDepth 65536 in
theorem codes_eq : words1.filter isCode = codes1 := rfl
theorem w_codes : ∀ c ∈ words1.filter isCode, c.before args0 about1 = true := by
  rw [codes_eq]
  intro c hc
  simp only [codes1, List.mem_cons, List.not_mem_nil, or_false] at hc
  rcases hc with rfl | rfl | rfl | rfl | rfl | rfl | rfl | rfl | rfl | rfl | rfl | rfl | rfl | rfl | rfl | rfl | rfl | rfl | rfl | rfl | rfl | rfl | rfl | rfl
  · exact w_c0
  · exact w_c1
  · exact w_c2
  · exact w_c3
  · exact w_c4
  · exact w_c5
  · exact w_c6
  · exact w_c7
  · exact w_c8
  · exact w_c9
  · exact w_c10
  · exact w_c11
  · exact w_c12
  · exact w_c13
  · exact w_c14
  · exact w_c15
  · exact w_c16
  · exact w_c17
  · exact w_c18
  · exact w_c19
  · exact w_c20
  · exact w_c21
  · exact w_c22
  · exact w_c23
set_option maxRecDepth 65536 in
theorem w_t1 : (words1.take 24).all (fun c => isCode c || c.before args0 about1) = true := by decide +kernel
set_option maxRecDepth 65536 in
theorem w_t2 : ((words1.drop 24).take 24).all (fun c => isCode c || c.before args0 about1) = true := by decide +kernel
set_option maxRecDepth 65536 in
theorem w_t3 : (((words1.drop 24).drop 24).take 24).all (fun c => isCode c || c.before args0 about1) = true := by decide +kernel
set_option maxRecDepth 65536 in
theorem w_t4 : ((((words1.drop 24).drop 24).drop 24).take 24).all (fun c => isCode c || c.before args0 about1) = true := by decide +kernel
set_option maxRecDepth 65536 in
theorem w_t5 : ((((words1.drop 24).drop 24).drop 24).drop 24).all (fun c => isCode c || c.before args0 about1) = true := by decide +kernel
theorem w_tables : (allAtoms (Jvm.Cond.code x code maxLocals ret :: tables_1)).before args0 about1 = true := by
  rw [allAtoms_all]
  show words1.all (fun c => c.before args0 about1) = true
  refine all_split ?_ w_codes
  rw [← List.take_append_drop 24 words1, List.all_append, w_t1, ← List.take_append_drop 24 (words1.drop 24), List.all_append, w_t2, ← List.take_append_drop 24 ((words1.drop 24).drop 24), List.all_append, w_t3, ← List.take_append_drop 24 (((words1.drop 24).drop 24).drop 24), List.all_append, w_t4, w_t5]
  rfl
set_option maxRecDepth 65536 in
theorem w_rest : rest_1_c.before args0 about1 = true := by decide +kernel
set_option maxRecDepth 65536 in
theorem w_case : (Jvm.Cond.and given_1 narrow_1).before args0 about1 = true := by decide +kernel
set_option maxRecDepth 65536 in
theorem w_consts : constsHeld consts_1 about1 := Jvm.Lit.constsHeldB_iff.mp (by decide +kernel)
theorem w_applies : (headSpec (Jvm.Cond.code x code maxLocals ret :: tables_1) room_1).applies x e0.platform about1 = true :=
  (Spec.applies_iff w_frames).mpr ⟨w_running, w_runnable, w_alone, w_named, w_hears, w_ripe, w_room, w_tables⟩
theorem atStart : AtStart classFile x code maxLocals ret World_1 tables_1 room_1 Calls_1 rest_1 Pre_1 launch0 p0 e0 about1 theMethod args0 below0 :=
  ⟨lists_1, trivial, launch0.admits_env _ _ _, launch0.least_env, fairChoices_fair.cas, fairChoices_fair.clock, w_frames, w_args, w_heap, w_applies, ⟨w_consts, trivial⟩, w_rest, w_case⟩
end start1
theorem witness_1 : WitnessClaimed_1 := ⟨start1.p0, start1.e0, start1.about1, start1.theMethod, start1.args0, start1.below0, start1.atStart⟩
end Jvm.Pilot.@@N@@
