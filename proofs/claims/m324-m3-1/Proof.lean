import JvmDerived
import JvmDerived.Pilot.@@N@@Statement
import JvmDerived.Pilot.@@N@@Code
set_option linter.unusedVariables false
set_option linter.unusedSimpArgs false
namespace Jvm.Pilot.@@N@@
open Jvm Jvm.ClassFile Sem Op Lib Jvm.Free Jvm.Stand Jvm.LawKit Jvm.RoadKit Bundle Jvm.Pilot.@@N@@.Jvm.D
section Own
variable {p : Program} {l : Launch} {e : Env} {R : Room} {s : State} {m : MethodId} {args : Array Value} {below : List Frame} {meth : Method} {c : Code} {Z : State} {a0 : Array Value} {own : String} {cd : ByteArray} {mx : Nat} {ret : Option FieldType} {nm : String}
variable {EL : List (String × Nat)} {n0 bk : Nat} {eb : Heap → Nat} {Q : Option Value → Heap → Prop} {h h' h1 h2 : Heap} {k n : Nat} {vm0 : Vm}
/-- the cells that P names stand in h' as they stood in h -/
def OKp (P : Nat → Prop) (h h' : Heap) : Prop := h.size ≤ h'.size ∧ ∀ (x : Nat) (cl : Cell), P x → h[x]? = some cl → h'[x]? = some cl
section Facts
variable {P P' : Nat → Prop} {a b : Nat} {C O nn d : String} {v w : Value} {sl : Nat} {ty : FieldType}
theorem OKp.refl : OKp P h h := ⟨Nat.le_refl _, fun _ _ _ q => q⟩
theorem OKp.trans (A : OKp P h h1) (B : OKp P h1 h2) : OKp P h h2 := ⟨Nat.le_trans A.1 B.1, fun x cl q r => B.2 x cl q (A.2 x cl q r)⟩
theorem OKp.weak (A : OKp P h h') (q : ∀ x, P' x → P x) : OKp P' h h' := ⟨A.1, fun x cl r => A.2 x cl (q x r)⟩
theorem OKp.ofExt (E : Ext h h') : OKp P h h' := ⟨E.1, fun x cl _ r => E.2 x cl r⟩
theorem OKp.ofWr (W : Wr h h' a sl v) : OKp (fun x => x ≠ a) h h' := ⟨Nat.le_of_eq W.size.symm, fun x cl q r => by obtain ⟨c', e1, -, -, -, e5, -⟩ := wr_at W r; rw [← e5 q]; exact e1⟩
theorem OKp.ext (A : OKp P h h1) (E : Ext h1 h2) : OKp P h h2 := A.trans (OKp.ofExt E)
theorem OKp.wr (A : OKp P h h1) (W : Wr h1 h2 a sl v) (q : ∀ x, P x → x ≠ a) : OKp P h h2 := A.trans ((OKp.ofWr W).weak q)
theorem own_exa (K : OKp P h h') (F : Exa Z h a C) (q : P a) : Exa Z h' a C := by obtain ⟨cell, kk, g1, r⟩ := F; exact ⟨cell, kk, K.2 _ _ q g1, r⟩
theorem own_fld (K : OKp P h h') (F : Fld Z h a O nn d v) (q : P a) : Fld Z h' a O nn d v := by obtain ⟨cell, cf, kk, i, f, g1, r⟩ := F; exact ⟨cell, cf, kk, i, f, K.2 _ _ q g1, r⟩
theorem own_arr {cl : Cell} (K : OKp P h h') (F : Arr Z h a cl ty) (q : P a) : Arr Z h' a cl ty := ⟨K.2 _ _ q F.1, F.2⟩
theorem own_ins {bo : Bool} (K : OKp P h h') (F : Ins Z h a C bo) (q : P a) : Ins Z h' a C bo := by obtain ⟨cell, kk, g1, r⟩ := F; exact ⟨cell, kk, K.2 _ _ q g1, r⟩
/-- an array of ints (bytes, chars ..) with these components -/
def Ar (Z : State) (h : Heap) (a : Nat) (ty : FieldType) (xs : List Int32) : Prop := ∃ cl : Cell, Arr Z h a cl ty ∧ cl.slots.size = xs.length ∧ xs.length < 2147483648 ∧ (∀ (i : Nat) (x : Int32), xs[i]? = some x → cl.slots[i]? = some (Value.int x)) ∧ ∀ x ∈ xs, fits ty (Value.int x) = true
theorem Ar.kp {xs : List Int32} (K : OKp P h h') (F : Ar Z h a ty xs) (q : P a) : Ar Z h' a ty xs := by obtain ⟨cl, A, r⟩ := F; exact ⟨cl, own_arr K A q, r⟩
theorem Ar.lt {xs : List Int32} (F : Ar Z h a ty xs) : a < h.size := by obtain ⟨cl, A, r⟩ := F; exact A.lt
theorem Ar.ext {xs : List Int32} (F : Ar Z h a ty xs) (E : Ext h h') : Ar Z h' a ty xs := F.kp (P := fun _ => True) (OKp.ofExt E) trivial
theorem Ar.other {xs : List Int32} (F : Ar Z h b ty xs) (W : Wr h h' a sl v) (q : b ≠ a) : Ar Z h' b ty xs := F.kp (OKp.ofWr W) q
theorem own_len31 {i : Nat} {j : Int32} (hi : i < 2147483648) (hj : j = Int32.ofNat i) : ¬ j < 0 ∧ j.toNatClampNeg = i := by
  subst hj
  have e : (Int32.ofNat i).toInt = i := Int32.toInt_ofNat_small (by omega)
  refine ⟨?_, by simp only [Int32.toNatClampNeg, e]; omega⟩
  rw [Int32.lt_iff_toInt_lt, e]; have : (0 : Int32).toInt = 0 := rfl; omega
theorem Ar.set {xs : List Int32} {i : Nat} {x : Int32} (F : Ar Z h a ty xs) (W : Wr h h' a i (.int x)) (hi : i < xs.length) (hf : fits ty (.int x) = true) : Ar Z h' a ty (xs.set i x) := by
  obtain ⟨cl, A, g1, g2, g3, g4⟩ := F
  refine ⟨cl.setSlot i (.int x), A.same W, by rw [sz_set, List.length_set, g1], by rw [List.length_set]; exact g2, fun j y hy => ?_, fun y hy => ?_⟩
  · rw [List.getElem?_set] at hy
    by_cases q : i = j
    · subst q; rw [if_pos rfl, if_pos hi] at hy; cases hy; simp [Cell.setSlot, g1, hi]
    · rw [if_neg q] at hy; simp only [Cell.setSlot]; rw [Array.getElem?_setIfInBounds_ne q]; exact g3 j y hy
  · rcases List.mem_or_eq_of_mem_set hy with q | rfl
    · exact g4 y q
    · exact hf
theorem Ar.arv {xs : List Int32} (F : Ar Z h a ty xs) : ∃ kb, Arv Z h a kb ty (Int32.ofNat xs.length) (xs.map Value.int) (.int 0) := by
  obtain ⟨cl, A, g1, g2, g3, g4⟩ := F
  obtain ⟨q1, q2⟩ := own_len31 g2 rfl
  refine ⟨cl.cls, cl, A, rfl, by rw [q2, g1], q1, fun i hi => ?_, fun i hi => ?_⟩
  · rw [g1] at hi
    have e : xs[i]? = some xs[i] := List.getElem?_eq_getElem hi
    rw [g3 i _ e, List.getD_eq_getElem?_getD, List.getElem?_map, e]; rfl
  · rw [g1] at hi
    have e : xs[i]? = some xs[i] := List.getElem?_eq_getElem hi
    rw [List.getD_eq_getElem?_getD, List.getElem?_map, e]
    exact g4 _ (List.getElem_mem hi)
theorem Ar.ofArv {xs : List Int32} {kb : ClassId} (F : Arv Z h a kb ty (Int32.ofNat xs.length) (xs.map Value.int) (.int 0)) (hn : xs.length < 2147483648) : Ar Z h a ty xs := by
  obtain ⟨cl, A, -, g1, -, H, G⟩ := F
  rw [(own_len31 hn rfl).2] at g1
  refine ⟨cl, A, g1, hn, fun i x hx => ?_, fun x hx => ?_⟩
  · have hi : i < xs.length := (List.getElem?_eq_some_iff.mp hx).1
    rw [H i (by omega), List.getD_eq_getElem?_getD, List.getElem?_map, hx]; rfl
  · obtain ⟨i, hi, rfl⟩ := List.getElem_of_mem hx
    have q := G i (by omega)
    rw [List.getD_eq_getElem?_getD, List.getElem?_map, List.getElem?_eq_getElem hi] at q
    exact q
theorem own_ne_exa_ar {kk : Nat} {xs : List Int32} (E : Exa Z h a C) (wi : (Cond.instantiable C kk).before a0 Z = true) (F : Ar Z h b ty xs) : a ≠ b := by obtain ⟨cl, A, -⟩ := F; exact ne_arr E wi A
end Facts
/-- what may be written although String constants are booked -/
def Sf (Z : State) (h : Heap) (bk : Nat) (a : Nat) : Prop := bk ≤ a ∨ (∃ C, Exa Z h a C ∧ C ≠ "java/lang/String" ∧ C ≠ "[B") ∨ ∃ ty xs, Ar Z h a ty xs ∧ ty ≠ .byte
/-- what a walk bears along -/
def OInv (s Z : State) (own : String) (EL : List (String × Nat)) (m : MethodId) (n0 bk : Nat) (vm0 : Vm) (h : Heap) : Prop :=
  (∃ k0, s.Since vm0 k0 ∧ k0 ≤ h.size) ∧ Z.Warmed39 vm0 ∧ vm0.findClass own = some m.cls ∧ CHr Z EL s.vm s.heap vm0 h ∧ (∀ y, Bk Z EL vm0 h y → y < bk) ∧ OKp (fun x => x < n0) s.heap h ∧ Ext Z.heap h ∧ Z.heap.size ≤ n0
theorem own_exttrans {g : Heap} (A : Ext g h) (B : Ext h h') : Ext g h' := ⟨Nat.le_trans A.1 B.1, fun x cl q => B.2 x cl (A.2 x cl q)⟩
theorem OInv.ext (I : OInv s Z own EL m n0 bk vm0 h) (E : Ext h h') : OInv s Z own EL m n0 bk vm0 h' := by
  obtain ⟨⟨k0, i1, i2⟩, i3, i4, i5, i6, i7, i8, i9⟩ := I
  exact ⟨⟨k0, i1, Nat.le_trans i2 E.1⟩, i3, i4, i5.trans (CHr.ext E i5.1), fun y B => i6 y ((i5.1.step fun _ _ _ q => E.2 _ _ q).2 y B), i7.ext E, own_exttrans i8 E, i9⟩
theorem OInv.safe {a : Nat} (I : OInv s Z own EL m n0 bk vm0 h) (S : Sf Z h bk a) : Safe Z EL vm0 h a := by
  rcases S with q | ⟨C, E, q1, q2⟩ | ⟨ty, xs, ⟨cl, A, -⟩, q⟩
  · exact fun B => absurd (I.2.2.2.2.1 a B) (Nat.not_lt.mpr q)
  · exact Safe.exa I.2.1.alike E q1 q2
  · exact Safe.arr I.2.1.alike A q
theorem OInv.wr {a : Nat} {sl : Nat} {v : Value} (I : OInv s Z own EL m n0 bk vm0 h) (W : Wr h h' a sl v) (hn : n0 ≤ a) (S : Sf Z h bk a) : OInv s Z own EL m n0 bk vm0 h' := by
  have hs := I.safe S
  obtain ⟨⟨k0, i1, i2⟩, i3, i4, i5, i6, i7, i8, i9⟩ := I
  refine ⟨⟨k0, i1, by rw [W.size]; exact i2⟩, i3, i4, i5.trans (CHr.wr W hs i5.1), fun y B => i6 y ((i5.1.wrStep W hs).2 y B), i7.wr W (fun x q e => absurd (show x < n0 from q) (by rw [show x = a from e]; exact Nat.not_lt.mpr hn)), ?_, i9⟩
  refine ⟨by rw [W.size]; exact i8.1, fun x cl q => ?_⟩
  have hx := (Array.getElem?_eq_some_iff.mp q).1
  obtain ⟨c', e1, -, -, -, e5, -⟩ := wr_at W (i8.2 x cl q)
  rw [← e5 (fun e => by rw [show x = a from e] at hx; omega)]; exact e1
/-- .. over a law of the library that keeps all but one cell -/
theorem OInv.keep {a : Nat} (I : OInv s Z own EL m n0 bk vm0 h) (W : Keep h h' [a]) (hn : n0 ≤ a) (S : Sf Z h bk a) : OInv s Z own EL m n0 bk vm0 h' := by
  have hs : ∀ x ∈ [a], Safe Z EL vm0 h x := fun x hx => by cases List.mem_singleton.mp hx; exact I.safe S
  obtain ⟨⟨k0, i1, i2⟩, i3, i4, i5, i6, i7, i8, i9⟩ := I
  refine ⟨⟨k0, i1, Nat.le_trans i2 W.1⟩, i3, i4, i5.trans (CHr.keep W hs i5.1), fun y B => i6 y ((i5.1.keepStep W hs).2 y B), i7.trans ⟨W.1, fun x cl q r => W.2.1 x cl r fun hm => ?_⟩, ?_, i9⟩
  · cases List.mem_singleton.mp hm; exact absurd (show a < n0 from q) (Nat.not_lt.mpr hn)
  · refine ⟨Nat.le_trans i8.1 W.1, fun x cl q => W.2.1 x cl (i8.2 x cl q) fun hm => ?_⟩
    have hx := (Array.getElem?_eq_some_iff.mp q).1
    cases List.mem_singleton.mp hm; omega
/-- what a walk knows of its own method -/
def Ctx (p : Program) (meth : Method) (c : Code) (Z : State) (a0 : Array Value) (EL : List (String × Nat)) (cd : ByteArray) (mx : Nat) (ret : Option FieldType) (nm : String) : Prop :=
  p.tables.exec = Jvm.exec ∧ EW Z a0 EL ∧ True ∧ meth.sig.returnType = ret ∧ meth.locks = false ∧ c.code = cd ∧ c.maxLocals = mx ∧ meth.name = nm
/-- from this frame, over the heap h, the run returns, and Q holds of what it returns and leaves -/
def Go (p : Program) (l : Launch) (e : Env) (R : Room) (s : State) (m : MethodId) (args : Array Value) (below : List Frame) (meth : Method) (c : Code) (Z : State) (own : String) (EL : List (String × Nat)) (n0 : Nat) (eb : Heap → Nat) (Q : Option Value → Heap → Prop) (bk : Nat) (h : Heap) (k n : Nat) (pc : Nat) (Ls : Array Slot) (st : List Value) : Prop :=
  ∀ T L vm0, Stand p l e R (s.setVm vm0) m args below meth c T L k n → T.heap = h → Fr n0 L → OInv s Z own EL m n0 bk vm0 h →
    ∃ t v L', Steps p.tables e below (T.setTop (mkF m pc Ls st)) t ∧ t.status = .running ∧ Ended t below (.returned v) ∧ Fr n0 L' ∧ (∃ k' n', k' ≤ R.cells ∧ n' ≤ R.slots ∧ ReturnedEndW s (.returned v) t L' k' n') ∧ CHr Z EL s.vm s.heap t.vm t.heap ∧ (∀ y, Bk Z EL t.vm t.heap y → y < eb t.heap) ∧ OKp (fun x => x < n0) s.heap t.heap ∧ Ext Z.heap t.heap ∧ Q v t.heap
theorem Go.pure {pc pc' : Nat} {Ls Ls' : Array Slot} {st st' : List Value} (hs : ∀ T t, At T m c below → Steps p.tables e below (T.setTop (mkF m pc' Ls' st')) t → Steps p.tables e below (T.setTop (mkF m pc Ls st)) t) (K : Go p l e R s m args below meth c Z own EL n0 eb Q bk h k n pc' Ls' st') : Go p l e R s m args below meth c Z own EL n0 eb Q bk h k n pc Ls st := fun T L vm0 X eh hF I => by
  obtain ⟨t, v, L', h1, r⟩ := K T L vm0 X eh hF I
  exact ⟨t, v, L', hs T t X.here h1, r⟩
theorem Go.more {pc : Nat} {Ls : Array Slot} {st : List Value} (k2 n2 : Nat) (hk : k ≤ k2) (hn : n ≤ n2) (K : Go p l e R s m args below meth c Z own EL n0 eb Q bk h k2 n2 pc Ls st) : Go p l e R s m args below meth c Z own EL n0 eb Q bk h k n pc Ls st := fun T L vm0 X eh hF I => K T L vm0 (X.more hk hn) eh hF I
theorem Go.upbk {pc : Nat} {Ls : Array Slot} {st : List Value} (bk2 : Nat) (hb : bk ≤ bk2 ∨ h.size ≤ bk2) (K : Go p l e R s m args below meth c Z own EL n0 eb Q bk2 h k n pc Ls st) : Go p l e R s m args below meth c Z own EL n0 eb Q bk h k n pc Ls st := fun T L vm0 X eh hF I => K T L vm0 X eh hF (by
  obtain ⟨i1, i3, i4, i5, i6, i7, i8, i9⟩ := I
  refine ⟨i1, i3, i4, i5, fun y B => ?_, i7, i8, i9⟩
  rcases hb with q | q
  · exact Nat.lt_of_lt_of_le (i6 y B) q
  · obtain ⟨cell, g⟩ := B.there
    exact Nat.lt_of_lt_of_le (Array.getElem?_eq_some_iff.mp g).1 q)
theorem Go.rebk {pc : Nat} {Ls : Array Slot} {st : List Value} (bk2 : Nat) (e2 : bk = bk2) (K : Go p l e R s m args below meth c Z own EL n0 eb Q bk2 h k n pc Ls st) : Go p l e R s m args below meth c Z own EL n0 eb Q bk h k n pc Ls st := e2 ▸ K
/-- a contract -/
def Met (l : Launch) (Z : State) (EL : List (String × Nat)) (y : MethodName) (cd : ByteArray) (mx : Nat) (ret : Option FieldType) (ws : List Jvm.Cond) (rm : Room) (as : Array Value) (n0 bk : Nat) (h : Heap) (eb : Heap → Nat) (Q : Option Value → Heap → Prop) : Prop :=
  MetFree l y (head1 (Jvm.Cond.code y cd mx ret :: ws) rm) (fun a U => a = as ∧ Z.Warmed39 U.vm ∧ U.heap = h ∧ Ext Z.heap h ∧ CHv Z EL U.vm h ∧ ∀ y, Bk Z EL U.vm h y → y < bk) (fun _ _ _ _ _ => True) (fun _ U o U' => ∃ v L, o = .returned v ∧ (Fr n0 L ∧ OKp (fun x => x < n0) h U'.heap ∧ Ext Z.heap U'.heap ∧ (∀ y, Bk Z EL U'.vm U'.heap y → y < eb U'.heap) ∧ Q v U'.heap) ∧ CHr Z EL U.vm U.heap U'.vm U'.heap ∧ ReturnedEndW U o U' L rm.cells rm.slots)
theorem Met.intro {y : MethodName} {ws : List Jvm.Cond} {rm : Room} {as : Array Value} {Ls : Array Slot} (hpl : plainFor y = true) (hent : ∀ m, entryFrame m as mx = mkF m 0 Ls []) (hn0 : Z.heap.size ≤ n0) (hEL : EW Z a0 EL)
    (K : ∀ p e s m below meth c, Ctx p meth c Z a0 EL cd mx ret y.name → Go p l e rm s m as below meth c Z y.cls EL n0 eb Q bk h 0 0 0 Ls []) : Met l Z EL y cd mx ret ws rm as n0 bk h eb Q := by
  refine MetFree.of_bodySF hpl hisR ?_
  intro p e s m args below meth c s₁ Bd hml0 hP hK
  obtain ⟨rfl, hZ, rfl, hE, hH, hB⟩ := hP
  have X0 : Stand p l e rm s m args below meth c s₁ [] 0 0 := Stand.of_body Bd
  have e0 : s₁.heap = s.heap := by rw [Bd.state]; rfl
  have hv : s₁.vm = s.vm := by rw [Bd.state]; rfl
  have hS : s.Since s.vm 0 := by have q := X0.warmed.since 0; rw [hv] at q; exact q
  obtain ⟨t, v, L', h1, h2, h3, h4, ⟨k', n', h5, h6, h7⟩, h8, h9, h10, h11, h12⟩ := K p e s m below meth c ⟨Bd.exec, hEL, trivial, Bd.returns, Bd.notSynchronized, Bd.bytes, hml0, (name_of_methodNamed Bd.named Bd.method).1⟩ s₁ [] s.vm X0 e0 (Fr.nil _) ⟨⟨0, hS, Nat.zero_le _⟩, hZ, findClass_of_methodNamed Bd.named, CHr.refl hH, hB, OKp.refl, hE, hn0⟩
  exact ⟨t, _, castTop (hent m) h1, h2, h3, v, L', rfl, ⟨h4, h10, h11, h9, h12⟩, h8, h7.1, h7.2.1, h7.2.2.1, h7.2.2.2.mono h5 h6⟩
theorem Met.back {y : MethodName} {rm : Room} {as : Array Value} {cd' : ByteArray} {mx' : Nat} {ret' : Option FieldType} {b bkc : Nat} {eb' : Heap → Nat} {Q' : Option Value → Heap → Prop} {len W : Nat} (hM : Met l Z EL y cd' mx' ret' [] rm as b bkc h eb' Q') (hZ : Z.Warmed39 vm0) (hX : Ext Z.heap h) (wc : (Cond.code y cd' mx' ret').before a0 Z = true) (wz : (Cond.initialized y.cls).before a0 Z = true) (hf : rm.frames + 1 ≤ R.frames) (hl : W + (mx' + 11) + rm.locals ≤ R.locals) (hEL : EW Z a0 EL) (H : CHv Z EL vm0 h) (hB : ∀ y, Bk Z EL vm0 h y → y < bkc) :
    BackS l R p e below (s.setVm vm0) args y len W (fun A a => a = as ∧ A.U.heap = h ∧ A.cells + rm.cells ≤ R.cells ∧ A.slots + rm.slots ≤ R.slots)
      (fun A _ v B => ∃ L, (Fr b L ∧ OKp (fun x => x < b) h B.U.heap ∧ Ext Z.heap B.U.heap ∧ (∀ y, Bk Z EL B.U.vm B.U.heap y → y < eb' B.U.heap) ∧ Q' v B.U.heap) ∧ B.locs = A.locs ++ L ∧ B.cells = A.cells + rm.cells ∧ B.slots = A.slots + rm.slots ∧ CHr Z EL vm0 h B.U.vm B.U.heap) :=
  BackS.of_freeW (bytes := cd') (maxL := mx') (ret := ret') (E := fun _ first o t L k n => k = rm.cells ∧ n = rm.slots ∧ (∃ v, o = .returned v ∧ Fr b L ∧ OKp (fun x => x < b) h t.heap ∧ Ext Z.heap t.heap ∧ (∀ y, Bk Z EL t.vm t.heap y → y < eb' t.heap) ∧ Q' v t.heap) ∧ CHr Z EL first.vm first.heap t.vm t.heap) hM hf hl
    (fun m meth c A a Y hp => have hU : Z.Warmed39 A.U.vm := wtrans (s := s.setVm vm0) hZ Y.warmed
      ⟨by show (Cond.and _ .tt).before a A.U = true; rw [Cond.before_and, mv hU wc]; rfl, mv hU wc, mv hU wz, hp.2.2.1, hp.2.2.2⟩)
    (fun m meth c A a g mk Y hp => ⟨hp.1, wtrans (s := s.setVm vm0) hZ Y.warmed, hp.2.1, hX, (CHv.at Y hZ hEL H).1, fun y B => by
      rcases (CHv.at Y hZ hEL H).2.2 y B with q | q
      · exact hB y q
      · obtain ⟨cell, g⟩ := Bk.there B
        exact absurd (Array.getElem?_eq_some_iff.mp g).1 (Nat.not_lt.mpr q)⟩) (fun _ _ _ _ _ _ _ _ _ => trivial)
    (fun _ _ _ _ ⟨v, L, g1, g2, g3, g4⟩ => ⟨L, _, _, g4, rfl, rfl, ⟨v, g1, g2⟩, g3⟩)
    (fun m meth c A a g mk v t L k n Y hp _ _ ⟨e1, e2, ⟨v', e3, e4⟩, e5⟩ => by
      cases e3; subst e1 e2
      refine ⟨L, e4, rfl, rfl, rfl, (CHv.at Y hZ hEL H).trans ?_⟩
      rw [← hp.2.1]; exact e5)
/-- behind a call: the walk goes on -/
theorem Go.behind {pc pc' : Nat} {Ls : Array Slot} {st st' : List Value} {T T2 : State} {L Lc : List Loc} {vm1 : Vm} {b k2 n2 : Nat} {h2 : Heap} {eb' : Heap → Nat} (hT : T.heap = h) (hF : Fr n0 L) (I : OInv s Z own EL m n0 bk vm0 h) (hnb : n0 ≤ b) (X2 : Stand p l e R ((s.setVm vm0).setVm vm1) m args below meth c T2 (L ++ Lc) k2 n2) (e2 : T2.heap = h2)
    (hS2 : (s.setVm vm0).Since vm1 h2.size) (hgr : h.size ≤ h2.size) (q1 : Fr b Lc) (q2 : OKp (fun x => x < b) h h2) (q3 : Ext Z.heap h2) (q4 : ∀ y, Bk Z EL vm1 h2 y → y < eb' h2) (q5 : CHr Z EL vm0 h vm1 h2)
    (hst : Steps p.tables e below (T.setTop (mkF m pc Ls st)) (T2.setTop (mkF m pc' Ls st'))) (K : Go p l e R s m args below meth c Z own EL n0 eb Q (eb' h2) h2 k2 n2 pc' Ls st') :
    ∃ t v L', Steps p.tables e below (T.setTop (mkF m pc Ls st)) t ∧ t.status = .running ∧ Ended t below (.returned v) ∧ Fr n0 L' ∧ (∃ k' n', k' ≤ R.cells ∧ n' ≤ R.slots ∧ ReturnedEndW s (.returned v) t L' k' n') ∧ CHr Z EL s.vm s.heap t.vm t.heap ∧ (∀ y, Bk Z EL t.vm t.heap y → y < eb t.heap) ∧ OKp (fun x => x < n0) s.heap t.heap ∧ Ext Z.heap t.heap ∧ Q v t.heap := by
  obtain ⟨⟨k0, i1, i2⟩, i3, i4, i5, i6, i7, i8, i9⟩ := I
  obtain ⟨t, v, L', g1, r⟩ := K T2 (L ++ Lc) vm1 X2 e2 (hF.app fun y hy => Nat.le_trans hnb (q1 y hy)) ⟨⟨_, i1.trans hS2 (Nat.le_trans i2 hgr), Nat.le_refl _⟩, State.Warmed39.trans (t := s.setVm vm0) i3 hS2.1, (hS2.1.alike.findClass _ _).trans i4, i5.trans q5, q4, i7.trans (q2.weak fun x q => Nat.lt_of_lt_of_le q hnb), q3, i9⟩
  exact ⟨t, v, L', hst.trans g1, r⟩
theorem own_bkc {bkc : Nat} (I : OInv s Z own EL m n0 bk vm0 h) (hb : bk ≤ bkc ∨ h.size ≤ bkc) : ∀ y, Bk Z EL vm0 h y → y < bkc := fun y B => by
  rcases hb with q | q
  · exact Nat.lt_of_lt_of_le (I.2.2.2.2.1 y B) q
  · obtain ⟨cell, g⟩ := B.there
    exact Nat.lt_of_lt_of_le (Array.getElem?_eq_some_iff.mp g).1 q
section Calls
variable {pc : Nat} {Ls : Array Slot} {st : List Value} {i : Nat} {y y0 : MethodName} {cd' : ByteArray} {mx' : Nat} {ret' : Option FieldType} {rm : Room} {Q' : Option Value → Heap → Prop} {b bkc : Nat} {eb' : Heap → Nat} {W : Nat}
theorem Ctx.callS (C : Ctx p meth c Z a0 EL cd mx ret nm) (pc' : Nat) (argsL rest : List Value) (hd : decode cd pc = .ok (.invokestatic i, 3)) (hM : Met l Z EL y cd' mx' ret' [] rm argsL.toArray b bkc h eb' Q') (hnb : n0 ≤ b) (hb : bk ≤ bkc ∨ h.size ≤ bkc) (w1 : (Cond.methodLink own i y).before a0 Z = true) (w2 : (Cond.static y).before a0 Z = true) (w3 : (Cond.initialized y.cls).before a0 Z = true) (w4 : (Cond.code y cd' mx' ret').before a0 Z = true)
    (hy : y.cls ≠ "java/lang/invoke/MethodHandle" ∧ y.cls ≠ "java/lang/invoke/VarHandle") (hsz : Ls.size = mx) (hlen : ∀ sig, parseMethodDescriptor y.desc = some sig → argsL.length = sig.parameters.length) (hf : rm.frames + 1 ≤ R.frames) (hW : 2 * 0 + (rest.map fun v => v.category).sum ≤ W) (hl : W + (mx' + 11) + rm.locals ≤ R.locals) (hrc : k + rm.cells ≤ R.cells) (hrs : n + rm.slots ≤ R.slots) (hst : st = argsL.reverse ++ rest)
    (K : ∀ v h2, OKp (fun x => x < b) h h2 → Q' v h2 → Go p l e R s m args below meth c Z own EL n0 eb Q (eb' h2) h2 (k + rm.cells) (n + rm.slots) pc' Ls (v.toList ++ rest)) (hp : pc + 3 = pc' := by rfl) : Go p l e R s m args below meth c Z own EL n0 eb Q bk h k n pc Ls st := by
  subst hp hst
  obtain ⟨hx, hEL, -, hret, hlk, hby, hmx, -⟩ := C
  intro T L vm0 X eh hF I
  obtain ⟨⟨k0, i1, i2⟩, hZ, hown, i5, i6, i7, i8, i9⟩ := id I
  have hZ' : Z.Warmed39 (s.setVm vm0).vm := hZ
  obtain ⟨v, vm₁, ⟨T2, L2, k2, n2⟩, -, X2, hS2, hgr, ⟨Lc, ⟨q1, q2, q3, q4, q5⟩, l2, y2, z2, q6⟩, st2⟩ := callSS X hx hown (mvT hZ' w1) (mvT hZ' w2) (mvT hZ' w3) (mvT hZ' w4) hy (hM.back (W := W) hZ i8 w4 w3 hf hl hEL i5.1 (own_bkc I hb)) (g := mkF m pc Ls (argsL.reverse ++ rest)) rfl (hsz.trans hmx.symm) hlen rfl hW (Jvm.hb hby hd) (fun _ _ => ⟨rfl, eh, hrc, hrs⟩)
  dsimp only [Pt.U, Pt.locs, Pt.cells, Pt.slots] at X2 l2 y2 z2 st2 q1 q2 q3 q4 q5 q6 hS2 hgr
  subst l2 y2 z2
  exact Go.behind eh hF I hnb X2 rfl hS2 (eh ▸ hgr) q1 q2 q3 q4 q6 st2 (K v _ q2 q5)
theorem Ctx.callI (C : Ctx p meth c Z a0 EL cd mx ret nm) (pc' : Nat) {a : Nat} (argsL rest : List Value) (hd : decode cd pc = .ok (.invokespecial i, 3)) (hM : Met l Z EL y cd' mx' none [] rm (.ref a :: argsL).toArray b bkc h eb' Q') (hy1 : y.name = "<init>") (hnb : n0 ≤ b) (hb : bk ≤ bkc ∨ h.size ≤ bkc) (w1 : (Cond.methodLink own i y).before a0 Z = true) (w2 : (Cond.instanceMethod y).before a0 Z = true) (w3 : (Cond.initialized y.cls).before a0 Z = true) (w4 : (Cond.code y cd' mx' none).before a0 Z = true)
    (hy : y.cls ≠ "java/lang/invoke/MethodHandle" ∧ y.cls ≠ "java/lang/invoke/VarHandle") (hsz : Ls.size = mx) (hlen : ∀ sig, parseMethodDescriptor y.desc = some sig → argsL.length = sig.parameters.length) (hf : rm.frames + 1 ≤ R.frames) (hW : 2 * 0 + (rest.map fun v => v.category).sum ≤ W) (hl : W + (mx' + 11) + rm.locals ≤ R.locals) (hrc : k + rm.cells ≤ R.cells) (hrs : n + rm.slots ≤ R.slots) (hst : st = argsL.reverse ++ .ref a :: rest)
    (K : ∀ v h2, OKp (fun x => x < b) h h2 → Q' v h2 → Go p l e R s m args below meth c Z own EL n0 eb Q (eb' h2) h2 (k + rm.cells) (n + rm.slots) pc' Ls (v.toList ++ rest)) (hp : pc + 3 = pc' := by rfl) : Go p l e R s m args below meth c Z own EL n0 eb Q bk h k n pc Ls st := by
  subst hp hst
  obtain ⟨hx, hEL, -, hret, hlk, hby, hmx, -⟩ := C
  intro T L vm0 X eh hF I
  obtain ⟨⟨k0, i1, i2⟩, hZ, hown, i5, i6, i7, i8, i9⟩ := id I
  have hZ' : Z.Warmed39 (s.setVm vm0).vm := hZ
  obtain ⟨v, vm₁, ⟨T2, L2, k2, n2⟩, -, X2, hS2, hgr, ⟨Lc, ⟨q1, q2, q3, q4, q5⟩, l2, y2, z2, q6⟩, st2⟩ := X.specialBackS hx hy1 hown (mvT hZ' w1) (mvT hZ' w2) (mvT hZ' w4) hy (hM.back (W := W) hZ i8 w4 w3 hf hl hEL i5.1 (own_bkc I hb)) (g := mkF m pc Ls (argsL.reverse ++ .ref a :: rest)) rfl (hsz.trans hmx.symm) (Steps.refl _) hlen rfl hW (Jvm.hb hby hd) (fun _ _ => ⟨rfl, eh, hrc, hrs⟩)
  dsimp only [Pt.U, Pt.locs, Pt.cells, Pt.slots] at X2 l2 y2 z2 st2 q1 q2 q3 q4 q5 q6 hS2 hgr
  subst l2 y2 z2
  exact Go.behind eh hF I hnb X2 rfl hS2 (eh ▸ hgr) q1 q2 q3 q4 q6 st2 (K v _ q2 q5)
theorem own_nf {s' : State} {a1 : Array Value} {x y z : MethodName} {K : String} (ws : (Cond.selects K x z).before a1 s' = true) (hc : z.cls = y.cls) : NotFace s' y := fun r0 h0 => by
  obtain ⟨c, r1, m1, q1, q2, q3, q4, mk, q5, q6⟩ := Cond.selects_spec ws
  have hcl := findClass_of_methodNamed h0
  have hcl2 := findClass_of_methodNamed q3
  rw [hc, hcl] at hcl2
  have e : r0.cls = m1.cls := Option.some.inj hcl2
  rw [← e] at q5
  exact ⟨mk, q5, q6⟩
theorem Ctx.callV (C : Ctx p meth c Z a0 EL cd mx ret nm) (pc' : Nat) {a : Nat} {K0 : String} (argsL rest : List Value) (hd : decode cd pc = .ok (.invokevirtual i, 3)) (hM : Met l Z EL y cd' mx' ret' [] rm (.ref a :: argsL).toArray b bkc h eb' Q') (E : Exa Z h a K0) (hnb : n0 ≤ b) (hb : bk ≤ bkc ∨ h.size ≤ bkc) (w1 : (Cond.methodLink own i y0).before a0 Z = true) (w5 : (Cond.declares y0).before a0 Z = true) (w6 : (Cond.selects K0 y0 y).before a0 Z = true) (w2 : (Cond.instanceMethod y).before a0 Z = true) (w3 : (Cond.initialized y.cls).before a0 Z = true) (w4 : (Cond.code y cd' mx' ret').before a0 Z = true) (nf : ∀ {s' : State}, Z.Warmed39 s'.vm → NotFace s' y0)
    (hy : y0.cls ≠ "java/lang/invoke/MethodHandle" ∧ y0.cls ≠ "java/lang/invoke/VarHandle") (hsz : Ls.size = mx) (hlen : ∀ sig, parseMethodDescriptor y0.desc = some sig → argsL.length = sig.parameters.length) (hf : rm.frames + 1 ≤ R.frames) (hW : 2 * 0 + (rest.map fun v => v.category).sum ≤ W) (hl : W + (mx' + 11) + rm.locals ≤ R.locals) (hrc : k + rm.cells ≤ R.cells) (hrs : n + rm.slots ≤ R.slots) (hst : st = argsL.reverse ++ .ref a :: rest)
    (K : ∀ v h2, OKp (fun x => x < b) h h2 → Q' v h2 → Go p l e R s m args below meth c Z own EL n0 eb Q (eb' h2) h2 (k + rm.cells) (n + rm.slots) pc' Ls (v.toList ++ rest)) (hp : pc + 3 = pc' := by rfl) : Go p l e R s m args below meth c Z own EL n0 eb Q bk h k n pc Ls st := by
  subst hp hst
  obtain ⟨hx, hEL, -, hret, hlk, hby, hmx, -⟩ := C
  intro T L vm0 X eh hF I
  obtain ⟨⟨k0, i1, i2⟩, hZ, hown, i5, i6, i7, i8, i9⟩ := id I
  have hZ' : Z.Warmed39 (s.setVm vm0).vm := hZ
  obtain ⟨cq, kq, qa, qb, qc⟩ := isOf hZ' eh E
  obtain ⟨v, vm₁, ⟨T2, L2, k2, n2⟩, -, X2, hS2, hgr, ⟨Lc, ⟨q1, q2, q3, q4, q5⟩, l2, y2, z2, q6⟩, st2⟩ := X.virtualBackS hx hown (mvT hZ' w1) (mvT hZ' w5) (nf hZ') (mvT hZ' w6) (mvT hZ' w2) hy (hM.back (W := W) hZ i8 w4 w3 hf hl hEL i5.1 (own_bkc I hb)) qa qc (g := mkF m pc Ls (argsL.reverse ++ .ref a :: rest)) rfl (hsz.trans hmx.symm) (Steps.refl _) hlen rfl hW (Jvm.hb hby hd) (fun _ _ => ⟨rfl, eh, hrc, hrs⟩)
  dsimp only [Pt.U, Pt.locs, Pt.cells, Pt.slots] at X2 l2 y2 z2 st2 q1 q2 q3 q4 q5 q6 hS2 hgr
  subst l2 y2 z2
  exact Go.behind eh hF I hnb X2 rfl hS2 (eh ▸ hgr) q1 q2 q3 q4 q6 st2 (K v _ q2 q5)
theorem Ctx.callU (C : Ctx p meth c Z a0 EL cd mx ret nm) (pc' : Nat) {a : Nat} {K0 : String} (argsL rest : List Value) (hd : decode cd pc = .ok (.invokespecial i, 3)) (hM : Met l Z EL y cd' mx' ret' [] rm (.ref a :: argsL).toArray b bkc h eb' Q') (E : Ins Z h a K0 true) (hnm : y.name ≠ "<init>") (hnb : n0 ≤ b) (hb : bk ≤ bkc ∨ h.size ≤ bkc) (w1 : (Cond.methodLink own i y).before a0 Z = true) (w5 : (Cond.sameMethod y.cls y.cls y.name y.desc).before a0 Z = true) (w6 : (Cond.superclass own y.cls).before a0 Z = true) (w2 : (Cond.instanceMethod y).before a0 Z = true) (w3 : (Cond.initialized y.cls).before a0 Z = true) (w4 : (Cond.code y cd' mx' ret').before a0 Z = true)
    (hsz : Ls.size = mx) (hlen : ∀ sig, parseMethodDescriptor y.desc = some sig → argsL.length = sig.parameters.length) (hf : rm.frames + 1 ≤ R.frames) (hW : 2 * 0 + (rest.map fun v => v.category).sum ≤ W) (hl : W + (mx' + 11) + rm.locals ≤ R.locals) (hrc : k + rm.cells ≤ R.cells) (hrs : n + rm.slots ≤ R.slots) (hst : st = argsL.reverse ++ .ref a :: rest)
    (K : ∀ v h2, OKp (fun x => x < b) h h2 → Q' v h2 → Go p l e R s m args below meth c Z own EL n0 eb Q (eb' h2) h2 (k + rm.cells) (n + rm.slots) pc' Ls (v.toList ++ rest)) (hp : pc + 3 = pc' := by rfl) : Go p l e R s m args below meth c Z own EL n0 eb Q bk h k n pc Ls st := by
  subst hp hst
  obtain ⟨hx, hEL, -, hret, hlk, hby, hmx, -⟩ := C
  intro T L vm0 X eh hF I
  obtain ⟨⟨k0, i1, i2⟩, hZ, hown, i5, i6, i7, i8, i9⟩ := id I
  have hZ' : Z.Warmed39 (s.setVm vm0).vm := hZ
  obtain ⟨v, vm₁, ⟨T2, L2, k2, n2⟩, -, X2, hS2, hgr, ⟨Lc, ⟨q1, q2, q3, q4, q5⟩, l2, y2, z2, q6⟩, st2⟩ := superBackS X hx hZ' hown w1 w5 w2 w6 hnm (hM.back (W := W) hZ i8 w4 w3 hf hl hEL i5.1 (own_bkc I hb)) eh E (g := mkF m pc Ls (argsL.reverse ++ .ref a :: rest)) rfl (hsz.trans hmx.symm) w4 hlen rfl hW (Jvm.hb hby hd) (fun _ _ => ⟨rfl, eh, hrc, hrs⟩)
  dsimp only [Pt.U, Pt.locs, Pt.cells, Pt.slots] at X2 l2 y2 z2 st2 q1 q2 q3 q4 q5 q6 hS2 hgr
  subst l2 y2 z2
  exact Go.behind eh hF I hnb X2 rfl hS2 (eh ▸ hgr) q1 q2 q3 q4 q6 st2 (K v _ q2 q5)
end Calls
section Steps1
variable {pc : Nat} {Ls : Array Slot} {st : List Value} {i : Nat}
theorem Ctx.ldcI (C : Ctx p meth c Z a0 EL cd mx ret nm) (pc' : Nat) {v : Int32} (hd : decode cd pc = .ok (.ldc i, 2)) (w : (Cond.constant own i v).before a0 Z = true) (K : Go p l e R s m args below meth c Z own EL n0 eb Q bk h k n pc' Ls (.int v :: st)) (hp : pc + 2 = pc' := by rfl) : Go p l e R s m args below meth c Z own EL n0 eb Q bk h k n pc Ls st := by
  subst hp
  intro T L vm0 X eh hF I
  obtain ⟨t, v', L', g1, r⟩ := K T L vm0 X eh hF I
  exact ⟨t, v', L', Jvm.Stand.ldcI X C.1 I.2.2.1 (mvT (show Z.Warmed39 (s.setVm vm0).vm from I.2.1) w) rfl (Jvm.hb C.2.2.2.2.2.1 hd) g1, r⟩
theorem Ctx.ldc2 (C : Ctx p meth c Z a0 EL cd mx ret nm) (pc' : Nat) {v : Int64} (hd : decode cd pc = .ok (.ldc2_w i, 3)) (w : (Cond.constantLong own i v).before a0 Z = true) (K : Go p l e R s m args below meth c Z own EL n0 eb Q bk h k n pc' Ls (.long v :: st)) (hp : pc + 3 = pc' := by rfl) : Go p l e R s m args below meth c Z own EL n0 eb Q bk h k n pc Ls st := by
  subst hp
  intro T L vm0 X eh hF I
  obtain ⟨t, v', L', g1, r⟩ := K T L vm0 X eh hF I
  exact ⟨t, v', L', Jvm.Stand.ldc2J X C.1 I.2.2.1 (mvT (show Z.Warmed39 (s.setVm vm0).vm from I.2.1) w) rfl (Jvm.hb C.2.2.2.2.2.1 hd) g1, r⟩
/-- ldc of a String constant whose text is read -/
theorem Ctx.ldcT (C : Ctx p meth c Z a0 EL cd mx ret nm) (pc' : Nat) {text : String} {vs : List Value} {z : Int32} {nn : Nat} (hd : decode cd pc = .ok (.ldc i, 2)) (w : (Cond.stringLink own i text).before a0 Z = true) (wS : ∀ a ∈ Bundle.stringAtoms, a.before a0 Z = true) (hmem : (own, i) ∈ EL) (ht : (∀ c ∈ text.toList, c.toNat < 256) ∧ text.toList.map (fun c => Value.int (Jvm.Lit.byteI c.toNat.toUInt16)) = vs) (hz : ¬ z < 0) (hl : z.toNatClampNeg = vs.length) (hn : 4 * text.toList.length ≤ nn) (hbig : nn ≤ 536870912) (hc : k + 2 ≤ R.cells) (hs : n + (nn + 4) ≤ R.slots)
    (K : ∀ a t kb h2, Ext h h2 → Exa Z h2 a "java/lang/String" → Fld Z h2 a "java/lang/String" "coder" "B" (.int 0) → Fld Z h2 a "java/lang/String" "value" "[B" (.ref t) → Arv Z h2 t kb .byte z vs (.int 0) → Go p l e R s m args below meth c Z own EL n0 eb Q (h2.size) h2 (k + 2) (n + (nn + 4)) pc' Ls (.ref a :: st)) (hp : pc + 2 = pc' := by rfl) : Go p l e R s m args below meth c Z own EL n0 eb Q bk h k n pc Ls st := by
  subst hp
  intro T L vm0 X eh hF I
  obtain ⟨⟨k0, i1, i2⟩, i3, i4, i5, i6, i7, i8, i9⟩ := I
  obtain ⟨a, T', h2, k1, t, kb, X', e', E, hS, hk, hW, hf, A1, A2, A3, A4, -, -, hC, -, -, st1⟩ := ldcCH X C.1 i3 i4 w wS eh i1 i2 C.2.1 hmem i5.1 ht hz hl (g := mkF m pc Ls st) rfl (Jvm.hb C.2.2.2.2.2.1 hd) hn hbig hc hs
  obtain ⟨t', v', L', g1, r⟩ := K a t kb h2 E A1 A2 A3 A4 T' L T'.vm X' e' hF ⟨⟨k1, hS, hk⟩, hW, hf, i5.trans hC, fun y B => (Array.getElem?_eq_some_iff.mp B.there.choose_spec).1, i7.ext E, own_exttrans i8 E, i9⟩
  exact ⟨t', v', L', st1 _ g1, r⟩
/-- ldc of a String constant that is handed on unread -/
theorem Ctx.ldcO (C : Ctx p meth c Z a0 EL cd mx ret nm) (pc' : Nat) {text : String} {nn : Nat} (hd : decode cd pc = .ok (.ldc i, 2)) (w : (Cond.stringLink own i text).before a0 Z = true) (wS : ∀ a ∈ Bundle.stringAtoms, a.before a0 Z = true) (hn : 4 * text.toList.length ≤ nn) (hbig : nn ≤ 536870912) (hc : k + 2 ≤ R.cells) (hs : n + (nn + 4) ≤ R.slots)
    (K : ∀ a h2, Ext h h2 → Go p l e R s m args below meth c Z own EL n0 eb Q (h2.size) h2 (k + 2) (n + (nn + 4)) pc' Ls (.ref a :: st)) (hp : pc + 2 = pc' := by rfl) : Go p l e R s m args below meth c Z own EL n0 eb Q bk h k n pc Ls st := by
  subst hp
  intro T L vm0 X eh hF I
  obtain ⟨⟨k0, i1, i2⟩, i3, i4, i5, i6, i7, i8, i9⟩ := I
  obtain ⟨a, T', h2, k1, X', e', E, hS, hk, hW, hf, hC, -, st1⟩ := ldcOH X C.1 i3 i4 w wS eh i1 i2 C.2.1 i5.1 (g := mkF m pc Ls st) rfl (Jvm.hb C.2.2.2.2.2.1 hd) hn hbig hc hs
  obtain ⟨t', v', L', g1, r⟩ := K a h2 E T' L T'.vm X' e' hF ⟨⟨k1, hS, hk⟩, hW, hf, i5.trans hC, fun y B => (Array.getElem?_eq_some_iff.mp B.there.choose_spec).1, i7.ext E, own_exttrans i8 E, i9⟩
  exact ⟨t', v', L', st1 _ g1, r⟩
theorem Ctx.gets (C : Ctx p meth c Z a0 EL cd mx ret nm) (pc' : Nat) {O nn d : String} {v : Value} (hd : decode cd pc = .ok (.getstatic i, 3)) (w : (Cond.fieldLink own i O nn d).before a0 Z = true) (S : Sta Z Z.heap O nn d v) (K : Go p l e R s m args below meth c Z own EL n0 eb Q bk h k n pc' Ls (v :: st)) (hp : pc + 3 = pc' := by rfl) : Go p l e R s m args below meth c Z own EL n0 eb Q bk h k n pc Ls st := by
  subst hp
  intro T L vm0 X eh hF I
  obtain ⟨T2, X2, e2, st2⟩ := getS (host := "") X C.1 (show Z.Warmed39 (s.setVm vm0).vm from I.2.1) I.2.2.1 w Via.refl eh (S.ext I.2.2.2.2.2.2.1) (g := mkF m pc Ls st) rfl (Jvm.hb C.2.2.2.2.2.1 hd)
  obtain ⟨t, v', L', g1, r⟩ := K T2 L vm0 X2 e2 hF I
  exact ⟨t, v', L', st2 _ g1, r⟩
theorem Ctx.getf (C : Ctx p meth c Z a0 EL cd mx ret nm) (pc' : Nat) {R0 O nn d : String} {a : Nat} {v : Value} (hd : decode cd pc = .ok (.getfield i, 3)) (w : (Cond.fieldLink own i R0 nn d).before a0 Z = true) (via : Via Z R0 O nn d) (F : Fld Z h a O nn d v) (K : Go p l e R s m args below meth c Z own EL n0 eb Q bk h k n pc' Ls (v :: st)) (hp : pc + 3 = pc' := by rfl) : Go p l e R s m args below meth c Z own EL n0 eb Q bk h k n pc Ls (.ref a :: st) := by
  subst hp
  intro T L vm0 X eh hF I
  obtain ⟨T2, X2, e2, st2⟩ := getF X C.1 (show Z.Warmed39 (s.setVm vm0).vm from I.2.1) (host := "") I.2.2.1 (Or.inl w) via eh F (g := mkF m pc Ls (.ref a :: st)) rfl rfl (Jvm.hb C.2.2.2.2.2.1 hd)
  obtain ⟨t, v', L', g1, r⟩ := K T2 L vm0 X2 e2 hF I
  exact ⟨t, v', L', st2 _ g1, r⟩
theorem Ctx.putf (C : Ctx p meth c Z a0 EL cd mx ret nm) (pc' : Nat) {R0 O nn d C0 : String} {kk : Nat} {ty : FieldType} {a : Nat} {v old : Value} (hd : decode cd pc = .ok (.putfield i, 3)) (w : (Cond.fieldLink own i R0 nn d).before a0 Z = true) (via : Via Z R0 O nn d) (F : Fld Z h a O nn d old) (E : Exa Z h a C0) (Ly : (Cond.lays C0 O nn d).before a0 Z = true ∨ ((Cond.laysFinal C0 O nn d).before a0 Z = true ∧ own = O ∧ nm = "<init>")) (wi : (Cond.instantiable C0 kk).before a0 Z = true) (hty : parseFieldDescriptor d = some ty) (hnr : narrow ty v = v) (hf : fits ty v = true) (hn0 : n0 ≤ a) (S : Sf Z h bk a)
    (K : ∀ h2, Wr h h2 a (Jvm.RoadKit.slotOf Z O nn d) v → Go p l e R s m args below meth c Z own EL n0 eb Q bk h2 k n pc' Ls st) (hp : pc + 3 = pc' := by rfl) : Go p l e R s m args below meth c Z own EL n0 eb Q bk h k n pc Ls (v :: .ref a :: st) := by
  subst hp
  intro T L vm0 X eh hF I
  obtain ⟨T2, h2, X2, e2, W, st2⟩ := putF X C.1 (show Z.Warmed39 (s.setVm vm0).vm from I.2.1) (host := "") I.2.2.1 (Or.inl w) via eh F E (Ly.imp id fun q => ⟨q.1, q.2.1, C.2.2.2.2.2.2.2.trans q.2.2⟩) wi hty hnr hf (g := mkF m pc Ls (v :: .ref a :: st)) rfl rfl (Jvm.hb C.2.2.2.2.2.1 hd)
  obtain ⟨t, v', L', g1, r⟩ := K h2 W T2 _ vm0 X2 e2 (Fr.snoc X2 hF hn0) (I.wr W hn0 S)
  exact ⟨t, v', L', st2 _ g1, r⟩
theorem Ctx.newo (C : Ctx p meth c Z a0 EL cd mx ret nm) (pc' : Nat) {C0 : String} {kk : Nat} (hd : decode cd pc = .ok (.new i, 3)) (w : (Cond.classLink own i C0).before a0 Z = true) (wi : (Cond.instantiable C0 kk).before a0 Z = true) (wz : (Cond.initialized C0).before a0 Z = true) (hc : k + 1 ≤ R.cells) (hl : n + kk ≤ R.slots)
    (K : ∀ a h2, a = h.size → Ext h h2 → Exa Z h2 a C0 → (∀ {O nn d : String} {ty : FieldType}, Laid Z a0 C0 O nn d → parseFieldDescriptor d = some ty → Fld Z h2 a O nn d (defaultValue ty)) → Go p l e R s m args below meth c Z own EL n0 eb Q bk h2 (k + 1) (n + kk) pc' Ls (.ref a :: st)) (hp : pc + 3 = pc' := by rfl) : Go p l e R s m args below meth c Z own EL n0 eb Q bk h k n pc Ls st := by
  subst hp
  intro T L vm0 X eh hF I
  obtain ⟨T2, h2, X2, e2, E, A, D, -, st2⟩ := newO X C.1 (show Z.Warmed39 (s.setVm vm0).vm from I.2.1) I.2.2.1 w wi wz eh (g := mkF m pc Ls st) rfl (Jvm.hb C.2.2.2.2.2.1 hd) hc hl
  obtain ⟨t, v', L', g1, r⟩ := K h.size h2 rfl E A D T2 L vm0 X2 e2 hF (I.ext E)
  exact ⟨t, v', L', st2 _ g1, r⟩
theorem own_newar {cA : ClassId} {ty : FieldType} {z : Int32} {zn : Nat} {a : Nat} (A : Arr Z h a (newA cA ty z) ty) (hz : z = Int32.ofNat zn) (hb : zn < 2147483648) (ht : defaultValue ty = .int 0) (hf : fits ty (.int 0) = true) : Ar Z h a ty (List.replicate zn 0) := by
  obtain ⟨q1, q2⟩ := own_len31 hb hz
  refine ⟨_, A, by rw [sz_new, q2, List.length_replicate], by rw [List.length_replicate]; exact hb, fun j x hx => ?_, fun x hx => by cases List.eq_of_mem_replicate hx; exact hf⟩
  rw [List.getElem?_replicate] at hx
  split at hx
  · cases hx; rename_i hj; simp [newA, q2, hj, ht]
  · cases hx
theorem Ctx.newarr (C : Ctx p meth c Z a0 EL cd mx ret nm) (pc' : Nat) {aty : ArrayType} {z : Int32} {zn cap : Nat} (hd : decode cd pc = .ok (.newarray aty, 2)) (w : (Cond.arrayClass (newarray.typeOf aty)).before a0 Z = true) (hz : z = Int32.ofNat zn) (hcap : zn ≤ cap) (hbig : cap * 8 ≤ 536870912) (ht : defaultValue (newarray.typeOf aty) = .int 0) (hf : fits (newarray.typeOf aty) (.int 0) = true) (hc : k + 1 ≤ R.cells) (hl : n + cap ≤ R.slots)
    (K : ∀ a h2, a = h.size → Ext h h2 → Ar Z h2 a (newarray.typeOf aty) (List.replicate zn 0) → Go p l e R s m args below meth c Z own EL n0 eb Q bk h2 (k + 1) (n + cap) pc' Ls (.ref a :: st)) (hp : pc + 2 = pc' := by rfl) : Go p l e R s m args below meth c Z own EL n0 eb Q bk h k n pc Ls (.int z :: st) := by
  subst hp
  intro T L vm0 X eh hF I
  obtain ⟨q1, q2⟩ := own_len31 (by omega) hz
  obtain ⟨T2, h2, cA, X2, e2, E, A, st2⟩ := newP X C.1 (show Z.Warmed39 (s.setVm vm0).vm from I.2.1) w eh (g := mkF m pc Ls (.int z :: st)) rfl (Jvm.hb C.2.2.2.2.2.1 hd) rfl q1 (cap := cap) (by rw [q2]; exact hcap) hbig hc hl
  obtain ⟨t, v', L', g1, r⟩ := K h.size h2 rfl E (own_newar A hz (by omega) ht hf) T2 L vm0 X2 e2 hF (I.ext E)
  exact ⟨t, v', L', st2 _ g1, r⟩
theorem Ctx.alen (C : Ctx p meth c Z a0 EL cd mx ret nm) (pc' : Nat) {a : Nat} {ty : FieldType} {xs : List Int32} {z : Int32} (hd : decode cd pc = .ok (.arraylength, 1)) (A : Ar Z h a ty xs) (hz : Int32.ofNat xs.length = z) (K : Go p l e R s m args below meth c Z own EL n0 eb Q bk h k n pc' Ls (.int z :: st)) (hp : pc + 1 = pc' := by rfl) : Go p l e R s m args below meth c Z own EL n0 eb Q bk h k n pc Ls (.ref a :: st) := by
  subst hp hz
  intro T L vm0 X eh hF I
  obtain ⟨cl, A, g1, g2, g3, g4⟩ := A
  obtain ⟨t, v', L', f1, r⟩ := K T L vm0 X eh hF I
  exact ⟨t, v', L', X.arraylength C.1 (cell := cl) (by rw [eh]; exact A.1) (State.isArrayOf_alike (show Z.vm.Alike (s.setVm vm0).vm from I.2.1.alike) A.2.1) (g := mkF m pc Ls (.ref a :: st)) rfl rfl (Jvm.hb C.2.2.2.2.2.1 hd) _ (by rw [g1]; exact f1), r⟩
theorem Ctx.iaload (C : Ctx p meth c Z a0 EL cd mx ret nm) (pc' : Nat) {a : Nat} {xs : List Int32} {j x : Int32} (ji : Nat) (hd : decode cd pc = .ok (.iaload, 1)) (A : Ar Z h a .int xs) (hj : j = Int32.ofNat ji) (hx : xs[ji]? = some x) (K : Go p l e R s m args below meth c Z own EL n0 eb Q bk h k n pc' Ls (.int x :: st)) (hp : pc + 1 = pc' := by rfl) : Go p l e R s m args below meth c Z own EL n0 eb Q bk h k n pc Ls (.int j :: .ref a :: st) := by
  subst hp
  intro T L vm0 X eh hF I
  obtain ⟨cl, A, g1, g2, g3, g4⟩ := A
  have hlt : ji < xs.length := (List.getElem?_eq_some_iff.mp hx).1
  obtain ⟨q1, q2⟩ := own_len31 (by omega) hj
  obtain ⟨t, v', L', f1, r⟩ := K T L vm0 X eh hF I
  exact ⟨t, v', L', X.iaload C.1 (cell := cl) (by rw [eh]; exact A.1) (State.isArrayOf_alike (show Z.vm.Alike (s.setVm vm0).vm from I.2.1.alike) A.2.1) A.2.2 (fun o => o.elim q1 fun q => by omega) (by rw [q2]; exact g3 _ _ hx) (g := mkF m pc Ls (.int j :: .ref a :: st)) rfl rfl (Jvm.hb C.2.2.2.2.2.1 hd) _ f1, r⟩
theorem Ctx.caload (C : Ctx p meth c Z a0 EL cd mx ret nm) (pc' : Nat) {a : Nat} {xs : List Int32} {j x : Int32} (ji : Nat) (hd : decode cd pc = .ok (.caload, 1)) (A : Ar Z h a .char xs) (hj : j = Int32.ofNat ji) (hx : xs[ji]? = some x) (K : Go p l e R s m args below meth c Z own EL n0 eb Q bk h k n pc' Ls (.int x :: st)) (hp : pc + 1 = pc' := by rfl) : Go p l e R s m args below meth c Z own EL n0 eb Q bk h k n pc Ls (.int j :: .ref a :: st) := by
  subst hp
  intro T L vm0 X eh hF I
  obtain ⟨cl, A, g1, g2, g3, g4⟩ := A
  have hlt : ji < xs.length := (List.getElem?_eq_some_iff.mp hx).1
  obtain ⟨q1, q2⟩ := own_len31 (by omega) hj
  obtain ⟨t, v', L', f1, r⟩ := K T L vm0 X eh hF I
  exact ⟨t, v', L', X.caload C.1 (cell := cl) (by rw [eh]; exact A.1) (State.isArrayOf_alike (show Z.vm.Alike (s.setVm vm0).vm from I.2.1.alike) A.2.1) A.2.2 (fun o => o.elim q1 fun q => by omega) (by rw [q2]; exact g3 _ _ hx) (g := mkF m pc Ls (.int j :: .ref a :: st)) rfl rfl (Jvm.hb C.2.2.2.2.2.1 hd) _ f1, r⟩
theorem Ctx.baload (C : Ctx p meth c Z a0 EL cd mx ret nm) (pc' : Nat) {a : Nat} {xs : List Int32} {j x : Int32} (ji : Nat) (hd : decode cd pc = .ok (.baload, 1)) (A : Ar Z h a .byte xs) (hj : j = Int32.ofNat ji) (hx : xs[ji]? = some x) (K : Go p l e R s m args below meth c Z own EL n0 eb Q bk h k n pc' Ls (.int x :: st)) (hp : pc + 1 = pc' := by rfl) : Go p l e R s m args below meth c Z own EL n0 eb Q bk h k n pc Ls (.int j :: .ref a :: st) := by
  subst hp
  intro T L vm0 X eh hF I
  obtain ⟨cl, A, g1, g2, g3, g4⟩ := A
  have hlt : ji < xs.length := (List.getElem?_eq_some_iff.mp hx).1
  obtain ⟨q1, q2⟩ := own_len31 (by omega) hj
  obtain ⟨t, v', L', f1, r⟩ := K T L vm0 X eh hF I
  exact ⟨t, v', L', X.baloadBytes C.1 (cell := cl) (by rw [eh]; exact A.1) (State.isArrayOf_alike (show Z.vm.Alike (s.setVm vm0).vm from I.2.1.alike) A.2.1) A.2.2 (fun o => o.elim q1 fun q => by omega) (by rw [q2]; exact g3 _ _ hx) (g := mkF m pc Ls (.int j :: .ref a :: st)) rfl rfl (Jvm.hb C.2.2.2.2.2.1 hd) _ f1, r⟩
theorem Ctx.iastore (C : Ctx p meth c Z a0 EL cd mx ret nm) (pc' : Nat) {a : Nat} {xs : List Int32} {j x : Int32} (ji : Nat) (hd : decode cd pc = .ok (.iastore, 1)) (A : Ar Z h a .int xs) (hj : j = Int32.ofNat ji) (hlt : ji < xs.length) (hf : fits .int (.int x) = true) (hn0 : n0 ≤ a) (S : Sf Z h bk a) (K : ∀ h2, Wr h h2 a ji (.int x) → Ar Z h2 a .int (xs.set ji x) → Go p l e R s m args below meth c Z own EL n0 eb Q bk h2 k n pc' Ls st) (hp : pc + 1 = pc' := by rfl) : Go p l e R s m args below meth c Z own EL n0 eb Q bk h k n pc Ls (.int x :: .int j :: .ref a :: st) := by
  subst hp
  intro T L vm0 X eh hF I
  have A0 := A
  obtain ⟨cl, A, g1, g2, g3, g4⟩ := A
  obtain ⟨q1, q2⟩ := own_len31 (by omega) hj
  obtain ⟨T2, h2, X2, e2, W, st2⟩ := stI X C.1 (show Z.Warmed39 (s.setVm vm0).vm from I.2.1) eh A (fun o => o.elim q1 fun q => by omega) (g := mkF m pc Ls (.int x :: .int j :: .ref a :: st)) rfl rfl (Jvm.hb C.2.2.2.2.2.1 hd)
  rw [q2] at W
  obtain ⟨t, v', L', f1, r⟩ := K h2 W (A0.set W hlt hf) T2 _ vm0 X2 e2 (Fr.snoc X2 hF hn0) (I.wr W hn0 S)
  exact ⟨t, v', L', st2 _ f1, r⟩
theorem Ctx.castore (C : Ctx p meth c Z a0 EL cd mx ret nm) (pc' : Nat) {a : Nat} {xs : List Int32} {j x : Int32} (ji : Nat) (hd : decode cd pc = .ok (.castore, 1)) (A : Ar Z h a .char xs) (hj : j = Int32.ofNat ji) (hlt : ji < xs.length) (hf : fits .char (.int (nar .char x)) = true) (hn0 : n0 ≤ a) (S : Sf Z h bk a) (K : ∀ h2, Wr h h2 a ji (.int (nar .char x)) → Ar Z h2 a .char (xs.set ji (nar .char x)) → Go p l e R s m args below meth c Z own EL n0 eb Q bk h2 k n pc' Ls st) (hp : pc + 1 = pc' := by rfl) : Go p l e R s m args below meth c Z own EL n0 eb Q bk h k n pc Ls (.int x :: .int j :: .ref a :: st) := by
  subst hp
  intro T L vm0 X eh hF I
  have A0 := A
  obtain ⟨cl, A, g1, g2, g3, g4⟩ := A
  obtain ⟨q1, q2⟩ := own_len31 (by omega) hj
  obtain ⟨T2, h2, X2, e2, W, st2⟩ := stC X C.1 (show Z.Warmed39 (s.setVm vm0).vm from I.2.1) eh A (fun o => o.elim q1 fun q => by omega) (g := mkF m pc Ls (.int x :: .int j :: .ref a :: st)) rfl rfl (Jvm.hb C.2.2.2.2.2.1 hd)
  rw [q2] at W
  obtain ⟨t, v', L', f1, r⟩ := K h2 W (A0.set W hlt hf) T2 _ vm0 X2 e2 (Fr.snoc X2 hF hn0) (I.wr W hn0 S)
  exact ⟨t, v', L', st2 _ f1, r⟩
theorem Ctx.bastore (C : Ctx p meth c Z a0 EL cd mx ret nm) (pc' : Nat) {a : Nat} {xs : List Int32} {j x : Int32} (ji : Nat) (hd : decode cd pc = .ok (.bastore, 1)) (A : Ar Z h a .byte xs) (hj : j = Int32.ofNat ji) (hlt : ji < xs.length) (hf : fits .byte (.int (nar .byte x)) = true) (hn0 : n0 ≤ a) (S : Sf Z h bk a) (K : ∀ h2, Wr h h2 a ji (.int (nar .byte x)) → Ar Z h2 a .byte (xs.set ji (nar .byte x)) → Go p l e R s m args below meth c Z own EL n0 eb Q bk h2 k n pc' Ls st) (hp : pc + 1 = pc' := by rfl) : Go p l e R s m args below meth c Z own EL n0 eb Q bk h k n pc Ls (.int x :: .int j :: .ref a :: st) := by
  subst hp
  intro T L vm0 X eh hF I
  have A0 := A
  obtain ⟨cl, A, g1, g2, g3, g4⟩ := A
  obtain ⟨q1, q2⟩ := own_len31 (by omega) hj
  obtain ⟨T2, h2, X2, e2, W, st2⟩ := stB X C.1 (show Z.Warmed39 (s.setVm vm0).vm from I.2.1) eh A (fun o => o.elim q1 fun q => by omega) (g := mkF m pc Ls (.int x :: .int j :: .ref a :: st)) rfl rfl (Jvm.hb C.2.2.2.2.2.1 hd)
  rw [q2] at W
  obtain ⟨t, v', L', f1, r⟩ := K h2 W (A0.set W hlt hf) T2 _ vm0 X2 e2 (Fr.snoc X2 hF hn0) (I.wr W hn0 S)
  exact ⟨t, v', L', st2 _ f1, r⟩

theorem Ctx.cast (C : Ctx p meth c Z a0 EL cd mx ret nm) (pc' : Nat) {K0 : String} {a : Nat} (hd : decode cd pc = .ok (.checkcast i, 3)) (w : (Cond.classLink own i K0).before a0 Z = true) (F : Ins Z h a K0 true) (K : Go p l e R s m args below meth c Z own EL n0 eb Q bk h k n pc' Ls (.ref a :: st)) (hp : pc + 3 = pc' := by rfl) : Go p l e R s m args below meth c Z own EL n0 eb Q bk h k n pc Ls (.ref a :: st) := by
  subst hp
  intro T L vm0 X eh hF I
  obtain ⟨T2, X2, e2, st2⟩ := castY X C.1 (show Z.Warmed39 (s.setVm vm0).vm from I.2.1) I.2.2.1 w eh F (g := mkF m pc Ls (.ref a :: st)) rfl rfl (Jvm.hb C.2.2.2.2.2.1 hd)
  obtain ⟨t, v', L', g1, r⟩ := K T2 L vm0 X2 e2 hF I
  exact ⟨t, v', L', st2 _ g1, r⟩
theorem Ctx.instY (C : Ctx p meth c Z a0 EL cd mx ret nm) (pc' : Nat) {K0 : String} {a : Nat} (hd : decode cd pc = .ok (.instanceof i, 3)) (w : (Cond.classLink own i K0).before a0 Z = true) (F : Ins Z h a K0 true) (K : Go p l e R s m args below meth c Z own EL n0 eb Q bk h k n pc' Ls (.int 1 :: st)) (hp : pc + 3 = pc' := by rfl) : Go p l e R s m args below meth c Z own EL n0 eb Q bk h k n pc Ls (.ref a :: st) := by
  subst hp
  intro T L vm0 X eh hF I
  obtain ⟨T2, X2, e2, st2⟩ := RoadKit.instY X C.1 (show Z.Warmed39 (s.setVm vm0).vm from I.2.1) I.2.2.1 w eh F (g := mkF m pc Ls (.ref a :: st)) rfl rfl (Jvm.hb C.2.2.2.2.2.1 hd)
  obtain ⟨t, v', L', g1, r⟩ := K T2 L vm0 X2 e2 hF I
  exact ⟨t, v', L', st2 _ g1, r⟩
theorem Ctx.instN (C : Ctx p meth c Z a0 EL cd mx ret nm) (pc' : Nat) {K0 C0 : String} {a : Nat} (hd : decode cd pc = .ok (.instanceof i, 3)) (w : (Cond.classLink own i K0).before a0 Z = true) (E : Exa Z h a C0) (F : ∃ c t, Z.vm.findClass C0 = some c ∧ Z.vm.findClass K0 = some t ∧ Z.vm.assignable c t = false) (K : Go p l e R s m args below meth c Z own EL n0 eb Q bk h k n pc' Ls (.int 0 :: st)) (hp : pc + 3 = pc' := by rfl) : Go p l e R s m args below meth c Z own EL n0 eb Q bk h k n pc Ls (.ref a :: st) := by
  subst hp
  intro T L vm0 X eh hF I
  obtain ⟨T2, X2, e2, st2⟩ := instNo X C.1 (show Z.Warmed39 (s.setVm vm0).vm from I.2.1) I.2.2.1 w eh E F (g := mkF m pc Ls (.ref a :: st)) rfl rfl (Jvm.hb C.2.2.2.2.2.1 hd)
  obtain ⟨t, v', L', g1, r⟩ := K T2 L vm0 X2 e2 hF I
  exact ⟨t, v', L', st2 _ g1, r⟩
theorem Ctx.instNull (C : Ctx p meth c Z a0 EL cd mx ret nm) (pc' : Nat) (hd : decode cd pc = .ok (.instanceof i, 3)) (K : Go p l e R s m args below meth c Z own EL n0 eb Q bk h k n pc' Ls (.int 0 :: st)) (hp : pc + 3 = pc' := by rfl) : Go p l e R s m args below meth c Z own EL n0 eb Q bk h k n pc Ls (.null :: st) := by
  subst hp
  intro T L vm0 X eh hF I
  obtain ⟨t, v', L', g1, r⟩ := K T L vm0 X eh hF I
  exact ⟨t, v', L', X.instanceofNull C.1 (g := mkF m pc Ls (.null :: st)) rfl rfl (Jvm.hb C.2.2.2.2.2.1 hd) _ g1, r⟩
theorem Ctx.objInit (C : Ctx p meth c Z a0 EL cd mx ret nm) (pc' : Nat) {a : Nat} {W : Nat} (hd : decode cd pc = .ok (.invokespecial i, 3)) (w1 : (Cond.methodLink own i Lib.objectInit).before a0 Z = true) (w2 : (Cond.instanceMethod Lib.objectInit).before a0 Z = true) (w3 : (Cond.code Lib.objectInit ⟨#[0xb1]⟩ 1 none).before a0 Z = true) (hsz : Ls.size = mx) (hf : 1 ≤ R.frames) (hW : 2 * 0 + (st.map fun v => v.category).sum ≤ W) (hl : W + 12 ≤ R.locals) (K : Go p l e R s m args below meth c Z own EL n0 eb Q bk h k n pc' Ls st) (hp : pc + 3 = pc' := by rfl) : Go p l e R s m args below meth c Z own EL n0 eb Q bk h k n pc Ls (.ref a :: st) := by
  subst hp
  intro T L vm0 X eh hF I
  obtain ⟨T2, X2, e2, st2⟩ := initO X C.1 (show Z.Warmed39 (s.setVm vm0).vm from I.2.1) I.2.2.1 w1 w2 w3 eh (g := mkF m pc Ls (.ref a :: st)) rfl (hsz.trans C.2.2.2.2.2.2.1.symm) rfl (Jvm.hb C.2.2.2.2.2.1 hd) hf hW hl
  obtain ⟨t, v', L', g1, r⟩ := K T2 L vm0 X2 e2 hF I
  exact ⟨t, v', L', st2 _ g1, r⟩
theorem own_eqcopy (xs : List Int32) (si ni : Nat) (h : si + ni ≤ xs.length) {V : Type} (f : Int32 → V) (d : V) : (List.range ni).map (fun j => (xs.map f).getD (si + j) d) = ((xs.drop si).take ni).map f := by
  refine List.ext_getElem? fun j => ?_
  simp only [List.getElem?_map, List.getElem?_take, List.getElem?_drop]
  by_cases q : j < ni
  · rw [List.getElem?_range q, if_pos q]
    have q2 : si + j < xs.length := by omega
    simp [q2]
  · rw [if_neg q, List.getElem?_eq_none (by simp; omega)]; rfl
/-- System.arraycopy between two arrays of one primitive kind -/
theorem Ctx.acopy (C : Ctx p meth c Z a0 EL cd mx ret nm) (pc' : Nat) {a b : Nat} {ty : FieldType} {xs ys : List Int32} {sp dp nn : Int32} {si di ni W : Nat} (hd : decode cd pc = .ok (.invokestatic i, 3)) (w1 : (Cond.methodLink own i Jvm.Stand.acN).before a0 Z = true) (w2 : (Cond.native Jvm.Stand.acN).before a0 Z = true) (w3 : (Cond.static Jvm.Stand.acN).before a0 Z = true) (w4 : (Cond.initialized "java/lang/System").before a0 Z = true) (A : Ar Z h a ty xs) (B : Ar Z h b ty ys) (hty : refKind ty = false)
    (e1 : sp = Int32.ofNat si) (e2 : dp = Int32.ofNat di) (e3 : nn = Int32.ofNat ni) (h4 : si + ni ≤ xs.length) (h5 : di + ni ≤ ys.length) (hn0 : n0 ≤ b) (S : Sf Z h bk b) (hsz : Ls.size = mx) (hf : 1 ≤ R.frames) (hW : 2 * 0 + (st.map fun v => v.category).sum ≤ W) (hlo : W + (nativeFrameWords "java/lang/System" "arraycopy" 5 + 11) ≤ R.locals)
    (K : ∀ h2, OKp (fun x => x ≠ b) h h2 → Ar Z h2 b ty (ys.take di ++ (xs.drop si).take ni ++ ys.drop (di + ni)) → Go p l e R s m args below meth c Z own EL n0 eb Q bk h2 k n pc' Ls st) (hp : pc + 3 = pc' := by rfl) : Go p l e R s m args below meth c Z own EL n0 eb Q bk h k n pc Ls (.int nn :: .int dp :: .ref b :: .int sp :: .ref a :: st) := by
  subst hp
  intro T L vm0 X eh hF I
  obtain ⟨ka, A'⟩ := A.arv
  obtain ⟨kb, B'⟩ := B.arv
  have lx : xs.length < 2147483648 := by obtain ⟨_, _, _, g, _⟩ := A; exact g
  have ly : ys.length < 2147483648 := by obtain ⟨_, _, _, g, _⟩ := B; exact g
  obtain ⟨s1, s2⟩ := own_len31 (show si < 2147483648 by omega) e1
  obtain ⟨d1, d2⟩ := own_len31 (show di < 2147483648 by omega) e2
  obtain ⟨m1, m2⟩ := own_len31 (show ni < 2147483648 by omega) e3
  obtain ⟨T2, h2, L2, X2, e2', F2, K2, V2, st2⟩ := cpA X C.1 (show Z.Warmed39 (s.setVm vm0).vm from I.2.1) I.2.2.1 w1 w2 w3 w4 eh A' B' (Or.inl ⟨rfl, hty⟩) s1 d1 m1 (by rw [s2, m2, (own_len31 lx rfl).2]; exact h4) (by rw [d2, m2, (own_len31 ly rfl).2]; exact h5) rfl (by rw [d2, m2, List.length_map]; exact h5) hF hn0 (g := mkF m pc Ls (.int nn :: .int dp :: .ref b :: .int sp :: .ref a :: st)) rfl (hsz.trans C.2.2.2.2.2.2.1.symm) rfl (Jvm.hb C.2.2.2.2.2.1 hd) hf hW hlo
  have eq : (ys.map Value.int).take dp.toNatClampNeg ++ (List.range nn.toNatClampNeg).map (fun j => (xs.map Value.int).getD (sp.toNatClampNeg + j) (.int 0)) ++ (ys.map Value.int).drop (dp.toNatClampNeg + nn.toNatClampNeg) = (ys.take di ++ (xs.drop si).take ni ++ ys.drop (di + ni)).map Value.int := by
    rw [d2, m2, s2, own_eqcopy xs si ni h4 Value.int (.int 0)]
    simp only [List.map_append, List.map_take, List.map_drop]
  rw [eq] at V2
  have hlen : (ys.take di ++ (xs.drop si).take ni ++ ys.drop (di + ni)).length = ys.length := by simp only [List.length_append, List.length_take, List.length_drop]; omega
  obtain ⟨t, v', L', g1, r⟩ := K h2 ⟨K2.1, fun x cl q r => K2.2.1 x cl r fun hm => q (List.mem_singleton.mp hm)⟩ (Ar.ofArv (by rw [hlen]; exact V2) (by rw [hlen]; exact ly)) T2 _ vm0 X2 e2' F2 (I.keep K2 hn0 S)
  exact ⟨t, v', L', st2 _ g1, r⟩
theorem own_leave {T : State} {L : List Loc} {fs : List Frame} {v : Option Value} (C : Ctx p meth c Z a0 EL cd mx ret nm) (X : Stand p l e R (s.setVm vm0) m args below meth c T L k n) (eh : T.heap = h) (hF : Fr n0 L) (I : OInv s Z own EL m n0 bk vm0 h) (hk : k ≤ R.cells) (hn : n ≤ R.slots) (hE : bk ≤ eb h ∨ h.size ≤ eb h) (hw : ReturnedEndW s (.returned v) (T.setFrames fs) L k n) (K : Q v h) :
    Fr n0 L ∧ (∃ k' n', k' ≤ R.cells ∧ n' ≤ R.slots ∧ ReturnedEndW s (.returned v) (T.setFrames fs) L k' n') ∧ CHr Z EL s.vm s.heap (T.setFrames fs).vm (T.setFrames fs).heap ∧ (∀ y, Bk Z EL (T.setFrames fs).vm (T.setFrames fs).heap y → y < eb (T.setFrames fs).heap) ∧ OKp (fun x => x < n0) s.heap (T.setFrames fs).heap ∧ Ext Z.heap (T.setFrames fs).heap ∧ Q v (T.setFrames fs).heap := by
  have e1 : (T.setFrames fs).heap = h := eh
  have e2 : (T.setFrames fs).vm = T.vm := rfl
  rw [e1, e2]
  obtain ⟨i1, i3, i4, i5, i6, i7, i8, i9⟩ := id I
  have A := CHv.at X i3 C.2.1 i5.1
  refine ⟨hF, ⟨k, n, hk, hn, hw⟩, i5.trans A, fun y B => ?_, i7, i8, K⟩
  rcases A.2.2 y B with q | q
  · exact own_bkc I hE y q
  · obtain ⟨cell, g⟩ := B.there
    exact absurd (Array.getElem?_eq_some_iff.mp g).1 (Nat.not_lt.mpr q)
theorem Ctx.retN (C : Ctx p meth c Z a0 EL cd mx ret nm) {z : Int32} {t : FieldType} (hret : ret = some t) (ht : t = .boolean ∨ t = .byte ∨ t = .char ∨ t = .short) (hd : decode cd pc = .ok (.ireturn, 1)) (hk : k ≤ R.cells) (hn : n ≤ R.slots) (hE : bk ≤ eb h ∨ h.size ≤ eb h) (K : Q (some (.int (nar t z))) h) : Go p l e R s m args below meth c Z own EL n0 eb Q bk h k n pc Ls (.int z :: st) := by
  intro T L vm0 X eh hF I
  obtain ⟨k0, i1, i2⟩ := I.1
  obtain ⟨fs, hr, hrun, hended, hw⟩ := X.leaveW i1 (eh ▸ i2) (v := some (.int (nar t z))) (fun g => by rw [C.2.2.2.1, hret] at g; cases g) C.2.2.2.2.1
  exact ⟨_, _, L, RoadKit.retN X C.1 (C.2.2.2.1.trans hret) ht (Jvm.hb C.2.2.2.2.2.1 hd) hr, hrun, hended, own_leave C X eh hF I hk hn hE hw K⟩
theorem Ctx.retI (C : Ctx p meth c Z a0 EL cd mx ret nm) {z : Int32} (hret : ret = some .int) (hd : decode cd pc = .ok (.ireturn, 1)) (hk : k ≤ R.cells) (hn : n ≤ R.slots) (hE : bk ≤ eb h ∨ h.size ≤ eb h) (K : Q (some (.int z)) h) : Go p l e R s m args below meth c Z own EL n0 eb Q bk h k n pc Ls (.int z :: st) := by
  intro T L vm0 X eh hF I
  obtain ⟨k0, i1, i2⟩ := I.1
  obtain ⟨fs, hr, hrun, hended, hw⟩ := X.leaveW i1 (eh ▸ i2) (v := some (.int z)) (fun g => by rw [C.2.2.2.1, hret] at g; cases g) C.2.2.2.2.1
  exact ⟨_, _, L, retOut X C.1 (C.2.2.2.1.trans hret) rfl (Or.inl ⟨rfl, Or.inl rfl, _, rfl⟩) (Jvm.hb C.2.2.2.2.2.1 hd) hr, hrun, hended, own_leave C X eh hF I hk hn hE hw K⟩
theorem Ctx.retA (C : Ctx p meth c Z a0 EL cd mx ret nm) {w : Value} {t : FieldType} (hret : ret = some t) (ht : t.isReference = true) (hd : decode cd pc = .ok (.areturn, 1)) (hv : w.isRef = true) (hk : k ≤ R.cells) (hn : n ≤ R.slots) (hE : bk ≤ eb h ∨ h.size ≤ eb h) (K : Q (some w) h) : Go p l e R s m args below meth c Z own EL n0 eb Q bk h k n pc Ls (w :: st) := by
  intro T L vm0 X eh hF I
  obtain ⟨k0, i1, i2⟩ := I.1
  obtain ⟨fs, hr, hrun, hended, hw⟩ := X.leaveW i1 (eh ▸ i2) (v := some w) (fun g => by rw [C.2.2.2.1, hret] at g; cases g) C.2.2.2.2.1
  have hnr : narrow t w = w := by rcases ref_cases hv with rfl | ⟨a, rfl⟩ <;> cases t <;> rfl
  exact ⟨_, _, L, retOut X C.1 (C.2.2.2.1.trans hret) hnr (Or.inr (Or.inr (Or.inr (Or.inr ⟨rfl, ht, hv⟩)))) (Jvm.hb C.2.2.2.2.2.1 hd) hr, hrun, hended, own_leave C X eh hF I hk hn hE hw K⟩
theorem Ctx.retV (C : Ctx p meth c Z a0 EL cd mx ret nm) (hret : ret = none) (hd : decode cd pc = .ok (.return_, 1)) (hk : k ≤ R.cells) (hn : n ≤ R.slots) (hE : bk ≤ eb h ∨ h.size ≤ eb h) (K : Q none h) : Go p l e R s m args below meth c Z own EL n0 eb Q bk h k n pc Ls [] := by
  intro T L vm0 X eh hF I
  obtain ⟨k0, i1, i2⟩ := I.1
  obtain ⟨fs, hr, hrun, hended, hw⟩ := X.leaveW i1 (eh ▸ i2) (v := none) (fun _ => rfl) C.2.2.2.2.1
  exact ⟨_, _, L, X.returnOut C.1 (C.2.2.2.1.trans hret) (Jvm.hb C.2.2.2.2.2.1 hd) hr, hrun, hended, own_leave C X eh hF I hk hn hE hw K⟩
end Steps1
theorem Ctx.iloadN (C : Ctx p meth c Z a0 EL cd mx ret nm) {pc : Nat} {Ls : Array Slot} {st : List Value} (pc' : Nat) {j : Fin 4} {v : Int32} (hd : decode cd pc = .ok (.iload_n j, 1)) (hl : Ls[j.val]? = some (.val (.int v))) (K : Go p l e R s m args below meth c Z own EL n0 eb Q bk h k n pc' Ls (.int v :: st)) (hp : pc + 1 = pc' := by rfl) : Go p l e R s m args below meth c Z own EL n0 eb Q bk h k n pc Ls (st) := by
  subst hp
  exact Go.pure (fun T t h hr => XS.iloadN h C.1 rfl (Jvm.hb C.2.2.2.2.2.1 hd) hl hr) K
theorem Ctx.iload (C : Ctx p meth c Z a0 EL cd mx ret nm) {pc : Nat} {Ls : Array Slot} {st : List Value} (pc' : Nat) {j : Nat} {v : Int32} (hd : decode cd pc = .ok (.iload j, 2)) (hl : Ls[j]? = some (.val (.int v))) (K : Go p l e R s m args below meth c Z own EL n0 eb Q bk h k n pc' Ls (.int v :: st)) (hp : pc + 2 = pc' := by rfl) : Go p l e R s m args below meth c Z own EL n0 eb Q bk h k n pc Ls (st) := by
  subst hp
  exact Go.pure (fun T t h hr => XS.iload h C.1 rfl (Jvm.hb C.2.2.2.2.2.1 hd) hl hr) K
theorem Ctx.lloadN (C : Ctx p meth c Z a0 EL cd mx ret nm) {pc : Nat} {Ls : Array Slot} {st : List Value} (pc' : Nat) {j : Fin 4} {v : Int64} (hd : decode cd pc = .ok (.lload_n j, 1)) (hl : Ls[j.val]? = some (.val (.long v))) (K : Go p l e R s m args below meth c Z own EL n0 eb Q bk h k n pc' Ls (.long v :: st)) (hp : pc + 1 = pc' := by rfl) : Go p l e R s m args below meth c Z own EL n0 eb Q bk h k n pc Ls (st) := by
  subst hp
  exact Go.pure (fun T t h hr => XT.lloadN h C.1 rfl (Jvm.hb C.2.2.2.2.2.1 hd) hl hr) K
theorem Ctx.lload (C : Ctx p meth c Z a0 EL cd mx ret nm) {pc : Nat} {Ls : Array Slot} {st : List Value} (pc' : Nat) {j : Nat} {v : Int64} (hd : decode cd pc = .ok (.lload j, 2)) (hl : Ls[j]? = some (.val (.long v))) (K : Go p l e R s m args below meth c Z own EL n0 eb Q bk h k n pc' Ls (.long v :: st)) (hp : pc + 2 = pc' := by rfl) : Go p l e R s m args below meth c Z own EL n0 eb Q bk h k n pc Ls (st) := by
  subst hp
  exact Go.pure (fun T t h hr => XT.lload h C.1 rfl (Jvm.hb C.2.2.2.2.2.1 hd) hl hr) K
theorem Ctx.aloadN (C : Ctx p meth c Z a0 EL cd mx ret nm) {pc : Nat} {Ls : Array Slot} {st : List Value} (pc' : Nat) {j : Fin 4} {v : Value} (hd : decode cd pc = .ok (.aload_n j, 1)) (hl : Ls[j.val]? = some (.val v)) (hv : v.isRef = true) (K : Go p l e R s m args below meth c Z own EL n0 eb Q bk h k n pc' Ls (v :: st)) (hp : pc + 1 = pc' := by rfl) : Go p l e R s m args below meth c Z own EL n0 eb Q bk h k n pc Ls (st) := by
  subst hp
  exact Go.pure (fun T t h hr => XS.aloadN h C.1 rfl (Jvm.hb C.2.2.2.2.2.1 hd) hl hv hr) K
theorem Ctx.aload (C : Ctx p meth c Z a0 EL cd mx ret nm) {pc : Nat} {Ls : Array Slot} {st : List Value} (pc' : Nat) {j : Nat} {v : Value} (hd : decode cd pc = .ok (.aload j, 2)) (hl : Ls[j]? = some (.val v)) (hv : v.isRef = true) (K : Go p l e R s m args below meth c Z own EL n0 eb Q bk h k n pc' Ls (v :: st)) (hp : pc + 2 = pc' := by rfl) : Go p l e R s m args below meth c Z own EL n0 eb Q bk h k n pc Ls (st) := by
  subst hp
  exact Go.pure (fun T t h hr => XS.aload h C.1 rfl (Jvm.hb C.2.2.2.2.2.1 hd) hl hv hr) K
theorem Ctx.istoreN (C : Ctx p meth c Z a0 EL cd mx ret nm) {pc : Nat} {Ls : Array Slot} {st : List Value} (pc' : Nat) {j : Fin 4} {v : Int32} {L' : Array Slot} (hd : decode cd pc = .ok (.istore_n j, 1)) (hl : storeLocals Ls j.val (.int v) = some L') (K : Go p l e R s m args below meth c Z own EL n0 eb Q bk h k n pc' L' (st)) (hp : pc + 1 = pc' := by rfl) : Go p l e R s m args below meth c Z own EL n0 eb Q bk h k n pc Ls (.int v :: st) := by
  subst hp
  exact Go.pure (fun T t h hr => XS.istoreN h C.1 rfl (Jvm.hb C.2.2.2.2.2.1 hd) rfl hl hr) K
theorem Ctx.istore (C : Ctx p meth c Z a0 EL cd mx ret nm) {pc : Nat} {Ls : Array Slot} {st : List Value} (pc' : Nat) {j : Nat} {v : Int32} {L' : Array Slot} (hd : decode cd pc = .ok (.istore j, 2)) (hl : storeLocals Ls j (.int v) = some L') (K : Go p l e R s m args below meth c Z own EL n0 eb Q bk h k n pc' L' (st)) (hp : pc + 2 = pc' := by rfl) : Go p l e R s m args below meth c Z own EL n0 eb Q bk h k n pc Ls (.int v :: st) := by
  subst hp
  exact Go.pure (fun T t h hr => XS.istore h C.1 rfl (Jvm.hb C.2.2.2.2.2.1 hd) rfl hl hr) K
theorem Ctx.lstoreN (C : Ctx p meth c Z a0 EL cd mx ret nm) {pc : Nat} {Ls : Array Slot} {st : List Value} (pc' : Nat) {j : Fin 4} {v : Int64} {L' : Array Slot} (hd : decode cd pc = .ok (.lstore_n j, 1)) (hl : storeLocals Ls j.val (.long v) = some L') (K : Go p l e R s m args below meth c Z own EL n0 eb Q bk h k n pc' L' (st)) (hp : pc + 1 = pc' := by rfl) : Go p l e R s m args below meth c Z own EL n0 eb Q bk h k n pc Ls (.long v :: st) := by
  subst hp
  exact Go.pure (fun T t h hr => XT.lstoreN h C.1 rfl (Jvm.hb C.2.2.2.2.2.1 hd) rfl hl hr) K
theorem Ctx.lstore (C : Ctx p meth c Z a0 EL cd mx ret nm) {pc : Nat} {Ls : Array Slot} {st : List Value} (pc' : Nat) {j : Nat} {v : Int64} {L' : Array Slot} (hd : decode cd pc = .ok (.lstore j, 2)) (hl : storeLocals Ls j (.long v) = some L') (K : Go p l e R s m args below meth c Z own EL n0 eb Q bk h k n pc' L' (st)) (hp : pc + 2 = pc' := by rfl) : Go p l e R s m args below meth c Z own EL n0 eb Q bk h k n pc Ls (.long v :: st) := by
  subst hp
  exact Go.pure (fun T t h hr => XT.lstore h C.1 rfl (Jvm.hb C.2.2.2.2.2.1 hd) rfl hl hr) K
theorem Ctx.astoreN (C : Ctx p meth c Z a0 EL cd mx ret nm) {pc : Nat} {Ls : Array Slot} {st : List Value} (pc' : Nat) {j : Fin 4} {v : Value} {L' : Array Slot} (hd : decode cd pc = .ok (.astore_n j, 1)) (hl : storeLocals Ls j.val v = some L') (hv : v.isRef = true) (K : Go p l e R s m args below meth c Z own EL n0 eb Q bk h k n pc' L' (st)) (hp : pc + 1 = pc' := by rfl) : Go p l e R s m args below meth c Z own EL n0 eb Q bk h k n pc Ls (v :: st) := by
  subst hp
  exact Go.pure (fun T t h hr => XS.astoreN h C.1 rfl (Jvm.hb C.2.2.2.2.2.1 hd) rfl hv hl hr) K
theorem Ctx.astore (C : Ctx p meth c Z a0 EL cd mx ret nm) {pc : Nat} {Ls : Array Slot} {st : List Value} (pc' : Nat) {j : Nat} {v : Value} {L' : Array Slot} (hd : decode cd pc = .ok (.astore j, 2)) (hl : storeLocals Ls j v = some L') (hv : v.isRef = true) (K : Go p l e R s m args below meth c Z own EL n0 eb Q bk h k n pc' L' (st)) (hp : pc + 2 = pc' := by rfl) : Go p l e R s m args below meth c Z own EL n0 eb Q bk h k n pc Ls (v :: st) := by
  subst hp
  exact Go.pure (fun T t h hr => XS.astore h C.1 rfl (Jvm.hb C.2.2.2.2.2.1 hd) rfl hv hl hr) K
theorem Ctx.iconst (C : Ctx p meth c Z a0 EL cd mx ret nm) {pc : Nat} {Ls : Array Slot} {st : List Value} (pc' : Nat) {i : Int} (v : Int32) (hd : decode cd pc = .ok (.iconst i, 1)) (hv : Int32.ofInt i = v) (K : Go p l e R s m args below meth c Z own EL n0 eb Q bk h k n pc' Ls (.int v :: st)) (hp : pc + 1 = pc' := by rfl) : Go p l e R s m args below meth c Z own EL n0 eb Q bk h k n pc Ls (st) := by
  subst hp
  exact Go.pure (fun T t h hr => XT.iconstV h C.1 rfl v (Jvm.hb C.2.2.2.2.2.1 hd) hv hr) K
theorem Ctx.bipush (C : Ctx p meth c Z a0 EL cd mx ret nm) {pc : Nat} {Ls : Array Slot} {st : List Value} (pc' : Nat) {i : Int} (v : Int32) (hd : decode cd pc = .ok (.bipush i, 2)) (hv : (Int8.ofInt i).toInt32 = v) (K : Go p l e R s m args below meth c Z own EL n0 eb Q bk h k n pc' Ls (.int v :: st)) (hp : pc + 2 = pc' := by rfl) : Go p l e R s m args below meth c Z own EL n0 eb Q bk h k n pc Ls (st) := by
  subst hp
  exact Go.pure (fun T t h hr => XT.bipushV h C.1 rfl v (Jvm.hb C.2.2.2.2.2.1 hd) hv hr) K
theorem Ctx.sipush (C : Ctx p meth c Z a0 EL cd mx ret nm) {pc : Nat} {Ls : Array Slot} {st : List Value} (pc' : Nat) {i : Int} (v : Int32) (hd : decode cd pc = .ok (.sipush i, 3)) (hv : (Int16.ofInt i).toInt32 = v) (K : Go p l e R s m args below meth c Z own EL n0 eb Q bk h k n pc' Ls (.int v :: st)) (hp : pc + 3 = pc' := by rfl) : Go p l e R s m args below meth c Z own EL n0 eb Q bk h k n pc Ls (st) := by
  subst hp
  exact Go.pure (fun T t h hr => XT.sipushV h C.1 rfl v (Jvm.hb C.2.2.2.2.2.1 hd) hv hr) K
theorem Ctx.lconst (C : Ctx p meth c Z a0 EL cd mx ret nm) {pc : Nat} {Ls : Array Slot} {st : List Value} (pc' : Nat) {i : Fin 2} (v : Int64) (hd : decode cd pc = .ok (.lconst i, 1)) (hv : Int64.ofNat i = v) (K : Go p l e R s m args below meth c Z own EL n0 eb Q bk h k n pc' Ls (.long v :: st)) (hp : pc + 1 = pc' := by rfl) : Go p l e R s m args below meth c Z own EL n0 eb Q bk h k n pc Ls (st) := by
  subst hp
  exact Go.pure (fun T t h hr => XT.lconstV h C.1 rfl v (Jvm.hb C.2.2.2.2.2.1 hd) hv hr) K
theorem Ctx.aconstNull (C : Ctx p meth c Z a0 EL cd mx ret nm) {pc : Nat} {Ls : Array Slot} {st : List Value} (pc' : Nat)  (hd : decode cd pc = .ok (.aconst_null, 1))  (K : Go p l e R s m args below meth c Z own EL n0 eb Q bk h k n pc' Ls (.null :: st)) (hp : pc + 1 = pc' := by rfl) : Go p l e R s m args below meth c Z own EL n0 eb Q bk h k n pc Ls (st) := by
  subst hp
  exact Go.pure (fun T t h hr => XS.aconstNull h C.1 rfl (Jvm.hb C.2.2.2.2.2.1 hd)  hr) K
theorem Ctx.iadd (C : Ctx p meth c Z a0 EL cd mx ret nm) {pc : Nat} {Ls : Array Slot} {st : List Value} (pc' : Nat) {x y : Int32} (hd : decode cd pc = .ok (.iadd, 1))  (K : Go p l e R s m args below meth c Z own EL n0 eb Q bk h k n pc' Ls (.int (x + y) :: st)) (hp : pc + 1 = pc' := by rfl) : Go p l e R s m args below meth c Z own EL n0 eb Q bk h k n pc Ls (.int y :: .int x :: st) := by
  subst hp
  exact Go.pure (fun T t h hr => XS.iadd h C.1 rfl (Jvm.hb C.2.2.2.2.2.1 hd) rfl hr) K
theorem Ctx.isub (C : Ctx p meth c Z a0 EL cd mx ret nm) {pc : Nat} {Ls : Array Slot} {st : List Value} (pc' : Nat) {x y : Int32} (hd : decode cd pc = .ok (.isub, 1))  (K : Go p l e R s m args below meth c Z own EL n0 eb Q bk h k n pc' Ls (.int (x - y) :: st)) (hp : pc + 1 = pc' := by rfl) : Go p l e R s m args below meth c Z own EL n0 eb Q bk h k n pc Ls (.int y :: .int x :: st) := by
  subst hp
  exact Go.pure (fun T t h hr => XS.isub h C.1 rfl (Jvm.hb C.2.2.2.2.2.1 hd) rfl hr) K
theorem Ctx.imul (C : Ctx p meth c Z a0 EL cd mx ret nm) {pc : Nat} {Ls : Array Slot} {st : List Value} (pc' : Nat) {x y : Int32} (hd : decode cd pc = .ok (.imul, 1))  (K : Go p l e R s m args below meth c Z own EL n0 eb Q bk h k n pc' Ls (.int (x * y) :: st)) (hp : pc + 1 = pc' := by rfl) : Go p l e R s m args below meth c Z own EL n0 eb Q bk h k n pc Ls (.int y :: .int x :: st) := by
  subst hp
  exact Go.pure (fun T t h hr => XS.imul h C.1 rfl (Jvm.hb C.2.2.2.2.2.1 hd) rfl hr) K
theorem Ctx.iand (C : Ctx p meth c Z a0 EL cd mx ret nm) {pc : Nat} {Ls : Array Slot} {st : List Value} (pc' : Nat) {x y : Int32} (hd : decode cd pc = .ok (.iand, 1))  (K : Go p l e R s m args below meth c Z own EL n0 eb Q bk h k n pc' Ls (.int (x &&& y) :: st)) (hp : pc + 1 = pc' := by rfl) : Go p l e R s m args below meth c Z own EL n0 eb Q bk h k n pc Ls (.int y :: .int x :: st) := by
  subst hp
  exact Go.pure (fun T t h hr => XS.iand h C.1 rfl (Jvm.hb C.2.2.2.2.2.1 hd) rfl hr) K
theorem Ctx.ior (C : Ctx p meth c Z a0 EL cd mx ret nm) {pc : Nat} {Ls : Array Slot} {st : List Value} (pc' : Nat) {x y : Int32} (hd : decode cd pc = .ok (.ior, 1))  (K : Go p l e R s m args below meth c Z own EL n0 eb Q bk h k n pc' Ls (.int (x ||| y) :: st)) (hp : pc + 1 = pc' := by rfl) : Go p l e R s m args below meth c Z own EL n0 eb Q bk h k n pc Ls (.int y :: .int x :: st) := by
  subst hp
  exact Go.pure (fun T t h hr => XT.ior h C.1 rfl (Jvm.hb C.2.2.2.2.2.1 hd) rfl hr) K
theorem Ctx.ixor (C : Ctx p meth c Z a0 EL cd mx ret nm) {pc : Nat} {Ls : Array Slot} {st : List Value} (pc' : Nat) {x y : Int32} (hd : decode cd pc = .ok (.ixor, 1))  (K : Go p l e R s m args below meth c Z own EL n0 eb Q bk h k n pc' Ls (.int (x ^^^ y) :: st)) (hp : pc + 1 = pc' := by rfl) : Go p l e R s m args below meth c Z own EL n0 eb Q bk h k n pc Ls (.int y :: .int x :: st) := by
  subst hp
  exact Go.pure (fun T t h hr => XT.ixor h C.1 rfl (Jvm.hb C.2.2.2.2.2.1 hd) rfl hr) K
theorem Ctx.ishl (C : Ctx p meth c Z a0 EL cd mx ret nm) {pc : Nat} {Ls : Array Slot} {st : List Value} (pc' : Nat) {x y : Int32} (hd : decode cd pc = .ok (.ishl, 1))  (K : Go p l e R s m args below meth c Z own EL n0 eb Q bk h k n pc' Ls (.int (x <<< (y &&& 31)) :: st)) (hp : pc + 1 = pc' := by rfl) : Go p l e R s m args below meth c Z own EL n0 eb Q bk h k n pc Ls (.int y :: .int x :: st) := by
  subst hp
  exact Go.pure (fun T t h hr => XT.ishl h C.1 rfl (Jvm.hb C.2.2.2.2.2.1 hd) rfl hr) K
theorem Ctx.ishr (C : Ctx p meth c Z a0 EL cd mx ret nm) {pc : Nat} {Ls : Array Slot} {st : List Value} (pc' : Nat) {x y : Int32} (hd : decode cd pc = .ok (.ishr, 1))  (K : Go p l e R s m args below meth c Z own EL n0 eb Q bk h k n pc' Ls (.int (x >>> (y &&& 31)) :: st)) (hp : pc + 1 = pc' := by rfl) : Go p l e R s m args below meth c Z own EL n0 eb Q bk h k n pc Ls (.int y :: .int x :: st) := by
  subst hp
  exact Go.pure (fun T t h hr => XT.ishr h C.1 rfl (Jvm.hb C.2.2.2.2.2.1 hd) rfl hr) K
theorem Ctx.iushr (C : Ctx p meth c Z a0 EL cd mx ret nm) {pc : Nat} {Ls : Array Slot} {st : List Value} (pc' : Nat) {x y : Int32} (hd : decode cd pc = .ok (.iushr, 1))  (K : Go p l e R s m args below meth c Z own EL n0 eb Q bk h k n pc' Ls (.int (XT.ushr x y) :: st)) (hp : pc + 1 = pc' := by rfl) : Go p l e R s m args below meth c Z own EL n0 eb Q bk h k n pc Ls (.int y :: .int x :: st) := by
  subst hp
  exact Go.pure (fun T t h hr => XT.iushr h C.1 rfl (Jvm.hb C.2.2.2.2.2.1 hd) rfl hr) K
theorem Ctx.ineg (C : Ctx p meth c Z a0 EL cd mx ret nm) {pc : Nat} {Ls : Array Slot} {st : List Value} (pc' : Nat) {x : Int32} (hd : decode cd pc = .ok (.ineg, 1))  (K : Go p l e R s m args below meth c Z own EL n0 eb Q bk h k n pc' Ls (.int (-x) :: st)) (hp : pc + 1 = pc' := by rfl) : Go p l e R s m args below meth c Z own EL n0 eb Q bk h k n pc Ls (.int x :: st) := by
  subst hp
  exact Go.pure (fun T t h hr => XS.ineg h C.1 rfl (Jvm.hb C.2.2.2.2.2.1 hd) rfl hr) K
theorem Ctx.ladd (C : Ctx p meth c Z a0 EL cd mx ret nm) {pc : Nat} {Ls : Array Slot} {st : List Value} (pc' : Nat) {x y : Int64} (hd : decode cd pc = .ok (.ladd, 1))  (K : Go p l e R s m args below meth c Z own EL n0 eb Q bk h k n pc' Ls (.long (x + y) :: st)) (hp : pc + 1 = pc' := by rfl) : Go p l e R s m args below meth c Z own EL n0 eb Q bk h k n pc Ls (.long y :: .long x :: st) := by
  subst hp
  exact Go.pure (fun T t h hr => XT.ladd h C.1 rfl (Jvm.hb C.2.2.2.2.2.1 hd) rfl hr) K
theorem Ctx.lsub (C : Ctx p meth c Z a0 EL cd mx ret nm) {pc : Nat} {Ls : Array Slot} {st : List Value} (pc' : Nat) {x y : Int64} (hd : decode cd pc = .ok (.lsub, 1))  (K : Go p l e R s m args below meth c Z own EL n0 eb Q bk h k n pc' Ls (.long (x - y) :: st)) (hp : pc + 1 = pc' := by rfl) : Go p l e R s m args below meth c Z own EL n0 eb Q bk h k n pc Ls (.long y :: .long x :: st) := by
  subst hp
  exact Go.pure (fun T t h hr => XT.lsub h C.1 rfl (Jvm.hb C.2.2.2.2.2.1 hd) rfl hr) K
theorem Ctx.lmul (C : Ctx p meth c Z a0 EL cd mx ret nm) {pc : Nat} {Ls : Array Slot} {st : List Value} (pc' : Nat) {x y : Int64} (hd : decode cd pc = .ok (.lmul, 1))  (K : Go p l e R s m args below meth c Z own EL n0 eb Q bk h k n pc' Ls (.long (x * y) :: st)) (hp : pc + 1 = pc' := by rfl) : Go p l e R s m args below meth c Z own EL n0 eb Q bk h k n pc Ls (.long y :: .long x :: st) := by
  subst hp
  exact Go.pure (fun T t h hr => XT.lmul h C.1 rfl (Jvm.hb C.2.2.2.2.2.1 hd) rfl hr) K
theorem Ctx.land (C : Ctx p meth c Z a0 EL cd mx ret nm) {pc : Nat} {Ls : Array Slot} {st : List Value} (pc' : Nat) {x y : Int64} (hd : decode cd pc = .ok (.land, 1))  (K : Go p l e R s m args below meth c Z own EL n0 eb Q bk h k n pc' Ls (.long (x &&& y) :: st)) (hp : pc + 1 = pc' := by rfl) : Go p l e R s m args below meth c Z own EL n0 eb Q bk h k n pc Ls (.long y :: .long x :: st) := by
  subst hp
  exact Go.pure (fun T t h hr => XT.land h C.1 rfl (Jvm.hb C.2.2.2.2.2.1 hd) rfl hr) K
theorem Ctx.lor (C : Ctx p meth c Z a0 EL cd mx ret nm) {pc : Nat} {Ls : Array Slot} {st : List Value} (pc' : Nat) {x y : Int64} (hd : decode cd pc = .ok (.lor, 1))  (K : Go p l e R s m args below meth c Z own EL n0 eb Q bk h k n pc' Ls (.long (x ||| y) :: st)) (hp : pc + 1 = pc' := by rfl) : Go p l e R s m args below meth c Z own EL n0 eb Q bk h k n pc Ls (.long y :: .long x :: st) := by
  subst hp
  exact Go.pure (fun T t h hr => XT.lor h C.1 rfl (Jvm.hb C.2.2.2.2.2.1 hd) rfl hr) K
theorem Ctx.lxor (C : Ctx p meth c Z a0 EL cd mx ret nm) {pc : Nat} {Ls : Array Slot} {st : List Value} (pc' : Nat) {x y : Int64} (hd : decode cd pc = .ok (.lxor, 1))  (K : Go p l e R s m args below meth c Z own EL n0 eb Q bk h k n pc' Ls (.long (x ^^^ y) :: st)) (hp : pc + 1 = pc' := by rfl) : Go p l e R s m args below meth c Z own EL n0 eb Q bk h k n pc Ls (.long y :: .long x :: st) := by
  subst hp
  exact Go.pure (fun T t h hr => XT.lxor h C.1 rfl (Jvm.hb C.2.2.2.2.2.1 hd) rfl hr) K
theorem Ctx.ldiv (C : Ctx p meth c Z a0 EL cd mx ret nm) {pc : Nat} {Ls : Array Slot} {st : List Value} (pc' : Nat) {x y : Int64} (hd : decode cd pc = .ok (.ldiv, 1)) (hy : y ≠ 0) (K : Go p l e R s m args below meth c Z own EL n0 eb Q bk h k n pc' Ls (.long (x / y) :: st)) (hp : pc + 1 = pc' := by rfl) : Go p l e R s m args below meth c Z own EL n0 eb Q bk h k n pc Ls (.long y :: .long x :: st) := by
  subst hp
  exact Go.pure (fun T t h hr => XT.ldiv h C.1 rfl (Jvm.hb C.2.2.2.2.2.1 hd) rfl hy hr) K
theorem Ctx.i2l (C : Ctx p meth c Z a0 EL cd mx ret nm) {pc : Nat} {Ls : Array Slot} {st : List Value} (pc' : Nat) {x : Int32} (hd : decode cd pc = .ok (.i2l, 1))  (K : Go p l e R s m args below meth c Z own EL n0 eb Q bk h k n pc' Ls (.long x.toInt64 :: st)) (hp : pc + 1 = pc' := by rfl) : Go p l e R s m args below meth c Z own EL n0 eb Q bk h k n pc Ls (.int x :: st) := by
  subst hp
  exact Go.pure (fun T t h hr => XT.i2l h C.1 rfl (Jvm.hb C.2.2.2.2.2.1 hd) rfl hr) K
theorem Ctx.l2i (C : Ctx p meth c Z a0 EL cd mx ret nm) {pc : Nat} {Ls : Array Slot} {st : List Value} (pc' : Nat) {x : Int64} (hd : decode cd pc = .ok (.l2i, 1))  (K : Go p l e R s m args below meth c Z own EL n0 eb Q bk h k n pc' Ls (.int x.toInt32 :: st)) (hp : pc + 1 = pc' := by rfl) : Go p l e R s m args below meth c Z own EL n0 eb Q bk h k n pc Ls (.long x :: st) := by
  subst hp
  exact Go.pure (fun T t h hr => XT.l2i h C.1 rfl (Jvm.hb C.2.2.2.2.2.1 hd) rfl hr) K
theorem Ctx.i2b (C : Ctx p meth c Z a0 EL cd mx ret nm) {pc : Nat} {Ls : Array Slot} {st : List Value} (pc' : Nat) {x : Int32} (hd : decode cd pc = .ok (.i2b, 1))  (K : Go p l e R s m args below meth c Z own EL n0 eb Q bk h k n pc' Ls (.int x.toInt8.toInt32 :: st)) (hp : pc + 1 = pc' := by rfl) : Go p l e R s m args below meth c Z own EL n0 eb Q bk h k n pc Ls (.int x :: st) := by
  subst hp
  exact Go.pure (fun T t h hr => XT.i2b h C.1 rfl (Jvm.hb C.2.2.2.2.2.1 hd) rfl hr) K
theorem Ctx.i2c (C : Ctx p meth c Z a0 EL cd mx ret nm) {pc : Nat} {Ls : Array Slot} {st : List Value} (pc' : Nat) {x : Int32} (hd : decode cd pc = .ok (.i2c, 1))  (K : Go p l e R s m args below meth c Z own EL n0 eb Q bk h k n pc' Ls (.int x.toUInt32.toUInt16.toUInt32.toInt32 :: st)) (hp : pc + 1 = pc' := by rfl) : Go p l e R s m args below meth c Z own EL n0 eb Q bk h k n pc Ls (.int x :: st) := by
  subst hp
  exact Go.pure (fun T t h hr => XT.i2c h C.1 rfl (Jvm.hb C.2.2.2.2.2.1 hd) rfl hr) K
theorem Ctx.lcmp (C : Ctx p meth c Z a0 EL cd mx ret nm) {pc : Nat} {Ls : Array Slot} {st : List Value} (pc' : Nat) {x y : Int64} (hd : decode cd pc = .ok (.lcmp, 1))  (K : Go p l e R s m args below meth c Z own EL n0 eb Q bk h k n pc' Ls (.int (XT.cmpL x y) :: st)) (hp : pc + 1 = pc' := by rfl) : Go p l e R s m args below meth c Z own EL n0 eb Q bk h k n pc Ls (.long y :: .long x :: st) := by
  subst hp
  exact Go.pure (fun T t h hr => XT.lcmp h C.1 rfl (Jvm.hb C.2.2.2.2.2.1 hd) rfl hr) K
theorem Ctx.pop (C : Ctx p meth c Z a0 EL cd mx ret nm) {pc : Nat} {Ls : Array Slot} {st : List Value} (pc' : Nat) {x : Value} (hd : decode cd pc = .ok (.pop, 1)) (hc : x.category = 1) (K : Go p l e R s m args below meth c Z own EL n0 eb Q bk h k n pc' Ls (st)) (hp : pc + 1 = pc' := by rfl) : Go p l e R s m args below meth c Z own EL n0 eb Q bk h k n pc Ls (x :: st) := by
  subst hp
  exact Go.pure (fun T t h hr => XT.pop h C.1 rfl (Jvm.hb C.2.2.2.2.2.1 hd) rfl hc hr) K
theorem Ctx.dup (C : Ctx p meth c Z a0 EL cd mx ret nm) {pc : Nat} {Ls : Array Slot} {st : List Value} (pc' : Nat) {x : Value} (hd : decode cd pc = .ok (.dup, 1)) (hc : x.category = 1) (K : Go p l e R s m args below meth c Z own EL n0 eb Q bk h k n pc' Ls (x :: x :: st)) (hp : pc + 1 = pc' := by rfl) : Go p l e R s m args below meth c Z own EL n0 eb Q bk h k n pc Ls (x :: st) := by
  subst hp
  exact Go.pure (fun T t h hr => XS.dup h C.1 rfl (Jvm.hb C.2.2.2.2.2.1 hd) rfl hc hr) K
theorem Ctx.dupX1 (C : Ctx p meth c Z a0 EL cd mx ret nm) {pc : Nat} {Ls : Array Slot} {st : List Value} (pc' : Nat) {x y : Value} (hd : decode cd pc = .ok (.dup_x1, 1)) (hc : x.category = 1) (hc' : y.category = 1) (K : Go p l e R s m args below meth c Z own EL n0 eb Q bk h k n pc' Ls (x :: y :: x :: st)) (hp : pc + 1 = pc' := by rfl) : Go p l e R s m args below meth c Z own EL n0 eb Q bk h k n pc Ls (x :: y :: st) := by
  subst hp
  exact Go.pure (fun T t h hr => XT.dupX1 h C.1 rfl (Jvm.hb C.2.2.2.2.2.1 hd) rfl hc hc' hr) K
theorem Ctx.dup2 (C : Ctx p meth c Z a0 EL cd mx ret nm) {pc : Nat} {Ls : Array Slot} {st : List Value} (pc' : Nat) {x y : Value} (hd : decode cd pc = .ok (.dup2, 1)) (hc : x.category = 1) (hc' : y.category = 1) (K : Go p l e R s m args below meth c Z own EL n0 eb Q bk h k n pc' Ls (x :: y :: x :: y :: st)) (hp : pc + 1 = pc' := by rfl) : Go p l e R s m args below meth c Z own EL n0 eb Q bk h k n pc Ls (x :: y :: st) := by
  subst hp
  exact Go.pure (fun T t h hr => XT.dup2 h C.1 rfl (Jvm.hb C.2.2.2.2.2.1 hd) rfl hc hc' hr) K

theorem Ctx.goto (C : Ctx p meth c Z a0 EL cd mx ret nm) {pc : Nat} {Ls : Array Slot} {st : List Value} (pc' : Nat) {o : Int} (hd : decode cd pc = .ok (.goto o, 3)) (ho : 0 ≤ (pc : Int) + o) (hp : ((pc : Int) + o).toNat = pc') (K : Go p l e R s m args below meth c Z own EL n0 eb Q bk h k n pc' Ls st) : Go p l e R s m args below meth c Z own EL n0 eb Q bk h k n pc Ls st :=
  Go.pure (fun T t h hr => XS.goto h C.1 rfl (pc0 := pc) rfl (Jvm.hb C.2.2.2.2.2.1 hd) ho hp hr) K
theorem Ctx.ifY (C : Ctx p meth c Z a0 EL cd mx ret nm) {pc : Nat} {Ls : Array Slot} {st : List Value} (pc' : Nat) {o : Int} {kc : ClassFile.Cond} {x : Int32} (hd : decode cd pc = .ok (.ifCond kc o, 3)) (ho : 0 ≤ (pc : Int) + o) (hp : ((pc : Int) + o).toNat = pc') (hc : ifCond.holds kc x = true) (K : Go p l e R s m args below meth c Z own EL n0 eb Q bk h k n pc' Ls st) : Go p l e R s m args below meth c Z own EL n0 eb Q bk h k n pc Ls (.int x :: st) :=
  Go.pure (fun T t h hr => XS.ifYes h C.1 rfl (pc0 := pc) rfl (Jvm.hb C.2.2.2.2.2.1 hd) rfl hc ho hp hr) K
theorem Ctx.ifN (C : Ctx p meth c Z a0 EL cd mx ret nm) {pc : Nat} {Ls : Array Slot} {st : List Value} (pc' : Nat) {o : Int} {kc : ClassFile.Cond} {x : Int32} (hd : decode cd pc = .ok (.ifCond kc o, 3)) (hp : pc + 3 = pc') (hc : ifCond.holds kc x = false) (K : Go p l e R s m args below meth c Z own EL n0 eb Q bk h k n pc' Ls st) : Go p l e R s m args below meth c Z own EL n0 eb Q bk h k n pc Ls (.int x :: st) := by
  subst hp
  exact Go.pure (fun T t h hr => XS.ifNo h C.1 rfl (Jvm.hb C.2.2.2.2.2.1 hd) rfl hc hr) K
theorem Ctx.icY (C : Ctx p meth c Z a0 EL cd mx ret nm) {pc : Nat} {Ls : Array Slot} {st : List Value} (pc' : Nat) {o : Int} {kc : ClassFile.Cond} {x y : Int32} (hd : decode cd pc = .ok (.if_icmp kc o, 3)) (ho : 0 ≤ (pc : Int) + o) (hp : ((pc : Int) + o).toNat = pc') (hc : if_icmp.holds kc x y = true) (K : Go p l e R s m args below meth c Z own EL n0 eb Q bk h k n pc' Ls st) : Go p l e R s m args below meth c Z own EL n0 eb Q bk h k n pc Ls (.int y :: .int x :: st) :=
  Go.pure (fun T t h hr => XS.icmpYes h C.1 rfl (pc0 := pc) rfl (Jvm.hb C.2.2.2.2.2.1 hd) rfl hc ho hp hr) K
theorem Ctx.icN (C : Ctx p meth c Z a0 EL cd mx ret nm) {pc : Nat} {Ls : Array Slot} {st : List Value} (pc' : Nat) {o : Int} {kc : ClassFile.Cond} {x y : Int32} (hd : decode cd pc = .ok (.if_icmp kc o, 3)) (hp : pc + 3 = pc') (hc : if_icmp.holds kc x y = false) (K : Go p l e R s m args below meth c Z own EL n0 eb Q bk h k n pc' Ls st) : Go p l e R s m args below meth c Z own EL n0 eb Q bk h k n pc Ls (.int y :: .int x :: st) := by
  subst hp
  exact Go.pure (fun T t h hr => XS.icmpNo h C.1 rfl (Jvm.hb C.2.2.2.2.2.1 hd) rfl hc hr) K
theorem Ctx.nullY (C : Ctx p meth c Z a0 EL cd mx ret nm) {pc : Nat} {Ls : Array Slot} {st : List Value} (pc' : Nat) {o : Int} (hd : decode cd pc = .ok (.ifnull o, 3)) (ho : 0 ≤ (pc : Int) + o) (hp : ((pc : Int) + o).toNat = pc') (K : Go p l e R s m args below meth c Z own EL n0 eb Q bk h k n pc' Ls st) : Go p l e R s m args below meth c Z own EL n0 eb Q bk h k n pc Ls (.null :: st) :=
  Go.pure (fun T t h hr => XS.ifnullYes h C.1 rfl (pc0 := pc) rfl (Jvm.hb C.2.2.2.2.2.1 hd) rfl ho hp hr) K
theorem Ctx.nullN (C : Ctx p meth c Z a0 EL cd mx ret nm) {pc : Nat} {Ls : Array Slot} {st : List Value} (pc' : Nat) {o : Int} {a : Addr} (hd : decode cd pc = .ok (.ifnull o, 3)) (hp : pc + 3 = pc') (K : Go p l e R s m args below meth c Z own EL n0 eb Q bk h k n pc' Ls st) : Go p l e R s m args below meth c Z own EL n0 eb Q bk h k n pc Ls (.ref a :: st) := by
  subst hp
  exact Go.pure (fun T t h hr => XS.ifnullNo h C.1 rfl (Jvm.hb C.2.2.2.2.2.1 hd) rfl hr) K
theorem Ctx.nonY (C : Ctx p meth c Z a0 EL cd mx ret nm) {pc : Nat} {Ls : Array Slot} {st : List Value} (pc' : Nat) {o : Int} {a : Addr} (hd : decode cd pc = .ok (.ifnonnull o, 3)) (ho : 0 ≤ (pc : Int) + o) (hp : ((pc : Int) + o).toNat = pc') (K : Go p l e R s m args below meth c Z own EL n0 eb Q bk h k n pc' Ls st) : Go p l e R s m args below meth c Z own EL n0 eb Q bk h k n pc Ls (.ref a :: st) :=
  Go.pure (fun T t h hr => XT.ifnonnullYes h C.1 rfl (pc0 := pc) rfl (Jvm.hb C.2.2.2.2.2.1 hd) rfl ho hp hr) K
theorem Ctx.nonN (C : Ctx p meth c Z a0 EL cd mx ret nm) {pc : Nat} {Ls : Array Slot} {st : List Value} (pc' : Nat) {o : Int} (hd : decode cd pc = .ok (.ifnonnull o, 3)) (hp : pc + 3 = pc') (K : Go p l e R s m args below meth c Z own EL n0 eb Q bk h k n pc' Ls st) : Go p l e R s m args below meth c Z own EL n0 eb Q bk h k n pc Ls (.null :: st) := by
  subst hp
  exact Go.pure (fun T t h hr => XT.ifnonnullNo h C.1 rfl (Jvm.hb C.2.2.2.2.2.1 hd) rfl hr) K
theorem Ctx.acY (C : Ctx p meth c Z a0 EL cd mx ret nm) {pc : Nat} {Ls : Array Slot} {st : List Value} (pc' : Nat) {o : Int} {kc : ClassFile.ACond} {x y : Value} (hd : decode cd pc = .ok (.if_acmp kc o, 3)) (ho : 0 ≤ (pc : Int) + o) (hp : ((pc : Int) + o).toNat = pc') (hx : x.isRef = true) (hy : y.isRef = true) (hc : XT.acmp kc x y = true) (K : Go p l e R s m args below meth c Z own EL n0 eb Q bk h k n pc' Ls st) : Go p l e R s m args below meth c Z own EL n0 eb Q bk h k n pc Ls (y :: x :: st) :=
  Go.pure (fun T t h hr => XT.acmpYes h C.1 rfl (pc0 := pc) rfl (Jvm.hb C.2.2.2.2.2.1 hd) rfl hx hy hc ho hp hr) K
theorem Ctx.acN (C : Ctx p meth c Z a0 EL cd mx ret nm) {pc : Nat} {Ls : Array Slot} {st : List Value} (pc' : Nat) {o : Int} {kc : ClassFile.ACond} {x y : Value} (hd : decode cd pc = .ok (.if_acmp kc o, 3)) (hp : pc + 3 = pc') (hx : x.isRef = true) (hy : y.isRef = true) (hc : XT.acmp kc x y = false) (K : Go p l e R s m args below meth c Z own EL n0 eb Q bk h k n pc' Ls st) : Go p l e R s m args below meth c Z own EL n0 eb Q bk h k n pc Ls (y :: x :: st) := by
  subst hp
  exact Go.pure (fun T t h hr => XT.acmpNo h C.1 rfl (Jvm.hb C.2.2.2.2.2.1 hd) rfl hx hy hc hr) K
theorem Ctx.iinc (C : Ctx p meth c Z a0 EL cd mx ret nm) {pc : Nat} {Ls : Array Slot} {st : List Value} (pc' : Nat) {j : Nat} {i : Int} {x : Int32} {L' : Array Slot} (v : Int32) (hd : decode cd pc = .ok (.iinc j i, 3)) (hv : Int32.ofInt i = v) (hl : Ls[j]? = some (.val (.int x))) (hl' : storeLocals Ls j (.int (x + v)) = some L') (K : Go p l e R s m args below meth c Z own EL n0 eb Q bk h k n pc' L' st) (hp : pc + 3 = pc' := by rfl) : Go p l e R s m args below meth c Z own EL n0 eb Q bk h k n pc Ls st := by
  subst hp
  exact Go.pure (fun T t h hr => XT.iincV h C.1 rfl v (Jvm.hb C.2.2.2.2.2.1 hd) hv hl hl' hr) K
theorem Ctx.irem (C : Ctx p meth c Z a0 EL cd mx ret nm) {pc : Nat} {Ls : Array Slot} {st : List Value} (pc' : Nat) {x y : Int32} (hd : decode cd pc = .ok (.irem, 1)) (hy : y ≠ 0) (K : Go p l e R s m args below meth c Z own EL n0 eb Q bk h k n pc' Ls (.int (x % y) :: st)) (hp : pc + 1 = pc' := by rfl) : Go p l e R s m args below meth c Z own EL n0 eb Q bk h k n pc Ls (.int y :: .int x :: st) := by
  subst hp
  exact Go.pure (fun T t h hr => XS.irem h C.1 rfl (Jvm.hb C.2.2.2.2.2.1 hd) rfl hy (by rw [irem_eq_mod]; exact hr)) K
theorem Ctx.idiv (C : Ctx p meth c Z a0 EL cd mx ret nm) {pc : Nat} {Ls : Array Slot} {st : List Value} (pc' : Nat) {x y : Int32} (hd : decode cd pc = .ok (.idiv, 1)) (hy : y ≠ 0) (K : Go p l e R s m args below meth c Z own EL n0 eb Q bk h k n pc' Ls (.int (x / y) :: st)) (hp : pc + 1 = pc' := by rfl) : Go p l e R s m args below meth c Z own EL n0 eb Q bk h k n pc Ls (.int y :: .int x :: st) := by
  subst hp
  exact Go.pure (fun T t h hr => XS.idiv h C.1 rfl (Jvm.hb C.2.2.2.2.2.1 hd) rfl hy hr) K
theorem Ctx.lrem (C : Ctx p meth c Z a0 EL cd mx ret nm) {pc : Nat} {Ls : Array Slot} {st : List Value} (pc' : Nat) {x y : Int64} (hd : decode cd pc = .ok (.lrem, 1)) (hy : y ≠ 0) (K : Go p l e R s m args below meth c Z own EL n0 eb Q bk h k n pc' Ls (.long (x % y) :: st)) (hp : pc + 1 = pc' := by rfl) : Go p l e R s m args below meth c Z own EL n0 eb Q bk h k n pc Ls (.long y :: .long x :: st) := by
  subst hp
  exact Go.pure (fun T t h hr => XT.lrem h C.1 rfl (Jvm.hb C.2.2.2.2.2.1 hd) rfl hy (by rw [lrem_mod]; exact hr)) K
theorem Ctx.lushr (C : Ctx p meth c Z a0 EL cd mx ret nm) {pc : Nat} {Ls : Array Slot} {st : List Value} (pc' : Nat) {x : Int64} {y : Int32} (hd : decode cd pc = .ok (.lushr, 1)) (K : Go p l e R s m args below meth c Z own EL n0 eb Q bk h k n pc' Ls (.long (XT.ushrL x y) :: st)) (hp : pc + 1 = pc' := by rfl) : Go p l e R s m args below meth c Z own EL n0 eb Q bk h k n pc Ls (.int y :: .long x :: st) := by
  subst hp
  exact Go.pure (fun T t h hr => XT.lushr h C.1 rfl (Jvm.hb C.2.2.2.2.2.1 hd) rfl hr) K
theorem Ctx.lshl (C : Ctx p meth c Z a0 EL cd mx ret nm) {pc : Nat} {Ls : Array Slot} {st : List Value} (pc' : Nat) {x : Int64} {y : Int32} (hd : decode cd pc = .ok (.lshl, 1)) (K : Go p l e R s m args below meth c Z own EL n0 eb Q bk h k n pc' Ls (.long (x <<< (y.toInt64 &&& 63)) :: st)) (hp : pc + 1 = pc' := by rfl) : Go p l e R s m args below meth c Z own EL n0 eb Q bk h k n pc Ls (.int y :: .long x :: st) := by
  subst hp
  exact Go.pure (fun T t h hr => XT.lshl h C.1 rfl (Jvm.hb C.2.2.2.2.2.1 hd) rfl hr) K
end Own

section Own2
variable {Z : State} {h h' h1 h2 : Heap} {a t : Nat} {b b' : Nat} {cs : List Int32} {P : Nat → Prop} {a0 : Array Value}
def own_lo (x : Int32) : Int32 := x.toInt8.toInt32
theorem own_narb (x : Int32) : nar .byte x.toInt8.toInt32 = own_lo x := by show x.toInt8.toInt32.toInt8.toInt32 = x.toInt8.toInt32; simp
theorem own_fitsb (x : Int32) : fits .byte (.int (nar .byte x)) = true := fits_nar_byte x
/-- a String of Latin-1 chars; its two cells lie below b -/
def Str (Z : State) (h : Heap) (b : Nat) (a : Nat) (cs : List Int32) : Prop := ∃ t : Nat, a < b ∧ t < b ∧ Exa Z h a "java/lang/String" ∧ Fld Z h a "java/lang/String" "coder" "B" (.int 0) ∧ Fld Z h a "java/lang/String" "value" "[B" (.ref t) ∧ Ar Z h t .byte (cs.map own_lo) ∧ ∀ x ∈ cs, ¬ x < 0 ∧ ¬ 255 < x
theorem Str.kp (F : Str Z h b a cs) (K : OKp P h h') (q : ∀ x, x < b → P x) : Str Z h' b a cs := by
  obtain ⟨t, f1, f2, f3, f4, f5, f6, f7⟩ := F
  exact ⟨t, f1, f2, own_exa K f3 (q _ f1), own_fld K f4 (q _ f1), own_fld K f5 (q _ f1), f6.kp K (q _ f2), f7⟩
theorem Str.ext (F : Str Z h b a cs) (E : Ext h h') : Str Z h' b a cs := F.kp (P := fun _ => True) (OKp.ofExt E) fun _ _ => trivial
theorem Str.wr {a' : Nat} {sl : Nat} {v : Value} (F : Str Z h b a cs) (W : Wr h h' a' sl v) (q : b ≤ a') : Str Z h' b a cs := F.kp (OKp.ofWr W) fun x r e => by rw [show x = a' from e] at r; omega
theorem Str.mono (F : Str Z h b a cs) (q : b ≤ b') : Str Z h b' a cs := by
  obtain ⟨t, f1, f2, r⟩ := F
  exact ⟨t, Nat.lt_of_lt_of_le f1 q, Nat.lt_of_lt_of_le f2 q, r⟩
theorem Str.lt (F : Str Z h b a cs) : a < h.size := by obtain ⟨t, f1, f2, f3, r⟩ := F; exact f3.lt
theorem Str.exa (F : Str Z h b a cs) : Exa Z h a "java/lang/String" := by obtain ⟨t, f1, f2, f3, r⟩ := F; exact f3
theorem Str.made (X : Exa Z h a "java/lang/String") (C : Fld Z h a "java/lang/String" "coder" "B" (.int 0)) (V : Fld Z h a "java/lang/String" "value" "[B" (.ref t)) (R : Ar Z h t .byte (cs.map own_lo)) (q : ∀ x ∈ cs, ¬ x < 0 ∧ ¬ 255 < x) : Str Z h h.size a cs := ⟨t, X.lt, R.lt, X, C, V, R, q⟩
theorem Str.lit {kb : ClassId} (X : Exa Z h a "java/lang/String") (C : Fld Z h a "java/lang/String" "coder" "B" (.int 0)) (V : Fld Z h a "java/lang/String" "value" "[B" (.ref t)) (W : Arv Z h t kb .byte (Int32.ofNat (cs.map own_lo).length) ((cs.map own_lo).map Value.int) (.int 0)) (hl : (cs.map own_lo).length < 2147483648) (q : ∀ x ∈ cs, ¬ x < 0 ∧ ¬ 255 < x) : Str Z h h.size a cs :=
  Str.made X C V (Ar.ofArv W hl) q
theorem Str.obj {C : String} {kk : Nat} {x : Nat} (F : Str Z h b a cs) (K : OKp (fun y => y ≠ x) h h') (E : Exa Z h x C) (hC : "java/lang/String" ≠ C) (wi : (Cond.instantiable C kk).before a0 Z = true) : Str Z h' b a cs := by
  obtain ⟨t, f1, f2, f3, f4, f5, f6, f7⟩ := F
  have n1 : a ≠ x := ne_exa f3 E hC
  have n2 : t ≠ x := Ne.symm (own_ne_exa_ar E wi f6)
  exact ⟨t, f1, f2, own_exa K f3 n1, own_fld K f4 n1, own_fld K f5 n1, f6.kp K n2, f7⟩
theorem own_c0 {x : Int32} (h1 : ¬ x < 0) (h2 : ¬ 255 < x) : x.toUInt32.toUInt16.toUInt32.toInt32 = x := by
  have q := c_i2c x
  rw [Int32.lt_iff_toInt_lt] at h1 h2
  have e1 : (0 : Int32).toInt = 0 := rfl
  have e2 : (255 : Int32).toInt = 255 := by decide
  rw [← Int32.toInt_inj]
  omega
theorem own_lo_inj {x y : Int32} (h1 : ¬ x < 0) (h2 : ¬ 255 < x) (k1 : ¬ y < 0) (k2 : ¬ 255 < y) (e : own_lo x = own_lo y) : x = y := by
  have q1 := c_i2b x
  have q2 := c_i2b y
  simp only [own_lo] at e
  rw [e] at q1
  rw [Int32.lt_iff_toInt_lt] at h1 h2 k1 k2
  have e1 : (0 : Int32).toInt = 0 := rfl
  have e2 : (255 : Int32).toInt = 255 := by decide
  rw [← Int32.toInt_inj]
  omega
theorem own_mapinj : ∀ {xs ys : List Int32}, (∀ x ∈ xs, ¬ x < 0 ∧ ¬ 255 < x) → (∀ x ∈ ys, ¬ x < 0 ∧ ¬ 255 < x) → (xs.map own_lo = ys.map own_lo ↔ xs = ys)
  | [], [], _, _ => by simp
  | [], _ :: _, _, _ => by simp
  | _ :: _, [], _, _ => by simp
  | x :: xs, y :: ys, p, q => by
    have ih := own_mapinj (xs := xs) (ys := ys) (fun z hz => p z (List.mem_cons_of_mem _ hz)) (fun z hz => q z (List.mem_cons_of_mem _ hz))
    have px := p x List.mem_cons_self
    have qy := q y List.mem_cons_self
    simp only [List.map_cons, List.cons.injEq, ih]
    exact ⟨fun ⟨u, v⟩ => ⟨own_lo_inj px.1 px.2 qy.1 qy.2 u, v⟩, fun ⟨u, v⟩ => ⟨by rw [u], v⟩⟩
theorem own_ofNat {i j : Nat} (hi : i < 2147483648) (hj : j < 2147483648) : (Int32.ofNat i = Int32.ofNat j ↔ i = j) ∧ (Int32.ofNat i < Int32.ofNat j ↔ i < j) := by
  have e1 : (Int32.ofNat i).toInt = i := Int32.toInt_ofNat_small (by omega)
  have e2 : (Int32.ofNat j).toInt = j := Int32.toInt_ofNat_small (by omega)
  rw [← Int32.toInt_inj, Int32.lt_iff_toInt_lt, e1, e2]
  omega
theorem own_succ (i : Nat) : Int32.ofNat i + 1 = Int32.ofNat (i + 1) := (Int32.ofNat_add i 1).symm
/-- an int that says whether P -/
def OB (r : Int32) (P : Prop) : Prop := (r = 1 ∧ P) ∨ (r = 0 ∧ ¬ P)
theorem OB.y {u : Int32} {P : Prop} (h : OB u P) (q : ¬ u = 0) : P := h.elim (·.2) fun r => absurd r.1 q
theorem OB.n {u : Int32} {P : Prop} (h : OB u P) (q : u = 0) : ¬ P := h.elim (fun r => absurd (r.1.symm.trans q) (by decide)) (·.2)
theorem OB.one {u : Int32} {P : Prop} (h : OB u P) (q : P) : u = 1 := h.elim (·.1) fun r => absurd q r.2
theorem OB.zero {u : Int32} {P : Prop} (h : OB u P) (q : ¬ P) : u = 0 := h.elim (fun r => absurd r.2 q) (·.1)
theorem own_arlen {xs : List Int32} {ty : FieldType} (A : Ar Z h a ty xs) : xs.length < 2147483648 := by obtain ⟨_, _, _, g, _⟩ := A; exact g
theorem own_arfun {xs ys : List Int32} {ty ty' : FieldType} (A : Ar Z h a ty xs) (B : Ar Z h a ty' ys) : xs = ys := by
  obtain ⟨c1, A1, a1, a2, a3, a4⟩ := A
  obtain ⟨c2, B1, b1, b2, b3, b4⟩ := B
  cases A1.1.symm.trans B1.1
  refine List.ext_getElem? fun i => ?_
  by_cases q : i < xs.length
  · have e1 := List.getElem?_eq_getElem q
    have e2 := List.getElem?_eq_getElem (show i < ys.length by omega)
    rw [e1, e2]
    have := (a3 i _ e1).symm.trans (b3 i _ e2)
    simpa using this
  · rw [List.getElem?_eq_none (by omega), List.getElem?_eq_none (by omega)]
theorem own_fldfun {C n d : String} {v w : Value} (F : Fld Z h a C n d v) (G : Fld Z h a C n d w) : v = w := by
  obtain ⟨c1, cf1, k1, i1, f1, p1, p2, p3, p4, p5, p6, p7⟩ := F
  obtain ⟨c2, cf2, k2, i2, f2, q1, q2, q3, q4, q5, q6, q7⟩ := G
  cases p1.symm.trans q1
  cases p2.symm.trans q2
  exact Option.some.inj (p7.symm.trans q7)
theorem own_strfun {b' : Nat} {ds : List Int32} (F : Str Z h b a cs) (G : Str Z h b' a ds) : cs = ds := by
  obtain ⟨t, f1, f2, f3, f4, f5, f6, f7⟩ := F
  obtain ⟨u, g1, g2, g3, g4, g5, g6, g7⟩ := G
  cases own_fldfun f5 g5
  exact (own_mapinj f7 g7).mp (own_arfun f6 g6)
theorem own_sub0 (z : Int32) : XT.ushr (z - z) 31 = 0 := by
  have e : z - z = 0 := Int32.sub_self z
  rw [e]; decide
theorem own_shr0 (z : Int32) : z >>> ((0 : Int32) &&& 31) = z := by
  have q := c_ishr z 0 0 (by decide)
  rw [← Int32.toInt_inj, q]; simp
theorem own_loand {x : Int32} (h1 : ¬ x < 0) (h2 : ¬ 255 < x) : own_lo x &&& 255 = x := by
  have q1 := c_i2b x
  have q2 := c_mask (own_lo x) 255 8 (by decide) (by decide)
  rw [Int32.lt_iff_toInt_lt] at h1 h2
  have e1 : (0 : Int32).toInt = 0 := rfl
  have e2 : (255 : Int32).toInt = 255 := by decide
  rw [← Int32.toInt_inj, q2]
  simp only [own_lo]
  omega
theorem own_ch {x : Int32} (h1 : ¬ x < 0) (h2 : ¬ 255 < x) : nar .char (own_lo x &&& 255).toUInt32.toUInt16.toUInt32.toInt32 = x := by
  rw [own_loand h1 h2, own_c0 h1 h2]; exact own_c0 h1 h2
theorem own_chget {cs : List Int32} {i : Nat} {x : Int32} (h : cs[i]? = some x) : (cs.map own_lo)[i]? = some (own_lo x) := by rw [List.getElem?_map, h]; rfl
end Own2

section Own3
variable {Z : State} {h h' h1 h2 : Heap} {sb t : Nat} {cap : Nat} {cs : List Int32} {P : Nat → Prop} {a0 : Array Value}
theorem own_declares {y : MethodName} {cd : ByteArray} {mx : Nat} {ret : Option FieldType} (w2 : (Cond.instanceMethod y).before a0 Z = true) (w4 : (Cond.code y cd mx ret).before a0 Z = true) : (Cond.declares y).before a0 Z = true := by
  obtain ⟨mk, methM, hn, hm, hs, -⟩ := Cond.instanceMethod_spec w2
  obtain ⟨m2, c2, q1, -, -, -, -, -, -, hsig⟩ := Cond.code_spec hn w4
  cases hm.symm.trans q1
  simp [Cond.before, Cond.holds, Cond.value, hn, hm, hs, hsig]
theorem own_same {x y z : MethodName} {K : String} (wd : (Cond.declares y).before a0 Z = true) (ws : (Cond.selects K x z).before a0 Z = true) (hc : z.cls = y.cls) (hy : y.cls ≠ "java/lang/invoke/MethodHandle" ∧ y.cls ≠ "java/lang/invoke/VarHandle") : (Cond.sameMethod y.cls y.cls y.name y.desc).before a0 Z = true := by
  obtain ⟨r0, r, hn, hrm, -, -⟩ := Cond.declares_spec wd
  obtain ⟨c, r1, m1, q1, q2, q3, q4, mk, q5, q6⟩ := Cond.selects_spec ws
  have hf := State.methodFound?_of_named hn hy
  have hcl := findClass_of_methodNamed hn
  have hcl2 := findClass_of_methodNamed q3
  rw [hc, hcl] at hcl2
  have e : r0.cls = m1.cls := Option.some.inj hcl2
  rw [← e] at q5
  simp [Cond.before, Cond.holds, Cond.value, hcl, hf, hn, q5, q6]
/-- a StringBuilder of Latin-1 chars, with its array and capacity -/
def SB (Z : State) (h : Heap) (sb t : Nat) (cap : Nat) (cs : List Int32) : Prop := Exa Z h sb "java/lang/StringBuilder" ∧ Fld Z h sb "java/lang/AbstractStringBuilder" "value" "[B" (.ref t) ∧ Fld Z h sb "java/lang/AbstractStringBuilder" "coder" "B" (.int 0) ∧ Fld Z h sb "java/lang/AbstractStringBuilder" "count" "I" (.int (Int32.ofNat cs.length)) ∧ Ar Z h t .byte (cs.map own_lo ++ List.replicate (cap - cs.length) 0) ∧ cs.length ≤ cap ∧ ∀ x ∈ cs, ¬ x < 0 ∧ ¬ 255 < x
theorem SB.kp (F : SB Z h sb t cap cs) (K : OKp P h h') (q1 : P sb) (q2 : P t) : SB Z h' sb t cap cs := by
  obtain ⟨f1, f2, f3, f4, f5, f6, f7⟩ := F
  exact ⟨own_exa K f1 q1, own_fld K f2 q1, own_fld K f3 q1, own_fld K f4 q1, f5.kp K q2, f6, f7⟩
theorem SB.ext (F : SB Z h sb t cap cs) (E : Ext h h') : SB Z h' sb t cap cs := F.kp (P := fun _ => True) (OKp.ofExt E) trivial trivial
theorem SB.lts (F : SB Z h sb t cap cs) : sb < h.size := F.1.lt
theorem SB.ltt (F : SB Z h sb t cap cs) : t < h.size := F.2.2.2.2.1.lt
theorem own_sblen (hc : cs.length ≤ cap) : (cs.map own_lo ++ List.replicate (cap - cs.length) (0 : Int32)).length = cap := by simp; omega
theorem own_subneg {k : Nat} (hk : k ≤ cap) (hc : cap < 2147483648) : ¬ 0 < Int32.ofNat k - Int32.ofNat cap := by
  have q := c_isub (Int32.ofNat k) (Int32.ofNat cap)
  have r := rng32 (Int32.ofNat k - Int32.ofNat cap)
  have e1 : (Int32.ofNat k).toInt = k := Int32.toInt_ofNat_small (by omega)
  have e2 : (Int32.ofNat cap).toInt = cap := Int32.toInt_ofNat_small (by omega)
  rw [Int32.lt_iff_toInt_lt]
  have : (0 : Int32).toInt = 0 := rfl
  omega
theorem own_shl0 (z : Int32) : z <<< ((0 : Int32) &&& 31) = z := by
  have q := c_ishl z 0 0 (by decide)
  have r := rng32 z
  have r2 := rng32 (z <<< ((0 : Int32) &&& 31))
  rw [← Int32.toInt_inj]
  simp only [show (2 : Nat) ^ 0 = 1 from rfl] at q
  omega
theorem own_addn (i j : Nat) : Int32.ofNat i + Int32.ofNat j = Int32.ofNat (i + j) := (Int32.ofNat_add i j).symm
theorem own_sbput {ds : List Int32} (hc : cs.length + ds.length ≤ cap) : (cs.map own_lo ++ List.replicate (cap - cs.length) (0 : Int32)).take cs.length ++ ds.map own_lo ++ (cs.map own_lo ++ List.replicate (cap - cs.length) (0 : Int32)).drop (cs.length + ds.length) = (cs ++ ds).map own_lo ++ List.replicate (cap - (cs ++ ds).length) 0 := by
  have l1 : (cs.map own_lo).length = cs.length := List.length_map _
  rw [List.take_append_of_le_length (by omega), List.take_of_length_le (by omega), List.drop_append, List.drop_of_length_le (by omega), l1, List.nil_append, List.drop_replicate, List.map_append, List.length_append]
  congr 2
  omega
theorem own_sbset {x : Int32} (hc : cs.length + 1 ≤ cap) : (cs.map own_lo ++ List.replicate (cap - cs.length) (0 : Int32)).set cs.length (own_lo x) = (cs ++ [x]).map own_lo ++ List.replicate (cap - (cs ++ [x]).length) 0 := by
  have l1 : (cs.map own_lo).length = cs.length := List.length_map _
  rw [List.set_append_right _ _ (by omega), l1, Nat.sub_self]
  obtain ⟨d, hd⟩ : ∃ d, cap - cs.length = d + 1 := ⟨cap - cs.length - 1, by omega⟩
  rw [hd, List.replicate_succ, List.set_cons_zero, List.map_append, List.length_append, show cap - (cs.length + [x].length) = d by simp; omega]
  simp
theorem own_sbtake (hc : cs.length ≤ cap) : (cs.map own_lo ++ List.replicate (cap - cs.length) (0 : Int32)).take cs.length = cs.map own_lo := by
  have l1 : (cs.map own_lo).length = cs.length := List.length_map _
  rw [List.take_append_of_le_length (by omega), List.take_of_length_le (by omega)]
theorem own_ranges {ds : List Int32} (h1 : ∀ x ∈ cs, ¬ x < 0 ∧ ¬ 255 < x) (h2 : ∀ x ∈ ds, ¬ x < 0 ∧ ¬ 255 < x) : ∀ x ∈ cs ++ ds, ¬ x < 0 ∧ ¬ 255 < x := fun x hx => (List.mem_append.mp hx).elim (h1 x) (h2 x)
end Own3

theorem pn_0 : plainName "java/lang/StringLatin1" = true := by first | (simp [plainName, overriddenIn]; done) | decide +kernel
theorem d0_0 : decode jdk_43_method_3_code 0 = .ok (.iload_n 0, 1) := by decide +kernel
theorem d0_1 : decode jdk_43_method_3_code 1 = .ok (.sipush 255, 3) := by decide +kernel
theorem d0_4 : decode jdk_43_method_3_code 4 = .ok (.if_icmp .gt 7, 3) := by decide +kernel
theorem d0_7 : decode jdk_43_method_3_code 7 = .ok (.iconst 1, 1) := by decide +kernel
theorem d0_8 : decode jdk_43_method_3_code 8 = .ok (.goto 4, 3) := by decide +kernel
theorem d0_12 : decode jdk_43_method_3_code 12 = .ok (.ireturn, 1) := by decide +kernel
theorem ef_1 (m : MethodId) (x0 : Int32) : entryFrame m #[(.int x0)] 1 = mkF m 0 #[.val (.int x0)] [] := by first | (simp [entryFrame, mkF, argsToLocals, Value.category]; done) | rfl
set_option maxRecDepth 65536 in
set_option maxHeartbeats 40000000 in
theorem met_can (l : Launch) (Z : State) (a0 : Array Value) (hw : ∀ d ∈ tables_1, d.before a0 Z = true) (EL : List (String × Nat)) (hEL : EW Z a0 EL) (n0 bk : Nat) (h0 : Heap) (hz0 : Z.heap.size ≤ n0) (hn0 : n0 ≤ h0.size) (x : Int32) (q : ¬ 255 < x) : Met l Z EL (⟨"java/lang/StringLatin1", "canEncode", "(C)Z"⟩ : MethodName) jdk_43_method_3_code 1 (some .boolean) [] ({ frames := 0, cells := 0, slots := 0, locals := 0 } : Room) #[(.int x)] n0 bk h0 (fun _ => bk) (fun v h => v = some (.int 1) ∧ h0 = h) := by
  refine Met.intro (plainFor_of_name pn_0) (fun m => ef_1 m x) hz0 hEL ?_
  intro p e s m below meth c C
  refine C.iloadN 1 d0_0 rfl ?_
  refine C.sipush 4 (255 : Int32) d0_1 (by decide) ?_
  refine C.icN 7 d0_4 rfl (XT.ii_gt_f (show ¬ ((255 : Int32) < x) from q)) ?_
  refine C.iconst 8 (1 : Int32) d0_7 (by decide) ?_
  refine C.goto 12 d0_8 (by decide) (by decide) ?_
  refine C.retN (t := .boolean) rfl (by simp) d0_12 (by decide) (by decide) (Or.inl (Nat.le_refl _)) ?_
  exact ⟨rfl, rfl⟩
theorem d1_0 : decode jdk_43_method_46_code 0 = .ok (.iconst 1, 1) := by decide +kernel
theorem d1_1 : decode jdk_43_method_46_code 1 = .ok (.newarray .byte, 2) := by decide +kernel
theorem d1_3 : decode jdk_43_method_46_code 3 = .ok (.dup, 1) := by decide +kernel
theorem d1_4 : decode jdk_43_method_46_code 4 = .ok (.iconst 0, 1) := by decide +kernel
theorem d1_5 : decode jdk_43_method_46_code 5 = .ok (.iload_n 0, 1) := by decide +kernel
theorem d1_6 : decode jdk_43_method_46_code 6 = .ok (.i2b, 1) := by decide +kernel
theorem d1_7 : decode jdk_43_method_46_code 7 = .ok (.bastore, 1) := by decide +kernel
theorem d1_8 : decode jdk_43_method_46_code 8 = .ok (.areturn, 1) := by decide +kernel
theorem ef_2 (m : MethodId) (x0 : Int32) : entryFrame m #[(.int x0)] 1 = mkF m 0 #[.val (.int x0)] [] := by first | (simp [entryFrame, mkF, argsToLocals, Value.category]; done) | rfl
set_option maxRecDepth 65536 in
set_option maxHeartbeats 40000000 in
theorem met_tb (l : Launch) (Z : State) (a0 : Array Value) (hw : ∀ d ∈ tables_1, d.before a0 Z = true) (EL : List (String × Nat)) (hEL : EW Z a0 EL) (n0 bk : Nat) (h0 : Heap) (hz0 : Z.heap.size ≤ n0) (hn0 : n0 ≤ h0.size) (x : Int32) (hbk : bk ≤ h0.size) : Met l Z EL (⟨"java/lang/StringLatin1", "toBytes", "(C)[B"⟩ : MethodName) jdk_43_method_46_code 1 (some (.array .byte)) [] ({ frames := 0, cells := 1, slots := 1, locals := 0 } : Room) #[(.int x)] n0 bk h0 (fun _ => bk) (fun v h => ∃ t, v = some (.ref t) ∧ n0 ≤ t ∧ h0.size ≤ t ∧ Ar Z h t .byte [own_lo x]) := by
  refine Met.intro (plainFor_of_name pn_0) (fun m => ef_2 m x) hz0 hEL ?_
  intro p e s m below meth c C
  refine C.iconst 1 (1 : Int32) d1_0 (by decide) ?_
  refine C.newarr (zn := 1) (cap := 1) 3 d1_1 (hw _ (List.mem_of_getElem? (i := 14) rfl)) rfl (by decide) (by decide) rfl (by decide) (by decide) (by decide) ?_
  intro t h1 g_t E1 R_t
  replace R_t : Ar Z h1 t .byte (List.replicate 1 0) := R_t
  have lt_t : t < h1.size := R_t.lt
  have sz_h1 : h0.size ≤ h1.size := E1.1
  have hbt : bk ≤ t := by omega
  refine C.dup 4 d1_3 rfl ?_
  refine C.iconst 5 (0 : Int32) d1_4 (by decide) ?_
  refine C.iloadN 6 d1_5 rfl ?_
  refine C.i2b 7 d1_6 ?_
  refine C.bastore 8 0 d1_7 R_t rfl (by decide) (own_fitsb _) (by omega) (Or.inl hbt) ?_
  intro h2 W2 N2
  have sz_h2 : h1.size ≤ h2.size := (Nat.le_of_eq W2.size.symm)
  replace R_t : Ar Z h2 t .byte [own_lo x] := (by have q := N2; rw [own_narb] at q; exact q)
  refine C.retA rfl rfl d1_8 rfl (by decide) (by decide) (Or.inl (Nat.le_refl _)) ?_
  exact ⟨t, rfl, by omega, by omega, R_t⟩
theorem pn_1 : plainName "java/lang/String" = true := by first | (simp [plainName, overriddenIn]; done) | decide +kernel
theorem d2_0 : decode jdk_42_method_151_code 0 = .ok (.aload_n 0, 1) := by decide +kernel
theorem d2_1 : decode jdk_42_method_151_code 1 = .ok (.invokespecial 1, 3) := by decide +kernel
theorem d2_4 : decode jdk_42_method_151_code 4 = .ok (.aload_n 0, 1) := by decide +kernel
theorem d2_5 : decode jdk_42_method_151_code 5 = .ok (.aload_n 1, 1) := by decide +kernel
theorem d2_6 : decode jdk_42_method_151_code 6 = .ok (.putfield 9, 3) := by decide +kernel
theorem d2_9 : decode jdk_42_method_151_code 9 = .ok (.aload_n 0, 1) := by decide +kernel
theorem d2_10 : decode jdk_42_method_151_code 10 = .ok (.iload_n 2, 1) := by decide +kernel
theorem d2_11 : decode jdk_42_method_151_code 11 = .ok (.putfield 15, 3) := by decide +kernel
theorem d2_14 : decode jdk_42_method_151_code 14 = .ok (.return_, 1) := by decide +kernel
theorem ef_3 (m : MethodId) (x0 : Nat) (x1 : Nat) (x2 : Int32) : entryFrame m #[(.ref x0), (.ref x1), (.int x2)] 3 = mkF m 0 #[.val (.ref x0), .val (.ref x1), .val (.int x2)] [] := by first | (simp [entryFrame, mkF, argsToLocals, Value.category]; done) | rfl
set_option maxRecDepth 65536 in
set_option maxHeartbeats 40000000 in
theorem met_si (l : Launch) (Z : State) (a0 : Array Value) (hw : ∀ d ∈ tables_1, d.before a0 Z = true) (EL : List (String × Nat)) (hEL : EW Z a0 EL) (n0 bk : Nat) (h0 : Heap) (hz0 : Z.heap.size ≤ n0) (hn0 : n0 ≤ h0.size) (a : Nat) (t : Nat) (X : Exa Z h0 a "java/lang/String") (FV : Fld Z h0 a "java/lang/String" "value" "[B" .null) (FC : Fld Z h0 a "java/lang/String" "coder" "B" (.int (0 : Int32))) (hna : n0 ≤ a) (hba : bk ≤ a) : Met l Z EL (⟨"java/lang/String", "<init>", "([BB)V"⟩ : MethodName) jdk_42_method_151_code 3 none [] ({ frames := 1, cells := 0, slots := 0, locals := 12 } : Room) #[(.ref a), (.ref t), (.int (0 : Int32))] n0 bk h0 (fun _ => bk) (fun v h => v = none ∧ OKp (fun x => x ≠ a) h0 h ∧ Exa Z h a "java/lang/String" ∧ Fld Z h a "java/lang/String" "value" "[B" (.ref t) ∧ Fld Z h a "java/lang/String" "coder" "B" (.int 0)) := by
  refine Met.intro (plainFor_of_name pn_1) (fun m => ef_3 m a t (0 : Int32)) hz0 hEL ?_
  intro p e s m below meth c C
  refine C.aloadN 1 d2_0 rfl rfl ?_
  refine C.objInit (W := 0) 4 d2_1 (hw _ (List.mem_of_getElem? (i := 19) rfl)) (hw _ (List.mem_of_getElem? (i := 20) rfl)) (hw _ (List.mem_of_getElem? (i := 21) rfl)) rfl (by decide) (Nat.le_of_eq rfl) (by decide) ?_
  refine C.aloadN 5 d2_4 rfl rfl ?_
  refine C.aloadN 6 d2_5 rfl rfl ?_
  refine C.putf (ty := (.array .byte)) 9 d2_6 (hw _ (List.mem_of_getElem? (i := 22) rfl)) Via.refl FV X (Or.inr ⟨(hw _ (List.mem_of_getElem? (i := 23) rfl)), rfl, rfl⟩) (hw _ (List.mem_of_getElem? (i := 10) rfl)) (by decide) rfl rfl (by omega) (Or.inl (by omega)) ?_
  intro h1 W1
  have sz_h1 : h0.size ≤ h1.size := (Nat.le_of_eq W1.size.symm)
  replace FC := FC.other W1 (Or.inr (slot_ne (t := .byte) (t' := (.array .byte)) (Or.inr (hw _ (List.mem_of_getElem? (i := 25) rfl))) (Or.inr (hw _ (List.mem_of_getElem? (i := 23) rfl))) (by decide) (by decide) (by decide)))
  replace FV := FV.same W1
  replace X := X.wr W1
  refine C.aloadN 10 d2_9 rfl rfl ?_
  refine C.iloadN 11 d2_10 rfl ?_
  refine C.putf (ty := .byte) 14 d2_11 (hw _ (List.mem_of_getElem? (i := 24) rfl)) Via.refl FC X (Or.inr ⟨(hw _ (List.mem_of_getElem? (i := 25) rfl)), rfl, rfl⟩) (hw _ (List.mem_of_getElem? (i := 10) rfl)) (by decide) rfl rfl (by omega) (Or.inl (by omega)) ?_
  intro h2 W2
  have sz_h2 : h1.size ≤ h2.size := (Nat.le_of_eq W2.size.symm)
  replace FV := FV.other W2 (Or.inr (slot_ne (t := (.array .byte)) (t' := .byte) (Or.inr (hw _ (List.mem_of_getElem? (i := 23) rfl))) (Or.inr (hw _ (List.mem_of_getElem? (i := 25) rfl))) (by decide) (by decide) (by decide)))
  replace FC := FC.same W2
  replace X := X.wr W2
  refine C.retV rfl d2_14 (by decide) (by decide) (Or.inl (Nat.le_refl _)) ?_
  exact ⟨rfl, (OKp.ofWr W1).trans (OKp.ofWr W2), X, FV, FC⟩
theorem pd__C_rZ : parseMethodDescriptor "(C)Z" = some ⟨[.char], some .boolean⟩ := by decide +kernel
theorem pd__C_rAB : parseMethodDescriptor "(C)[B" = some ⟨[.char], some (.array .byte)⟩ := by decide +kernel
theorem pd__ABB_rV : parseMethodDescriptor "([BB)V" = some ⟨[(.array .byte), .byte], none⟩ := by decide +kernel
theorem d3_0 : decode jdk_42_method_139_code 0 = .ok (.getstatic 38, 3) := by decide +kernel
theorem d3_3 : decode jdk_42_method_139_code 3 = .ok (.ifCond .eq 23, 3) := by decide +kernel
theorem d3_6 : decode jdk_42_method_139_code 6 = .ok (.iload_n 0, 1) := by decide +kernel
theorem d3_7 : decode jdk_42_method_139_code 7 = .ok (.invokestatic 1015, 3) := by decide +kernel
theorem d3_10 : decode jdk_42_method_139_code 10 = .ok (.ifCond .eq 16, 3) := by decide +kernel
theorem d3_13 : decode jdk_42_method_139_code 13 = .ok (.new 10, 3) := by decide +kernel
theorem d3_16 : decode jdk_42_method_139_code 16 = .ok (.dup, 1) := by decide +kernel
theorem d3_17 : decode jdk_42_method_139_code 17 = .ok (.iload_n 0, 1) := by decide +kernel
theorem d3_18 : decode jdk_42_method_139_code 18 = .ok (.invokestatic 1018, 3) := by decide +kernel
theorem d3_21 : decode jdk_42_method_139_code 21 = .ok (.iconst 0, 1) := by decide +kernel
theorem d3_22 : decode jdk_42_method_139_code 22 = .ok (.invokespecial 209, 3) := by decide +kernel
theorem d3_25 : decode jdk_42_method_139_code 25 = .ok (.areturn, 1) := by decide +kernel
theorem ef_4 (m : MethodId) (x0 : Int32) : entryFrame m #[(.int x0)] 1 = mkF m 0 #[.val (.int x0)] [] := by first | (simp [entryFrame, mkF, argsToLocals, Value.category]; done) | rfl
set_option maxRecDepth 65536 in
set_option maxHeartbeats 40000000 in
theorem met_vo (l : Launch) (Z : State) (a0 : Array Value) (hw : ∀ d ∈ tables_1, d.before a0 Z = true) (EL : List (String × Nat)) (hEL : EW Z a0 EL) (n0 bk : Nat) (h0 : Heap) (hz0 : Z.heap.size ≤ n0) (hn0 : n0 ≤ h0.size) (x : Int32) (z0 : Int32) (q0 : ¬ x < 0) (q : ¬ 255 < x) (SC : Sta Z Z.heap "java/lang/String" "COMPACT_STRINGS" "Z" (.int z0)) (hzc : ¬ z0 = 0) (hbk : bk ≤ h0.size) : Met l Z EL (⟨"java/lang/String", "valueOf", "(C)Ljava/lang/String;"⟩ : MethodName) jdk_42_method_139_code 1 (some (.object "java/lang/String")) [] ({ frames := 2, cells := 2, slots := 5, locals := 27 } : Room) #[(.int x)] n0 bk h0 (fun _ => bk) (fun v h => ∃ a, v = some (.ref a) ∧ Str Z h h.size a [x]) := by
  refine Met.intro (plainFor_of_name pn_1) (fun m => ef_4 m x) hz0 hEL ?_
  intro p e s m below meth c C
  refine C.gets 3 d3_0 (hw _ (List.mem_of_getElem? (i := 4) rfl)) SC ?_
  refine C.ifN 6 d3_3 rfl (XT.i0_eq_f (show ¬ (z0 = 0) from hzc)) ?_
  refine C.iloadN 7 d3_6 rfl ?_
  refine C.callS (b := h0.size) 10 [(.int x)] [] d3_7 (met_can l Z a0 hw EL hEL h0.size bk h0 (by omega) (by omega) x q) (by omega) (Or.inl (Nat.le_refl _)) (hw _ (List.mem_of_getElem? (i := 5) rfl)) (hw _ (List.mem_of_getElem? (i := 6) rfl)) (hw _ (List.mem_of_getElem? (i := 7) rfl)) (hw _ (List.mem_of_getElem? (i := 8) rfl)) (by decide) rfl (lenOf pd__C_rZ rfl) (by decide) (W := 0) (Nat.le_of_eq rfl) (by decide) (by decide) (by decide) rfl ?_
  rintro _ h7_2 K7_2 ⟨rfl, rfl⟩
  refine C.ifN 13 d3_10 rfl (XT.i0_eq_f (show ¬ ((1 : Int32) = 0) from (by decide))) ?_
  refine C.newo 16 d3_13 (hw _ (List.mem_of_getElem? (i := 9) rfl)) (hw _ (List.mem_of_getElem? (i := 10) rfl)) (hw _ (List.mem_of_getElem? (i := 2) rfl)) (by decide) (by decide) ?_
  intro a h1 g_a E1 X_a D1
  have lt_a : a < h1.size := X_a.lt
  have sz_h1 : h0.size ≤ h1.size := E1.1
  have FV : Fld Z h1 a "java/lang/String" "value" "[B" .null := D1 (Or.inr (hw _ (List.mem_of_getElem? (i := 23) rfl))) (ty := (.array .byte)) (by decide)
  have FC : Fld Z h1 a "java/lang/String" "coder" "B" (.int (0 : Int32)) := D1 (Or.inr (hw _ (List.mem_of_getElem? (i := 25) rfl))) (ty := .byte) (by decide)
  refine C.dup 17 d3_16 rfl ?_
  refine C.iloadN 18 d3_17 rfl ?_
  refine C.callS (b := h1.size) 21 [(.int x)] [(.ref a), (.ref a)] d3_18 (met_tb l Z a0 hw EL hEL h1.size bk h1 (by omega) (by omega) x (by omega)) (by omega) (Or.inl (Nat.le_refl _)) (hw _ (List.mem_of_getElem? (i := 11) rfl)) (hw _ (List.mem_of_getElem? (i := 12) rfl)) (hw _ (List.mem_of_getElem? (i := 7) rfl)) (hw _ (List.mem_of_getElem? (i := 13) rfl)) (by decide) rfl (lenOf pd__C_rAB rfl) (by decide) (W := 2) (Nat.le_of_eq rfl) (by decide) (by decide) (by decide) rfl ?_
  rintro _ h2 K2 ⟨t, rfl, gt1, gt2, Rt⟩
  have sz_h2 : h1.size ≤ h2.size := K2.1
  replace X_a := own_exa K2 X_a (by first | omega | (dsimp only; omega))
  replace FV := own_fld K2 FV (by first | omega | (dsimp only; omega))
  replace FC := own_fld K2 FC (by first | omega | (dsimp only; omega))
  have lt_t : t < h2.size := Rt.lt
  refine C.iconst 22 (0 : Int32) d3_21 (by decide) ?_
  refine C.callI (b := a) 25 [(.ref t), (.int (0 : Int32))] [(.ref a)] d3_22 (met_si l Z a0 hw EL hEL a bk h2 (by omega) (by omega) a t X_a FV FC (by omega) (by omega)) rfl (by omega) (Or.inl (Nat.le_refl _)) (hw _ (List.mem_of_getElem? (i := 15) rfl)) (hw _ (List.mem_of_getElem? (i := 16) rfl)) (hw _ (List.mem_of_getElem? (i := 2) rfl)) (hw _ (List.mem_of_getElem? (i := 18) rfl)) (by decide) rfl (lenOf pd__ABB_rV rfl) (by decide) (W := 1) (Nat.le_of_eq rfl) (by decide) (by decide) (by decide) rfl ?_
  rintro _ h3 K3 ⟨rfl, Kq, X_a2, FV2, FC2⟩
  have sz_h3 : h2.size ≤ h3.size := Kq.1
  replace Rt := Rt.kp Kq (by first | omega | (dsimp only; omega))
  refine C.retA rfl rfl d3_25 rfl (by decide) (by decide) (Or.inl (Nat.le_refl _)) ?_
  exact ⟨a, rfl, Str.made X_a2 FC2 FV2 (cs := [x]) Rt (fun y hy => by cases List.mem_singleton.mp hy; exact ⟨q0, q⟩)⟩
theorem d4_0 : decode jdk_42_method_152_code 0 = .ok (.getstatic 38, 3) := by decide +kernel
theorem d4_3 : decode jdk_42_method_152_code 3 = .ok (.ifCond .eq 10, 3) := by decide +kernel
theorem d4_6 : decode jdk_42_method_152_code 6 = .ok (.aload_n 0, 1) := by decide +kernel
theorem d4_7 : decode jdk_42_method_152_code 7 = .ok (.getfield 15, 3) := by decide +kernel
theorem d4_10 : decode jdk_42_method_152_code 10 = .ok (.goto 4, 3) := by decide +kernel
theorem d4_14 : decode jdk_42_method_152_code 14 = .ok (.ireturn, 1) := by decide +kernel
theorem ef_5 (m : MethodId) (x0 : Nat) : entryFrame m #[(.ref x0)] 1 = mkF m 0 #[.val (.ref x0)] [] := by first | (simp [entryFrame, mkF, argsToLocals, Value.category]; done) | rfl
set_option maxRecDepth 65536 in
set_option maxHeartbeats 40000000 in
theorem met_coder (l : Launch) (Z : State) (a0 : Array Value) (hw : ∀ d ∈ tables_1, d.before a0 Z = true) (EL : List (String × Nat)) (hEL : EW Z a0 EL) (n0 bk : Nat) (h0 : Heap) (hz0 : Z.heap.size ≤ n0) (hn0 : n0 ≤ h0.size) (a : Nat) (ba : Nat) (cs : List Int32) (z0 : Int32) (Sa : Str Z h0 ba a cs) (SC : Sta Z Z.heap "java/lang/String" "COMPACT_STRINGS" "Z" (.int z0)) (hzc : ¬ z0 = 0) : Met l Z EL (⟨"java/lang/String", "coder", "()B"⟩ : MethodName) jdk_42_method_152_code 1 (some .byte) [] ({ frames := 0, cells := 0, slots := 0, locals := 0 } : Room) #[(.ref a)] n0 bk h0 (fun _ => bk) (fun v h => v = some (.int 0) ∧ h0 = h) := by
  refine Met.intro (plainFor_of_name pn_1) (fun m => ef_5 m a) hz0 hEL ?_
  intro p e s m below meth c C
  obtain ⟨t, f1, f2, f3, f4, f5, f6, f7⟩ := Sa
  refine C.gets 3 d4_0 (hw _ (List.mem_of_getElem? (i := 4) rfl)) SC ?_
  refine C.ifN 6 d4_3 rfl (XT.i0_eq_f (show ¬ (z0 = 0) from hzc)) ?_
  refine C.aloadN 7 d4_6 rfl rfl ?_
  refine C.getf 10 d4_7 (hw _ (List.mem_of_getElem? (i := 24) rfl)) Via.refl f4 ?_
  refine C.goto 14 d4_10 (by decide) (by decide) ?_
  refine C.retN (t := .byte) rfl (by simp) d4_14 (by decide) (by decide) (Or.inl (Nat.le_refl _)) ?_
  exact ⟨rfl, rfl⟩
theorem d5_0 : decode jdk_42_method_154_code 0 = .ok (.getstatic 38, 3) := by decide +kernel
theorem d5_3 : decode jdk_42_method_154_code 3 = .ok (.ifCond .eq 14, 3) := by decide +kernel
theorem d5_6 : decode jdk_42_method_154_code 6 = .ok (.aload_n 0, 1) := by decide +kernel
theorem d5_7 : decode jdk_42_method_154_code 7 = .ok (.getfield 15, 3) := by decide +kernel
theorem d5_10 : decode jdk_42_method_154_code 10 = .ok (.ifCond .ne 7, 3) := by decide +kernel
theorem d5_13 : decode jdk_42_method_154_code 13 = .ok (.iconst 1, 1) := by decide +kernel
theorem d5_14 : decode jdk_42_method_154_code 14 = .ok (.goto 4, 3) := by decide +kernel
theorem d5_18 : decode jdk_42_method_154_code 18 = .ok (.ireturn, 1) := by decide +kernel
theorem ef_6 (m : MethodId) (x0 : Nat) : entryFrame m #[(.ref x0)] 1 = mkF m 0 #[.val (.ref x0)] [] := by first | (simp [entryFrame, mkF, argsToLocals, Value.category]; done) | rfl
set_option maxRecDepth 65536 in
set_option maxHeartbeats 40000000 in
theorem met_isl (l : Launch) (Z : State) (a0 : Array Value) (hw : ∀ d ∈ tables_1, d.before a0 Z = true) (EL : List (String × Nat)) (hEL : EW Z a0 EL) (n0 bk : Nat) (h0 : Heap) (hz0 : Z.heap.size ≤ n0) (hn0 : n0 ≤ h0.size) (a : Nat) (ba : Nat) (cs : List Int32) (z0 : Int32) (Sa : Str Z h0 ba a cs) (SC : Sta Z Z.heap "java/lang/String" "COMPACT_STRINGS" "Z" (.int z0)) (hzc : ¬ z0 = 0) : Met l Z EL (⟨"java/lang/String", "isLatin1", "()Z"⟩ : MethodName) jdk_42_method_154_code 1 (some .boolean) [] ({ frames := 0, cells := 0, slots := 0, locals := 0 } : Room) #[(.ref a)] n0 bk h0 (fun _ => bk) (fun v h => v = some (.int 1) ∧ h0 = h) := by
  refine Met.intro (plainFor_of_name pn_1) (fun m => ef_6 m a) hz0 hEL ?_
  intro p e s m below meth c C
  obtain ⟨t, f1, f2, f3, f4, f5, f6, f7⟩ := Sa
  refine C.gets 3 d5_0 (hw _ (List.mem_of_getElem? (i := 4) rfl)) SC ?_
  refine C.ifN 6 d5_3 rfl (XT.i0_eq_f (show ¬ (z0 = 0) from hzc)) ?_
  refine C.aloadN 7 d5_6 rfl rfl ?_
  refine C.getf 10 d5_7 (hw _ (List.mem_of_getElem? (i := 24) rfl)) Via.refl f4 ?_
  refine C.ifN 13 d5_10 rfl (XT.i0_ne_f (show (0 : Int32) = 0 from rfl)) ?_
  refine C.iconst 14 (1 : Int32) d5_13 (by decide) ?_
  refine C.goto 18 d5_14 (by decide) (by decide) ?_
  refine C.retN (t := .boolean) rfl (by simp) d5_18 (by decide) (by decide) (Or.inl (Nat.le_refl _)) ?_
  exact ⟨rfl, rfl⟩
theorem pd___rB : parseMethodDescriptor "()B" = some ⟨[], some .byte⟩ := by decide +kernel
theorem d6_0 : decode jdk_42_method_54_code 0 = .ok (.aload_n 0, 1) := by decide +kernel
theorem d6_1 : decode jdk_42_method_54_code 1 = .ok (.getfield 9, 3) := by decide +kernel
theorem d6_4 : decode jdk_42_method_54_code 4 = .ok (.arraylength, 1) := by decide +kernel
theorem d6_5 : decode jdk_42_method_54_code 5 = .ok (.aload_n 0, 1) := by decide +kernel
theorem d6_6 : decode jdk_42_method_54_code 6 = .ok (.invokevirtual 335, 3) := by decide +kernel
theorem d6_9 : decode jdk_42_method_54_code 9 = .ok (.ishr, 1) := by decide +kernel
theorem d6_10 : decode jdk_42_method_54_code 10 = .ok (.ireturn, 1) := by decide +kernel
theorem ef_7 (m : MethodId) (x0 : Nat) : entryFrame m #[(.ref x0)] 1 = mkF m 0 #[.val (.ref x0)] [] := by first | (simp [entryFrame, mkF, argsToLocals, Value.category]; done) | rfl
set_option maxRecDepth 65536 in
set_option maxHeartbeats 40000000 in
theorem met_len (l : Launch) (Z : State) (a0 : Array Value) (hw : ∀ d ∈ tables_1, d.before a0 Z = true) (EL : List (String × Nat)) (hEL : EW Z a0 EL) (n0 bk : Nat) (h0 : Heap) (hz0 : Z.heap.size ≤ n0) (hn0 : n0 ≤ h0.size) (a : Nat) (ba : Nat) (cs : List Int32) (z0 : Int32) (Sa : Str Z h0 ba a cs) (SC : Sta Z Z.heap "java/lang/String" "COMPACT_STRINGS" "Z" (.int z0)) (hzc : ¬ z0 = 0) : Met l Z EL (⟨"java/lang/String", "length", "()I"⟩ : MethodName) jdk_42_method_54_code 1 (some .int) [] ({ frames := 1, cells := 0, slots := 0, locals := 13 } : Room) #[(.ref a)] n0 bk h0 (fun _ => bk) (fun v h => v = some (.int (Int32.ofNat cs.length)) ∧ h0 = h) := by
  refine Met.intro (plainFor_of_name pn_1) (fun m => ef_7 m a) hz0 hEL ?_
  intro p e s m below meth c C
  have Sa0 := Sa
  obtain ⟨t, f1, f2, f3, f4, f5, f6, f7⟩ := Sa
  refine C.aloadN 1 d6_0 rfl rfl ?_
  refine C.getf 4 d6_1 (hw _ (List.mem_of_getElem? (i := 22) rfl)) Via.refl f5 ?_
  refine C.alen 5 d6_4 f6 (by rw [List.length_map]) ?_
  refine C.aloadN 6 d6_5 rfl rfl ?_
  refine C.callV (b := h0.size) 9 [] [(.int (Int32.ofNat cs.length))] d6_6 (met_coder l Z a0 hw EL hEL h0.size bk h0 (by omega) (by omega) a ba cs z0 Sa0 SC hzc) f3 (by omega) (Or.inl (Nat.le_refl _)) (hw _ (List.mem_of_getElem? (i := 71) rfl)) (hw _ (List.mem_of_getElem? (i := 72) rfl)) (hw _ (List.mem_of_getElem? (i := 74) rfl)) (hw _ (List.mem_of_getElem? (i := 73) rfl)) (hw _ (List.mem_of_getElem? (i := 2) rfl)) (hw _ (List.mem_of_getElem? (i := 75) rfl)) (fun hZ => notFace_of_selects (args := #[]) (mvT hZ (hw _ (List.mem_of_getElem? (i := 74) rfl)))) (by decide) rfl (lenOf pd___rB rfl) (by decide) (W := 1) (Nat.le_of_eq rfl) (by decide) (by decide) (by decide) rfl ?_
  rintro _ h6_3 K6_3 ⟨rfl, rfl⟩
  refine C.ishr 10 d6_9 ?_
  refine C.retI rfl d6_10 (by decide) (by decide) (Or.inl (Nat.le_refl _)) ?_
  exact ⟨by rw [own_shr0], rfl⟩
theorem pn_2 : plainName "jdk/internal/util/Preconditions" = true := by first | (simp [plainName, overriddenIn]; done) | decide +kernel
theorem d7_0 : decode jdk_41_method_11_code 0 = .ok (.iload_n 0, 1) := by decide +kernel
theorem d7_1 : decode jdk_41_method_11_code 1 = .ok (.ifCond .lt 8, 3) := by decide +kernel
theorem d7_4 : decode jdk_41_method_11_code 4 = .ok (.iload_n 0, 1) := by decide +kernel
theorem d7_5 : decode jdk_41_method_11_code 5 = .ok (.iload_n 1, 1) := by decide +kernel
theorem d7_6 : decode jdk_41_method_11_code 6 = .ok (.if_icmp .lt 10, 3) := by decide +kernel
theorem d7_16 : decode jdk_41_method_11_code 16 = .ok (.iload_n 0, 1) := by decide +kernel
theorem d7_17 : decode jdk_41_method_11_code 17 = .ok (.ireturn, 1) := by decide +kernel
theorem ef_8 (m : MethodId) (x0 : Int32) (x1 : Int32) (x2 : Value) (hx2 : x2.category = 1) : entryFrame m #[(.int x0), (.int x1), x2] 3 = mkF m 0 #[.val (.int x0), .val (.int x1), .val x2] [] := by first | (simp [entryFrame, mkF, argsToLocals, show ∀ z : Int32, (Value.int z).category = 1 from fun _ => rfl, show ∀ z : Nat, (Value.ref z).category = 1 from fun _ => rfl, hx2]; done) | rfl
set_option maxRecDepth 65536 in
set_option maxHeartbeats 40000000 in
theorem met_chk (l : Launch) (Z : State) (a0 : Array Value) (hw : ∀ d ∈ tables_1, d.before a0 Z = true) (EL : List (String × Nat)) (hEL : EW Z a0 EL) (n0 bk : Nat) (h0 : Heap) (hz0 : Z.heap.size ≤ n0) (hn0 : n0 ≤ h0.size) (i : Int32) (n : Int32) (fm : Value) (hi : ¬ i < 0) (hin : i < n) (hfm : fm.isRef = true) : Met l Z EL (⟨"jdk/internal/util/Preconditions", "checkIndex", "(IILjava/util/function/BiFunction;)I"⟩ : MethodName) jdk_41_method_11_code 3 (some .int) [] ({ frames := 0, cells := 0, slots := 0, locals := 0 } : Room) #[(.int i), (.int n), fm] n0 bk h0 (fun _ => bk) (fun v h => v = some (.int i) ∧ h0 = h) := by
  refine Met.intro (plainFor_of_name pn_2) (fun m => ef_8 m i n fm (XT.cat1 hfm)) hz0 hEL ?_
  intro p e s m below meth c C
  refine C.iloadN 1 d7_0 rfl ?_
  refine C.ifN 4 d7_1 rfl (XT.i0_lt_f (show ¬ (i < 0) from hi)) ?_
  refine C.iloadN 5 d7_4 rfl ?_
  refine C.iloadN 6 d7_5 rfl ?_
  refine C.icY 16 d7_6 (by decide) (by decide) (XT.ii_lt_t (show i < n from hin)) ?_
  refine C.iloadN 17 d7_16 rfl ?_
  refine C.retI rfl d7_17 (by decide) (by decide) (Or.inl (Nat.le_refl _)) ?_
  exact ⟨rfl, rfl⟩
theorem pd__IILjava_util_function_BiFunction_rI : parseMethodDescriptor "(IILjava/util/function/BiFunction;)I" = some ⟨[.int, .int, (.object "java/util/function/BiFunction")], some .int⟩ := by decide +kernel
theorem d8_0 : decode jdk_42_method_155_code 0 = .ok (.iload_n 0, 1) := by decide +kernel
theorem d8_1 : decode jdk_42_method_155_code 1 = .ok (.iload_n 1, 1) := by decide +kernel
theorem d8_2 : decode jdk_42_method_155_code 2 = .ok (.getstatic 1053, 3) := by decide +kernel
theorem d8_5 : decode jdk_42_method_155_code 5 = .ok (.invokestatic 1059, 3) := by decide +kernel
theorem d8_8 : decode jdk_42_method_155_code 8 = .ok (.pop, 1) := by decide +kernel
theorem d8_9 : decode jdk_42_method_155_code 9 = .ok (.return_, 1) := by decide +kernel
theorem ef_9 (m : MethodId) (x0 : Int32) (x1 : Int32) : entryFrame m #[(.int x0), (.int x1)] 2 = mkF m 0 #[.val (.int x0), .val (.int x1)] [] := by first | (simp [entryFrame, mkF, argsToLocals, Value.category]; done) | rfl
set_option maxRecDepth 65536 in
set_option maxHeartbeats 40000000 in
theorem met_chi (l : Launch) (Z : State) (a0 : Array Value) (hw : ∀ d ∈ tables_1, d.before a0 Z = true) (EL : List (String × Nat)) (hEL : EW Z a0 EL) (n0 bk : Nat) (h0 : Heap) (hz0 : Z.heap.size ≤ n0) (hn0 : n0 ≤ h0.size) (i : Int32) (n : Int32) (fm : Value) (hi : ¬ i < 0) (hin : i < n) (hfm : fm.isRef = true) (SF : Sta Z Z.heap "jdk/internal/util/Preconditions" "SIOOBE_FORMATTER" "Ljava/util/function/BiFunction;" fm) : Met l Z EL (⟨"java/lang/String", "checkIndex", "(II)V"⟩ : MethodName) jdk_42_method_155_code 2 none [] ({ frames := 1, cells := 0, slots := 0, locals := 14 } : Room) #[(.int i), (.int n)] n0 bk h0 (fun _ => bk) (fun v h => v = none ∧ h0 = h) := by
  refine Met.intro (plainFor_of_name pn_1) (fun m => ef_9 m i n) hz0 hEL ?_
  intro p e s m below meth c C
  refine C.iloadN 1 d8_0 rfl ?_
  refine C.iloadN 2 d8_1 rfl ?_
  refine C.gets 5 d8_2 (hw _ (List.mem_of_getElem? (i := 197) rfl)) SF ?_
  refine C.callS (b := h0.size) 8 [(.int i), (.int n), fm] [] d8_5 (met_chk l Z a0 hw EL hEL h0.size bk h0 (by omega) (by omega) i n fm hi hin hfm) (by omega) (Or.inl (Nat.le_refl _)) (hw _ (List.mem_of_getElem? (i := 199) rfl)) (hw _ (List.mem_of_getElem? (i := 200) rfl)) (hw _ (List.mem_of_getElem? (i := 198) rfl)) (hw _ (List.mem_of_getElem? (i := 201) rfl)) (by decide) rfl (lenOf pd__IILjava_util_function_BiFunction_rI rfl) (by decide) (W := 0) (Nat.le_of_eq rfl) (by decide) (by decide) (by decide) rfl ?_
  rintro _ h5_2 K5_2 ⟨rfl, rfl⟩
  refine C.pop 9 d8_8 rfl ?_
  refine C.retV rfl d8_9 (by decide) (by decide) (Or.inl (Nat.le_refl _)) ?_
  exact ⟨rfl, rfl⟩
theorem pd__II_rV : parseMethodDescriptor "(II)V" = some ⟨[.int, .int], none⟩ := by decide +kernel
theorem d9_0 : decode jdk_43_method_2_code 0 = .ok (.iload_n 1, 1) := by decide +kernel
theorem d9_1 : decode jdk_43_method_2_code 1 = .ok (.aload_n 0, 1) := by decide +kernel
theorem d9_2 : decode jdk_43_method_2_code 2 = .ok (.arraylength, 1) := by decide +kernel
theorem d9_3 : decode jdk_43_method_2_code 3 = .ok (.invokestatic 9, 3) := by decide +kernel
theorem d9_6 : decode jdk_43_method_2_code 6 = .ok (.aload_n 0, 1) := by decide +kernel
theorem d9_7 : decode jdk_43_method_2_code 7 = .ok (.iload_n 1, 1) := by decide +kernel
theorem d9_8 : decode jdk_43_method_2_code 8 = .ok (.baload, 1) := by decide +kernel
theorem d9_9 : decode jdk_43_method_2_code 9 = .ok (.sipush 255, 3) := by decide +kernel
theorem d9_12 : decode jdk_43_method_2_code 12 = .ok (.iand, 1) := by decide +kernel
theorem d9_13 : decode jdk_43_method_2_code 13 = .ok (.i2c, 1) := by decide +kernel
theorem d9_14 : decode jdk_43_method_2_code 14 = .ok (.ireturn, 1) := by decide +kernel
theorem ef_10 (m : MethodId) (x0 : Nat) (x1 : Int32) : entryFrame m #[(.ref x0), (.int x1)] 2 = mkF m 0 #[.val (.ref x0), .val (.int x1)] [] := by first | (simp [entryFrame, mkF, argsToLocals, Value.category]; done) | rfl
set_option maxRecDepth 65536 in
set_option maxHeartbeats 40000000 in
theorem met_lch (l : Launch) (Z : State) (a0 : Array Value) (hw : ∀ d ∈ tables_1, d.before a0 Z = true) (EL : List (String × Nat)) (hEL : EW Z a0 EL) (n0 bk : Nat) (h0 : Heap) (hz0 : Z.heap.size ≤ n0) (hn0 : n0 ≤ h0.size) (t : Nat) (cs : List Int32) (i : Nat) (x : Int32) (fm : Value) (R : Ar Z h0 t .byte (cs.map own_lo)) (hx : cs[i]? = some x) (q1 : ¬ x < 0) (q2 : ¬ 255 < x) (hfm : fm.isRef = true) (SF : Sta Z Z.heap "jdk/internal/util/Preconditions" "SIOOBE_FORMATTER" "Ljava/util/function/BiFunction;" fm) : Met l Z EL (⟨"java/lang/StringLatin1", "charAt", "([BI)C"⟩ : MethodName) jdk_43_method_2_code 2 (some .char) [] ({ frames := 2, cells := 0, slots := 0, locals := 27 } : Room) #[(.ref t), (.int (Int32.ofNat i))] n0 bk h0 (fun _ => bk) (fun v h => v = some (.int x) ∧ h0 = h) := by
  refine Met.intro (plainFor_of_name pn_0) (fun m => ef_10 m t (Int32.ofNat i)) hz0 hEL ?_
  intro p e s m below meth c C
  have hl := own_arlen R
  rw [List.length_map] at hl
  have hi : i < cs.length := (List.getElem?_eq_some_iff.mp hx).1
  refine C.iloadN 1 d9_0 rfl ?_
  refine C.aloadN 2 d9_1 rfl rfl ?_
  refine C.alen 3 d9_2 R (by rw [List.length_map]) ?_
  refine C.callS (b := h0.size) 6 [(.int (Int32.ofNat i)), (.int (Int32.ofNat cs.length))] [] d9_3 (met_chi l Z a0 hw EL hEL h0.size bk h0 (by omega) (by omega) _ _ fm (own_len31 (show i < 2147483648 by omega) rfl).1 ((own_ofNat (by omega) hl).2.mpr hi) hfm SF) (by omega) (Or.inl (Nat.le_refl _)) (hw _ (List.mem_of_getElem? (i := 194) rfl)) (hw _ (List.mem_of_getElem? (i := 195) rfl)) (hw _ (List.mem_of_getElem? (i := 2) rfl)) (hw _ (List.mem_of_getElem? (i := 196) rfl)) (by decide) rfl (lenOf pd__II_rV rfl) (by decide) (W := 0) (Nat.le_of_eq rfl) (by decide) (by decide) (by decide) rfl ?_
  rintro _ h3_2 K3_2 ⟨rfl, rfl⟩
  refine C.aloadN 7 d9_6 rfl rfl ?_
  refine C.iloadN 8 d9_7 rfl ?_
  refine C.baload 9 i d9_8 R rfl (own_chget hx) ?_
  refine C.sipush 12 (255 : Int32) d9_9 (by decide) ?_
  refine C.iand 13 d9_12 ?_
  refine C.i2c 14 d9_13 ?_
  refine C.retN (t := .char) rfl (by simp) d9_14 (by decide) (by decide) (Or.inl (Nat.le_refl _)) ?_
  exact ⟨by rw [own_ch q1 q2], rfl⟩
theorem pd___rZ : parseMethodDescriptor "()Z" = some ⟨[], some .boolean⟩ := by decide +kernel
theorem pd__ABI_rC : parseMethodDescriptor "([BI)C" = some ⟨[(.array .byte), .int], some .char⟩ := by decide +kernel
theorem d10_0 : decode jdk_42_method_56_code 0 = .ok (.aload_n 0, 1) := by decide +kernel
theorem d10_1 : decode jdk_42_method_56_code 1 = .ok (.invokevirtual 492, 3) := by decide +kernel
theorem d10_4 : decode jdk_42_method_56_code 4 = .ok (.ifCond .eq 12, 3) := by decide +kernel
theorem d10_7 : decode jdk_42_method_56_code 7 = .ok (.aload_n 0, 1) := by decide +kernel
theorem d10_8 : decode jdk_42_method_56_code 8 = .ok (.getfield 9, 3) := by decide +kernel
theorem d10_11 : decode jdk_42_method_56_code 11 = .ok (.iload_n 1, 1) := by decide +kernel
theorem d10_12 : decode jdk_42_method_56_code 12 = .ok (.invokestatic 495, 3) := by decide +kernel
theorem d10_15 : decode jdk_42_method_56_code 15 = .ok (.ireturn, 1) := by decide +kernel
theorem ef_11 (m : MethodId) (x0 : Nat) (x1 : Int32) : entryFrame m #[(.ref x0), (.int x1)] 2 = mkF m 0 #[.val (.ref x0), .val (.int x1)] [] := by first | (simp [entryFrame, mkF, argsToLocals, Value.category]; done) | rfl
set_option maxRecDepth 65536 in
set_option maxHeartbeats 40000000 in
theorem met_cha (l : Launch) (Z : State) (a0 : Array Value) (hw : ∀ d ∈ tables_1, d.before a0 Z = true) (EL : List (String × Nat)) (hEL : EW Z a0 EL) (n0 bk : Nat) (h0 : Heap) (hz0 : Z.heap.size ≤ n0) (hn0 : n0 ≤ h0.size) (a : Nat) (ba : Nat) (cs : List Int32) (i : Nat) (x : Int32) (z0 : Int32) (fm : Value) (Sa : Str Z h0 ba a cs) (hx : cs[i]? = some x) (SC : Sta Z Z.heap "java/lang/String" "COMPACT_STRINGS" "Z" (.int z0)) (hzc : ¬ z0 = 0) (hfm : fm.isRef = true) (SF : Sta Z Z.heap "jdk/internal/util/Preconditions" "SIOOBE_FORMATTER" "Ljava/util/function/BiFunction;" fm) : Met l Z EL (⟨"java/lang/String", "charAt", "(I)C"⟩ : MethodName) jdk_42_method_56_code 2 (some .char) [] ({ frames := 3, cells := 0, slots := 0, locals := 40 } : Room) #[(.ref a), (.int (Int32.ofNat i))] n0 bk h0 (fun _ => bk) (fun v h => v = some (.int x) ∧ h0 = h) := by
  refine Met.intro (plainFor_of_name pn_1) (fun m => ef_11 m a (Int32.ofNat i)) hz0 hEL ?_
  intro p e s m below meth c C
  have Sa0 := Sa
  obtain ⟨t, f1, f2, f3, f4, f5, f6, f7⟩ := Sa
  obtain ⟨q1, q2⟩ := f7 x (List.mem_of_getElem? hx)
  refine C.aloadN 1 d10_0 rfl rfl ?_
  refine C.callV (b := h0.size) 4 [] [] d10_1 (met_isl l Z a0 hw EL hEL h0.size bk h0 (by omega) (by omega) a ba cs z0 Sa0 SC hzc) f3 (by omega) (Or.inl (Nat.le_refl _)) (hw _ (List.mem_of_getElem? (i := 186) rfl)) (hw _ (List.mem_of_getElem? (i := 187) rfl)) (hw _ (List.mem_of_getElem? (i := 189) rfl)) (hw _ (List.mem_of_getElem? (i := 188) rfl)) (hw _ (List.mem_of_getElem? (i := 2) rfl)) (hw _ (List.mem_of_getElem? (i := 190) rfl)) (fun hZ => notFace_of_selects (args := #[]) (mvT hZ (hw _ (List.mem_of_getElem? (i := 189) rfl)))) (by decide) rfl (lenOf pd___rZ rfl) (by decide) (W := 0) (Nat.le_of_eq rfl) (by decide) (by decide) (by decide) rfl ?_
  rintro _ h1_1 K1_1 ⟨rfl, rfl⟩
  refine C.ifN 7 d10_4 rfl (XT.i0_eq_f (show ¬ ((1 : Int32) = 0) from (by decide))) ?_
  refine C.aloadN 8 d10_7 rfl rfl ?_
  refine C.getf 11 d10_8 (hw _ (List.mem_of_getElem? (i := 22) rfl)) Via.refl f5 ?_
  refine C.iloadN 12 d10_11 rfl ?_
  refine C.callS (b := h0.size) 15 [(.ref t), (.int (Int32.ofNat i))] [] d10_12 (met_lch l Z a0 hw EL hEL h0.size bk h0 (by omega) (by omega) t cs i x fm f6 hx q1 q2 hfm SF) (by omega) (Or.inl (Nat.le_refl _)) (hw _ (List.mem_of_getElem? (i := 191) rfl)) (hw _ (List.mem_of_getElem? (i := 192) rfl)) (hw _ (List.mem_of_getElem? (i := 7) rfl)) (hw _ (List.mem_of_getElem? (i := 193) rfl)) (by decide) rfl (lenOf pd__ABI_rC rfl) (by decide) (W := 0) (Nat.le_of_eq rfl) (by decide) (by decide) (by decide) rfl ?_
  rintro _ h12_3 K12_3 ⟨rfl, rfl⟩
  refine C.retN (t := .char) rfl (by simp) d10_15 (by decide) (by decide) (Or.inl (Nat.le_refl _)) ?_
  exact ⟨congrArg (fun z => some (Value.int z)) (own_c0 q1 q2), rfl⟩
theorem own_cmpset {xs : List Int32} {i : Nat} {x : Int32} (hx : xs[i]? = some x) : ((xs.take i).map own_lo ++ List.replicate (xs.length - i) 0).set i (own_lo x) = (xs.take (i + 1)).map own_lo ++ List.replicate (xs.length - (i + 1)) 0 := by
  have hi : i < xs.length := (List.getElem?_eq_some_iff.mp hx).1
  have e : xs[i] = x := (List.getElem?_eq_some_iff.mp hx).2
  have l1 : ((xs.take i).map own_lo).length = i := by rw [List.length_map, List.length_take]; omega
  rw [List.set_append_right _ _ (by omega), l1, Nat.sub_self]
  obtain ⟨d, hd⟩ : ∃ d, xs.length - i = d + 1 := ⟨xs.length - i - 1, by omega⟩
  rw [hd, List.replicate_succ, List.set_cons_zero, List.take_add_one, hx, show xs.length - (i + 1) = d by omega]
  simp
theorem own_fit {ty : FieldType} {Z : State} {h : Heap} {a : Nat} {xs : List Int32} (F : Ar Z h a ty xs) : ∀ x ∈ xs, fits ty (.int x) = true := by obtain ⟨_, _, _, _, _, g⟩ := F; exact g
theorem own_chr {Z : State} {h : Heap} {a : Nat} {xs : List Int32} (F : Ar Z h a .char xs) : ∀ x ∈ xs, ¬ x < 0 := fun x hx => (rng_char (own_fit F x hx)).1
theorem pn_3 : plainName "java/lang/StringUTF16" = true := by first | (simp [plainName, overriddenIn]; done) | decide +kernel
theorem d11_0 : decode jdk_52_method_21_code 0 = .ok (.iconst 0, 1) := by decide +kernel
theorem d11_1 : decode jdk_52_method_21_code 1 = .ok (.istore 5, 2) := by decide +kernel
theorem d11_3 : decode jdk_52_method_21_code 3 = .ok (.iload 5, 2) := by decide +kernel
theorem d11_5 : decode jdk_52_method_21_code 5 = .ok (.iload 4, 2) := by decide +kernel
theorem d11_7 : decode jdk_52_method_21_code 7 = .ok (.if_icmp .ge 37, 3) := by decide +kernel
theorem d11_10 : decode jdk_52_method_21_code 10 = .ok (.aload_n 0, 1) := by decide +kernel
theorem d11_11 : decode jdk_52_method_21_code 11 = .ok (.iload_n 1, 1) := by decide +kernel
theorem d11_12 : decode jdk_52_method_21_code 12 = .ok (.caload, 1) := by decide +kernel
theorem d11_13 : decode jdk_52_method_21_code 13 = .ok (.istore 6, 2) := by decide +kernel
theorem d11_15 : decode jdk_52_method_21_code 15 = .ok (.iload 6, 2) := by decide +kernel
theorem d11_17 : decode jdk_52_method_21_code 17 = .ok (.sipush 255, 3) := by decide +kernel
theorem d11_20 : decode jdk_52_method_21_code 20 = .ok (.if_icmp .le 6, 3) := by decide +kernel
theorem d11_26 : decode jdk_52_method_21_code 26 = .ok (.aload_n 2, 1) := by decide +kernel
theorem d11_27 : decode jdk_52_method_21_code 27 = .ok (.iload_n 3, 1) := by decide +kernel
theorem d11_28 : decode jdk_52_method_21_code 28 = .ok (.iload 6, 2) := by decide +kernel
theorem d11_30 : decode jdk_52_method_21_code 30 = .ok (.i2b, 1) := by decide +kernel
theorem d11_31 : decode jdk_52_method_21_code 31 = .ok (.bastore, 1) := by decide +kernel
theorem d11_32 : decode jdk_52_method_21_code 32 = .ok (.iinc 1 1, 3) := by decide +kernel
theorem d11_35 : decode jdk_52_method_21_code 35 = .ok (.iinc 3 1, 3) := by decide +kernel
theorem d11_38 : decode jdk_52_method_21_code 38 = .ok (.iinc 5 1, 3) := by decide +kernel
theorem d11_41 : decode jdk_52_method_21_code 41 = .ok (.goto (-38), 3) := by decide +kernel
theorem d11_44 : decode jdk_52_method_21_code 44 = .ok (.iload 4, 2) := by decide +kernel
theorem d11_46 : decode jdk_52_method_21_code 46 = .ok (.ireturn, 1) := by decide +kernel
theorem ef_12 (m : MethodId) (x0 : Nat) (x1 : Int32) (x2 : Nat) (x3 : Int32) (x4 : Int32) : entryFrame m #[(.ref x0), (.int x1), (.ref x2), (.int x3), (.int x4)] 7 = mkF m 0 #[.val (.ref x0), .val (.int x1), .val (.ref x2), .val (.int x3), .val (.int x4), .unset, .unset] [] := by first | (simp [entryFrame, mkF, argsToLocals, Value.category]; done) | rfl
set_option maxRecDepth 65536 in
set_option maxHeartbeats 40000000 in
theorem met_cmp5 (l : Launch) (Z : State) (a0 : Array Value) (hw : ∀ d ∈ tables_1, d.before a0 Z = true) (EL : List (String × Nat)) (hEL : EW Z a0 EL) (n0 bk : Nat) (h0 : Heap) (hz0 : Z.heap.size ≤ n0) (hn0 : n0 ≤ h0.size) (a : Nat) (t : Nat) (xs : List Int32) (Aa : Ar Z h0 a .char xs) (At : Ar Z h0 t .byte (List.replicate xs.length 0)) (hp : 0 < xs.length) (hq : ∀ x ∈ xs, ¬ 255 < x) (hat : a ≠ t) (hnt : n0 ≤ t) (hbt : bk ≤ t) : Met l Z EL (⟨"java/lang/StringUTF16", "compress", "([CI[BII)I"⟩ : MethodName) jdk_52_method_21_code 7 (some .int) [] ({ frames := 0, cells := 0, slots := 0, locals := 0 } : Room) #[(.ref a), (.int (0 : Int32)), (.ref t), (.int (0 : Int32)), (.int (Int32.ofNat xs.length))] n0 bk h0 (fun _ => bk) (fun v h => v = some (.int (Int32.ofNat xs.length)) ∧ OKp (fun y => y ≠ t) h0 h ∧ Ar Z h t .byte (xs.map own_lo)) := by
  refine Met.intro (plainFor_of_name pn_3) (fun m => ef_12 m a (0 : Int32) t (0 : Int32) (Int32.ofNat xs.length)) hz0 hEL ?_
  intro p e s m below meth c C
  have lx := own_arlen Aa
  have L3 : ∀ (n : Nat), ∀ (i : Nat) (hh : Heap) (c6 : Int32), (xs.length - i = n) → (i ≤ xs.length) → (Ar Z hh a .char xs) → (Ar Z hh t .byte ((xs.take i).map own_lo ++ List.replicate (xs.length - i) 0)) → (OKp (fun y => y ≠ t) h0 hh) → Go p l e ({ frames := 0, cells := 0, slots := 0, locals := 0 } : Room) s m #[(.ref a), (.int (0 : Int32)), (.ref t), (.int (0 : Int32)), (.int (Int32.ofNat xs.length))] below meth c Z "java/lang/StringUTF16" EL n0 (fun _ => bk) (fun v h => v = some (.int (Int32.ofNat xs.length)) ∧ OKp (fun y => y ≠ t) h0 h ∧ Ar Z h t .byte (xs.map own_lo)) bk hh 0 0 3 #[.val (.ref a), .val (.int (Int32.ofNat i)), .val (.ref t), .val (.int (Int32.ofNat i)), .val (.int (Int32.ofNat xs.length)), .val (.int (Int32.ofNat i)), .val (.int c6)] [] := by
    intro n
    induction n using Nat.strongRecOn with
    | ind n ih =>
      intro i hh c6 hn hi Aa At Kh
      refine C.iload 5 d11_3 rfl ?_
      refine C.iload 7 d11_5 rfl ?_
      rcases Decidable.em ((Int32.ofNat i) < (Int32.ofNat xs.length)) with h7 | h7
      · skip
        refine C.icN 10 d11_7 rfl (XT.ii_ge_f h7) ?_
        have hlt : i < xs.length := (own_ofNat (by omega) lx).2.mp h7
        obtain ⟨x1, hx1⟩ : ∃ x, xs[i]? = some x := ⟨_, List.getElem?_eq_getElem hlt⟩
        refine C.aloadN 11 d11_10 rfl rfl ?_
        refine C.iloadN 12 d11_11 rfl ?_
        refine C.caload 13 i d11_12 Aa rfl hx1 ?_
        refine C.istore 15 (L' := #[.val (.ref a), .val (.int (Int32.ofNat i)), .val (.ref t), .val (.int (Int32.ofNat i)), .val (.int (Int32.ofNat xs.length)), .val (.int (Int32.ofNat i)), .val (.int x1)]) d11_13 rfl ?_
        refine C.iload 17 d11_15 rfl ?_
        refine C.sipush 20 (255 : Int32) d11_17 (by decide) ?_
        refine C.icY 26 d11_20 (by decide) (by decide) (XT.ii_le_t (show ¬ ((255 : Int32) < x1) from (hq x1 (List.mem_of_getElem? hx1)))) ?_
        refine C.aloadN 27 d11_26 rfl rfl ?_
        refine C.iloadN 28 d11_27 rfl ?_
        refine C.iload 30 d11_28 rfl ?_
        refine C.i2b 31 d11_30 ?_
        refine C.bastore 32 i d11_31 At rfl (by simp; omega) (own_fitsb _) (by omega) (Or.inl hbt) ?_
        intro h2 W2 N2
        have sz_h2 : hh.size ≤ h2.size := (Nat.le_of_eq W2.size.symm)
        replace Aa := Aa.other W2 (by first | omega | (dsimp only; omega))
        replace At := N2
        refine C.iinc 35 (L' := #[.val (.ref a), .val (.int ((Int32.ofNat i) + (1 : Int32))), .val (.ref t), .val (.int (Int32.ofNat i)), .val (.int (Int32.ofNat xs.length)), .val (.int (Int32.ofNat i)), .val (.int x1)]) (1 : Int32) d11_32 (by decide) rfl rfl ?_
        refine C.iinc 38 (L' := #[.val (.ref a), .val (.int ((Int32.ofNat i) + (1 : Int32))), .val (.ref t), .val (.int ((Int32.ofNat i) + (1 : Int32))), .val (.int (Int32.ofNat xs.length)), .val (.int (Int32.ofNat i)), .val (.int x1)]) (1 : Int32) d11_35 (by decide) rfl rfl ?_
        refine C.iinc 41 (L' := #[.val (.ref a), .val (.int ((Int32.ofNat i) + (1 : Int32))), .val (.ref t), .val (.int ((Int32.ofNat i) + (1 : Int32))), .val (.int (Int32.ofNat xs.length)), .val (.int ((Int32.ofNat i) + (1 : Int32))), .val (.int x1)]) (1 : Int32) d11_38 (by decide) rfl rfl ?_
        refine C.goto 3 d11_41 (by decide) (by decide) ?_
        rw [own_succ i]
        refine ih _ (show xs.length - (i + 1) < n by omega) (i + 1) h2 x1 rfl (by omega) Aa (by have q := At; rw [own_narb, own_cmpset hx1] at q; exact q) (Kh.wr W2 (fun _ q => q))
      · skip
        refine C.icY 44 d11_7 (by decide) (by decide) (XT.ii_ge_t h7) ?_
        have hge : ¬ i < xs.length := fun q => h7 ((own_ofNat (by omega) lx).2.mpr q)
        refine C.iload 46 d11_44 rfl ?_
        refine C.retI rfl d11_46 (by decide) (by decide) (Or.inl (Nat.le_refl _)) ?_
        exact ⟨rfl, Kh, by have q := At; rw [show i = xs.length by omega, List.take_length, Nat.sub_self] at q; simpa using q⟩
  refine C.iconst 1 (0 : Int32) d11_0 (by decide) ?_
  refine C.istore 3 (L' := #[.val (.ref a), .val (.int (0 : Int32)), .val (.ref t), .val (.int (0 : Int32)), .val (.int (Int32.ofNat xs.length)), .val (.int (0 : Int32)), .unset]) d11_1 rfl ?_
  refine C.iload 5 d11_3 rfl ?_
  refine C.iload 7 d11_5 rfl ?_
  refine C.icN 10 d11_7 rfl (XT.ii_ge_f (show (0 : Int32) < (Int32.ofNat xs.length) from ((own_ofNat (show 0 < 2147483648 by decide) lx).2.mpr hp))) ?_
  have hlt : 0 < xs.length := hp
  obtain ⟨x1, hx1⟩ : ∃ x, xs[0]? = some x := ⟨_, List.getElem?_eq_getElem hlt⟩
  refine C.aloadN 11 d11_10 rfl rfl ?_
  refine C.iloadN 12 d11_11 rfl ?_
  refine C.caload 13 0 d11_12 Aa rfl hx1 ?_
  refine C.istore 15 (L' := #[.val (.ref a), .val (.int (0 : Int32)), .val (.ref t), .val (.int (0 : Int32)), .val (.int (Int32.ofNat xs.length)), .val (.int (0 : Int32)), .val (.int x1)]) d11_13 rfl ?_
  refine C.iload 17 d11_15 rfl ?_
  refine C.sipush 20 (255 : Int32) d11_17 (by decide) ?_
  refine C.icY 26 d11_20 (by decide) (by decide) (XT.ii_le_t (show ¬ ((255 : Int32) < x1) from (hq x1 (List.mem_of_getElem? hx1)))) ?_
  refine C.aloadN 27 d11_26 rfl rfl ?_
  refine C.iloadN 28 d11_27 rfl ?_
  refine C.iload 30 d11_28 rfl ?_
  refine C.i2b 31 d11_30 ?_
  refine C.bastore 32 0 d11_31 At rfl (by simp; omega) (own_fitsb _) (by omega) (Or.inl hbt) ?_
  intro h2 W2 N2
  have sz_h2 : h0.size ≤ h2.size := (Nat.le_of_eq W2.size.symm)
  replace Aa := Aa.other W2 (by first | omega | (dsimp only; omega))
  replace At := N2
  refine C.iinc 35 (L' := #[.val (.ref a), .val (.int ((0 : Int32) + (1 : Int32))), .val (.ref t), .val (.int (0 : Int32)), .val (.int (Int32.ofNat xs.length)), .val (.int (0 : Int32)), .val (.int x1)]) (1 : Int32) d11_32 (by decide) rfl rfl ?_
  refine C.iinc 38 (L' := #[.val (.ref a), .val (.int ((0 : Int32) + (1 : Int32))), .val (.ref t), .val (.int ((0 : Int32) + (1 : Int32))), .val (.int (Int32.ofNat xs.length)), .val (.int (0 : Int32)), .val (.int x1)]) (1 : Int32) d11_35 (by decide) rfl rfl ?_
  refine C.iinc 41 (L' := #[.val (.ref a), .val (.int ((0 : Int32) + (1 : Int32))), .val (.ref t), .val (.int ((0 : Int32) + (1 : Int32))), .val (.int (Int32.ofNat xs.length)), .val (.int ((0 : Int32) + (1 : Int32))), .val (.int x1)]) (1 : Int32) d11_38 (by decide) rfl rfl ?_
  refine C.goto 3 d11_41 (by decide) (by decide) ?_
  rw [show (0 : Int32) + 1 = Int32.ofNat 1 from rfl]
  refine L3 _ 1 h2 x1 rfl (by omega) Aa (by have q := At; rw [own_narb, show List.replicate xs.length (0 : Int32) = (xs.take 0).map own_lo ++ List.replicate (xs.length - 0) 0 from rfl, own_cmpset hx1] at q; exact q) (OKp.refl.wr W2 (fun _ q => q))
theorem d12_0 : decode jdk_52_method_15_code 0 = .ok (.iload_n 1, 1) := by decide +kernel
theorem d12_1 : decode jdk_52_method_15_code 1 = .ok (.aload_n 0, 1) := by decide +kernel
theorem d12_2 : decode jdk_52_method_15_code 2 = .ok (.arraylength, 1) := by decide +kernel
theorem d12_3 : decode jdk_52_method_15_code 3 = .ok (.isub, 1) := by decide +kernel
theorem d12_4 : decode jdk_52_method_15_code 4 = .ok (.bipush 31, 2) := by decide +kernel
theorem d12_6 : decode jdk_52_method_15_code 6 = .ok (.iushr, 1) := by decide +kernel
theorem d12_7 : decode jdk_52_method_15_code 7 = .ok (.i2b, 1) := by decide +kernel
theorem d12_8 : decode jdk_52_method_15_code 8 = .ok (.ireturn, 1) := by decide +kernel
theorem ef_13 (m : MethodId) (x0 : Nat) (x1 : Int32) : entryFrame m #[(.ref x0), (.int x1)] 2 = mkF m 0 #[.val (.ref x0), .val (.int x1)] [] := by first | (simp [entryFrame, mkF, argsToLocals, Value.category]; done) | rfl
set_option maxRecDepth 65536 in
set_option maxHeartbeats 40000000 in
theorem met_cfa (l : Launch) (Z : State) (a0 : Array Value) (hw : ∀ d ∈ tables_1, d.before a0 Z = true) (EL : List (String × Nat)) (hEL : EW Z a0 EL) (n0 bk : Nat) (h0 : Heap) (hz0 : Z.heap.size ≤ n0) (hn0 : n0 ≤ h0.size) (t : Nat) (xs : List Int32) (k : Nat) (R : Ar Z h0 t .byte xs) (hk : xs.length = k) : Met l Z EL (⟨"java/lang/StringUTF16", "coderFromArrayLen", "([BI)B"⟩ : MethodName) jdk_52_method_15_code 2 (some .byte) [] ({ frames := 0, cells := 0, slots := 0, locals := 0 } : Room) #[(.ref t), (.int (Int32.ofNat k))] n0 bk h0 (fun _ => bk) (fun v h => v = some (.int 0) ∧ h0 = h) := by
  refine Met.intro (plainFor_of_name pn_3) (fun m => ef_13 m t (Int32.ofNat k)) hz0 hEL ?_
  intro p e s m below meth c C
  refine C.iloadN 1 d12_0 rfl ?_
  refine C.aloadN 2 d12_1 rfl rfl ?_
  refine C.alen 3 d12_2 R (by rw [hk]) ?_
  refine C.isub 4 d12_3 ?_
  refine C.bipush 6 (31 : Int32) d12_4 (by decide) ?_
  refine C.iushr 7 d12_6 ?_
  refine C.i2b 8 d12_7 ?_
  refine C.retN (t := .byte) rfl (by simp) d12_8 (by decide) (by decide) (Or.inl (Nat.le_refl _)) ?_
  exact ⟨by rw [own_sub0]; rfl, rfl⟩
theorem pd__ACIABII_rI : parseMethodDescriptor "([CI[BII)I" = some ⟨[(.array .char), .int, (.array .byte), .int, .int], some .int⟩ := by decide +kernel
theorem d13_0 : decode jdk_52_method_16_code 0 = .ok (.iload_n 2, 1) := by decide +kernel
theorem d13_1 : decode jdk_52_method_16_code 1 = .ok (.newarray .byte, 2) := by decide +kernel
theorem d13_3 : decode jdk_52_method_16_code 3 = .ok (.astore_n 3, 1) := by decide +kernel
theorem d13_4 : decode jdk_52_method_16_code 4 = .ok (.aload_n 0, 1) := by decide +kernel
theorem d13_5 : decode jdk_52_method_16_code 5 = .ok (.iload_n 1, 1) := by decide +kernel
theorem d13_6 : decode jdk_52_method_16_code 6 = .ok (.aload_n 3, 1) := by decide +kernel
theorem d13_7 : decode jdk_52_method_16_code 7 = .ok (.iconst 0, 1) := by decide +kernel
theorem d13_8 : decode jdk_52_method_16_code 8 = .ok (.iload_n 2, 1) := by decide +kernel
theorem d13_9 : decode jdk_52_method_16_code 9 = .ok (.invokestatic 115, 3) := by decide +kernel
theorem d13_12 : decode jdk_52_method_16_code 12 = .ok (.istore 4, 2) := by decide +kernel
theorem d13_14 : decode jdk_52_method_16_code 14 = .ok (.iload 4, 2) := by decide +kernel
theorem d13_16 : decode jdk_52_method_16_code 16 = .ok (.iload_n 2, 1) := by decide +kernel
theorem d13_17 : decode jdk_52_method_16_code 17 = .ok (.if_icmp .eq 40, 3) := by decide +kernel
theorem d13_57 : decode jdk_52_method_16_code 57 = .ok (.aload_n 3, 1) := by decide +kernel
theorem d13_58 : decode jdk_52_method_16_code 58 = .ok (.areturn, 1) := by decide +kernel
theorem ef_14 (m : MethodId) (x0 : Nat) (x1 : Int32) (x2 : Int32) : entryFrame m #[(.ref x0), (.int x1), (.int x2)] 6 = mkF m 0 #[.val (.ref x0), .val (.int x1), .val (.int x2), .unset, .unset, .unset] [] := by first | (simp [entryFrame, mkF, argsToLocals, Value.category]; done) | rfl
set_option maxRecDepth 65536 in
set_option maxHeartbeats 40000000 in
theorem met_cmp3 (l : Launch) (Z : State) (a0 : Array Value) (hw : ∀ d ∈ tables_1, d.before a0 Z = true) (EL : List (String × Nat)) (hEL : EW Z a0 EL) (n0 bk : Nat) (h0 : Heap) (hz0 : Z.heap.size ≤ n0) (hn0 : n0 ≤ h0.size) (a : Nat) (xs : List Int32) (Aa : Ar Z h0 a .char xs) (hp : 0 < xs.length) (hcap : xs.length ≤ 2) (hq : ∀ x ∈ xs, ¬ 255 < x) (hbk : bk ≤ h0.size) : Met l Z EL (⟨"java/lang/StringUTF16", "compress", "([CII)[B"⟩ : MethodName) jdk_52_method_16_code 6 (some (.array .byte)) [] ({ frames := 1, cells := 1, slots := 2, locals := 18 } : Room) #[(.ref a), (.int (0 : Int32)), (.int (Int32.ofNat xs.length))] n0 bk h0 (fun _ => bk) (fun v h => ∃ t, v = some (.ref t) ∧ n0 ≤ t ∧ h0.size ≤ t ∧ Ar Z h t .byte (xs.map own_lo)) := by
  refine Met.intro (plainFor_of_name pn_3) (fun m => ef_14 m a (0 : Int32) (Int32.ofNat xs.length)) hz0 hEL ?_
  intro p e s m below meth c C
  have la : (_ : Nat) < _ := Aa.lt
  refine C.iloadN 1 d13_0 rfl ?_
  refine C.newarr (zn := xs.length) (cap := 2) 3 d13_1 (hw _ (List.mem_of_getElem? (i := 14) rfl)) rfl hcap (by decide) rfl (by decide) (by decide) (by decide) ?_
  intro t h1 g_t E1 R_t
  replace R_t : Ar Z h1 t .byte (List.replicate xs.length 0) := R_t
  have lt_t : t < h1.size := R_t.lt
  have sz_h1 : h0.size ≤ h1.size := E1.1
  replace Aa := Aa.ext E1
  refine C.astoreN 4 (L' := #[.val (.ref a), .val (.int (0 : Int32)), .val (.int (Int32.ofNat xs.length)), .val (.ref t), .unset, .unset]) d13_3 rfl rfl ?_
  refine C.aloadN 5 d13_4 rfl rfl ?_
  refine C.iloadN 6 d13_5 rfl ?_
  refine C.aloadN 7 d13_6 rfl rfl ?_
  refine C.iconst 8 (0 : Int32) d13_7 (by decide) ?_
  refine C.iloadN 9 d13_8 rfl ?_
  refine C.callS (b := h0.size) 12 [(.ref a), (.int (0 : Int32)), (.ref t), (.int (0 : Int32)), (.int (Int32.ofNat xs.length))] [] d13_9 (met_cmp5 l Z a0 hw EL hEL h0.size bk h1 (by omega) (by omega) a t xs Aa R_t hp hq (by omega) (by omega) (by omega)) (by omega) (Or.inl (Nat.le_refl _)) (hw _ (List.mem_of_getElem? (i := 213) rfl)) (hw _ (List.mem_of_getElem? (i := 214) rfl)) (hw _ (List.mem_of_getElem? (i := 211) rfl)) (hw _ (List.mem_of_getElem? (i := 215) rfl)) (by decide) rfl (lenOf pd__ACIABII_rI rfl) (by decide) (W := 0) (Nat.le_of_eq rfl) (by decide) (by decide) (by decide) rfl ?_
  rintro _ h2 K2 ⟨rfl, Kq, At⟩
  have sz_h2 : h1.size ≤ h2.size := Kq.1
  replace Aa := Aa.kp Kq (by first | omega | (dsimp only; omega))
  refine C.istore 14 (L' := #[.val (.ref a), .val (.int (0 : Int32)), .val (.int (Int32.ofNat xs.length)), .val (.ref t), .val (.int (Int32.ofNat xs.length)), .unset]) d13_12 rfl ?_
  refine C.iload 16 d13_14 rfl ?_
  refine C.iloadN 17 d13_16 rfl ?_
  refine C.icY 57 d13_17 (by decide) (by decide) (XT.ii_eq_t (show (Int32.ofNat xs.length) = (Int32.ofNat xs.length) from rfl)) ?_
  refine C.aloadN 58 d13_57 rfl rfl ?_
  refine C.retA rfl rfl d13_58 rfl (by decide) (by decide) (Or.inl (Nat.le_refl _)) ?_
  exact ⟨t, rfl, by omega, by omega, At⟩
theorem pd__ABI_rB : parseMethodDescriptor "([BI)B" = some ⟨[(.array .byte), .int], some .byte⟩ := by decide +kernel
theorem pd__ACII_rAB : parseMethodDescriptor "([CII)[B" = some ⟨[(.array .char), .int, .int], some (.array .byte)⟩ := by decide +kernel
theorem d14_0 : decode jdk_42_method_149_code 0 = .ok (.aload_n 0, 1) := by decide +kernel
theorem d14_1 : decode jdk_42_method_149_code 1 = .ok (.invokespecial 1, 3) := by decide +kernel
theorem d14_4 : decode jdk_42_method_149_code 4 = .ok (.iload_n 3, 1) := by decide +kernel
theorem d14_5 : decode jdk_42_method_149_code 5 = .ok (.ifCond .ne 22, 3) := by decide +kernel
theorem d14_27 : decode jdk_42_method_149_code 27 = .ok (.getstatic 38, 3) := by decide +kernel
theorem d14_30 : decode jdk_42_method_149_code 30 = .ok (.ifCond .eq 28, 3) := by decide +kernel
theorem d14_33 : decode jdk_42_method_149_code 33 = .ok (.aload_n 1, 1) := by decide +kernel
theorem d14_34 : decode jdk_42_method_149_code 34 = .ok (.iload_n 2, 1) := by decide +kernel
theorem d14_35 : decode jdk_42_method_149_code 35 = .ok (.iload_n 3, 1) := by decide +kernel
theorem d14_36 : decode jdk_42_method_149_code 36 = .ok (.invokestatic 177, 3) := by decide +kernel
theorem d14_39 : decode jdk_42_method_149_code 39 = .ok (.astore 5, 2) := by decide +kernel
theorem d14_41 : decode jdk_42_method_149_code 41 = .ok (.aload_n 0, 1) := by decide +kernel
theorem d14_42 : decode jdk_42_method_149_code 42 = .ok (.aload 5, 2) := by decide +kernel
theorem d14_44 : decode jdk_42_method_149_code 44 = .ok (.iload_n 3, 1) := by decide +kernel
theorem d14_45 : decode jdk_42_method_149_code 45 = .ok (.invokestatic 47, 3) := by decide +kernel
theorem d14_48 : decode jdk_42_method_149_code 48 = .ok (.putfield 15, 3) := by decide +kernel
theorem d14_51 : decode jdk_42_method_149_code 51 = .ok (.aload_n 0, 1) := by decide +kernel
theorem d14_52 : decode jdk_42_method_149_code 52 = .ok (.aload 5, 2) := by decide +kernel
theorem d14_54 : decode jdk_42_method_149_code 54 = .ok (.putfield 9, 3) := by decide +kernel
theorem d14_57 : decode jdk_42_method_149_code 57 = .ok (.return_, 1) := by decide +kernel
theorem ef_15 (m : MethodId) (x0 : Nat) (x1 : Nat) (x2 : Int32) (x3 : Int32) : entryFrame m #[(.ref x0), (.ref x1), (.int x2), (.int x3), .null] 6 = mkF m 0 #[.val (.ref x0), .val (.ref x1), .val (.int x2), .val (.int x3), .val .null, .unset] [] := by first | (simp [entryFrame, mkF, argsToLocals, Value.category]; done) | rfl
set_option maxRecDepth 65536 in
set_option maxHeartbeats 40000000 in
theorem met_s4 (l : Launch) (Z : State) (a0 : Array Value) (hw : ∀ d ∈ tables_1, d.before a0 Z = true) (EL : List (String × Nat)) (hEL : EW Z a0 EL) (n0 bk : Nat) (h0 : Heap) (hz0 : Z.heap.size ≤ n0) (hn0 : n0 ≤ h0.size) (a : Nat) (b : Nat) (xs : List Int32) (z0 : Int32) (X : Exa Z h0 a "java/lang/String") (FV : Fld Z h0 a "java/lang/String" "value" "[B" .null) (FC : Fld Z h0 a "java/lang/String" "coder" "B" (.int (0 : Int32))) (hna : n0 ≤ a) (hba : bk ≤ a) (Ac : Ar Z h0 b .char xs) (hp : 0 < xs.length) (hcap : xs.length ≤ 2) (hq : ∀ x ∈ xs, ¬ 255 < x) (SC : Sta Z Z.heap "java/lang/String" "COMPACT_STRINGS" "Z" (.int z0)) (hzc : ¬ z0 = 0) : Met l Z EL (⟨"java/lang/String", "<init>", "([CIILjava/lang/Void;)V"⟩ : MethodName) jdk_42_method_149_code 6 none [] ({ frames := 2, cells := 1, slots := 2, locals := 35 } : Room) #[(.ref a), (.ref b), (.int (0 : Int32)), (.int (Int32.ofNat xs.length)), .null] n0 bk h0 (fun _ => bk) (fun v h => v = none ∧ Str Z h h.size a xs ∧ OKp (fun y => y ≠ a ∧ y < h0.size) h0 h) := by
  refine Met.intro (plainFor_of_name pn_1) (fun m => ef_15 m a b (0 : Int32) (Int32.ofNat xs.length)) hz0 hEL ?_
  intro p e s m below meth c C
  have la : (_ : Nat) < _ := X.lt
  have lb : (_ : Nat) < _ := Ac.lt
  have lx := own_arlen Ac
  have hcr := own_chr Ac
  refine C.aloadN 1 d14_0 rfl rfl ?_
  refine C.objInit (W := 0) 4 d14_1 (hw _ (List.mem_of_getElem? (i := 19) rfl)) (hw _ (List.mem_of_getElem? (i := 20) rfl)) (hw _ (List.mem_of_getElem? (i := 21) rfl)) rfl (by decide) (Nat.le_of_eq rfl) (by decide) ?_
  refine C.iloadN 5 d14_4 rfl ?_
  refine C.ifY 27 d14_5 (by decide) (by decide) (XT.i0_ne_t (show ¬ ((Int32.ofNat xs.length) = 0) from (fun e => by have q := ((own_ofNat lx (show 0 < 2147483648 by decide)).1.mp e); omega))) ?_
  refine C.gets 30 d14_27 (hw _ (List.mem_of_getElem? (i := 4) rfl)) SC ?_
  refine C.ifN 33 d14_30 rfl (XT.i0_eq_f (show ¬ (z0 = 0) from hzc)) ?_
  refine C.aloadN 34 d14_33 rfl rfl ?_
  refine C.iloadN 35 d14_34 rfl ?_
  refine C.iloadN 36 d14_35 rfl ?_
  refine C.callS (b := h0.size) 39 [(.ref b), (.int (0 : Int32)), (.int (Int32.ofNat xs.length))] [] d14_36 (met_cmp3 l Z a0 hw EL hEL h0.size bk h0 (by omega) (by omega) b xs Ac hp hcap hq (by omega)) (by omega) (Or.inl (Nat.le_refl _)) (hw _ (List.mem_of_getElem? (i := 209) rfl)) (hw _ (List.mem_of_getElem? (i := 210) rfl)) (hw _ (List.mem_of_getElem? (i := 211) rfl)) (hw _ (List.mem_of_getElem? (i := 212) rfl)) (by decide) rfl (lenOf pd__ACII_rAB rfl) (by decide) (W := 0) (Nat.le_of_eq rfl) (by decide) (by decide) (by decide) rfl ?_
  rintro _ h1 K1 ⟨t, rfl, g1, g2, Rt⟩
  have sz_h1 : h0.size ≤ h1.size := K1.1
  replace X := own_exa K1 X (by first | omega | (dsimp only; omega))
  replace FV := own_fld K1 FV (by first | omega | (dsimp only; omega))
  replace FC := own_fld K1 FC (by first | omega | (dsimp only; omega))
  refine C.astore 41 (L' := #[.val (.ref a), .val (.ref b), .val (.int (0 : Int32)), .val (.int (Int32.ofNat xs.length)), .val .null, .val (.ref t)]) d14_39 rfl rfl ?_
  refine C.aloadN 42 d14_41 rfl rfl ?_
  refine C.aload 44 d14_42 rfl rfl ?_
  refine C.iloadN 45 d14_44 rfl ?_
  refine C.callS (b := h1.size) 48 [(.ref t), (.int (Int32.ofNat xs.length))] [(.ref a)] d14_45 (met_cfa l Z a0 hw EL hEL h1.size bk h1 (by omega) (by omega) t (xs.map own_lo) xs.length Rt (List.length_map _)) (by omega) (Or.inl (Nat.le_refl _)) (hw _ (List.mem_of_getElem? (i := 216) rfl)) (hw _ (List.mem_of_getElem? (i := 217) rfl)) (hw _ (List.mem_of_getElem? (i := 211) rfl)) (hw _ (List.mem_of_getElem? (i := 218) rfl)) (by decide) rfl (lenOf pd__ABI_rB rfl) (by decide) (W := 1) (Nat.le_of_eq rfl) (by decide) (by decide) (by decide) rfl ?_
  rintro _ h45_4 K45_4 ⟨rfl, rfl⟩
  refine C.putf (ty := .byte) 51 d14_48 (hw _ (List.mem_of_getElem? (i := 24) rfl)) Via.refl FC X (Or.inr ⟨(hw _ (List.mem_of_getElem? (i := 25) rfl)), rfl, rfl⟩) (hw _ (List.mem_of_getElem? (i := 10) rfl)) (by decide) rfl rfl (by omega) (Or.inl (by omega)) ?_
  intro h2 W2
  have sz_h2 : h1.size ≤ h2.size := (Nat.le_of_eq W2.size.symm)
  replace FV := FV.other W2 (Or.inr (slot_ne (t := (.array .byte)) (t' := .byte) (Or.inr (hw _ (List.mem_of_getElem? (i := 23) rfl))) (Or.inr (hw _ (List.mem_of_getElem? (i := 25) rfl))) (by decide) (by decide) (by decide)))
  replace FC := FC.same W2
  replace X := X.wr W2
  replace Rt := Rt.other W2 (by first | omega | (dsimp only; omega))
  refine C.aloadN 52 d14_51 rfl rfl ?_
  refine C.aload 54 d14_52 rfl rfl ?_
  refine C.putf (ty := (.array .byte)) 57 d14_54 (hw _ (List.mem_of_getElem? (i := 22) rfl)) Via.refl FV X (Or.inr ⟨(hw _ (List.mem_of_getElem? (i := 23) rfl)), rfl, rfl⟩) (hw _ (List.mem_of_getElem? (i := 10) rfl)) (by decide) rfl rfl (by omega) (Or.inl (by omega)) ?_
  intro h3 W3
  have sz_h3 : h2.size ≤ h3.size := (Nat.le_of_eq W3.size.symm)
  replace FC := FC.other W3 (Or.inr (slot_ne (t := .byte) (t' := (.array .byte)) (Or.inr (hw _ (List.mem_of_getElem? (i := 25) rfl))) (Or.inr (hw _ (List.mem_of_getElem? (i := 23) rfl))) (by decide) (by decide) (by decide)))
  replace FV := FV.same W3
  replace X := X.wr W3
  replace Rt := Rt.other W3 (by first | omega | (dsimp only; omega))
  refine C.retV rfl d14_57 (by decide) (by decide) (Or.inl (Nat.le_refl _)) ?_
  exact ⟨rfl, Str.made X FC FV Rt (fun y hy => ⟨hcr y hy, hq y hy⟩), (K1.weak (fun y q => q.2)).trans (((OKp.ofWr W2).trans (OKp.ofWr W3)).weak (fun y q => q.1))⟩
theorem pd__ACIILjava_lang_Void_rV : parseMethodDescriptor "([CIILjava/lang/Void;)V" = some ⟨[(.array .char), .int, .int, (.object "java/lang/Void")], none⟩ := by decide +kernel
theorem d15_0 : decode jdk_42_method_3_code 0 = .ok (.aload_n 0, 1) := by decide +kernel
theorem d15_1 : decode jdk_42_method_3_code 1 = .ok (.aload_n 1, 1) := by decide +kernel
theorem d15_2 : decode jdk_42_method_3_code 2 = .ok (.iconst 0, 1) := by decide +kernel
theorem d15_3 : decode jdk_42_method_3_code 3 = .ok (.aload_n 1, 1) := by decide +kernel
theorem d15_4 : decode jdk_42_method_3_code 4 = .ok (.arraylength, 1) := by decide +kernel
theorem d15_5 : decode jdk_42_method_3_code 5 = .ok (.aconst_null, 1) := by decide +kernel
theorem d15_6 : decode jdk_42_method_3_code 6 = .ok (.invokespecial 27, 3) := by decide +kernel
theorem d15_9 : decode jdk_42_method_3_code 9 = .ok (.return_, 1) := by decide +kernel
theorem ef_16 (m : MethodId) (x0 : Nat) (x1 : Nat) : entryFrame m #[(.ref x0), (.ref x1)] 2 = mkF m 0 #[.val (.ref x0), .val (.ref x1)] [] := by first | (simp [entryFrame, mkF, argsToLocals, Value.category]; done) | rfl
set_option maxRecDepth 65536 in
set_option maxHeartbeats 40000000 in
theorem met_s1 (l : Launch) (Z : State) (a0 : Array Value) (hw : ∀ d ∈ tables_1, d.before a0 Z = true) (EL : List (String × Nat)) (hEL : EW Z a0 EL) (n0 bk : Nat) (h0 : Heap) (hz0 : Z.heap.size ≤ n0) (hn0 : n0 ≤ h0.size) (a : Nat) (b : Nat) (xs : List Int32) (z0 : Int32) (X : Exa Z h0 a "java/lang/String") (FV : Fld Z h0 a "java/lang/String" "value" "[B" .null) (FC : Fld Z h0 a "java/lang/String" "coder" "B" (.int (0 : Int32))) (hna : n0 ≤ a) (hba : bk ≤ a) (Ac : Ar Z h0 b .char xs) (hp : 0 < xs.length) (hcap : xs.length ≤ 2) (hq : ∀ x ∈ xs, ¬ 255 < x) (SC : Sta Z Z.heap "java/lang/String" "COMPACT_STRINGS" "Z" (.int z0)) (hzc : ¬ z0 = 0) : Met l Z EL (⟨"java/lang/String", "<init>", "([C)V"⟩ : MethodName) jdk_42_method_3_code 2 none [] ({ frames := 3, cells := 1, slots := 2, locals := 52 } : Room) #[(.ref a), (.ref b)] n0 bk h0 (fun _ => bk) (fun v h => v = none ∧ Str Z h h.size a xs ∧ OKp (fun y => y ≠ a ∧ y < h0.size) h0 h) := by
  refine Met.intro (plainFor_of_name pn_1) (fun m => ef_16 m a b) hz0 hEL ?_
  intro p e s m below meth c C
  refine C.aloadN 1 d15_0 rfl rfl ?_
  refine C.aloadN 2 d15_1 rfl rfl ?_
  refine C.iconst 3 (0 : Int32) d15_2 (by decide) ?_
  refine C.aloadN 4 d15_3 rfl rfl ?_
  refine C.alen 5 d15_4 Ac rfl ?_
  refine C.aconstNull 6 d15_5 ?_
  refine C.callI (b := n0) 9 [(.ref b), (.int (0 : Int32)), (.int (Int32.ofNat xs.length)), .null] [] d15_6 (met_s4 l Z a0 hw EL hEL n0 bk h0 (by omega) (by omega) a b xs z0 X FV FC hna hba Ac hp hcap hq SC hzc) rfl (by omega) (Or.inl (Nat.le_refl _)) (hw _ (List.mem_of_getElem? (i := 206) rfl)) (hw _ (List.mem_of_getElem? (i := 207) rfl)) (hw _ (List.mem_of_getElem? (i := 2) rfl)) (hw _ (List.mem_of_getElem? (i := 208) rfl)) (by decide) rfl (lenOf pd__ACIILjava_lang_Void_rV rfl) (by decide) (W := 0) (Nat.le_of_eq rfl) (by decide) (by decide) (by decide) rfl ?_
  rintro _ h1 K1 ⟨rfl, Sa, Kq⟩
  have sz_h1 : h0.size ≤ h1.size := K1.1
  refine C.retV rfl d15_9 (by decide) (by decide) (Or.inl (Nat.le_refl _)) ?_
  exact ⟨rfl, Sa, Kq⟩
theorem pn_4 : plainName "java/lang/AbstractStringBuilder" = true := by first | (simp [plainName, overriddenIn]; done) | decide +kernel
theorem d16_0 : decode jdk_68_method_9_code 0 = .ok (.aload_n 0, 1) := by decide +kernel
theorem d16_1 : decode jdk_68_method_9_code 1 = .ok (.getfield 15, 3) := by decide +kernel
theorem d16_4 : decode jdk_68_method_9_code 4 = .ok (.arraylength, 1) := by decide +kernel
theorem d16_5 : decode jdk_68_method_9_code 5 = .ok (.aload_n 0, 1) := by decide +kernel
theorem d16_6 : decode jdk_68_method_9_code 6 = .ok (.getfield 22, 3) := by decide +kernel
theorem d16_9 : decode jdk_68_method_9_code 9 = .ok (.ishr, 1) := by decide +kernel
theorem d16_10 : decode jdk_68_method_9_code 10 = .ok (.istore_n 2, 1) := by decide +kernel
theorem d16_11 : decode jdk_68_method_9_code 11 = .ok (.iload_n 1, 1) := by decide +kernel
theorem d16_12 : decode jdk_68_method_9_code 12 = .ok (.iload_n 2, 1) := by decide +kernel
theorem d16_13 : decode jdk_68_method_9_code 13 = .ok (.isub, 1) := by decide +kernel
theorem d16_14 : decode jdk_68_method_9_code 14 = .ok (.ifCond .le 24, 3) := by decide +kernel
theorem d16_38 : decode jdk_68_method_9_code 38 = .ok (.return_, 1) := by decide +kernel
theorem ef_17 (m : MethodId) (x0 : Nat) (x1 : Int32) : entryFrame m #[(.ref x0), (.int x1)] 3 = mkF m 0 #[.val (.ref x0), .val (.int x1), .unset] [] := by first | (simp [entryFrame, mkF, argsToLocals, Value.category]; done) | rfl
set_option maxRecDepth 65536 in
set_option maxHeartbeats 40000000 in
theorem met_eci (l : Launch) (Z : State) (a0 : Array Value) (hw : ∀ d ∈ tables_1, d.before a0 Z = true) (EL : List (String × Nat)) (hEL : EW Z a0 EL) (n0 bk : Nat) (h0 : Heap) (hz0 : Z.heap.size ≤ n0) (hn0 : n0 ≤ h0.size) (sb : Nat) (t : Nat) (cap : Nat) (cs : List Int32) (k : Nat) (B : SB Z h0 sb t cap cs) (hk : k ≤ cap) : Met l Z EL (⟨"java/lang/AbstractStringBuilder", "ensureCapacityInternal", "(I)V"⟩ : MethodName) jdk_68_method_9_code 3 none [] ({ frames := 0, cells := 0, slots := 0, locals := 0 } : Room) #[(.ref sb), (.int (Int32.ofNat k))] n0 bk h0 (fun _ => bk) (fun v h => v = none ∧ h0 = h) := by
  refine Met.intro (plainFor_of_name pn_4) (fun m => ef_17 m sb (Int32.ofNat k)) hz0 hEL ?_
  intro p e s m below meth c C
  have B0 := B
  obtain ⟨x1, fv, fc, fn, ra, hcap, hrg⟩ := B
  have hcp : cap < 2147483648 := by have q := own_arlen ra; rw [own_sblen hcap] at q; exact q
  refine C.aloadN 1 d16_0 rfl rfl ?_
  refine C.getf 4 d16_1 (hw _ (List.mem_of_getElem? (i := 80) rfl)) Via.refl fv ?_
  refine C.alen 5 d16_4 ra (by rw [own_sblen hcap]) ?_
  refine C.aloadN 6 d16_5 rfl rfl ?_
  refine C.getf 9 d16_6 (hw _ (List.mem_of_getElem? (i := 78) rfl)) Via.refl fc ?_
  refine C.ishr 10 d16_9 ?_
  rw [own_shr0]
  refine C.istoreN 11 (L' := #[.val (.ref sb), .val (.int (Int32.ofNat k)), .val (.int (Int32.ofNat cap))]) d16_10 rfl ?_
  refine C.iloadN 12 d16_11 rfl ?_
  refine C.iloadN 13 d16_12 rfl ?_
  refine C.isub 14 d16_13 ?_
  refine C.ifY 38 d16_14 (by decide) (by decide) (XT.i0_le_t (show ¬ (0 < ((Int32.ofNat k) - (Int32.ofNat cap))) from (own_subneg hk hcp))) ?_
  refine C.retV rfl d16_38 (by decide) (by decide) (Or.inl (Nat.le_refl _)) ?_
  exact ⟨rfl, rfl⟩
theorem d17_0 : decode jdk_68_method_68_code 0 = .ok (.getstatic 18, 3) := by decide +kernel
theorem d17_3 : decode jdk_68_method_68_code 3 = .ok (.ifCond .eq 14, 3) := by decide +kernel
theorem d17_6 : decode jdk_68_method_68_code 6 = .ok (.aload_n 0, 1) := by decide +kernel
theorem d17_7 : decode jdk_68_method_68_code 7 = .ok (.getfield 22, 3) := by decide +kernel
theorem d17_10 : decode jdk_68_method_68_code 10 = .ok (.ifCond .ne 7, 3) := by decide +kernel
theorem d17_13 : decode jdk_68_method_68_code 13 = .ok (.iconst 1, 1) := by decide +kernel
theorem d17_14 : decode jdk_68_method_68_code 14 = .ok (.goto 4, 3) := by decide +kernel
theorem d17_18 : decode jdk_68_method_68_code 18 = .ok (.ireturn, 1) := by decide +kernel
theorem ef_18 (m : MethodId) (x0 : Nat) : entryFrame m #[(.ref x0)] 1 = mkF m 0 #[.val (.ref x0)] [] := by first | (simp [entryFrame, mkF, argsToLocals, Value.category]; done) | rfl
set_option maxRecDepth 65536 in
set_option maxHeartbeats 40000000 in
theorem met_asl (l : Launch) (Z : State) (a0 : Array Value) (hw : ∀ d ∈ tables_1, d.before a0 Z = true) (EL : List (String × Nat)) (hEL : EW Z a0 EL) (n0 bk : Nat) (h0 : Heap) (hz0 : Z.heap.size ≤ n0) (hn0 : n0 ≤ h0.size) (sb : Nat) (t : Nat) (cap : Nat) (cs : List Int32) (z0 : Int32) (B : SB Z h0 sb t cap cs) (SC : Sta Z Z.heap "java/lang/String" "COMPACT_STRINGS" "Z" (.int z0)) (hzc : ¬ z0 = 0) : Met l Z EL (⟨"java/lang/AbstractStringBuilder", "isLatin1", "()Z"⟩ : MethodName) jdk_68_method_68_code 1 (some .boolean) [] ({ frames := 0, cells := 0, slots := 0, locals := 0 } : Room) #[(.ref sb)] n0 bk h0 (fun _ => bk) (fun v h => v = some (.int 1) ∧ h0 = h) := by
  refine Met.intro (plainFor_of_name pn_4) (fun m => ef_18 m sb) hz0 hEL ?_
  intro p e s m below meth c C
  have B0 := B
  obtain ⟨x1, fv, fc, fn, ra, hcap, hrg⟩ := B
  have hcp : cap < 2147483648 := by have q := own_arlen ra; rw [own_sblen hcap] at q; exact q
  refine C.gets 3 d17_0 (hw _ (List.mem_of_getElem? (i := 113) rfl)) SC ?_
  refine C.ifN 6 d17_3 rfl (XT.i0_eq_f (show ¬ (z0 = 0) from hzc)) ?_
  refine C.aloadN 7 d17_6 rfl rfl ?_
  refine C.getf 10 d17_7 (hw _ (List.mem_of_getElem? (i := 78) rfl)) Via.refl fc ?_
  refine C.ifN 13 d17_10 rfl (XT.i0_ne_f (show (0 : Int32) = 0 from rfl)) ?_
  refine C.iconst 14 (1 : Int32) d17_13 (by decide) ?_
  refine C.goto 18 d17_14 (by decide) (by decide) ?_
  refine C.retN (t := .boolean) rfl (by simp) d17_18 (by decide) (by decide) (Or.inl (Nat.le_refl _)) ?_
  exact ⟨rfl, rfl⟩
theorem d18_0 : decode jdk_68_method_71_code 0 = .ok (.getstatic 18, 3) := by decide +kernel
theorem d18_3 : decode jdk_68_method_71_code 3 = .ok (.ifCond .eq 18, 3) := by decide +kernel
theorem d18_6 : decode jdk_68_method_71_code 6 = .ok (.aload_n 0, 1) := by decide +kernel
theorem d18_7 : decode jdk_68_method_71_code 7 = .ok (.getfield 22, 3) := by decide +kernel
theorem d18_10 : decode jdk_68_method_71_code 10 = .ok (.aload_n 1, 1) := by decide +kernel
theorem d18_11 : decode jdk_68_method_71_code 11 = .ok (.invokevirtual 40, 3) := by decide +kernel
theorem d18_14 : decode jdk_68_method_71_code 14 = .ok (.if_icmp .eq 7, 3) := by decide +kernel
theorem d18_21 : decode jdk_68_method_71_code 21 = .ok (.return_, 1) := by decide +kernel
theorem ef_19 (m : MethodId) (x0 : Nat) (x1 : Nat) : entryFrame m #[(.ref x0), (.ref x1)] 2 = mkF m 0 #[.val (.ref x0), .val (.ref x1)] [] := by first | (simp [entryFrame, mkF, argsToLocals, Value.category]; done) | rfl
set_option maxRecDepth 65536 in
set_option maxHeartbeats 40000000 in
theorem met_inf (l : Launch) (Z : State) (a0 : Array Value) (hw : ∀ d ∈ tables_1, d.before a0 Z = true) (EL : List (String × Nat)) (hEL : EW Z a0 EL) (n0 bk : Nat) (h0 : Heap) (hz0 : Z.heap.size ≤ n0) (hn0 : n0 ≤ h0.size) (sb : Nat) (t : Nat) (cap : Nat) (cs : List Int32) (a : Nat) (ba : Nat) (ds : List Int32) (z0 : Int32) (B : SB Z h0 sb t cap cs) (Sa : Str Z h0 ba a ds) (SC : Sta Z Z.heap "java/lang/String" "COMPACT_STRINGS" "Z" (.int z0)) (hzc : ¬ z0 = 0) : Met l Z EL (⟨"java/lang/AbstractStringBuilder", "inflateIfNeededFor", "(Ljava/lang/String;)V"⟩ : MethodName) jdk_68_method_71_code 2 none [] ({ frames := 1, cells := 0, slots := 0, locals := 13 } : Room) #[(.ref sb), (.ref a)] n0 bk h0 (fun _ => bk) (fun v h => v = none ∧ h0 = h) := by
  refine Met.intro (plainFor_of_name pn_4) (fun m => ef_19 m sb a) hz0 hEL ?_
  intro p e s m below meth c C
  have B0 := B
  obtain ⟨x1, fv, fc, fn, ra, hcap, hrg⟩ := B
  have hcp : cap < 2147483648 := by have q := own_arlen ra; rw [own_sblen hcap] at q; exact q
  have Xs := Sa.exa
  refine C.gets 3 d18_0 (hw _ (List.mem_of_getElem? (i := 113) rfl)) SC ?_
  refine C.ifN 6 d18_3 rfl (XT.i0_eq_f (show ¬ (z0 = 0) from hzc)) ?_
  refine C.aloadN 7 d18_6 rfl rfl ?_
  refine C.getf 10 d18_7 (hw _ (List.mem_of_getElem? (i := 78) rfl)) Via.refl fc ?_
  refine C.aloadN 11 d18_10 rfl rfl ?_
  refine C.callV (b := h0.size) 14 [] [(.int (0 : Int32))] d18_11 (met_coder l Z a0 hw EL hEL h0.size bk h0 (by omega) (by omega) a ba ds z0 Sa SC hzc) Xs (by omega) (Or.inl (Nat.le_refl _)) (hw _ (List.mem_of_getElem? (i := 77) rfl)) (hw _ (List.mem_of_getElem? (i := 72) rfl)) (hw _ (List.mem_of_getElem? (i := 74) rfl)) (hw _ (List.mem_of_getElem? (i := 73) rfl)) (hw _ (List.mem_of_getElem? (i := 2) rfl)) (hw _ (List.mem_of_getElem? (i := 75) rfl)) (fun hZ => notFace_of_selects (args := #[]) (mvT hZ (hw _ (List.mem_of_getElem? (i := 74) rfl)))) (by decide) rfl (lenOf pd___rB rfl) (by decide) (W := 1) (Nat.le_of_eq rfl) (by decide) (by decide) (by decide) rfl ?_
  rintro _ h11_3 K11_3 ⟨rfl, rfl⟩
  refine C.icY 21 d18_14 (by decide) (by decide) (XT.ii_eq_t (show (0 : Int32) = (0 : Int32) from rfl)) ?_
  refine C.retV rfl d18_21 (by decide) (by decide) (Or.inl (Nat.le_refl _)) ?_
  exact ⟨rfl, rfl⟩
theorem d19_0 : decode jdk_42_method_147_code 0 = .ok (.aload_n 0, 1) := by decide +kernel
theorem d19_1 : decode jdk_42_method_147_code 1 = .ok (.invokevirtual 335, 3) := by decide +kernel
theorem d19_4 : decode jdk_42_method_147_code 4 = .ok (.iload_n 3, 1) := by decide +kernel
theorem d19_5 : decode jdk_42_method_147_code 5 = .ok (.if_icmp .ne 23, 3) := by decide +kernel
theorem d19_8 : decode jdk_42_method_147_code 8 = .ok (.aload_n 0, 1) := by decide +kernel
theorem d19_9 : decode jdk_42_method_147_code 9 = .ok (.getfield 9, 3) := by decide +kernel
theorem d19_12 : decode jdk_42_method_147_code 12 = .ok (.iconst 0, 1) := by decide +kernel
theorem d19_13 : decode jdk_42_method_147_code 13 = .ok (.aload_n 1, 1) := by decide +kernel
theorem d19_14 : decode jdk_42_method_147_code 14 = .ok (.iload_n 2, 1) := by decide +kernel
theorem d19_15 : decode jdk_42_method_147_code 15 = .ok (.iload_n 3, 1) := by decide +kernel
theorem d19_16 : decode jdk_42_method_147_code 16 = .ok (.ishl, 1) := by decide +kernel
theorem d19_17 : decode jdk_42_method_147_code 17 = .ok (.aload_n 0, 1) := by decide +kernel
theorem d19_18 : decode jdk_42_method_147_code 18 = .ok (.getfield 9, 3) := by decide +kernel
theorem d19_21 : decode jdk_42_method_147_code 21 = .ok (.arraylength, 1) := by decide +kernel
theorem d19_22 : decode jdk_42_method_147_code 22 = .ok (.invokestatic 212, 3) := by decide +kernel
theorem d19_25 : decode jdk_42_method_147_code 25 = .ok (.goto 18, 3) := by decide +kernel
theorem d19_43 : decode jdk_42_method_147_code 43 = .ok (.return_, 1) := by decide +kernel
theorem ef_20 (m : MethodId) (x0 : Nat) (x1 : Nat) (x2 : Int32) (x3 : Int32) : entryFrame m #[(.ref x0), (.ref x1), (.int x2), (.int x3)] 4 = mkF m 0 #[.val (.ref x0), .val (.ref x1), .val (.int x2), .val (.int x3)] [] := by first | (simp [entryFrame, mkF, argsToLocals, Value.category]; done) | rfl
set_option maxRecDepth 65536 in
set_option maxHeartbeats 40000000 in
theorem met_gby (l : Launch) (Z : State) (a0 : Array Value) (hw : ∀ d ∈ tables_1, d.before a0 Z = true) (EL : List (String × Nat)) (hEL : EW Z a0 EL) (n0 bk : Nat) (h0 : Heap) (hz0 : Z.heap.size ≤ n0) (hn0 : n0 ≤ h0.size) (a : Nat) (ba : Nat) (ds : List Int32) (t : Nat) (ys : List Int32) (i : Nat) (z0 : Int32) (Sa : Str Z h0 ba a ds) (R : Ar Z h0 t .byte ys) (hi : i + ds.length ≤ ys.length) (hnt : n0 ≤ t) (hbt : bk ≤ t) (SC : Sta Z Z.heap "java/lang/String" "COMPACT_STRINGS" "Z" (.int z0)) (hzc : ¬ z0 = 0) : Met l Z EL (⟨"java/lang/String", "getBytes", "([BIB)V"⟩ : MethodName) jdk_42_method_147_code 4 none [] ({ frames := 1, cells := 0, slots := 0, locals := 18 } : Room) #[(.ref a), (.ref t), (.int (Int32.ofNat i)), (.int (0 : Int32))] n0 bk h0 (fun _ => bk) (fun v h => v = none ∧ OKp (fun x => x ≠ t) h0 h ∧ Ar Z h t .byte (ys.take i ++ ds.map own_lo ++ ys.drop (i + ds.length))) := by
  refine Met.intro (plainFor_of_name pn_1) (fun m => ef_20 m a t (Int32.ofNat i) (0 : Int32)) hz0 hEL ?_
  intro p e s m below meth c C
  have Sa0 := Sa
  obtain ⟨u, f1, f2, f3, f4, f5, f6, f7⟩ := Sa
  refine C.aloadN 1 d19_0 rfl rfl ?_
  refine C.callV (b := h0.size) 4 [] [] d19_1 (met_coder l Z a0 hw EL hEL h0.size bk h0 (by omega) (by omega) a ba ds z0 Sa0 SC hzc) f3 (by omega) (Or.inl (Nat.le_refl _)) (hw _ (List.mem_of_getElem? (i := 71) rfl)) (hw _ (List.mem_of_getElem? (i := 72) rfl)) (hw _ (List.mem_of_getElem? (i := 74) rfl)) (hw _ (List.mem_of_getElem? (i := 73) rfl)) (hw _ (List.mem_of_getElem? (i := 2) rfl)) (hw _ (List.mem_of_getElem? (i := 75) rfl)) (fun hZ => notFace_of_selects (args := #[]) (mvT hZ (hw _ (List.mem_of_getElem? (i := 74) rfl)))) (by decide) rfl (lenOf pd___rB rfl) (by decide) (W := 0) (Nat.le_of_eq rfl) (by decide) (by decide) (by decide) rfl ?_
  rintro _ h1_1 K1_1 ⟨rfl, rfl⟩
  refine C.iloadN 5 d19_4 rfl ?_
  refine C.icN 8 d19_5 rfl (XT.ii_ne_f (show (0 : Int32) = (0 : Int32) from rfl)) ?_
  refine C.aloadN 9 d19_8 rfl rfl ?_
  refine C.getf 12 d19_9 (hw _ (List.mem_of_getElem? (i := 22) rfl)) Via.refl f5 ?_
  refine C.iconst 13 (0 : Int32) d19_12 (by decide) ?_
  refine C.aloadN 14 d19_13 rfl rfl ?_
  refine C.iloadN 15 d19_14 rfl ?_
  refine C.iloadN 16 d19_15 rfl ?_
  refine C.ishl 17 d19_16 ?_
  rw [own_shl0]
  refine C.aloadN 18 d19_17 rfl rfl ?_
  refine C.getf 21 d19_18 (hw _ (List.mem_of_getElem? (i := 22) rfl)) Via.refl f5 ?_
  refine C.alen 22 d19_21 f6 rfl ?_
  refine C.acopy (si := 0) (di := i) (ni := (ds.map own_lo).length) (W := 0) 25 d19_22 (hw _ (List.mem_of_getElem? (i := 119) rfl)) (hw _ (List.mem_of_getElem? (i := 122) rfl)) (hw _ (List.mem_of_getElem? (i := 120) rfl)) (hw _ (List.mem_of_getElem? (i := 121) rfl)) f6 R rfl rfl rfl rfl (by omega) (by rw [List.length_map]; exact hi) (by omega) (Or.inl hbt) rfl (by decide) (Nat.le_of_eq rfl) (by decide) ?_
  intro h1 K1 N1
  have sz_h1 : h0.size ≤ h1.size := K1.1
  replace R : Ar Z h1 t .byte (ys.take i ++ ds.map own_lo ++ ys.drop (i + ds.length)) := (by have q := N1; rw [List.drop_zero, List.take_length, List.length_map] at q; exact q)
  refine C.goto 43 d19_25 (by decide) (by decide) ?_
  refine C.retV rfl d19_43 (by decide) (by decide) (Or.inl (Nat.le_refl _)) ?_
  exact ⟨rfl, K1, R⟩
theorem pd__Ljava_lang_String_rV : parseMethodDescriptor "(Ljava/lang/String;)V" = some ⟨[(.object "java/lang/String")], none⟩ := by decide +kernel
theorem pd__ABIB_rV : parseMethodDescriptor "([BIB)V" = some ⟨[(.array .byte), .int, .byte], none⟩ := by decide +kernel
theorem d20_0 : decode jdk_68_method_73_code 0 = .ok (.aload_n 0, 1) := by decide +kernel
theorem d20_1 : decode jdk_68_method_73_code 1 = .ok (.aload_n 2, 1) := by decide +kernel
theorem d20_2 : decode jdk_68_method_73_code 2 = .ok (.invokevirtual 397, 3) := by decide +kernel
theorem d20_5 : decode jdk_68_method_73_code 5 = .ok (.aload_n 2, 1) := by decide +kernel
theorem d20_6 : decode jdk_68_method_73_code 6 = .ok (.aload_n 0, 1) := by decide +kernel
theorem d20_7 : decode jdk_68_method_73_code 7 = .ok (.getfield 15, 3) := by decide +kernel
theorem d20_10 : decode jdk_68_method_73_code 10 = .ok (.iload_n 1, 1) := by decide +kernel
theorem d20_11 : decode jdk_68_method_73_code 11 = .ok (.aload_n 0, 1) := by decide +kernel
theorem d20_12 : decode jdk_68_method_73_code 12 = .ok (.getfield 22, 3) := by decide +kernel
theorem d20_15 : decode jdk_68_method_73_code 15 = .ok (.invokevirtual 399, 3) := by decide +kernel
theorem d20_18 : decode jdk_68_method_73_code 18 = .ok (.return_, 1) := by decide +kernel
theorem ef_21 (m : MethodId) (x0 : Nat) (x1 : Int32) (x2 : Nat) : entryFrame m #[(.ref x0), (.int x1), (.ref x2)] 3 = mkF m 0 #[.val (.ref x0), .val (.int x1), .val (.ref x2)] [] := by first | (simp [entryFrame, mkF, argsToLocals, Value.category]; done) | rfl
set_option maxRecDepth 65536 in
set_option maxHeartbeats 40000000 in
theorem met_psa (l : Launch) (Z : State) (a0 : Array Value) (hw : ∀ d ∈ tables_1, d.before a0 Z = true) (EL : List (String × Nat)) (hEL : EW Z a0 EL) (n0 bk : Nat) (h0 : Heap) (hz0 : Z.heap.size ≤ n0) (hn0 : n0 ≤ h0.size) (sb : Nat) (t : Nat) (cap : Nat) (cs : List Int32) (a : Nat) (ba : Nat) (ds : List Int32) (z0 : Int32) (B : SB Z h0 sb t cap cs) (Sa : Str Z h0 ba a ds) (hl : cs.length + ds.length ≤ cap) (hnt : n0 ≤ t) (hbt : bk ≤ t) (SC : Sta Z Z.heap "java/lang/String" "COMPACT_STRINGS" "Z" (.int z0)) (hzc : ¬ z0 = 0) : Met l Z EL (⟨"java/lang/AbstractStringBuilder", "putStringAt", "(ILjava/lang/String;)V"⟩ : MethodName) jdk_68_method_73_code 3 none [] ({ frames := 2, cells := 0, slots := 0, locals := 33 } : Room) #[(.ref sb), (.int (Int32.ofNat cs.length)), (.ref a)] n0 bk h0 (fun _ => bk) (fun v h => v = none ∧ OKp (fun x => x ≠ t) h0 h ∧ Ar Z h t .byte ((cs ++ ds).map own_lo ++ List.replicate (cap - (cs ++ ds).length) 0)) := by
  refine Met.intro (plainFor_of_name pn_4) (fun m => ef_21 m sb (Int32.ofNat cs.length) a) hz0 hEL ?_
  intro p e s m below meth c C
  have B0 := B
  obtain ⟨x1, fv, fc, fn, ra, hcap, hrg⟩ := B
  have hcp : cap < 2147483648 := by have q := own_arlen ra; rw [own_sblen hcap] at q; exact q
  have Xs := Sa.exa
  have lts : (_ : Nat) < _ := ra.lt
  refine C.aloadN 1 d20_0 rfl rfl ?_
  refine C.aloadN 2 d20_1 rfl rfl ?_
  refine C.callV (b := h0.size) 5 [(.ref a)] [] d20_2 (met_inf l Z a0 hw EL hEL h0.size bk h0 (by omega) (by omega) sb t cap cs a ba ds z0 B0 Sa SC hzc) x1 (by omega) (Or.inl (Nat.le_refl _)) (hw _ (List.mem_of_getElem? (i := 108) rfl)) (own_declares (hw _ (List.mem_of_getElem? (i := 109) rfl)) (hw _ (List.mem_of_getElem? (i := 112) rfl))) (hw _ (List.mem_of_getElem? (i := 111) rfl)) (hw _ (List.mem_of_getElem? (i := 109) rfl)) (hw _ (List.mem_of_getElem? (i := 63) rfl)) (hw _ (List.mem_of_getElem? (i := 112) rfl)) (fun hZ => notFace_of_selects (args := #[]) (mvT hZ (hw _ (List.mem_of_getElem? (i := 111) rfl)))) (by decide) rfl (lenOf pd__Ljava_lang_String_rV rfl) (by decide) (W := 0) (Nat.le_of_eq rfl) (by decide) (by decide) (by decide) rfl ?_
  rintro _ h2_1 K2_1 ⟨rfl, rfl⟩
  refine C.aloadN 6 d20_5 rfl rfl ?_
  refine C.aloadN 7 d20_6 rfl rfl ?_
  refine C.getf 10 d20_7 (hw _ (List.mem_of_getElem? (i := 80) rfl)) Via.refl fv ?_
  refine C.iloadN 11 d20_10 rfl ?_
  refine C.aloadN 12 d20_11 rfl rfl ?_
  refine C.getf 15 d20_12 (hw _ (List.mem_of_getElem? (i := 78) rfl)) Via.refl fc ?_
  refine C.callV (b := n0) 18 [(.ref t), (.int (Int32.ofNat cs.length)), (.int (0 : Int32))] [] d20_15 (met_gby l Z a0 hw EL hEL n0 bk h0 (by omega) (by omega) a ba ds t _ cs.length z0 Sa ra (by rw [own_sblen hcap]; exact hl) hnt hbt SC hzc) Xs (by omega) (Or.inl (Nat.le_refl _)) (hw _ (List.mem_of_getElem? (i := 114) rfl)) (hw _ (List.mem_of_getElem? (i := 115) rfl)) (hw _ (List.mem_of_getElem? (i := 117) rfl)) (hw _ (List.mem_of_getElem? (i := 116) rfl)) (hw _ (List.mem_of_getElem? (i := 2) rfl)) (hw _ (List.mem_of_getElem? (i := 118) rfl)) (fun hZ => notFace_of_selects (args := #[]) (mvT hZ (hw _ (List.mem_of_getElem? (i := 117) rfl)))) (by decide) rfl (lenOf pd__ABIB_rV rfl) (by decide) (W := 0) (Nat.le_of_eq rfl) (by decide) (by decide) (by decide) rfl ?_
  rintro _ h1 K1 ⟨rfl, Kq, Rq⟩
  have sz_h1 : h0.size ≤ h1.size := K1.1
  refine C.retV rfl d20_18 (by decide) (by decide) (Or.inl (Nat.le_refl _)) ?_
  exact ⟨rfl, Kq, by rw [← own_sbput hl]; exact Rq⟩
theorem pd___rI : parseMethodDescriptor "()I" = some ⟨[], some .int⟩ := by decide +kernel
theorem pd__I_rV : parseMethodDescriptor "(I)V" = some ⟨[.int], none⟩ := by decide +kernel
theorem pd__ILjava_lang_String_rV : parseMethodDescriptor "(ILjava/lang/String;)V" = some ⟨[.int, (.object "java/lang/String")], none⟩ := by decide +kernel
theorem d21_0 : decode jdk_68_method_22_code 0 = .ok (.aload_n 1, 1) := by decide +kernel
theorem d21_1 : decode jdk_68_method_22_code 1 = .ok (.ifnonnull 8, 3) := by decide +kernel
theorem d21_9 : decode jdk_68_method_22_code 9 = .ok (.aload_n 1, 1) := by decide +kernel
theorem d21_10 : decode jdk_68_method_22_code 10 = .ok (.invokevirtual 32, 3) := by decide +kernel
theorem d21_13 : decode jdk_68_method_22_code 13 = .ok (.istore_n 2, 1) := by decide +kernel
theorem d21_14 : decode jdk_68_method_22_code 14 = .ok (.aload_n 0, 1) := by decide +kernel
theorem d21_15 : decode jdk_68_method_22_code 15 = .ok (.aload_n 0, 1) := by decide +kernel
theorem d21_16 : decode jdk_68_method_22_code 16 = .ok (.getfield 79, 3) := by decide +kernel
theorem d21_19 : decode jdk_68_method_22_code 19 = .ok (.iload_n 2, 1) := by decide +kernel
theorem d21_20 : decode jdk_68_method_22_code 20 = .ok (.iadd, 1) := by decide +kernel
theorem d21_21 : decode jdk_68_method_22_code 21 = .ok (.invokevirtual 100, 3) := by decide +kernel
theorem d21_24 : decode jdk_68_method_22_code 24 = .ok (.aload_n 0, 1) := by decide +kernel
theorem d21_25 : decode jdk_68_method_22_code 25 = .ok (.aload_n 0, 1) := by decide +kernel
theorem d21_26 : decode jdk_68_method_22_code 26 = .ok (.getfield 79, 3) := by decide +kernel
theorem d21_29 : decode jdk_68_method_22_code 29 = .ok (.aload_n 1, 1) := by decide +kernel
theorem d21_30 : decode jdk_68_method_22_code 30 = .ok (.invokevirtual 208, 3) := by decide +kernel
theorem d21_33 : decode jdk_68_method_22_code 33 = .ok (.aload_n 0, 1) := by decide +kernel
theorem d21_34 : decode jdk_68_method_22_code 34 = .ok (.dup, 1) := by decide +kernel
theorem d21_35 : decode jdk_68_method_22_code 35 = .ok (.getfield 79, 3) := by decide +kernel
theorem d21_38 : decode jdk_68_method_22_code 38 = .ok (.iload_n 2, 1) := by decide +kernel
theorem d21_39 : decode jdk_68_method_22_code 39 = .ok (.iadd, 1) := by decide +kernel
theorem d21_40 : decode jdk_68_method_22_code 40 = .ok (.putfield 79, 3) := by decide +kernel
theorem d21_43 : decode jdk_68_method_22_code 43 = .ok (.aload_n 0, 1) := by decide +kernel
theorem d21_44 : decode jdk_68_method_22_code 44 = .ok (.areturn, 1) := by decide +kernel
theorem ef_22 (m : MethodId) (x0 : Nat) (x1 : Nat) : entryFrame m #[(.ref x0), (.ref x1)] 3 = mkF m 0 #[.val (.ref x0), .val (.ref x1), .unset] [] := by first | (simp [entryFrame, mkF, argsToLocals, Value.category]; done) | rfl
set_option maxRecDepth 65536 in
set_option maxHeartbeats 40000000 in
theorem met_asa (l : Launch) (Z : State) (a0 : Array Value) (hw : ∀ d ∈ tables_1, d.before a0 Z = true) (EL : List (String × Nat)) (hEL : EW Z a0 EL) (n0 bk : Nat) (h0 : Heap) (hz0 : Z.heap.size ≤ n0) (hn0 : n0 ≤ h0.size) (sb : Nat) (t : Nat) (cap : Nat) (cs : List Int32) (a : Nat) (ba : Nat) (ds : List Int32) (z0 : Int32) (B : SB Z h0 sb t cap cs) (Sa : Str Z h0 ba a ds) (hl : cs.length + ds.length ≤ cap) (hns : n0 ≤ sb) (hnt : n0 ≤ t) (hbt : bk ≤ t) (hst : sb ≠ t) (SC : Sta Z Z.heap "java/lang/String" "COMPACT_STRINGS" "Z" (.int z0)) (hzc : ¬ z0 = 0) : Met l Z EL (⟨"java/lang/AbstractStringBuilder", "append", "(Ljava/lang/String;)Ljava/lang/AbstractStringBuilder;"⟩ : MethodName) jdk_68_method_22_code 3 (some (.object "java/lang/AbstractStringBuilder")) [] ({ frames := 3, cells := 0, slots := 0, locals := 47 } : Room) #[(.ref sb), (.ref a)] n0 bk h0 (fun _ => bk) (fun v h => v = some (.ref sb) ∧ SB Z h sb t cap (cs ++ ds) ∧ OKp (fun x => x ≠ sb ∧ x ≠ t) h0 h) := by
  refine Met.intro (plainFor_of_name pn_4) (fun m => ef_22 m sb a) hz0 hEL ?_
  intro p e s m below meth c C
  have B0 := B
  obtain ⟨x1, fv, fc, fn, ra, hcap, hrg⟩ := B
  have hcp : cap < 2147483648 := by have q := own_arlen ra; rw [own_sblen hcap] at q; exact q
  have Xs := Sa.exa
  have l1 : (_ : Nat) < _ := x1.lt
  have l2 : (_ : Nat) < _ := ra.lt
  refine C.aloadN 1 d21_0 rfl rfl ?_
  refine C.nonY 9 d21_1 (by decide) (by decide) ?_
  refine C.aloadN 10 d21_9 rfl rfl ?_
  refine C.callV (b := h0.size) 13 [] [] d21_10 (met_len l Z a0 hw EL hEL h0.size bk h0 (by omega) (by omega) a ba ds z0 Sa SC hzc) Xs (by omega) (Or.inl (Nat.le_refl _)) (hw _ (List.mem_of_getElem? (i := 66) rfl)) (hw _ (List.mem_of_getElem? (i := 67) rfl)) (hw _ (List.mem_of_getElem? (i := 69) rfl)) (hw _ (List.mem_of_getElem? (i := 68) rfl)) (hw _ (List.mem_of_getElem? (i := 2) rfl)) (hw _ (List.mem_of_getElem? (i := 70) rfl)) (fun hZ => notFace_of_selects (args := #[]) (mvT hZ (hw _ (List.mem_of_getElem? (i := 69) rfl)))) (by decide) rfl (lenOf pd___rI rfl) (by decide) (W := 0) (Nat.le_of_eq rfl) (by decide) (by decide) (by decide) rfl ?_
  rintro _ h10_1 K10_1 ⟨rfl, rfl⟩
  refine C.istoreN 14 (L' := #[.val (.ref sb), .val (.ref a), .val (.int (Int32.ofNat ds.length))]) d21_13 rfl ?_
  refine C.aloadN 15 d21_14 rfl rfl ?_
  refine C.aloadN 16 d21_15 rfl rfl ?_
  refine C.getf 19 d21_16 (hw _ (List.mem_of_getElem? (i := 96) rfl)) Via.refl fn ?_
  refine C.iloadN 20 d21_19 rfl ?_
  refine C.iadd 21 d21_20 ?_
  rw [own_addn]
  refine C.callV (b := h0.size) 24 [(.int (Int32.ofNat (cs.length + ds.length)))] [] d21_21 (met_eci l Z a0 hw EL hEL h0.size bk h0 (by omega) (by omega) sb t cap cs _ B0 hl) x1 (by omega) (Or.inl (Nat.le_refl _)) (hw _ (List.mem_of_getElem? (i := 98) rfl)) (own_declares (hw _ (List.mem_of_getElem? (i := 99) rfl)) (hw _ (List.mem_of_getElem? (i := 102) rfl))) (hw _ (List.mem_of_getElem? (i := 101) rfl)) (hw _ (List.mem_of_getElem? (i := 99) rfl)) (hw _ (List.mem_of_getElem? (i := 63) rfl)) (hw _ (List.mem_of_getElem? (i := 102) rfl)) (fun hZ => notFace_of_selects (args := #[]) (mvT hZ (hw _ (List.mem_of_getElem? (i := 101) rfl)))) (by decide) rfl (lenOf pd__I_rV rfl) (by decide) (W := 0) (Nat.le_of_eq rfl) (by decide) (by decide) (by decide) rfl ?_
  rintro _ h21_3 K21_3 ⟨rfl, rfl⟩
  refine C.aloadN 25 d21_24 rfl rfl ?_
  refine C.aloadN 26 d21_25 rfl rfl ?_
  refine C.getf 29 d21_26 (hw _ (List.mem_of_getElem? (i := 96) rfl)) Via.refl fn ?_
  refine C.aloadN 30 d21_29 rfl rfl ?_
  refine C.callV (b := n0) 33 [(.int (Int32.ofNat cs.length)), (.ref a)] [] d21_30 (met_psa l Z a0 hw EL hEL n0 bk h0 (by omega) (by omega) sb t cap cs a ba ds z0 B0 Sa hl hnt hbt SC hzc) x1 (by omega) (Or.inl (Nat.le_refl _)) (hw _ (List.mem_of_getElem? (i := 103) rfl)) (own_declares (hw _ (List.mem_of_getElem? (i := 104) rfl)) (hw _ (List.mem_of_getElem? (i := 107) rfl))) (hw _ (List.mem_of_getElem? (i := 106) rfl)) (hw _ (List.mem_of_getElem? (i := 104) rfl)) (hw _ (List.mem_of_getElem? (i := 63) rfl)) (hw _ (List.mem_of_getElem? (i := 107) rfl)) (fun hZ => notFace_of_selects (args := #[]) (mvT hZ (hw _ (List.mem_of_getElem? (i := 106) rfl)))) (by decide) rfl (lenOf pd__ILjava_lang_String_rV rfl) (by decide) (W := 0) (Nat.le_of_eq rfl) (by decide) (by decide) (by decide) rfl ?_
  rintro _ h1 K1 ⟨rfl, Kq, Rq⟩
  have sz_h1 : h0.size ≤ h1.size := Kq.1
  replace x1 := own_exa Kq x1 (by first | omega | (dsimp only; omega))
  replace fv := own_fld Kq fv (by first | omega | (dsimp only; omega))
  replace fc := own_fld Kq fc (by first | omega | (dsimp only; omega))
  replace fn := own_fld Kq fn (by first | omega | (dsimp only; omega))
  refine C.aloadN 34 d21_33 rfl rfl ?_
  refine C.dup 35 d21_34 rfl ?_
  refine C.getf 38 d21_35 (hw _ (List.mem_of_getElem? (i := 96) rfl)) Via.refl fn ?_
  refine C.iloadN 39 d21_38 rfl ?_
  refine C.iadd 40 d21_39 ?_
  rw [own_addn]
  refine C.putf (ty := .int) 43 d21_40 (hw _ (List.mem_of_getElem? (i := 96) rfl)) Via.refl fn x1 (Or.inl (hw _ (List.mem_of_getElem? (i := 97) rfl))) (hw _ (List.mem_of_getElem? (i := 54) rfl)) (by decide) rfl rfl (by omega) (Or.inr (Or.inl ⟨_, x1, by decide, by decide⟩)) ?_
  intro h2 W2
  have sz_h2 : h1.size ≤ h2.size := (Nat.le_of_eq W2.size.symm)
  replace fv := fv.other W2 (Or.inr (slot_ne (t := (.array .byte)) (t' := .int) (Or.inl (hw _ (List.mem_of_getElem? (i := 81) rfl))) (Or.inl (hw _ (List.mem_of_getElem? (i := 97) rfl))) (by decide) (by decide) (by decide)))
  replace fc := fc.other W2 (Or.inr (slot_ne (t := .byte) (t' := .int) (Or.inl (hw _ (List.mem_of_getElem? (i := 79) rfl))) (Or.inl (hw _ (List.mem_of_getElem? (i := 97) rfl))) (by decide) (by decide) (by decide)))
  replace fn := fn.same W2
  replace x1 := x1.wr W2
  replace Rq := Rq.other W2 (by first | omega | (dsimp only; omega))
  refine C.aloadN 44 d21_43 rfl rfl ?_
  refine C.retA rfl rfl d21_44 rfl (by decide) (by decide) (Or.inl (Nat.le_refl _)) ?_
  obtain ⟨u, q1, q2, q3, q4, q5, q6, q7⟩ := Sa
  exact ⟨rfl, ⟨x1, fv, fc, by rw [List.length_append]; exact fn, Rq, by rw [List.length_append]; exact hl, own_ranges hrg q7⟩, (Kq.weak (fun x q => q.2)).trans ((OKp.ofWr W2).weak (fun x q => q.1))⟩
theorem pn_5 : plainName "java/lang/StringBuilder" = true := by first | (simp [plainName, overriddenIn]; done) | decide +kernel
theorem pd__Ljava_lang_String_rLjava_lang_AbstractStringBuilder : parseMethodDescriptor "(Ljava/lang/String;)Ljava/lang/AbstractStringBuilder;" = some ⟨[(.object "java/lang/String")], some (.object "java/lang/AbstractStringBuilder")⟩ := by decide +kernel
theorem d22_0 : decode jdk_67_method_7_code 0 = .ok (.aload_n 0, 1) := by decide +kernel
theorem d22_1 : decode jdk_67_method_7_code 1 = .ok (.aload_n 1, 1) := by decide +kernel
theorem d22_2 : decode jdk_67_method_7_code 2 = .ok (.invokespecial 29, 3) := by decide +kernel
theorem d22_5 : decode jdk_67_method_7_code 5 = .ok (.pop, 1) := by decide +kernel
theorem d22_6 : decode jdk_67_method_7_code 6 = .ok (.aload_n 0, 1) := by decide +kernel
theorem d22_7 : decode jdk_67_method_7_code 7 = .ok (.areturn, 1) := by decide +kernel
theorem ef_23 (m : MethodId) (x0 : Nat) (x1 : Nat) : entryFrame m #[(.ref x0), (.ref x1)] 2 = mkF m 0 #[.val (.ref x0), .val (.ref x1)] [] := by first | (simp [entryFrame, mkF, argsToLocals, Value.category]; done) | rfl
set_option maxRecDepth 65536 in
set_option maxHeartbeats 40000000 in
theorem met_sba (l : Launch) (Z : State) (a0 : Array Value) (hw : ∀ d ∈ tables_1, d.before a0 Z = true) (EL : List (String × Nat)) (hEL : EW Z a0 EL) (n0 bk : Nat) (h0 : Heap) (hz0 : Z.heap.size ≤ n0) (hn0 : n0 ≤ h0.size) (sb : Nat) (t : Nat) (cap : Nat) (cs : List Int32) (a : Nat) (ba : Nat) (ds : List Int32) (z0 : Int32) (B : SB Z h0 sb t cap cs) (Sa : Str Z h0 ba a ds) (hl : cs.length + ds.length ≤ cap) (hns : n0 ≤ sb) (hnt : n0 ≤ t) (hbt : bk ≤ t) (hst : sb ≠ t) (SC : Sta Z Z.heap "java/lang/String" "COMPACT_STRINGS" "Z" (.int z0)) (hzc : ¬ z0 = 0) : Met l Z EL (⟨"java/lang/StringBuilder", "append", "(Ljava/lang/String;)Ljava/lang/StringBuilder;"⟩ : MethodName) jdk_67_method_7_code 2 (some (.object "java/lang/StringBuilder")) [] ({ frames := 4, cells := 0, slots := 0, locals := 61 } : Room) #[(.ref sb), (.ref a)] n0 bk h0 (fun _ => bk) (fun v h => v = some (.ref sb) ∧ SB Z h sb t cap (cs ++ ds) ∧ OKp (fun x => x ≠ sb ∧ x ≠ t) h0 h) := by
  refine Met.intro (plainFor_of_name pn_5) (fun m => ef_23 m sb a) hz0 hEL ?_
  intro p e s m below meth c C
  have x1 := B.1
  have l1 := B.lts
  have l2 := B.ltt
  refine C.aloadN 1 d22_0 rfl rfl ?_
  refine C.aloadN 2 d22_1 rfl rfl ?_
  refine C.callU (b := n0) 5 [(.ref a)] [] d22_2 (met_asa l Z a0 hw EL hEL n0 bk h0 (by omega) (by omega) sb t cap cs a ba ds z0 B Sa hl hns hnt hbt hst SC hzc) (Ins.self x1) (by decide) (by omega) (Or.inl (Nat.le_refl _)) (hw _ (List.mem_of_getElem? (i := 93) rfl)) (own_same (y := (⟨"java/lang/AbstractStringBuilder", "append", "(Ljava/lang/String;)Ljava/lang/AbstractStringBuilder;"⟩ : MethodName)) (hw _ (List.mem_of_getElem? (i := 83) rfl)) (hw _ (List.mem_of_getElem? (i := 101) rfl)) rfl (by decide)) (hw _ (List.mem_of_getElem? (i := 94) rfl)) (hw _ (List.mem_of_getElem? (i := 84) rfl)) (hw _ (List.mem_of_getElem? (i := 63) rfl)) (hw _ (List.mem_of_getElem? (i := 95) rfl)) rfl (lenOf pd__Ljava_lang_String_rLjava_lang_AbstractStringBuilder rfl) (by decide) (W := 0) (Nat.le_of_eq rfl) (by decide) (by decide) (by decide) rfl ?_
  rintro _ h1 K1 ⟨rfl, B2, Kq⟩
  have sz_h1 : h0.size ≤ h1.size := K1.1
  refine C.pop 6 d22_5 rfl ?_
  refine C.aloadN 7 d22_6 rfl rfl ?_
  refine C.retA rfl rfl d22_7 rfl (by decide) (by decide) (Or.inl (Nat.le_refl _)) ?_
  exact ⟨rfl, B2, Kq⟩
theorem pd__Ljava_lang_String_rLjava_lang_StringBuilder : parseMethodDescriptor "(Ljava/lang/String;)Ljava/lang/StringBuilder;" = some ⟨[(.object "java/lang/String")], some (.object "java/lang/StringBuilder")⟩ := by decide +kernel
theorem d23_0 : decode jdk_67_method_80_code 0 = .ok (.aload_n 0, 1) := by decide +kernel
theorem d23_1 : decode jdk_67_method_80_code 1 = .ok (.aload_n 1, 1) := by decide +kernel
theorem d23_2 : decode jdk_67_method_80_code 2 = .ok (.invokevirtual 23, 3) := by decide +kernel
theorem d23_5 : decode jdk_67_method_80_code 5 = .ok (.areturn, 1) := by decide +kernel
theorem ef_24 (m : MethodId) (x0 : Nat) (x1 : Nat) : entryFrame m #[(.ref x0), (.ref x1)] 2 = mkF m 0 #[.val (.ref x0), .val (.ref x1)] [] := by first | (simp [entryFrame, mkF, argsToLocals, Value.category]; done) | rfl
set_option maxRecDepth 65536 in
set_option maxHeartbeats 40000000 in
theorem met_sbb (l : Launch) (Z : State) (a0 : Array Value) (hw : ∀ d ∈ tables_1, d.before a0 Z = true) (EL : List (String × Nat)) (hEL : EW Z a0 EL) (n0 bk : Nat) (h0 : Heap) (hz0 : Z.heap.size ≤ n0) (hn0 : n0 ≤ h0.size) (sb : Nat) (t : Nat) (cap : Nat) (cs : List Int32) (a : Nat) (ba : Nat) (ds : List Int32) (z0 : Int32) (B : SB Z h0 sb t cap cs) (Sa : Str Z h0 ba a ds) (hl : cs.length + ds.length ≤ cap) (hns : n0 ≤ sb) (hnt : n0 ≤ t) (hbt : bk ≤ t) (hst : sb ≠ t) (SC : Sta Z Z.heap "java/lang/String" "COMPACT_STRINGS" "Z" (.int z0)) (hzc : ¬ z0 = 0) : Met l Z EL (⟨"java/lang/StringBuilder", "append", "(Ljava/lang/String;)Ljava/lang/AbstractStringBuilder;"⟩ : MethodName) jdk_67_method_80_code 2 (some (.object "java/lang/AbstractStringBuilder")) [] ({ frames := 5, cells := 0, slots := 0, locals := 74 } : Room) #[(.ref sb), (.ref a)] n0 bk h0 (fun _ => bk) (fun v h => v = some (.ref sb) ∧ SB Z h sb t cap (cs ++ ds) ∧ OKp (fun x => x ≠ sb ∧ x ≠ t) h0 h) := by
  refine Met.intro (plainFor_of_name pn_5) (fun m => ef_24 m sb a) hz0 hEL ?_
  intro p e s m below meth c C
  have x1 := B.1
  refine C.aloadN 1 d23_0 rfl rfl ?_
  refine C.aloadN 2 d23_1 rfl rfl ?_
  refine C.callV (b := n0) 5 [(.ref a)] [] d23_2 (met_sba l Z a0 hw EL hEL n0 bk h0 (by omega) (by omega) sb t cap cs a ba ds z0 B Sa hl hns hnt hbt hst SC hzc) x1 (by omega) (Or.inl (Nat.le_refl _)) (hw _ (List.mem_of_getElem? (i := 88) rfl)) (hw _ (List.mem_of_getElem? (i := 89) rfl)) (hw _ (List.mem_of_getElem? (i := 91) rfl)) (hw _ (List.mem_of_getElem? (i := 90) rfl)) (hw _ (List.mem_of_getElem? (i := 55) rfl)) (hw _ (List.mem_of_getElem? (i := 92) rfl)) (fun hZ => notFace_of_selects (args := #[]) (mvT hZ (hw _ (List.mem_of_getElem? (i := 91) rfl)))) (by decide) rfl (lenOf pd__Ljava_lang_String_rLjava_lang_StringBuilder rfl) (by decide) (W := 0) (Nat.le_of_eq rfl) (by decide) (by decide) (by decide) rfl ?_
  rintro _ h1 K1 ⟨rfl, B2, Kq⟩
  have sz_h1 : h0.size ≤ h1.size := K1.1
  refine C.retA rfl rfl d23_5 rfl (by decide) (by decide) (Or.inl (Nat.le_refl _)) ?_
  exact ⟨rfl, B2, Kq⟩
theorem d24_0 : decode jdk_68_method_31_code 0 = .ok (.aload_n 0, 1) := by decide +kernel
theorem d24_1 : decode jdk_68_method_31_code 1 = .ok (.aload_n 0, 1) := by decide +kernel
theorem d24_2 : decode jdk_68_method_31_code 2 = .ok (.getfield 79, 3) := by decide +kernel
theorem d24_5 : decode jdk_68_method_31_code 5 = .ok (.iconst 1, 1) := by decide +kernel
theorem d24_6 : decode jdk_68_method_31_code 6 = .ok (.iadd, 1) := by decide +kernel
theorem d24_7 : decode jdk_68_method_31_code 7 = .ok (.invokevirtual 100, 3) := by decide +kernel
theorem d24_10 : decode jdk_68_method_31_code 10 = .ok (.aload_n 0, 1) := by decide +kernel
theorem d24_11 : decode jdk_68_method_31_code 11 = .ok (.invokevirtual 83, 3) := by decide +kernel
theorem d24_14 : decode jdk_68_method_31_code 14 = .ok (.ifCond .eq 31, 3) := by decide +kernel
theorem d24_17 : decode jdk_68_method_31_code 17 = .ok (.iload_n 1, 1) := by decide +kernel
theorem d24_18 : decode jdk_68_method_31_code 18 = .ok (.invokestatic 191, 3) := by decide +kernel
theorem d24_21 : decode jdk_68_method_31_code 21 = .ok (.ifCond .eq 24, 3) := by decide +kernel
theorem d24_24 : decode jdk_68_method_31_code 24 = .ok (.aload_n 0, 1) := by decide +kernel
theorem d24_25 : decode jdk_68_method_31_code 25 = .ok (.getfield 15, 3) := by decide +kernel
theorem d24_28 : decode jdk_68_method_31_code 28 = .ok (.aload_n 0, 1) := by decide +kernel
theorem d24_29 : decode jdk_68_method_31_code 29 = .ok (.dup, 1) := by decide +kernel
theorem d24_30 : decode jdk_68_method_31_code 30 = .ok (.getfield 79, 3) := by decide +kernel
theorem d24_33 : decode jdk_68_method_31_code 33 = .ok (.dup_x1, 1) := by decide +kernel
theorem d24_34 : decode jdk_68_method_31_code 34 = .ok (.iconst 1, 1) := by decide +kernel
theorem d24_35 : decode jdk_68_method_31_code 35 = .ok (.iadd, 1) := by decide +kernel
theorem d24_36 : decode jdk_68_method_31_code 36 = .ok (.putfield 79, 3) := by decide +kernel
theorem d24_39 : decode jdk_68_method_31_code 39 = .ok (.iload_n 1, 1) := by decide +kernel
theorem d24_40 : decode jdk_68_method_31_code 40 = .ok (.i2b, 1) := by decide +kernel
theorem d24_41 : decode jdk_68_method_31_code 41 = .ok (.bastore, 1) := by decide +kernel
theorem d24_42 : decode jdk_68_method_31_code 42 = .ok (.goto 33, 3) := by decide +kernel
theorem d24_75 : decode jdk_68_method_31_code 75 = .ok (.aload_n 0, 1) := by decide +kernel
theorem d24_76 : decode jdk_68_method_31_code 76 = .ok (.areturn, 1) := by decide +kernel
theorem ef_25 (m : MethodId) (x0 : Nat) (x1 : Int32) : entryFrame m #[(.ref x0), (.int x1)] 2 = mkF m 0 #[.val (.ref x0), .val (.int x1)] [] := by first | (simp [entryFrame, mkF, argsToLocals, Value.category]; done) | rfl
set_option maxRecDepth 65536 in
set_option maxHeartbeats 40000000 in
theorem met_asc (l : Launch) (Z : State) (a0 : Array Value) (hw : ∀ d ∈ tables_1, d.before a0 Z = true) (EL : List (String × Nat)) (hEL : EW Z a0 EL) (n0 bk : Nat) (h0 : Heap) (hz0 : Z.heap.size ≤ n0) (hn0 : n0 ≤ h0.size) (sb : Nat) (t : Nat) (cap : Nat) (cs : List Int32) (x : Int32) (z0 : Int32) (B : SB Z h0 sb t cap cs) (q0 : ¬ x < 0) (q : ¬ 255 < x) (hl : cs.length + 1 ≤ cap) (hns : n0 ≤ sb) (hnt : n0 ≤ t) (hbt : bk ≤ t) (hst : sb ≠ t) (SC : Sta Z Z.heap "java/lang/String" "COMPACT_STRINGS" "Z" (.int z0)) (hzc : ¬ z0 = 0) : Met l Z EL (⟨"java/lang/AbstractStringBuilder", "append", "(C)Ljava/lang/AbstractStringBuilder;"⟩ : MethodName) jdk_68_method_31_code 2 (some (.object "java/lang/AbstractStringBuilder")) [] ({ frames := 1, cells := 0, slots := 0, locals := 14 } : Room) #[(.ref sb), (.int x)] n0 bk h0 (fun _ => bk) (fun v h => v = some (.ref sb) ∧ SB Z h sb t cap (cs ++ [x]) ∧ OKp (fun x => x ≠ sb ∧ x ≠ t) h0 h) := by
  refine Met.intro (plainFor_of_name pn_4) (fun m => ef_25 m sb x) hz0 hEL ?_
  intro p e s m below meth c C
  have B0 := B
  obtain ⟨x1, fv, fc, fn, ra, hcap, hrg⟩ := B
  have hcp : cap < 2147483648 := by have q := own_arlen ra; rw [own_sblen hcap] at q; exact q
  have l1 : (_ : Nat) < _ := x1.lt
  have l2 : (_ : Nat) < _ := ra.lt
  refine C.aloadN 1 d24_0 rfl rfl ?_
  refine C.aloadN 2 d24_1 rfl rfl ?_
  refine C.getf 5 d24_2 (hw _ (List.mem_of_getElem? (i := 96) rfl)) Via.refl fn ?_
  refine C.iconst 6 (1 : Int32) d24_5 (by decide) ?_
  refine C.iadd 7 d24_6 ?_
  rw [own_succ]
  refine C.callV (b := h0.size) 10 [(.int (Int32.ofNat (cs.length + 1)))] [] d24_7 (met_eci l Z a0 hw EL hEL h0.size bk h0 (by omega) (by omega) sb t cap cs _ B0 hl) x1 (by omega) (Or.inl (Nat.le_refl _)) (hw _ (List.mem_of_getElem? (i := 98) rfl)) (own_declares (hw _ (List.mem_of_getElem? (i := 99) rfl)) (hw _ (List.mem_of_getElem? (i := 102) rfl))) (hw _ (List.mem_of_getElem? (i := 101) rfl)) (hw _ (List.mem_of_getElem? (i := 99) rfl)) (hw _ (List.mem_of_getElem? (i := 63) rfl)) (hw _ (List.mem_of_getElem? (i := 102) rfl)) (fun hZ => notFace_of_selects (args := #[]) (mvT hZ (hw _ (List.mem_of_getElem? (i := 101) rfl)))) (by decide) rfl (lenOf pd__I_rV rfl) (by decide) (W := 0) (Nat.le_of_eq rfl) (by decide) (by decide) (by decide) rfl ?_
  rintro _ h7_2 K7_2 ⟨rfl, rfl⟩
  refine C.aloadN 11 d24_10 rfl rfl ?_
  refine C.callV (b := h0.size) 14 [] [] d24_11 (met_asl l Z a0 hw EL hEL h0.size bk h0 (by omega) (by omega) sb t cap cs z0 B0 SC hzc) x1 (by omega) (Or.inl (Nat.le_refl _)) (hw _ (List.mem_of_getElem? (i := 228) rfl)) (hw _ (List.mem_of_getElem? (i := 154) rfl)) (hw _ (List.mem_of_getElem? (i := 156) rfl)) (hw _ (List.mem_of_getElem? (i := 155) rfl)) (hw _ (List.mem_of_getElem? (i := 63) rfl)) (hw _ (List.mem_of_getElem? (i := 157) rfl)) (fun hZ => notFace_of_selects (args := #[]) (mvT hZ (hw _ (List.mem_of_getElem? (i := 156) rfl)))) (by decide) rfl (lenOf pd___rZ rfl) (by decide) (W := 0) (Nat.le_of_eq rfl) (by decide) (by decide) (by decide) rfl ?_
  rintro _ h11_3 K11_3 ⟨rfl, rfl⟩
  refine C.ifN 17 d24_14 rfl (XT.i0_eq_f (show ¬ ((1 : Int32) = 0) from (by decide))) ?_
  refine C.iloadN 18 d24_17 rfl ?_
  refine C.callS (b := h0.size) 21 [(.int x)] [] d24_18 (met_can l Z a0 hw EL hEL h0.size bk h0 (by omega) (by omega) x q) (by omega) (Or.inl (Nat.le_refl _)) (hw _ (List.mem_of_getElem? (i := 229) rfl)) (hw _ (List.mem_of_getElem? (i := 6) rfl)) (hw _ (List.mem_of_getElem? (i := 7) rfl)) (hw _ (List.mem_of_getElem? (i := 8) rfl)) (by decide) rfl (lenOf pd__C_rZ rfl) (by decide) (W := 0) (Nat.le_of_eq rfl) (by decide) (by decide) (by decide) rfl ?_
  rintro _ h18_4 K18_4 ⟨rfl, rfl⟩
  refine C.ifN 24 d24_21 rfl (XT.i0_eq_f (show ¬ ((1 : Int32) = 0) from (by decide))) ?_
  refine C.aloadN 25 d24_24 rfl rfl ?_
  refine C.getf 28 d24_25 (hw _ (List.mem_of_getElem? (i := 80) rfl)) Via.refl fv ?_
  refine C.aloadN 29 d24_28 rfl rfl ?_
  refine C.dup 30 d24_29 rfl ?_
  refine C.getf 33 d24_30 (hw _ (List.mem_of_getElem? (i := 96) rfl)) Via.refl fn ?_
  refine C.dupX1 34 d24_33 rfl rfl ?_
  refine C.iconst 35 (1 : Int32) d24_34 (by decide) ?_
  refine C.iadd 36 d24_35 ?_
  rw [own_succ]
  refine C.putf (ty := .int) 39 d24_36 (hw _ (List.mem_of_getElem? (i := 96) rfl)) Via.refl fn x1 (Or.inl (hw _ (List.mem_of_getElem? (i := 97) rfl))) (hw _ (List.mem_of_getElem? (i := 54) rfl)) (by decide) rfl rfl (by omega) (Or.inr (Or.inl ⟨_, x1, by decide, by decide⟩)) ?_
  intro h1 W1
  have sz_h1 : h0.size ≤ h1.size := (Nat.le_of_eq W1.size.symm)
  replace fv := fv.other W1 (Or.inr (slot_ne (t := (.array .byte)) (t' := .int) (Or.inl (hw _ (List.mem_of_getElem? (i := 81) rfl))) (Or.inl (hw _ (List.mem_of_getElem? (i := 97) rfl))) (by decide) (by decide) (by decide)))
  replace fc := fc.other W1 (Or.inr (slot_ne (t := .byte) (t' := .int) (Or.inl (hw _ (List.mem_of_getElem? (i := 79) rfl))) (Or.inl (hw _ (List.mem_of_getElem? (i := 97) rfl))) (by decide) (by decide) (by decide)))
  replace fn := fn.same W1
  replace x1 := x1.wr W1
  replace ra := ra.other W1 (by first | omega | (dsimp only; omega))
  refine C.iloadN 40 d24_39 rfl ?_
  refine C.i2b 41 d24_40 ?_
  refine C.bastore 42 cs.length d24_41 ra rfl (by rw [own_sblen hcap]; omega) (own_fitsb _) (by omega) (Or.inl hbt) ?_
  intro h2 W2 N2
  have sz_h2 : h1.size ≤ h2.size := (Nat.le_of_eq W2.size.symm)
  replace x1 := x1.wr W2
  replace fv := fv.other W2 (Or.inl (show (_ : Nat) ≠ _ by omega))
  replace fc := fc.other W2 (Or.inl (show (_ : Nat) ≠ _ by omega))
  replace fn := fn.other W2 (Or.inl (show (_ : Nat) ≠ _ by omega))
  replace ra : Ar Z h2 t .byte ((cs ++ [x]).map own_lo ++ List.replicate (cap - (cs ++ [x]).length) 0) := (by have q := N2; rw [own_narb, own_sbset hl] at q; exact q)
  refine C.goto 75 d24_42 (by decide) (by decide) ?_
  refine C.aloadN 76 d24_75 rfl rfl ?_
  refine C.retA rfl rfl d24_76 rfl (by decide) (by decide) (Or.inl (Nat.le_refl _)) ?_
  exact ⟨rfl, ⟨x1, fv, fc, by rw [List.length_append]; exact fn, ra, by rw [List.length_append]; exact hl, own_ranges hrg (fun y hy => by cases List.mem_singleton.mp hy; exact ⟨q0, q⟩)⟩, ((OKp.ofWr W1).weak (fun x q => q.1)).trans ((OKp.ofWr W2).weak (fun x q => q.2))⟩
theorem pd__C_rLjava_lang_AbstractStringBuilder : parseMethodDescriptor "(C)Ljava/lang/AbstractStringBuilder;" = some ⟨[.char], some (.object "java/lang/AbstractStringBuilder")⟩ := by decide +kernel
theorem d25_0 : decode jdk_67_method_14_code 0 = .ok (.aload_n 0, 1) := by decide +kernel
theorem d25_1 : decode jdk_67_method_14_code 1 = .ok (.iload_n 1, 1) := by decide +kernel
theorem d25_2 : decode jdk_67_method_14_code 2 = .ok (.invokespecial 50, 3) := by decide +kernel
theorem d25_5 : decode jdk_67_method_14_code 5 = .ok (.pop, 1) := by decide +kernel
theorem d25_6 : decode jdk_67_method_14_code 6 = .ok (.aload_n 0, 1) := by decide +kernel
theorem d25_7 : decode jdk_67_method_14_code 7 = .ok (.areturn, 1) := by decide +kernel
theorem ef_26 (m : MethodId) (x0 : Nat) (x1 : Int32) : entryFrame m #[(.ref x0), (.int x1)] 2 = mkF m 0 #[.val (.ref x0), .val (.int x1)] [] := by first | (simp [entryFrame, mkF, argsToLocals, Value.category]; done) | rfl
set_option maxRecDepth 65536 in
set_option maxHeartbeats 40000000 in
theorem met_sbc (l : Launch) (Z : State) (a0 : Array Value) (hw : ∀ d ∈ tables_1, d.before a0 Z = true) (EL : List (String × Nat)) (hEL : EW Z a0 EL) (n0 bk : Nat) (h0 : Heap) (hz0 : Z.heap.size ≤ n0) (hn0 : n0 ≤ h0.size) (sb : Nat) (t : Nat) (cap : Nat) (cs : List Int32) (x : Int32) (z0 : Int32) (B : SB Z h0 sb t cap cs) (q0 : ¬ x < 0) (q : ¬ 255 < x) (hl : cs.length + 1 ≤ cap) (hns : n0 ≤ sb) (hnt : n0 ≤ t) (hbt : bk ≤ t) (hst : sb ≠ t) (SC : Sta Z Z.heap "java/lang/String" "COMPACT_STRINGS" "Z" (.int z0)) (hzc : ¬ z0 = 0) : Met l Z EL (⟨"java/lang/StringBuilder", "append", "(C)Ljava/lang/StringBuilder;"⟩ : MethodName) jdk_67_method_14_code 2 (some (.object "java/lang/StringBuilder")) [] ({ frames := 2, cells := 0, slots := 0, locals := 27 } : Room) #[(.ref sb), (.int x)] n0 bk h0 (fun _ => bk) (fun v h => v = some (.ref sb) ∧ SB Z h sb t cap (cs ++ [x]) ∧ OKp (fun x => x ≠ sb ∧ x ≠ t) h0 h) := by
  refine Met.intro (plainFor_of_name pn_5) (fun m => ef_26 m sb x) hz0 hEL ?_
  intro p e s m below meth c C
  have x1 := B.1
  have l1 := B.lts
  have l2 := B.ltt
  refine C.aloadN 1 d25_0 rfl rfl ?_
  refine C.iloadN 2 d25_1 rfl ?_
  refine C.callU (b := n0) 5 [(.int x)] [] d25_2 (met_asc l Z a0 hw EL hEL n0 bk h0 (by omega) (by omega) sb t cap cs x z0 B q0 q hl hns hnt hbt hst SC hzc) (Ins.self x1) (by decide) (by omega) (Or.inl (Nat.le_refl _)) (hw _ (List.mem_of_getElem? (i := 224) rfl)) (own_same (y := (⟨"java/lang/AbstractStringBuilder", "append", "(C)Ljava/lang/AbstractStringBuilder;"⟩ : MethodName)) (hw _ (List.mem_of_getElem? (i := 226) rfl)) (hw _ (List.mem_of_getElem? (i := 101) rfl)) rfl (by decide)) (hw _ (List.mem_of_getElem? (i := 94) rfl)) (hw _ (List.mem_of_getElem? (i := 225) rfl)) (hw _ (List.mem_of_getElem? (i := 63) rfl)) (hw _ (List.mem_of_getElem? (i := 227) rfl)) rfl (lenOf pd__C_rLjava_lang_AbstractStringBuilder rfl) (by decide) (W := 0) (Nat.le_of_eq rfl) (by decide) (by decide) (by decide) rfl ?_
  rintro _ h1 K1 ⟨rfl, B2, Kq⟩
  have sz_h1 : h0.size ≤ h1.size := K1.1
  refine C.pop 6 d25_5 rfl ?_
  refine C.aloadN 7 d25_6 rfl rfl ?_
  refine C.retA rfl rfl d25_7 rfl (by decide) (by decide) (Or.inl (Nat.le_refl _)) ?_
  exact ⟨rfl, B2, Kq⟩
theorem d26_0 : decode jdk_68_method_3_code 0 = .ok (.aload_n 0, 1) := by decide +kernel
theorem d26_1 : decode jdk_68_method_3_code 1 = .ok (.invokespecial 3, 3) := by decide +kernel
theorem d26_4 : decode jdk_68_method_3_code 4 = .ok (.aload_n 1, 1) := by decide +kernel
theorem d26_5 : decode jdk_68_method_3_code 5 = .ok (.invokevirtual 32, 3) := by decide +kernel
theorem d26_8 : decode jdk_68_method_3_code 8 = .ok (.istore_n 2, 1) := by decide +kernel
theorem d26_9 : decode jdk_68_method_3_code 9 = .ok (.iload_n 2, 1) := by decide +kernel
theorem d26_10 : decode jdk_68_method_3_code 10 = .ok (.ldc 38, 2) := by decide +kernel
theorem d26_12 : decode jdk_68_method_3_code 12 = .ok (.if_icmp .ge 10, 3) := by decide +kernel
theorem d26_15 : decode jdk_68_method_3_code 15 = .ok (.iload_n 2, 1) := by decide +kernel
theorem d26_16 : decode jdk_68_method_3_code 16 = .ok (.bipush 16, 2) := by decide +kernel
theorem d26_18 : decode jdk_68_method_3_code 18 = .ok (.iadd, 1) := by decide +kernel
theorem d26_19 : decode jdk_68_method_3_code 19 = .ok (.goto 5, 3) := by decide +kernel
theorem d26_24 : decode jdk_68_method_3_code 24 = .ok (.istore_n 3, 1) := by decide +kernel
theorem d26_25 : decode jdk_68_method_3_code 25 = .ok (.aload_n 1, 1) := by decide +kernel
theorem d26_26 : decode jdk_68_method_3_code 26 = .ok (.invokevirtual 40, 3) := by decide +kernel
theorem d26_29 : decode jdk_68_method_3_code 29 = .ok (.istore 4, 2) := by decide +kernel
theorem d26_31 : decode jdk_68_method_3_code 31 = .ok (.aload_n 0, 1) := by decide +kernel
theorem d26_32 : decode jdk_68_method_3_code 32 = .ok (.iload 4, 2) := by decide +kernel
theorem d26_34 : decode jdk_68_method_3_code 34 = .ok (.putfield 22, 3) := by decide +kernel
theorem d26_37 : decode jdk_68_method_3_code 37 = .ok (.aload_n 0, 1) := by decide +kernel
theorem d26_38 : decode jdk_68_method_3_code 38 = .ok (.iload 4, 2) := by decide +kernel
theorem d26_40 : decode jdk_68_method_3_code 40 = .ok (.ifCond .ne 9, 3) := by decide +kernel
theorem d26_43 : decode jdk_68_method_3_code 43 = .ok (.iload_n 3, 1) := by decide +kernel
theorem d26_44 : decode jdk_68_method_3_code 44 = .ok (.newarray .byte, 2) := by decide +kernel
theorem d26_46 : decode jdk_68_method_3_code 46 = .ok (.goto 7, 3) := by decide +kernel
theorem d26_53 : decode jdk_68_method_3_code 53 = .ok (.putfield 15, 3) := by decide +kernel
theorem d26_56 : decode jdk_68_method_3_code 56 = .ok (.aload_n 0, 1) := by decide +kernel
theorem d26_57 : decode jdk_68_method_3_code 57 = .ok (.aload_n 1, 1) := by decide +kernel
theorem d26_58 : decode jdk_68_method_3_code 58 = .ok (.invokevirtual 43, 3) := by decide +kernel
theorem d26_61 : decode jdk_68_method_3_code 61 = .ok (.pop, 1) := by decide +kernel
theorem d26_62 : decode jdk_68_method_3_code 62 = .ok (.return_, 1) := by decide +kernel
theorem ef_27 (m : MethodId) (x0 : Nat) (x1 : Nat) : entryFrame m #[(.ref x0), (.ref x1)] 5 = mkF m 0 #[.val (.ref x0), .val (.ref x1), .unset, .unset, .unset] [] := by first | (simp [entryFrame, mkF, argsToLocals, Value.category]; done) | rfl
set_option maxRecDepth 65536 in
set_option maxHeartbeats 40000000 in
theorem met_asi (l : Launch) (Z : State) (a0 : Array Value) (hw : ∀ d ∈ tables_1, d.before a0 Z = true) (EL : List (String × Nat)) (hEL : EW Z a0 EL) (n0 bk : Nat) (h0 : Heap) (hz0 : Z.heap.size ≤ n0) (hn0 : n0 ≤ h0.size) (sb : Nat) (a : Nat) (ba : Nat) (ds : List Int32) (z0 : Int32) (x1 : Exa Z h0 sb "java/lang/StringBuilder") (fv : Fld Z h0 sb "java/lang/AbstractStringBuilder" "value" "[B" .null) (fc : Fld Z h0 sb "java/lang/AbstractStringBuilder" "coder" "B" (.int (0 : Int32))) (fn : Fld Z h0 sb "java/lang/AbstractStringBuilder" "count" "I" (.int (0 : Int32))) (hns : n0 ≤ sb) (Sa : Str Z h0 ba a ds) (hd2 : ds.length ≤ 2) (hbk : bk ≤ h0.size) (hba : ba ≤ sb) (SC : Sta Z Z.heap "java/lang/String" "COMPACT_STRINGS" "Z" (.int z0)) (hzc : ¬ z0 = 0) : Met l Z EL (⟨"java/lang/AbstractStringBuilder", "<init>", "(Ljava/lang/String;)V"⟩ : MethodName) jdk_68_method_3_code 5 none [] ({ frames := 6, cells := 1, slots := 18, locals := 87 } : Room) #[(.ref sb), (.ref a)] n0 bk h0 (fun _ => bk) (fun v h => ∃ t, v = none ∧ h0.size ≤ t ∧ SB Z h sb t (ds.length + 16) ds ∧ OKp (fun x => x ≠ sb ∧ x < h0.size) h0 h) := by
  refine Met.intro (plainFor_of_name pn_4) (fun m => ef_27 m sb a) hz0 hEL ?_
  intro p e s m below meth c C
  have Xs := Sa.exa
  have l1 : (_ : Nat) < _ := x1.lt
  refine C.aloadN 1 d26_0 rfl rfl ?_
  refine C.objInit (W := 0) 4 d26_1 (hw _ (List.mem_of_getElem? (i := 65) rfl)) (hw _ (List.mem_of_getElem? (i := 20) rfl)) (hw _ (List.mem_of_getElem? (i := 21) rfl)) rfl (by decide) (Nat.le_of_eq rfl) (by decide) ?_
  refine C.aloadN 5 d26_4 rfl rfl ?_
  refine C.callV (b := h0.size) 8 [] [] d26_5 (met_len l Z a0 hw EL hEL h0.size bk h0 (by omega) (by omega) a ba ds z0 Sa SC hzc) Xs (by omega) (Or.inl (Nat.le_refl _)) (hw _ (List.mem_of_getElem? (i := 66) rfl)) (hw _ (List.mem_of_getElem? (i := 67) rfl)) (hw _ (List.mem_of_getElem? (i := 69) rfl)) (hw _ (List.mem_of_getElem? (i := 68) rfl)) (hw _ (List.mem_of_getElem? (i := 2) rfl)) (hw _ (List.mem_of_getElem? (i := 70) rfl)) (fun hZ => notFace_of_selects (args := #[]) (mvT hZ (hw _ (List.mem_of_getElem? (i := 69) rfl)))) (by decide) rfl (lenOf pd___rI rfl) (by decide) (W := 0) (Nat.le_of_eq rfl) (by decide) (by decide) (by decide) rfl ?_
  rintro _ h5_2 K5_2 ⟨rfl, rfl⟩
  refine C.istoreN 9 (L' := #[.val (.ref sb), .val (.ref a), .val (.int (Int32.ofNat ds.length)), .unset, .unset]) d26_8 rfl ?_
  refine C.iloadN 10 d26_9 rfl ?_
  refine C.ldcI 12 d26_10 (hw _ (List.mem_of_getElem? (i := 76) rfl)) ?_
  refine C.icN 15 d26_12 rfl (XT.ii_ge_f (show (Int32.ofNat ds.length) < (2147483631 : Int32) from ((own_ofNat (show ds.length < 2147483648 by omega) (show 2147483631 < 2147483648 by decide)).2.mpr (by omega)))) ?_
  refine C.iloadN 16 d26_15 rfl ?_
  refine C.bipush 18 (16 : Int32) d26_16 (by decide) ?_
  refine C.iadd 19 d26_18 ?_
  refine C.goto 24 d26_19 (by decide) (by decide) ?_
  refine C.istoreN 25 (L' := #[.val (.ref sb), .val (.ref a), .val (.int (Int32.ofNat ds.length)), .val (.int ((Int32.ofNat ds.length) + (16 : Int32))), .unset]) d26_24 rfl ?_
  refine C.aloadN 26 d26_25 rfl rfl ?_
  refine C.callV (b := h0.size) 29 [] [] d26_26 (met_coder l Z a0 hw EL hEL h0.size bk h0 (by omega) (by omega) a ba ds z0 Sa SC hzc) Xs (by omega) (Or.inl (Nat.le_refl _)) (hw _ (List.mem_of_getElem? (i := 77) rfl)) (hw _ (List.mem_of_getElem? (i := 72) rfl)) (hw _ (List.mem_of_getElem? (i := 74) rfl)) (hw _ (List.mem_of_getElem? (i := 73) rfl)) (hw _ (List.mem_of_getElem? (i := 2) rfl)) (hw _ (List.mem_of_getElem? (i := 75) rfl)) (fun hZ => notFace_of_selects (args := #[]) (mvT hZ (hw _ (List.mem_of_getElem? (i := 74) rfl)))) (by decide) rfl (lenOf pd___rB rfl) (by decide) (W := 0) (Nat.le_of_eq rfl) (by decide) (by decide) (by decide) rfl ?_
  rintro _ h26_4 K26_4 ⟨rfl, rfl⟩
  refine C.istore 31 (L' := #[.val (.ref sb), .val (.ref a), .val (.int (Int32.ofNat ds.length)), .val (.int ((Int32.ofNat ds.length) + (16 : Int32))), .val (.int (0 : Int32))]) d26_29 rfl ?_
  refine C.aloadN 32 d26_31 rfl rfl ?_
  refine C.iload 34 d26_32 rfl ?_
  refine C.putf (ty := .byte) 37 d26_34 (hw _ (List.mem_of_getElem? (i := 78) rfl)) Via.refl fc x1 (Or.inl (hw _ (List.mem_of_getElem? (i := 79) rfl))) (hw _ (List.mem_of_getElem? (i := 54) rfl)) (by decide) rfl rfl (by omega) (Or.inr (Or.inl ⟨_, x1, by decide, by decide⟩)) ?_
  intro h1 W1
  have sz_h1 : h0.size ≤ h1.size := (Nat.le_of_eq W1.size.symm)
  replace fv := fv.other W1 (Or.inr (slot_ne (t := (.array .byte)) (t' := .byte) (Or.inl (hw _ (List.mem_of_getElem? (i := 81) rfl))) (Or.inl (hw _ (List.mem_of_getElem? (i := 79) rfl))) (by decide) (by decide) (by decide)))
  replace fn := fn.other W1 (Or.inr (slot_ne (t := .int) (t' := .byte) (Or.inl (hw _ (List.mem_of_getElem? (i := 97) rfl))) (Or.inl (hw _ (List.mem_of_getElem? (i := 79) rfl))) (by decide) (by decide) (by decide)))
  replace fc := fc.same W1
  replace x1 := x1.wr W1
  replace Sa := Sa.wr W1 (by first | omega | (dsimp only; omega))
  refine C.aloadN 38 d26_37 rfl rfl ?_
  refine C.iload 40 d26_38 rfl ?_
  refine C.ifN 43 d26_40 rfl (XT.i0_ne_f (show (0 : Int32) = 0 from rfl)) ?_
  refine C.iloadN 44 d26_43 rfl ?_
  refine C.newarr (zn := (ds.length + 16)) (cap := 18) 46 d26_44 (hw _ (List.mem_of_getElem? (i := 14) rfl)) (own_addn ds.length 16) (by omega) (by decide) rfl (by decide) (by decide) (by decide) ?_
  intro t h2 g_t E2 R_t
  replace R_t : Ar Z h2 t .byte (List.replicate (ds.length + 16) 0) := R_t
  have lt_t : t < h2.size := R_t.lt
  have sz_h2 : h1.size ≤ h2.size := E2.1
  replace x1 := x1.ext E2
  replace fv := fv.ext E2
  replace fc := fc.ext E2
  replace fn := fn.ext E2
  replace Sa := Sa.ext E2
  refine C.goto 53 d26_46 (by decide) (by decide) ?_
  refine C.putf (ty := (.array .byte)) 56 d26_53 (hw _ (List.mem_of_getElem? (i := 80) rfl)) Via.refl fv x1 (Or.inl (hw _ (List.mem_of_getElem? (i := 81) rfl))) (hw _ (List.mem_of_getElem? (i := 54) rfl)) (by decide) rfl rfl (by omega) (Or.inr (Or.inl ⟨_, x1, by decide, by decide⟩)) ?_
  intro h3 W3
  have sz_h3 : h2.size ≤ h3.size := (Nat.le_of_eq W3.size.symm)
  replace fc := fc.other W3 (Or.inr (slot_ne (t := .byte) (t' := (.array .byte)) (Or.inl (hw _ (List.mem_of_getElem? (i := 79) rfl))) (Or.inl (hw _ (List.mem_of_getElem? (i := 81) rfl))) (by decide) (by decide) (by decide)))
  replace fn := fn.other W3 (Or.inr (slot_ne (t := .int) (t' := (.array .byte)) (Or.inl (hw _ (List.mem_of_getElem? (i := 97) rfl))) (Or.inl (hw _ (List.mem_of_getElem? (i := 81) rfl))) (by decide) (by decide) (by decide)))
  replace fv := fv.same W3
  replace x1 := x1.wr W3
  replace Sa := Sa.wr W3 (by first | omega | (dsimp only; omega))
  replace R_t := R_t.other W3 (by first | omega | (dsimp only; omega))
  refine C.aloadN 57 d26_56 rfl rfl ?_
  refine C.aloadN 58 d26_57 rfl rfl ?_
  refine C.callV (b := n0) 61 [(.ref a)] [] d26_58 (met_sbb l Z a0 hw EL hEL n0 bk h3 (by omega) (by omega) sb t (ds.length + 16) [] a ba ds z0 ⟨x1, fv, fc, fn, by simpa using R_t, Nat.zero_le _, fun x hx => nomatch hx⟩ Sa (by simp) (by omega) (by omega) (by omega) (by omega) SC hzc) x1 (by omega) (Or.inl (Nat.le_refl _)) (hw _ (List.mem_of_getElem? (i := 82) rfl)) (hw _ (List.mem_of_getElem? (i := 83) rfl)) (hw _ (List.mem_of_getElem? (i := 85) rfl)) (hw _ (List.mem_of_getElem? (i := 86) rfl)) (hw _ (List.mem_of_getElem? (i := 55) rfl)) (hw _ (List.mem_of_getElem? (i := 87) rfl)) (fun hZ => own_nf (a1 := #[]) (mvT hZ (hw _ (List.mem_of_getElem? (i := 101) rfl))) rfl) (by decide) rfl (lenOf pd__Ljava_lang_String_rLjava_lang_AbstractStringBuilder rfl) (by decide) (W := 0) (Nat.le_of_eq rfl) (by decide) (by decide) (by decide) rfl ?_
  rintro _ h4 K4 ⟨rfl, B2, Kq⟩
  have sz_h4 : h3.size ≤ h4.size := Kq.1
  refine C.pop 62 d26_61 rfl ?_
  refine C.retV rfl d26_62 (by decide) (by decide) (Or.inl (Nat.le_refl _)) ?_
  exact ⟨t, rfl, by omega, by simpa using B2, ((OKp.ofWr W1).weak (fun x q => q.1)).trans ((OKp.ofExt E2).trans (((OKp.ofWr W3).weak (fun x q => q.1)).trans (Kq.weak (fun x q => ⟨q.1, by have := q.2; omega⟩))))⟩
theorem d27_0 : decode jdk_67_method_3_code 0 = .ok (.aload_n 0, 1) := by decide +kernel
theorem d27_1 : decode jdk_67_method_3_code 1 = .ok (.aload_n 1, 1) := by decide +kernel
theorem d27_2 : decode jdk_67_method_3_code 2 = .ok (.invokespecial 7, 3) := by decide +kernel
theorem d27_5 : decode jdk_67_method_3_code 5 = .ok (.return_, 1) := by decide +kernel
theorem ef_28 (m : MethodId) (x0 : Nat) (x1 : Nat) : entryFrame m #[(.ref x0), (.ref x1)] 2 = mkF m 0 #[.val (.ref x0), .val (.ref x1)] [] := by first | (simp [entryFrame, mkF, argsToLocals, Value.category]; done) | rfl
set_option maxRecDepth 65536 in
set_option maxHeartbeats 40000000 in
theorem met_sbi (l : Launch) (Z : State) (a0 : Array Value) (hw : ∀ d ∈ tables_1, d.before a0 Z = true) (EL : List (String × Nat)) (hEL : EW Z a0 EL) (n0 bk : Nat) (h0 : Heap) (hz0 : Z.heap.size ≤ n0) (hn0 : n0 ≤ h0.size) (sb : Nat) (a : Nat) (ba : Nat) (ds : List Int32) (z0 : Int32) (x1 : Exa Z h0 sb "java/lang/StringBuilder") (fv : Fld Z h0 sb "java/lang/AbstractStringBuilder" "value" "[B" .null) (fc : Fld Z h0 sb "java/lang/AbstractStringBuilder" "coder" "B" (.int (0 : Int32))) (fn : Fld Z h0 sb "java/lang/AbstractStringBuilder" "count" "I" (.int (0 : Int32))) (hns : n0 ≤ sb) (Sa : Str Z h0 ba a ds) (hd2 : ds.length ≤ 2) (hbk : bk ≤ h0.size) (hba : ba ≤ sb) (SC : Sta Z Z.heap "java/lang/String" "COMPACT_STRINGS" "Z" (.int z0)) (hzc : ¬ z0 = 0) : Met l Z EL (⟨"java/lang/StringBuilder", "<init>", "(Ljava/lang/String;)V"⟩ : MethodName) jdk_67_method_3_code 2 none [] ({ frames := 7, cells := 1, slots := 18, locals := 103 } : Room) #[(.ref sb), (.ref a)] n0 bk h0 (fun _ => bk) (fun v h => ∃ t, v = none ∧ h0.size ≤ t ∧ SB Z h sb t (ds.length + 16) ds ∧ OKp (fun x => x ≠ sb ∧ x < h0.size) h0 h) := by
  refine Met.intro (plainFor_of_name pn_5) (fun m => ef_28 m sb a) hz0 hEL ?_
  intro p e s m below meth c C
  refine C.aloadN 1 d27_0 rfl rfl ?_
  refine C.aloadN 2 d27_1 rfl rfl ?_
  refine C.callI (b := n0) 5 [(.ref a)] [] d27_2 (met_asi l Z a0 hw EL hEL n0 bk h0 (by omega) (by omega) sb a ba ds z0 x1 fv fc fn hns Sa hd2 hbk hba SC hzc) rfl (by omega) (Or.inl (Nat.le_refl _)) (hw _ (List.mem_of_getElem? (i := 59) rfl)) (hw _ (List.mem_of_getElem? (i := 60) rfl)) (hw _ (List.mem_of_getElem? (i := 63) rfl)) (hw _ (List.mem_of_getElem? (i := 64) rfl)) (by decide) rfl (lenOf pd__Ljava_lang_String_rV rfl) (by decide) (W := 0) (Nat.le_of_eq rfl) (by decide) (by decide) (by decide) rfl ?_
  rintro _ h1 K1 ⟨t, rfl, g1, B2, Kq⟩
  have sz_h1 : h0.size ≤ h1.size := K1.1
  refine C.retV rfl d27_5 (by decide) (by decide) (Or.inl (Nat.le_refl _)) ?_
  exact ⟨t, rfl, g1, B2, Kq⟩
theorem d28_0 : decode jdk_68_method_64_code 0 = .ok (.aload_n 0, 1) := by decide +kernel
theorem d28_1 : decode jdk_68_method_64_code 1 = .ok (.getfield 15, 3) := by decide +kernel
theorem d28_4 : decode jdk_68_method_64_code 4 = .ok (.areturn, 1) := by decide +kernel
theorem ef_29 (m : MethodId) (x0 : Nat) : entryFrame m #[(.ref x0)] 1 = mkF m 0 #[.val (.ref x0)] [] := by first | (simp [entryFrame, mkF, argsToLocals, Value.category]; done) | rfl
set_option maxRecDepth 65536 in
set_option maxHeartbeats 40000000 in
theorem met_gv (l : Launch) (Z : State) (a0 : Array Value) (hw : ∀ d ∈ tables_1, d.before a0 Z = true) (EL : List (String × Nat)) (hEL : EW Z a0 EL) (n0 bk : Nat) (h0 : Heap) (hz0 : Z.heap.size ≤ n0) (hn0 : n0 ≤ h0.size) (sb : Nat) (t : Nat) (cap : Nat) (cs : List Int32) (B : SB Z h0 sb t cap cs) : Met l Z EL (⟨"java/lang/AbstractStringBuilder", "getValue", "()[B"⟩ : MethodName) jdk_68_method_64_code 1 (some (.array .byte)) [] ({ frames := 0, cells := 0, slots := 0, locals := 0 } : Room) #[(.ref sb)] n0 bk h0 (fun _ => bk) (fun v h => v = some (.ref t) ∧ h0 = h) := by
  refine Met.intro (plainFor_of_name pn_4) (fun m => ef_29 m sb) hz0 hEL ?_
  intro p e s m below meth c C
  have B0 := B
  obtain ⟨x1, fv, fc, fn, ra, hcap, hrg⟩ := B
  have hcp : cap < 2147483648 := by have q := own_arlen ra; rw [own_sblen hcap] at q; exact q
  refine C.aloadN 1 d28_0 rfl rfl ?_
  refine C.getf 4 d28_1 (hw _ (List.mem_of_getElem? (i := 80) rfl)) Via.refl fv ?_
  refine C.retA rfl rfl d28_4 rfl (by decide) (by decide) (Or.inl (Nat.le_refl _)) ?_
  exact ⟨rfl, rfl⟩
theorem d29_0 : decode jdk_68_method_6_code 0 = .ok (.aload_n 0, 1) := by decide +kernel
theorem d29_1 : decode jdk_68_method_6_code 1 = .ok (.getfield 79, 3) := by decide +kernel
theorem d29_4 : decode jdk_68_method_6_code 4 = .ok (.ireturn, 1) := by decide +kernel
theorem ef_30 (m : MethodId) (x0 : Nat) : entryFrame m #[(.ref x0)] 1 = mkF m 0 #[.val (.ref x0)] [] := by first | (simp [entryFrame, mkF, argsToLocals, Value.category]; done) | rfl
set_option maxRecDepth 65536 in
set_option maxHeartbeats 40000000 in
theorem met_al (l : Launch) (Z : State) (a0 : Array Value) (hw : ∀ d ∈ tables_1, d.before a0 Z = true) (EL : List (String × Nat)) (hEL : EW Z a0 EL) (n0 bk : Nat) (h0 : Heap) (hz0 : Z.heap.size ≤ n0) (hn0 : n0 ≤ h0.size) (sb : Nat) (t : Nat) (cap : Nat) (cs : List Int32) (B : SB Z h0 sb t cap cs) : Met l Z EL (⟨"java/lang/AbstractStringBuilder", "length", "()I"⟩ : MethodName) jdk_68_method_6_code 1 (some .int) [] ({ frames := 0, cells := 0, slots := 0, locals := 0 } : Room) #[(.ref sb)] n0 bk h0 (fun _ => bk) (fun v h => v = some (.int (Int32.ofNat cs.length)) ∧ h0 = h) := by
  refine Met.intro (plainFor_of_name pn_4) (fun m => ef_30 m sb) hz0 hEL ?_
  intro p e s m below meth c C
  have B0 := B
  obtain ⟨x1, fv, fc, fn, ra, hcap, hrg⟩ := B
  have hcp : cap < 2147483648 := by have q := own_arlen ra; rw [own_sblen hcap] at q; exact q
  refine C.aloadN 1 d29_0 rfl rfl ?_
  refine C.getf 4 d29_1 (hw _ (List.mem_of_getElem? (i := 96) rfl)) Via.refl fn ?_
  refine C.retI rfl d29_4 (by decide) (by decide) (Or.inl (Nat.le_refl _)) ?_
  exact ⟨rfl, rfl⟩
theorem d30_0 : decode jdk_67_method_93_code 0 = .ok (.aload_n 0, 1) := by decide +kernel
theorem d30_1 : decode jdk_67_method_93_code 1 = .ok (.invokespecial 343, 3) := by decide +kernel
theorem d30_4 : decode jdk_67_method_93_code 4 = .ok (.ireturn, 1) := by decide +kernel
theorem ef_31 (m : MethodId) (x0 : Nat) : entryFrame m #[(.ref x0)] 1 = mkF m 0 #[.val (.ref x0)] [] := by first | (simp [entryFrame, mkF, argsToLocals, Value.category]; done) | rfl
set_option maxRecDepth 65536 in
set_option maxHeartbeats 40000000 in
theorem met_sl (l : Launch) (Z : State) (a0 : Array Value) (hw : ∀ d ∈ tables_1, d.before a0 Z = true) (EL : List (String × Nat)) (hEL : EW Z a0 EL) (n0 bk : Nat) (h0 : Heap) (hz0 : Z.heap.size ≤ n0) (hn0 : n0 ≤ h0.size) (sb : Nat) (t : Nat) (cap : Nat) (cs : List Int32) (B : SB Z h0 sb t cap cs) : Met l Z EL (⟨"java/lang/StringBuilder", "length", "()I"⟩ : MethodName) jdk_67_method_93_code 1 (some .int) [] ({ frames := 1, cells := 0, slots := 0, locals := 12 } : Room) #[(.ref sb)] n0 bk h0 (fun _ => bk) (fun v h => v = some (.int (Int32.ofNat cs.length)) ∧ h0 = h) := by
  refine Met.intro (plainFor_of_name pn_5) (fun m => ef_31 m sb) hz0 hEL ?_
  intro p e s m below meth c C
  have x1 := B.1
  refine C.aloadN 1 d30_0 rfl rfl ?_
  refine C.callU (b := n0) 4 [] [] d30_1 (met_al l Z a0 hw EL hEL n0 bk h0 (by omega) (by omega) sb t cap cs B) (Ins.self x1) (by decide) (by omega) (Or.inl (Nat.le_refl _)) (hw _ (List.mem_of_getElem? (i := 151) rfl)) (own_same (y := (⟨"java/lang/AbstractStringBuilder", "length", "()I"⟩ : MethodName)) (hw _ (List.mem_of_getElem? (i := 146) rfl)) (hw _ (List.mem_of_getElem? (i := 101) rfl)) rfl (by decide)) (hw _ (List.mem_of_getElem? (i := 94) rfl)) (hw _ (List.mem_of_getElem? (i := 147) rfl)) (hw _ (List.mem_of_getElem? (i := 63) rfl)) (hw _ (List.mem_of_getElem? (i := 152) rfl)) rfl (lenOf pd___rI rfl) (by decide) (W := 0) (Nat.le_of_eq rfl) (by decide) (by decide) (by decide) rfl ?_
  rintro _ h1_1 K1_1 ⟨rfl, rfl⟩
  refine C.retI rfl d30_4 (by decide) (by decide) (Or.inl (Nat.le_refl _)) ?_
  exact ⟨rfl, rfl⟩
theorem d31_0 : decode jdk_29_method_69_code 0 = .ok (.iload_n 0, 1) := by decide +kernel
theorem d31_1 : decode jdk_29_method_69_code 1 = .ok (.iload_n 1, 1) := by decide +kernel
theorem d31_2 : decode jdk_29_method_69_code 2 = .ok (.if_icmp .gt 7, 3) := by decide +kernel
theorem d31_5 : decode jdk_29_method_69_code 5 = .ok (.iload_n 0, 1) := by decide +kernel
theorem d31_6 : decode jdk_29_method_69_code 6 = .ok (.goto 4, 3) := by decide +kernel
theorem d31_9 : decode jdk_29_method_69_code 9 = .ok (.iload_n 1, 1) := by decide +kernel
theorem d31_10 : decode jdk_29_method_69_code 10 = .ok (.ireturn, 1) := by decide +kernel
theorem ef_32 (m : MethodId) (x0 : Int32) (x1 : Int32) : entryFrame m #[(.int x0), (.int x1)] 2 = mkF m 0 #[.val (.int x0), .val (.int x1)] [] := by first | (simp [entryFrame, mkF, argsToLocals, Value.category]; done) | rfl
set_option maxRecDepth 65536 in
set_option maxHeartbeats 40000000 in
theorem met_min (l : Launch) (Z : State) (a0 : Array Value) (hw : ∀ d ∈ tables_1, d.before a0 Z = true) (EL : List (String × Nat)) (hEL : EW Z a0 EL) (n0 bk : Nat) (h0 : Heap) (hz0 : Z.heap.size ≤ n0) (hn0 : n0 ≤ h0.size) (x : Int32) (y : Int32) : Met l Z EL (⟨"java/lang/Math", "min", "(II)I"⟩ : MethodName) jdk_29_method_69_code 2 (some .int) [] ({ frames := 0, cells := 0, slots := 0, locals := 0 } : Room) #[(.int x), (.int y)] n0 bk h0 (fun _ => bk) (fun v h => v = some (.int (if y < x then y else x)) ∧ h0 = h) := by
  refine Met.intro ((by decide +kernel)) (fun m => ef_32 m x y) hz0 hEL ?_
  intro p e s m below meth c C
  refine C.iloadN 1 d31_0 rfl ?_
  refine C.iloadN 2 d31_1 rfl ?_
  rcases Decidable.em (y < x) with h2 | h2
  · skip
    refine C.icY 9 d31_2 (by decide) (by decide) (XT.ii_gt_t h2) ?_
    refine C.iloadN 10 d31_9 rfl ?_
    refine C.retI rfl d31_10 (by decide) (by decide) (Or.inl (Nat.le_refl _)) ?_
    exact ⟨by rw [if_pos h2], rfl⟩
  · skip
    refine C.icN 5 d31_2 rfl (XT.ii_gt_f h2) ?_
    refine C.iloadN 6 d31_5 rfl ?_
    refine C.goto 10 d31_6 (by decide) (by decide) ?_
    refine C.retI rfl d31_10 (by decide) (by decide) (Or.inl (Nat.le_refl _)) ?_
    exact ⟨by rw [if_neg h2], rfl⟩
theorem pn_6 : plainName "java/util/Arrays" = true := by first | (simp [plainName, overriddenIn]; done) | decide +kernel
theorem d32_0 : decode jdk_65_method_131_code 0 = .ok (.iload_n 1, 1) := by decide +kernel
theorem d32_1 : decode jdk_65_method_131_code 1 = .ok (.iload_n 0, 1) := by decide +kernel
theorem d32_2 : decode jdk_65_method_131_code 2 = .ok (.if_icmp .ge 35, 3) := by decide +kernel
theorem d32_37 : decode jdk_65_method_131_code 37 = .ok (.return_, 1) := by decide +kernel
theorem ef_33 (m : MethodId) (x0 : Int32) (x1 : Int32) : entryFrame m #[(.int x0), (.int x1)] 2 = mkF m 0 #[.val (.int x0), .val (.int x1)] [] := by first | (simp [entryFrame, mkF, argsToLocals, Value.category]; done) | rfl
set_option maxRecDepth 65536 in
set_option maxHeartbeats 40000000 in
theorem met_ckl (l : Launch) (Z : State) (a0 : Array Value) (hw : ∀ d ∈ tables_1, d.before a0 Z = true) (EL : List (String × Nat)) (hEL : EW Z a0 EL) (n0 bk : Nat) (h0 : Heap) (hz0 : Z.heap.size ≤ n0) (hn0 : n0 ≤ h0.size) (x : Int32) (y : Int32) (q : ¬ y < x) : Met l Z EL (⟨"java/util/Arrays", "checkLength", "(II)V"⟩ : MethodName) jdk_65_method_131_code 2 none [] ({ frames := 0, cells := 0, slots := 0, locals := 0 } : Room) #[(.int x), (.int y)] n0 bk h0 (fun _ => bk) (fun v h => v = none ∧ h0 = h) := by
  refine Met.intro (plainFor_of_name pn_6) (fun m => ef_33 m x y) hz0 hEL ?_
  intro p e s m below meth c C
  refine C.iloadN 1 d32_0 rfl ?_
  refine C.iloadN 2 d32_1 rfl ?_
  refine C.icY 37 d32_2 (by decide) (by decide) (XT.ii_ge_t (show ¬ (y < x) from q)) ?_
  refine C.retV rfl d32_37 (by decide) (by decide) (Or.inl (Nat.le_refl _)) ?_
  exact ⟨rfl, rfl⟩
theorem pd__II_rI : parseMethodDescriptor "(II)I" = some ⟨[.int, .int], some .int⟩ := by decide +kernel
theorem d33_0 : decode jdk_65_method_133_code 0 = .ok (.iload_n 1, 1) := by decide +kernel
theorem d33_1 : decode jdk_65_method_133_code 1 = .ok (.iload_n 2, 1) := by decide +kernel
theorem d33_2 : decode jdk_65_method_133_code 2 = .ok (.invokestatic 343, 3) := by decide +kernel
theorem d33_5 : decode jdk_65_method_133_code 5 = .ok (.iload_n 2, 1) := by decide +kernel
theorem d33_6 : decode jdk_65_method_133_code 6 = .ok (.iload_n 1, 1) := by decide +kernel
theorem d33_7 : decode jdk_65_method_133_code 7 = .ok (.isub, 1) := by decide +kernel
theorem d33_8 : decode jdk_65_method_133_code 8 = .ok (.istore_n 3, 1) := by decide +kernel
theorem d33_9 : decode jdk_65_method_133_code 9 = .ok (.iload_n 3, 1) := by decide +kernel
theorem d33_10 : decode jdk_65_method_133_code 10 = .ok (.newarray .byte, 2) := by decide +kernel
theorem d33_12 : decode jdk_65_method_133_code 12 = .ok (.astore 4, 2) := by decide +kernel
theorem d33_14 : decode jdk_65_method_133_code 14 = .ok (.aload_n 0, 1) := by decide +kernel
theorem d33_15 : decode jdk_65_method_133_code 15 = .ok (.iload_n 1, 1) := by decide +kernel
theorem d33_16 : decode jdk_65_method_133_code 16 = .ok (.aload 4, 2) := by decide +kernel
theorem d33_18 : decode jdk_65_method_133_code 18 = .ok (.iconst 0, 1) := by decide +kernel
theorem d33_19 : decode jdk_65_method_133_code 19 = .ok (.aload_n 0, 1) := by decide +kernel
theorem d33_20 : decode jdk_65_method_133_code 20 = .ok (.arraylength, 1) := by decide +kernel
theorem d33_21 : decode jdk_65_method_133_code 21 = .ok (.iload_n 1, 1) := by decide +kernel
theorem d33_22 : decode jdk_65_method_133_code 22 = .ok (.isub, 1) := by decide +kernel
theorem d33_23 : decode jdk_65_method_133_code 23 = .ok (.iload_n 3, 1) := by decide +kernel
theorem d33_24 : decode jdk_65_method_133_code 24 = .ok (.invokestatic 304, 3) := by decide +kernel
theorem d33_27 : decode jdk_65_method_133_code 27 = .ok (.invokestatic 150, 3) := by decide +kernel
theorem d33_30 : decode jdk_65_method_133_code 30 = .ok (.aload 4, 2) := by decide +kernel
theorem d33_32 : decode jdk_65_method_133_code 32 = .ok (.areturn, 1) := by decide +kernel
theorem ef_34 (m : MethodId) (x0 : Nat) (x1 : Int32) (x2 : Int32) : entryFrame m #[(.ref x0), (.int x1), (.int x2)] 5 = mkF m 0 #[.val (.ref x0), .val (.int x1), .val (.int x2), .unset, .unset] [] := by first | (simp [entryFrame, mkF, argsToLocals, Value.category]; done) | rfl
set_option maxRecDepth 65536 in
set_option maxHeartbeats 40000000 in
theorem met_corb (l : Launch) (Z : State) (a0 : Array Value) (hw : ∀ d ∈ tables_1, d.before a0 Z = true) (EL : List (String × Nat)) (hEL : EW Z a0 EL) (n0 bk : Nat) (h0 : Heap) (hz0 : Z.heap.size ≤ n0) (hn0 : n0 ≤ h0.size) (t : Nat) (xs : List Int32) (i : Nat) (R : Ar Z h0 t .byte xs) (hi : i ≤ xs.length) (hc : i ≤ 10) (hbk : bk ≤ h0.size) : Met l Z EL (⟨"java/util/Arrays", "copyOfRangeByte", "([BII)[B"⟩ : MethodName) jdk_65_method_133_code 5 (some (.array .byte)) [] ({ frames := 1, cells := 1, slots := 10, locals := 18 } : Room) #[(.ref t), (.int (0 : Int32)), (.int (Int32.ofNat i))] n0 bk h0 (fun _ => bk) (fun v h => ∃ u, v = some (.ref u) ∧ h0.size ≤ u ∧ Ar Z h u .byte (xs.take i)) := by
  refine Met.intro (plainFor_of_name pn_6) (fun m => ef_34 m t (0 : Int32) (Int32.ofNat i)) hz0 hEL ?_
  intro p e s m below meth c C
  have lt : (_ : Nat) < _ := R.lt
  have lx := own_arlen R
  refine C.iloadN 1 d33_0 rfl ?_
  refine C.iloadN 2 d33_1 rfl ?_
  refine C.callS (b := h0.size) 5 [(.int (0 : Int32)), (.int (Int32.ofNat i))] [] d33_2 (met_ckl l Z a0 hw EL hEL h0.size bk h0 (by omega) (by omega) _ _ (own_len31 (show i < 2147483648 by omega) rfl).1) (by omega) (Or.inl (Nat.le_refl _)) (hw _ (List.mem_of_getElem? (i := 165) rfl)) (hw _ (List.mem_of_getElem? (i := 166) rfl)) (hw _ (List.mem_of_getElem? (i := 160) rfl)) (hw _ (List.mem_of_getElem? (i := 167) rfl)) (by decide) rfl (lenOf pd__II_rV rfl) (by decide) (W := 0) (Nat.le_of_eq rfl) (by decide) (by decide) (by decide) rfl ?_
  rintro _ h2_1 K2_1 ⟨rfl, rfl⟩
  refine C.iloadN 6 d33_5 rfl ?_
  refine C.iloadN 7 d33_6 rfl ?_
  refine C.isub 8 d33_7 ?_
  rw [Int32.sub_zero]
  refine C.istoreN 9 (L' := #[.val (.ref t), .val (.int (0 : Int32)), .val (.int (Int32.ofNat i)), .val (.int (Int32.ofNat i)), .unset]) d33_8 rfl ?_
  refine C.iloadN 10 d33_9 rfl ?_
  refine C.newarr (zn := i) (cap := 10) 12 d33_10 (hw _ (List.mem_of_getElem? (i := 14) rfl)) rfl hc (by decide) rfl (by decide) (by decide) (by decide) ?_
  intro u h1 g_u E1 R_u
  replace R_u : Ar Z h1 u .byte (List.replicate i 0) := R_u
  have lt_u : u < h1.size := R_u.lt
  have sz_h1 : h0.size ≤ h1.size := E1.1
  replace R := R.ext E1
  refine C.astore 14 (L' := #[.val (.ref t), .val (.int (0 : Int32)), .val (.int (Int32.ofNat i)), .val (.int (Int32.ofNat i)), .val (.ref u)]) d33_12 rfl rfl ?_
  refine C.aloadN 15 d33_14 rfl rfl ?_
  refine C.iloadN 16 d33_15 rfl ?_
  refine C.aload 18 d33_16 rfl rfl ?_
  refine C.iconst 19 (0 : Int32) d33_18 (by decide) ?_
  refine C.aloadN 20 d33_19 rfl rfl ?_
  refine C.alen 21 d33_20 R rfl ?_
  refine C.iloadN 22 d33_21 rfl ?_
  refine C.isub 23 d33_22 ?_
  rw [Int32.sub_zero]
  refine C.iloadN 24 d33_23 rfl ?_
  refine C.callS (b := h1.size) 27 [(.int (Int32.ofNat xs.length)), (.int (Int32.ofNat i))] [(.int (0 : Int32)), (.ref u), (.int (0 : Int32)), (.ref t)] d33_24 (met_min l Z a0 hw EL hEL h1.size bk h1 (by omega) (by omega) _ _) (by omega) (Or.inl (Nat.le_refl _)) (hw _ (List.mem_of_getElem? (i := 168) rfl)) (hw _ (List.mem_of_getElem? (i := 169) rfl)) (hw _ (List.mem_of_getElem? (i := 170) rfl)) (hw _ (List.mem_of_getElem? (i := 171) rfl)) (by decide) rfl (lenOf pd__II_rI rfl) (by decide) (W := 4) (Nat.le_of_eq rfl) (by decide) (by decide) (by decide) rfl ?_
  rintro _ h24_4 K24_4 ⟨rfl, rfl⟩
  rw [show (if Int32.ofNat i < Int32.ofNat xs.length then Int32.ofNat i else Int32.ofNat xs.length) = Int32.ofNat i by split; rfl; rename_i q; rw [(own_ofNat (by omega) lx).2] at q; rw [show xs.length = i by omega]]
  refine C.acopy (si := 0) (di := 0) (ni := i) (W := 0) 30 d33_27 (hw _ (List.mem_of_getElem? (i := 172) rfl)) (hw _ (List.mem_of_getElem? (i := 122) rfl)) (hw _ (List.mem_of_getElem? (i := 120) rfl)) (hw _ (List.mem_of_getElem? (i := 121) rfl)) R R_u rfl rfl rfl rfl (by omega) (by simp) (by omega) (Or.inl (by omega)) rfl (by decide) (Nat.le_of_eq rfl) (by decide) ?_
  intro h2 K2 N2
  have sz_h2 : h1.size ≤ h2.size := K2.1
  replace R := R.kp K2 (by first | omega | (dsimp only; omega))
  replace R_u : Ar Z h2 u .byte (xs.take i) := (by have q := N2; simpa using q)
  refine C.aload 32 d33_30 rfl rfl ?_
  refine C.retA rfl rfl d33_32 rfl (by decide) (by decide) (Or.inl (Nat.le_refl _)) ?_
  exact ⟨u, rfl, by omega, R_u⟩
theorem pd__ABII_rAB : parseMethodDescriptor "([BII)[B" = some ⟨[(.array .byte), .int, .int], some (.array .byte)⟩ := by decide +kernel
theorem d34_0 : decode jdk_65_method_132_code 0 = .ok (.iload_n 1, 1) := by decide +kernel
theorem d34_1 : decode jdk_65_method_132_code 1 = .ok (.ifCond .ne 9, 3) := by decide +kernel
theorem d34_4 : decode jdk_65_method_132_code 4 = .ok (.iload_n 2, 1) := by decide +kernel
theorem d34_5 : decode jdk_65_method_132_code 5 = .ok (.aload_n 0, 1) := by decide +kernel
theorem d34_6 : decode jdk_65_method_132_code 6 = .ok (.arraylength, 1) := by decide +kernel
theorem d34_7 : decode jdk_65_method_132_code 7 = .ok (.if_icmp .eq 10, 3) := by decide +kernel
theorem d34_10 : decode jdk_65_method_132_code 10 = .ok (.aload_n 0, 1) := by decide +kernel
theorem d34_11 : decode jdk_65_method_132_code 11 = .ok (.iload_n 1, 1) := by decide +kernel
theorem d34_12 : decode jdk_65_method_132_code 12 = .ok (.iload_n 2, 1) := by decide +kernel
theorem d34_13 : decode jdk_65_method_132_code 13 = .ok (.invokestatic 339, 3) := by decide +kernel
theorem d34_16 : decode jdk_65_method_132_code 16 = .ok (.areturn, 1) := by decide +kernel
theorem ef_35 (m : MethodId) (x0 : Nat) (x1 : Int32) (x2 : Int32) : entryFrame m #[(.ref x0), (.int x1), (.int x2)] 3 = mkF m 0 #[.val (.ref x0), .val (.int x1), .val (.int x2)] [] := by first | (simp [entryFrame, mkF, argsToLocals, Value.category]; done) | rfl
set_option maxRecDepth 65536 in
set_option maxHeartbeats 40000000 in
theorem met_cor (l : Launch) (Z : State) (a0 : Array Value) (hw : ∀ d ∈ tables_1, d.before a0 Z = true) (EL : List (String × Nat)) (hEL : EW Z a0 EL) (n0 bk : Nat) (h0 : Heap) (hz0 : Z.heap.size ≤ n0) (hn0 : n0 ≤ h0.size) (t : Nat) (xs : List Int32) (i : Nat) (R : Ar Z h0 t .byte xs) (hi : i < xs.length) (hc : i ≤ 10) (hbk : bk ≤ h0.size) : Met l Z EL (⟨"java/util/Arrays", "copyOfRange", "([BII)[B"⟩ : MethodName) jdk_65_method_132_code 3 (some (.array .byte)) [] ({ frames := 2, cells := 1, slots := 10, locals := 34 } : Room) #[(.ref t), (.int (0 : Int32)), (.int (Int32.ofNat i))] n0 bk h0 (fun _ => bk) (fun v h => ∃ u, v = some (.ref u) ∧ h0.size ≤ u ∧ Ar Z h u .byte (xs.take i)) := by
  refine Met.intro (plainFor_of_name pn_6) (fun m => ef_35 m t (0 : Int32) (Int32.ofNat i)) hz0 hEL ?_
  intro p e s m below meth c C
  have lx := own_arlen R
  refine C.iloadN 1 d34_0 rfl ?_
  refine C.ifN 4 d34_1 rfl (XT.i0_ne_f (show (0 : Int32) = 0 from rfl)) ?_
  refine C.iloadN 5 d34_4 rfl ?_
  refine C.aloadN 6 d34_5 rfl rfl ?_
  refine C.alen 7 d34_6 R rfl ?_
  refine C.icN 10 d34_7 rfl (XT.ii_eq_f (show ¬ ((Int32.ofNat i) = (Int32.ofNat xs.length)) from (fun e => by have := (own_ofNat (by omega) lx).1.mp e; omega))) ?_
  refine C.aloadN 11 d34_10 rfl rfl ?_
  refine C.iloadN 12 d34_11 rfl ?_
  refine C.iloadN 13 d34_12 rfl ?_
  refine C.callS (b := n0) 16 [(.ref t), (.int (0 : Int32)), (.int (Int32.ofNat i))] [] d34_13 (met_corb l Z a0 hw EL hEL n0 bk h0 (by omega) (by omega) t xs i R (by omega) hc hbk) (by omega) (Or.inl (Nat.le_refl _)) (hw _ (List.mem_of_getElem? (i := 162) rfl)) (hw _ (List.mem_of_getElem? (i := 163) rfl)) (hw _ (List.mem_of_getElem? (i := 160) rfl)) (hw _ (List.mem_of_getElem? (i := 164) rfl)) (by decide) rfl (lenOf pd__ABII_rAB rfl) (by decide) (W := 0) (Nat.le_of_eq rfl) (by decide) (by decide) (by decide) rfl ?_
  rintro _ h1 K1 ⟨u, rfl, g1, Ru⟩
  have sz_h1 : h0.size ≤ h1.size := K1.1
  refine C.retA rfl rfl d34_16 rfl (by decide) (by decide) (Or.inl (Nat.le_refl _)) ?_
  exact ⟨u, rfl, g1, Ru⟩
theorem pd___rAB : parseMethodDescriptor "()[B" = some ⟨[], some (.array .byte)⟩ := by decide +kernel
theorem d35_0 : decode jdk_42_method_150_code 0 = .ok (.aload_n 0, 1) := by decide +kernel
theorem d35_1 : decode jdk_42_method_150_code 1 = .ok (.invokespecial 1, 3) := by decide +kernel
theorem d35_4 : decode jdk_42_method_150_code 4 = .ok (.aload_n 1, 1) := by decide +kernel
theorem d35_5 : decode jdk_42_method_150_code 5 = .ok (.invokevirtual 552, 3) := by decide +kernel
theorem d35_8 : decode jdk_42_method_150_code 8 = .ok (.astore_n 3, 1) := by decide +kernel
theorem d35_9 : decode jdk_42_method_150_code 9 = .ok (.aload_n 1, 1) := by decide +kernel
theorem d35_10 : decode jdk_42_method_150_code 10 = .ok (.invokevirtual 549, 3) := by decide +kernel
theorem d35_13 : decode jdk_42_method_150_code 13 = .ok (.istore 4, 2) := by decide +kernel
theorem d35_15 : decode jdk_42_method_150_code 15 = .ok (.aload_n 1, 1) := by decide +kernel
theorem d35_16 : decode jdk_42_method_150_code 16 = .ok (.invokevirtual 1047, 3) := by decide +kernel
theorem d35_19 : decode jdk_42_method_150_code 19 = .ok (.ifCond .eq 22, 3) := by decide +kernel
theorem d35_22 : decode jdk_42_method_150_code 22 = .ok (.aload_n 0, 1) := by decide +kernel
theorem d35_23 : decode jdk_42_method_150_code 23 = .ok (.iconst 0, 1) := by decide +kernel
theorem d35_24 : decode jdk_42_method_150_code 24 = .ok (.putfield 15, 3) := by decide +kernel
theorem d35_27 : decode jdk_42_method_150_code 27 = .ok (.aload_n 0, 1) := by decide +kernel
theorem d35_28 : decode jdk_42_method_150_code 28 = .ok (.aload_n 3, 1) := by decide +kernel
theorem d35_29 : decode jdk_42_method_150_code 29 = .ok (.iconst 0, 1) := by decide +kernel
theorem d35_30 : decode jdk_42_method_150_code 30 = .ok (.iload 4, 2) := by decide +kernel
theorem d35_32 : decode jdk_42_method_150_code 32 = .ok (.invokestatic 54, 3) := by decide +kernel
theorem d35_35 : decode jdk_42_method_150_code 35 = .ok (.putfield 9, 3) := by decide +kernel
theorem d35_38 : decode jdk_42_method_150_code 38 = .ok (.goto 59, 3) := by decide +kernel
theorem d35_97 : decode jdk_42_method_150_code 97 = .ok (.return_, 1) := by decide +kernel
theorem ef_36 (m : MethodId) (x0 : Nat) (x1 : Nat) : entryFrame m #[(.ref x0), (.ref x1), .null] 5 = mkF m 0 #[.val (.ref x0), .val (.ref x1), .val .null, .unset, .unset] [] := by first | (simp [entryFrame, mkF, argsToLocals, Value.category]; done) | rfl
set_option maxRecDepth 65536 in
set_option maxHeartbeats 40000000 in
theorem met_sas (l : Launch) (Z : State) (a0 : Array Value) (hw : ∀ d ∈ tables_1, d.before a0 Z = true) (EL : List (String × Nat)) (hEL : EW Z a0 EL) (n0 bk : Nat) (h0 : Heap) (hz0 : Z.heap.size ≤ n0) (hn0 : n0 ≤ h0.size) (a : Nat) (sb : Nat) (t : Nat) (cap : Nat) (cs : List Int32) (z0 : Int32) (X : Exa Z h0 a "java/lang/String") (FV : Fld Z h0 a "java/lang/String" "value" "[B" .null) (FC : Fld Z h0 a "java/lang/String" "coder" "B" (.int (0 : Int32))) (hna : n0 ≤ a) (hba : bk ≤ a) (B : SB Z h0 sb t cap cs) (hlt : cs.length < cap) (hcN : cs.length ≤ 10) (SC : Sta Z Z.heap "java/lang/String" "COMPACT_STRINGS" "Z" (.int z0)) (hzc : ¬ z0 = 0) : Met l Z EL (⟨"java/lang/String", "<init>", "(Ljava/lang/AbstractStringBuilder;Ljava/lang/Void;)V"⟩ : MethodName) jdk_42_method_150_code 5 none [] ({ frames := 3, cells := 1, slots := 10, locals := 49 } : Room) #[(.ref a), (.ref sb), .null] n0 bk h0 (fun _ => bk) (fun v h => v = none ∧ Str Z h h.size a cs ∧ OKp (fun y => y ≠ a ∧ y < h0.size) h0 h) := by
  refine Met.intro (plainFor_of_name pn_1) (fun m => ef_36 m a sb) hz0 hEL ?_
  intro p e s m below meth c C
  have B0 := B
  obtain ⟨x1, fv, fc, fn, ra, hcap, hrg⟩ := B
  have hcp : cap < 2147483648 := by have q := own_arlen ra; rw [own_sblen hcap] at q; exact q
  have la : (_ : Nat) < _ := X.lt
  have l2 : (_ : Nat) < _ := ra.lt
  refine C.aloadN 1 d35_0 rfl rfl ?_
  refine C.objInit (W := 0) 4 d35_1 (hw _ (List.mem_of_getElem? (i := 19) rfl)) (hw _ (List.mem_of_getElem? (i := 20) rfl)) (hw _ (List.mem_of_getElem? (i := 21) rfl)) rfl (by decide) (Nat.le_of_eq rfl) (by decide) ?_
  refine C.aloadN 5 d35_4 rfl rfl ?_
  refine C.callV (b := h0.size) 8 [] [] d35_5 (met_gv l Z a0 hw EL hEL h0.size bk h0 (by omega) (by omega) sb t cap cs B0) x1 (by omega) (Or.inl (Nat.le_refl _)) (hw _ (List.mem_of_getElem? (i := 140) rfl)) (hw _ (List.mem_of_getElem? (i := 141) rfl)) (hw _ (List.mem_of_getElem? (i := 143) rfl)) (hw _ (List.mem_of_getElem? (i := 142) rfl)) (hw _ (List.mem_of_getElem? (i := 63) rfl)) (hw _ (List.mem_of_getElem? (i := 144) rfl)) (fun hZ => notFace_of_selects (args := #[]) (mvT hZ (hw _ (List.mem_of_getElem? (i := 143) rfl)))) (by decide) rfl (lenOf pd___rAB rfl) (by decide) (W := 0) (Nat.le_of_eq rfl) (by decide) (by decide) (by decide) rfl ?_
  rintro _ h5_2 K5_2 ⟨rfl, rfl⟩
  refine C.astoreN 9 (L' := #[.val (.ref a), .val (.ref sb), .val .null, .val (.ref t), .unset]) d35_8 rfl rfl ?_
  refine C.aloadN 10 d35_9 rfl rfl ?_
  refine C.callV (b := h0.size) 13 [] [] d35_10 (met_sl l Z a0 hw EL hEL h0.size bk h0 (by omega) (by omega) sb t cap cs B0) x1 (by omega) (Or.inl (Nat.le_refl _)) (hw _ (List.mem_of_getElem? (i := 145) rfl)) (hw _ (List.mem_of_getElem? (i := 146) rfl)) (hw _ (List.mem_of_getElem? (i := 148) rfl)) (hw _ (List.mem_of_getElem? (i := 149) rfl)) (hw _ (List.mem_of_getElem? (i := 55) rfl)) (hw _ (List.mem_of_getElem? (i := 150) rfl)) (fun hZ => own_nf (a1 := #[]) (mvT hZ (hw _ (List.mem_of_getElem? (i := 101) rfl))) rfl) (by decide) rfl (lenOf pd___rI rfl) (by decide) (W := 0) (Nat.le_of_eq rfl) (by decide) (by decide) (by decide) rfl ?_
  rintro _ h10_3 K10_3 ⟨rfl, rfl⟩
  refine C.istore 15 (L' := #[.val (.ref a), .val (.ref sb), .val .null, .val (.ref t), .val (.int (Int32.ofNat cs.length))]) d35_13 rfl ?_
  refine C.aloadN 16 d35_15 rfl rfl ?_
  refine C.callV (b := h0.size) 19 [] [] d35_16 (met_asl l Z a0 hw EL hEL h0.size bk h0 (by omega) (by omega) sb t cap cs z0 B0 SC hzc) x1 (by omega) (Or.inl (Nat.le_refl _)) (hw _ (List.mem_of_getElem? (i := 153) rfl)) (hw _ (List.mem_of_getElem? (i := 154) rfl)) (hw _ (List.mem_of_getElem? (i := 156) rfl)) (hw _ (List.mem_of_getElem? (i := 155) rfl)) (hw _ (List.mem_of_getElem? (i := 63) rfl)) (hw _ (List.mem_of_getElem? (i := 157) rfl)) (fun hZ => notFace_of_selects (args := #[]) (mvT hZ (hw _ (List.mem_of_getElem? (i := 156) rfl)))) (by decide) rfl (lenOf pd___rZ rfl) (by decide) (W := 0) (Nat.le_of_eq rfl) (by decide) (by decide) (by decide) rfl ?_
  rintro _ h16_4 K16_4 ⟨rfl, rfl⟩
  refine C.ifN 22 d35_19 rfl (XT.i0_eq_f (show ¬ ((1 : Int32) = 0) from (by decide))) ?_
  have X0 := X
  refine C.aloadN 23 d35_22 rfl rfl ?_
  refine C.iconst 24 (0 : Int32) d35_23 (by decide) ?_
  refine C.putf (ty := .byte) 27 d35_24 (hw _ (List.mem_of_getElem? (i := 24) rfl)) Via.refl FC X (Or.inr ⟨(hw _ (List.mem_of_getElem? (i := 25) rfl)), rfl, rfl⟩) (hw _ (List.mem_of_getElem? (i := 10) rfl)) (by decide) rfl rfl (by omega) (Or.inl (by omega)) ?_
  intro h1 W1
  have sz_h1 : h0.size ≤ h1.size := (Nat.le_of_eq W1.size.symm)
  replace FV := FV.other W1 (Or.inr (slot_ne (t := (.array .byte)) (t' := .byte) (Or.inr (hw _ (List.mem_of_getElem? (i := 23) rfl))) (Or.inr (hw _ (List.mem_of_getElem? (i := 25) rfl))) (by decide) (by decide) (by decide)))
  replace FC := FC.same W1
  replace X := X.wr W1
  replace ra := ra.other W1 (Ne.symm (own_ne_exa_ar X0 (hw _ (List.mem_of_getElem? (i := 10) rfl)) ra))
  refine C.aloadN 28 d35_27 rfl rfl ?_
  refine C.aloadN 29 d35_28 rfl rfl ?_
  refine C.iconst 30 (0 : Int32) d35_29 (by decide) ?_
  refine C.iload 32 d35_30 rfl ?_
  refine C.callS (b := h1.size) 35 [(.ref t), (.int (0 : Int32)), (.int (Int32.ofNat cs.length))] [(.ref a)] d35_32 (met_cor l Z a0 hw EL hEL h1.size bk h1 (by omega) (by omega) t _ cs.length ra (by rw [own_sblen hcap]; exact hlt) hcN (by omega)) (by omega) (Or.inl (Nat.le_refl _)) (hw _ (List.mem_of_getElem? (i := 158) rfl)) (hw _ (List.mem_of_getElem? (i := 159) rfl)) (hw _ (List.mem_of_getElem? (i := 160) rfl)) (hw _ (List.mem_of_getElem? (i := 161) rfl)) (by decide) rfl (lenOf pd__ABII_rAB rfl) (by decide) (W := 1) (Nat.le_of_eq rfl) (by decide) (by decide) (by decide) rfl ?_
  rintro _ h2 K2 ⟨u, rfl, g1, Ru⟩
  have sz_h2 : h1.size ≤ h2.size := K2.1
  replace X := own_exa K2 X (by first | omega | (dsimp only; omega))
  replace FV := own_fld K2 FV (by first | omega | (dsimp only; omega))
  replace FC := own_fld K2 FC (by first | omega | (dsimp only; omega))
  refine C.putf (ty := (.array .byte)) 38 d35_35 (hw _ (List.mem_of_getElem? (i := 22) rfl)) Via.refl FV X (Or.inr ⟨(hw _ (List.mem_of_getElem? (i := 23) rfl)), rfl, rfl⟩) (hw _ (List.mem_of_getElem? (i := 10) rfl)) (by decide) rfl rfl (by omega) (Or.inl (by omega)) ?_
  intro h3 W3
  have sz_h3 : h2.size ≤ h3.size := (Nat.le_of_eq W3.size.symm)
  replace FC := FC.other W3 (Or.inr (slot_ne (t := .byte) (t' := (.array .byte)) (Or.inr (hw _ (List.mem_of_getElem? (i := 25) rfl))) (Or.inr (hw _ (List.mem_of_getElem? (i := 23) rfl))) (by decide) (by decide) (by decide)))
  replace FV := FV.same W3
  replace X := X.wr W3
  replace Ru := Ru.other W3 (by first | omega | (dsimp only; omega))
  refine C.goto 97 d35_38 (by decide) (by decide) ?_
  refine C.retV rfl d35_97 (by decide) (by decide) (Or.inl (Nat.le_refl _)) ?_
  exact ⟨rfl, Str.made X FC FV (by rw [own_sbtake hcap] at Ru; exact Ru) hrg, ((OKp.ofWr W1).weak (fun y q => q.1)).trans ((K2.weak (fun y q => by have := q.2; omega)).trans ((OKp.ofWr W3).weak (fun y q => q.1)))⟩
theorem pd__Ljava_lang_AbstractStringBuilderLjava_lang_Void_rV : parseMethodDescriptor "(Ljava/lang/AbstractStringBuilder;Ljava/lang/Void;)V" = some ⟨[(.object "java/lang/AbstractStringBuilder"), (.object "java/lang/Void")], none⟩ := by decide +kernel
theorem d36_0 : decode jdk_42_method_53_code 0 = .ok (.aload_n 0, 1) := by decide +kernel
theorem d36_1 : decode jdk_42_method_53_code 1 = .ok (.aload_n 1, 1) := by decide +kernel
theorem d36_2 : decode jdk_42_method_53_code 2 = .ok (.aconst_null, 1) := by decide +kernel
theorem d36_3 : decode jdk_42_method_53_code 3 = .ok (.invokespecial 489, 3) := by decide +kernel
theorem d36_6 : decode jdk_42_method_53_code 6 = .ok (.return_, 1) := by decide +kernel
theorem ef_37 (m : MethodId) (x0 : Nat) (x1 : Nat) : entryFrame m #[(.ref x0), (.ref x1)] 2 = mkF m 0 #[.val (.ref x0), .val (.ref x1)] [] := by first | (simp [entryFrame, mkF, argsToLocals, Value.category]; done) | rfl
set_option maxRecDepth 65536 in
set_option maxHeartbeats 40000000 in
theorem met_ssb (l : Launch) (Z : State) (a0 : Array Value) (hw : ∀ d ∈ tables_1, d.before a0 Z = true) (EL : List (String × Nat)) (hEL : EW Z a0 EL) (n0 bk : Nat) (h0 : Heap) (hz0 : Z.heap.size ≤ n0) (hn0 : n0 ≤ h0.size) (a : Nat) (sb : Nat) (t : Nat) (cap : Nat) (cs : List Int32) (z0 : Int32) (X : Exa Z h0 a "java/lang/String") (FV : Fld Z h0 a "java/lang/String" "value" "[B" .null) (FC : Fld Z h0 a "java/lang/String" "coder" "B" (.int (0 : Int32))) (hna : n0 ≤ a) (hba : bk ≤ a) (B : SB Z h0 sb t cap cs) (hlt : cs.length < cap) (hcN : cs.length ≤ 10) (SC : Sta Z Z.heap "java/lang/String" "COMPACT_STRINGS" "Z" (.int z0)) (hzc : ¬ z0 = 0) : Met l Z EL (⟨"java/lang/String", "<init>", "(Ljava/lang/StringBuilder;)V"⟩ : MethodName) jdk_42_method_53_code 2 none [] ({ frames := 4, cells := 1, slots := 10, locals := 65 } : Room) #[(.ref a), (.ref sb)] n0 bk h0 (fun _ => bk) (fun v h => v = none ∧ Str Z h h.size a cs ∧ OKp (fun y => y ≠ a ∧ y < h0.size) h0 h) := by
  refine Met.intro (plainFor_of_name pn_1) (fun m => ef_37 m a sb) hz0 hEL ?_
  intro p e s m below meth c C
  refine C.aloadN 1 d36_0 rfl rfl ?_
  refine C.aloadN 2 d36_1 rfl rfl ?_
  refine C.aconstNull 3 d36_2 ?_
  refine C.callI (b := n0) 6 [(.ref sb), .null] [] d36_3 (met_sas l Z a0 hw EL hEL n0 bk h0 (by omega) (by omega) a sb t cap cs z0 X FV FC hna hba B hlt hcN SC hzc) rfl (by omega) (Or.inl (Nat.le_refl _)) (hw _ (List.mem_of_getElem? (i := 137) rfl)) (hw _ (List.mem_of_getElem? (i := 138) rfl)) (hw _ (List.mem_of_getElem? (i := 2) rfl)) (hw _ (List.mem_of_getElem? (i := 139) rfl)) (by decide) rfl (lenOf pd__Ljava_lang_AbstractStringBuilderLjava_lang_Void_rV rfl) (by decide) (W := 0) (Nat.le_of_eq rfl) (by decide) (by decide) (by decide) rfl ?_
  rintro _ h1 K1 ⟨rfl, Sa, Kq⟩
  have sz_h1 : h0.size ≤ h1.size := K1.1
  refine C.retV rfl d36_6 (by decide) (by decide) (Or.inl (Nat.le_refl _)) ?_
  exact ⟨rfl, Sa, Kq⟩
theorem pd__Ljava_lang_StringBuilder_rV : parseMethodDescriptor "(Ljava/lang/StringBuilder;)V" = some ⟨[(.object "java/lang/StringBuilder")], none⟩ := by decide +kernel
theorem d37_0 : decode jdk_67_method_42_code 0 = .ok (.new 18, 3) := by decide +kernel
theorem d37_3 : decode jdk_67_method_42_code 3 = .ok (.dup, 1) := by decide +kernel
theorem d37_4 : decode jdk_67_method_42_code 4 = .ok (.aload_n 0, 1) := by decide +kernel
theorem d37_5 : decode jdk_67_method_42_code 5 = .ok (.invokespecial 137, 3) := by decide +kernel
theorem d37_8 : decode jdk_67_method_42_code 8 = .ok (.areturn, 1) := by decide +kernel
theorem ef_38 (m : MethodId) (x0 : Nat) : entryFrame m #[(.ref x0)] 1 = mkF m 0 #[.val (.ref x0)] [] := by first | (simp [entryFrame, mkF, argsToLocals, Value.category]; done) | rfl
set_option maxRecDepth 65536 in
set_option maxHeartbeats 40000000 in
theorem met_ts (l : Launch) (Z : State) (a0 : Array Value) (hw : ∀ d ∈ tables_1, d.before a0 Z = true) (EL : List (String × Nat)) (hEL : EW Z a0 EL) (n0 bk : Nat) (h0 : Heap) (hz0 : Z.heap.size ≤ n0) (hn0 : n0 ≤ h0.size) (sb : Nat) (t : Nat) (cap : Nat) (cs : List Int32) (z0 : Int32) (B : SB Z h0 sb t cap cs) (hlt : cs.length < cap) (hcN : cs.length ≤ 10) (hbk : bk ≤ h0.size) (SC : Sta Z Z.heap "java/lang/String" "COMPACT_STRINGS" "Z" (.int z0)) (hzc : ¬ z0 = 0) : Met l Z EL (⟨"java/lang/StringBuilder", "toString", "()Ljava/lang/String;"⟩ : MethodName) jdk_67_method_42_code 1 (some (.object "java/lang/String")) [] ({ frames := 5, cells := 2, slots := 14, locals := 79 } : Room) #[(.ref sb)] n0 bk h0 (fun _ => bk) (fun v h => ∃ a, v = some (.ref a) ∧ Str Z h h.size a cs) := by
  refine Met.intro (plainFor_of_name pn_5) (fun m => ef_38 m sb) hz0 hEL ?_
  intro p e s m below meth c C
  have l1 := B.lts
  have l2 := B.ltt
  refine C.newo 3 d37_0 (hw _ (List.mem_of_getElem? (i := 133) rfl)) (hw _ (List.mem_of_getElem? (i := 10) rfl)) (hw _ (List.mem_of_getElem? (i := 2) rfl)) (by decide) (by decide) ?_
  intro a h1 g_a E1 X_a D1
  have lt_a : a < h1.size := X_a.lt
  have sz_h1 : h0.size ≤ h1.size := E1.1
  replace B := B.ext E1
  have FV : Fld Z h1 a "java/lang/String" "value" "[B" .null := D1 (Or.inr (hw _ (List.mem_of_getElem? (i := 23) rfl))) (ty := (.array .byte)) (by decide)
  have FC : Fld Z h1 a "java/lang/String" "coder" "B" (.int (0 : Int32)) := D1 (Or.inr (hw _ (List.mem_of_getElem? (i := 25) rfl))) (ty := .byte) (by decide)
  refine C.dup 4 d37_3 rfl ?_
  refine C.aloadN 5 d37_4 rfl rfl ?_
  refine C.callI (b := a) 8 [(.ref sb)] [(.ref a)] d37_5 (met_ssb l Z a0 hw EL hEL a bk h1 (by omega) (by omega) a sb t cap cs z0 X_a FV FC (by omega) (by omega) B hlt hcN SC hzc) rfl (by omega) (Or.inl (Nat.le_refl _)) (hw _ (List.mem_of_getElem? (i := 134) rfl)) (hw _ (List.mem_of_getElem? (i := 135) rfl)) (hw _ (List.mem_of_getElem? (i := 2) rfl)) (hw _ (List.mem_of_getElem? (i := 136) rfl)) (by decide) rfl (lenOf pd__Ljava_lang_StringBuilder_rV rfl) (by decide) (W := 1) (Nat.le_of_eq rfl) (by decide) (by decide) (by decide) rfl ?_
  rintro _ h2 K2 ⟨rfl, Sa, Kq⟩
  have sz_h2 : h1.size ≤ h2.size := Kq.1
  refine C.retA rfl rfl d37_8 rfl (by decide) (by decide) (Or.inl (Nat.le_refl _)) ?_
  exact ⟨a, rfl, Sa⟩
theorem own_fitc {x : Int32} (h1 : ¬ x < 0) (h2 : ¬ 255 < x) : fits .char (.int x) = true := by
  have q := fits_nar_char x
  rw [show nar .char x = x from own_c0 h1 h2] at q; exact q
theorem own_rng (x : Int32) : ¬ (x &&& 255) < 0 ∧ ¬ 255 < (x &&& 255) := by
  have q := c_mask x 255 8 (by decide) (by decide)
  rw [Int32.lt_iff_toInt_lt, Int32.lt_iff_toInt_lt]
  have e1 : (0 : Int32).toInt = 0 := rfl
  have e2 : (255 : Int32).toInt = 255 := by decide
  omega
def own_pt (u x : Int32) : List Int32 := if u = 0 then [] else [x]
theorem own_pt0 {u x : Int32} : own_pt u x = [] ↔ u = 0 := by unfold own_pt; by_cases q : u = 0 <;> simp [q]
theorem own_ptl (u x : Int32) : (own_pt u x).length ≤ 1 := by unfold own_pt; split <;> simp
def own_opt (P : Prop) [Decidable P] (xs : List Int32) : List Int32 := if P then [] else 95 :: xs
/-- what bundleName returns -/
def own_bn (nm l s r v : List Int32) : List Int32 := if l = [] ∧ r = [] ∧ v = [] then nm else nm ++ 95 :: l ++ own_opt (s = []) s ++ own_opt (r = [] ∧ v = []) r ++ own_opt (v = []) v
theorem d38_0 : decode jdk_42_method_55_code 0 = .ok (.aload_n 0, 1) := by decide +kernel
theorem d38_1 : decode jdk_42_method_55_code 1 = .ok (.getfield 9, 3) := by decide +kernel
theorem d38_4 : decode jdk_42_method_55_code 4 = .ok (.arraylength, 1) := by decide +kernel
theorem d38_5 : decode jdk_42_method_55_code 5 = .ok (.ifCond .ne 7, 3) := by decide +kernel
theorem d38_8 : decode jdk_42_method_55_code 8 = .ok (.iconst 1, 1) := by decide +kernel
theorem d38_9 : decode jdk_42_method_55_code 9 = .ok (.goto 4, 3) := by decide +kernel
theorem d38_12 : decode jdk_42_method_55_code 12 = .ok (.iconst 0, 1) := by decide +kernel
theorem d38_13 : decode jdk_42_method_55_code 13 = .ok (.ireturn, 1) := by decide +kernel
theorem ef_39 (m : MethodId) (x0 : Nat) : entryFrame m #[(.ref x0)] 1 = mkF m 0 #[.val (.ref x0)] [] := by first | (simp [entryFrame, mkF, argsToLocals, Value.category]; done) | rfl
set_option maxRecDepth 65536 in
set_option maxHeartbeats 40000000 in
theorem met_emp (l : Launch) (Z : State) (a0 : Array Value) (hw : ∀ d ∈ tables_1, d.before a0 Z = true) (EL : List (String × Nat)) (hEL : EW Z a0 EL) (n0 bk : Nat) (h0 : Heap) (hz0 : Z.heap.size ≤ n0) (hn0 : n0 ≤ h0.size) (a : Nat) (ba : Nat) (cs : List Int32) (Sa : Str Z h0 ba a cs) : Met l Z EL (⟨"java/lang/String", "isEmpty", "()Z"⟩ : MethodName) jdk_42_method_55_code 1 (some .boolean) [] ({ frames := 0, cells := 0, slots := 0, locals := 0 } : Room) #[(.ref a)] n0 bk h0 (fun _ => bk) (fun v h => ∃ r, v = some (.int r) ∧ OB r (cs = []) ∧ h0 = h) := by
  refine Met.intro (plainFor_of_name pn_1) (fun m => ef_39 m a) hz0 hEL ?_
  intro p e s m below meth c C
  obtain ⟨t, f1, f2, f3, f4, f5, f6, f7⟩ := Sa
  have ll := own_arlen f6
  rw [List.length_map] at ll
  refine C.aloadN 1 d38_0 rfl rfl ?_
  refine C.getf 4 d38_1 (hw _ (List.mem_of_getElem? (i := 22) rfl)) Via.refl f5 ?_
  refine C.alen 5 d38_4 f6 (by rw [List.length_map]) ?_
  rcases Decidable.em ((Int32.ofNat cs.length) = 0) with h5 | h5
  · skip
    refine C.ifN 8 d38_5 rfl (XT.i0_ne_f h5) ?_
    refine C.iconst 9 (1 : Int32) d38_8 (by decide) ?_
    refine C.goto 13 d38_9 (by decide) (by decide) ?_
    refine C.retN (t := .boolean) rfl (by simp) d38_13 (by decide) (by decide) (Or.inl (Nat.le_refl _)) ?_
    exact ⟨1, rfl, Or.inl ⟨rfl, List.length_eq_zero_iff.mp ((own_ofNat ll (show 0 < 2147483648 by decide)).1.mp h5)⟩, rfl⟩
  · skip
    refine C.ifY 12 d38_5 (by decide) (by decide) (XT.i0_ne_t h5) ?_
    refine C.iconst 13 (0 : Int32) d38_12 (by decide) ?_
    refine C.retN (t := .boolean) rfl (by simp) d38_13 (by decide) (by decide) (Or.inl (Nat.le_refl _)) ?_
    exact ⟨0, rfl, Or.inr ⟨rfl, fun e => h5 (by rw [e]; rfl)⟩, rfl⟩
theorem pn_7 : plainName "com/example/rules_for_records/rulesforrecords/messageinterpolation/CandidateBundleNamePinLaw" = true := by first | (simp [plainName, overriddenIn]; done) | decide +kernel
theorem pd__C_rLjava_lang_String : parseMethodDescriptor "(C)Ljava/lang/String;" = some ⟨[.char], some (.object "java/lang/String")⟩ := by decide +kernel
theorem d39_0 : decode method_2_code 0 = .ok (.iload_n 0, 1) := by decide +kernel
theorem d39_1 : decode method_2_code 1 = .ok (.ifCond .eq 10, 3) := by decide +kernel
theorem d39_4 : decode method_2_code 4 = .ok (.iload_n 1, 1) := by decide +kernel
theorem d39_5 : decode method_2_code 5 = .ok (.invokestatic 7, 3) := by decide +kernel
theorem d39_8 : decode method_2_code 8 = .ok (.goto 5, 3) := by decide +kernel
theorem d39_11 : decode method_2_code 11 = .ok (.ldc 13, 2) := by decide +kernel
theorem d39_13 : decode method_2_code 13 = .ok (.areturn, 1) := by decide +kernel
theorem ef_40 (m : MethodId) (x0 : Int32) (x1 : Int32) : entryFrame m #[(.int x0), (.int x1)] 2 = mkF m 0 #[.val (.int x0), .val (.int x1)] [] := by first | (simp [entryFrame, mkF, argsToLocals, Value.category]; done) | rfl
set_option maxRecDepth 65536 in
set_option maxHeartbeats 40000000 in
theorem met_part (l : Launch) (Z : State) (a0 : Array Value) (hw : ∀ d ∈ tables_1, d.before a0 Z = true) (EL : List (String × Nat)) (hEL : EW Z a0 EL) (n0 bk : Nat) (h0 : Heap) (hz0 : Z.heap.size ≤ n0) (hn0 : n0 ≤ h0.size) (u : Int32) (x : Int32) (z0 : Int32) (q0 : ¬ x < 0) (q : ¬ 255 < x) (SC : Sta Z Z.heap "java/lang/String" "COMPACT_STRINGS" "Z" (.int z0)) (hzc : ¬ z0 = 0) (wS : ∀ a ∈ Bundle.stringAtoms, a.before a0 Z = true) (hmem : ("com/example/rules_for_records/rulesforrecords/messageinterpolation/CandidateBundleNamePinLaw", 13) ∈ EL) : Met l Z EL (⟨"com/example/rules_for_records/rulesforrecords/messageinterpolation/CandidateBundleNamePinLaw", "part", "(ZC)Ljava/lang/String;"⟩ : MethodName) method_2_code 2 (some (.object "java/lang/String")) [] ({ frames := 3, cells := 2, slots := 5, locals := 39 } : Room) #[(.int u), (.int x)] n0 bk h0 (fun h => h.size) (fun v h => ∃ a, v = some (.ref a) ∧ Str Z h h.size a (own_pt u x)) := by
  refine Met.intro (plainFor_of_name pn_7) (fun m => ef_40 m u x) hz0 hEL ?_
  intro p e s m below meth c C
  refine C.iloadN 1 d39_0 rfl ?_
  rcases Decidable.em (u = 0) with y1 | y1
  · skip
    refine C.ifY 11 d39_1 (by decide) (by decide) (XT.i0_eq_t y1) ?_
    refine C.ldcT (nn := 0) (vs := (([] : List Int32).map own_lo).map Value.int) (z := Int32.ofNat (([] : List Int32).map own_lo).length) 13 d39_11 (hw _ (List.mem_of_getElem? (i := 33) rfl)) wS hmem ⟨by decide, by decide⟩ (by decide) (by decide) (by decide) (by decide) (by decide) (by decide) ?_
    intro a t1 kb1 h1 E1 A1 B1 V1 W1
    have sz_h1 : h0.size ≤ h1.size := E1.1
    have S1 : Str Z h1 h1.size a [] := Str.lit A1 B1 V1 W1 (by decide) (by decide)
    refine C.retA rfl rfl d39_13 rfl (by decide) (by decide) (Or.inr (Nat.le_refl _)) ?_
    exact ⟨a, rfl, by rw [show own_pt u x = [] from if_pos y1]; exact S1⟩
  · skip
    refine C.ifN 4 d39_1 rfl (XT.i0_eq_f y1) ?_
    refine C.iloadN 5 d39_4 rfl ?_
    refine C.callS (b := h0.size) 8 [(.int x)] [] d39_5 (met_vo l Z a0 hw EL hEL h0.size h0.size h0 (by omega) (by omega) x z0 q0 q SC hzc (Nat.le_refl _)) (by omega) (Or.inr (Nat.le_refl _)) (hw _ (List.mem_of_getElem? (i := 0) rfl)) (hw _ (List.mem_of_getElem? (i := 1) rfl)) (hw _ (List.mem_of_getElem? (i := 2) rfl)) (hw _ (List.mem_of_getElem? (i := 3) rfl)) (by decide) rfl (lenOf pd__C_rLjava_lang_String rfl) (by decide) (W := 0) (Nat.le_of_eq rfl) (by decide) (by decide) (by decide) rfl ?_
    rintro _ h1 K1 ⟨a, rfl, S1⟩
    have sz_h1 : h0.size ≤ h1.size := K1.1
    refine C.goto 13 d39_8 (by decide) (by decide) ?_
    refine C.retA rfl rfl d39_13 rfl (by decide) (by decide) (Or.inr (Nat.le_refl _)) ?_
    exact ⟨a, rfl, by rw [show own_pt u x = [x] from if_neg y1]; exact S1⟩
theorem pn_8 : plainName "com/example/rules_for_records/rulesforrecords/messageinterpolation/BundleLookup$Candidate" = true := by first | (simp [plainName, overriddenIn]; done) | decide +kernel
theorem d40_0 : decode prog_9_method_1_code 0 = .ok (.aload_n 0, 1) := by decide +kernel
theorem d40_1 : decode prog_9_method_1_code 1 = .ok (.invokespecial 1, 3) := by decide +kernel
theorem d40_4 : decode prog_9_method_1_code 4 = .ok (.aload_n 0, 1) := by decide +kernel
theorem d40_5 : decode prog_9_method_1_code 5 = .ok (.aload_n 1, 1) := by decide +kernel
theorem d40_6 : decode prog_9_method_1_code 6 = .ok (.putfield 7, 3) := by decide +kernel
theorem d40_9 : decode prog_9_method_1_code 9 = .ok (.aload_n 0, 1) := by decide +kernel
theorem d40_10 : decode prog_9_method_1_code 10 = .ok (.aload_n 2, 1) := by decide +kernel
theorem d40_11 : decode prog_9_method_1_code 11 = .ok (.putfield 13, 3) := by decide +kernel
theorem d40_14 : decode prog_9_method_1_code 14 = .ok (.aload_n 0, 1) := by decide +kernel
theorem d40_15 : decode prog_9_method_1_code 15 = .ok (.aload_n 3, 1) := by decide +kernel
theorem d40_16 : decode prog_9_method_1_code 16 = .ok (.putfield 16, 3) := by decide +kernel
theorem d40_19 : decode prog_9_method_1_code 19 = .ok (.aload_n 0, 1) := by decide +kernel
theorem d40_20 : decode prog_9_method_1_code 20 = .ok (.aload 4, 2) := by decide +kernel
theorem d40_22 : decode prog_9_method_1_code 22 = .ok (.putfield 19, 3) := by decide +kernel
theorem d40_25 : decode prog_9_method_1_code 25 = .ok (.return_, 1) := by decide +kernel
theorem ef_41 (m : MethodId) (x0 : Nat) (x1 : Nat) (x2 : Nat) (x3 : Nat) (x4 : Nat) : entryFrame m #[(.ref x0), (.ref x1), (.ref x2), (.ref x3), (.ref x4)] 5 = mkF m 0 #[.val (.ref x0), .val (.ref x1), .val (.ref x2), .val (.ref x3), .val (.ref x4)] [] := by first | (simp [entryFrame, mkF, argsToLocals, Value.category]; done) | rfl
set_option maxRecDepth 65536 in
set_option maxHeartbeats 40000000 in
theorem met_ci (l : Launch) (Z : State) (a0 : Array Value) (hw : ∀ d ∈ tables_1, d.before a0 Z = true) (EL : List (String × Nat)) (hEL : EW Z a0 EL) (n0 bk : Nat) (h0 : Heap) (hz0 : Z.heap.size ≤ n0) (hn0 : n0 ≤ h0.size) (a : Nat) (s1 : Nat) (s2 : Nat) (s3 : Nat) (s4 : Nat) (X : Exa Z h0 a "com/example/rules_for_records/rulesforrecords/messageinterpolation/BundleLookup$Candidate") (F1 : Fld Z h0 a "com/example/rules_for_records/rulesforrecords/messageinterpolation/BundleLookup$Candidate" "language" "Ljava/lang/String;" .null) (F2 : Fld Z h0 a "com/example/rules_for_records/rulesforrecords/messageinterpolation/BundleLookup$Candidate" "script" "Ljava/lang/String;" .null) (F3 : Fld Z h0 a "com/example/rules_for_records/rulesforrecords/messageinterpolation/BundleLookup$Candidate" "region" "Ljava/lang/String;" .null) (F4 : Fld Z h0 a "com/example/rules_for_records/rulesforrecords/messageinterpolation/BundleLookup$Candidate" "variant" "Ljava/lang/String;" .null) (hna : n0 ≤ a) : Met l Z EL (⟨"com/example/rules_for_records/rulesforrecords/messageinterpolation/BundleLookup$Candidate", "<init>", "(Ljava/lang/String;Ljava/lang/String;Ljava/lang/String;Ljava/lang/String;)V"⟩ : MethodName) prog_9_method_1_code 5 none [] ({ frames := 1, cells := 0, slots := 0, locals := 12 } : Room) #[(.ref a), (.ref s1), (.ref s2), (.ref s3), (.ref s4)] n0 bk h0 (fun _ => bk) (fun v h => v = none ∧ OKp (fun x => x ≠ a) h0 h ∧ Exa Z h a "com/example/rules_for_records/rulesforrecords/messageinterpolation/BundleLookup$Candidate" ∧ Fld Z h a "com/example/rules_for_records/rulesforrecords/messageinterpolation/BundleLookup$Candidate" "language" "Ljava/lang/String;" (.ref s1) ∧ Fld Z h a "com/example/rules_for_records/rulesforrecords/messageinterpolation/BundleLookup$Candidate" "script" "Ljava/lang/String;" (.ref s2) ∧ Fld Z h a "com/example/rules_for_records/rulesforrecords/messageinterpolation/BundleLookup$Candidate" "region" "Ljava/lang/String;" (.ref s3) ∧ Fld Z h a "com/example/rules_for_records/rulesforrecords/messageinterpolation/BundleLookup$Candidate" "variant" "Ljava/lang/String;" (.ref s4)) := by
  refine Met.intro (plainFor_of_name pn_8) (fun m => ef_41 m a s1 s2 s3 s4) hz0 hEL ?_
  intro p e s m below meth c C
  refine C.aloadN 1 d40_0 rfl rfl ?_
  refine C.objInit (W := 0) 4 d40_1 (hw _ (List.mem_of_getElem? (i := 39) rfl)) (hw _ (List.mem_of_getElem? (i := 20) rfl)) (hw _ (List.mem_of_getElem? (i := 21) rfl)) rfl (by decide) (Nat.le_of_eq rfl) (by decide) ?_
  refine C.aloadN 5 d40_4 rfl rfl ?_
  refine C.aloadN 6 d40_5 rfl rfl ?_
  refine C.putf (ty := (.object "java/lang/String")) 9 d40_6 (hw _ (List.mem_of_getElem? (i := 40) rfl)) Via.refl F1 X (Or.inr ⟨(hw _ (List.mem_of_getElem? (i := 41) rfl)), rfl, rfl⟩) (hw _ (List.mem_of_getElem? (i := 27) rfl)) (by decide) rfl rfl (by omega) (Or.inr (Or.inl ⟨_, X, by decide, by decide⟩)) ?_
  intro h1 W1
  have sz_h1 : h0.size ≤ h1.size := (Nat.le_of_eq W1.size.symm)
  replace F2 := F2.other W1 (Or.inr (slot_ne (t := (.object "java/lang/String")) (t' := (.object "java/lang/String")) (Or.inr (hw _ (List.mem_of_getElem? (i := 43) rfl))) (Or.inr (hw _ (List.mem_of_getElem? (i := 41) rfl))) (by decide) (by decide) (by decide)))
  replace F3 := F3.other W1 (Or.inr (slot_ne (t := (.object "java/lang/String")) (t' := (.object "java/lang/String")) (Or.inr (hw _ (List.mem_of_getElem? (i := 45) rfl))) (Or.inr (hw _ (List.mem_of_getElem? (i := 41) rfl))) (by decide) (by decide) (by decide)))
  replace F4 := F4.other W1 (Or.inr (slot_ne (t := (.object "java/lang/String")) (t' := (.object "java/lang/String")) (Or.inr (hw _ (List.mem_of_getElem? (i := 47) rfl))) (Or.inr (hw _ (List.mem_of_getElem? (i := 41) rfl))) (by decide) (by decide) (by decide)))
  replace F1 := F1.same W1
  replace X := X.wr W1
  refine C.aloadN 10 d40_9 rfl rfl ?_
  refine C.aloadN 11 d40_10 rfl rfl ?_
  refine C.putf (ty := (.object "java/lang/String")) 14 d40_11 (hw _ (List.mem_of_getElem? (i := 42) rfl)) Via.refl F2 X (Or.inr ⟨(hw _ (List.mem_of_getElem? (i := 43) rfl)), rfl, rfl⟩) (hw _ (List.mem_of_getElem? (i := 27) rfl)) (by decide) rfl rfl (by omega) (Or.inr (Or.inl ⟨_, X, by decide, by decide⟩)) ?_
  intro h2 W2
  have sz_h2 : h1.size ≤ h2.size := (Nat.le_of_eq W2.size.symm)
  replace F1 := F1.other W2 (Or.inr (slot_ne (t := (.object "java/lang/String")) (t' := (.object "java/lang/String")) (Or.inr (hw _ (List.mem_of_getElem? (i := 41) rfl))) (Or.inr (hw _ (List.mem_of_getElem? (i := 43) rfl))) (by decide) (by decide) (by decide)))
  replace F3 := F3.other W2 (Or.inr (slot_ne (t := (.object "java/lang/String")) (t' := (.object "java/lang/String")) (Or.inr (hw _ (List.mem_of_getElem? (i := 45) rfl))) (Or.inr (hw _ (List.mem_of_getElem? (i := 43) rfl))) (by decide) (by decide) (by decide)))
  replace F4 := F4.other W2 (Or.inr (slot_ne (t := (.object "java/lang/String")) (t' := (.object "java/lang/String")) (Or.inr (hw _ (List.mem_of_getElem? (i := 47) rfl))) (Or.inr (hw _ (List.mem_of_getElem? (i := 43) rfl))) (by decide) (by decide) (by decide)))
  replace F2 := F2.same W2
  replace X := X.wr W2
  refine C.aloadN 15 d40_14 rfl rfl ?_
  refine C.aloadN 16 d40_15 rfl rfl ?_
  refine C.putf (ty := (.object "java/lang/String")) 19 d40_16 (hw _ (List.mem_of_getElem? (i := 44) rfl)) Via.refl F3 X (Or.inr ⟨(hw _ (List.mem_of_getElem? (i := 45) rfl)), rfl, rfl⟩) (hw _ (List.mem_of_getElem? (i := 27) rfl)) (by decide) rfl rfl (by omega) (Or.inr (Or.inl ⟨_, X, by decide, by decide⟩)) ?_
  intro h3 W3
  have sz_h3 : h2.size ≤ h3.size := (Nat.le_of_eq W3.size.symm)
  replace F1 := F1.other W3 (Or.inr (slot_ne (t := (.object "java/lang/String")) (t' := (.object "java/lang/String")) (Or.inr (hw _ (List.mem_of_getElem? (i := 41) rfl))) (Or.inr (hw _ (List.mem_of_getElem? (i := 45) rfl))) (by decide) (by decide) (by decide)))
  replace F2 := F2.other W3 (Or.inr (slot_ne (t := (.object "java/lang/String")) (t' := (.object "java/lang/String")) (Or.inr (hw _ (List.mem_of_getElem? (i := 43) rfl))) (Or.inr (hw _ (List.mem_of_getElem? (i := 45) rfl))) (by decide) (by decide) (by decide)))
  replace F4 := F4.other W3 (Or.inr (slot_ne (t := (.object "java/lang/String")) (t' := (.object "java/lang/String")) (Or.inr (hw _ (List.mem_of_getElem? (i := 47) rfl))) (Or.inr (hw _ (List.mem_of_getElem? (i := 45) rfl))) (by decide) (by decide) (by decide)))
  replace F3 := F3.same W3
  replace X := X.wr W3
  refine C.aloadN 20 d40_19 rfl rfl ?_
  refine C.aload 22 d40_20 rfl rfl ?_
  refine C.putf (ty := (.object "java/lang/String")) 25 d40_22 (hw _ (List.mem_of_getElem? (i := 46) rfl)) Via.refl F4 X (Or.inr ⟨(hw _ (List.mem_of_getElem? (i := 47) rfl)), rfl, rfl⟩) (hw _ (List.mem_of_getElem? (i := 27) rfl)) (by decide) rfl rfl (by omega) (Or.inr (Or.inl ⟨_, X, by decide, by decide⟩)) ?_
  intro h4 W4
  have sz_h4 : h3.size ≤ h4.size := (Nat.le_of_eq W4.size.symm)
  replace F1 := F1.other W4 (Or.inr (slot_ne (t := (.object "java/lang/String")) (t' := (.object "java/lang/String")) (Or.inr (hw _ (List.mem_of_getElem? (i := 41) rfl))) (Or.inr (hw _ (List.mem_of_getElem? (i := 47) rfl))) (by decide) (by decide) (by decide)))
  replace F2 := F2.other W4 (Or.inr (slot_ne (t := (.object "java/lang/String")) (t' := (.object "java/lang/String")) (Or.inr (hw _ (List.mem_of_getElem? (i := 43) rfl))) (Or.inr (hw _ (List.mem_of_getElem? (i := 47) rfl))) (by decide) (by decide) (by decide)))
  replace F3 := F3.other W4 (Or.inr (slot_ne (t := (.object "java/lang/String")) (t' := (.object "java/lang/String")) (Or.inr (hw _ (List.mem_of_getElem? (i := 45) rfl))) (Or.inr (hw _ (List.mem_of_getElem? (i := 47) rfl))) (by decide) (by decide) (by decide)))
  replace F4 := F4.same W4
  replace X := X.wr W4
  refine C.retV rfl d40_25 (by decide) (by decide) (Or.inl (Nat.le_refl _)) ?_
  exact ⟨rfl, (((OKp.ofWr W1).trans (OKp.ofWr W2)).trans (OKp.ofWr W3)).trans (OKp.ofWr W4), X, F1, F2, F3, F4⟩
theorem pd___rLjava_lang_String : parseMethodDescriptor "()Ljava/lang/String;" = some ⟨[], some (.object "java/lang/String")⟩ := by decide +kernel
theorem pd__C_rLjava_lang_StringBuilder : parseMethodDescriptor "(C)Ljava/lang/StringBuilder;" = some ⟨[.char], some (.object "java/lang/StringBuilder")⟩ := by decide +kernel
theorem d41_0 : decode prog_9_method_2_code 0 = .ok (.new 22, 3) := by decide +kernel
theorem d41_3 : decode prog_9_method_2_code 3 = .ok (.dup, 1) := by decide +kernel
theorem d41_4 : decode prog_9_method_2_code 4 = .ok (.aload_n 1, 1) := by decide +kernel
theorem d41_5 : decode prog_9_method_2_code 5 = .ok (.invokespecial 24, 3) := by decide +kernel
theorem d41_8 : decode prog_9_method_2_code 8 = .ok (.astore_n 2, 1) := by decide +kernel
theorem d41_9 : decode prog_9_method_2_code 9 = .ok (.aload_n 0, 1) := by decide +kernel
theorem d41_10 : decode prog_9_method_2_code 10 = .ok (.getfield 7, 3) := by decide +kernel
theorem d41_13 : decode prog_9_method_2_code 13 = .ok (.invokevirtual 27, 3) := by decide +kernel
theorem d41_16 : decode prog_9_method_2_code 16 = .ok (.ifCond .eq 23, 3) := by decide +kernel
theorem d41_19 : decode prog_9_method_2_code 19 = .ok (.aload_n 0, 1) := by decide +kernel
theorem d41_20 : decode prog_9_method_2_code 20 = .ok (.getfield 16, 3) := by decide +kernel
theorem d41_23 : decode prog_9_method_2_code 23 = .ok (.invokevirtual 27, 3) := by decide +kernel
theorem d41_26 : decode prog_9_method_2_code 26 = .ok (.ifCond .eq 13, 3) := by decide +kernel
theorem d41_29 : decode prog_9_method_2_code 29 = .ok (.aload_n 0, 1) := by decide +kernel
theorem d41_30 : decode prog_9_method_2_code 30 = .ok (.getfield 19, 3) := by decide +kernel
theorem d41_33 : decode prog_9_method_2_code 33 = .ok (.invokevirtual 27, 3) := by decide +kernel
theorem d41_36 : decode prog_9_method_2_code 36 = .ok (.ifCond .ne 99, 3) := by decide +kernel
theorem d41_39 : decode prog_9_method_2_code 39 = .ok (.aload_n 2, 1) := by decide +kernel
theorem d41_40 : decode prog_9_method_2_code 40 = .ok (.bipush 95, 2) := by decide +kernel
theorem d41_42 : decode prog_9_method_2_code 42 = .ok (.invokevirtual 33, 3) := by decide +kernel
theorem d41_45 : decode prog_9_method_2_code 45 = .ok (.aload_n 0, 1) := by decide +kernel
theorem d41_46 : decode prog_9_method_2_code 46 = .ok (.getfield 7, 3) := by decide +kernel
theorem d41_49 : decode prog_9_method_2_code 49 = .ok (.invokevirtual 37, 3) := by decide +kernel
theorem d41_52 : decode prog_9_method_2_code 52 = .ok (.pop, 1) := by decide +kernel
theorem d41_53 : decode prog_9_method_2_code 53 = .ok (.aload_n 0, 1) := by decide +kernel
theorem d41_54 : decode prog_9_method_2_code 54 = .ok (.getfield 13, 3) := by decide +kernel
theorem d41_57 : decode prog_9_method_2_code 57 = .ok (.invokevirtual 27, 3) := by decide +kernel
theorem d41_60 : decode prog_9_method_2_code 60 = .ok (.ifCond .ne 17, 3) := by decide +kernel
theorem d41_63 : decode prog_9_method_2_code 63 = .ok (.aload_n 2, 1) := by decide +kernel
theorem d41_64 : decode prog_9_method_2_code 64 = .ok (.bipush 95, 2) := by decide +kernel
theorem d41_66 : decode prog_9_method_2_code 66 = .ok (.invokevirtual 33, 3) := by decide +kernel
theorem d41_69 : decode prog_9_method_2_code 69 = .ok (.aload_n 0, 1) := by decide +kernel
theorem d41_70 : decode prog_9_method_2_code 70 = .ok (.getfield 13, 3) := by decide +kernel
theorem d41_73 : decode prog_9_method_2_code 73 = .ok (.invokevirtual 37, 3) := by decide +kernel
theorem d41_76 : decode prog_9_method_2_code 76 = .ok (.pop, 1) := by decide +kernel
theorem d41_77 : decode prog_9_method_2_code 77 = .ok (.aload_n 0, 1) := by decide +kernel
theorem d41_78 : decode prog_9_method_2_code 78 = .ok (.getfield 16, 3) := by decide +kernel
theorem d41_81 : decode prog_9_method_2_code 81 = .ok (.invokevirtual 27, 3) := by decide +kernel
theorem d41_84 : decode prog_9_method_2_code 84 = .ok (.ifCond .eq 13, 3) := by decide +kernel
theorem d41_87 : decode prog_9_method_2_code 87 = .ok (.aload_n 0, 1) := by decide +kernel
theorem d41_88 : decode prog_9_method_2_code 88 = .ok (.getfield 19, 3) := by decide +kernel
theorem d41_91 : decode prog_9_method_2_code 91 = .ok (.invokevirtual 27, 3) := by decide +kernel
theorem d41_94 : decode prog_9_method_2_code 94 = .ok (.ifCond .ne 17, 3) := by decide +kernel
theorem d41_97 : decode prog_9_method_2_code 97 = .ok (.aload_n 2, 1) := by decide +kernel
theorem d41_98 : decode prog_9_method_2_code 98 = .ok (.bipush 95, 2) := by decide +kernel
theorem d41_100 : decode prog_9_method_2_code 100 = .ok (.invokevirtual 33, 3) := by decide +kernel
theorem d41_103 : decode prog_9_method_2_code 103 = .ok (.aload_n 0, 1) := by decide +kernel
theorem d41_104 : decode prog_9_method_2_code 104 = .ok (.getfield 16, 3) := by decide +kernel
theorem d41_107 : decode prog_9_method_2_code 107 = .ok (.invokevirtual 37, 3) := by decide +kernel
theorem d41_110 : decode prog_9_method_2_code 110 = .ok (.pop, 1) := by decide +kernel
theorem d41_111 : decode prog_9_method_2_code 111 = .ok (.aload_n 0, 1) := by decide +kernel
theorem d41_112 : decode prog_9_method_2_code 112 = .ok (.getfield 19, 3) := by decide +kernel
theorem d41_115 : decode prog_9_method_2_code 115 = .ok (.invokevirtual 27, 3) := by decide +kernel
theorem d41_118 : decode prog_9_method_2_code 118 = .ok (.ifCond .ne 17, 3) := by decide +kernel
theorem d41_121 : decode prog_9_method_2_code 121 = .ok (.aload_n 2, 1) := by decide +kernel
theorem d41_122 : decode prog_9_method_2_code 122 = .ok (.bipush 95, 2) := by decide +kernel
theorem d41_124 : decode prog_9_method_2_code 124 = .ok (.invokevirtual 33, 3) := by decide +kernel
theorem d41_127 : decode prog_9_method_2_code 127 = .ok (.aload_n 0, 1) := by decide +kernel
theorem d41_128 : decode prog_9_method_2_code 128 = .ok (.getfield 19, 3) := by decide +kernel
theorem d41_131 : decode prog_9_method_2_code 131 = .ok (.invokevirtual 37, 3) := by decide +kernel
theorem d41_134 : decode prog_9_method_2_code 134 = .ok (.pop, 1) := by decide +kernel
theorem d41_135 : decode prog_9_method_2_code 135 = .ok (.aload_n 2, 1) := by decide +kernel
theorem d41_136 : decode prog_9_method_2_code 136 = .ok (.invokevirtual 40, 3) := by decide +kernel
theorem d41_139 : decode prog_9_method_2_code 139 = .ok (.areturn, 1) := by decide +kernel
theorem ef_42 (m : MethodId) (x0 : Nat) (x1 : Nat) : entryFrame m #[(.ref x0), (.ref x1)] 3 = mkF m 0 #[.val (.ref x0), .val (.ref x1), .unset] [] := by first | (simp [entryFrame, mkF, argsToLocals, Value.category]; done) | rfl
set_option maxRecDepth 65536 in
set_option maxHeartbeats 40000000 in
theorem met_bn (l : Launch) (Z : State) (a0 : Array Value) (hw : ∀ d ∈ tables_1, d.before a0 Z = true) (EL : List (String × Nat)) (hEL : EW Z a0 EL) (n0 bk : Nat) (h0 : Heap) (hz0 : Z.heap.size ≤ n0) (hn0 : n0 ≤ h0.size) (a : Nat) (an : Nat) (b : Nat) (s1 : Nat) (s2 : Nat) (s3 : Nat) (s4 : Nat) (nm : List Int32) (gl : List Int32) (gs : List Int32) (gr : List Int32) (gv : List Int32) (z0 : Int32) (F1 : Fld Z h0 a "com/example/rules_for_records/rulesforrecords/messageinterpolation/BundleLookup$Candidate" "language" "Ljava/lang/String;" (.ref s1)) (F2 : Fld Z h0 a "com/example/rules_for_records/rulesforrecords/messageinterpolation/BundleLookup$Candidate" "script" "Ljava/lang/String;" (.ref s2)) (F3 : Fld Z h0 a "com/example/rules_for_records/rulesforrecords/messageinterpolation/BundleLookup$Candidate" "region" "Ljava/lang/String;" (.ref s3)) (F4 : Fld Z h0 a "com/example/rules_for_records/rulesforrecords/messageinterpolation/BundleLookup$Candidate" "variant" "Ljava/lang/String;" (.ref s4)) (S1 : Str Z h0 b s1 gl) (S2 : Str Z h0 b s2 gs) (S3 : Str Z h0 b s3 gr) (S4 : Str Z h0 b s4 gv) (Sn : Str Z h0 b an nm) (hbs : b ≤ h0.size) (hab : a < b) (hnm : nm.length ≤ 2) (hl1 : gl.length ≤ 1) (hl2 : gs.length ≤ 1) (hl3 : gr.length ≤ 1) (hl4 : gv.length ≤ 1) (hbk : bk ≤ h0.size) (SC : Sta Z Z.heap "java/lang/String" "COMPACT_STRINGS" "Z" (.int z0)) (hzc : ¬ z0 = 0) : Met l Z EL (⟨"com/example/rules_for_records/rulesforrecords/messageinterpolation/BundleLookup$Candidate", "bundleName", "(Ljava/lang/String;)Ljava/lang/String;"⟩ : MethodName) prog_9_method_2_code 3 (some (.object "java/lang/String")) [] ({ frames := 8, cells := 4, slots := 36, locals := 117 } : Room) #[(.ref a), (.ref an)] n0 bk h0 (fun _ => bk) (fun v h => ∃ a, v = some (.ref a) ∧ Str Z h h.size a (own_bn nm gl gs gr gv)) := by
  refine Met.intro (plainFor_of_name pn_8) (fun m => ef_42 m a an) hz0 hEL ?_
  intro p e s m below meth c C
  refine C.newo 3 d41_0 (hw _ (List.mem_of_getElem? (i := 53) rfl)) (hw _ (List.mem_of_getElem? (i := 54) rfl)) (hw _ (List.mem_of_getElem? (i := 55) rfl)) (by decide) (by decide) ?_
  intro sb hs1 g_sb Es1 X_sb Ds1
  have lt_sb : sb < hs1.size := X_sb.lt
  have sz_hs1 : h0.size ≤ hs1.size := Es1.1
  replace F1 := F1.ext Es1
  replace F2 := F2.ext Es1
  replace F3 := F3.ext Es1
  replace F4 := F4.ext Es1
  replace S1 := S1.ext Es1
  replace S2 := S2.ext Es1
  replace S3 := S3.ext Es1
  replace S4 := S4.ext Es1
  replace Sn := Sn.ext Es1
  have fv : Fld Z hs1 sb "java/lang/AbstractStringBuilder" "value" "[B" .null := Ds1 (Or.inl (hw _ (List.mem_of_getElem? (i := 81) rfl))) (ty := (.array .byte)) (by decide)
  have fc : Fld Z hs1 sb "java/lang/AbstractStringBuilder" "coder" "B" (.int (0 : Int32)) := Ds1 (Or.inl (hw _ (List.mem_of_getElem? (i := 79) rfl))) (ty := .byte) (by decide)
  have fn : Fld Z hs1 sb "java/lang/AbstractStringBuilder" "count" "I" (.int (0 : Int32)) := Ds1 (Or.inl (hw _ (List.mem_of_getElem? (i := 97) rfl))) (ty := .int) (by decide)
  refine C.dup 4 d41_3 rfl ?_
  refine C.aloadN 5 d41_4 rfl rfl ?_
  refine C.callI (b := sb) 8 [(.ref an)] [(.ref sb)] d41_5 (met_sbi l Z a0 hw EL hEL sb bk hs1 (by omega) (by omega) sb an b nm z0 X_sb fv fc fn (by omega) Sn (by omega) (by omega) (by omega) SC hzc) rfl (by omega) (Or.inl (Nat.le_refl _)) (hw _ (List.mem_of_getElem? (i := 56) rfl)) (hw _ (List.mem_of_getElem? (i := 57) rfl)) (hw _ (List.mem_of_getElem? (i := 55) rfl)) (hw _ (List.mem_of_getElem? (i := 58) rfl)) (by decide) rfl (lenOf pd__Ljava_lang_String_rV rfl) (by decide) (W := 1) (Nat.le_of_eq rfl) (by decide) (by decide) (by decide) rfl ?_
  rintro _ hs2 Ks2 ⟨t, rfl, gt, B, Kqs⟩
  have sz_hs2 : hs1.size ≤ hs2.size := Kqs.1
  replace F1 := own_fld Kqs F1 (by first | omega | (dsimp only; omega))
  replace F2 := own_fld Kqs F2 (by first | omega | (dsimp only; omega))
  replace F3 := own_fld Kqs F3 (by first | omega | (dsimp only; omega))
  replace F4 := own_fld Kqs F4 (by first | omega | (dsimp only; omega))
  replace S1 := S1.kp Kqs (fun x q => by first | omega | (dsimp only; omega))
  replace S2 := S2.kp Kqs (fun x q => by first | omega | (dsimp only; omega))
  replace S3 := S3.kp Kqs (fun x q => by first | omega | (dsimp only; omega))
  replace S4 := S4.kp Kqs (fun x q => by first | omega | (dsimp only; omega))
  replace Sn := Sn.kp Kqs (fun x q => by first | omega | (dsimp only; omega))
  have l1 := B.lts
  have l2 := B.ltt
  refine C.astoreN 9 (L' := #[.val (.ref a), .val (.ref an), .val (.ref sb)]) d41_8 rfl rfl ?_
  have L135 : ∀ (cs : List Int32) (hh : Heap), (SB Z hh sb t (nm.length + 16) cs) → (Fld Z hh a "com/example/rules_for_records/rulesforrecords/messageinterpolation/BundleLookup$Candidate" "language" "Ljava/lang/String;" (.ref s1)) → (Fld Z hh a "com/example/rules_for_records/rulesforrecords/messageinterpolation/BundleLookup$Candidate" "script" "Ljava/lang/String;" (.ref s2)) → (Fld Z hh a "com/example/rules_for_records/rulesforrecords/messageinterpolation/BundleLookup$Candidate" "region" "Ljava/lang/String;" (.ref s3)) → (Fld Z hh a "com/example/rules_for_records/rulesforrecords/messageinterpolation/BundleLookup$Candidate" "variant" "Ljava/lang/String;" (.ref s4)) → (Str Z hh b s1 gl) → (Str Z hh b s2 gs) → (Str Z hh b s3 gr) → (Str Z hh b s4 gv) → (h0.size ≤ hh.size) → (own_bn nm gl gs gr gv = cs) → (cs.length ≤ 10) → Go p l e ({ frames := 8, cells := 4, slots := 36, locals := 117 } : Room) s m #[(.ref a), (.ref an)] below meth c Z "com/example/rules_for_records/rulesforrecords/messageinterpolation/BundleLookup$Candidate" EL n0 (fun _ => bk) (fun v h => ∃ a, v = some (.ref a) ∧ Str Z h h.size a (own_bn nm gl gs gr gv)) bk hh 2 22 135 #[.val (.ref a), .val (.ref an), .val (.ref sb)] [] := by
    intro cs hh B F1 F2 F3 F4 S1 S2 S3 S4 szh hcs hln
    refine C.aloadN 136 d41_135 rfl rfl ?_
    refine C.callV (b := hh.size) 139 [] [] d41_136 (met_ts l Z a0 hw EL hEL hh.size bk hh (by omega) (by omega) sb t _ _ z0 B (by omega) hln (by omega) SC hzc) B.1 (by omega) (Or.inl (Nat.le_refl _)) (hw _ (List.mem_of_getElem? (i := 128) rfl)) (hw _ (List.mem_of_getElem? (i := 129) rfl)) (hw _ (List.mem_of_getElem? (i := 131) rfl)) (hw _ (List.mem_of_getElem? (i := 130) rfl)) (hw _ (List.mem_of_getElem? (i := 55) rfl)) (hw _ (List.mem_of_getElem? (i := 132) rfl)) (fun hZ => notFace_of_selects (args := #[]) (mvT hZ (hw _ (List.mem_of_getElem? (i := 131) rfl)))) (by decide) rfl (lenOf pd___rLjava_lang_String rfl) (by decide) (W := 0) (Nat.le_of_eq rfl) (by decide) (by decide) (by decide) rfl ?_
    rintro _ hr Kr ⟨a_, rfl, Sr⟩
    have sz_hr : hh.size ≤ hr.size := Kr.1
    replace F1 := own_fld Kr F1 (by first | omega | (dsimp only; omega))
    replace F2 := own_fld Kr F2 (by first | omega | (dsimp only; omega))
    replace F3 := own_fld Kr F3 (by first | omega | (dsimp only; omega))
    replace F4 := own_fld Kr F4 (by first | omega | (dsimp only; omega))
    replace S1 := S1.kp Kr (fun x q => by first | omega | (dsimp only; omega))
    replace S2 := S2.kp Kr (fun x q => by first | omega | (dsimp only; omega))
    replace S3 := S3.kp Kr (fun x q => by first | omega | (dsimp only; omega))
    replace S4 := S4.kp Kr (fun x q => by first | omega | (dsimp only; omega))
    refine C.retA rfl rfl d41_139 rfl (by decide) (by decide) (Or.inl (Nat.le_refl _)) ?_
    exact ⟨a_, rfl, by rw [hcs]; exact Sr⟩
  have L111 : ∀ (cs : List Int32) (hh : Heap), (SB Z hh sb t (nm.length + 16) cs) → (Fld Z hh a "com/example/rules_for_records/rulesforrecords/messageinterpolation/BundleLookup$Candidate" "language" "Ljava/lang/String;" (.ref s1)) → (Fld Z hh a "com/example/rules_for_records/rulesforrecords/messageinterpolation/BundleLookup$Candidate" "script" "Ljava/lang/String;" (.ref s2)) → (Fld Z hh a "com/example/rules_for_records/rulesforrecords/messageinterpolation/BundleLookup$Candidate" "region" "Ljava/lang/String;" (.ref s3)) → (Fld Z hh a "com/example/rules_for_records/rulesforrecords/messageinterpolation/BundleLookup$Candidate" "variant" "Ljava/lang/String;" (.ref s4)) → (Str Z hh b s1 gl) → (Str Z hh b s2 gs) → (Str Z hh b s3 gr) → (Str Z hh b s4 gv) → (h0.size ≤ hh.size) → (own_bn nm gl gs gr gv = cs ++ own_opt (gv = []) gv) → (cs.length ≤ 8) → Go p l e ({ frames := 8, cells := 4, slots := 36, locals := 117 } : Room) s m #[(.ref a), (.ref an)] below meth c Z "com/example/rules_for_records/rulesforrecords/messageinterpolation/BundleLookup$Candidate" EL n0 (fun _ => bk) (fun v h => ∃ a, v = some (.ref a) ∧ Str Z h h.size a (own_bn nm gl gs gr gv)) bk hh 2 22 111 #[.val (.ref a), .val (.ref an), .val (.ref sb)] [] := by
    intro cs hh B F1 F2 F3 F4 S1 S2 S3 S4 szh hcs hln
    refine C.aloadN 112 d41_111 rfl rfl ?_
    refine C.getf 115 d41_112 (hw _ (List.mem_of_getElem? (i := 46) rfl)) Via.refl F4 ?_
    refine C.callV (b := hh.size) 118 [] [] d41_115 (met_emp l Z a0 hw EL hEL hh.size bk hh (by omega) (by omega) s4 b _ S4) S4.exa (by omega) (Or.inl (Nat.le_refl _)) (hw _ (List.mem_of_getElem? (i := 123) rfl)) (hw _ (List.mem_of_getElem? (i := 124) rfl)) (hw _ (List.mem_of_getElem? (i := 126) rfl)) (hw _ (List.mem_of_getElem? (i := 125) rfl)) (hw _ (List.mem_of_getElem? (i := 2) rfl)) (hw _ (List.mem_of_getElem? (i := 127) rfl)) (fun hZ => notFace_of_selects (args := #[]) (mvT hZ (hw _ (List.mem_of_getElem? (i := 126) rfl)))) (by decide) rfl (lenOf pd___rZ rfl) (by decide) (W := 0) (Nat.le_of_eq rfl) (by decide) (by decide) (by decide) rfl ?_
    rintro _ h115_5 K115_5 ⟨e7, rfl, he7, rfl⟩
    rcases Decidable.em (e7 = 0) with h118 | h118
    · skip
      refine C.ifN 121 d41_118 rfl (XT.i0_ne_f h118) ?_
      refine C.aloadN 122 d41_121 rfl rfl ?_
      refine C.bipush 124 (95 : Int32) d41_122 (by decide) ?_
      refine C.callV (b := n0) 127 [(.int (95 : Int32))] [] d41_124 (met_sbc l Z a0 hw EL hEL n0 bk hh (by omega) (by omega) sb t _ _ 95 z0 B (by decide) (by decide) (by first | omega | (simp; omega)) (by omega) (by omega) (by omega) (by omega) SC hzc) B.1 (by omega) (Or.inl (Nat.le_refl _)) (hw _ (List.mem_of_getElem? (i := 219) rfl)) (hw _ (List.mem_of_getElem? (i := 220) rfl)) (hw _ (List.mem_of_getElem? (i := 222) rfl)) (hw _ (List.mem_of_getElem? (i := 221) rfl)) (hw _ (List.mem_of_getElem? (i := 55) rfl)) (hw _ (List.mem_of_getElem? (i := 223) rfl)) (fun hZ => notFace_of_selects (args := #[]) (mvT hZ (hw _ (List.mem_of_getElem? (i := 222) rfl)))) (by decide) rfl (lenOf pd__C_rLjava_lang_StringBuilder rfl) (by decide) (W := 0) (Nat.le_of_eq rfl) (by decide) (by decide) (by decide) rfl ?_
      rintro _ hc4 Kc4 ⟨rfl, B2, Kqc4⟩
      have sz_hc4 : hh.size ≤ hc4.size := Kqc4.1
      replace F1 := own_fld Kqc4 F1 (by first | omega | (dsimp only; omega))
      replace F2 := own_fld Kqc4 F2 (by first | omega | (dsimp only; omega))
      replace F3 := own_fld Kqc4 F3 (by first | omega | (dsimp only; omega))
      replace F4 := own_fld Kqc4 F4 (by first | omega | (dsimp only; omega))
      replace S1 := S1.kp Kqc4 (fun x q => by first | omega | (dsimp only; omega))
      replace S2 := S2.kp Kqc4 (fun x q => by first | omega | (dsimp only; omega))
      replace S3 := S3.kp Kqc4 (fun x q => by first | omega | (dsimp only; omega))
      replace S4 := S4.kp Kqc4 (fun x q => by first | omega | (dsimp only; omega))
      replace B := B2
      refine C.aloadN 128 d41_127 rfl rfl ?_
      refine C.getf 131 d41_128 (hw _ (List.mem_of_getElem? (i := 46) rfl)) Via.refl F4 ?_
      refine C.callV (b := n0) 134 [(.ref s4)] [] d41_131 (met_sba l Z a0 hw EL hEL n0 bk hc4 (by omega) (by omega) sb t _ _ s4 b _ z0 B S4 (by first | omega | (simp; omega)) (by omega) (by omega) (by omega) (by omega) SC hzc) B.1 (by omega) (Or.inl (Nat.le_refl _)) (hw _ (List.mem_of_getElem? (i := 230) rfl)) (hw _ (List.mem_of_getElem? (i := 89) rfl)) (hw _ (List.mem_of_getElem? (i := 91) rfl)) (hw _ (List.mem_of_getElem? (i := 90) rfl)) (hw _ (List.mem_of_getElem? (i := 55) rfl)) (hw _ (List.mem_of_getElem? (i := 92) rfl)) (fun hZ => notFace_of_selects (args := #[]) (mvT hZ (hw _ (List.mem_of_getElem? (i := 91) rfl)))) (by decide) rfl (lenOf pd__Ljava_lang_String_rLjava_lang_StringBuilder rfl) (by decide) (W := 0) (Nat.le_of_eq rfl) (by decide) (by decide) (by decide) rfl ?_
      rintro _ hd4 Kd4 ⟨rfl, B2, Kqd4⟩
      have sz_hd4 : hc4.size ≤ hd4.size := Kqd4.1
      replace F1 := own_fld Kqd4 F1 (by first | omega | (dsimp only; omega))
      replace F2 := own_fld Kqd4 F2 (by first | omega | (dsimp only; omega))
      replace F3 := own_fld Kqd4 F3 (by first | omega | (dsimp only; omega))
      replace F4 := own_fld Kqd4 F4 (by first | omega | (dsimp only; omega))
      replace S1 := S1.kp Kqd4 (fun x q => by first | omega | (dsimp only; omega))
      replace S2 := S2.kp Kqd4 (fun x q => by first | omega | (dsimp only; omega))
      replace S3 := S3.kp Kqd4 (fun x q => by first | omega | (dsimp only; omega))
      replace S4 := S4.kp Kqd4 (fun x q => by first | omega | (dsimp only; omega))
      replace B := B2
      refine C.pop 135 d41_134 rfl ?_
      exact L135 _ hd4 B F1 F2 F3 F4 S1 S2 S3 S4 (by omega) (by rw [hcs, own_opt, if_neg (he7.n h118)]; simp) (by first | omega | (simp; done) | (simp; omega))
    · skip
      refine C.ifY 135 d41_118 (by decide) (by decide) (XT.i0_ne_t h118) ?_
      exact L135 _ hh B F1 F2 F3 F4 S1 S2 S3 S4 (by omega) (by rw [hcs, own_opt, if_pos (he7.y h118), List.append_nil]) (by first | omega | (simp; done) | (simp; omega))
  have L77 : ∀ (cs : List Int32) (hh : Heap), (SB Z hh sb t (nm.length + 16) cs) → (Fld Z hh a "com/example/rules_for_records/rulesforrecords/messageinterpolation/BundleLookup$Candidate" "language" "Ljava/lang/String;" (.ref s1)) → (Fld Z hh a "com/example/rules_for_records/rulesforrecords/messageinterpolation/BundleLookup$Candidate" "script" "Ljava/lang/String;" (.ref s2)) → (Fld Z hh a "com/example/rules_for_records/rulesforrecords/messageinterpolation/BundleLookup$Candidate" "region" "Ljava/lang/String;" (.ref s3)) → (Fld Z hh a "com/example/rules_for_records/rulesforrecords/messageinterpolation/BundleLookup$Candidate" "variant" "Ljava/lang/String;" (.ref s4)) → (Str Z hh b s1 gl) → (Str Z hh b s2 gs) → (Str Z hh b s3 gr) → (Str Z hh b s4 gv) → (h0.size ≤ hh.size) → (own_bn nm gl gs gr gv = cs ++ own_opt (gr = [] ∧ gv = []) gr ++ own_opt (gv = []) gv) → (cs.length ≤ 6) → Go p l e ({ frames := 8, cells := 4, slots := 36, locals := 117 } : Room) s m #[(.ref a), (.ref an)] below meth c Z "com/example/rules_for_records/rulesforrecords/messageinterpolation/BundleLookup$Candidate" EL n0 (fun _ => bk) (fun v h => ∃ a, v = some (.ref a) ∧ Str Z h h.size a (own_bn nm gl gs gr gv)) bk hh 2 22 77 #[.val (.ref a), .val (.ref an), .val (.ref sb)] [] := by
    intro cs hh B F1 F2 F3 F4 S1 S2 S3 S4 szh hcs hln
    refine C.aloadN 78 d41_77 rfl rfl ?_
    refine C.getf 81 d41_78 (hw _ (List.mem_of_getElem? (i := 44) rfl)) Via.refl F3 ?_
    refine C.callV (b := hh.size) 84 [] [] d41_81 (met_emp l Z a0 hw EL hEL hh.size bk hh (by omega) (by omega) s3 b _ S3) S3.exa (by omega) (Or.inl (Nat.le_refl _)) (hw _ (List.mem_of_getElem? (i := 123) rfl)) (hw _ (List.mem_of_getElem? (i := 124) rfl)) (hw _ (List.mem_of_getElem? (i := 126) rfl)) (hw _ (List.mem_of_getElem? (i := 125) rfl)) (hw _ (List.mem_of_getElem? (i := 2) rfl)) (hw _ (List.mem_of_getElem? (i := 127) rfl)) (fun hZ => notFace_of_selects (args := #[]) (mvT hZ (hw _ (List.mem_of_getElem? (i := 126) rfl)))) (by decide) rfl (lenOf pd___rZ rfl) (by decide) (W := 0) (Nat.le_of_eq rfl) (by decide) (by decide) (by decide) rfl ?_
    rintro _ h81_10 K81_10 ⟨e5, rfl, he5, rfl⟩
    rcases Decidable.em (e5 = 0) with h84 | h84
    · skip
      refine C.ifY 97 d41_84 (by decide) (by decide) (XT.i0_eq_t h84) ?_
      refine C.aloadN 98 d41_97 rfl rfl ?_
      refine C.bipush 100 (95 : Int32) d41_98 (by decide) ?_
      refine C.callV (b := n0) 103 [(.int (95 : Int32))] [] d41_100 (met_sbc l Z a0 hw EL hEL n0 bk hh (by omega) (by omega) sb t _ _ 95 z0 B (by decide) (by decide) (by first | omega | (simp; omega)) (by omega) (by omega) (by omega) (by omega) SC hzc) B.1 (by omega) (Or.inl (Nat.le_refl _)) (hw _ (List.mem_of_getElem? (i := 219) rfl)) (hw _ (List.mem_of_getElem? (i := 220) rfl)) (hw _ (List.mem_of_getElem? (i := 222) rfl)) (hw _ (List.mem_of_getElem? (i := 221) rfl)) (hw _ (List.mem_of_getElem? (i := 55) rfl)) (hw _ (List.mem_of_getElem? (i := 223) rfl)) (fun hZ => notFace_of_selects (args := #[]) (mvT hZ (hw _ (List.mem_of_getElem? (i := 222) rfl)))) (by decide) rfl (lenOf pd__C_rLjava_lang_StringBuilder rfl) (by decide) (W := 0) (Nat.le_of_eq rfl) (by decide) (by decide) (by decide) rfl ?_
      rintro _ hc3 Kc3 ⟨rfl, B2, Kqc3⟩
      have sz_hc3 : hh.size ≤ hc3.size := Kqc3.1
      replace F1 := own_fld Kqc3 F1 (by first | omega | (dsimp only; omega))
      replace F2 := own_fld Kqc3 F2 (by first | omega | (dsimp only; omega))
      replace F3 := own_fld Kqc3 F3 (by first | omega | (dsimp only; omega))
      replace F4 := own_fld Kqc3 F4 (by first | omega | (dsimp only; omega))
      replace S1 := S1.kp Kqc3 (fun x q => by first | omega | (dsimp only; omega))
      replace S2 := S2.kp Kqc3 (fun x q => by first | omega | (dsimp only; omega))
      replace S3 := S3.kp Kqc3 (fun x q => by first | omega | (dsimp only; omega))
      replace S4 := S4.kp Kqc3 (fun x q => by first | omega | (dsimp only; omega))
      replace B := B2
      refine C.aloadN 104 d41_103 rfl rfl ?_
      refine C.getf 107 d41_104 (hw _ (List.mem_of_getElem? (i := 44) rfl)) Via.refl F3 ?_
      refine C.callV (b := n0) 110 [(.ref s3)] [] d41_107 (met_sba l Z a0 hw EL hEL n0 bk hc3 (by omega) (by omega) sb t _ _ s3 b _ z0 B S3 (by first | omega | (simp; omega)) (by omega) (by omega) (by omega) (by omega) SC hzc) B.1 (by omega) (Or.inl (Nat.le_refl _)) (hw _ (List.mem_of_getElem? (i := 230) rfl)) (hw _ (List.mem_of_getElem? (i := 89) rfl)) (hw _ (List.mem_of_getElem? (i := 91) rfl)) (hw _ (List.mem_of_getElem? (i := 90) rfl)) (hw _ (List.mem_of_getElem? (i := 55) rfl)) (hw _ (List.mem_of_getElem? (i := 92) rfl)) (fun hZ => notFace_of_selects (args := #[]) (mvT hZ (hw _ (List.mem_of_getElem? (i := 91) rfl)))) (by decide) rfl (lenOf pd__Ljava_lang_String_rLjava_lang_StringBuilder rfl) (by decide) (W := 0) (Nat.le_of_eq rfl) (by decide) (by decide) (by decide) rfl ?_
      rintro _ hd3 Kd3 ⟨rfl, B2, Kqd3⟩
      have sz_hd3 : hc3.size ≤ hd3.size := Kqd3.1
      replace F1 := own_fld Kqd3 F1 (by first | omega | (dsimp only; omega))
      replace F2 := own_fld Kqd3 F2 (by first | omega | (dsimp only; omega))
      replace F3 := own_fld Kqd3 F3 (by first | omega | (dsimp only; omega))
      replace F4 := own_fld Kqd3 F4 (by first | omega | (dsimp only; omega))
      replace S1 := S1.kp Kqd3 (fun x q => by first | omega | (dsimp only; omega))
      replace S2 := S2.kp Kqd3 (fun x q => by first | omega | (dsimp only; omega))
      replace S3 := S3.kp Kqd3 (fun x q => by first | omega | (dsimp only; omega))
      replace S4 := S4.kp Kqd3 (fun x q => by first | omega | (dsimp only; omega))
      replace B := B2
      refine C.pop 111 d41_110 rfl ?_
      exact L111 _ hd3 B F1 F2 F3 F4 S1 S2 S3 S4 (by omega) (by rw [hcs, own_opt, if_neg (fun q => he5.n h84 q.1)]; simp) (by first | omega | (simp; done) | (simp; omega))
    · skip
      refine C.ifN 87 d41_84 rfl (XT.i0_eq_f h84) ?_
      refine C.aloadN 88 d41_87 rfl rfl ?_
      refine C.getf 91 d41_88 (hw _ (List.mem_of_getElem? (i := 46) rfl)) Via.refl F4 ?_
      refine C.callV (b := hh.size) 94 [] [] d41_91 (met_emp l Z a0 hw EL hEL hh.size bk hh (by omega) (by omega) s4 b _ S4) S4.exa (by omega) (Or.inl (Nat.le_refl _)) (hw _ (List.mem_of_getElem? (i := 123) rfl)) (hw _ (List.mem_of_getElem? (i := 124) rfl)) (hw _ (List.mem_of_getElem? (i := 126) rfl)) (hw _ (List.mem_of_getElem? (i := 125) rfl)) (hw _ (List.mem_of_getElem? (i := 2) rfl)) (hw _ (List.mem_of_getElem? (i := 127) rfl)) (fun hZ => notFace_of_selects (args := #[]) (mvT hZ (hw _ (List.mem_of_getElem? (i := 126) rfl)))) (by decide) rfl (lenOf pd___rZ rfl) (by decide) (W := 0) (Nat.le_of_eq rfl) (by decide) (by decide) (by decide) rfl ?_
      rintro _ h91_15 K91_15 ⟨e6, rfl, he6, rfl⟩
      rcases Decidable.em (e6 = 0) with h94 | h94
      · skip
        refine C.ifN 97 d41_94 rfl (XT.i0_ne_f h94) ?_
        refine C.aloadN 98 d41_97 rfl rfl ?_
        refine C.bipush 100 (95 : Int32) d41_98 (by decide) ?_
        refine C.callV (b := n0) 103 [(.int (95 : Int32))] [] d41_100 (met_sbc l Z a0 hw EL hEL n0 bk hh (by omega) (by omega) sb t _ _ 95 z0 B (by decide) (by decide) (by first | omega | (simp; omega)) (by omega) (by omega) (by omega) (by omega) SC hzc) B.1 (by omega) (Or.inl (Nat.le_refl _)) (hw _ (List.mem_of_getElem? (i := 219) rfl)) (hw _ (List.mem_of_getElem? (i := 220) rfl)) (hw _ (List.mem_of_getElem? (i := 222) rfl)) (hw _ (List.mem_of_getElem? (i := 221) rfl)) (hw _ (List.mem_of_getElem? (i := 55) rfl)) (hw _ (List.mem_of_getElem? (i := 223) rfl)) (fun hZ => notFace_of_selects (args := #[]) (mvT hZ (hw _ (List.mem_of_getElem? (i := 222) rfl)))) (by decide) rfl (lenOf pd__C_rLjava_lang_StringBuilder rfl) (by decide) (W := 0) (Nat.le_of_eq rfl) (by decide) (by decide) (by decide) rfl ?_
        rintro _ hc3 Kc3 ⟨rfl, B2, Kqc3⟩
        have sz_hc3 : hh.size ≤ hc3.size := Kqc3.1
        replace F1 := own_fld Kqc3 F1 (by first | omega | (dsimp only; omega))
        replace F2 := own_fld Kqc3 F2 (by first | omega | (dsimp only; omega))
        replace F3 := own_fld Kqc3 F3 (by first | omega | (dsimp only; omega))
        replace F4 := own_fld Kqc3 F4 (by first | omega | (dsimp only; omega))
        replace S1 := S1.kp Kqc3 (fun x q => by first | omega | (dsimp only; omega))
        replace S2 := S2.kp Kqc3 (fun x q => by first | omega | (dsimp only; omega))
        replace S3 := S3.kp Kqc3 (fun x q => by first | omega | (dsimp only; omega))
        replace S4 := S4.kp Kqc3 (fun x q => by first | omega | (dsimp only; omega))
        replace B := B2
        refine C.aloadN 104 d41_103 rfl rfl ?_
        refine C.getf 107 d41_104 (hw _ (List.mem_of_getElem? (i := 44) rfl)) Via.refl F3 ?_
        refine C.callV (b := n0) 110 [(.ref s3)] [] d41_107 (met_sba l Z a0 hw EL hEL n0 bk hc3 (by omega) (by omega) sb t _ _ s3 b _ z0 B S3 (by first | omega | (simp; omega)) (by omega) (by omega) (by omega) (by omega) SC hzc) B.1 (by omega) (Or.inl (Nat.le_refl _)) (hw _ (List.mem_of_getElem? (i := 230) rfl)) (hw _ (List.mem_of_getElem? (i := 89) rfl)) (hw _ (List.mem_of_getElem? (i := 91) rfl)) (hw _ (List.mem_of_getElem? (i := 90) rfl)) (hw _ (List.mem_of_getElem? (i := 55) rfl)) (hw _ (List.mem_of_getElem? (i := 92) rfl)) (fun hZ => notFace_of_selects (args := #[]) (mvT hZ (hw _ (List.mem_of_getElem? (i := 91) rfl)))) (by decide) rfl (lenOf pd__Ljava_lang_String_rLjava_lang_StringBuilder rfl) (by decide) (W := 0) (Nat.le_of_eq rfl) (by decide) (by decide) (by decide) rfl ?_
        rintro _ hd3 Kd3 ⟨rfl, B2, Kqd3⟩
        have sz_hd3 : hc3.size ≤ hd3.size := Kqd3.1
        replace F1 := own_fld Kqd3 F1 (by first | omega | (dsimp only; omega))
        replace F2 := own_fld Kqd3 F2 (by first | omega | (dsimp only; omega))
        replace F3 := own_fld Kqd3 F3 (by first | omega | (dsimp only; omega))
        replace F4 := own_fld Kqd3 F4 (by first | omega | (dsimp only; omega))
        replace S1 := S1.kp Kqd3 (fun x q => by first | omega | (dsimp only; omega))
        replace S2 := S2.kp Kqd3 (fun x q => by first | omega | (dsimp only; omega))
        replace S3 := S3.kp Kqd3 (fun x q => by first | omega | (dsimp only; omega))
        replace S4 := S4.kp Kqd3 (fun x q => by first | omega | (dsimp only; omega))
        replace B := B2
        refine C.pop 111 d41_110 rfl ?_
        exact L111 _ hd3 B F1 F2 F3 F4 S1 S2 S3 S4 (by omega) (by rw [hcs, own_opt, if_neg (fun q => he6.n h94 q.2)]; simp) (by first | omega | (simp; done) | (simp; omega))
      · skip
        refine C.ifY 111 d41_94 (by decide) (by decide) (XT.i0_ne_t h94) ?_
        exact L111 _ hh B F1 F2 F3 F4 S1 S2 S3 S4 (by omega) (by rw [hcs, own_opt, if_pos ⟨he5.y h84, he6.y h94⟩, List.append_nil]) (by first | omega | (simp; done) | (simp; omega))
  have L39 : (¬ (gl = [] ∧ gr = [] ∧ gv = [])) → Go p l e ({ frames := 8, cells := 4, slots := 36, locals := 117 } : Room) s m #[(.ref a), (.ref an)] below meth c Z "com/example/rules_for_records/rulesforrecords/messageinterpolation/BundleLookup$Candidate" EL n0 (fun _ => bk) (fun v h => ∃ a, v = some (.ref a) ∧ Str Z h h.size a (own_bn nm gl gs gr gv)) bk hs2 2 22 39 #[.val (.ref a), .val (.ref an), .val (.ref sb)] [] := by
    intro hne
    refine C.aloadN 40 d41_39 rfl rfl ?_
    refine C.bipush 42 (95 : Int32) d41_40 (by decide) ?_
    refine C.callV (b := n0) 45 [(.int (95 : Int32))] [] d41_42 (met_sbc l Z a0 hw EL hEL n0 bk hs2 (by omega) (by omega) sb t _ _ 95 z0 B (by decide) (by decide) (by first | omega | (simp; omega)) (by omega) (by omega) (by omega) (by omega) SC hzc) B.1 (by omega) (Or.inl (Nat.le_refl _)) (hw _ (List.mem_of_getElem? (i := 219) rfl)) (hw _ (List.mem_of_getElem? (i := 220) rfl)) (hw _ (List.mem_of_getElem? (i := 222) rfl)) (hw _ (List.mem_of_getElem? (i := 221) rfl)) (hw _ (List.mem_of_getElem? (i := 55) rfl)) (hw _ (List.mem_of_getElem? (i := 223) rfl)) (fun hZ => notFace_of_selects (args := #[]) (mvT hZ (hw _ (List.mem_of_getElem? (i := 222) rfl)))) (by decide) rfl (lenOf pd__C_rLjava_lang_StringBuilder rfl) (by decide) (W := 0) (Nat.le_of_eq rfl) (by decide) (by decide) (by decide) rfl ?_
    rintro _ hc1 Kc1 ⟨rfl, B2, Kqc1⟩
    have sz_hc1 : hs2.size ≤ hc1.size := Kqc1.1
    replace F1 := own_fld Kqc1 F1 (by first | omega | (dsimp only; omega))
    replace F2 := own_fld Kqc1 F2 (by first | omega | (dsimp only; omega))
    replace F3 := own_fld Kqc1 F3 (by first | omega | (dsimp only; omega))
    replace F4 := own_fld Kqc1 F4 (by first | omega | (dsimp only; omega))
    replace S1 := S1.kp Kqc1 (fun x q => by first | omega | (dsimp only; omega))
    replace S2 := S2.kp Kqc1 (fun x q => by first | omega | (dsimp only; omega))
    replace S3 := S3.kp Kqc1 (fun x q => by first | omega | (dsimp only; omega))
    replace S4 := S4.kp Kqc1 (fun x q => by first | omega | (dsimp only; omega))
    replace B := B2
    refine C.aloadN 46 d41_45 rfl rfl ?_
    refine C.getf 49 d41_46 (hw _ (List.mem_of_getElem? (i := 40) rfl)) Via.refl F1 ?_
    refine C.callV (b := n0) 52 [(.ref s1)] [] d41_49 (met_sba l Z a0 hw EL hEL n0 bk hc1 (by omega) (by omega) sb t _ _ s1 b _ z0 B S1 (by first | omega | (simp; omega)) (by omega) (by omega) (by omega) (by omega) SC hzc) B.1 (by omega) (Or.inl (Nat.le_refl _)) (hw _ (List.mem_of_getElem? (i := 230) rfl)) (hw _ (List.mem_of_getElem? (i := 89) rfl)) (hw _ (List.mem_of_getElem? (i := 91) rfl)) (hw _ (List.mem_of_getElem? (i := 90) rfl)) (hw _ (List.mem_of_getElem? (i := 55) rfl)) (hw _ (List.mem_of_getElem? (i := 92) rfl)) (fun hZ => notFace_of_selects (args := #[]) (mvT hZ (hw _ (List.mem_of_getElem? (i := 91) rfl)))) (by decide) rfl (lenOf pd__Ljava_lang_String_rLjava_lang_StringBuilder rfl) (by decide) (W := 0) (Nat.le_of_eq rfl) (by decide) (by decide) (by decide) rfl ?_
    rintro _ hd1 Kd1 ⟨rfl, B2, Kqd1⟩
    have sz_hd1 : hc1.size ≤ hd1.size := Kqd1.1
    replace F1 := own_fld Kqd1 F1 (by first | omega | (dsimp only; omega))
    replace F2 := own_fld Kqd1 F2 (by first | omega | (dsimp only; omega))
    replace F3 := own_fld Kqd1 F3 (by first | omega | (dsimp only; omega))
    replace F4 := own_fld Kqd1 F4 (by first | omega | (dsimp only; omega))
    replace S1 := S1.kp Kqd1 (fun x q => by first | omega | (dsimp only; omega))
    replace S2 := S2.kp Kqd1 (fun x q => by first | omega | (dsimp only; omega))
    replace S3 := S3.kp Kqd1 (fun x q => by first | omega | (dsimp only; omega))
    replace S4 := S4.kp Kqd1 (fun x q => by first | omega | (dsimp only; omega))
    replace B := B2
    refine C.pop 53 d41_52 rfl ?_
    have hcs0 : own_bn nm gl gs gr gv = nm ++ [95] ++ gl ++ own_opt (gs = []) gs ++ own_opt (gr = [] ∧ gv = []) gr ++ own_opt (gv = []) gv := by rw [own_bn, if_neg hne]; simp
    refine C.aloadN 54 d41_53 rfl rfl ?_
    refine C.getf 57 d41_54 (hw _ (List.mem_of_getElem? (i := 42) rfl)) Via.refl F2 ?_
    refine C.callV (b := hd1.size) 60 [] [] d41_57 (met_emp l Z a0 hw EL hEL hd1.size bk hd1 (by omega) (by omega) s2 b _ S2) S2.exa (by omega) (Or.inl (Nat.le_refl _)) (hw _ (List.mem_of_getElem? (i := 123) rfl)) (hw _ (List.mem_of_getElem? (i := 124) rfl)) (hw _ (List.mem_of_getElem? (i := 126) rfl)) (hw _ (List.mem_of_getElem? (i := 125) rfl)) (hw _ (List.mem_of_getElem? (i := 2) rfl)) (hw _ (List.mem_of_getElem? (i := 127) rfl)) (fun hZ => notFace_of_selects (args := #[]) (mvT hZ (hw _ (List.mem_of_getElem? (i := 126) rfl)))) (by decide) rfl (lenOf pd___rZ rfl) (by decide) (W := 0) (Nat.le_of_eq rfl) (by decide) (by decide) (by decide) rfl ?_
    rintro _ h57_23 K57_23 ⟨e4, rfl, he4, rfl⟩
    rcases Decidable.em (e4 = 0) with h60 | h60
    · skip
      refine C.ifN 63 d41_60 rfl (XT.i0_ne_f h60) ?_
      refine C.aloadN 64 d41_63 rfl rfl ?_
      refine C.bipush 66 (95 : Int32) d41_64 (by decide) ?_
      refine C.callV (b := n0) 69 [(.int (95 : Int32))] [] d41_66 (met_sbc l Z a0 hw EL hEL n0 bk hd1 (by omega) (by omega) sb t _ _ 95 z0 B (by decide) (by decide) (by first | omega | (simp; omega)) (by omega) (by omega) (by omega) (by omega) SC hzc) B.1 (by omega) (Or.inl (Nat.le_refl _)) (hw _ (List.mem_of_getElem? (i := 219) rfl)) (hw _ (List.mem_of_getElem? (i := 220) rfl)) (hw _ (List.mem_of_getElem? (i := 222) rfl)) (hw _ (List.mem_of_getElem? (i := 221) rfl)) (hw _ (List.mem_of_getElem? (i := 55) rfl)) (hw _ (List.mem_of_getElem? (i := 223) rfl)) (fun hZ => notFace_of_selects (args := #[]) (mvT hZ (hw _ (List.mem_of_getElem? (i := 222) rfl)))) (by decide) rfl (lenOf pd__C_rLjava_lang_StringBuilder rfl) (by decide) (W := 0) (Nat.le_of_eq rfl) (by decide) (by decide) (by decide) rfl ?_
      rintro _ hc2 Kc2 ⟨rfl, B2, Kqc2⟩
      have sz_hc2 : hd1.size ≤ hc2.size := Kqc2.1
      replace F1 := own_fld Kqc2 F1 (by first | omega | (dsimp only; omega))
      replace F2 := own_fld Kqc2 F2 (by first | omega | (dsimp only; omega))
      replace F3 := own_fld Kqc2 F3 (by first | omega | (dsimp only; omega))
      replace F4 := own_fld Kqc2 F4 (by first | omega | (dsimp only; omega))
      replace S1 := S1.kp Kqc2 (fun x q => by first | omega | (dsimp only; omega))
      replace S2 := S2.kp Kqc2 (fun x q => by first | omega | (dsimp only; omega))
      replace S3 := S3.kp Kqc2 (fun x q => by first | omega | (dsimp only; omega))
      replace S4 := S4.kp Kqc2 (fun x q => by first | omega | (dsimp only; omega))
      replace B := B2
      refine C.aloadN 70 d41_69 rfl rfl ?_
      refine C.getf 73 d41_70 (hw _ (List.mem_of_getElem? (i := 42) rfl)) Via.refl F2 ?_
      refine C.callV (b := n0) 76 [(.ref s2)] [] d41_73 (met_sba l Z a0 hw EL hEL n0 bk hc2 (by omega) (by omega) sb t _ _ s2 b _ z0 B S2 (by first | omega | (simp; omega)) (by omega) (by omega) (by omega) (by omega) SC hzc) B.1 (by omega) (Or.inl (Nat.le_refl _)) (hw _ (List.mem_of_getElem? (i := 230) rfl)) (hw _ (List.mem_of_getElem? (i := 89) rfl)) (hw _ (List.mem_of_getElem? (i := 91) rfl)) (hw _ (List.mem_of_getElem? (i := 90) rfl)) (hw _ (List.mem_of_getElem? (i := 55) rfl)) (hw _ (List.mem_of_getElem? (i := 92) rfl)) (fun hZ => notFace_of_selects (args := #[]) (mvT hZ (hw _ (List.mem_of_getElem? (i := 91) rfl)))) (by decide) rfl (lenOf pd__Ljava_lang_String_rLjava_lang_StringBuilder rfl) (by decide) (W := 0) (Nat.le_of_eq rfl) (by decide) (by decide) (by decide) rfl ?_
      rintro _ hd2 Kd2 ⟨rfl, B2, Kqd2⟩
      have sz_hd2 : hc2.size ≤ hd2.size := Kqd2.1
      replace F1 := own_fld Kqd2 F1 (by first | omega | (dsimp only; omega))
      replace F2 := own_fld Kqd2 F2 (by first | omega | (dsimp only; omega))
      replace F3 := own_fld Kqd2 F3 (by first | omega | (dsimp only; omega))
      replace F4 := own_fld Kqd2 F4 (by first | omega | (dsimp only; omega))
      replace S1 := S1.kp Kqd2 (fun x q => by first | omega | (dsimp only; omega))
      replace S2 := S2.kp Kqd2 (fun x q => by first | omega | (dsimp only; omega))
      replace S3 := S3.kp Kqd2 (fun x q => by first | omega | (dsimp only; omega))
      replace S4 := S4.kp Kqd2 (fun x q => by first | omega | (dsimp only; omega))
      replace B := B2
      refine C.pop 77 d41_76 rfl ?_
      exact L77 _ hd2 B F1 F2 F3 F4 S1 S2 S3 S4 (by omega) (by rw [hcs0, own_opt, if_neg (he4.n h60)]; simp) (by first | omega | (simp; done) | (simp; omega))
    · skip
      refine C.ifY 77 d41_60 (by decide) (by decide) (XT.i0_ne_t h60) ?_
      exact L77 _ hd1 B F1 F2 F3 F4 S1 S2 S3 S4 (by omega) (by rw [hcs0, own_opt, if_pos (he4.y h60)]; simp) (by first | omega | (simp; done) | (simp; omega))
  refine C.aloadN 10 d41_9 rfl rfl ?_
  refine C.getf 13 d41_10 (hw _ (List.mem_of_getElem? (i := 40) rfl)) Via.refl F1 ?_
  refine C.callV (b := hs2.size) 16 [] [] d41_13 (met_emp l Z a0 hw EL hEL hs2.size bk hs2 (by omega) (by omega) s1 b _ S1) S1.exa (by omega) (Or.inl (Nat.le_refl _)) (hw _ (List.mem_of_getElem? (i := 123) rfl)) (hw _ (List.mem_of_getElem? (i := 124) rfl)) (hw _ (List.mem_of_getElem? (i := 126) rfl)) (hw _ (List.mem_of_getElem? (i := 125) rfl)) (hw _ (List.mem_of_getElem? (i := 2) rfl)) (hw _ (List.mem_of_getElem? (i := 127) rfl)) (fun hZ => notFace_of_selects (args := #[]) (mvT hZ (hw _ (List.mem_of_getElem? (i := 126) rfl)))) (by decide) rfl (lenOf pd___rZ rfl) (by decide) (W := 0) (Nat.le_of_eq rfl) (by decide) (by decide) (by decide) rfl ?_
  rintro _ h13_28 K13_28 ⟨e1, rfl, he1, rfl⟩
  rcases Decidable.em (e1 = 0) with h16 | h16
  · skip
    refine C.ifY 39 d41_16 (by decide) (by decide) (XT.i0_eq_t h16) ?_
    exact L39 (fun q => he1.n h16 q.1)
  · skip
    refine C.ifN 19 d41_16 rfl (XT.i0_eq_f h16) ?_
    refine C.aloadN 20 d41_19 rfl rfl ?_
    refine C.getf 23 d41_20 (hw _ (List.mem_of_getElem? (i := 44) rfl)) Via.refl F3 ?_
    refine C.callV (b := hs2.size) 26 [] [] d41_23 (met_emp l Z a0 hw EL hEL hs2.size bk hs2 (by omega) (by omega) s3 b _ S3) S3.exa (by omega) (Or.inl (Nat.le_refl _)) (hw _ (List.mem_of_getElem? (i := 123) rfl)) (hw _ (List.mem_of_getElem? (i := 124) rfl)) (hw _ (List.mem_of_getElem? (i := 126) rfl)) (hw _ (List.mem_of_getElem? (i := 125) rfl)) (hw _ (List.mem_of_getElem? (i := 2) rfl)) (hw _ (List.mem_of_getElem? (i := 127) rfl)) (fun hZ => notFace_of_selects (args := #[]) (mvT hZ (hw _ (List.mem_of_getElem? (i := 126) rfl)))) (by decide) rfl (lenOf pd___rZ rfl) (by decide) (W := 0) (Nat.le_of_eq rfl) (by decide) (by decide) (by decide) rfl ?_
    rintro _ h23_30 K23_30 ⟨e2, rfl, he2, rfl⟩
    rcases Decidable.em (e2 = 0) with h26 | h26
    · skip
      refine C.ifY 39 d41_26 (by decide) (by decide) (XT.i0_eq_t h26) ?_
      exact L39 (fun q => he2.n h26 q.2.1)
    · skip
      refine C.ifN 29 d41_26 rfl (XT.i0_eq_f h26) ?_
      refine C.aloadN 30 d41_29 rfl rfl ?_
      refine C.getf 33 d41_30 (hw _ (List.mem_of_getElem? (i := 46) rfl)) Via.refl F4 ?_
      refine C.callV (b := hs2.size) 36 [] [] d41_33 (met_emp l Z a0 hw EL hEL hs2.size bk hs2 (by omega) (by omega) s4 b _ S4) S4.exa (by omega) (Or.inl (Nat.le_refl _)) (hw _ (List.mem_of_getElem? (i := 123) rfl)) (hw _ (List.mem_of_getElem? (i := 124) rfl)) (hw _ (List.mem_of_getElem? (i := 126) rfl)) (hw _ (List.mem_of_getElem? (i := 125) rfl)) (hw _ (List.mem_of_getElem? (i := 2) rfl)) (hw _ (List.mem_of_getElem? (i := 127) rfl)) (fun hZ => notFace_of_selects (args := #[]) (mvT hZ (hw _ (List.mem_of_getElem? (i := 126) rfl)))) (by decide) rfl (lenOf pd___rZ rfl) (by decide) (W := 0) (Nat.le_of_eq rfl) (by decide) (by decide) (by decide) rfl ?_
      rintro _ h33_32 K33_32 ⟨e3, rfl, he3, rfl⟩
      rcases Decidable.em (e3 = 0) with h36 | h36
      · skip
        refine C.ifN 39 d41_36 rfl (XT.i0_ne_f h36) ?_
        exact L39 (fun q => he3.n h36 q.2.2)
      · skip
        refine C.ifY 135 d41_36 (by decide) (by decide) (XT.i0_ne_t h36) ?_
        exact L135 _ hs2 B F1 F2 F3 F4 S1 S2 S3 S4 (by omega) (by rw [own_bn, if_pos ⟨he1.y h16, he2.y h26, he3.y h36⟩]) (by first | omega | (simp; done) | (simp; omega))
def own_em (w u x : Int32) : List Int32 := if w = 0 then [] else 95 :: own_pt u x
def own_l1 (u1 : Int32) : Int32 := if u1 = 0 then 0 else 1
def own_l2 (u1 u2 : Int32) : Int32 := if u2 = 0 then own_l1 u1 else 2
def own_l3 (u1 u2 u3 : Int32) : Int32 := if u3 = 0 then own_l2 u1 u2 else 3
def own_l4 (u1 u2 u3 u4 : Int32) : Int32 := if u4 = 0 then own_l3 u1 u2 u3 else 4
def own_last (u1 u2 u3 u4 : Int32) : Int32 := if u1 = 0 ∧ u3 = 0 ∧ u4 = 0 then 0 else own_l4 u1 u2 u3 u4
theorem own_fin {u1 u2 u3 u4 z w1 w2 w3 w4 : Int32} (nm : List Int32) (x1 x2 x3 x4 : Int32) (h1 : u1 = 0 ∨ u1 = 1) (h2 : u2 = 0 ∨ u2 = 1) (h3 : u3 = 0 ∨ u3 = 1) (h4 : u4 = 0 ∨ u4 = 1) (hz : z = own_last u1 u2 u3 u4) (e1 : w1 = if z < 1 then 0 else 1) (e2 : w2 = if z < 2 then 0 else if u2 = 0 then 0 else 1) (e3 : w3 = if z < 3 then 0 else 1) (e4 : w4 = if z < 4 then 0 else 1) :
    nm ++ own_em w1 u1 x1 ++ own_em w2 u2 x2 ++ own_em w3 u3 x3 ++ own_em w4 u4 x4 = own_bn nm (own_pt u1 x1) (own_pt u2 x2) (own_pt u3 x3) (own_pt u4 x4) := by
  subst e1 e2 e3 e4 hz
  rcases h1 with rfl | rfl <;> rcases h2 with rfl | rfl <;> rcases h3 with rfl | rfl <;> rcases h4 with rfl | rfl <;>
    simp (decide := true) [own_last, own_l4, own_l3, own_l2, own_l1, own_em, own_pt, own_bn, own_opt]
theorem own_setn {ys : List Int32} {x : Int32} (h : ys.length < 10) : (ys ++ List.replicate (10 - ys.length) 0).set ys.length x = (ys ++ [x]) ++ List.replicate (10 - (ys ++ [x]).length) 0 := by
  rw [show 10 - ys.length = (10 - (ys ++ [x]).length) + 1 by simp; omega, List.replicate_succ, List.set_append]
  simp
def own_nm (j a b : Int32) : List Int32 := if j = 0 then [] else if j = 1 then [a] else [a, b]
theorem own_nm1 {j a b : Int32} (hj : j = 0 ∨ j = 1 ∨ j = 2) (h : j < 2) : (if j < 1 then [] else [a]) = own_nm j a b := by
  rcases hj with rfl | rfl | rfl <;> simp (decide := true) [own_nm] at h ⊢
theorem own_nm2 {j a b : Int32} (hj : j = 0 ∨ j = 1 ∨ j = 2) (h : ¬ j < 2) : (if j < 1 then [] else [a]) ++ [b] = own_nm j a b := by
  rcases hj with rfl | rfl | rfl <;> simp (decide := true) [own_nm] at h ⊢
theorem own_nml (j a b : Int32) : (own_nm j a b).length ≤ 2 := by unfold own_nm; split; simp; split <;> simp
theorem own_bnl {nm : List Int32} {u1 u2 u3 u4 x1 x2 x3 x4 : Int32} (h : nm.length ≤ 2) : (own_bn nm (own_pt u1 x1) (own_pt u2 x2) (own_pt u3 x3) (own_pt u4 x4)).length ≤ 10 := by
  unfold own_bn own_opt own_pt
  repeat' split
  all_goals first | omega | (simp; omega)

theorem d42_0 : decode method_3_code 0 = .ok (.iload_n 2, 1) := by decide +kernel
theorem d42_1 : decode method_3_code 1 = .ok (.ifCond .eq 25, 3) := by decide +kernel
theorem d42_4 : decode method_3_code 4 = .ok (.aload_n 0, 1) := by decide +kernel
theorem d42_5 : decode method_3_code 5 = .ok (.iload_n 1, 1) := by decide +kernel
theorem d42_6 : decode method_3_code 6 = .ok (.bipush 95, 2) := by decide +kernel
theorem d42_8 : decode method_3_code 8 = .ok (.castore, 1) := by decide +kernel
theorem d42_9 : decode method_3_code 9 = .ok (.iload_n 1, 1) := by decide +kernel
theorem d42_10 : decode method_3_code 10 = .ok (.iconst 1, 1) := by decide +kernel
theorem d42_11 : decode method_3_code 11 = .ok (.iadd, 1) := by decide +kernel
theorem d42_12 : decode method_3_code 12 = .ok (.istore_n 1, 1) := by decide +kernel
theorem d42_13 : decode method_3_code 13 = .ok (.iload_n 3, 1) := by decide +kernel
theorem d42_14 : decode method_3_code 14 = .ok (.ifCond .eq 12, 3) := by decide +kernel
theorem d42_17 : decode method_3_code 17 = .ok (.aload_n 0, 1) := by decide +kernel
theorem d42_18 : decode method_3_code 18 = .ok (.iload_n 1, 1) := by decide +kernel
theorem d42_19 : decode method_3_code 19 = .ok (.iload 4, 2) := by decide +kernel
theorem d42_21 : decode method_3_code 21 = .ok (.castore, 1) := by decide +kernel
theorem d42_22 : decode method_3_code 22 = .ok (.iload_n 1, 1) := by decide +kernel
theorem d42_23 : decode method_3_code 23 = .ok (.iconst 1, 1) := by decide +kernel
theorem d42_24 : decode method_3_code 24 = .ok (.iadd, 1) := by decide +kernel
theorem d42_25 : decode method_3_code 25 = .ok (.istore_n 1, 1) := by decide +kernel
theorem d42_26 : decode method_3_code 26 = .ok (.iload_n 1, 1) := by decide +kernel
theorem d42_27 : decode method_3_code 27 = .ok (.ireturn, 1) := by decide +kernel
theorem ef_43 (m : MethodId) (x0 : Nat) (x1 : Int32) (x2 : Int32) (x3 : Int32) (x4 : Int32) : entryFrame m #[(.ref x0), (.int x1), (.int x2), (.int x3), (.int x4)] 5 = mkF m 0 #[.val (.ref x0), .val (.int x1), .val (.int x2), .val (.int x3), .val (.int x4)] [] := by first | (simp [entryFrame, mkF, argsToLocals, Value.category]; done) | rfl
set_option maxRecDepth 65536 in
set_option maxHeartbeats 40000000 in
theorem met_emit (l : Launch) (Z : State) (a0 : Array Value) (hw : ∀ d ∈ tables_1, d.before a0 Z = true) (EL : List (String × Nat)) (hEL : EW Z a0 EL) (n0 bk : Nat) (h0 : Heap) (hz0 : Z.heap.size ≤ n0) (hn0 : n0 ≤ h0.size) (ea : Nat) (ys : List Int32) (w : Int32) (u : Int32) (x : Int32) (R : Ar Z h0 ea .char (ys ++ List.replicate (10 - ys.length) 0)) (hl : ys.length ≤ 8) (q0 : ¬ x < 0) (q : ¬ 255 < x) (hne : n0 ≤ ea) : Met l Z EL (⟨"com/example/rules_for_records/rulesforrecords/messageinterpolation/CandidateBundleNamePinLaw", "emit", "([CIZZC)I"⟩ : MethodName) method_3_code 5 (some .int) [] ({ frames := 0, cells := 0, slots := 0, locals := 0 } : Room) #[(.ref ea), (.int (Int32.ofNat ys.length)), (.int w), (.int u), (.int x)] n0 bk h0 (fun _ => bk) (fun v h => v = some (.int (Int32.ofNat (ys ++ own_em w u x).length)) ∧ Ar Z h ea .char ((ys ++ own_em w u x) ++ List.replicate (10 - (ys ++ own_em w u x).length) 0)) := by
  refine Met.intro (plainFor_of_name pn_7) (fun m => ef_43 m ea (Int32.ofNat ys.length) w u x) hz0 hEL ?_
  intro p e s m below meth c C
  refine C.iloadN 1 d42_0 rfl ?_
  rcases Decidable.em (w = 0) with y1 | y1
  · skip
    refine C.ifY 26 d42_1 (by decide) (by decide) (XT.i0_eq_t y1) ?_
    refine C.iloadN 27 d42_26 rfl ?_
    refine C.retI rfl d42_27 (by decide) (by decide) (Or.inl (Nat.le_refl _)) ?_
    exact ⟨by rw [own_em, if_pos y1, List.append_nil], by rw [own_em, if_pos y1, List.append_nil]; exact R⟩
  · skip
    refine C.ifN 4 d42_1 rfl (XT.i0_eq_f y1) ?_
    refine C.aloadN 5 d42_4 rfl rfl ?_
    refine C.iloadN 6 d42_5 rfl ?_
    refine C.bipush 8 (95 : Int32) d42_6 (by decide) ?_
    refine C.castore 9 ys.length d42_8 R rfl (by first | omega | (simp; omega)) (by decide) (by omega) (Or.inr (Or.inr ⟨_, _, R, by decide⟩)) ?_
    intro h1 W1 N1
    have sz_h1 : h0.size ≤ h1.size := (Nat.le_of_eq W1.size.symm)
    replace R : Ar Z h1 ea .char ((ys ++ [95]) ++ List.replicate (10 - (ys ++ [95]).length) 0) := (by have q := N1; rw [show nar .char 95 = 95 by decide, own_setn (by omega)] at q; exact q)
    refine C.iloadN 10 d42_9 rfl ?_
    refine C.iconst 11 (1 : Int32) d42_10 (by decide) ?_
    refine C.iadd 12 d42_11 ?_
    rw [own_succ]
    refine C.istoreN 13 (L' := #[.val (.ref ea), .val (.int (Int32.ofNat (ys.length + 1))), .val (.int w), .val (.int u), .val (.int x)]) d42_12 rfl ?_
    refine C.iloadN 14 d42_13 rfl ?_
    rcases Decidable.em (u = 0) with y14 | y14
    · skip
      refine C.ifY 26 d42_14 (by decide) (by decide) (XT.i0_eq_t y14) ?_
      refine C.iloadN 27 d42_26 rfl ?_
      refine C.retI rfl d42_27 (by decide) (by decide) (Or.inl (Nat.le_refl _)) ?_
      exact ⟨by rw [own_em, if_neg y1, own_pt, if_pos y14, List.length_append]; rfl, by rw [own_em, if_neg y1, own_pt, if_pos y14]; exact R⟩
    · skip
      refine C.ifN 17 d42_14 rfl (XT.i0_eq_f y14) ?_
      refine C.aloadN 18 d42_17 rfl rfl ?_
      refine C.iloadN 19 d42_18 rfl ?_
      refine C.iload 21 d42_19 rfl ?_
      refine C.castore 22 (ys.length + 1) d42_21 R rfl (by first | omega | (simp; omega)) (by rw [show nar .char x = x from own_c0 q0 q]; exact own_fitc q0 q) (by omega) (Or.inr (Or.inr ⟨_, _, R, by decide⟩)) ?_
      intro h2 W2 N2
      have sz_h2 : h1.size ≤ h2.size := (Nat.le_of_eq W2.size.symm)
      replace R : Ar Z h2 ea .char (((ys ++ [95]) ++ [x]) ++ List.replicate (10 - ((ys ++ [95]) ++ [x]).length) 0) := (by have q9 := N2; rw [show nar .char x = x from own_c0 q0 q, show ys.length + 1 = (ys ++ [95]).length by simp, own_setn (by first | omega | (simp; omega))] at q9; exact q9)
      refine C.iloadN 23 d42_22 rfl ?_
      refine C.iconst 24 (1 : Int32) d42_23 (by decide) ?_
      refine C.iadd 25 d42_24 ?_
      rw [own_succ]
      refine C.istoreN 26 (L' := #[.val (.ref ea), .val (.int (Int32.ofNat (ys.length + 1 + 1))), .val (.int w), .val (.int u), .val (.int x)]) d42_25 rfl ?_
      refine C.iloadN 27 d42_26 rfl ?_
      refine C.retI rfl d42_27 (by decide) (by decide) (Or.inl (Nat.le_refl _)) ?_
      exact ⟨by rw [own_em, if_neg y1, own_pt, if_neg y14, List.length_append]; rfl, by rw [own_em, if_neg y1, own_pt, if_neg y14]; rw [show (ys ++ [95]) ++ [x] = ys ++ [95, x] by simp] at R; exact R⟩
theorem pd__I_rC : parseMethodDescriptor "(I)C" = some ⟨[.int], some .char⟩ := by decide +kernel
theorem d43_0 : decode method_4_code 0 = .ok (.iload_n 3, 1) := by decide +kernel
theorem d43_1 : decode method_4_code 1 = .ok (.iload_n 2, 1) := by decide +kernel
theorem d43_2 : decode method_4_code 2 = .ok (.if_icmp .ge 14, 3) := by decide +kernel
theorem d43_5 : decode method_4_code 5 = .ok (.aload_n 0, 1) := by decide +kernel
theorem d43_6 : decode method_4_code 6 = .ok (.iload_n 3, 1) := by decide +kernel
theorem d43_7 : decode method_4_code 7 = .ok (.invokevirtual 15, 3) := by decide +kernel
theorem d43_10 : decode method_4_code 10 = .ok (.aload_n 1, 1) := by decide +kernel
theorem d43_11 : decode method_4_code 11 = .ok (.iload_n 3, 1) := by decide +kernel
theorem d43_12 : decode method_4_code 12 = .ok (.caload, 1) := by decide +kernel
theorem d43_13 : decode method_4_code 13 = .ok (.if_icmp .ne 7, 3) := by decide +kernel
theorem d43_16 : decode method_4_code 16 = .ok (.iconst 1, 1) := by decide +kernel
theorem d43_17 : decode method_4_code 17 = .ok (.goto 4, 3) := by decide +kernel
theorem d43_21 : decode method_4_code 21 = .ok (.ireturn, 1) := by decide +kernel
theorem ef_44 (m : MethodId) (x0 : Nat) (x1 : Nat) (x2 : Int32) (x3 : Int32) : entryFrame m #[(.ref x0), (.ref x1), (.int x2), (.int x3)] 4 = mkF m 0 #[.val (.ref x0), .val (.ref x1), .val (.int x2), .val (.int x3)] [] := by first | (simp [entryFrame, mkF, argsToLocals, Value.category]; done) | rfl
set_option maxRecDepth 65536 in
set_option maxHeartbeats 40000000 in
theorem met_eq (l : Launch) (Z : State) (a0 : Array Value) (hw : ∀ d ∈ tables_1, d.before a0 Z = true) (EL : List (String × Nat)) (hEL : EW Z a0 EL) (n0 bk : Nat) (h0 : Heap) (hz0 : Z.heap.size ≤ n0) (hn0 : n0 ≤ h0.size) (r : Nat) (ea : Nat) (ba : Nat) (cs : List Int32) (kk : Int32) (k : Nat) (z0 : Int32) (fm : Value) (Sr : Str Z h0 ba r cs) (R : Ar Z h0 ea .char (cs ++ List.replicate (10 - cs.length) 0)) (hkk : kk = Int32.ofNat k) (hk : k < 10) (hl : cs.length ≤ 10) (SC : Sta Z Z.heap "java/lang/String" "COMPACT_STRINGS" "Z" (.int z0)) (hzc : ¬ z0 = 0) (hfm : fm.isRef = true) (SF : Sta Z Z.heap "jdk/internal/util/Preconditions" "SIOOBE_FORMATTER" "Ljava/util/function/BiFunction;" fm) : Met l Z EL (⟨"com/example/rules_for_records/rulesforrecords/messageinterpolation/CandidateBundleNamePinLaw", "eq", "(Ljava/lang/String;[CII)Z"⟩ : MethodName) method_4_code 4 (some .boolean) [] ({ frames := 4, cells := 0, slots := 0, locals := 53 } : Room) #[(.ref r), (.ref ea), (.int (Int32.ofNat cs.length)), (.int kk)] n0 bk h0 (fun _ => bk) (fun v h => v = some (.int 1) ∧ h0 = h) := by
  refine Met.intro (plainFor_of_name pn_7) (fun m => ef_44 m r ea (Int32.ofNat cs.length) kk) hz0 hEL ?_
  intro p e s m below meth c C
  have Xs := Sr.exa
  refine C.iloadN 1 d43_0 rfl ?_
  refine C.iloadN 2 d43_1 rfl ?_
  rcases Decidable.em (kk < (Int32.ofNat cs.length)) with h2 | h2
  · skip
    refine C.icN 5 d43_2 rfl (XT.ii_ge_f h2) ?_
    have hlt : k < cs.length := (own_ofNat (by omega) (by omega)).2.mp (by rw [← hkk]; exact h2)
    obtain ⟨x1, hx⟩ : ∃ y, cs[k]? = some y := ⟨_, List.getElem?_eq_getElem hlt⟩
    refine C.aloadN 6 d43_5 rfl rfl ?_
    refine C.iloadN 7 d43_6 rfl ?_
    rw [hkk]
    refine C.callV (b := h0.size) 10 [(.int (Int32.ofNat k))] [] d43_7 (met_cha l Z a0 hw EL hEL h0.size bk h0 (by omega) (by omega) r ba cs k x1 z0 fm Sr hx SC hzc hfm SF) Xs (by omega) (Or.inl (Nat.le_refl _)) (hw _ (List.mem_of_getElem? (i := 181) rfl)) (hw _ (List.mem_of_getElem? (i := 182) rfl)) (hw _ (List.mem_of_getElem? (i := 184) rfl)) (hw _ (List.mem_of_getElem? (i := 183) rfl)) (hw _ (List.mem_of_getElem? (i := 2) rfl)) (hw _ (List.mem_of_getElem? (i := 185) rfl)) (fun hZ => notFace_of_selects (args := #[]) (mvT hZ (hw _ (List.mem_of_getElem? (i := 184) rfl)))) (by decide) rfl (lenOf pd__I_rC rfl) (by decide) (W := 0) (Nat.le_of_eq rfl) (by decide) (by decide) (by decide) rfl ?_
    rintro _ h7_1 K7_1 ⟨rfl, rfl⟩
    refine C.aloadN 11 d43_10 rfl rfl ?_
    refine C.iloadN 12 d43_11 rfl ?_
    refine C.caload 13 k d43_12 R rfl (by rw [List.getElem?_append_left hlt]; exact hx) ?_
    refine C.icN 16 d43_13 rfl (XT.ii_ne_f (show x1 = x1 from rfl)) ?_
    refine C.iconst 17 (1 : Int32) d43_16 (by decide) ?_
    refine C.goto 21 d43_17 (by decide) (by decide) ?_
    refine C.retN (t := .boolean) rfl (by simp) d43_21 (by decide) (by decide) (Or.inl (Nat.le_refl _)) ?_
    exact ⟨rfl, rfl⟩
  · skip
    refine C.icY 16 d43_2 (by decide) (by decide) (XT.ii_ge_t h2) ?_
    refine C.iconst 17 (1 : Int32) d43_16 (by decide) ?_
    refine C.goto 21 d43_17 (by decide) (by decide) ?_
    refine C.retN (t := .boolean) rfl (by simp) d43_21 (by decide) (by decide) (Or.inl (Nat.le_refl _)) ?_
    exact ⟨rfl, rfl⟩
theorem own_m3 (x : Int32) : (x &&& 3) % 3 = 0 ∨ (x &&& 3) % 3 = 1 ∨ (x &&& 3) % 3 = 2 := by
  have q1 := c_mask x 3 2 (by decide) (by decide)
  have q2 := (c_irem (x &&& 3) 3 3 (by decide)).1 (by omega)
  have e0 : (0 : Int32).toInt = 0 := by decide
  have e1 : (1 : Int32).toInt = 1 := by decide
  have e2 : (2 : Int32).toInt = 2 := by decide
  rw [← Int32.toInt_inj, ← Int32.toInt_inj, ← Int32.toInt_inj]
  omega
theorem own_eml (w u x : Int32) : (own_em w u x).length ≤ 2 := by unfold own_em own_pt; split; simp; split <;> simp
theorem pd__Ljava_lang_String_rLjava_lang_String : parseMethodDescriptor "(Ljava/lang/String;)Ljava/lang/String;" = some ⟨[(.object "java/lang/String")], some (.object "java/lang/String")⟩ := by decide +kernel
theorem pd__Ljava_lang_StringLjava_lang_StringLjava_lang_StringLjava_lang_String_rV : parseMethodDescriptor "(Ljava/lang/String;Ljava/lang/String;Ljava/lang/String;Ljava/lang/String;)V" = some ⟨[(.object "java/lang/String"), (.object "java/lang/String"), (.object "java/lang/String"), (.object "java/lang/String")], none⟩ := by decide +kernel
theorem pd__Ljava_lang_StringACII_rZ : parseMethodDescriptor "(Ljava/lang/String;[CII)Z" = some ⟨[(.object "java/lang/String"), (.array .char), .int, .int], some .boolean⟩ := by decide +kernel
theorem pd__ZC_rLjava_lang_String : parseMethodDescriptor "(ZC)Ljava/lang/String;" = some ⟨[.boolean, .char], some (.object "java/lang/String")⟩ := by decide +kernel
theorem pd__AC_rV : parseMethodDescriptor "([C)V" = some ⟨[(.array .char)], none⟩ := by decide +kernel
theorem pd__ACIZZC_rI : parseMethodDescriptor "([CIZZC)I" = some ⟨[(.array .char), .int, .boolean, .boolean, .char], some .int⟩ := by decide +kernel
theorem ef_45 (m : MethodId) (x0 : Int32) (x1 : Int32) (x2 : Int32) (x3 : Int32) : entryFrame m #[(.int x0), (.int x1), (.int x2), (.int x3)] maxLocals = mkF m 0 #[.val (.int x0), .val (.int x1), .val (.int x2), .val (.int x3), .unset, .unset, .unset, .unset, .unset, .unset, .unset, .unset, .unset, .unset, .unset, .unset, .unset, .unset, .unset, .unset, .unset] [] := by first | (simp [entryFrame, mkF, argsToLocals, Value.category, maxLocals]; done) | rfl
set_option maxRecDepth 65536 in
set_option maxHeartbeats 40000000 in
theorem met_law (l : Launch) (Z : State) (a0 : Array Value) (hw : ∀ d ∈ tables_1, d.before a0 Z = true) (EL : List (String × Nat)) (hEL : EW Z a0 EL) (n0 bk : Nat) (h0 : Heap) (hz0 : Z.heap.size ≤ n0) (hn0 : n0 ≤ h0.size) (i0 : Int32) (i1 : Int32) (i2 : Int32) (i3 : Int32) (z0 : Int32) (fm : Value) (SC : Sta Z Z.heap "java/lang/String" "COMPACT_STRINGS" "Z" (.int z0)) (hzc : ¬ z0 = 0) (hfm : fm.isRef = true) (SF : Sta Z Z.heap "jdk/internal/util/Preconditions" "SIOOBE_FORMATTER" "Ljava/util/function/BiFunction;" fm) (wS : ∀ a ∈ Bundle.stringAtoms, a.before a0 Z = true) (hmem : ("com/example/rules_for_records/rulesforrecords/messageinterpolation/CandidateBundleNamePinLaw", 13) ∈ EL) (hbk : bk ≤ h0.size) : Met l Z EL x code maxLocals ret tables_1 room_1 #[(.int i0), (.int i1), (.int i2), (.int i3)] n0 bk h0 (fun h => h.size) (fun v h => v = some (.int 1)) := by
  refine Met.intro (plainFor_of_name pn_7) (fun m => ef_45 m i0 i1 i2 i3) hz0 hEL ?_
  intro p e s m below meth c C
  refine C.iloadN 1 at_0 rfl ?_
  refine C.sipush 4 (255 : Int32) at_1 (by decide) ?_
  refine C.iand 5 at_4 ?_
  refine C.i2c 6 at_5 ?_
  obtain ⟨p0, q0⟩ := own_rng i0
  rw [own_c0 p0 q0]
  generalize hc0 : (i0 &&& 255) = c0
  refine C.istore 8 (L' := #[.val (.int i0), .val (.int i1), .val (.int i2), .val (.int i3), .val (.int c0), .unset, .unset, .unset, .unset, .unset, .unset, .unset, .unset, .unset, .unset, .unset, .unset, .unset, .unset, .unset, .unset]) at_6 rfl ?_
  rw [hc0] at p0 q0
  refine C.iloadN 9 at_8 rfl ?_
  refine C.bipush 11 (8 : Int32) at_9 (by decide) ?_
  refine C.iushr 12 at_11 ?_
  refine C.sipush 15 (255 : Int32) at_12 (by decide) ?_
  refine C.iand 16 at_15 ?_
  refine C.i2c 17 at_16 ?_
  obtain ⟨p1, q1⟩ := own_rng (XT.ushr i0 8)
  rw [own_c0 p1 q1]
  generalize hc1 : ((XT.ushr i0 8) &&& 255) = c1
  refine C.istore 19 (L' := #[.val (.int i0), .val (.int i1), .val (.int i2), .val (.int i3), .val (.int c0), .val (.int c1), .unset, .unset, .unset, .unset, .unset, .unset, .unset, .unset, .unset, .unset, .unset, .unset, .unset, .unset, .unset]) at_17 rfl ?_
  rw [hc1] at p1 q1
  refine C.iloadN 20 at_19 rfl ?_
  refine C.sipush 23 (255 : Int32) at_20 (by decide) ?_
  refine C.iand 24 at_23 ?_
  refine C.i2c 25 at_24 ?_
  obtain ⟨p2, q2⟩ := own_rng i1
  rw [own_c0 p2 q2]
  generalize hc2 : (i1 &&& 255) = lc
  refine C.istore 27 (L' := #[.val (.int i0), .val (.int i1), .val (.int i2), .val (.int i3), .val (.int c0), .val (.int c1), .val (.int lc), .unset, .unset, .unset, .unset, .unset, .unset, .unset, .unset, .unset, .unset, .unset, .unset, .unset, .unset]) at_25 rfl ?_
  rw [hc2] at p2 q2
  refine C.iloadN 28 at_27 rfl ?_
  refine C.bipush 30 (8 : Int32) at_28 (by decide) ?_
  refine C.iushr 31 at_30 ?_
  refine C.sipush 34 (255 : Int32) at_31 (by decide) ?_
  refine C.iand 35 at_34 ?_
  refine C.i2c 36 at_35 ?_
  obtain ⟨p3, q3⟩ := own_rng (XT.ushr i1 8)
  rw [own_c0 p3 q3]
  generalize hc3 : ((XT.ushr i1 8) &&& 255) = sc
  refine C.istore 38 (L' := #[.val (.int i0), .val (.int i1), .val (.int i2), .val (.int i3), .val (.int c0), .val (.int c1), .val (.int lc), .val (.int sc), .unset, .unset, .unset, .unset, .unset, .unset, .unset, .unset, .unset, .unset, .unset, .unset, .unset]) at_36 rfl ?_
  rw [hc3] at p3 q3
  refine C.iloadN 39 at_38 rfl ?_
  refine C.sipush 42 (255 : Int32) at_39 (by decide) ?_
  refine C.iand 43 at_42 ?_
  refine C.i2c 44 at_43 ?_
  obtain ⟨p4, q4⟩ := own_rng i2
  rw [own_c0 p4 q4]
  generalize hc4 : (i2 &&& 255) = rc
  refine C.istore 46 (L' := #[.val (.int i0), .val (.int i1), .val (.int i2), .val (.int i3), .val (.int c0), .val (.int c1), .val (.int lc), .val (.int sc), .val (.int rc), .unset, .unset, .unset, .unset, .unset, .unset, .unset, .unset, .unset, .unset, .unset, .unset]) at_44 rfl ?_
  rw [hc4] at p4 q4
  refine C.iloadN 47 at_46 rfl ?_
  refine C.bipush 49 (8 : Int32) at_47 (by decide) ?_
  refine C.iushr 50 at_49 ?_
  refine C.sipush 53 (255 : Int32) at_50 (by decide) ?_
  refine C.iand 54 at_53 ?_
  refine C.i2c 55 at_54 ?_
  obtain ⟨p5, q5⟩ := own_rng (XT.ushr i2 8)
  rw [own_c0 p5 q5]
  generalize hc5 : ((XT.ushr i2 8) &&& 255) = vc
  refine C.istore 57 (L' := #[.val (.int i0), .val (.int i1), .val (.int i2), .val (.int i3), .val (.int c0), .val (.int c1), .val (.int lc), .val (.int sc), .val (.int rc), .val (.int vc), .unset, .unset, .unset, .unset, .unset, .unset, .unset, .unset, .unset, .unset, .unset]) at_55 rfl ?_
  rw [hc5] at p5 q5
  refine C.iloadN 58 at_57 rfl ?_
  refine C.iconst 59 (3 : Int32) at_58 (by decide) ?_
  refine C.iand 60 at_59 ?_
  refine C.iconst 61 (3 : Int32) at_60 (by decide) ?_
  refine C.irem 62 at_61 (by decide) ?_
  generalize hjj : ((i3 &&& (3 : Int32)) % (3 : Int32)) = jj
  refine C.istore 64 (L' := #[.val (.int i0), .val (.int i1), .val (.int i2), .val (.int i3), .val (.int c0), .val (.int c1), .val (.int lc), .val (.int sc), .val (.int rc), .val (.int vc), .val (.int jj), .unset, .unset, .unset, .unset, .unset, .unset, .unset, .unset, .unset, .unset]) at_62 rfl ?_
  have hj3 := own_m3 i3
  rw [hjj] at hj3
  refine C.iloadN 65 at_64 rfl ?_
  have L117 : ∀ (u1 : Int32) (u2 : Int32) (u3 : Int32) (u4 : Int32), (u1 = 0 ∨ u1 = 1) → (u2 = 0 ∨ u2 = 1) → (u3 = 0 ∨ u3 = 1) → (u4 = 0 ∨ u4 = 1) → Go p l e room_1 s m #[(.int i0), (.int i1), (.int i2), (.int i3)] below meth c Z x.cls EL n0 (fun h => h.size) (fun v h => v = some (.int 1)) bk h0 0 0 117 #[.val (.int i0), .val (.int i1), .val (.int i2), .val (.int i3), .val (.int c0), .val (.int c1), .val (.int lc), .val (.int sc), .val (.int rc), .val (.int vc), .val (.int jj), .val (.int u1), .val (.int u2), .val (.int u3), .unset, .unset, .unset, .unset, .unset, .unset, .unset] [(.int u4)] := by
    intro u1 u2 u3 u4 hu1 hu2 hu3 hu4
    refine C.istore 119 (L' := #[.val (.int i0), .val (.int i1), .val (.int i2), .val (.int i3), .val (.int c0), .val (.int c1), .val (.int lc), .val (.int sc), .val (.int rc), .val (.int vc), .val (.int jj), .val (.int u1), .val (.int u2), .val (.int u3), .val (.int u4), .unset, .unset, .unset, .unset, .unset, .unset]) at_117 rfl ?_
    have L169 : ∀ (an : Nat) (nm : List Int32) (hh : Heap), (Str Z hh hh.size an nm) → (nm = own_nm jj c0 c1) → (h0.size ≤ hh.size) → Go p l e room_1 s m #[(.int i0), (.int i1), (.int i2), (.int i3)] below meth c Z x.cls EL n0 (fun h => h.size) (fun v h => v = some (.int 1)) hh.size hh 4 20 169 #[.val (.int i0), .val (.int i1), .val (.int i2), .val (.int i3), .val (.int c0), .val (.int c1), .val (.int lc), .val (.int sc), .val (.int rc), .val (.int vc), .val (.int jj), .val (.int u1), .val (.int u2), .val (.int u3), .val (.int u4), .val (.ref an), .unset, .unset, .unset, .unset, .unset] [] := by
      intro an nm hh Sn hnm szh
      have hnl : nm.length ≤ 2 := hnm ▸ own_nml jj c0 c1
      refine C.newo 172 at_169 (hw _ (List.mem_of_getElem? (i := 26) rfl)) (hw _ (List.mem_of_getElem? (i := 27) rfl)) (hw _ (List.mem_of_getElem? (i := 28) rfl)) (by decide) (by decide) ?_
      intro ca hC g_ca EC X_ca DC
      have lt_ca : ca < hC.size := X_ca.lt
      have sz_hC : hh.size ≤ hC.size := EC.1
      replace Sn := Sn.ext EC
      have F1 : Fld Z hC ca "com/example/rules_for_records/rulesforrecords/messageinterpolation/BundleLookup$Candidate" "language" "Ljava/lang/String;" .null := DC (Or.inr (hw _ (List.mem_of_getElem? (i := 41) rfl))) (ty := (.object "java/lang/String")) (by decide)
      have F2 : Fld Z hC ca "com/example/rules_for_records/rulesforrecords/messageinterpolation/BundleLookup$Candidate" "script" "Ljava/lang/String;" .null := DC (Or.inr (hw _ (List.mem_of_getElem? (i := 43) rfl))) (ty := (.object "java/lang/String")) (by decide)
      have F3 : Fld Z hC ca "com/example/rules_for_records/rulesforrecords/messageinterpolation/BundleLookup$Candidate" "region" "Ljava/lang/String;" .null := DC (Or.inr (hw _ (List.mem_of_getElem? (i := 45) rfl))) (ty := (.object "java/lang/String")) (by decide)
      have F4 : Fld Z hC ca "com/example/rules_for_records/rulesforrecords/messageinterpolation/BundleLookup$Candidate" "variant" "Ljava/lang/String;" .null := DC (Or.inr (hw _ (List.mem_of_getElem? (i := 47) rfl))) (ty := (.object "java/lang/String")) (by decide)
      refine C.dup 173 at_172 rfl ?_
      refine C.iload 175 at_173 rfl ?_
      refine C.iload 177 at_175 rfl ?_
      refine C.callS (b := hC.size) 180 [(.int u1), (.int lc)] [(.ref ca), (.ref ca)] at_177 (met_part l Z a0 hw EL hEL hC.size hh.size hC (by omega) (by omega) u1 lc z0 p2 q2 SC hzc wS hmem) (by omega) (Or.inl (Nat.le_refl _)) (hw _ (List.mem_of_getElem? (i := 29) rfl)) (hw _ (List.mem_of_getElem? (i := 30) rfl)) (hw _ (List.mem_of_getElem? (i := 31) rfl)) (hw _ (List.mem_of_getElem? (i := 32) rfl)) (by decide) rfl (lenOf pd__ZC_rLjava_lang_String rfl) (by decide) (W := 2) (Nat.le_of_eq rfl) (by decide) (by decide) (by decide) rfl ?_
      rintro _ hp1 Kp1 ⟨s1, rfl, S1⟩
      refine Go.rebk hp1.size rfl ?_
      have sz_hp1 : hC.size ≤ hp1.size := Kp1.1
      replace Sn := Sn.kp Kp1 (fun x q => by first | omega | (dsimp only; omega))
      replace X_ca := own_exa Kp1 X_ca (by first | omega | (dsimp only; omega))
      replace F1 := own_fld Kp1 F1 (by first | omega | (dsimp only; omega))
      replace F2 := own_fld Kp1 F2 (by first | omega | (dsimp only; omega))
      replace F3 := own_fld Kp1 F3 (by first | omega | (dsimp only; omega))
      replace F4 := own_fld Kp1 F4 (by first | omega | (dsimp only; omega))
      refine C.iload 182 at_180 rfl ?_
      refine C.iload 184 at_182 rfl ?_
      refine C.callS (b := hp1.size) 187 [(.int u2), (.int sc)] [(.ref s1), (.ref ca), (.ref ca)] at_184 (met_part l Z a0 hw EL hEL hp1.size hp1.size hp1 (by omega) (by omega) u2 sc z0 p3 q3 SC hzc wS hmem) (by omega) (Or.inr (Nat.le_refl _)) (hw _ (List.mem_of_getElem? (i := 29) rfl)) (hw _ (List.mem_of_getElem? (i := 30) rfl)) (hw _ (List.mem_of_getElem? (i := 31) rfl)) (hw _ (List.mem_of_getElem? (i := 32) rfl)) (by decide) rfl (lenOf pd__ZC_rLjava_lang_String rfl) (by decide) (W := 3) (Nat.le_of_eq rfl) (by decide) (by decide) (by decide) rfl ?_
      rintro _ hp2 Kp2 ⟨s2, rfl, S2⟩
      refine Go.rebk hp2.size rfl ?_
      have sz_hp2 : hp1.size ≤ hp2.size := Kp2.1
      replace Sn := Sn.kp Kp2 (fun x q => by first | omega | (dsimp only; omega))
      replace X_ca := own_exa Kp2 X_ca (by first | omega | (dsimp only; omega))
      replace F1 := own_fld Kp2 F1 (by first | omega | (dsimp only; omega))
      replace F2 := own_fld Kp2 F2 (by first | omega | (dsimp only; omega))
      replace F3 := own_fld Kp2 F3 (by first | omega | (dsimp only; omega))
      replace F4 := own_fld Kp2 F4 (by first | omega | (dsimp only; omega))
      replace S1 := S1.kp Kp2 (fun x q => by first | omega | (dsimp only; omega))
      refine C.iload 189 at_187 rfl ?_
      refine C.iload 191 at_189 rfl ?_
      refine C.callS (b := hp2.size) 194 [(.int u3), (.int rc)] [(.ref s2), (.ref s1), (.ref ca), (.ref ca)] at_191 (met_part l Z a0 hw EL hEL hp2.size hp2.size hp2 (by omega) (by omega) u3 rc z0 p4 q4 SC hzc wS hmem) (by omega) (Or.inr (Nat.le_refl _)) (hw _ (List.mem_of_getElem? (i := 29) rfl)) (hw _ (List.mem_of_getElem? (i := 30) rfl)) (hw _ (List.mem_of_getElem? (i := 31) rfl)) (hw _ (List.mem_of_getElem? (i := 32) rfl)) (by decide) rfl (lenOf pd__ZC_rLjava_lang_String rfl) (by decide) (W := 4) (Nat.le_of_eq rfl) (by decide) (by decide) (by decide) rfl ?_
      rintro _ hp3 Kp3 ⟨s3, rfl, S3⟩
      refine Go.rebk hp3.size rfl ?_
      have sz_hp3 : hp2.size ≤ hp3.size := Kp3.1
      replace Sn := Sn.kp Kp3 (fun x q => by first | omega | (dsimp only; omega))
      replace X_ca := own_exa Kp3 X_ca (by first | omega | (dsimp only; omega))
      replace F1 := own_fld Kp3 F1 (by first | omega | (dsimp only; omega))
      replace F2 := own_fld Kp3 F2 (by first | omega | (dsimp only; omega))
      replace F3 := own_fld Kp3 F3 (by first | omega | (dsimp only; omega))
      replace F4 := own_fld Kp3 F4 (by first | omega | (dsimp only; omega))
      replace S1 := S1.kp Kp3 (fun x q => by first | omega | (dsimp only; omega))
      replace S2 := S2.kp Kp3 (fun x q => by first | omega | (dsimp only; omega))
      refine C.iload 196 at_194 rfl ?_
      refine C.iload 198 at_196 rfl ?_
      refine C.callS (b := hp3.size) 201 [(.int u4), (.int vc)] [(.ref s3), (.ref s2), (.ref s1), (.ref ca), (.ref ca)] at_198 (met_part l Z a0 hw EL hEL hp3.size hp3.size hp3 (by omega) (by omega) u4 vc z0 p5 q5 SC hzc wS hmem) (by omega) (Or.inr (Nat.le_refl _)) (hw _ (List.mem_of_getElem? (i := 29) rfl)) (hw _ (List.mem_of_getElem? (i := 30) rfl)) (hw _ (List.mem_of_getElem? (i := 31) rfl)) (hw _ (List.mem_of_getElem? (i := 32) rfl)) (by decide) rfl (lenOf pd__ZC_rLjava_lang_String rfl) (by decide) (W := 5) (Nat.le_of_eq rfl) (by decide) (by decide) (by decide) rfl ?_
      rintro _ hp4 Kp4 ⟨s4, rfl, S4⟩
      refine Go.rebk hp4.size rfl ?_
      have sz_hp4 : hp3.size ≤ hp4.size := Kp4.1
      replace Sn := Sn.kp Kp4 (fun x q => by first | omega | (dsimp only; omega))
      replace X_ca := own_exa Kp4 X_ca (by first | omega | (dsimp only; omega))
      replace F1 := own_fld Kp4 F1 (by first | omega | (dsimp only; omega))
      replace F2 := own_fld Kp4 F2 (by first | omega | (dsimp only; omega))
      replace F3 := own_fld Kp4 F3 (by first | omega | (dsimp only; omega))
      replace F4 := own_fld Kp4 F4 (by first | omega | (dsimp only; omega))
      replace S1 := S1.kp Kp4 (fun x q => by first | omega | (dsimp only; omega))
      replace S2 := S2.kp Kp4 (fun x q => by first | omega | (dsimp only; omega))
      replace S3 := S3.kp Kp4 (fun x q => by first | omega | (dsimp only; omega))
      refine C.callI (b := ca) 204 [(.ref s1), (.ref s2), (.ref s3), (.ref s4)] [(.ref ca)] at_201 (met_ci l Z a0 hw EL hEL ca hp4.size hp4 (by omega) (by omega) ca s1 s2 s3 s4 X_ca F1 F2 F3 F4 (by omega)) rfl (by omega) (Or.inr (Nat.le_refl _)) (hw _ (List.mem_of_getElem? (i := 36) rfl)) (hw _ (List.mem_of_getElem? (i := 37) rfl)) (hw _ (List.mem_of_getElem? (i := 28) rfl)) (hw _ (List.mem_of_getElem? (i := 38) rfl)) (by decide) rfl (lenOf pd__Ljava_lang_StringLjava_lang_StringLjava_lang_StringLjava_lang_String_rV rfl) (by decide) (W := 1) (Nat.le_of_eq rfl) (by decide) (by decide) (by decide) rfl ?_
      rintro _ hq Kq ⟨rfl, Kc, X2, G1, G2, G3, G4⟩
      have sz_hq : hp4.size ≤ hq.size := Kc.1
      replace Sn := Sn.kp Kc (fun x q => by first | omega | (dsimp only; omega))
      replace S1 := (S1.obj Kc X_ca (by decide) (hw _ (List.mem_of_getElem? (i := 27) rfl))).mono (show _ ≤ hq.size by omega)
      replace S2 := (S2.obj Kc X_ca (by decide) (hw _ (List.mem_of_getElem? (i := 27) rfl))).mono (show _ ≤ hq.size by omega)
      replace S3 := (S3.obj Kc X_ca (by decide) (hw _ (List.mem_of_getElem? (i := 27) rfl))).mono (show _ ≤ hq.size by omega)
      replace S4 := (S4.obj Kc X_ca (by decide) (hw _ (List.mem_of_getElem? (i := 27) rfl))).mono (show _ ≤ hq.size by omega)
      replace Sn := Sn.mono (show _ ≤ hq.size by omega)
      have ltc : (_ : Nat) < _ := X2.lt
      refine C.astore 206 (L' := #[.val (.int i0), .val (.int i1), .val (.int i2), .val (.int i3), .val (.int c0), .val (.int c1), .val (.int lc), .val (.int sc), .val (.int rc), .val (.int vc), .val (.int jj), .val (.int u1), .val (.int u2), .val (.int u3), .val (.int u4), .val (.ref an), .val (.ref ca), .unset, .unset, .unset, .unset]) at_204 rfl rfl ?_
      refine C.aload 208 at_206 rfl rfl ?_
      refine C.aload 210 at_208 rfl rfl ?_
      refine C.callV (b := hq.size) 213 [(.ref an)] [] at_210 (met_bn l Z a0 hw EL hEL hq.size hp4.size hq (by omega) (by omega) ca an hq.size s1 s2 s3 s4 nm _ _ _ _ z0 G1 G2 G3 G4 S1 S2 S3 S4 Sn (Nat.le_refl _) ltc hnl (own_ptl _ _) (own_ptl _ _) (own_ptl _ _) (own_ptl _ _) (by omega) SC hzc) X2 (by omega) (Or.inl (Nat.le_refl _)) (hw _ (List.mem_of_getElem? (i := 48) rfl)) (hw _ (List.mem_of_getElem? (i := 49) rfl)) (hw _ (List.mem_of_getElem? (i := 51) rfl)) (hw _ (List.mem_of_getElem? (i := 50) rfl)) (hw _ (List.mem_of_getElem? (i := 28) rfl)) (hw _ (List.mem_of_getElem? (i := 52) rfl)) (fun hZ => notFace_of_selects (args := #[]) (mvT hZ (hw _ (List.mem_of_getElem? (i := 51) rfl)))) (by decide) rfl (lenOf pd__Ljava_lang_String_rLjava_lang_String rfl) (by decide) (W := 0) (Nat.le_of_eq rfl) (by decide) (by decide) (by decide) rfl ?_
      rintro _ hB KB ⟨ra, rfl, Sr⟩
      have sz_hB : hq.size ≤ hB.size := KB.1
      have hbl : (own_bn nm (own_pt u1 lc) (own_pt u2 sc) (own_pt u3 rc) (own_pt u4 vc)).length ≤ 10 := own_bnl hnl
      have l10 := own_bnl (u1 := u1) (u2 := u2) (u3 := u3) (u4 := u4) (x1 := lc) (x2 := sc) (x3 := rc) (x4 := vc) hnl
      refine C.astore 215 (L' := #[.val (.int i0), .val (.int i1), .val (.int i2), .val (.int i3), .val (.int c0), .val (.int c1), .val (.int lc), .val (.int sc), .val (.int rc), .val (.int vc), .val (.int jj), .val (.int u1), .val (.int u2), .val (.int u3), .val (.int u4), .val (.ref an), .val (.ref ca), .val (.ref ra), .unset, .unset, .unset]) at_213 rfl rfl ?_
      have L268 : ∀ (z : Int32), (z = own_last u1 u2 u3 u4) → Go p l e room_1 s m #[(.int i0), (.int i1), (.int i2), (.int i3)] below meth c Z x.cls EL n0 (fun h => h.size) (fun v h => v = some (.int 1)) hp4.size hB 17 80 268 #[.val (.int i0), .val (.int i1), .val (.int i2), .val (.int i3), .val (.int c0), .val (.int c1), .val (.int lc), .val (.int sc), .val (.int rc), .val (.int vc), .val (.int jj), .val (.int u1), .val (.int u2), .val (.int u3), .val (.int u4), .val (.ref an), .val (.ref ca), .val (.ref ra), .val (.int z), .unset, .unset] [] := by
        intro z hz
        refine C.bipush 270 (10 : Int32) at_268 (by decide) ?_
        refine C.newarr (zn := 10) (cap := 10) 272 at_270 (hw _ (List.mem_of_getElem? (i := 173) rfl)) rfl (by decide) (by decide) rfl (by decide) (by decide) (by decide) ?_
        intro ea hE g_ea EE R_ea
        replace R_ea : Ar Z hE ea .char ([] ++ List.replicate (10 - ([] : List Int32).length) 0) := R_ea
        have lt_ea : ea < hE.size := R_ea.lt
        have sz_hE : hB.size ≤ hE.size := EE.1
        replace Sr := Sr.ext EE
        refine C.astore 274 (L' := #[.val (.int i0), .val (.int i1), .val (.int i2), .val (.int i3), .val (.int c0), .val (.int c1), .val (.int lc), .val (.int sc), .val (.int rc), .val (.int vc), .val (.int jj), .val (.int u1), .val (.int u2), .val (.int u3), .val (.int u4), .val (.ref an), .val (.ref ca), .val (.ref ra), .val (.int z), .val (.ref ea), .unset]) at_272 rfl rfl ?_
        refine C.iconst 275 (0 : Int32) at_274 (by decide) ?_
        refine C.istore 277 (L' := #[.val (.int i0), .val (.int i1), .val (.int i2), .val (.int i3), .val (.int c0), .val (.int c1), .val (.int lc), .val (.int sc), .val (.int rc), .val (.int vc), .val (.int jj), .val (.int u1), .val (.int u2), .val (.int u3), .val (.int u4), .val (.ref an), .val (.ref ca), .val (.ref ra), .val (.int z), .val (.ref ea), .val (.int (0 : Int32))]) at_275 rfl ?_
        have L315 : ∀ (ys : List Int32) (hh2 : Heap), (Ar Z hh2 ea .char (ys ++ List.replicate (10 - ys.length) 0)) → (Str Z hh2 hB.size ra (own_bn nm (own_pt u1 lc) (own_pt u2 sc) (own_pt u3 rc) (own_pt u4 vc))) → (hE.size ≤ hh2.size) → (ys = nm) → Go p l e room_1 s m #[(.int i0), (.int i1), (.int i2), (.int i3)] below meth c Z x.cls EL n0 (fun h => h.size) (fun v h => v = some (.int 1)) hp4.size hh2 18 90 315 #[.val (.int i0), .val (.int i1), .val (.int i2), .val (.int i3), .val (.int c0), .val (.int c1), .val (.int lc), .val (.int sc), .val (.int rc), .val (.int vc), .val (.int jj), .val (.int u1), .val (.int u2), .val (.int u3), .val (.int u4), .val (.ref an), .val (.ref ca), .val (.ref ra), .val (.int z), .val (.ref ea), .val (.int (Int32.ofNat ys.length))] [] := by
          intro ys hh2 R_ea Sr szh2 hys
          have hy0 : ys.length ≤ 2 := by rw [hys]; exact hnl
          refine C.aload 317 at_315 rfl rfl ?_
          have L330 : ∀ (w1 : Int32), (w1 = if z < 1 then 0 else 1) → Go p l e room_1 s m #[(.int i0), (.int i1), (.int i2), (.int i3)] below meth c Z x.cls EL n0 (fun h => h.size) (fun v h => v = some (.int 1)) hp4.size hh2 18 90 330 #[.val (.int i0), .val (.int i1), .val (.int i2), .val (.int i3), .val (.int c0), .val (.int c1), .val (.int lc), .val (.int sc), .val (.int rc), .val (.int vc), .val (.int jj), .val (.int u1), .val (.int u2), .val (.int u3), .val (.int u4), .val (.ref an), .val (.ref ca), .val (.ref ra), .val (.int z), .val (.ref ea), .val (.int (Int32.ofNat ys.length))] [(.int w1), (.int (Int32.ofNat ys.length)), (.ref ea)] := by
            intro w1 hw1
            refine C.iload 332 at_330 rfl ?_
            refine C.iload 334 at_332 rfl ?_
            refine C.callS (b := ea) 337 [(.ref ea), (.int (Int32.ofNat ys.length)), (.int w1), (.int u1), (.int lc)] [] at_334 (met_emit l Z a0 hw EL hEL ea hp4.size hh2 (by omega) (by omega) ea ys w1 u1 lc R_ea (by omega) p2 q2 (Nat.le_refl _)) (by omega) (Or.inl (Nat.le_refl _)) (hw _ (List.mem_of_getElem? (i := 174) rfl)) (hw _ (List.mem_of_getElem? (i := 175) rfl)) (hw _ (List.mem_of_getElem? (i := 31) rfl)) (hw _ (List.mem_of_getElem? (i := 176) rfl)) (by decide) rfl (lenOf pd__ACIZZC_rI rfl) (by decide) (W := 0) (Nat.le_of_eq rfl) (by decide) (by decide) (by decide) rfl ?_
            rintro _ hm1 Km1 ⟨rfl, R2⟩
            have sz_hm1 : hh2.size ≤ hm1.size := Km1.1
            replace Sr := Sr.kp Km1 (fun x q => by first | omega | (dsimp only; omega))
            obtain ⟨y1, ey1⟩ : ∃ y, y = ys ++ own_em w1 u1 lc := ⟨_, rfl⟩
            rw [← ey1] at R2
            rw [← ey1]
            replace R_ea := R2
            have hy1 : y1.length ≤ ys.length + 2 := by rw [ey1, List.length_append]; have := own_eml w1 u1 lc; omega
            refine C.istore 339 (L' := #[.val (.int i0), .val (.int i1), .val (.int i2), .val (.int i3), .val (.int c0), .val (.int c1), .val (.int lc), .val (.int sc), .val (.int rc), .val (.int vc), .val (.int jj), .val (.int u1), .val (.int u2), .val (.int u3), .val (.int u4), .val (.ref an), .val (.ref ca), .val (.ref ra), .val (.int z), .val (.ref ea), .val (.int (Int32.ofNat y1.length))]) at_337 rfl ?_
            have L359 : ∀ (w2 : Int32), (w2 = if z < 2 then 0 else if u2 = 0 then 0 else 1) → Go p l e room_1 s m #[(.int i0), (.int i1), (.int i2), (.int i3)] below meth c Z x.cls EL n0 (fun h => h.size) (fun v h => v = some (.int 1)) hp4.size hm1 18 90 359 #[.val (.int i0), .val (.int i1), .val (.int i2), .val (.int i3), .val (.int c0), .val (.int c1), .val (.int lc), .val (.int sc), .val (.int rc), .val (.int vc), .val (.int jj), .val (.int u1), .val (.int u2), .val (.int u3), .val (.int u4), .val (.ref an), .val (.ref ca), .val (.ref ra), .val (.int z), .val (.ref ea), .val (.int (Int32.ofNat y1.length))] [(.int w2), (.int (Int32.ofNat y1.length)), (.ref ea)] := by
              intro w2 hw2
              refine C.iload 361 at_359 rfl ?_
              refine C.iload 363 at_361 rfl ?_
              refine C.callS (b := ea) 366 [(.ref ea), (.int (Int32.ofNat y1.length)), (.int w2), (.int u2), (.int sc)] [] at_363 (met_emit l Z a0 hw EL hEL ea hp4.size hm1 (by omega) (by omega) ea y1 w2 u2 sc R_ea (by omega) p3 q3 (Nat.le_refl _)) (by omega) (Or.inl (Nat.le_refl _)) (hw _ (List.mem_of_getElem? (i := 174) rfl)) (hw _ (List.mem_of_getElem? (i := 175) rfl)) (hw _ (List.mem_of_getElem? (i := 31) rfl)) (hw _ (List.mem_of_getElem? (i := 176) rfl)) (by decide) rfl (lenOf pd__ACIZZC_rI rfl) (by decide) (W := 0) (Nat.le_of_eq rfl) (by decide) (by decide) (by decide) rfl ?_
              rintro _ hm2 Km2 ⟨rfl, R2⟩
              have sz_hm2 : hm1.size ≤ hm2.size := Km2.1
              replace Sr := Sr.kp Km2 (fun x q => by first | omega | (dsimp only; omega))
              obtain ⟨y2, ey2⟩ : ∃ y, y = y1 ++ own_em w2 u2 sc := ⟨_, rfl⟩
              rw [← ey2] at R2
              rw [← ey2]
              replace R_ea := R2
              have hy2 : y2.length ≤ y1.length + 2 := by rw [ey2, List.length_append]; have := own_eml w2 u2 sc; omega
              refine C.istore 368 (L' := #[.val (.int i0), .val (.int i1), .val (.int i2), .val (.int i3), .val (.int c0), .val (.int c1), .val (.int lc), .val (.int sc), .val (.int rc), .val (.int vc), .val (.int jj), .val (.int u1), .val (.int u2), .val (.int u3), .val (.int u4), .val (.ref an), .val (.ref ca), .val (.ref ra), .val (.int z), .val (.ref ea), .val (.int (Int32.ofNat y2.length))]) at_366 rfl ?_
              have L383 : ∀ (w3 : Int32), (w3 = if z < 3 then 0 else 1) → Go p l e room_1 s m #[(.int i0), (.int i1), (.int i2), (.int i3)] below meth c Z x.cls EL n0 (fun h => h.size) (fun v h => v = some (.int 1)) hp4.size hm2 18 90 383 #[.val (.int i0), .val (.int i1), .val (.int i2), .val (.int i3), .val (.int c0), .val (.int c1), .val (.int lc), .val (.int sc), .val (.int rc), .val (.int vc), .val (.int jj), .val (.int u1), .val (.int u2), .val (.int u3), .val (.int u4), .val (.ref an), .val (.ref ca), .val (.ref ra), .val (.int z), .val (.ref ea), .val (.int (Int32.ofNat y2.length))] [(.int w3), (.int (Int32.ofNat y2.length)), (.ref ea)] := by
                intro w3 hw3
                refine C.iload 385 at_383 rfl ?_
                refine C.iload 387 at_385 rfl ?_
                refine C.callS (b := ea) 390 [(.ref ea), (.int (Int32.ofNat y2.length)), (.int w3), (.int u3), (.int rc)] [] at_387 (met_emit l Z a0 hw EL hEL ea hp4.size hm2 (by omega) (by omega) ea y2 w3 u3 rc R_ea (by omega) p4 q4 (Nat.le_refl _)) (by omega) (Or.inl (Nat.le_refl _)) (hw _ (List.mem_of_getElem? (i := 174) rfl)) (hw _ (List.mem_of_getElem? (i := 175) rfl)) (hw _ (List.mem_of_getElem? (i := 31) rfl)) (hw _ (List.mem_of_getElem? (i := 176) rfl)) (by decide) rfl (lenOf pd__ACIZZC_rI rfl) (by decide) (W := 0) (Nat.le_of_eq rfl) (by decide) (by decide) (by decide) rfl ?_
                rintro _ hm3 Km3 ⟨rfl, R2⟩
                have sz_hm3 : hm2.size ≤ hm3.size := Km3.1
                replace Sr := Sr.kp Km3 (fun x q => by first | omega | (dsimp only; omega))
                obtain ⟨y3, ey3⟩ : ∃ y, y = y2 ++ own_em w3 u3 rc := ⟨_, rfl⟩
                rw [← ey3] at R2
                rw [← ey3]
                replace R_ea := R2
                have hy3 : y3.length ≤ y2.length + 2 := by rw [ey3, List.length_append]; have := own_eml w3 u3 rc; omega
                refine C.istore 392 (L' := #[.val (.int i0), .val (.int i1), .val (.int i2), .val (.int i3), .val (.int c0), .val (.int c1), .val (.int lc), .val (.int sc), .val (.int rc), .val (.int vc), .val (.int jj), .val (.int u1), .val (.int u2), .val (.int u3), .val (.int u4), .val (.ref an), .val (.ref ca), .val (.ref ra), .val (.int z), .val (.ref ea), .val (.int (Int32.ofNat y3.length))]) at_390 rfl ?_
                have L407 : ∀ (w4 : Int32), (w4 = if z < 4 then 0 else 1) → Go p l e room_1 s m #[(.int i0), (.int i1), (.int i2), (.int i3)] below meth c Z x.cls EL n0 (fun h => h.size) (fun v h => v = some (.int 1)) hp4.size hm3 18 90 407 #[.val (.int i0), .val (.int i1), .val (.int i2), .val (.int i3), .val (.int c0), .val (.int c1), .val (.int lc), .val (.int sc), .val (.int rc), .val (.int vc), .val (.int jj), .val (.int u1), .val (.int u2), .val (.int u3), .val (.int u4), .val (.ref an), .val (.ref ca), .val (.ref ra), .val (.int z), .val (.ref ea), .val (.int (Int32.ofNat y3.length))] [(.int w4), (.int (Int32.ofNat y3.length)), (.ref ea)] := by
                  intro w4 hw4
                  refine C.iload 409 at_407 rfl ?_
                  refine C.iload 411 at_409 rfl ?_
                  refine C.callS (b := ea) 414 [(.ref ea), (.int (Int32.ofNat y3.length)), (.int w4), (.int u4), (.int vc)] [] at_411 (met_emit l Z a0 hw EL hEL ea hp4.size hm3 (by omega) (by omega) ea y3 w4 u4 vc R_ea (by omega) p5 q5 (Nat.le_refl _)) (by omega) (Or.inl (Nat.le_refl _)) (hw _ (List.mem_of_getElem? (i := 174) rfl)) (hw _ (List.mem_of_getElem? (i := 175) rfl)) (hw _ (List.mem_of_getElem? (i := 31) rfl)) (hw _ (List.mem_of_getElem? (i := 176) rfl)) (by decide) rfl (lenOf pd__ACIZZC_rI rfl) (by decide) (W := 0) (Nat.le_of_eq rfl) (by decide) (by decide) (by decide) rfl ?_
                  rintro _ hm4 Km4 ⟨rfl, R2⟩
                  have sz_hm4 : hm3.size ≤ hm4.size := Km4.1
                  replace Sr := Sr.kp Km4 (fun x q => by first | omega | (dsimp only; omega))
                  obtain ⟨y4, ey4⟩ : ∃ y, y = y3 ++ own_em w4 u4 vc := ⟨_, rfl⟩
                  rw [← ey4] at R2
                  rw [← ey4]
                  replace R_ea := R2
                  have hy4 : y4.length ≤ y3.length + 2 := by rw [ey4, List.length_append]; have := own_eml w4 u4 vc; omega
                  refine C.istore 416 (L' := #[.val (.int i0), .val (.int i1), .val (.int i2), .val (.int i3), .val (.int c0), .val (.int c1), .val (.int lc), .val (.int sc), .val (.int rc), .val (.int vc), .val (.int jj), .val (.int u1), .val (.int u2), .val (.int u3), .val (.int u4), .val (.ref an), .val (.ref ca), .val (.ref ra), .val (.int z), .val (.ref ea), .val (.int (Int32.ofNat y4.length))]) at_414 rfl ?_
                  have fin : y4 = own_bn nm (own_pt u1 lc) (own_pt u2 sc) (own_pt u3 rc) (own_pt u4 vc) := by rw [ey4, ey3, ey2, ey1, hys]; exact own_fin nm lc sc rc vc hu1 hu2 hu3 hu4 hz hw1 hw2 hw3 hw4
                  rw [← fin] at Sr l10
                  refine C.aload 418 at_416 rfl rfl ?_
                  refine C.callV (b := hm4.size) 421 [] [] at_418 (met_len l Z a0 hw EL hEL hm4.size hp4.size hm4 (by omega) (by omega) ra _ y4 z0 Sr SC hzc) Sr.exa (by omega) (Or.inl (Nat.le_refl _)) (hw _ (List.mem_of_getElem? (i := 177) rfl)) (hw _ (List.mem_of_getElem? (i := 67) rfl)) (hw _ (List.mem_of_getElem? (i := 69) rfl)) (hw _ (List.mem_of_getElem? (i := 68) rfl)) (hw _ (List.mem_of_getElem? (i := 2) rfl)) (hw _ (List.mem_of_getElem? (i := 70) rfl)) (fun hZ => notFace_of_selects (args := #[]) (mvT hZ (hw _ (List.mem_of_getElem? (i := 69) rfl)))) (by decide) rfl (lenOf pd___rI rfl) (by decide) (W := 0) (Nat.le_of_eq rfl) (by decide) (by decide) (by decide) rfl ?_
                  rintro _ h418_13 K418_13 ⟨rfl, rfl⟩
                  refine C.iload 423 at_421 rfl ?_
                  refine C.icN 426 at_423 rfl (XT.ii_ne_f (show (Int32.ofNat y4.length) = (Int32.ofNat y4.length) from rfl)) ?_
                  refine C.aload 428 at_426 rfl rfl ?_
                  refine C.aload 430 at_428 rfl rfl ?_
                  refine C.iload 432 at_430 rfl ?_
                  refine C.iconst 433 (0 : Int32) at_432 (by decide) ?_
                  refine C.callS (b := hm4.size) 436 [(.ref ra), (.ref ea), (.int (Int32.ofNat y4.length)), (.int (0 : Int32))] [] at_433 (met_eq l Z a0 hw EL hEL hm4.size hp4.size hm4 (by omega) (by omega) ra ea _ y4 _ 0 z0 fm Sr R_ea rfl (by decide) l10 SC hzc hfm SF) (by omega) (Or.inl (Nat.le_refl _)) (hw _ (List.mem_of_getElem? (i := 178) rfl)) (hw _ (List.mem_of_getElem? (i := 179) rfl)) (hw _ (List.mem_of_getElem? (i := 31) rfl)) (hw _ (List.mem_of_getElem? (i := 180) rfl)) (by decide) rfl (lenOf pd__Ljava_lang_StringACII_rZ rfl) (by decide) (W := 0) (Nat.le_of_eq rfl) (by decide) (by decide) (by decide) rfl ?_
                  rintro _ h433_14 K433_14 ⟨rfl, rfl⟩
                  refine C.ifN 439 at_436 rfl (XT.i0_eq_f (show ¬ ((1 : Int32) = 0) from (by decide))) ?_
                  refine C.aload 441 at_439 rfl rfl ?_
                  refine C.aload 443 at_441 rfl rfl ?_
                  refine C.iload 445 at_443 rfl ?_
                  refine C.iconst 446 (1 : Int32) at_445 (by decide) ?_
                  refine C.callS (b := hm4.size) 449 [(.ref ra), (.ref ea), (.int (Int32.ofNat y4.length)), (.int (1 : Int32))] [] at_446 (met_eq l Z a0 hw EL hEL hm4.size hp4.size hm4 (by omega) (by omega) ra ea _ y4 _ 1 z0 fm Sr R_ea rfl (by decide) l10 SC hzc hfm SF) (by omega) (Or.inl (Nat.le_refl _)) (hw _ (List.mem_of_getElem? (i := 178) rfl)) (hw _ (List.mem_of_getElem? (i := 179) rfl)) (hw _ (List.mem_of_getElem? (i := 31) rfl)) (hw _ (List.mem_of_getElem? (i := 180) rfl)) (by decide) rfl (lenOf pd__Ljava_lang_StringACII_rZ rfl) (by decide) (W := 0) (Nat.le_of_eq rfl) (by decide) (by decide) (by decide) rfl ?_
                  rintro _ h446_15 K446_15 ⟨rfl, rfl⟩
                  refine C.ifN 452 at_449 rfl (XT.i0_eq_f (show ¬ ((1 : Int32) = 0) from (by decide))) ?_
                  refine C.aload 454 at_452 rfl rfl ?_
                  refine C.aload 456 at_454 rfl rfl ?_
                  refine C.iload 458 at_456 rfl ?_
                  refine C.iconst 459 (2 : Int32) at_458 (by decide) ?_
                  refine C.callS (b := hm4.size) 462 [(.ref ra), (.ref ea), (.int (Int32.ofNat y4.length)), (.int (2 : Int32))] [] at_459 (met_eq l Z a0 hw EL hEL hm4.size hp4.size hm4 (by omega) (by omega) ra ea _ y4 _ 2 z0 fm Sr R_ea rfl (by decide) l10 SC hzc hfm SF) (by omega) (Or.inl (Nat.le_refl _)) (hw _ (List.mem_of_getElem? (i := 178) rfl)) (hw _ (List.mem_of_getElem? (i := 179) rfl)) (hw _ (List.mem_of_getElem? (i := 31) rfl)) (hw _ (List.mem_of_getElem? (i := 180) rfl)) (by decide) rfl (lenOf pd__Ljava_lang_StringACII_rZ rfl) (by decide) (W := 0) (Nat.le_of_eq rfl) (by decide) (by decide) (by decide) rfl ?_
                  rintro _ h459_16 K459_16 ⟨rfl, rfl⟩
                  refine C.ifN 465 at_462 rfl (XT.i0_eq_f (show ¬ ((1 : Int32) = 0) from (by decide))) ?_
                  refine C.aload 467 at_465 rfl rfl ?_
                  refine C.aload 469 at_467 rfl rfl ?_
                  refine C.iload 471 at_469 rfl ?_
                  refine C.iconst 472 (3 : Int32) at_471 (by decide) ?_
                  refine C.callS (b := hm4.size) 475 [(.ref ra), (.ref ea), (.int (Int32.ofNat y4.length)), (.int (3 : Int32))] [] at_472 (met_eq l Z a0 hw EL hEL hm4.size hp4.size hm4 (by omega) (by omega) ra ea _ y4 _ 3 z0 fm Sr R_ea rfl (by decide) l10 SC hzc hfm SF) (by omega) (Or.inl (Nat.le_refl _)) (hw _ (List.mem_of_getElem? (i := 178) rfl)) (hw _ (List.mem_of_getElem? (i := 179) rfl)) (hw _ (List.mem_of_getElem? (i := 31) rfl)) (hw _ (List.mem_of_getElem? (i := 180) rfl)) (by decide) rfl (lenOf pd__Ljava_lang_StringACII_rZ rfl) (by decide) (W := 0) (Nat.le_of_eq rfl) (by decide) (by decide) (by decide) rfl ?_
                  rintro _ h472_17 K472_17 ⟨rfl, rfl⟩
                  refine C.ifN 478 at_475 rfl (XT.i0_eq_f (show ¬ ((1 : Int32) = 0) from (by decide))) ?_
                  refine C.aload 480 at_478 rfl rfl ?_
                  refine C.aload 482 at_480 rfl rfl ?_
                  refine C.iload 484 at_482 rfl ?_
                  refine C.iconst 485 (4 : Int32) at_484 (by decide) ?_
                  refine C.callS (b := hm4.size) 488 [(.ref ra), (.ref ea), (.int (Int32.ofNat y4.length)), (.int (4 : Int32))] [] at_485 (met_eq l Z a0 hw EL hEL hm4.size hp4.size hm4 (by omega) (by omega) ra ea _ y4 _ 4 z0 fm Sr R_ea rfl (by decide) l10 SC hzc hfm SF) (by omega) (Or.inl (Nat.le_refl _)) (hw _ (List.mem_of_getElem? (i := 178) rfl)) (hw _ (List.mem_of_getElem? (i := 179) rfl)) (hw _ (List.mem_of_getElem? (i := 31) rfl)) (hw _ (List.mem_of_getElem? (i := 180) rfl)) (by decide) rfl (lenOf pd__Ljava_lang_StringACII_rZ rfl) (by decide) (W := 0) (Nat.le_of_eq rfl) (by decide) (by decide) (by decide) rfl ?_
                  rintro _ h485_18 K485_18 ⟨rfl, rfl⟩
                  refine C.ifN 491 at_488 rfl (XT.i0_eq_f (show ¬ ((1 : Int32) = 0) from (by decide))) ?_
                  refine C.aload 493 at_491 rfl rfl ?_
                  refine C.aload 495 at_493 rfl rfl ?_
                  refine C.iload 497 at_495 rfl ?_
                  refine C.iconst 498 (5 : Int32) at_497 (by decide) ?_
                  refine C.callS (b := hm4.size) 501 [(.ref ra), (.ref ea), (.int (Int32.ofNat y4.length)), (.int (5 : Int32))] [] at_498 (met_eq l Z a0 hw EL hEL hm4.size hp4.size hm4 (by omega) (by omega) ra ea _ y4 _ 5 z0 fm Sr R_ea rfl (by decide) l10 SC hzc hfm SF) (by omega) (Or.inl (Nat.le_refl _)) (hw _ (List.mem_of_getElem? (i := 178) rfl)) (hw _ (List.mem_of_getElem? (i := 179) rfl)) (hw _ (List.mem_of_getElem? (i := 31) rfl)) (hw _ (List.mem_of_getElem? (i := 180) rfl)) (by decide) rfl (lenOf pd__Ljava_lang_StringACII_rZ rfl) (by decide) (W := 0) (Nat.le_of_eq rfl) (by decide) (by decide) (by decide) rfl ?_
                  rintro _ h498_19 K498_19 ⟨rfl, rfl⟩
                  refine C.ifN 504 at_501 rfl (XT.i0_eq_f (show ¬ ((1 : Int32) = 0) from (by decide))) ?_
                  refine C.aload 506 at_504 rfl rfl ?_
                  refine C.aload 508 at_506 rfl rfl ?_
                  refine C.iload 510 at_508 rfl ?_
                  refine C.bipush 512 (6 : Int32) at_510 (by decide) ?_
                  refine C.callS (b := hm4.size) 515 [(.ref ra), (.ref ea), (.int (Int32.ofNat y4.length)), (.int (6 : Int32))] [] at_512 (met_eq l Z a0 hw EL hEL hm4.size hp4.size hm4 (by omega) (by omega) ra ea _ y4 _ 6 z0 fm Sr R_ea rfl (by decide) l10 SC hzc hfm SF) (by omega) (Or.inl (Nat.le_refl _)) (hw _ (List.mem_of_getElem? (i := 178) rfl)) (hw _ (List.mem_of_getElem? (i := 179) rfl)) (hw _ (List.mem_of_getElem? (i := 31) rfl)) (hw _ (List.mem_of_getElem? (i := 180) rfl)) (by decide) rfl (lenOf pd__Ljava_lang_StringACII_rZ rfl) (by decide) (W := 0) (Nat.le_of_eq rfl) (by decide) (by decide) (by decide) rfl ?_
                  rintro _ h512_20 K512_20 ⟨rfl, rfl⟩
                  refine C.ifN 518 at_515 rfl (XT.i0_eq_f (show ¬ ((1 : Int32) = 0) from (by decide))) ?_
                  refine C.aload 520 at_518 rfl rfl ?_
                  refine C.aload 522 at_520 rfl rfl ?_
                  refine C.iload 524 at_522 rfl ?_
                  refine C.bipush 526 (7 : Int32) at_524 (by decide) ?_
                  refine C.callS (b := hm4.size) 529 [(.ref ra), (.ref ea), (.int (Int32.ofNat y4.length)), (.int (7 : Int32))] [] at_526 (met_eq l Z a0 hw EL hEL hm4.size hp4.size hm4 (by omega) (by omega) ra ea _ y4 _ 7 z0 fm Sr R_ea rfl (by decide) l10 SC hzc hfm SF) (by omega) (Or.inl (Nat.le_refl _)) (hw _ (List.mem_of_getElem? (i := 178) rfl)) (hw _ (List.mem_of_getElem? (i := 179) rfl)) (hw _ (List.mem_of_getElem? (i := 31) rfl)) (hw _ (List.mem_of_getElem? (i := 180) rfl)) (by decide) rfl (lenOf pd__Ljava_lang_StringACII_rZ rfl) (by decide) (W := 0) (Nat.le_of_eq rfl) (by decide) (by decide) (by decide) rfl ?_
                  rintro _ h526_21 K526_21 ⟨rfl, rfl⟩
                  refine C.ifN 532 at_529 rfl (XT.i0_eq_f (show ¬ ((1 : Int32) = 0) from (by decide))) ?_
                  refine C.aload 534 at_532 rfl rfl ?_
                  refine C.aload 536 at_534 rfl rfl ?_
                  refine C.iload 538 at_536 rfl ?_
                  refine C.bipush 540 (8 : Int32) at_538 (by decide) ?_
                  refine C.callS (b := hm4.size) 543 [(.ref ra), (.ref ea), (.int (Int32.ofNat y4.length)), (.int (8 : Int32))] [] at_540 (met_eq l Z a0 hw EL hEL hm4.size hp4.size hm4 (by omega) (by omega) ra ea _ y4 _ 8 z0 fm Sr R_ea rfl (by decide) l10 SC hzc hfm SF) (by omega) (Or.inl (Nat.le_refl _)) (hw _ (List.mem_of_getElem? (i := 178) rfl)) (hw _ (List.mem_of_getElem? (i := 179) rfl)) (hw _ (List.mem_of_getElem? (i := 31) rfl)) (hw _ (List.mem_of_getElem? (i := 180) rfl)) (by decide) rfl (lenOf pd__Ljava_lang_StringACII_rZ rfl) (by decide) (W := 0) (Nat.le_of_eq rfl) (by decide) (by decide) (by decide) rfl ?_
                  rintro _ h540_22 K540_22 ⟨rfl, rfl⟩
                  refine C.ifN 546 at_543 rfl (XT.i0_eq_f (show ¬ ((1 : Int32) = 0) from (by decide))) ?_
                  refine C.aload 548 at_546 rfl rfl ?_
                  refine C.aload 550 at_548 rfl rfl ?_
                  refine C.iload 552 at_550 rfl ?_
                  refine C.bipush 554 (9 : Int32) at_552 (by decide) ?_
                  refine C.callS (b := hm4.size) 557 [(.ref ra), (.ref ea), (.int (Int32.ofNat y4.length)), (.int (9 : Int32))] [] at_554 (met_eq l Z a0 hw EL hEL hm4.size hp4.size hm4 (by omega) (by omega) ra ea _ y4 _ 9 z0 fm Sr R_ea rfl (by decide) l10 SC hzc hfm SF) (by omega) (Or.inl (Nat.le_refl _)) (hw _ (List.mem_of_getElem? (i := 178) rfl)) (hw _ (List.mem_of_getElem? (i := 179) rfl)) (hw _ (List.mem_of_getElem? (i := 31) rfl)) (hw _ (List.mem_of_getElem? (i := 180) rfl)) (by decide) rfl (lenOf pd__Ljava_lang_StringACII_rZ rfl) (by decide) (W := 0) (Nat.le_of_eq rfl) (by decide) (by decide) (by decide) rfl ?_
                  rintro _ h554_23 K554_23 ⟨rfl, rfl⟩
                  refine C.ifN 560 at_557 rfl (XT.i0_eq_f (show ¬ ((1 : Int32) = 0) from (by decide))) ?_
                  refine C.iconst 561 (1 : Int32) at_560 (by decide) ?_
                  refine C.goto 565 at_561 (by decide) (by decide) ?_
                  refine C.retN (t := .boolean) rfl (by simp) at_565 (by decide) (by decide) (Or.inr (Nat.le_refl _)) ?_
                  exact rfl
                refine C.aload 394 at_392 rfl rfl ?_
                refine C.iload 396 at_394 rfl ?_
                refine C.iconst 397 (4 : Int32) at_396 (by decide) ?_
                refine C.iload 399 at_397 rfl ?_
                rcases Decidable.em (z < (4 : Int32)) with h399 | h399
                · skip
                  refine C.icY 406 at_399 (by decide) (by decide) (XT.ii_gt_t h399) ?_
                  refine C.iconst 407 (0 : Int32) at_406 (by decide) ?_
                  exact L407 _ (by rw [if_pos h399])
                · skip
                  refine C.icN 402 at_399 rfl (XT.ii_gt_f h399) ?_
                  refine C.iconst 403 (1 : Int32) at_402 (by decide) ?_
                  refine C.goto 407 at_403 (by decide) (by decide) ?_
                  exact L407 _ (by rw [if_neg h399])
              refine C.aload 370 at_368 rfl rfl ?_
              refine C.iload 372 at_370 rfl ?_
              refine C.iconst 373 (3 : Int32) at_372 (by decide) ?_
              refine C.iload 375 at_373 rfl ?_
              rcases Decidable.em (z < (3 : Int32)) with h375 | h375
              · skip
                refine C.icY 382 at_375 (by decide) (by decide) (XT.ii_gt_t h375) ?_
                refine C.iconst 383 (0 : Int32) at_382 (by decide) ?_
                exact L383 _ (by rw [if_pos h375])
              · skip
                refine C.icN 378 at_375 rfl (XT.ii_gt_f h375) ?_
                refine C.iconst 379 (1 : Int32) at_378 (by decide) ?_
                refine C.goto 383 at_379 (by decide) (by decide) ?_
                exact L383 _ (by rw [if_neg h375])
            refine C.aload 341 at_339 rfl rfl ?_
            refine C.iload 343 at_341 rfl ?_
            refine C.iconst 344 (2 : Int32) at_343 (by decide) ?_
            refine C.iload 346 at_344 rfl ?_
            rcases Decidable.em (z < (2 : Int32)) with h346 | h346
            · skip
              refine C.icY 358 at_346 (by decide) (by decide) (XT.ii_gt_t h346) ?_
              refine C.iconst 359 (0 : Int32) at_358 (by decide) ?_
              exact L359 _ (by rw [if_pos h346])
            · skip
              refine C.icN 349 at_346 rfl (XT.ii_gt_f h346) ?_
              refine C.iload 351 at_349 rfl ?_
              rcases Decidable.em (u2 = 0) with h351 | h351
              · skip
                refine C.ifY 358 at_351 (by decide) (by decide) (XT.i0_eq_t h351) ?_
                refine C.iconst 359 (0 : Int32) at_358 (by decide) ?_
                exact L359 _ (by rw [if_neg h346, if_pos h351])
              · skip
                refine C.ifN 354 at_351 rfl (XT.i0_eq_f h351) ?_
                refine C.iconst 355 (1 : Int32) at_354 (by decide) ?_
                refine C.goto 359 at_355 (by decide) (by decide) ?_
                exact L359 _ (by rw [if_neg h346, if_neg h351])
          refine C.iload 319 at_317 rfl ?_
          refine C.iconst 320 (1 : Int32) at_319 (by decide) ?_
          refine C.iload 322 at_320 rfl ?_
          rcases Decidable.em (z < (1 : Int32)) with h322 | h322
          · skip
            refine C.icY 329 at_322 (by decide) (by decide) (XT.ii_gt_t h322) ?_
            refine C.iconst 330 (0 : Int32) at_329 (by decide) ?_
            exact L330 _ (by rw [if_pos h322])
          · skip
            refine C.icN 325 at_322 rfl (XT.ii_gt_f h322) ?_
            refine C.iconst 326 (1 : Int32) at_325 (by decide) ?_
            refine C.goto 330 at_326 (by decide) (by decide) ?_
            exact L330 _ (by rw [if_neg h322])
        have L296 : ∀ (ys : List Int32) (hh2 : Heap), (Ar Z hh2 ea .char (ys ++ List.replicate (10 - ys.length) 0)) → (Str Z hh2 hB.size ra (own_bn nm (own_pt u1 lc) (own_pt u2 sc) (own_pt u3 rc) (own_pt u4 vc))) → (hE.size ≤ hh2.size) → (ys = if jj < 1 then [] else [c0]) → Go p l e room_1 s m #[(.int i0), (.int i1), (.int i2), (.int i3)] below meth c Z x.cls EL n0 (fun h => h.size) (fun v h => v = some (.int 1)) hp4.size hh2 18 90 296 #[.val (.int i0), .val (.int i1), .val (.int i2), .val (.int i3), .val (.int c0), .val (.int c1), .val (.int lc), .val (.int sc), .val (.int rc), .val (.int vc), .val (.int jj), .val (.int u1), .val (.int u2), .val (.int u3), .val (.int u4), .val (.ref an), .val (.ref ca), .val (.ref ra), .val (.int z), .val (.ref ea), .val (.int (Int32.ofNat ys.length))] [] := by
          intro ys hh2 R_ea Sr szh2 hys
          have hyl : ys.length ≤ 1 := by rw [hys]; split <;> simp
          refine C.iload 298 at_296 rfl ?_
          refine C.iconst 299 (2 : Int32) at_298 (by decide) ?_
          rcases Decidable.em (jj < (2 : Int32)) with h299 | h299
          · skip
            refine C.icY 315 at_299 (by decide) (by decide) (XT.ii_lt_t h299) ?_
            exact L315 ys hh2 R_ea Sr (by omega) (by rw [hys, hnm]; exact own_nm1 hj3 h299)
          · skip
            refine C.icN 302 at_299 rfl (XT.ii_lt_f h299) ?_
            refine C.aload 304 at_302 rfl rfl ?_
            refine C.iload 306 at_304 rfl ?_
            refine C.iload 308 at_306 rfl ?_
            refine C.castore 309 ys.length at_308 R_ea rfl (by first | omega | (simp; omega)) (by rw [show nar .char c1 = c1 from own_c0 p1 q1]; exact own_fitc p1 q1) (by omega) (Or.inr (Or.inr ⟨_, _, R_ea, by decide⟩)) ?_
            intro h308_24 W308_24 N308_24
            have sz_h308_24 : hh2.size ≤ h308_24.size := (Nat.le_of_eq W308_24.size.symm)
            replace Sr := Sr.wr W308_24 (by first | omega | (dsimp only; omega))
            replace R_ea : Ar Z h308_24 ea .char ((ys ++ [c1]) ++ List.replicate (10 - (ys ++ [c1]).length) 0) := (by have q := N308_24; rw [show nar .char c1 = c1 from own_c0 p1 q1, own_setn (by omega)] at q; exact q)
            refine C.iload 311 at_309 rfl ?_
            refine C.iconst 312 (1 : Int32) at_311 (by decide) ?_
            refine C.iadd 313 at_312 ?_
            rw [own_succ, show ys.length + 1 = (ys ++ [c1]).length by simp]
            refine C.istore 315 (L' := #[.val (.int i0), .val (.int i1), .val (.int i2), .val (.int i3), .val (.int c0), .val (.int c1), .val (.int lc), .val (.int sc), .val (.int rc), .val (.int vc), .val (.int jj), .val (.int u1), .val (.int u2), .val (.int u3), .val (.int u4), .val (.ref an), .val (.ref ca), .val (.ref ra), .val (.int z), .val (.ref ea), .val (.int (Int32.ofNat (ys ++ [c1]).length))]) at_313 rfl ?_
            exact L315 (ys ++ [c1]) h308_24 R_ea Sr (by omega) (by rw [hys, hnm]; exact own_nm2 hj3 h299)
        refine C.iload 279 at_277 rfl ?_
        refine C.iconst 280 (1 : Int32) at_279 (by decide) ?_
        rcases Decidable.em (jj < (1 : Int32)) with h280 | h280
        · skip
          refine C.icY 296 at_280 (by decide) (by decide) (XT.ii_lt_t h280) ?_
          exact L296 [] hE R_ea Sr (by omega) (by rw [if_pos h280])
        · skip
          refine C.icN 283 at_280 rfl (XT.ii_lt_f h280) ?_
          refine C.aload 285 at_283 rfl rfl ?_
          refine C.iload 287 at_285 rfl ?_
          refine C.iload 289 at_287 rfl ?_
          refine C.castore 290 0 at_289 R_ea rfl (by simp) (by rw [show nar .char c0 = c0 from own_c0 p0 q0]; exact own_fitc p0 q0) (by omega) (Or.inr (Or.inr ⟨_, _, R_ea, by decide⟩)) ?_
          intro h289_25 W289_25 N289_25
          have sz_h289_25 : hE.size ≤ h289_25.size := (Nat.le_of_eq W289_25.size.symm)
          replace Sr := Sr.wr W289_25 (by first | omega | (dsimp only; omega))
          replace R_ea : Ar Z h289_25 ea .char ([c0] ++ List.replicate (10 - [c0].length) 0) := (by have q := N289_25; rw [show nar .char c0 = c0 from own_c0 p0 q0] at q; exact q)
          refine C.iload 292 at_290 rfl ?_
          refine C.iconst 293 (1 : Int32) at_292 (by decide) ?_
          refine C.iadd 294 at_293 ?_
          rw [show (0 : Int32) + 1 = Int32.ofNat 1 from rfl]
          refine C.istore 296 (L' := #[.val (.int i0), .val (.int i1), .val (.int i2), .val (.int i3), .val (.int c0), .val (.int c1), .val (.int lc), .val (.int sc), .val (.int rc), .val (.int vc), .val (.int jj), .val (.int u1), .val (.int u2), .val (.int u3), .val (.int u4), .val (.ref an), .val (.ref ca), .val (.ref ra), .val (.int z), .val (.ref ea), .val (.int (Int32.ofNat 1))]) at_294 rfl ?_
          exact L296 [c0] h289_25 R_ea Sr (by omega) (by rw [if_neg h280])
      have L250 : ∀ (z : Int32), (z = own_l4 u1 u2 u3 u4) → Go p l e room_1 s m #[(.int i0), (.int i1), (.int i2), (.int i3)] below meth c Z x.cls EL n0 (fun h => h.size) (fun v h => v = some (.int 1)) hp4.size hB 17 80 250 #[.val (.int i0), .val (.int i1), .val (.int i2), .val (.int i3), .val (.int c0), .val (.int c1), .val (.int lc), .val (.int sc), .val (.int rc), .val (.int vc), .val (.int jj), .val (.int u1), .val (.int u2), .val (.int u3), .val (.int u4), .val (.ref an), .val (.ref ca), .val (.ref ra), .val (.int z), .unset, .unset] [] := by
        intro z hz
        refine C.iload 252 at_250 rfl ?_
        rcases Decidable.em (u1 = 0) with h252 | h252
        · skip
          refine C.ifN 255 at_252 rfl (XT.i0_ne_f h252) ?_
          refine C.iload 257 at_255 rfl ?_
          rcases Decidable.em (u3 = 0) with h257 | h257
          · skip
            refine C.ifN 260 at_257 rfl (XT.i0_ne_f h257) ?_
            refine C.iload 262 at_260 rfl ?_
            rcases Decidable.em (u4 = 0) with h262 | h262
            · skip
              refine C.ifN 265 at_262 rfl (XT.i0_ne_f h262) ?_
              refine C.iconst 266 (0 : Int32) at_265 (by decide) ?_
              refine C.istore 268 (L' := #[.val (.int i0), .val (.int i1), .val (.int i2), .val (.int i3), .val (.int c0), .val (.int c1), .val (.int lc), .val (.int sc), .val (.int rc), .val (.int vc), .val (.int jj), .val (.int u1), .val (.int u2), .val (.int u3), .val (.int u4), .val (.ref an), .val (.ref ca), .val (.ref ra), .val (.int (0 : Int32)), .unset, .unset]) at_266 rfl ?_
              exact L268 _ (by rw [own_last, if_pos ⟨h252, h257, h262⟩])
            · skip
              refine C.ifY 268 at_262 (by decide) (by decide) (XT.i0_ne_t h262) ?_
              exact L268 _ (by rw [own_last, if_neg (fun q => h262 q.2.2)]; exact hz)
          · skip
            refine C.ifY 268 at_257 (by decide) (by decide) (XT.i0_ne_t h257) ?_
            exact L268 _ (by rw [own_last, if_neg (fun q => h257 q.2.1)]; exact hz)
        · skip
          refine C.ifY 268 at_252 (by decide) (by decide) (XT.i0_ne_t h252) ?_
          exact L268 _ (by rw [own_last, if_neg (fun q => h252 q.1)]; exact hz)
      have L242 : ∀ (z : Int32), (z = own_l3 u1 u2 u3) → Go p l e room_1 s m #[(.int i0), (.int i1), (.int i2), (.int i3)] below meth c Z x.cls EL n0 (fun h => h.size) (fun v h => v = some (.int 1)) hp4.size hB 17 80 242 #[.val (.int i0), .val (.int i1), .val (.int i2), .val (.int i3), .val (.int c0), .val (.int c1), .val (.int lc), .val (.int sc), .val (.int rc), .val (.int vc), .val (.int jj), .val (.int u1), .val (.int u2), .val (.int u3), .val (.int u4), .val (.ref an), .val (.ref ca), .val (.ref ra), .val (.int z), .unset, .unset] [] := by
        intro z hz
        refine C.iload 244 at_242 rfl ?_
        rcases Decidable.em (u4 = 0) with h244 | h244
        · skip
          refine C.ifY 250 at_244 (by decide) (by decide) (XT.i0_eq_t h244) ?_
          exact L250 _ (by rw [own_l4, if_pos h244]; exact hz)
        · skip
          refine C.ifN 247 at_244 rfl (XT.i0_eq_f h244) ?_
          refine C.iconst 248 (4 : Int32) at_247 (by decide) ?_
          refine C.istore 250 (L' := #[.val (.int i0), .val (.int i1), .val (.int i2), .val (.int i3), .val (.int c0), .val (.int c1), .val (.int lc), .val (.int sc), .val (.int rc), .val (.int vc), .val (.int jj), .val (.int u1), .val (.int u2), .val (.int u3), .val (.int u4), .val (.ref an), .val (.ref ca), .val (.ref ra), .val (.int (4 : Int32)), .unset, .unset]) at_248 rfl ?_
          exact L250 _ (by rw [own_l4, if_neg h244])
      have L234 : ∀ (z : Int32), (z = own_l2 u1 u2) → Go p l e room_1 s m #[(.int i0), (.int i1), (.int i2), (.int i3)] below meth c Z x.cls EL n0 (fun h => h.size) (fun v h => v = some (.int 1)) hp4.size hB 17 80 234 #[.val (.int i0), .val (.int i1), .val (.int i2), .val (.int i3), .val (.int c0), .val (.int c1), .val (.int lc), .val (.int sc), .val (.int rc), .val (.int vc), .val (.int jj), .val (.int u1), .val (.int u2), .val (.int u3), .val (.int u4), .val (.ref an), .val (.ref ca), .val (.ref ra), .val (.int z), .unset, .unset] [] := by
        intro z hz
        refine C.iload 236 at_234 rfl ?_
        rcases Decidable.em (u3 = 0) with h236 | h236
        · skip
          refine C.ifY 242 at_236 (by decide) (by decide) (XT.i0_eq_t h236) ?_
          exact L242 _ (by rw [own_l3, if_pos h236]; exact hz)
        · skip
          refine C.ifN 239 at_236 rfl (XT.i0_eq_f h236) ?_
          refine C.iconst 240 (3 : Int32) at_239 (by decide) ?_
          refine C.istore 242 (L' := #[.val (.int i0), .val (.int i1), .val (.int i2), .val (.int i3), .val (.int c0), .val (.int c1), .val (.int lc), .val (.int sc), .val (.int rc), .val (.int vc), .val (.int jj), .val (.int u1), .val (.int u2), .val (.int u3), .val (.int u4), .val (.ref an), .val (.ref ca), .val (.ref ra), .val (.int (3 : Int32)), .unset, .unset]) at_240 rfl ?_
          exact L242 _ (by rw [own_l3, if_neg h236])
      have L226 : ∀ (z : Int32), (z = own_l1 u1) → Go p l e room_1 s m #[(.int i0), (.int i1), (.int i2), (.int i3)] below meth c Z x.cls EL n0 (fun h => h.size) (fun v h => v = some (.int 1)) hp4.size hB 17 80 226 #[.val (.int i0), .val (.int i1), .val (.int i2), .val (.int i3), .val (.int c0), .val (.int c1), .val (.int lc), .val (.int sc), .val (.int rc), .val (.int vc), .val (.int jj), .val (.int u1), .val (.int u2), .val (.int u3), .val (.int u4), .val (.ref an), .val (.ref ca), .val (.ref ra), .val (.int z), .unset, .unset] [] := by
        intro z hz
        refine C.iload 228 at_226 rfl ?_
        rcases Decidable.em (u2 = 0) with h228 | h228
        · skip
          refine C.ifY 234 at_228 (by decide) (by decide) (XT.i0_eq_t h228) ?_
          exact L234 _ (by rw [own_l2, if_pos h228]; exact hz)
        · skip
          refine C.ifN 231 at_228 rfl (XT.i0_eq_f h228) ?_
          refine C.iconst 232 (2 : Int32) at_231 (by decide) ?_
          refine C.istore 234 (L' := #[.val (.int i0), .val (.int i1), .val (.int i2), .val (.int i3), .val (.int c0), .val (.int c1), .val (.int lc), .val (.int sc), .val (.int rc), .val (.int vc), .val (.int jj), .val (.int u1), .val (.int u2), .val (.int u3), .val (.int u4), .val (.ref an), .val (.ref ca), .val (.ref ra), .val (.int (2 : Int32)), .unset, .unset]) at_232 rfl ?_
          exact L234 _ (by rw [own_l2, if_neg h228])
      refine C.iconst 216 (0 : Int32) at_215 (by decide) ?_
      refine C.istore 218 (L' := #[.val (.int i0), .val (.int i1), .val (.int i2), .val (.int i3), .val (.int c0), .val (.int c1), .val (.int lc), .val (.int sc), .val (.int rc), .val (.int vc), .val (.int jj), .val (.int u1), .val (.int u2), .val (.int u3), .val (.int u4), .val (.ref an), .val (.ref ca), .val (.ref ra), .val (.int (0 : Int32)), .unset, .unset]) at_216 rfl ?_
      refine C.iload 220 at_218 rfl ?_
      rcases Decidable.em (u1 = 0) with h220 | h220
      · skip
        refine C.ifY 226 at_220 (by decide) (by decide) (XT.i0_eq_t h220) ?_
        exact L226 _ (by rw [own_l1, if_pos h220])
      · skip
        refine C.ifN 223 at_220 rfl (XT.i0_eq_f h220) ?_
        refine C.iconst 224 (1 : Int32) at_223 (by decide) ?_
        refine C.istore 226 (L' := #[.val (.int i0), .val (.int i1), .val (.int i2), .val (.int i3), .val (.int c0), .val (.int c1), .val (.int lc), .val (.int sc), .val (.int rc), .val (.int vc), .val (.int jj), .val (.int u1), .val (.int u2), .val (.int u3), .val (.int u4), .val (.ref an), .val (.ref ca), .val (.ref ra), .val (.int (1 : Int32)), .unset, .unset]) at_224 rfl ?_
        exact L226 _ (by rw [own_l1, if_neg h220])
    refine C.iload 121 at_119 rfl ?_
    rcases Decidable.em (jj = 0) with h121 | h121
    · skip
      refine C.ifN 124 at_121 rfl (XT.i0_ne_f h121) ?_
      refine C.ldcT (nn := 0) (vs := (([] : List Int32).map own_lo).map Value.int) (z := Int32.ofNat (([] : List Int32).map own_lo).length) 126 at_124 (hw _ (List.mem_of_getElem? (i := 33) rfl)) wS hmem ⟨by decide, by decide⟩ (by decide) (by decide) (by decide) (by decide) (by decide) (by decide) ?_
      intro an tT kbT hT ET AT BT VT WT
      have sz_hT : h0.size ≤ hT.size := ET.1
      have ST : Str Z hT hT.size an [] := Str.lit AT BT VT WT (by decide) (by decide)
      refine C.astore 128 (L' := #[.val (.int i0), .val (.int i1), .val (.int i2), .val (.int i3), .val (.int c0), .val (.int c1), .val (.int lc), .val (.int sc), .val (.int rc), .val (.int vc), .val (.int jj), .val (.int u1), .val (.int u2), .val (.int u3), .val (.int u4), .val (.ref an), .unset, .unset, .unset, .unset, .unset]) at_126 rfl rfl ?_
      refine C.goto 169 at_128 (by decide) (by decide) ?_
      refine Go.more 4 20 (by decide) (by decide) ?_
      exact L169 an [] hT ST (by rw [own_nm, if_pos h121]) (by omega)
    · skip
      refine C.ifY 131 at_121 (by decide) (by decide) (XT.i0_ne_t h121) ?_
      refine C.iload 133 at_131 rfl ?_
      refine C.iconst 134 (1 : Int32) at_133 (by decide) ?_
      rcases Decidable.em (jj = (1 : Int32)) with h134 | h134
      · skip
        refine C.icN 137 at_134 rfl (XT.ii_ne_f h134) ?_
        refine C.iload 139 at_137 rfl ?_
        refine C.callS (b := h0.size) 142 [(.int c0)] [] at_139 (met_vo l Z a0 hw EL hEL h0.size bk h0 (by omega) (by omega) c0 z0 p0 q0 SC hzc hbk) (by omega) (Or.inl (Nat.le_refl _)) (hw _ (List.mem_of_getElem? (i := 0) rfl)) (hw _ (List.mem_of_getElem? (i := 1) rfl)) (hw _ (List.mem_of_getElem? (i := 2) rfl)) (hw _ (List.mem_of_getElem? (i := 3) rfl)) (by decide) rfl (lenOf pd__C_rLjava_lang_String rfl) (by decide) (W := 0) (Nat.le_of_eq rfl) (by decide) (by decide) (by decide) rfl ?_
        rintro _ hV KV ⟨an, rfl, ST⟩
        have sz_hV : h0.size ≤ hV.size := KV.1
        refine C.astore 144 (L' := #[.val (.int i0), .val (.int i1), .val (.int i2), .val (.int i3), .val (.int c0), .val (.int c1), .val (.int lc), .val (.int sc), .val (.int rc), .val (.int vc), .val (.int jj), .val (.int u1), .val (.int u2), .val (.int u3), .val (.int u4), .val (.ref an), .unset, .unset, .unset, .unset, .unset]) at_142 rfl rfl ?_
        refine C.goto 169 at_144 (by decide) (by decide) ?_
        refine Go.upbk hV.size (Or.inr (Nat.le_refl _)) ?_
        refine Go.more 4 20 (by decide) (by decide) ?_
        exact L169 an [c0] hV ST (by rw [own_nm, if_neg h121, if_pos h134]) (by omega)
      · skip
        refine C.icY 147 at_134 (by decide) (by decide) (XT.ii_ne_t h134) ?_
        refine C.newo 150 at_147 (hw _ (List.mem_of_getElem? (i := 202) rfl)) (hw _ (List.mem_of_getElem? (i := 10) rfl)) (hw _ (List.mem_of_getElem? (i := 2) rfl)) (by decide) (by decide) ?_
        intro an hN g_an EN X_an DN
        have lt_an : an < hN.size := X_an.lt
        have sz_hN : h0.size ≤ hN.size := EN.1
        have FV : Fld Z hN an "java/lang/String" "value" "[B" .null := DN (Or.inr (hw _ (List.mem_of_getElem? (i := 23) rfl))) (ty := (.array .byte)) (by decide)
        have FC : Fld Z hN an "java/lang/String" "coder" "B" (.int (0 : Int32)) := DN (Or.inr (hw _ (List.mem_of_getElem? (i := 25) rfl))) (ty := .byte) (by decide)
        refine C.dup 151 at_150 rfl ?_
        refine C.iconst 152 (2 : Int32) at_151 (by decide) ?_
        refine C.newarr (zn := 2) (cap := 2) 154 at_152 (hw _ (List.mem_of_getElem? (i := 173) rfl)) rfl (by decide) (by decide) rfl (by decide) (by decide) (by decide) ?_
        intro ac hA g_ac EA R_ac
        replace R_ac : Ar Z hA ac .char [0, 0] := R_ac
        have lt_ac : ac < hA.size := R_ac.lt
        have sz_hA : hN.size ≤ hA.size := EA.1
        replace X_an := X_an.ext EA
        replace FV := FV.ext EA
        replace FC := FC.ext EA
        refine C.dup 155 at_154 rfl ?_
        refine C.iconst 156 (0 : Int32) at_155 (by decide) ?_
        refine C.iload 158 at_156 rfl ?_
        refine C.castore 159 0 at_158 R_ac rfl (by simp) (by rw [show nar .char c0 = c0 from own_c0 p0 q0]; exact own_fitc p0 q0) (by omega) (Or.inr (Or.inr ⟨_, _, R_ac, by decide⟩)) ?_
        intro h158_30 W158_30 N158_30
        have sz_h158_30 : hA.size ≤ h158_30.size := (Nat.le_of_eq W158_30.size.symm)
        replace X_an := X_an.wr W158_30
        replace FV := FV.other W158_30 (Or.inl (show (_ : Nat) ≠ _ by omega))
        replace FC := FC.other W158_30 (Or.inl (show (_ : Nat) ≠ _ by omega))
        replace R_ac : Ar Z h158_30 ac .char [c0, 0] := (by have q := N158_30; rw [show nar .char c0 = c0 from own_c0 p0 q0] at q; exact q)
        refine C.dup 160 at_159 rfl ?_
        refine C.iconst 161 (1 : Int32) at_160 (by decide) ?_
        refine C.iload 163 at_161 rfl ?_
        refine C.castore 164 1 at_163 R_ac rfl (by simp) (by rw [show nar .char c1 = c1 from own_c0 p1 q1]; exact own_fitc p1 q1) (by omega) (Or.inr (Or.inr ⟨_, _, R_ac, by decide⟩)) ?_
        intro h163_31 W163_31 N163_31
        have sz_h163_31 : h158_30.size ≤ h163_31.size := (Nat.le_of_eq W163_31.size.symm)
        replace X_an := X_an.wr W163_31
        replace FV := FV.other W163_31 (Or.inl (show (_ : Nat) ≠ _ by omega))
        replace FC := FC.other W163_31 (Or.inl (show (_ : Nat) ≠ _ by omega))
        replace R_ac : Ar Z h163_31 ac .char [c0, c1] := (by have q := N163_31; rw [show nar .char c1 = c1 from own_c0 p1 q1] at q; exact q)
        refine C.callI (b := an) 167 [(.ref ac)] [(.ref an)] at_164 (met_s1 l Z a0 hw EL hEL an bk h163_31 (by omega) (by omega) an ac [c0, c1] z0 X_an FV FC (by omega) (by omega) R_ac (by simp) (by simp) (fun y hy => by simp at hy; rcases hy with rfl | rfl <;> assumption) SC hzc) rfl (by omega) (Or.inl (Nat.le_refl _)) (hw _ (List.mem_of_getElem? (i := 203) rfl)) (hw _ (List.mem_of_getElem? (i := 204) rfl)) (hw _ (List.mem_of_getElem? (i := 2) rfl)) (hw _ (List.mem_of_getElem? (i := 205) rfl)) (by decide) rfl (lenOf pd__AC_rV rfl) (by decide) (W := 1) (Nat.le_of_eq rfl) (by decide) (by decide) (by decide) rfl ?_
        rintro _ hI KI ⟨rfl, ST, Kq⟩
        have sz_hI : h163_31.size ≤ hI.size := Kq.1
        refine C.astore 169 (L' := #[.val (.int i0), .val (.int i1), .val (.int i2), .val (.int i3), .val (.int c0), .val (.int c1), .val (.int lc), .val (.int sc), .val (.int rc), .val (.int vc), .val (.int jj), .val (.int u1), .val (.int u2), .val (.int u3), .val (.int u4), .val (.ref an), .unset, .unset, .unset, .unset, .unset]) at_167 rfl rfl ?_
        refine Go.upbk hI.size (Or.inr (Nat.le_refl _)) ?_
        refine Go.more 4 20 (by decide) (by decide) ?_
        exact L169 an [c0, c1] hI ST (by rw [own_nm, if_neg h121, if_neg h134]) (by omega)
  have L103 : ∀ (u1 : Int32) (u2 : Int32) (u3 : Int32), (u1 = 0 ∨ u1 = 1) → (u2 = 0 ∨ u2 = 1) → (u3 = 0 ∨ u3 = 1) → Go p l e room_1 s m #[(.int i0), (.int i1), (.int i2), (.int i3)] below meth c Z x.cls EL n0 (fun h => h.size) (fun v h => v = some (.int 1)) bk h0 0 0 103 #[.val (.int i0), .val (.int i1), .val (.int i2), .val (.int i3), .val (.int c0), .val (.int c1), .val (.int lc), .val (.int sc), .val (.int rc), .val (.int vc), .val (.int jj), .val (.int u1), .val (.int u2), .unset, .unset, .unset, .unset, .unset, .unset, .unset, .unset] [(.int u3)] := by
    intro u1 u2 u3 hu1 hu2 hu3
    refine C.istore 105 (L' := #[.val (.int i0), .val (.int i1), .val (.int i2), .val (.int i3), .val (.int c0), .val (.int c1), .val (.int lc), .val (.int sc), .val (.int rc), .val (.int vc), .val (.int jj), .val (.int u1), .val (.int u2), .val (.int u3), .unset, .unset, .unset, .unset, .unset, .unset, .unset]) at_103 rfl ?_
    refine C.iloadN 106 at_105 rfl ?_
    refine C.bipush 108 (32 : Int32) at_106 (by decide) ?_
    refine C.iand 109 at_108 ?_
    rcases Decidable.em ((i3 &&& (32 : Int32)) = 0) with h109 | h109
    · skip
      refine C.ifY 116 at_109 (by decide) (by decide) (XT.i0_eq_t h109) ?_
      refine C.iconst 117 (0 : Int32) at_116 (by decide) ?_
      exact L117 _ _ _ _ hu1 hu2 hu3 (by decide)
    · skip
      refine C.ifN 112 at_109 rfl (XT.i0_eq_f h109) ?_
      refine C.iconst 113 (1 : Int32) at_112 (by decide) ?_
      refine C.goto 117 at_113 (by decide) (by decide) ?_
      exact L117 _ _ _ _ hu1 hu2 hu3 (by decide)
  have L89 : ∀ (u1 : Int32) (u2 : Int32), (u1 = 0 ∨ u1 = 1) → (u2 = 0 ∨ u2 = 1) → Go p l e room_1 s m #[(.int i0), (.int i1), (.int i2), (.int i3)] below meth c Z x.cls EL n0 (fun h => h.size) (fun v h => v = some (.int 1)) bk h0 0 0 89 #[.val (.int i0), .val (.int i1), .val (.int i2), .val (.int i3), .val (.int c0), .val (.int c1), .val (.int lc), .val (.int sc), .val (.int rc), .val (.int vc), .val (.int jj), .val (.int u1), .unset, .unset, .unset, .unset, .unset, .unset, .unset, .unset, .unset] [(.int u2)] := by
    intro u1 u2 hu1 hu2
    refine C.istore 91 (L' := #[.val (.int i0), .val (.int i1), .val (.int i2), .val (.int i3), .val (.int c0), .val (.int c1), .val (.int lc), .val (.int sc), .val (.int rc), .val (.int vc), .val (.int jj), .val (.int u1), .val (.int u2), .unset, .unset, .unset, .unset, .unset, .unset, .unset, .unset]) at_89 rfl ?_
    refine C.iloadN 92 at_91 rfl ?_
    refine C.bipush 94 (16 : Int32) at_92 (by decide) ?_
    refine C.iand 95 at_94 ?_
    rcases Decidable.em ((i3 &&& (16 : Int32)) = 0) with h95 | h95
    · skip
      refine C.ifY 102 at_95 (by decide) (by decide) (XT.i0_eq_t h95) ?_
      refine C.iconst 103 (0 : Int32) at_102 (by decide) ?_
      exact L103 _ _ _ hu1 hu2 (by decide)
    · skip
      refine C.ifN 98 at_95 rfl (XT.i0_eq_f h95) ?_
      refine C.iconst 99 (1 : Int32) at_98 (by decide) ?_
      refine C.goto 103 at_99 (by decide) (by decide) ?_
      exact L103 _ _ _ hu1 hu2 (by decide)
  have L75 : ∀ (u1 : Int32), (u1 = 0 ∨ u1 = 1) → Go p l e room_1 s m #[(.int i0), (.int i1), (.int i2), (.int i3)] below meth c Z x.cls EL n0 (fun h => h.size) (fun v h => v = some (.int 1)) bk h0 0 0 75 #[.val (.int i0), .val (.int i1), .val (.int i2), .val (.int i3), .val (.int c0), .val (.int c1), .val (.int lc), .val (.int sc), .val (.int rc), .val (.int vc), .val (.int jj), .unset, .unset, .unset, .unset, .unset, .unset, .unset, .unset, .unset, .unset] [(.int u1)] := by
    intro u1 hu1
    refine C.istore 77 (L' := #[.val (.int i0), .val (.int i1), .val (.int i2), .val (.int i3), .val (.int c0), .val (.int c1), .val (.int lc), .val (.int sc), .val (.int rc), .val (.int vc), .val (.int jj), .val (.int u1), .unset, .unset, .unset, .unset, .unset, .unset, .unset, .unset, .unset]) at_75 rfl ?_
    refine C.iloadN 78 at_77 rfl ?_
    refine C.bipush 80 (8 : Int32) at_78 (by decide) ?_
    refine C.iand 81 at_80 ?_
    rcases Decidable.em ((i3 &&& (8 : Int32)) = 0) with h81 | h81
    · skip
      refine C.ifY 88 at_81 (by decide) (by decide) (XT.i0_eq_t h81) ?_
      refine C.iconst 89 (0 : Int32) at_88 (by decide) ?_
      exact L89 _ _ hu1 (by decide)
    · skip
      refine C.ifN 84 at_81 rfl (XT.i0_eq_f h81) ?_
      refine C.iconst 85 (1 : Int32) at_84 (by decide) ?_
      refine C.goto 89 at_85 (by decide) (by decide) ?_
      exact L89 _ _ hu1 (by decide)
  refine C.iconst 66 (4 : Int32) at_65 (by decide) ?_
  refine C.iand 67 at_66 ?_
  rcases Decidable.em ((i3 &&& (4 : Int32)) = 0) with h67 | h67
  · skip
    refine C.ifY 74 at_67 (by decide) (by decide) (XT.i0_eq_t h67) ?_
    refine C.iconst 75 (0 : Int32) at_74 (by decide) ?_
    exact L75 _  (by decide)
  · skip
    refine C.ifN 70 at_67 rfl (XT.i0_eq_f h67) ?_
    refine C.iconst 71 (1 : Int32) at_70 (by decide) ?_
    refine C.goto 75 at_71 (by decide) (by decide) ?_
    exact L75 _  (by decide)
set_option maxRecDepth 65536 in
set_option maxHeartbeats 40000000 in
theorem comes_1 {Post : Tables → Env → Array Value → State → Outcome → State → Prop} (hpost : ∀ tb e args s v u, (limb_1_1.after args s (.returned v) u = true ∧ limb_1_2.after args s (.returned v) u = true ∧ True) → ReturnedEndW s (.returned v) u (Jvm.fieldLocs frame_1_writes args s ++ Jvm.arrayLocs frame_1_arrays args s ++ Jvm.staticLocs frame_1_statics s) 48 1280 → Post tb e args s (.returned v) u) :
    ArmFor flags0 classFile x code maxLocals ret World_1 tables_1 room_1 Calls_1 rest_1 Pre_1 Post := by
  intro l hfl _ _ p e ha hc hk s m args below hf hA hF happ hP
  obtain ⟨hcalls, hrest, hpre⟩ := hP
  obtain ⟨-, -, -, hnamed, -, -, -, hat⟩ := (Spec.applies_iff hf).mp happ
  obtain ⟨hg, hn⟩ := and_e (Cond.before_iff.mp (show (Jvm.Cond.and given_1 narrow_1).before args s = true from hpre))
  obtain ⟨g0, gr0⟩ := and_e hg
  obtain ⟨ga0, gr1⟩ := and_e gr0
  obtain ⟨ga1, gr2⟩ := and_e gr1
  obtain ⟨ga2, gr3⟩ := and_e gr2
  have ga3 := gr3
  obtain ⟨w0, w1, w2, w3, rfl⟩ : ∃ w0 w1 w2 w3 : Value, args = #[w0, w1, w2, w3] := by
    have hs : args.size = 4 := by simpa [Cond.value, given_1] using g0
    obtain ⟨L⟩ := args
    match L, hs with
    | [w0, w1, w2, w3], _ => exact ⟨w0, w1, w2, w3, rfl⟩
  have hw := fun d (hd : d ∈ tables_1) => atoms_spec (ws := Jvm.Cond.code x code maxLocals ret :: tables_1) hat d (List.mem_cons_of_mem _ hd)
  have hfit : Fit s := fun {y c} hc i hi => by
    obtain ⟨ha, rfl⟩ := Array.getElem?_eq_some_iff.mp hc
    have q := List.all_eq_true.mp ((Array.all_eq_true_iff_forall_mem.mp hF) _ (Array.getElem_mem ha)) i (List.mem_range.mpr hi)
    simpa [Array.getElem?_eq_getElem hi] using q
  obtain ⟨i0, e0⟩ := is_v ga0
  obtain rfl : w0 = (.int i0) := Option.some.inj e0
  obtain ⟨i1, e1⟩ := is_v ga1
  obtain rfl : w1 = (.int i1) := Option.some.inj e1
  obtain ⟨i2, e2⟩ := is_v ga2
  obtain rfl : w2 = (.int i2) := Option.some.inj e2
  obtain ⟨i3, e3⟩ := is_v ga3
  obtain rfl : w3 = (.int i3) := Option.some.inj e3
  obtain ⟨hsets, hown0⟩ := atoms_of _ (rest_1_c_eq ▸ (show rest_1_c.before _ s = true from hrest))
  have n5 := not_v (Cond.before_iff.mp (hsets _ (List.mem_of_getElem? (i := 2) rfl)))
  obtain ⟨z0, ez0⟩ := is_v (Cond.before_iff.mp (hsets _ (List.mem_of_getElem? (i := 1) rfl)))
  have SC : Sta s s.heap "java/lang/String" "COMPACT_STRINGS" "Z" (.int z0) := Sta.start ez0 (Or.inl (hsets _ (List.mem_of_getElem? (i := 0) rfl)))
  have hzc : ¬ z0 = 0 := gotF (Cond.eq_ints ez0 (Term.int_eval (0))) n5
  have hcw : Jvm.Lit.compactW.before _ s = true := hsets _ (List.mem_of_getElem? (i := 2) rfl)
  have wS : ∀ a ∈ Bundle.stringAtoms, a.before _ s = true := fun d hd => by
    simp only [Bundle.stringAtoms, List.mem_cons, List.not_mem_nil, or_false] at hd
    rcases hd with rfl | rfl | rfl | rfl | rfl | rfl | rfl
    · exact hw _ (List.mem_of_getElem? (i := 2) rfl)
    · exact hw _ (List.mem_of_getElem? (i := 10) rfl)
    · exact hw _ (List.mem_of_getElem? (i := 14) rfl)
    · exact hw _ (List.mem_of_getElem? (i := 23) rfl)
    · exact hw _ (List.mem_of_getElem? (i := 25) rfl)
    · exact hw _ (List.mem_of_getElem? (i := 34) rfl)
    · exact hw _ (List.mem_of_getElem? (i := 35) rfl)
  have hEL : EW s _ consts_1 := (EW.cons (hw _ (List.mem_of_getElem? (i := 33) rfl)) (by decide) EW.nil)
  have hcons : ∀ p ∈ consts_1, Jvm.Lit.constHeld s p.1 p.2 := hcalls.1
  have hCH := CHv.start hEL hcons hcw (hw _ (List.mem_of_getElem? (i := 14) rfl)) (hw _ (List.mem_of_getElem? (i := 10) rfl))
  obtain ⟨fm, efm, hfm⟩ := isR_v (Cond.before_iff.mp (hsets _ (List.mem_of_getElem? (i := 8) rfl)))
  have SF : Sta s s.heap "jdk/internal/util/Preconditions" "SIOOBE_FORMATTER" "Ljava/util/function/BiFunction;" fm := Sta.start efm (Or.inl (hsets _ (List.mem_of_getElem? (i := 7) rfl)))
  obtain ⟨n, o, h1, h2, h3, _, L, rfl, ⟨N, -, -, -, rfl⟩, -, hq⟩ := met_law l s _ hw consts_1 hEL s.heap.size s.heap.size s.heap (Nat.le_refl _) (Nat.le_refl _) i0 i1 i2 i3 z0 fm SC hzc hfm SF wS (by simp [consts_1]) (Nat.le_refl _) p e ha hc hk s m _ below hf ((Spec.applies_iff_loose hf).mp happ).1 ⟨rfl, State.Warmed39.refl s, rfl, ⟨Nat.le_refl _, fun _ _ q => q⟩, hCH, fun y B => (Array.getElem?_eq_some_iff.mp B.there.choose_spec).1⟩ trivial
  refine ⟨n, _, h1, h2, h3, hpost _ _ _ _ _ _ ⟨Cond.after_iff.mpr rfl, Cond.after_iff.mpr (eq_i res_at (Term.int_eval (1)) rfl), trivial⟩ ⟨hq.1, hq.2.1, hq.2.2.1, (hq.2.2.2.sift fun y hy => Or.inr (N y hy)).mono (by decide) (by decide)⟩⟩
theorem main_1_1 : Claimed_1_1 := comes_1 fun _ _ _ _ _ _ h hF => ⟨h.1, hF⟩
theorem main_1_2 : Claimed_1_2 := comes_1 fun _ _ _ _ _ _ h hF => ⟨h.2.1, hF⟩
end Jvm.Pilot.@@N@@
namespace Jvm.Pilot.@@N@@
open Jvm Jvm.ClassFile Sem Op Lib Jvm.Free Jvm.Stand Jvm.Pilot.@@N@@.Jvm.D
/-! MADE BY PROGRAM (witnessworld.py) out of the Statement's table words and the real class files: 26 classes; the members and pool entries that the words name. The judged class is class 1, her method 4. -/
namespace start1
open Jvm.ClassFile
def u (s : String) : CpInfo := .utf8 (stringToUtf16 s)
/-- a pool by its gaps: so many unusable entries, then the entry; so many at the end -/
def gap : Nat → List CpInfo → List CpInfo
  | 0, r => r
  | n + 1, r => .unusable :: gap n r
def poolList (es : List (Nat × CpInfo)) (last : Nat) : List CpInfo := es.foldr (fun e r => gap e.1 (e.2 :: r)) (gap last [])
def pool (es : List (Nat × CpInfo)) (last : Nat) : Array CpInfo := ⟨poolList es last⟩
def fileOf (pool : Array CpInfo) (this : Nat) (attrs : Array Attribute := #[]) (ms : Array MethodInfo := #[]) (fl : Nat := 33) (sup : Nat := 0) (ifs : Array Nat := #[]) (fds : Array FieldInfo := #[]) : ClassFile where
  minorVersion := 0
  majorVersion := 65
  constantPool := pool
  accessFlags := fl
  thisClass := this
  superClass := sup
  interfaces := ifs
  fields := fds
  methods := ms
  attributes := attrs
def plain (name : String) (sup : Option ClassId) : Class where
  name := name
  kind := .ordinary
  loader := none
  accessFlags := 33
  super := sup
  interfaces := #[]
  cf := none
  fields := #[]
  methods := #[]
  instanceTypes := #[]
  staticTypes := #[]
  resolved := #[]
  callSites := []
  init := .initialized
  statics := none
  mirror := none

def pool0 : Array CpInfo := pool [(5, u "<init>"), (0, u "()V"), (1, .class_ 10), (1, u "java/lang/Object")] 113

def k0c0 : Code := { maxStack := 0, maxLocals := 1, code := object_method_1_code, exceptionTable := #[], attributes := #[] }
def k0m0 : Method := { name := "<init>", desc := "()V", sig := { parameters := [], returnType := none }, accessFlags := 1, code := some k0c0 }
/-- java/lang/Object -/
def k0 : Class := { plain "java/lang/Object" none with
  accessFlags := 33
  interfaces := #[]
  cf := some (fileOf pool0 8 #[] #[{ accessFlags := 1, nameIndex := 5, descriptorIndex := 6, attributes := #[] }] 33 0 #[] #[])
  fields := #[]
  methods := #[k0m0]
  instanceTypes := #[]
  staticTypes := #[]
  resolved := Array.replicate 124 none
  statics := none }

def pool1 : Array CpInfo := pool [(2, .class_ 4), (1, u "java/lang/Object"), (0, u "<init>"), (0, u "()V"), (0, .methodref 8 9), (0, .class_ 10), (0, .nameAndType 11 12), (0, u "java/lang/String"), (0, u "valueOf"), (0, u "(C)Ljava/lang/String;"), (0, .string 14), (0, u ""), (0, .methodref 8 16), (0, .nameAndType 17 18), (0, u "charAt"), (0, u "(I)C"), (0, .methodref 8 20), (0, .nameAndType 5 21), (0, u "([C)V"), (0, .class_ 23), (0, u "com/example/rules_for_records/rulesforrecords/messageinterpolation/BundleLookup$Candidate"), (0, .methodref 25 26), (0, .class_ 27), (0, .nameAndType 28 29), (0, u "com/example/rules_for_records/rulesforrecords/messageinterpolation/CandidateBundleNamePinLaw"), (0, u "part"), (0, u "(ZC)Ljava/lang/String;"), (0, .methodref 22 31), (0, .nameAndType 5 32), (0, u "(Ljava/lang/String;Ljava/lang/String;Ljava/lang/String;Ljava/lang/String;)V"), (0, .methodref 22 34), (0, .nameAndType 35 36), (0, u "bundleName"), (0, u "(Ljava/lang/String;)Ljava/lang/String;"), (0, .methodref 25 38), (0, .nameAndType 39 40), (0, u "emit"), (0, u "([CIZZC)I"), (0, .methodref 8 42), (0, .nameAndType 43 44), (0, u "length"), (0, u "()I"), (0, .methodref 25 46), (0, .nameAndType 47 48), (0, u "eq"), (0, u "(Ljava/lang/String;[CII)Z"), (3, u "law"), (0, u "(IIII)Z")] 8

def k1m0 : Method := { name := "<init>", desc := "()V", sig := { parameters := [], returnType := none }, accessFlags := 2, code := none }
def k1c1 : Code := { maxStack := 1, maxLocals := 2, code := method_2_code, exceptionTable := #[], attributes := #[] }
def k1m1 : Method := { name := "part", desc := "(ZC)Ljava/lang/String;", sig := { parameters := [.boolean, .char], returnType := some (.object "java/lang/String") }, accessFlags := 10, code := some k1c1 }
def k1c2 : Code := { maxStack := 3, maxLocals := 5, code := method_3_code, exceptionTable := #[], attributes := #[] }
def k1m2 : Method := { name := "emit", desc := "([CIZZC)I", sig := { parameters := [(.array .char), .int, .boolean, .boolean, .char], returnType := some .int }, accessFlags := 10, code := some k1c2 }
def k1c3 : Code := { maxStack := 3, maxLocals := 4, code := method_4_code, exceptionTable := #[], attributes := #[] }
def k1m3 : Method := { name := "eq", desc := "(Ljava/lang/String;[CII)Z", sig := { parameters := [(.object "java/lang/String"), (.array .char), .int, .int], returnType := some .boolean }, accessFlags := 10, code := some k1c3 }
def k1c4 : Code := { maxStack := 7, maxLocals := 21, code := code, exceptionTable := #[], attributes := #[] }
def k1m4 : Method := { name := "law", desc := "(IIII)Z", sig := { parameters := [.int, .int, .int, .int], returnType := some .boolean }, accessFlags := 9, code := some k1c4 }
/-- com/example/rules_for_records/rulesforrecords/messageinterpolation/CandidateBundleNamePinLaw -/
def k1 : Class := { plain "com/example/rules_for_records/rulesforrecords/messageinterpolation/CandidateBundleNamePinLaw" (some 0) with
  accessFlags := 49
  interfaces := #[]
  cf := some (fileOf pool1 25 #[] #[{ accessFlags := 2, nameIndex := 5, descriptorIndex := 6, attributes := #[] }, { accessFlags := 10, nameIndex := 28, descriptorIndex := 29, attributes := #[] }, { accessFlags := 10, nameIndex := 39, descriptorIndex := 40, attributes := #[] }, { accessFlags := 10, nameIndex := 47, descriptorIndex := 48, attributes := #[] }, { accessFlags := 9, nameIndex := 52, descriptorIndex := 53, attributes := #[] }] 49 2 #[] #[])
  fields := #[]
  methods := #[k1m0, k1m1, k1m2, k1m3, k1m4]
  instanceTypes := #[]
  staticTypes := #[]
  resolved := Array.replicate 62 none
  statics := none }

def pool2 : Array CpInfo := pool [(1, .class_ 2), (0, u "java/io/Serializable"), (0, .class_ 4), (0, u "java/lang/Object")] 2

/-- java/io/Serializable -/
def k2 : Class := { plain "java/io/Serializable" (some 0) with
  accessFlags := 1537
  interfaces := #[]
  cf := some (fileOf pool2 1 #[] #[] 1537 3 #[] #[])
  fields := #[]
  methods := #[]
  instanceTypes := #[]
  staticTypes := #[]
  resolved := Array.replicate 7 none
  statics := none }

def pool3 : Array CpInfo := pool [(1, .class_ 2), (0, u "java/lang/Comparable"), (0, .class_ 4), (0, u "java/lang/Object")] 7

/-- java/lang/Comparable -/
def k3 : Class := { plain "java/lang/Comparable" (some 0) with
  accessFlags := 1537
  interfaces := #[]
  cf := some (fileOf pool3 1 #[] #[] 1537 3 #[] #[])
  fields := #[]
  methods := #[]
  instanceTypes := #[]
  staticTypes := #[]
  resolved := Array.replicate 12 none
  statics := none }

def pool4 : Array CpInfo := pool [(2, .class_ 4), (1, u "java/lang/CharSequence"), (42, .class_ 48), (0, u "java/lang/CharSequence$1CodePointIterator"), (10, .class_ 60), (0, u "java/lang/CharSequence$1CharIterator"), (5, .class_ 67), (0, u "java/lang/Object")] 63

/-- java/lang/CharSequence -/
def k4 : Class := { plain "java/lang/CharSequence" (some 0) with
  accessFlags := 1537
  interfaces := #[]
  cf := some (fileOf pool4 2 #[.nestMembers #[47, 59]] #[] 1537 66 #[] #[])
  fields := #[]
  methods := #[]
  instanceTypes := #[]
  staticTypes := #[]
  resolved := Array.replicate 131 none
  statics := none }

def pool5 : Array CpInfo := pool [(1, .class_ 2), (0, u "java/lang/constant/Constable"), (0, .class_ 4), (0, u "java/lang/Object")] 6

/-- java/lang/constant/Constable -/
def k5 : Class := { plain "java/lang/constant/Constable" (some 0) with
  accessFlags := 1537
  interfaces := #[]
  cf := some (fileOf pool5 1 #[] #[] 1537 3 #[] #[])
  fields := #[]
  methods := #[]
  instanceTypes := #[]
  staticTypes := #[]
  resolved := Array.replicate 11 none
  statics := none }

def pool6 : Array CpInfo := pool [(1, .class_ 2), (0, u "java/lang/constant/ConstantDesc"), (0, .class_ 4), (0, u "java/lang/Object")] 32

/-- java/lang/constant/ConstantDesc -/
def k6 : Class := { plain "java/lang/constant/ConstantDesc" (some 0) with
  accessFlags := 1537
  interfaces := #[]
  cf := some (fileOf pool6 1 #[] #[] 1537 3 #[] #[])
  fields := #[]
  methods := #[]
  instanceTypes := #[]
  staticTypes := #[]
  resolved := Array.replicate 37 none
  statics := none }

def pool7 : Array CpInfo := pool [(1, .methodref 2 3), (0, .class_ 4), (0, .nameAndType 5 6), (0, u "java/lang/Object"), (0, u "<init>"), (0, u "()V"), (2, .fieldref 10 11), (0, .class_ 12), (0, .nameAndType 13 14), (0, u "java/lang/String"), (0, u "value"), (0, u "[B"), (0, .fieldref 10 16), (0, .nameAndType 17 18), (0, u "coder"), (0, u "B"), (2, u "hash"), (0, u "I"), (2, u "hashIsZero"), (0, u "Z"), (0, .methodref 10 28), (0, .nameAndType 5 29), (0, u "([CIILjava/lang/Void;)V"), (8, .fieldref 10 39), (0, .nameAndType 40 26), (0, u "COMPACT_STRINGS"), (1, .class_ 44), (1, u "java/lang/StringUTF16"), (0, u "compress"), (1, .methodref 42 48), (0, .nameAndType 49 50), (0, u "coderFromArrayLen"), (0, u "([BI)B"), (2, u "toBytes"), (0, .methodref 55 56), (0, .class_ 57), (0, .nameAndType 58 59), (0, u "java/util/Arrays"), (0, u "copyOfRange"), (0, u "([BII)[B"), (47, .class_ 109), (1, u "java/lang/StringLatin1"), (32, u "()Z"), (34, .methodref 42 178), (0, .nameAndType 45 179), (0, u "([CII)[B"), (13, .class_ 195), (1, u "java/lang/System"), (13, .methodref 10 210), (0, .nameAndType 5 211), (0, u "([BB)V"), (0, .methodref 193 213), (0, .nameAndType 214 215), (0, u "arraycopy"), (0, u "(Ljava/lang/Object;ILjava/lang/Object;II)V"), (118, u "()I"), (0, .methodref 10 336), (0, .nameAndType 17 337), (0, u "()B"), (2, u "()[B"), (22, u "([BI)C"), (5, u "(C)Z"), (21, u "(II)V"), (35, u "(I)C"), (61, .methodref 10 490), (0, .nameAndType 5 491), (0, u "(Ljava/lang/AbstractStringBuilder;Ljava/lang/Void;)V"), (0, .methodref 10 493), (0, .nameAndType 494 142), (0, u "isLatin1"), (0, .methodref 107 496), (0, .nameAndType 497 363), (0, u "charAt"), (3, u "checkIndex"), (4, .nameAndType 507 334), (0, u "length"), (24, u "getBytes"), (16, .methodref 550 506), (0, .class_ 551), (0, u "java/lang/AbstractStringBuilder"), (0, .methodref 550 553), (0, .nameAndType 554 340), (0, u "getValue"), (20, .class_ 576), (0, u "java/lang/CharSequence"), (22, u "CASE_INSENSITIVE_ORDER"), (0, u "Ljava/util/Comparator;"), (91, u "isEmpty"), (89, u "valueOf"), (0, u "(C)Ljava/lang/String;"), (37, u "([BIB)V"), (188, u "([C)V"), (4, .methodref 107 1016), (0, .nameAndType 1017 369), (0, u "canEncode"), (0, .methodref 107 1019), (0, .nameAndType 53 1020), (0, u "(C)[B"), (26, .methodref 550 493), (5, .fieldref 1054 1055), (0, .class_ 1056), (0, .nameAndType 1057 1058), (0, u "jdk/internal/util/Preconditions"), (0, u "SIOOBE_FORMATTER"), (0, u "Ljava/util/function/BiFunction;"), (0, .methodref 1054 1060), (0, .nameAndType 501 1061), (0, u "(IILjava/util/function/BiFunction;)I"), (39, u "serialPersistentFields"), (0, u "[Ljava/io/ObjectStreamField;"), (0, .class_ 1104), (0, u "java/lang/String$CaseInsensitiveComparator"), (1, .class_ 1107), (0, u "java/io/Serializable"), (0, .class_ 1109), (0, u "java/lang/Comparable"), (0, .class_ 1111), (0, u "java/lang/constant/Constable"), (0, .class_ 1113), (0, u "java/lang/constant/ConstantDesc"), (2, u "serialVersionUID"), (0, u "J"), (3, u "REPL"), (0, u "C"), (2, u "LATIN1"), (1, u "UTF16"), (105, u "(Ljava/lang/StringBuilder;)V")] 217

def k7m0 : Method := { name := "<init>", desc := "()V", sig := { parameters := [], returnType := none }, accessFlags := 1, code := none }
def k7c1 : Code := { maxStack := 5, maxLocals := 2, code := jdk_42_method_3_code, exceptionTable := #[], attributes := #[] }
def k7m1 : Method := { name := "<init>", desc := "([C)V", sig := { parameters := [(.array .char)], returnType := none }, accessFlags := 1, code := some k7c1 }
def k7c2 : Code := { maxStack := 3, maxLocals := 2, code := jdk_42_method_53_code, exceptionTable := #[], attributes := #[] }
def k7m2 : Method := { name := "<init>", desc := "(Ljava/lang/StringBuilder;)V", sig := { parameters := [(.object "java/lang/StringBuilder")], returnType := none }, accessFlags := 1, code := some k7c2 }
def k7c3 : Code := { maxStack := 2, maxLocals := 1, code := jdk_42_method_54_code, exceptionTable := #[], attributes := #[] }
def k7m3 : Method := { name := "length", desc := "()I", sig := { parameters := [], returnType := some .int }, accessFlags := 1, code := some k7c3 }
def k7c4 : Code := { maxStack := 1, maxLocals := 1, code := jdk_42_method_55_code, exceptionTable := #[], attributes := #[] }
def k7m4 : Method := { name := "isEmpty", desc := "()Z", sig := { parameters := [], returnType := some .boolean }, accessFlags := 1, code := some k7c4 }
def k7c5 : Code := { maxStack := 2, maxLocals := 2, code := jdk_42_method_56_code, exceptionTable := #[], attributes := #[] }
def k7m5 : Method := { name := "charAt", desc := "(I)C", sig := { parameters := [.int], returnType := some .char }, accessFlags := 1, code := some k7c5 }
def k7c6 : Code := { maxStack := 4, maxLocals := 1, code := jdk_42_method_139_code, exceptionTable := #[], attributes := #[] }
def k7m6 : Method := { name := "valueOf", desc := "(C)Ljava/lang/String;", sig := { parameters := [.char], returnType := some (.object "java/lang/String") }, accessFlags := 9, code := some k7c6 }
def k7c7 : Code := { maxStack := 5, maxLocals := 4, code := jdk_42_method_147_code, exceptionTable := #[], attributes := #[] }
def k7m7 : Method := { name := "getBytes", desc := "([BIB)V", sig := { parameters := [(.array .byte), .int, .byte], returnType := none }, accessFlags := 0, code := some k7c7 }
def k7c8 : Code := { maxStack := 4, maxLocals := 6, code := jdk_42_method_149_code, exceptionTable := #[], attributes := #[] }
def k7m8 : Method := { name := "<init>", desc := "([CIILjava/lang/Void;)V", sig := { parameters := [(.array .char), .int, .int, (.object "java/lang/Void")], returnType := none }, accessFlags := 2, code := some k7c8 }
def k7c9 : Code := { maxStack := 5, maxLocals := 5, code := jdk_42_method_150_code, exceptionTable := #[], attributes := #[] }
def k7m9 : Method := { name := "<init>", desc := "(Ljava/lang/AbstractStringBuilder;Ljava/lang/Void;)V", sig := { parameters := [(.object "java/lang/AbstractStringBuilder"), (.object "java/lang/Void")], returnType := none }, accessFlags := 0, code := some k7c9 }
def k7c10 : Code := { maxStack := 2, maxLocals := 3, code := jdk_42_method_151_code, exceptionTable := #[], attributes := #[] }
def k7m10 : Method := { name := "<init>", desc := "([BB)V", sig := { parameters := [(.array .byte), .byte], returnType := none }, accessFlags := 0, code := some k7c10 }
def k7c11 : Code := { maxStack := 1, maxLocals := 1, code := jdk_42_method_152_code, exceptionTable := #[], attributes := #[] }
def k7m11 : Method := { name := "coder", desc := "()B", sig := { parameters := [], returnType := some .byte }, accessFlags := 0, code := some k7c11 }
def k7c12 : Code := { maxStack := 1, maxLocals := 1, code := jdk_42_method_154_code, exceptionTable := #[], attributes := #[] }
def k7m12 : Method := { name := "isLatin1", desc := "()Z", sig := { parameters := [], returnType := some .boolean }, accessFlags := 0, code := some k7c12 }
def k7c13 : Code := { maxStack := 3, maxLocals := 2, code := jdk_42_method_155_code, exceptionTable := #[], attributes := #[] }
def k7m13 : Method := { name := "checkIndex", desc := "(II)V", sig := { parameters := [.int, .int], returnType := none }, accessFlags := 8, code := some k7c13 }
/-- java/lang/String -/
def k7 : Class := { plain "java/lang/String" (some 0) with
  accessFlags := 49
  interfaces := #[2, 3, 4, 5, 6]
  cf := some (fileOf pool7 10 #[.nestMembers #[1103]] #[{ accessFlags := 1, nameIndex := 5, descriptorIndex := 6, attributes := #[] }, { accessFlags := 1, nameIndex := 5, descriptorIndex := 1010, attributes := #[] }, { accessFlags := 1, nameIndex := 5, descriptorIndex := 1233, attributes := #[] }, { accessFlags := 1, nameIndex := 507, descriptorIndex := 334, attributes := #[] }, { accessFlags := 1, nameIndex := 692, descriptorIndex := 142, attributes := #[] }, { accessFlags := 1, nameIndex := 497, descriptorIndex := 427, attributes := #[] }, { accessFlags := 9, nameIndex := 782, descriptorIndex := 783, attributes := #[] }, { accessFlags := 0, nameIndex := 532, descriptorIndex := 821, attributes := #[] }, { accessFlags := 2, nameIndex := 5, descriptorIndex := 29, attributes := #[] }, { accessFlags := 0, nameIndex := 5, descriptorIndex := 491, attributes := #[] }, { accessFlags := 0, nameIndex := 5, descriptorIndex := 211, attributes := #[] }, { accessFlags := 0, nameIndex := 17, descriptorIndex := 337, attributes := #[] }, { accessFlags := 0, nameIndex := 494, descriptorIndex := 142, attributes := #[] }, { accessFlags := 8, nameIndex := 501, descriptorIndex := 391, attributes := #[] }] 49 2 #[1106, 1108, 575, 1110, 1112] #[{ accessFlags := 18, nameIndex := 13, descriptorIndex := 14, attributes := #[] }, { accessFlags := 18, nameIndex := 17, descriptorIndex := 18, attributes := #[] }, { accessFlags := 2, nameIndex := 21, descriptorIndex := 22, attributes := #[] }, { accessFlags := 2, nameIndex := 25, descriptorIndex := 26, attributes := #[] }, { accessFlags := 26, nameIndex := 1116, descriptorIndex := 1117, attributes := #[] }, { accessFlags := 24, nameIndex := 40, descriptorIndex := 26, attributes := #[] }, { accessFlags := 26, nameIndex := 1101, descriptorIndex := 1102, attributes := #[] }, { accessFlags := 26, nameIndex := 1121, descriptorIndex := 1122, attributes := #[] }, { accessFlags := 25, nameIndex := 599, descriptorIndex := 600, attributes := #[] }, { accessFlags := 24, nameIndex := 1125, descriptorIndex := 18, attributes := #[] }, { accessFlags := 24, nameIndex := 1127, descriptorIndex := 18, attributes := #[] }])
  fields := #[{ name := "value", type := (.array .byte), accessFlags := 18, slot := 0, constantValue := 0 }, { name := "coder", type := .byte, accessFlags := 18, slot := 1, constantValue := 0 }, { name := "hash", type := .int, accessFlags := 2, slot := 2, constantValue := 0 }, { name := "hashIsZero", type := .boolean, accessFlags := 2, slot := 3, constantValue := 0 }, { name := "serialVersionUID", type := .long, accessFlags := 26, slot := 0, constantValue := 0 }, { name := "COMPACT_STRINGS", type := .boolean, accessFlags := 24, slot := 1, constantValue := 0 }, { name := "serialPersistentFields", type := (.array (.object "java/io/ObjectStreamField")), accessFlags := 26, slot := 2, constantValue := 0 }, { name := "REPL", type := .char, accessFlags := 26, slot := 3, constantValue := 0 }, { name := "CASE_INSENSITIVE_ORDER", type := (.object "java/util/Comparator"), accessFlags := 25, slot := 4, constantValue := 0 }, { name := "LATIN1", type := .byte, accessFlags := 24, slot := 5, constantValue := 0 }, { name := "UTF16", type := .byte, accessFlags := 24, slot := 6, constantValue := 0 }]
  methods := #[k7m0, k7m1, k7m2, k7m3, k7m4, k7m5, k7m6, k7m7, k7m8, k7m9, k7m10, k7m11, k7m12, k7m13]
  instanceTypes := #[(.array .byte), .byte, .int, .boolean]
  staticTypes := #[.long, .boolean, (.array (.object "java/io/ObjectStreamField")), .char, (.object "java/util/Comparator"), .byte, .byte]
  resolved := Array.replicate 1451 none
  statics := some 0 }

def pool8 : Array CpInfo := pool [(1, .class_ 2), (0, u "java/lang/String"), (1, .class_ 6), (1, u "java/lang/Object"), (0, u "<init>"), (0, u "()V"), (0, .methodref 1 10), (0, .nameAndType 11 12), (0, u "checkIndex"), (0, u "(II)V"), (1, .class_ 16), (1, u "java/lang/StringLatin1"), (36, u "([BI)C"), (36, u "canEncode"), (14, u "(C)Z"), (15, u "$assertionsDisabled"), (0, u "Z"), (98, .class_ 223), (1, u "java/lang/StringLatin1$LinesSpliterator"), (28, u "charAt"), (127, u "toBytes"), (1, u "(C)[B"), (7, .class_ 391), (0, u "java/lang/StringLatin1$CharsSpliterator")] 3

def k8m0 : Method := { name := "<init>", desc := "()V", sig := { parameters := [], returnType := none }, accessFlags := 0, code := none }
def k8c1 : Code := { maxStack := 2, maxLocals := 2, code := jdk_43_method_2_code, exceptionTable := #[], attributes := #[] }
def k8m1 : Method := { name := "charAt", desc := "([BI)C", sig := { parameters := [(.array .byte), .int], returnType := some .char }, accessFlags := 9, code := some k8c1 }
def k8c2 : Code := { maxStack := 2, maxLocals := 1, code := jdk_43_method_3_code, exceptionTable := #[], attributes := #[] }
def k8m2 : Method := { name := "canEncode", desc := "(C)Z", sig := { parameters := [.char], returnType := some .boolean }, accessFlags := 9, code := some k8c2 }
def k8c3 : Code := { maxStack := 4, maxLocals := 1, code := jdk_43_method_46_code, exceptionTable := #[], attributes := #[] }
def k8m3 : Method := { name := "toBytes", desc := "(C)[B", sig := { parameters := [.char], returnType := some (.array .byte) }, accessFlags := 9, code := some k8c3 }
/-- java/lang/StringLatin1 -/
def k8 : Class := { plain "java/lang/StringLatin1" (some 0) with
  accessFlags := 48
  interfaces := #[]
  cf := some (fileOf pool8 14 #[.nestMembers #[390, 221]] #[{ accessFlags := 0, nameIndex := 7, descriptorIndex := 8, attributes := #[] }, { accessFlags := 9, nameIndex := 252, descriptorIndex := 53, attributes := #[] }, { accessFlags := 9, nameIndex := 90, descriptorIndex := 105, attributes := #[] }, { accessFlags := 9, nameIndex := 380, descriptorIndex := 382, attributes := #[] }] 48 4 #[] #[{ accessFlags := 4120, nameIndex := 121, descriptorIndex := 122, attributes := #[] }])
  fields := #[{ name := "$assertionsDisabled", type := .boolean, accessFlags := 4120, slot := 0, constantValue := 0 }]
  methods := #[k8m0, k8m1, k8m2, k8m3]
  instanceTypes := #[]
  staticTypes := #[.boolean]
  resolved := Array.replicate 395 none
  statics := none }

def pool9 : Array CpInfo := pool [(1, .methodref 2 3), (0, .class_ 4), (0, .nameAndType 5 6), (0, u "java/lang/Object"), (0, u "<init>"), (0, u "()V"), (0, .fieldref 8 9), (0, .class_ 10), (0, .nameAndType 11 12), (0, u "com/example/rules_for_records/rulesforrecords/messageinterpolation/BundleLookup$Candidate"), (0, u "language"), (0, u "Ljava/lang/String;"), (0, .fieldref 8 14), (0, .nameAndType 15 12), (0, u "script"), (0, .fieldref 8 17), (0, .nameAndType 18 12), (0, u "region"), (0, .fieldref 8 20), (0, .nameAndType 21 12), (0, u "variant"), (0, .class_ 23), (0, u "java/lang/StringBuilder"), (0, .methodref 22 25), (0, .nameAndType 5 26), (0, u "(Ljava/lang/String;)V"), (0, .methodref 28 29), (0, .class_ 30), (0, .nameAndType 31 32), (0, u "java/lang/String"), (0, u "isEmpty"), (0, u "()Z"), (0, .methodref 22 34), (0, .nameAndType 35 36), (0, u "append"), (0, u "(C)Ljava/lang/StringBuilder;"), (0, .methodref 22 38), (0, .nameAndType 35 39), (0, u "(Ljava/lang/String;)Ljava/lang/StringBuilder;"), (0, .methodref 22 41), (0, .nameAndType 42 43), (0, u "toString"), (0, u "()Ljava/lang/String;"), (1, .class_ 47), (1, u "com/example/rules_for_records/rulesforrecords/messageinterpolation/BundleLookup"), (10, u "(Ljava/lang/String;Ljava/lang/String;Ljava/lang/String;Ljava/lang/String;)V"), (2, u "bundleName"), (0, u "(Ljava/lang/String;)Ljava/lang/String;")] 51

def k9c0 : Code := { maxStack := 2, maxLocals := 5, code := prog_9_method_1_code, exceptionTable := #[], attributes := #[] }
def k9m0 : Method := { name := "<init>", desc := "(Ljava/lang/String;Ljava/lang/String;Ljava/lang/String;Ljava/lang/String;)V", sig := { parameters := [(.object "java/lang/String"), (.object "java/lang/String"), (.object "java/lang/String"), (.object "java/lang/String")], returnType := none }, accessFlags := 0, code := some k9c0 }
def k9c1 : Code := { maxStack := 3, maxLocals := 3, code := prog_9_method_2_code, exceptionTable := #[], attributes := #[] }
def k9m1 : Method := { name := "bundleName", desc := "(Ljava/lang/String;)Ljava/lang/String;", sig := { parameters := [(.object "java/lang/String")], returnType := some (.object "java/lang/String") }, accessFlags := 0, code := some k9c1 }
/-- com/example/rules_for_records/rulesforrecords/messageinterpolation/BundleLookup$Candidate -/
def k9 : Class := { plain "com/example/rules_for_records/rulesforrecords/messageinterpolation/BundleLookup$Candidate" (some 0) with
  accessFlags := 32
  interfaces := #[]
  cf := some (fileOf pool9 8 #[.nestHost 45] #[{ accessFlags := 0, nameIndex := 5, descriptorIndex := 58, attributes := #[] }, { accessFlags := 0, nameIndex := 61, descriptorIndex := 62, attributes := #[] }] 32 2 #[] #[{ accessFlags := 18, nameIndex := 11, descriptorIndex := 12, attributes := #[] }, { accessFlags := 18, nameIndex := 15, descriptorIndex := 12, attributes := #[] }, { accessFlags := 18, nameIndex := 18, descriptorIndex := 12, attributes := #[] }, { accessFlags := 18, nameIndex := 21, descriptorIndex := 12, attributes := #[] }])
  fields := #[{ name := "language", type := (.object "java/lang/String"), accessFlags := 18, slot := 0, constantValue := 0 }, { name := "script", type := (.object "java/lang/String"), accessFlags := 18, slot := 1, constantValue := 0 }, { name := "region", type := (.object "java/lang/String"), accessFlags := 18, slot := 2, constantValue := 0 }, { name := "variant", type := (.object "java/lang/String"), accessFlags := 18, slot := 3, constantValue := 0 }]
  methods := #[k9m0, k9m1]
  instanceTypes := #[(.object "java/lang/String"), (.object "java/lang/String"), (.object "java/lang/String"), (.object "java/lang/String")]
  staticTypes := #[]
  resolved := Array.replicate 114 none
  statics := none }

def pool10 : Array CpInfo := pool [(1, .class_ 2), (0, u "java/lang/Appendable"), (0, .class_ 4), (0, u "java/lang/Object")] 9

/-- java/lang/Appendable -/
def k10 : Class := { plain "java/lang/Appendable" (some 0) with
  accessFlags := 1537
  interfaces := #[]
  cf := some (fileOf pool10 1 #[] #[] 1537 3 #[] #[])
  fields := #[]
  methods := #[]
  instanceTypes := #[]
  staticTypes := #[]
  resolved := Array.replicate 14 none
  statics := none }

def pool11 : Array CpInfo := pool [(1, .class_ 2), (0, u "java/lang/String"), (0, .methodref 4 5), (0, .class_ 6), (0, .nameAndType 7 8), (0, u "java/lang/Object"), (0, u "<init>"), (0, u "()V"), (1, .class_ 12), (1, u "java/lang/AbstractStringBuilder"), (0, u "EMPTYVALUE"), (0, u "[B"), (0, .fieldref 10 16), (0, .nameAndType 17 14), (0, u "value"), (0, .fieldref 1 19), (0, .nameAndType 20 21), (0, u "COMPACT_STRINGS"), (0, u "Z"), (0, .fieldref 10 23), (0, .nameAndType 24 25), (0, u "coder"), (0, u "B"), (6, .methodref 1 33), (0, .nameAndType 34 35), (0, u "length"), (0, u "()I"), (2, .integer 2147483631), (1, .methodref 1 41), (0, .nameAndType 24 42), (0, u "()B"), (0, .methodref 10 44), (0, .nameAndType 45 46), (0, u "append"), (0, u "(Ljava/lang/String;)Ljava/lang/AbstractStringBuilder;"), (1, .class_ 49), (0, u "java/lang/CharSequence"), (19, u "(Ljava/lang/String;)V"), (5, u "maybeLatin1"), (3, .fieldref 10 80), (0, .nameAndType 81 82), (0, u "count"), (0, u "I"), (0, .methodref 10 84), (0, .nameAndType 85 86), (0, u "isLatin1"), (0, u "()Z"), (1, .class_ 90), (1, u "java/lang/StringLatin1"), (9, .methodref 10 101), (0, .nameAndType 102 103), (0, u "ensureCapacityInternal"), (0, u "(I)V"), (87, .methodref 88 192), (0, .nameAndType 193 194), (0, u "canEncode"), (0, u "(C)Z"), (13, .methodref 10 209), (0, .nameAndType 210 211), (0, u "putStringAt"), (0, u "(ILjava/lang/String;)V"), (5, u "inflateIfNeededFor"), (2, .nameAndType 221 222), (0, u "getBytes"), (0, u "([BIB)V"), (69, u "(C)Ljava/lang/AbstractStringBuilder;"), (104, .methodref 10 398), (0, .nameAndType 217 69), (0, .methodref 1 220), (3, u "()[B"), (40, .class_ 445), (0, u "java/lang/Appendable"), (106, u "getValue")] 56

def k11m0 : Method := { name := "<init>", desc := "()V", sig := { parameters := [], returnType := none }, accessFlags := 0, code := none }
def k11c1 : Code := { maxStack := 2, maxLocals := 5, code := jdk_68_method_3_code, exceptionTable := #[], attributes := #[] }
def k11m1 : Method := { name := "<init>", desc := "(Ljava/lang/String;)V", sig := { parameters := [(.object "java/lang/String")], returnType := none }, accessFlags := 0, code := some k11c1 }
def k11c2 : Code := { maxStack := 1, maxLocals := 1, code := jdk_68_method_6_code, exceptionTable := #[], attributes := #[] }
def k11m2 : Method := { name := "length", desc := "()I", sig := { parameters := [], returnType := some .int }, accessFlags := 1, code := some k11c2 }
def k11c3 : Code := { maxStack := 4, maxLocals := 3, code := jdk_68_method_9_code, exceptionTable := #[], attributes := #[] }
def k11m3 : Method := { name := "ensureCapacityInternal", desc := "(I)V", sig := { parameters := [.int], returnType := none }, accessFlags := 2, code := some k11c3 }
def k11c4 : Code := { maxStack := 3, maxLocals := 3, code := jdk_68_method_22_code, exceptionTable := #[], attributes := #[] }
def k11m4 : Method := { name := "append", desc := "(Ljava/lang/String;)Ljava/lang/AbstractStringBuilder;", sig := { parameters := [(.object "java/lang/String")], returnType := some (.object "java/lang/AbstractStringBuilder") }, accessFlags := 1, code := some k11c4 }
def k11c5 : Code := { maxStack := 5, maxLocals := 2, code := jdk_68_method_31_code, exceptionTable := #[], attributes := #[] }
def k11m5 : Method := { name := "append", desc := "(C)Ljava/lang/AbstractStringBuilder;", sig := { parameters := [.char], returnType := some (.object "java/lang/AbstractStringBuilder") }, accessFlags := 1, code := some k11c5 }
def k11c6 : Code := { maxStack := 1, maxLocals := 1, code := jdk_68_method_64_code, exceptionTable := #[], attributes := #[] }
def k11m6 : Method := { name := "getValue", desc := "()[B", sig := { parameters := [], returnType := some (.array .byte) }, accessFlags := 16, code := some k11c6 }
def k11c7 : Code := { maxStack := 1, maxLocals := 1, code := jdk_68_method_68_code, exceptionTable := #[], attributes := #[] }
def k11m7 : Method := { name := "isLatin1", desc := "()Z", sig := { parameters := [], returnType := some .boolean }, accessFlags := 16, code := some k11c7 }
def k11c8 : Code := { maxStack := 2, maxLocals := 2, code := jdk_68_method_71_code, exceptionTable := #[], attributes := #[] }
def k11m8 : Method := { name := "inflateIfNeededFor", desc := "(Ljava/lang/String;)V", sig := { parameters := [(.object "java/lang/String")], returnType := none }, accessFlags := 2, code := some k11c8 }
def k11c9 : Code := { maxStack := 4, maxLocals := 3, code := jdk_68_method_73_code, exceptionTable := #[], attributes := #[] }
def k11m9 : Method := { name := "putStringAt", desc := "(ILjava/lang/String;)V", sig := { parameters := [.int, (.object "java/lang/String")], returnType := none }, accessFlags := 2, code := some k11c9 }
/-- java/lang/AbstractStringBuilder -/
def k11 : Class := { plain "java/lang/AbstractStringBuilder" (some 0) with
  accessFlags := 1056
  interfaces := #[10, 4]
  cf := some (fileOf pool11 10 #[] #[{ accessFlags := 0, nameIndex := 7, descriptorIndex := 8, attributes := #[] }, { accessFlags := 0, nameIndex := 7, descriptorIndex := 69, attributes := #[] }, { accessFlags := 1, nameIndex := 34, descriptorIndex := 35, attributes := #[] }, { accessFlags := 2, nameIndex := 102, descriptorIndex := 103, attributes := #[] }, { accessFlags := 1, nameIndex := 45, descriptorIndex := 46, attributes := #[] }, { accessFlags := 1, nameIndex := 45, descriptorIndex := 292, attributes := #[] }, { accessFlags := 16, nameIndex := 552, descriptorIndex := 403, attributes := #[] }, { accessFlags := 16, nameIndex := 85, descriptorIndex := 86, attributes := #[] }, { accessFlags := 2, nameIndex := 217, descriptorIndex := 69, attributes := #[] }, { accessFlags := 2, nameIndex := 210, descriptorIndex := 211, attributes := #[] }] 1056 4 #[444, 48] #[{ accessFlags := 0, nameIndex := 17, descriptorIndex := 14, attributes := #[] }, { accessFlags := 0, nameIndex := 24, descriptorIndex := 25, attributes := #[] }, { accessFlags := 0, nameIndex := 75, descriptorIndex := 21, attributes := #[] }, { accessFlags := 0, nameIndex := 81, descriptorIndex := 82, attributes := #[] }, { accessFlags := 26, nameIndex := 13, descriptorIndex := 14, attributes := #[] }])
  fields := #[{ name := "value", type := (.array .byte), accessFlags := 0, slot := 0, constantValue := 0 }, { name := "coder", type := .byte, accessFlags := 0, slot := 1, constantValue := 0 }, { name := "maybeLatin1", type := .boolean, accessFlags := 0, slot := 2, constantValue := 0 }, { name := "count", type := .int, accessFlags := 0, slot := 3, constantValue := 0 }, { name := "EMPTYVALUE", type := (.array .byte), accessFlags := 26, slot := 0, constantValue := 0 }]
  methods := #[k11m0, k11m1, k11m2, k11m3, k11m4, k11m5, k11m6, k11m7, k11m8, k11m9]
  instanceTypes := #[(.array .byte), .byte, .boolean, .int]
  staticTypes := #[(.array .byte)]
  resolved := Array.replicate 609 none
  statics := none }

def pool12 : Array CpInfo := pool [(2, .class_ 4), (1, u "java/lang/AbstractStringBuilder"), (0, u "<init>"), (1, .methodref 2 8), (0, .nameAndType 5 9), (0, u "(Ljava/lang/String;)V"), (8, .class_ 20), (1, u "java/lang/String"), (2, .methodref 24 25), (0, .class_ 26), (0, .nameAndType 27 28), (0, u "java/lang/StringBuilder"), (0, u "append"), (0, u "(Ljava/lang/String;)Ljava/lang/StringBuilder;"), (0, .methodref 2 30), (0, .nameAndType 27 31), (0, u "(Ljava/lang/String;)Ljava/lang/AbstractStringBuilder;"), (18, .methodref 2 51), (0, .nameAndType 27 52), (0, u "(C)Ljava/lang/AbstractStringBuilder;"), (84, .methodref 18 138), (0, .nameAndType 5 139), (0, u "(Ljava/lang/StringBuilder;)V"), (5, u "()V"), (10, u "()I"), (129, u "(C)Ljava/lang/StringBuilder;"), (56, .methodref 2 344), (0, .nameAndType 345 156), (0, u "length"), (3, .class_ 350), (0, u "java/lang/Appendable"), (0, .class_ 352), (0, u "java/io/Serializable"), (0, .class_ 354), (0, u "java/lang/Comparable"), (0, .class_ 356), (0, u "java/lang/CharSequence"), (0, u "serialVersionUID"), (0, u "J"), (40, u "toString"), (0, u "()Ljava/lang/String;")] 21

def k12m0 : Method := { name := "<init>", desc := "()V", sig := { parameters := [], returnType := none }, accessFlags := 1, code := none }
def k12c1 : Code := { maxStack := 2, maxLocals := 2, code := jdk_67_method_3_code, exceptionTable := #[], attributes := #[] }
def k12m1 : Method := { name := "<init>", desc := "(Ljava/lang/String;)V", sig := { parameters := [(.object "java/lang/String")], returnType := none }, accessFlags := 1, code := some k12c1 }
def k12c2 : Code := { maxStack := 2, maxLocals := 2, code := jdk_67_method_7_code, exceptionTable := #[], attributes := #[] }
def k12m2 : Method := { name := "append", desc := "(Ljava/lang/String;)Ljava/lang/StringBuilder;", sig := { parameters := [(.object "java/lang/String")], returnType := some (.object "java/lang/StringBuilder") }, accessFlags := 1, code := some k12c2 }
def k12c3 : Code := { maxStack := 2, maxLocals := 2, code := jdk_67_method_14_code, exceptionTable := #[], attributes := #[] }
def k12m3 : Method := { name := "append", desc := "(C)Ljava/lang/StringBuilder;", sig := { parameters := [.char], returnType := some (.object "java/lang/StringBuilder") }, accessFlags := 1, code := some k12c3 }
def k12c4 : Code := { maxStack := 3, maxLocals := 1, code := jdk_67_method_42_code, exceptionTable := #[], attributes := #[] }
def k12m4 : Method := { name := "toString", desc := "()Ljava/lang/String;", sig := { parameters := [], returnType := some (.object "java/lang/String") }, accessFlags := 1, code := some k12c4 }
def k12c5 : Code := { maxStack := 2, maxLocals := 2, code := jdk_67_method_80_code, exceptionTable := #[], attributes := #[] }
def k12m5 : Method := { name := "append", desc := "(Ljava/lang/String;)Ljava/lang/AbstractStringBuilder;", sig := { parameters := [(.object "java/lang/String")], returnType := some (.object "java/lang/AbstractStringBuilder") }, accessFlags := 4161, code := some k12c5 }
def k12c6 : Code := { maxStack := 1, maxLocals := 1, code := jdk_67_method_93_code, exceptionTable := #[], attributes := #[] }
def k12m6 : Method := { name := "length", desc := "()I", sig := { parameters := [], returnType := some .int }, accessFlags := 4161, code := some k12c6 }
/-- java/lang/StringBuilder -/
def k12 : Class := { plain "java/lang/StringBuilder" (some 11) with
  accessFlags := 49
  interfaces := #[10, 2, 3, 4]
  cf := some (fileOf pool12 24 #[] #[{ accessFlags := 1, nameIndex := 5, descriptorIndex := 145, attributes := #[] }, { accessFlags := 1, nameIndex := 5, descriptorIndex := 9, attributes := #[] }, { accessFlags := 1, nameIndex := 27, descriptorIndex := 28, attributes := #[] }, { accessFlags := 1, nameIndex := 27, descriptorIndex := 286, attributes := #[] }, { accessFlags := 1, nameIndex := 399, descriptorIndex := 400, attributes := #[] }, { accessFlags := 4161, nameIndex := 27, descriptorIndex := 31, attributes := #[] }, { accessFlags := 4161, nameIndex := 345, descriptorIndex := 156, attributes := #[] }] 49 2 #[349, 351, 353, 355] #[{ accessFlags := 24, nameIndex := 357, descriptorIndex := 358, attributes := #[] }])
  fields := #[{ name := "serialVersionUID", type := .long, accessFlags := 24, slot := 0, constantValue := 0 }]
  methods := #[k12m0, k12m1, k12m2, k12m3, k12m4, k12m5, k12m6]
  instanceTypes := #[(.array .byte), .byte, .boolean, .int]
  staticTypes := #[.long]
  resolved := Array.replicate 422 none
  statics := none }

def pool13 : Array CpInfo := pool [(2, .class_ 4), (1, u "java/lang/Object"), (0, u "<init>"), (0, u "()V"), (1, .class_ 10), (1, u "java/lang/System"), (0, u "allowSecurityManager"), (0, u "I"), (16, u "cons"), (0, u "Ljava/io/Console;"), (77, .class_ 110), (1, u "java/lang/System$CallersHolder"), (43, u "initialErrStream"), (0, u "Ljava/io/PrintStream;"), (19, u "security"), (0, u "Ljava/lang/SecurityManager;"), (31, .class_ 209), (0, u "java/lang/System$1"), (7, u "props"), (0, u "Ljava/util/Properties;"), (2, u "lineSeparator"), (0, u "Ljava/lang/String;"), (96, .class_ 321), (1, u "java/lang/System$LoggerFinder"), (5, .class_ 328), (0, u "java/lang/System$Logger"), (67, u "err"), (2, u "out"), (91, u "notSupportedJnuEncoding"), (15, u "in"), (17, u "initialIn"), (0, u "Ljava/io/InputStream;"), (35, u "bootLayer"), (0, u "Ljava/lang/ModuleLayer;"), (99, .class_ 664), (0, u "java/lang/System$2"), (9, u "NEVER"), (2, u "MAYBE"), (49, u "arraycopy"), (0, u "(Ljava/lang/Object;ILjava/lang/Object;II)V"), (72, .class_ 802), (0, u "java/lang/System$Logger$Level")] 31

def k13m0 : Method := { name := "<init>", desc := "()V", sig := { parameters := [], returnType := none }, accessFlags := 2, code := none }
def k13m1 : Method := { name := "arraycopy", desc := "(Ljava/lang/Object;ILjava/lang/Object;II)V", sig := { parameters := [(.object "java/lang/Object"), .int, (.object "java/lang/Object"), .int, .int], returnType := none }, accessFlags := 265, code := none }
/-- java/lang/System -/
def k13 : Class := { plain "java/lang/System" (some 0) with
  accessFlags := 49
  interfaces := #[]
  cf := some (fileOf pool13 8 #[.nestMembers #[319, 327, 801, 108, 663, 208]] #[{ accessFlags := 2, nameIndex := 5, descriptorIndex := 6, attributes := #[] }, { accessFlags := 265, nameIndex := 727, descriptorIndex := 728, attributes := #[] }] 49 2 #[] #[{ accessFlags := 25, nameIndex := 507, descriptorIndex := 526, attributes := #[] }, { accessFlags := 25, nameIndex := 399, descriptorIndex := 155, attributes := #[] }, { accessFlags := 25, nameIndex := 396, descriptorIndex := 155, attributes := #[] }, { accessFlags := 10, nameIndex := 525, descriptorIndex := 526, attributes := #[] }, { accessFlags := 26, nameIndex := 674, descriptorIndex := 12, attributes := #[] }, { accessFlags := 26, nameIndex := 677, descriptorIndex := 12, attributes := #[] }, { accessFlags := 10, nameIndex := 11, descriptorIndex := 12, attributes := #[] }, { accessFlags := 74, nameIndex := 175, descriptorIndex := 176, attributes := #[] }, { accessFlags := 10, nameIndex := 491, descriptorIndex := 222, attributes := #[] }, { accessFlags := 74, nameIndex := 29, descriptorIndex := 30, attributes := #[] }, { accessFlags := 74, nameIndex := 154, descriptorIndex := 155, attributes := #[] }, { accessFlags := 10, nameIndex := 217, descriptorIndex := 218, attributes := #[] }, { accessFlags := 10, nameIndex := 221, descriptorIndex := 222, attributes := #[] }, { accessFlags := 8, nameIndex := 562, descriptorIndex := 563, attributes := #[] }])
  fields := #[{ name := "in", type := (.object "java/io/InputStream"), accessFlags := 25, slot := 0, constantValue := 0 }, { name := "out", type := (.object "java/io/PrintStream"), accessFlags := 25, slot := 1, constantValue := 0 }, { name := "err", type := (.object "java/io/PrintStream"), accessFlags := 25, slot := 2, constantValue := 0 }, { name := "initialIn", type := (.object "java/io/InputStream"), accessFlags := 10, slot := 3, constantValue := 0 }, { name := "NEVER", type := .int, accessFlags := 26, slot := 4, constantValue := 0 }, { name := "MAYBE", type := .int, accessFlags := 26, slot := 5, constantValue := 0 }, { name := "allowSecurityManager", type := .int, accessFlags := 10, slot := 6, constantValue := 0 }, { name := "security", type := (.object "java/lang/SecurityManager"), accessFlags := 74, slot := 7, constantValue := 0 }, { name := "notSupportedJnuEncoding", type := (.object "java/lang/String"), accessFlags := 10, slot := 8, constantValue := 0 }, { name := "cons", type := (.object "java/io/Console"), accessFlags := 74, slot := 9, constantValue := 0 }, { name := "initialErrStream", type := (.object "java/io/PrintStream"), accessFlags := 74, slot := 10, constantValue := 0 }, { name := "props", type := (.object "java/util/Properties"), accessFlags := 10, slot := 11, constantValue := 0 }, { name := "lineSeparator", type := (.object "java/lang/String"), accessFlags := 10, slot := 12, constantValue := 0 }, { name := "bootLayer", type := (.object "java/lang/ModuleLayer"), accessFlags := 8, slot := 13, constantValue := 0 }]
  methods := #[k13m0, k13m1]
  instanceTypes := #[]
  staticTypes := #[(.object "java/io/InputStream"), (.object "java/io/PrintStream"), (.object "java/io/PrintStream"), (.object "java/io/InputStream"), .int, .int, .int, (.object "java/lang/SecurityManager"), (.object "java/lang/String"), (.object "java/io/Console"), (.object "java/io/PrintStream"), (.object "java/util/Properties"), (.object "java/lang/String"), (.object "java/lang/ModuleLayer")]
  resolved := Array.replicate 834 none
  statics := none }

def pool14 : Array CpInfo := pool [(2, .class_ 4), (1, u "java/lang/Object"), (0, u "<init>"), (0, u "()V"), (7, .class_ 16), (1, u "java/util/Arrays"), (57, .class_ 76), (1, u "java/util/Arrays$NaturalOrder"), (36, .class_ 115), (1, u "java/util/Arrays$LegacyMergeSort"), (1, u "Z"), (21, u "copyOfRange"), (10, .methodref 151 152), (0, .class_ 153), (0, .nameAndType 154 155), (0, u "java/lang/System"), (0, u "arraycopy"), (0, u "(Ljava/lang/Object;ILjava/lang/Object;II)V"), (148, .methodref 305 306), (0, .class_ 307), (0, .nameAndType 308 309), (0, u "java/lang/Math"), (0, u "min"), (0, u "(II)I"), (29, .methodref 14 340), (0, .nameAndType 341 342), (0, u "copyOfRangeByte"), (0, u "([BII)[B"), (0, .methodref 14 344), (0, .nameAndType 345 346), (0, u "checkLength"), (0, u "(II)V"), (28, .class_ 376), (0, u "java/util/Arrays$ArrayList"), (68, u "$assertionsDisabled"), (269, u "MIN_ARRAY_SORT_GRAN"), (0, u "I"), (2, u "INSERTIONSORT_THRESHOLD"), (255, .class_ 976), (0, u "java/util/Arrays$ArrayItr")] 52

def k14m0 : Method := { name := "<init>", desc := "()V", sig := { parameters := [], returnType := none }, accessFlags := 2, code := none }
def k14c1 : Code := { maxStack := 4, maxLocals := 2, code := jdk_65_method_131_code, exceptionTable := #[], attributes := #[] }
def k14m1 : Method := { name := "checkLength", desc := "(II)V", sig := { parameters := [.int, .int], returnType := none }, accessFlags := 10, code := some k14c1 }
def k14c2 : Code := { maxStack := 3, maxLocals := 3, code := jdk_65_method_132_code, exceptionTable := #[], attributes := #[] }
def k14m2 : Method := { name := "copyOfRange", desc := "([BII)[B", sig := { parameters := [(.array .byte), .int, .int], returnType := some (.array .byte) }, accessFlags := 9, code := some k14c2 }
def k14c3 : Code := { maxStack := 6, maxLocals := 5, code := jdk_65_method_133_code, exceptionTable := #[], attributes := #[] }
def k14m3 : Method := { name := "copyOfRangeByte", desc := "([BII)[B", sig := { parameters := [(.array .byte), .int, .int], returnType := some (.array .byte) }, accessFlags := 10, code := some k14c3 }
/-- java/util/Arrays -/
def k14 : Class := { plain "java/util/Arrays" (some 0) with
  accessFlags := 49
  interfaces := #[]
  cf := some (fileOf pool14 14 #[.nestMembers #[975, 375, 113, 74]] #[{ accessFlags := 2, nameIndex := 5, descriptorIndex := 6, attributes := #[] }, { accessFlags := 10, nameIndex := 345, descriptorIndex := 346, attributes := #[] }, { accessFlags := 9, nameIndex := 139, descriptorIndex := 342, attributes := #[] }, { accessFlags := 10, nameIndex := 341, descriptorIndex := 342, attributes := #[] }] 49 2 #[] #[{ accessFlags := 26, nameIndex := 715, descriptorIndex := 716, attributes := #[] }, { accessFlags := 26, nameIndex := 719, descriptorIndex := 716, attributes := #[] }, { accessFlags := 4120, nameIndex := 445, descriptorIndex := 117, attributes := #[] }])
  fields := #[{ name := "MIN_ARRAY_SORT_GRAN", type := .int, accessFlags := 26, slot := 0, constantValue := 0 }, { name := "INSERTIONSORT_THRESHOLD", type := .int, accessFlags := 26, slot := 1, constantValue := 0 }, { name := "$assertionsDisabled", type := .boolean, accessFlags := 4120, slot := 2, constantValue := 0 }]
  methods := #[k14m0, k14m1, k14m2, k14m3]
  instanceTypes := #[]
  staticTypes := #[.int, .int, .boolean]
  resolved := Array.replicate 1029 none
  statics := none }

def pool15 : Array CpInfo := pool [(1, .class_ 2), (0, u "java/lang/Math"), (1, .class_ 6), (1, u "java/lang/Object"), (0, u "<init>"), (0, u "()V"), (89, .class_ 100), (1, u "java/lang/Math$RandomNumberGeneratorHolder"), (71, u "negativeZeroFloatBits"), (0, u "J"), (2, u "negativeZeroDoubleBits"), (24, u "min"), (43, u "$assertionsDisabled"), (0, u "Z"), (88, u "(II)I"), (2, u "twoToTheDoubleScaleDown"), (0, u "D"), (4, u "twoToTheDoubleScaleUp"), (9, u "E"), (3, u "PI"), (2, u "TAU"), (2, u "DEGREES_TO_RADIANS"), (0, u "RADIANS_TO_DEGREES")] 94

def k15m0 : Method := { name := "<init>", desc := "()V", sig := { parameters := [], returnType := none }, accessFlags := 2, code := none }
def k15c1 : Code := { maxStack := 2, maxLocals := 2, code := jdk_29_method_69_code, exceptionTable := #[], attributes := #[] }
def k15m1 : Method := { name := "min", desc := "(II)I", sig := { parameters := [.int, .int], returnType := some .int }, accessFlags := 9, code := some k15c1 }
/-- java/lang/Math -/
def k15 : Class := { plain "java/lang/Math" (some 0) with
  accessFlags := 49
  interfaces := #[]
  cf := some (fileOf pool15 1 #[.nestMembers #[98]] #[{ accessFlags := 2, nameIndex := 7, descriptorIndex := 8, attributes := #[] }, { accessFlags := 9, nameIndex := 201, descriptorIndex := 335, attributes := #[] }] 49 4 #[] #[{ accessFlags := 25, nameIndex := 354, descriptorIndex := 339, attributes := #[] }, { accessFlags := 25, nameIndex := 358, descriptorIndex := 339, attributes := #[] }, { accessFlags := 25, nameIndex := 361, descriptorIndex := 339, attributes := #[] }, { accessFlags := 26, nameIndex := 364, descriptorIndex := 339, attributes := #[] }, { accessFlags := 26, nameIndex := 365, descriptorIndex := 339, attributes := #[] }, { accessFlags := 26, nameIndex := 172, descriptorIndex := 173, attributes := #[] }, { accessFlags := 26, nameIndex := 176, descriptorIndex := 173, attributes := #[] }, { accessFlags := 8, nameIndex := 344, descriptorIndex := 339, attributes := #[] }, { accessFlags := 8, nameIndex := 338, descriptorIndex := 339, attributes := #[] }, { accessFlags := 4120, nameIndex := 245, descriptorIndex := 246, attributes := #[] }])
  fields := #[{ name := "E", type := .double, accessFlags := 25, slot := 0, constantValue := 0 }, { name := "PI", type := .double, accessFlags := 25, slot := 1, constantValue := 0 }, { name := "TAU", type := .double, accessFlags := 25, slot := 2, constantValue := 0 }, { name := "DEGREES_TO_RADIANS", type := .double, accessFlags := 26, slot := 3, constantValue := 0 }, { name := "RADIANS_TO_DEGREES", type := .double, accessFlags := 26, slot := 4, constantValue := 0 }, { name := "negativeZeroFloatBits", type := .long, accessFlags := 26, slot := 5, constantValue := 0 }, { name := "negativeZeroDoubleBits", type := .long, accessFlags := 26, slot := 6, constantValue := 0 }, { name := "twoToTheDoubleScaleUp", type := .double, accessFlags := 8, slot := 7, constantValue := 0 }, { name := "twoToTheDoubleScaleDown", type := .double, accessFlags := 8, slot := 8, constantValue := 0 }, { name := "$assertionsDisabled", type := .boolean, accessFlags := 4120, slot := 9, constantValue := 0 }]
  methods := #[k15m0, k15m1]
  instanceTypes := #[]
  staticTypes := #[.double, .double, .double, .double, .double, .long, .long, .double, .double, .boolean]
  resolved := Array.replicate 460 none
  statics := none }

def pool16 : Array CpInfo := pool [(2, .class_ 4), (1, u "java/lang/Object"), (0, u "<init>"), (0, u "()V"), (17, .class_ 26), (1, u "jdk/internal/util/Preconditions"), (6, u "checkIndex"), (21, .class_ 56), (0, u "jdk/internal/util/Preconditions$4"), (57, .class_ 115), (0, u "jdk/internal/util/Preconditions$1"), (7, u "SIOOBE_FORMATTER"), (0, u "Ljava/util/function/BiFunction;"), (0, .class_ 126), (0, u "jdk/internal/util/Preconditions$2"), (3, u "AIOOBE_FORMATTER"), (0, .class_ 132), (0, u "jdk/internal/util/Preconditions$3"), (3, u "IOOBE_FORMATTER"), (41, u "(IILjava/util/function/BiFunction;)I")] 15

def k16m0 : Method := { name := "<init>", desc := "()V", sig := { parameters := [], returnType := none }, accessFlags := 1, code := none }
def k16c1 : Code := { maxStack := 3, maxLocals := 3, code := jdk_41_method_11_code, exceptionTable := #[], attributes := #[] }
def k16m1 : Method := { name := "checkIndex", desc := "(IILjava/util/function/BiFunction;)I", sig := { parameters := [.int, .int, (.object "java/util/function/BiFunction")], returnType := some .int }, accessFlags := 9, code := some k16c1 }
/-- jdk/internal/util/Preconditions -/
def k16 : Class := { plain "jdk/internal/util/Preconditions" (some 0) with
  accessFlags := 33
  interfaces := #[]
  cf := some (fileOf pool16 24 #[.nestMembers #[55, 131, 125, 114]] #[{ accessFlags := 1, nameIndex := 5, descriptorIndex := 6, attributes := #[] }, { accessFlags := 9, nameIndex := 33, descriptorIndex := 178, attributes := #[] }] 33 2 #[] #[{ accessFlags := 25, nameIndex := 123, descriptorIndex := 124, attributes := #[] }, { accessFlags := 25, nameIndex := 130, descriptorIndex := 124, attributes := #[] }, { accessFlags := 25, nameIndex := 136, descriptorIndex := 124, attributes := #[] }])
  fields := #[{ name := "SIOOBE_FORMATTER", type := (.object "java/util/function/BiFunction"), accessFlags := 25, slot := 0, constantValue := 0 }, { name := "AIOOBE_FORMATTER", type := (.object "java/util/function/BiFunction"), accessFlags := 25, slot := 1, constantValue := 0 }, { name := "IOOBE_FORMATTER", type := (.object "java/util/function/BiFunction"), accessFlags := 25, slot := 2, constantValue := 0 }]
  methods := #[k16m0, k16m1]
  instanceTypes := #[]
  staticTypes := #[(.object "java/util/function/BiFunction"), (.object "java/util/function/BiFunction"), (.object "java/util/function/BiFunction")]
  resolved := Array.replicate 194 none
  statics := some 1 }

def pool17 : Array CpInfo := pool [(6, .class_ 8), (1, u "java/lang/Object"), (0, u "<init>"), (0, u "()V"), (1, .class_ 14), (1, u "java/lang/StringUTF16"), (31, u "$assertionsDisabled"), (0, u "Z"), (13, u "HI_BYTE_SHIFT"), (0, u "I"), (2, u "LO_BYTE_SHIFT"), (49, .methodref 12 116), (0, .nameAndType 117 118), (0, u "compress"), (0, u "([CI[BII)I"), (3, u "([CII)[B"), (138, u "coderFromArrayLen"), (0, u "([BI)B"), (106, .class_ 371), (1, u "java/lang/StringUTF16$LinesSpliterator"), (58, u "MAX_LENGTH"), (196, .class_ 628), (0, u "java/lang/StringUTF16$CodePointsSpliterator"), (0, .class_ 630), (0, u "java/lang/StringUTF16$CharsSpliterator")] 4

def k17m0 : Method := { name := "<init>", desc := "()V", sig := { parameters := [], returnType := none }, accessFlags := 0, code := none }
def k17c1 : Code := { maxStack := 2, maxLocals := 2, code := jdk_52_method_15_code, exceptionTable := #[], attributes := #[] }
def k17m1 : Method := { name := "coderFromArrayLen", desc := "([BI)B", sig := { parameters := [(.array .byte), .int], returnType := some .byte }, accessFlags := 8, code := some k17c1 }
def k17c2 : Code := { maxStack := 5, maxLocals := 6, code := jdk_52_method_16_code, exceptionTable := #[], attributes := #[] }
def k17m2 : Method := { name := "compress", desc := "([CII)[B", sig := { parameters := [(.array .char), .int, .int], returnType := some (.array .byte) }, accessFlags := 9, code := some k17c2 }
def k17c3 : Code := { maxStack := 3, maxLocals := 7, code := jdk_52_method_21_code, exceptionTable := #[], attributes := #[] }
def k17m3 : Method := { name := "compress", desc := "([CI[BII)I", sig := { parameters := [(.array .char), .int, (.array .byte), .int, .int], returnType := some .int }, accessFlags := 9, code := some k17c3 }
/-- java/lang/StringUTF16 -/
def k17 : Class := { plain "java/lang/StringUTF16" (some 0) with
  accessFlags := 48
  interfaces := #[]
  cf := some (fileOf pool17 12 #[.nestMembers #[627, 629, 369]] #[{ accessFlags := 0, nameIndex := 9, descriptorIndex := 10, attributes := #[] }, { accessFlags := 8, nameIndex := 261, descriptorIndex := 262, attributes := #[] }, { accessFlags := 9, nameIndex := 117, descriptorIndex := 122, attributes := #[] }, { accessFlags := 9, nameIndex := 117, descriptorIndex := 118, attributes := #[] }] 48 6 #[] #[{ accessFlags := 26, nameIndex := 61, descriptorIndex := 62, attributes := #[] }, { accessFlags := 26, nameIndex := 65, descriptorIndex := 62, attributes := #[] }, { accessFlags := 24, nameIndex := 430, descriptorIndex := 62, attributes := #[] }, { accessFlags := 4120, nameIndex := 46, descriptorIndex := 47, attributes := #[] }])
  fields := #[{ name := "HI_BYTE_SHIFT", type := .int, accessFlags := 26, slot := 0, constantValue := 0 }, { name := "LO_BYTE_SHIFT", type := .int, accessFlags := 26, slot := 1, constantValue := 0 }, { name := "MAX_LENGTH", type := .int, accessFlags := 24, slot := 2, constantValue := 0 }, { name := "$assertionsDisabled", type := .boolean, accessFlags := 4120, slot := 3, constantValue := 0 }]
  methods := #[k17m0, k17m1, k17m2, k17m3]
  instanceTypes := #[]
  staticTypes := #[.int, .int, .int, .boolean]
  resolved := Array.replicate 635 none
  statics := none }

def pool18 : Array CpInfo := pool [(9, u "<init>"), (6, .class_ 18), (1, u "java/lang/Object"), (0, u "()V"), (1, .class_ 23), (1, u "jdk/internal/util/ArraysSupport"), (0, u "LOG2_ARRAY_LONG_INDEX_SCALE"), (0, u "I"), (2, u "U"), (0, u "Ljdk/internal/misc/Unsafe;"), (8, u "BIG_ENDIAN"), (0, u "Z"), (8, u "LOG2_BYTE_BIT_SIZE"), (4, u "LOG2_ARRAY_INT_INDEX_SCALE"), (54, u "JLA"), (0, u "Ljdk/internal/access/JavaLangAccess;"), (11, u "LOG2_ARRAY_BOOLEAN_INDEX_SCALE"), (9, u "LOG2_ARRAY_BYTE_INDEX_SCALE"), (5, u "LOG2_ARRAY_CHAR_INDEX_SCALE"), (5, u "LOG2_ARRAY_SHORT_INDEX_SCALE"), (18, u "LOG2_ARRAY_FLOAT_INDEX_SCALE"), (24, u "LOG2_ARRAY_DOUBLE_INDEX_SCALE"), (89, u "T_BOOLEAN"), (2, u "T_CHAR"), (1, u "T_FLOAT"), (1, u "T_DOUBLE"), (1, u "T_BYTE"), (1, u "T_SHORT"), (1, u "T_INT"), (1, u "T_LONG"), (1, u "SOFT_MAX_ARRAY_LENGTH")] 83

def k18m0 : Method := { name := "<init>", desc := "()V", sig := { parameters := [], returnType := none }, accessFlags := 2, code := none }
/-- jdk/internal/util/ArraysSupport -/
def k18 : Class := { plain "jdk/internal/util/ArraysSupport" (some 0) with
  accessFlags := 33
  interfaces := #[]
  cf := some (fileOf pool18 21 #[] #[{ accessFlags := 2, nameIndex := 9, descriptorIndex := 19, attributes := #[] }] 33 16 #[] #[{ accessFlags := 24, nameIndex := 28, descriptorIndex := 29, attributes := #[] }, { accessFlags := 26, nameIndex := 38, descriptorIndex := 39, attributes := #[] }, { accessFlags := 25, nameIndex := 121, descriptorIndex := 25, attributes := #[] }, { accessFlags := 25, nameIndex := 131, descriptorIndex := 25, attributes := #[] }, { accessFlags := 25, nameIndex := 137, descriptorIndex := 25, attributes := #[] }, { accessFlags := 25, nameIndex := 143, descriptorIndex := 25, attributes := #[] }, { accessFlags := 25, nameIndex := 53, descriptorIndex := 25, attributes := #[] }, { accessFlags := 25, nameIndex := 24, descriptorIndex := 25, attributes := #[] }, { accessFlags := 25, nameIndex := 162, descriptorIndex := 25, attributes := #[] }, { accessFlags := 25, nameIndex := 187, descriptorIndex := 25, attributes := #[] }, { accessFlags := 26, nameIndex := 48, descriptorIndex := 25, attributes := #[] }, { accessFlags := 25, nameIndex := 277, descriptorIndex := 25, attributes := #[] }, { accessFlags := 25, nameIndex := 280, descriptorIndex := 25, attributes := #[] }, { accessFlags := 25, nameIndex := 282, descriptorIndex := 25, attributes := #[] }, { accessFlags := 25, nameIndex := 284, descriptorIndex := 25, attributes := #[] }, { accessFlags := 25, nameIndex := 286, descriptorIndex := 25, attributes := #[] }, { accessFlags := 25, nameIndex := 288, descriptorIndex := 25, attributes := #[] }, { accessFlags := 25, nameIndex := 290, descriptorIndex := 25, attributes := #[] }, { accessFlags := 25, nameIndex := 292, descriptorIndex := 25, attributes := #[] }, { accessFlags := 26, nameIndex := 108, descriptorIndex := 109, attributes := #[] }, { accessFlags := 25, nameIndex := 294, descriptorIndex := 25, attributes := #[] }])
  fields := #[{ name := "U", type := (.object "jdk/internal/misc/Unsafe"), accessFlags := 24, slot := 0, constantValue := 0 }, { name := "BIG_ENDIAN", type := .boolean, accessFlags := 26, slot := 1, constantValue := 0 }, { name := "LOG2_ARRAY_BOOLEAN_INDEX_SCALE", type := .int, accessFlags := 25, slot := 2, constantValue := 0 }, { name := "LOG2_ARRAY_BYTE_INDEX_SCALE", type := .int, accessFlags := 25, slot := 3, constantValue := 0 }, { name := "LOG2_ARRAY_CHAR_INDEX_SCALE", type := .int, accessFlags := 25, slot := 4, constantValue := 0 }, { name := "LOG2_ARRAY_SHORT_INDEX_SCALE", type := .int, accessFlags := 25, slot := 5, constantValue := 0 }, { name := "LOG2_ARRAY_INT_INDEX_SCALE", type := .int, accessFlags := 25, slot := 6, constantValue := 0 }, { name := "LOG2_ARRAY_LONG_INDEX_SCALE", type := .int, accessFlags := 25, slot := 7, constantValue := 0 }, { name := "LOG2_ARRAY_FLOAT_INDEX_SCALE", type := .int, accessFlags := 25, slot := 8, constantValue := 0 }, { name := "LOG2_ARRAY_DOUBLE_INDEX_SCALE", type := .int, accessFlags := 25, slot := 9, constantValue := 0 }, { name := "LOG2_BYTE_BIT_SIZE", type := .int, accessFlags := 26, slot := 10, constantValue := 0 }, { name := "T_BOOLEAN", type := .int, accessFlags := 25, slot := 11, constantValue := 0 }, { name := "T_CHAR", type := .int, accessFlags := 25, slot := 12, constantValue := 0 }, { name := "T_FLOAT", type := .int, accessFlags := 25, slot := 13, constantValue := 0 }, { name := "T_DOUBLE", type := .int, accessFlags := 25, slot := 14, constantValue := 0 }, { name := "T_BYTE", type := .int, accessFlags := 25, slot := 15, constantValue := 0 }, { name := "T_SHORT", type := .int, accessFlags := 25, slot := 16, constantValue := 0 }, { name := "T_INT", type := .int, accessFlags := 25, slot := 17, constantValue := 0 }, { name := "T_LONG", type := .int, accessFlags := 25, slot := 18, constantValue := 0 }, { name := "JLA", type := (.object "jdk/internal/access/JavaLangAccess"), accessFlags := 26, slot := 19, constantValue := 0 }, { name := "SOFT_MAX_ARRAY_LENGTH", type := .int, accessFlags := 25, slot := 20, constantValue := 0 }]
  methods := #[k18m0]
  instanceTypes := #[]
  staticTypes := #[(.object "jdk/internal/misc/Unsafe"), .boolean, .int, .int, .int, .int, .int, .int, .int, .int, .int, .int, .int, .int, .int, .int, .int, .int, .int, (.object "jdk/internal/access/JavaLangAccess"), .int]
  resolved := Array.replicate 378 none
  statics := none }

def pool19 : Array CpInfo := pool [(1, u "java/lang/Cloneable"), (0, .class_ 1), (0, u "java/lang/Object"), (0, .class_ 3)] 3

/-- java/lang/Cloneable -/
def k19 : Class := { plain "java/lang/Cloneable" (some 0) with
  accessFlags := 1537
  interfaces := #[]
  cf := some (fileOf pool19 2 #[] #[] 1537 4 #[] #[])
  fields := #[]
  methods := #[]
  instanceTypes := #[]
  staticTypes := #[]
  resolved := Array.replicate 8 none
  statics := none }

/-- the primitive byte -/
def k20 : Class := { plain "byte" none with kind := .primitive 'B', accessFlags := 0x411 }
/-- [B -/
def k21 : Class := { plain "[B" (some 0) with kind := .array 20 .byte, interfaces := #[19, 2], accessFlags := 1041 }

/-- the primitive char -/
def k22 : Class := { plain "char" none with kind := .primitive 'C', accessFlags := 0x411 }
/-- [C -/
def k23 : Class := { plain "[C" (some 0) with kind := .array 22 .char, interfaces := #[19, 2], accessFlags := 1041 }

/-- the primitive int -/
def k24 : Class := { plain "int" none with kind := .primitive 'I', accessFlags := 0x411 }
/-- [I -/
def k25 : Class := { plain "[I" (some 0) with kind := .array 24 .int, interfaces := #[19, 2], accessFlags := 1041 }

def heap : Heap := #[{ cls := 7, slots := #[.long 0, .int 1, .null, .int 0, .null, .int 0, .int 0], vm := .statics 7 },
  { cls := 16, slots := #[.null, .null, .null], vm := .statics 16 }]
def classes : Array Class := #[k0, k1, k2, k3, k4, k5, k6, k7, k8, k9, k10, k11, k12, k13, k14, k15, k16, k17, k18, k19, k20, k21, k22, k23, k24, k25]
def interned : List (Array UInt16 × Addr) := []
def slotsUsed : Nat := 10
def theMethod : MethodId := ⟨1, 4⟩
def args0 : Array Value := #[.int 0, .int 1, .int 2, .int 3]
def aboutOver (below : List Frame) : State where
  vm := { classes := classes, interned := interned.toArray }
  heap := heap
  slotsUsed := slotsUsed
  threads := #[{ frames := .invoking theMethod args0 :: below }]
def below0 : List Frame := [.native { method := ⟨0, 0⟩, args := #[] }]
def about1 : State := aboutOver below0
def p0 : Program := .bare "" "" ""
def e0 : Env := launch0.env 0 0 0
theorem w_frames : about1.frames = Frame.invoking theMethod args0 :: below0 := rfl
set_option maxRecDepth 65536 in
theorem w_args : argsFit about1.vm theMethod args0 = true := by decide +kernel
set_option maxRecDepth 65536 in
theorem w_heap : heapFits about1 = true := by decide +kernel
set_option maxRecDepth 65536 in
theorem w_runnable : about1.curStatus? = some .runnable := by decide +kernel
set_option maxRecDepth 65536 in
theorem w_alone : about1.alone = true := by decide +kernel
set_option maxRecDepth 65536 in
theorem w_named : about1.methodNamed? x = some theMethod := by decide +kernel
set_option maxRecDepth 65536 in
theorem w_hears : about1.hears theMethod below0 = true := by decide +kernel
set_option maxRecDepth 65536 in
theorem w_ripe : about1.ripe theMethod args0 below0 = true := by decide +kernel
theorem w_running : about1.status = .running := rfl
set_option maxRecDepth 65536 in
theorem w_room : about1.hasRoom e0.platform room_1 = true :=
  launch0.hasRoom_least _ room_1 (by decide +kernel) (by decide +kernel) (by decide +kernel) (by decide +kernel) (by decide +kernel) (by decide +kernel)
theorem allAtoms_all (ts : List Jvm.Cond) (a : Array Jvm.Value) (st : Jvm.State) : (allAtoms ts).before a st = ts.all (fun c => c.before a st) := by
  induction ts with
  | nil => rfl
  | cons c t ih =>
    show (Jvm.Cond.and c (allAtoms t)).before a st = _
    rw [Jvm.Cond.before_and, ih, List.all_cons]
def words1 : List Jvm.Cond := Jvm.Cond.code x code maxLocals ret :: tables_1
/-- a 'code' word, met by the world's own term for the bytes: nothing is compared byte by byte -/
theorem code_word {y : MethodName} {bytes : ByteArray} {mx : Nat} {rt : Option FieldType} {a : Array Value} {s : State} {m : MethodId} {meth : Method} {c : Code} (h1 : s.methodNamed? y = some m) (h2 : s.vm.method? m = some meth) (h3 : meth.code = some c) (h4 : c.code = bytes)
    (h5 : (c.maxLocals == mx && c.exceptionTable.isEmpty && decide (c.maxStack ≤ mostOperands) && decide (meth.sig.returnType = rt) && !meth.locks && decide (parseMethodDescriptor y.desc = some meth.sig)) = true) : (Jvm.Cond.code y bytes mx rt).before a s = true := by
  simp only [Bool.and_eq_true, beq_iff_eq, Bool.not_eq_true', decide_eq_true_eq] at h5
  obtain ⟨⟨⟨⟨⟨g1, g2⟩, g3⟩, g4⟩, g5⟩, g6⟩ := h5
  simp [Cond.before, Cond.holds, Cond.value, h1, h2, h3, h4, g1, g2, g3, g4, g5, g6]
def isCode : Jvm.Cond → Bool
  | .code _ _ _ _ => true
  | _ => false
theorem all_split {L : List Jvm.Cond} {P : Jvm.Cond → Bool} (h1 : L.all (fun c => isCode c || P c) = true) (h2 : ∀ c ∈ L.filter isCode, P c = true) : L.all P = true := by
  refine List.all_eq_true.mpr fun c hc => ?_
  have h := List.all_eq_true.mp h1 c hc
  rcases Bool.eq_false_or_eq_true (isCode c) with hi | hi
  · exact h2 c (List.mem_filter.mpr ⟨hc, hi⟩)
  · simpa [hi] using h
set_option maxRecDepth 65536 in
theorem w_c0 : (Jvm.Cond.code x code maxLocals ret).before args0 about1 = true := code_word (m := ⟨1, 4⟩) (meth := k1m4) (c := k1c4) (by decide +kernel) rfl rfl rfl (by decide +kernel)
set_option maxRecDepth 65536 in
theorem w_c1 : (Jvm.Cond.code ({ cls := "java/lang/String", name := "valueOf", desc := "(C)Ljava/lang/String;" } : Jvm.MethodName) jdk_42_method_139_code (1 : Nat) (Option.some (Jvm.ClassFile.FieldType.object "java/lang/String"))).before args0 about1 = true := code_word (m := ⟨7, 6⟩) (meth := k7m6) (c := k7c6) (by decide +kernel) rfl rfl rfl (by decide +kernel)
set_option maxRecDepth 65536 in
theorem w_c2 : (Jvm.Cond.code ({ cls := "java/lang/StringLatin1", name := "canEncode", desc := "(C)Z" } : Jvm.MethodName) jdk_43_method_3_code (1 : Nat) (Option.some Jvm.ClassFile.FieldType.boolean)).before args0 about1 = true := code_word (m := ⟨8, 2⟩) (meth := k8m2) (c := k8c2) (by decide +kernel) rfl rfl rfl (by decide +kernel)
set_option maxRecDepth 65536 in
theorem w_c3 : (Jvm.Cond.code ({ cls := "java/lang/StringLatin1", name := "toBytes", desc := "(C)[B" } : Jvm.MethodName) jdk_43_method_46_code (1 : Nat) (Option.some (Jvm.ClassFile.FieldType.array Jvm.ClassFile.FieldType.byte))).before args0 about1 = true := code_word (m := ⟨8, 3⟩) (meth := k8m3) (c := k8c3) (by decide +kernel) rfl rfl rfl (by decide +kernel)
set_option maxRecDepth 65536 in
theorem w_c4 : (Jvm.Cond.code ({ cls := "java/lang/String", name := "<init>", desc := "([BB)V" } : Jvm.MethodName) jdk_42_method_151_code (3 : Nat) (Option.none : Option Jvm.ClassFile.FieldType)).before args0 about1 = true := code_word (m := ⟨7, 10⟩) (meth := k7m10) (c := k7c10) (by decide +kernel) rfl rfl rfl (by decide +kernel)
set_option maxRecDepth 65536 in
theorem w_c5 : (Jvm.Cond.code ({ cls := "java/lang/Object", name := "<init>", desc := "()V" } : Jvm.MethodName) object_method_1_code (1 : Nat) (Option.none : Option Jvm.ClassFile.FieldType)).before args0 about1 = true := code_word (m := ⟨0, 0⟩) (meth := k0m0) (c := k0c0) (by decide +kernel) rfl rfl rfl (by decide +kernel)
set_option maxRecDepth 65536 in
theorem w_c6 : (Jvm.Cond.code ({ cls := "com/example/rules_for_records/rulesforrecords/messageinterpolation/CandidateBundleNamePinLaw", name := "part", desc := "(ZC)Ljava/lang/String;" } : Jvm.MethodName) method_2_code (2 : Nat) (Option.some (Jvm.ClassFile.FieldType.object "java/lang/String"))).before args0 about1 = true := code_word (m := ⟨1, 1⟩) (meth := k1m1) (c := k1c1) (by decide +kernel) rfl rfl rfl (by decide +kernel)
set_option maxRecDepth 65536 in
theorem w_c7 : (Jvm.Cond.code ({ cls := "com/example/rules_for_records/rulesforrecords/messageinterpolation/BundleLookup$Candidate", name := "<init>", desc := "(Ljava/lang/String;Ljava/lang/String;Ljava/lang/String;Ljava/lang/String;)V" } : Jvm.MethodName) prog_9_method_1_code (5 : Nat) (Option.none : Option Jvm.ClassFile.FieldType)).before args0 about1 = true := code_word (m := ⟨9, 0⟩) (meth := k9m0) (c := k9c0) (by decide +kernel) rfl rfl rfl (by decide +kernel)
set_option maxRecDepth 65536 in
theorem w_c8 : (Jvm.Cond.code ({ cls := "com/example/rules_for_records/rulesforrecords/messageinterpolation/BundleLookup$Candidate", name := "bundleName", desc := "(Ljava/lang/String;)Ljava/lang/String;" } : Jvm.MethodName) prog_9_method_2_code (3 : Nat) (Option.some (Jvm.ClassFile.FieldType.object "java/lang/String"))).before args0 about1 = true := code_word (m := ⟨9, 1⟩) (meth := k9m1) (c := k9c1) (by decide +kernel) rfl rfl rfl (by decide +kernel)
set_option maxRecDepth 65536 in
theorem w_c9 : (Jvm.Cond.code ({ cls := "java/lang/StringBuilder", name := "<init>", desc := "(Ljava/lang/String;)V" } : Jvm.MethodName) jdk_67_method_3_code (2 : Nat) (Option.none : Option Jvm.ClassFile.FieldType)).before args0 about1 = true := code_word (m := ⟨12, 1⟩) (meth := k12m1) (c := k12c1) (by decide +kernel) rfl rfl rfl (by decide +kernel)
set_option maxRecDepth 65536 in
theorem w_c10 : (Jvm.Cond.code ({ cls := "java/lang/AbstractStringBuilder", name := "<init>", desc := "(Ljava/lang/String;)V" } : Jvm.MethodName) jdk_68_method_3_code (5 : Nat) (Option.none : Option Jvm.ClassFile.FieldType)).before args0 about1 = true := code_word (m := ⟨11, 1⟩) (meth := k11m1) (c := k11c1) (by decide +kernel) rfl rfl rfl (by decide +kernel)
set_option maxRecDepth 65536 in
theorem w_c11 : (Jvm.Cond.code ({ cls := "java/lang/String", name := "length", desc := "()I" } : Jvm.MethodName) jdk_42_method_54_code (1 : Nat) (Option.some Jvm.ClassFile.FieldType.int)).before args0 about1 = true := code_word (m := ⟨7, 3⟩) (meth := k7m3) (c := k7c3) (by decide +kernel) rfl rfl rfl (by decide +kernel)
set_option maxRecDepth 65536 in
theorem w_c12 : (Jvm.Cond.code ({ cls := "java/lang/String", name := "coder", desc := "()B" } : Jvm.MethodName) jdk_42_method_152_code (1 : Nat) (Option.some Jvm.ClassFile.FieldType.byte)).before args0 about1 = true := code_word (m := ⟨7, 11⟩) (meth := k7m11) (c := k7c11) (by decide +kernel) rfl rfl rfl (by decide +kernel)
set_option maxRecDepth 65536 in
theorem w_c13 : (Jvm.Cond.code ({ cls := "java/lang/StringBuilder", name := "append", desc := "(Ljava/lang/String;)Ljava/lang/AbstractStringBuilder;" } : Jvm.MethodName) jdk_67_method_80_code (2 : Nat) (Option.some (Jvm.ClassFile.FieldType.object "java/lang/AbstractStringBuilder"))).before args0 about1 = true := code_word (m := ⟨12, 5⟩) (meth := k12m5) (c := k12c5) (by decide +kernel) rfl rfl rfl (by decide +kernel)
set_option maxRecDepth 65536 in
theorem w_c14 : (Jvm.Cond.code ({ cls := "java/lang/StringBuilder", name := "append", desc := "(Ljava/lang/String;)Ljava/lang/StringBuilder;" } : Jvm.MethodName) jdk_67_method_7_code (2 : Nat) (Option.some (Jvm.ClassFile.FieldType.object "java/lang/StringBuilder"))).before args0 about1 = true := code_word (m := ⟨12, 2⟩) (meth := k12m2) (c := k12c2) (by decide +kernel) rfl rfl rfl (by decide +kernel)
set_option maxRecDepth 65536 in
theorem w_c15 : (Jvm.Cond.code ({ cls := "java/lang/AbstractStringBuilder", name := "append", desc := "(Ljava/lang/String;)Ljava/lang/AbstractStringBuilder;" } : Jvm.MethodName) jdk_68_method_22_code (3 : Nat) (Option.some (Jvm.ClassFile.FieldType.object "java/lang/AbstractStringBuilder"))).before args0 about1 = true := code_word (m := ⟨11, 4⟩) (meth := k11m4) (c := k11c4) (by decide +kernel) rfl rfl rfl (by decide +kernel)
set_option maxRecDepth 65536 in
theorem w_c16 : (Jvm.Cond.code ({ cls := "java/lang/AbstractStringBuilder", name := "ensureCapacityInternal", desc := "(I)V" } : Jvm.MethodName) jdk_68_method_9_code (3 : Nat) (Option.none : Option Jvm.ClassFile.FieldType)).before args0 about1 = true := code_word (m := ⟨11, 3⟩) (meth := k11m3) (c := k11c3) (by decide +kernel) rfl rfl rfl (by decide +kernel)
set_option maxRecDepth 65536 in
theorem w_c17 : (Jvm.Cond.code ({ cls := "java/lang/AbstractStringBuilder", name := "putStringAt", desc := "(ILjava/lang/String;)V" } : Jvm.MethodName) jdk_68_method_73_code (3 : Nat) (Option.none : Option Jvm.ClassFile.FieldType)).before args0 about1 = true := code_word (m := ⟨11, 9⟩) (meth := k11m9) (c := k11c9) (by decide +kernel) rfl rfl rfl (by decide +kernel)
set_option maxRecDepth 65536 in
theorem w_c18 : (Jvm.Cond.code ({ cls := "java/lang/AbstractStringBuilder", name := "inflateIfNeededFor", desc := "(Ljava/lang/String;)V" } : Jvm.MethodName) jdk_68_method_71_code (2 : Nat) (Option.none : Option Jvm.ClassFile.FieldType)).before args0 about1 = true := code_word (m := ⟨11, 8⟩) (meth := k11m8) (c := k11c8) (by decide +kernel) rfl rfl rfl (by decide +kernel)
set_option maxRecDepth 65536 in
theorem w_c19 : (Jvm.Cond.code ({ cls := "java/lang/String", name := "getBytes", desc := "([BIB)V" } : Jvm.MethodName) jdk_42_method_147_code (4 : Nat) (Option.none : Option Jvm.ClassFile.FieldType)).before args0 about1 = true := code_word (m := ⟨7, 7⟩) (meth := k7m7) (c := k7c7) (by decide +kernel) rfl rfl rfl (by decide +kernel)
set_option maxRecDepth 65536 in
theorem w_c20 : (Jvm.Cond.code ({ cls := "java/lang/String", name := "isEmpty", desc := "()Z" } : Jvm.MethodName) jdk_42_method_55_code (1 : Nat) (Option.some Jvm.ClassFile.FieldType.boolean)).before args0 about1 = true := code_word (m := ⟨7, 4⟩) (meth := k7m4) (c := k7c4) (by decide +kernel) rfl rfl rfl (by decide +kernel)
set_option maxRecDepth 65536 in
theorem w_c21 : (Jvm.Cond.code ({ cls := "java/lang/StringBuilder", name := "toString", desc := "()Ljava/lang/String;" } : Jvm.MethodName) jdk_67_method_42_code (1 : Nat) (Option.some (Jvm.ClassFile.FieldType.object "java/lang/String"))).before args0 about1 = true := code_word (m := ⟨12, 4⟩) (meth := k12m4) (c := k12c4) (by decide +kernel) rfl rfl rfl (by decide +kernel)
set_option maxRecDepth 65536 in
theorem w_c22 : (Jvm.Cond.code ({ cls := "java/lang/String", name := "<init>", desc := "(Ljava/lang/StringBuilder;)V" } : Jvm.MethodName) jdk_42_method_53_code (2 : Nat) (Option.none : Option Jvm.ClassFile.FieldType)).before args0 about1 = true := code_word (m := ⟨7, 2⟩) (meth := k7m2) (c := k7c2) (by decide +kernel) rfl rfl rfl (by decide +kernel)
set_option maxRecDepth 65536 in
theorem w_c23 : (Jvm.Cond.code ({ cls := "java/lang/String", name := "<init>", desc := "(Ljava/lang/AbstractStringBuilder;Ljava/lang/Void;)V" } : Jvm.MethodName) jdk_42_method_150_code (5 : Nat) (Option.none : Option Jvm.ClassFile.FieldType)).before args0 about1 = true := code_word (m := ⟨7, 9⟩) (meth := k7m9) (c := k7c9) (by decide +kernel) rfl rfl rfl (by decide +kernel)
set_option maxRecDepth 65536 in
theorem w_c24 : (Jvm.Cond.code ({ cls := "java/lang/AbstractStringBuilder", name := "getValue", desc := "()[B" } : Jvm.MethodName) jdk_68_method_64_code (1 : Nat) (Option.some (Jvm.ClassFile.FieldType.array Jvm.ClassFile.FieldType.byte))).before args0 about1 = true := code_word (m := ⟨11, 6⟩) (meth := k11m6) (c := k11c6) (by decide +kernel) rfl rfl rfl (by decide +kernel)
set_option maxRecDepth 65536 in
theorem w_c25 : (Jvm.Cond.code ({ cls := "java/lang/StringBuilder", name := "length", desc := "()I" } : Jvm.MethodName) jdk_67_method_93_code (1 : Nat) (Option.some Jvm.ClassFile.FieldType.int)).before args0 about1 = true := code_word (m := ⟨12, 6⟩) (meth := k12m6) (c := k12c6) (by decide +kernel) rfl rfl rfl (by decide +kernel)
set_option maxRecDepth 65536 in
theorem w_c26 : (Jvm.Cond.code ({ cls := "java/lang/AbstractStringBuilder", name := "length", desc := "()I" } : Jvm.MethodName) jdk_68_method_6_code (1 : Nat) (Option.some Jvm.ClassFile.FieldType.int)).before args0 about1 = true := code_word (m := ⟨11, 2⟩) (meth := k11m2) (c := k11c2) (by decide +kernel) rfl rfl rfl (by decide +kernel)
set_option maxRecDepth 65536 in
theorem w_c27 : (Jvm.Cond.code ({ cls := "java/lang/AbstractStringBuilder", name := "isLatin1", desc := "()Z" } : Jvm.MethodName) jdk_68_method_68_code (1 : Nat) (Option.some Jvm.ClassFile.FieldType.boolean)).before args0 about1 = true := code_word (m := ⟨11, 7⟩) (meth := k11m7) (c := k11c7) (by decide +kernel) rfl rfl rfl (by decide +kernel)
set_option maxRecDepth 65536 in
theorem w_c28 : (Jvm.Cond.code ({ cls := "java/util/Arrays", name := "copyOfRange", desc := "([BII)[B" } : Jvm.MethodName) jdk_65_method_132_code (3 : Nat) (Option.some (Jvm.ClassFile.FieldType.array Jvm.ClassFile.FieldType.byte))).before args0 about1 = true := code_word (m := ⟨14, 2⟩) (meth := k14m2) (c := k14c2) (by decide +kernel) rfl rfl rfl (by decide +kernel)
set_option maxRecDepth 65536 in
theorem w_c29 : (Jvm.Cond.code ({ cls := "java/util/Arrays", name := "copyOfRangeByte", desc := "([BII)[B" } : Jvm.MethodName) jdk_65_method_133_code (5 : Nat) (Option.some (Jvm.ClassFile.FieldType.array Jvm.ClassFile.FieldType.byte))).before args0 about1 = true := code_word (m := ⟨14, 3⟩) (meth := k14m3) (c := k14c3) (by decide +kernel) rfl rfl rfl (by decide +kernel)
set_option maxRecDepth 65536 in
theorem w_c30 : (Jvm.Cond.code ({ cls := "java/util/Arrays", name := "checkLength", desc := "(II)V" } : Jvm.MethodName) jdk_65_method_131_code (2 : Nat) (Option.none : Option Jvm.ClassFile.FieldType)).before args0 about1 = true := code_word (m := ⟨14, 1⟩) (meth := k14m1) (c := k14c1) (by decide +kernel) rfl rfl rfl (by decide +kernel)
set_option maxRecDepth 65536 in
theorem w_c31 : (Jvm.Cond.code ({ cls := "java/lang/Math", name := "min", desc := "(II)I" } : Jvm.MethodName) jdk_29_method_69_code (2 : Nat) (Option.some Jvm.ClassFile.FieldType.int)).before args0 about1 = true := code_word (m := ⟨15, 1⟩) (meth := k15m1) (c := k15c1) (by decide +kernel) rfl rfl rfl (by decide +kernel)
set_option maxRecDepth 65536 in
theorem w_c32 : (Jvm.Cond.code ({ cls := "com/example/rules_for_records/rulesforrecords/messageinterpolation/CandidateBundleNamePinLaw", name := "emit", desc := "([CIZZC)I" } : Jvm.MethodName) method_3_code (5 : Nat) (Option.some Jvm.ClassFile.FieldType.int)).before args0 about1 = true := code_word (m := ⟨1, 2⟩) (meth := k1m2) (c := k1c2) (by decide +kernel) rfl rfl rfl (by decide +kernel)
set_option maxRecDepth 65536 in
theorem w_c33 : (Jvm.Cond.code ({ cls := "com/example/rules_for_records/rulesforrecords/messageinterpolation/CandidateBundleNamePinLaw", name := "eq", desc := "(Ljava/lang/String;[CII)Z" } : Jvm.MethodName) method_4_code (4 : Nat) (Option.some Jvm.ClassFile.FieldType.boolean)).before args0 about1 = true := code_word (m := ⟨1, 3⟩) (meth := k1m3) (c := k1c3) (by decide +kernel) rfl rfl rfl (by decide +kernel)
set_option maxRecDepth 65536 in
theorem w_c34 : (Jvm.Cond.code ({ cls := "java/lang/String", name := "charAt", desc := "(I)C" } : Jvm.MethodName) jdk_42_method_56_code (2 : Nat) (Option.some Jvm.ClassFile.FieldType.char)).before args0 about1 = true := code_word (m := ⟨7, 5⟩) (meth := k7m5) (c := k7c5) (by decide +kernel) rfl rfl rfl (by decide +kernel)
set_option maxRecDepth 65536 in
theorem w_c35 : (Jvm.Cond.code ({ cls := "java/lang/String", name := "isLatin1", desc := "()Z" } : Jvm.MethodName) jdk_42_method_154_code (1 : Nat) (Option.some Jvm.ClassFile.FieldType.boolean)).before args0 about1 = true := code_word (m := ⟨7, 12⟩) (meth := k7m12) (c := k7c12) (by decide +kernel) rfl rfl rfl (by decide +kernel)
set_option maxRecDepth 65536 in
theorem w_c36 : (Jvm.Cond.code ({ cls := "java/lang/StringLatin1", name := "charAt", desc := "([BI)C" } : Jvm.MethodName) jdk_43_method_2_code (2 : Nat) (Option.some Jvm.ClassFile.FieldType.char)).before args0 about1 = true := code_word (m := ⟨8, 1⟩) (meth := k8m1) (c := k8c1) (by decide +kernel) rfl rfl rfl (by decide +kernel)
set_option maxRecDepth 65536 in
theorem w_c37 : (Jvm.Cond.code ({ cls := "java/lang/String", name := "checkIndex", desc := "(II)V" } : Jvm.MethodName) jdk_42_method_155_code (2 : Nat) (Option.none : Option Jvm.ClassFile.FieldType)).before args0 about1 = true := code_word (m := ⟨7, 13⟩) (meth := k7m13) (c := k7c13) (by decide +kernel) rfl rfl rfl (by decide +kernel)
set_option maxRecDepth 65536 in
theorem w_c38 : (Jvm.Cond.code ({ cls := "jdk/internal/util/Preconditions", name := "checkIndex", desc := "(IILjava/util/function/BiFunction;)I" } : Jvm.MethodName) jdk_41_method_11_code (3 : Nat) (Option.some Jvm.ClassFile.FieldType.int)).before args0 about1 = true := code_word (m := ⟨16, 1⟩) (meth := k16m1) (c := k16c1) (by decide +kernel) rfl rfl rfl (by decide +kernel)
set_option maxRecDepth 65536 in
theorem w_c39 : (Jvm.Cond.code ({ cls := "java/lang/String", name := "<init>", desc := "([C)V" } : Jvm.MethodName) jdk_42_method_3_code (2 : Nat) (Option.none : Option Jvm.ClassFile.FieldType)).before args0 about1 = true := code_word (m := ⟨7, 1⟩) (meth := k7m1) (c := k7c1) (by decide +kernel) rfl rfl rfl (by decide +kernel)
set_option maxRecDepth 65536 in
theorem w_c40 : (Jvm.Cond.code ({ cls := "java/lang/String", name := "<init>", desc := "([CIILjava/lang/Void;)V" } : Jvm.MethodName) jdk_42_method_149_code (6 : Nat) (Option.none : Option Jvm.ClassFile.FieldType)).before args0 about1 = true := code_word (m := ⟨7, 8⟩) (meth := k7m8) (c := k7c8) (by decide +kernel) rfl rfl rfl (by decide +kernel)
set_option maxRecDepth 65536 in
theorem w_c41 : (Jvm.Cond.code ({ cls := "java/lang/StringUTF16", name := "compress", desc := "([CII)[B" } : Jvm.MethodName) jdk_52_method_16_code (6 : Nat) (Option.some (Jvm.ClassFile.FieldType.array Jvm.ClassFile.FieldType.byte))).before args0 about1 = true := code_word (m := ⟨17, 2⟩) (meth := k17m2) (c := k17c2) (by decide +kernel) rfl rfl rfl (by decide +kernel)
set_option maxRecDepth 65536 in
theorem w_c42 : (Jvm.Cond.code ({ cls := "java/lang/StringUTF16", name := "compress", desc := "([CI[BII)I" } : Jvm.MethodName) jdk_52_method_21_code (7 : Nat) (Option.some Jvm.ClassFile.FieldType.int)).before args0 about1 = true := code_word (m := ⟨17, 3⟩) (meth := k17m3) (c := k17c3) (by decide +kernel) rfl rfl rfl (by decide +kernel)
set_option maxRecDepth 65536 in
theorem w_c43 : (Jvm.Cond.code ({ cls := "java/lang/StringUTF16", name := "coderFromArrayLen", desc := "([BI)B" } : Jvm.MethodName) jdk_52_method_15_code (2 : Nat) (Option.some Jvm.ClassFile.FieldType.byte)).before args0 about1 = true := code_word (m := ⟨17, 1⟩) (meth := k17m1) (c := k17c1) (by decide +kernel) rfl rfl rfl (by decide +kernel)
set_option maxRecDepth 65536 in
theorem w_c44 : (Jvm.Cond.code ({ cls := "java/lang/StringBuilder", name := "append", desc := "(C)Ljava/lang/StringBuilder;" } : Jvm.MethodName) jdk_67_method_14_code (2 : Nat) (Option.some (Jvm.ClassFile.FieldType.object "java/lang/StringBuilder"))).before args0 about1 = true := code_word (m := ⟨12, 3⟩) (meth := k12m3) (c := k12c3) (by decide +kernel) rfl rfl rfl (by decide +kernel)
set_option maxRecDepth 65536 in
theorem w_c45 : (Jvm.Cond.code ({ cls := "java/lang/AbstractStringBuilder", name := "append", desc := "(C)Ljava/lang/AbstractStringBuilder;" } : Jvm.MethodName) jdk_68_method_31_code (2 : Nat) (Option.some (Jvm.ClassFile.FieldType.object "java/lang/AbstractStringBuilder"))).before args0 about1 = true := code_word (m := ⟨11, 5⟩) (meth := k11m5) (c := k11c5) (by decide +kernel) rfl rfl rfl (by decide +kernel)
def codes1 : List Jvm.Cond := [Jvm.Cond.code x code maxLocals ret, Jvm.Cond.code ({ cls := "java/lang/String", name := "valueOf", desc := "(C)Ljava/lang/String;" } : Jvm.MethodName) jdk_42_method_139_code (1 : Nat) (Option.some (Jvm.ClassFile.FieldType.object "java/lang/String")), Jvm.Cond.code ({ cls := "java/lang/StringLatin1", name := "canEncode", desc := "(C)Z" } : Jvm.MethodName) jdk_43_method_3_code (1 : Nat) (Option.some Jvm.ClassFile.FieldType.boolean), Jvm.Cond.code ({ cls := "java/lang/StringLatin1", name := "toBytes", desc := "(C)[B" } : Jvm.MethodName) jdk_43_method_46_code (1 : Nat) (Option.some (Jvm.ClassFile.FieldType.array Jvm.ClassFile.FieldType.byte)), Jvm.Cond.code ({ cls := "java/lang/String", name := "<init>", desc := "([BB)V" } : Jvm.MethodName) jdk_42_method_151_code (3 : Nat) (Option.none : Option Jvm.ClassFile.FieldType), Jvm.Cond.code ({ cls := "java/lang/Object", name := "<init>", desc := "()V" } : Jvm.MethodName) object_method_1_code (1 : Nat) (Option.none : Option Jvm.ClassFile.FieldType), Jvm.Cond.code ({ cls := "com/example/rules_for_records/rulesforrecords/messageinterpolation/CandidateBundleNamePinLaw", name := "part", desc := "(ZC)Ljava/lang/String;" } : Jvm.MethodName) method_2_code (2 : Nat) (Option.some (Jvm.ClassFile.FieldType.object "java/lang/String")), Jvm.Cond.code ({ cls := "com/example/rules_for_records/rulesforrecords/messageinterpolation/BundleLookup$Candidate", name := "<init>", desc := "(Ljava/lang/String;Ljava/lang/String;Ljava/lang/String;Ljava/lang/String;)V" } : Jvm.MethodName) prog_9_method_1_code (5 : Nat) (Option.none : Option Jvm.ClassFile.FieldType), Jvm.Cond.code ({ cls := "com/example/rules_for_records/rulesforrecords/messageinterpolation/BundleLookup$Candidate", name := "bundleName", desc := "(Ljava/lang/String;)Ljava/lang/String;" } : Jvm.MethodName) prog_9_method_2_code (3 : Nat) (Option.some (Jvm.ClassFile.FieldType.object "java/lang/String")), Jvm.Cond.code ({ cls := "java/lang/StringBuilder", name := "<init>", desc := "(Ljava/lang/String;)V" } : Jvm.MethodName) jdk_67_method_3_code (2 : Nat) (Option.none : Option Jvm.ClassFile.FieldType), Jvm.Cond.code ({ cls := "java/lang/AbstractStringBuilder", name := "<init>", desc := "(Ljava/lang/String;)V" } : Jvm.MethodName) jdk_68_method_3_code (5 : Nat) (Option.none : Option Jvm.ClassFile.FieldType), Jvm.Cond.code ({ cls := "java/lang/String", name := "length", desc := "()I" } : Jvm.MethodName) jdk_42_method_54_code (1 : Nat) (Option.some Jvm.ClassFile.FieldType.int), Jvm.Cond.code ({ cls := "java/lang/String", name := "coder", desc := "()B" } : Jvm.MethodName) jdk_42_method_152_code (1 : Nat) (Option.some Jvm.ClassFile.FieldType.byte), Jvm.Cond.code ({ cls := "java/lang/StringBuilder", name := "append", desc := "(Ljava/lang/String;)Ljava/lang/AbstractStringBuilder;" } : Jvm.MethodName) jdk_67_method_80_code (2 : Nat) (Option.some (Jvm.ClassFile.FieldType.object "java/lang/AbstractStringBuilder")), Jvm.Cond.code ({ cls := "java/lang/StringBuilder", name := "append", desc := "(Ljava/lang/String;)Ljava/lang/StringBuilder;" } : Jvm.MethodName) jdk_67_method_7_code (2 : Nat) (Option.some (Jvm.ClassFile.FieldType.object "java/lang/StringBuilder")), Jvm.Cond.code ({ cls := "java/lang/AbstractStringBuilder", name := "append", desc := "(Ljava/lang/String;)Ljava/lang/AbstractStringBuilder;" } : Jvm.MethodName) jdk_68_method_22_code (3 : Nat) (Option.some (Jvm.ClassFile.FieldType.object "java/lang/AbstractStringBuilder")), Jvm.Cond.code ({ cls := "java/lang/AbstractStringBuilder", name := "ensureCapacityInternal", desc := "(I)V" } : Jvm.MethodName) jdk_68_method_9_code (3 : Nat) (Option.none : Option Jvm.ClassFile.FieldType), Jvm.Cond.code ({ cls := "java/lang/AbstractStringBuilder", name := "putStringAt", desc := "(ILjava/lang/String;)V" } : Jvm.MethodName) jdk_68_method_73_code (3 : Nat) (Option.none : Option Jvm.ClassFile.FieldType), Jvm.Cond.code ({ cls := "java/lang/AbstractStringBuilder", name := "inflateIfNeededFor", desc := "(Ljava/lang/String;)V" } : Jvm.MethodName) jdk_68_method_71_code (2 : Nat) (Option.none : Option Jvm.ClassFile.FieldType), Jvm.Cond.code ({ cls := "java/lang/String", name := "getBytes", desc := "([BIB)V" } : Jvm.MethodName) jdk_42_method_147_code (4 : Nat) (Option.none : Option Jvm.ClassFile.FieldType), Jvm.Cond.code ({ cls := "java/lang/String", name := "isEmpty", desc := "()Z" } : Jvm.MethodName) jdk_42_method_55_code (1 : Nat) (Option.some Jvm.ClassFile.FieldType.boolean), Jvm.Cond.code ({ cls := "java/lang/StringBuilder", name := "toString", desc := "()Ljava/lang/String;" } : Jvm.MethodName) jdk_67_method_42_code (1 : Nat) (Option.some (Jvm.ClassFile.FieldType.object "java/lang/String")), Jvm.Cond.code ({ cls := "java/lang/String", name := "<init>", desc := "(Ljava/lang/StringBuilder;)V" } : Jvm.MethodName) jdk_42_method_53_code (2 : Nat) (Option.none : Option Jvm.ClassFile.FieldType), Jvm.Cond.code ({ cls := "java/lang/String", name := "<init>", desc := "(Ljava/lang/AbstractStringBuilder;Ljava/lang/Void;)V" } : Jvm.MethodName) jdk_42_method_150_code (5 : Nat) (Option.none : Option Jvm.ClassFile.FieldType), Jvm.Cond.code ({ cls := "java/lang/AbstractStringBuilder", name := "getValue", desc := "()[B" } : Jvm.MethodName) jdk_68_method_64_code (1 : Nat) (Option.some (Jvm.ClassFile.FieldType.array Jvm.ClassFile.FieldType.byte)), Jvm.Cond.code ({ cls := "java/lang/StringBuilder", name := "length", desc := "()I" } : Jvm.MethodName) jdk_67_method_93_code (1 : Nat) (Option.some Jvm.ClassFile.FieldType.int), Jvm.Cond.code ({ cls := "java/lang/AbstractStringBuilder", name := "length", desc := "()I" } : Jvm.MethodName) jdk_68_method_6_code (1 : Nat) (Option.some Jvm.ClassFile.FieldType.int), Jvm.Cond.code ({ cls := "java/lang/AbstractStringBuilder", name := "isLatin1", desc := "()Z" } : Jvm.MethodName) jdk_68_method_68_code (1 : Nat) (Option.some Jvm.ClassFile.FieldType.boolean), Jvm.Cond.code ({ cls := "java/util/Arrays", name := "copyOfRange", desc := "([BII)[B" } : Jvm.MethodName) jdk_65_method_132_code (3 : Nat) (Option.some (Jvm.ClassFile.FieldType.array Jvm.ClassFile.FieldType.byte)), Jvm.Cond.code ({ cls := "java/util/Arrays", name := "copyOfRangeByte", desc := "([BII)[B" } : Jvm.MethodName) jdk_65_method_133_code (5 : Nat) (Option.some (Jvm.ClassFile.FieldType.array Jvm.ClassFile.FieldType.byte)), Jvm.Cond.code ({ cls := "java/util/Arrays", name := "checkLength", desc := "(II)V" } : Jvm.MethodName) jdk_65_method_131_code (2 : Nat) (Option.none : Option Jvm.ClassFile.FieldType), Jvm.Cond.code ({ cls := "java/lang/Math", name := "min", desc := "(II)I" } : Jvm.MethodName) jdk_29_method_69_code (2 : Nat) (Option.some Jvm.ClassFile.FieldType.int), Jvm.Cond.code ({ cls := "com/example/rules_for_records/rulesforrecords/messageinterpolation/CandidateBundleNamePinLaw", name := "emit", desc := "([CIZZC)I" } : Jvm.MethodName) method_3_code (5 : Nat) (Option.some Jvm.ClassFile.FieldType.int), Jvm.Cond.code ({ cls := "com/example/rules_for_records/rulesforrecords/messageinterpolation/CandidateBundleNamePinLaw", name := "eq", desc := "(Ljava/lang/String;[CII)Z" } : Jvm.MethodName) method_4_code (4 : Nat) (Option.some Jvm.ClassFile.FieldType.boolean), Jvm.Cond.code ({ cls := "java/lang/String", name := "charAt", desc := "(I)C" } : Jvm.MethodName) jdk_42_method_56_code (2 : Nat) (Option.some Jvm.ClassFile.FieldType.char), Jvm.Cond.code ({ cls := "java/lang/String", name := "isLatin1", desc := "()Z" } : Jvm.MethodName) jdk_42_method_154_code (1 : Nat) (Option.some Jvm.ClassFile.FieldType.boolean), Jvm.Cond.code ({ cls := "java/lang/StringLatin1", name := "charAt", desc := "([BI)C" } : Jvm.MethodName) jdk_43_method_2_code (2 : Nat) (Option.some Jvm.ClassFile.FieldType.char), Jvm.Cond.code ({ cls := "java/lang/String", name := "checkIndex", desc := "(II)V" } : Jvm.MethodName) jdk_42_method_155_code (2 : Nat) (Option.none : Option Jvm.ClassFile.FieldType), Jvm.Cond.code ({ cls := "jdk/internal/util/Preconditions", name := "checkIndex", desc := "(IILjava/util/function/BiFunction;)I" } : Jvm.MethodName) jdk_41_method_11_code (3 : Nat) (Option.some Jvm.ClassFile.FieldType.int), Jvm.Cond.code ({ cls := "java/lang/String", name := "<init>", desc := "([C)V" } : Jvm.MethodName) jdk_42_method_3_code (2 : Nat) (Option.none : Option Jvm.ClassFile.FieldType), Jvm.Cond.code ({ cls := "java/lang/String", name := "<init>", desc := "([CIILjava/lang/Void;)V" } : Jvm.MethodName) jdk_42_method_149_code (6 : Nat) (Option.none : Option Jvm.ClassFile.FieldType), Jvm.Cond.code ({ cls := "java/lang/StringUTF16", name := "compress", desc := "([CII)[B" } : Jvm.MethodName) jdk_52_method_16_code (6 : Nat) (Option.some (Jvm.ClassFile.FieldType.array Jvm.ClassFile.FieldType.byte)), Jvm.Cond.code ({ cls := "java/lang/StringUTF16", name := "compress", desc := "([CI[BII)I" } : Jvm.MethodName) jdk_52_method_21_code (7 : Nat) (Option.some Jvm.ClassFile.FieldType.int), Jvm.Cond.code ({ cls := "java/lang/StringUTF16", name := "coderFromArrayLen", desc := "([BI)B" } : Jvm.MethodName) jdk_52_method_15_code (2 : Nat) (Option.some Jvm.ClassFile.FieldType.byte), Jvm.Cond.code ({ cls := "java/lang/StringBuilder", name := "append", desc := "(C)Ljava/lang/StringBuilder;" } : Jvm.MethodName) jdk_67_method_14_code (2 : Nat) (Option.some (Jvm.ClassFile.FieldType.object "java/lang/StringBuilder")), Jvm.Cond.code ({ cls := "java/lang/AbstractStringBuilder", name := "append", desc := "(C)Ljava/lang/AbstractStringBuilder;" } : Jvm.MethodName) jdk_68_method_31_code (2 : Nat) (Option.some (Jvm.ClassFile.FieldType.object "java/lang/AbstractStringBuilder"))]
set_option maxRecDepth 65536 in
theorem codes_eq : words1.filter isCode = codes1 := rfl
theorem w_codes : ∀ c ∈ words1.filter isCode, c.before args0 about1 = true := by
  rw [codes_eq]
  intro c hc
  simp only [codes1, List.mem_cons, List.not_mem_nil, or_false] at hc
  rcases hc with rfl | rfl | rfl | rfl | rfl | rfl | rfl | rfl | rfl | rfl | rfl | rfl | rfl | rfl | rfl | rfl | rfl | rfl | rfl | rfl | rfl | rfl | rfl | rfl | rfl | rfl | rfl | rfl | rfl | rfl | rfl | rfl | rfl | rfl | rfl | rfl | rfl | rfl | rfl | rfl | rfl | rfl | rfl | rfl | rfl | rfl
  · exact w_c0
  · exact w_c1
  · exact w_c2
  · exact w_c3
  · exact w_c4
  · exact w_c5
  · exact w_c6
  · exact w_c7
  · exact w_c8
  · exact w_c9
  · exact w_c10
  · exact w_c11
  · exact w_c12
  · exact w_c13
  · exact w_c14
  · exact w_c15
  · exact w_c16
  · exact w_c17
  · exact w_c18
  · exact w_c19
  · exact w_c20
  · exact w_c21
  · exact w_c22
  · exact w_c23
  · exact w_c24
  · exact w_c25
  · exact w_c26
  · exact w_c27
  · exact w_c28
  · exact w_c29
  · exact w_c30
  · exact w_c31
  · exact w_c32
  · exact w_c33
  · exact w_c34
  · exact w_c35
  · exact w_c36
  · exact w_c37
  · exact w_c38
  · exact w_c39
  · exact w_c40
  · exact w_c41
  · exact w_c42
  · exact w_c43
  · exact w_c44
  · exact w_c45
set_option maxRecDepth 65536 in
theorem w_t1 : (words1.take 24).all (fun c => isCode c || c.before args0 about1) = true := by decide +kernel
set_option maxRecDepth 65536 in
theorem w_t2 : ((words1.drop 24).take 24).all (fun c => isCode c || c.before args0 about1) = true := by decide +kernel
set_option maxRecDepth 65536 in
theorem w_t3 : (((words1.drop 24).drop 24).take 24).all (fun c => isCode c || c.before args0 about1) = true := by decide +kernel
set_option maxRecDepth 65536 in
theorem w_t4 : ((((words1.drop 24).drop 24).drop 24).take 24).all (fun c => isCode c || c.before args0 about1) = true := by decide +kernel
set_option maxRecDepth 65536 in
theorem w_t5 : (((((words1.drop 24).drop 24).drop 24).drop 24).take 24).all (fun c => isCode c || c.before args0 about1) = true := by decide +kernel
set_option maxRecDepth 65536 in
theorem w_t6 : ((((((words1.drop 24).drop 24).drop 24).drop 24).drop 24).take 24).all (fun c => isCode c || c.before args0 about1) = true := by decide +kernel
set_option maxRecDepth 65536 in
theorem w_t7 : (((((((words1.drop 24).drop 24).drop 24).drop 24).drop 24).drop 24).take 24).all (fun c => isCode c || c.before args0 about1) = true := by decide +kernel
set_option maxRecDepth 65536 in
theorem w_t8 : ((((((((words1.drop 24).drop 24).drop 24).drop 24).drop 24).drop 24).drop 24).take 24).all (fun c => isCode c || c.before args0 about1) = true := by decide +kernel
set_option maxRecDepth 65536 in
theorem w_t9 : (((((((((words1.drop 24).drop 24).drop 24).drop 24).drop 24).drop 24).drop 24).drop 24).take 24).all (fun c => isCode c || c.before args0 about1) = true := by decide +kernel
set_option maxRecDepth 65536 in
theorem w_t10 : (((((((((words1.drop 24).drop 24).drop 24).drop 24).drop 24).drop 24).drop 24).drop 24).drop 24).all (fun c => isCode c || c.before args0 about1) = true := by decide +kernel
theorem w_tables : (allAtoms (Jvm.Cond.code x code maxLocals ret :: tables_1)).before args0 about1 = true := by
  rw [allAtoms_all]
  show words1.all (fun c => c.before args0 about1) = true
  refine all_split ?_ w_codes
  rw [← List.take_append_drop 24 words1, List.all_append, w_t1, ← List.take_append_drop 24 (words1.drop 24), List.all_append, w_t2, ← List.take_append_drop 24 ((words1.drop 24).drop 24), List.all_append, w_t3, ← List.take_append_drop 24 (((words1.drop 24).drop 24).drop 24), List.all_append, w_t4, ← List.take_append_drop 24 ((((words1.drop 24).drop 24).drop 24).drop 24), List.all_append, w_t5, ← List.take_append_drop 24 (((((words1.drop 24).drop 24).drop 24).drop 24).drop 24), List.all_append, w_t6, ← List.take_append_drop 24 ((((((words1.drop 24).drop 24).drop 24).drop 24).drop 24).drop 24), List.all_append, w_t7, ← List.take_append_drop 24 (((((((words1.drop 24).drop 24).drop 24).drop 24).drop 24).drop 24).drop 24), List.all_append, w_t8, ← List.take_append_drop 24 ((((((((words1.drop 24).drop 24).drop 24).drop 24).drop 24).drop 24).drop 24).drop 24), List.all_append, w_t9, w_t10]
  rfl
set_option maxRecDepth 65536 in
theorem w_rest : rest_1_c.before args0 about1 = true := by decide +kernel
set_option maxRecDepth 65536 in
theorem w_case : (Jvm.Cond.and given_1 narrow_1).before args0 about1 = true := by decide +kernel
set_option maxRecDepth 65536 in
theorem w_consts : constsHeld consts_1 about1 := Jvm.Lit.constsHeldB_iff.mp (by decide +kernel)
theorem w_applies : (headSpec (Jvm.Cond.code x code maxLocals ret :: tables_1) room_1).applies x e0.platform about1 = true :=
  (Spec.applies_iff w_frames).mpr ⟨w_running, w_runnable, w_alone, w_named, w_hears, w_ripe, w_room, w_tables⟩
theorem atStart : AtStart classFile x code maxLocals ret World_1 tables_1 room_1 Calls_1 rest_1 Pre_1 launch0 p0 e0 about1 theMethod args0 below0 :=
  ⟨lists_1, trivial, launch0.admits_env _ _ _, launch0.least_env, fairChoices_fair.cas, fairChoices_fair.clock, w_frames, w_args, w_heap, w_applies, ⟨w_consts, trivial⟩, w_rest, w_case⟩
end start1
theorem witness_1 : WitnessClaimed_1 := ⟨start1.p0, start1.e0, start1.about1, start1.theMethod, start1.args0, start1.below0, start1.atStart⟩
end Jvm.Pilot.@@N@@
