import JvmDerived
import JvmDerived.Pilot.@@N@@Statement
import JvmDerived.Pilot.@@N@@Code
set_option linter.unusedVariables false
set_option linter.unusedSimpArgs false
namespace Jvm.Pilot.@@N@@
open Jvm Jvm.ClassFile Sem Op Lib Jvm.Free Jvm.Stand Jvm.LawKit Jvm.RoadKit Bundle Jvm.Pilot.@@N@@.Jvm.D
section Own
variable {p : Program} {l : Launch} {e : Env} {R : Room} {s : State} {m : MethodId} {args : Array Value} {below : List Frame} {meth : Method} {c : Code} {Z : State} {a0 : Array Value} {own : String} {cd : ByteArray} {mx : Nat} {ret : Option FieldType} {Q : Option Value → Prop}
/-- what a walk knows of its own method -/
def Ctx (p : Program) (s : State) (m : MethodId) (meth : Method) (c : Code) (Z : State) (own : String) (cd : ByteArray) (mx : Nat) (ret : Option FieldType) : Prop :=
  p.tables.exec = Jvm.exec ∧ Z.Warmed39 s.vm ∧ s.vm.findClass own = some m.cls ∧ meth.sig.returnType = ret ∧ meth.locks = false ∧ c.code = cd ∧ c.maxLocals = mx
/-- from this frame the run returns, and Q holds of what it returns -/
def Go (p : Program) (l : Launch) (e : Env) (R : Room) (s : State) (m : MethodId) (args : Array Value) (below : List Frame) (meth : Method) (c : Code) (Z : State) (Q : Option Value → Prop) (pc : Nat) (Ls : Array Slot) (st : List Value) : Prop :=
  ∀ T, Stand p l e R s m args below meth c T [] 0 0 → T.heap = Z.heap → ∃ t v, Steps p.tables e below (T.setTop (mkF m pc Ls st)) t ∧ t.status = .running ∧ Ended t below (.returned v) ∧ FrameEnd s (.returned v) t [] 0 0 ∧ t.heap = Z.heap ∧ Q v
theorem Go.pure {pc pc' : Nat} {Ls Ls' : Array Slot} {st st' : List Value} (hs : ∀ T t, At T m c below → Steps p.tables e below (T.setTop (mkF m pc' Ls' st')) t → Steps p.tables e below (T.setTop (mkF m pc Ls st)) t) (K : Go p l e R s m args below meth c Z Q pc' Ls' st') : Go p l e R s m args below meth c Z Q pc Ls st := fun T X eh => by
  obtain ⟨t, v, h1, r⟩ := K T X eh
  exact ⟨t, v, hs T t X.here h1, r⟩
/-- a contract: called with these arguments it returns, changes nothing, and Q holds of what it returns -/
def Met (l : Launch) (Z : State) (y : MethodName) (cd : ByteArray) (mx : Nat) (ret : Option FieldType) (ws : List Jvm.Cond) (rm : Room) (as : Array Value) (Q : Option Value → Prop) : Prop :=
  MetFree l y (head1 (Jvm.Cond.code y cd mx ret :: ws) rm) (fun a U => a = as ∧ Z.Warmed39 U.vm ∧ U.heap = Z.heap) (fun _ _ _ _ _ => True) (fun _ U o U' => ∃ v L, o = .returned v ∧ (L = [] ∧ U'.heap = Z.heap ∧ Q v) ∧ FrameEnd U o U' L rm.cells rm.slots)
theorem Met.intro {y : MethodName} {ws : List Jvm.Cond} {rm : Room} {as : Array Value} {Ls : Array Slot} (hpl : plainName y.cls = true) (hent : ∀ m, entryFrame m as mx = mkF m 0 Ls []) (hc : rm.cells = 0) (hn : rm.slots = 0)
    (K : ∀ p e s m below meth c, Ctx p s m meth c Z y.cls cd mx ret → Go p l e rm s m as below meth c Z Q 0 Ls []) : Met l Z y cd mx ret ws rm as Q := by
  refine MetFree.of_bodySF (plainFor_of_name hpl) hisR ?_
  intro p e s m args below meth c s₁ Bd hml0 hP hK
  obtain ⟨rfl, hZ, hh⟩ := hP
  have X0 : Stand p l e rm s m args below meth c s₁ [] 0 0 := Stand.of_body Bd
  have e0 : s₁.heap = Z.heap := by rw [← hh, Bd.state]; rfl
  obtain ⟨t, v, h1, h2, h3, h4, h5, h6⟩ := K p e s m below meth c ⟨Bd.exec, hZ, findClass_of_methodNamed Bd.named, Bd.returns, Bd.notSynchronized, Bd.bytes, hml0⟩ s₁ X0 e0
  exact ⟨t, _, castTop (hent m) h1, h2, h3, v, [], rfl, ⟨rfl, h5, h6⟩, by rw [hc, hn]; exact h4⟩
theorem Ctx.call (C : Ctx p s m meth c Z own cd mx ret) {pc : Nat} {Ls : Array Slot} {st : List Value} (pc' : Nat) {i : Nat} {y : MethodName} {cd' : ByteArray} {mx' : Nat} {ret' : Option FieldType} {rm : Room} {Q' : Option Value → Prop} (argsL rest : List Value)
    (hd : decode cd pc = .ok (.invokestatic i, 3)) (hM : Met l Z y cd' mx' ret' [] rm argsL.toArray Q') (w1 : (Cond.methodLink own i y).before a0 Z = true) (w2 : (Cond.static y).before a0 Z = true) (w3 : (Cond.initialized y.cls).before a0 Z = true) (w4 : (Cond.code y cd' mx' ret').before a0 Z = true)
    (hy : y.cls ≠ "java/lang/invoke/MethodHandle" ∧ y.cls ≠ "java/lang/invoke/VarHandle") (hsz : Ls.size = mx) (hlen : ∀ sig, parseMethodDescriptor y.desc = some sig → argsL.length = sig.parameters.length) (hf : rm.frames + 1 ≤ R.frames) {W : Nat} (hW : 2 * 0 + (rest.map fun v => v.category).sum ≤ W) (hl : W + (mx' + 11) + rm.locals ≤ R.locals) (hrc : rm.cells = 0) (hrs : rm.slots = 0) (hst : st = argsL.reverse ++ rest)
    (K : ∀ v, Q' v → Go p l e R s m args below meth c Z Q pc' Ls (v.toList ++ rest)) (hp : pc + 3 = pc' := by rfl) : Go p l e R s m args below meth c Z Q pc Ls st := by
  subst hp hst
  obtain ⟨hx, hZ, hown, hret, hlk, hby, hmx⟩ := C
  intro T X eh
  obtain ⟨v, vm₁, ⟨T2, L2, k2, n2⟩, -, X2, ⟨Lc, hQ, l2, y2, z2⟩, st2⟩ := Jvm.LawKit.callS X hx hown (mvT hZ w1) (mvT hZ w2) (mvT hZ w3) (mvT hZ w4) hy (backOf (W := W) (h := Z.heap) (as' := argsL.toArray) (Q := fun v hh L => L = [] ∧ hh = Z.heap ∧ Q' v) hM hZ w4 w3 hf hl) (g := mkF m pc Ls (argsL.reverse ++ rest)) rfl (hsz.trans hmx.symm) hlen rfl hW (hb hby hd) (fun _ _ => ⟨rfl, eh, by rw [hrc]; exact Nat.zero_le _, by rw [hrs]; exact Nat.zero_le _⟩)
  dsimp only [Pt.U, Pt.locs, Pt.cells, Pt.slots] at X2 l2 y2 z2 st2 hQ
  obtain ⟨rfl, h2, hq⟩ := hQ
  rw [hrc] at y2
  rw [hrs] at z2
  subst l2 y2 z2
  obtain ⟨t, v', h1, r⟩ := K v hq T2 X2 h2
  exact ⟨t, v', st2 _ h1, r⟩
theorem Ctx.ldcI (C : Ctx p s m meth c Z own cd mx ret) {pc : Nat} {Ls : Array Slot} {st : List Value} (pc' : Nat) {i : Nat} {v : Int32} (hd : decode cd pc = .ok (.ldc i, 2)) (w : (Cond.constant own i v).before a0 Z = true) (K : Go p l e R s m args below meth c Z Q pc' Ls (.int v :: st)) (hp : pc + 2 = pc' := by rfl) : Go p l e R s m args below meth c Z Q pc Ls st := by
  subst hp
  intro T X eh
  obtain ⟨t, v', h1, r⟩ := K T X eh
  exact ⟨t, v', Jvm.Stand.ldcI X C.1 C.2.2.1 (mvT C.2.1 w) rfl (hb C.2.2.2.2.2.1 hd) h1, r⟩
theorem Ctx.ldc2 (C : Ctx p s m meth c Z own cd mx ret) {pc : Nat} {Ls : Array Slot} {st : List Value} (pc' : Nat) {i : Nat} {v : Int64} (hd : decode cd pc = .ok (.ldc2_w i, 3)) (w : (Cond.constantLong own i v).before a0 Z = true) (K : Go p l e R s m args below meth c Z Q pc' Ls (.long v :: st)) (hp : pc + 3 = pc' := by rfl) : Go p l e R s m args below meth c Z Q pc Ls st := by
  subst hp
  intro T X eh
  obtain ⟨t, v', h1, r⟩ := K T X eh
  exact ⟨t, v', Jvm.Stand.ldc2J X C.1 C.2.2.1 (mvT C.2.1 w) rfl (hb C.2.2.2.2.2.1 hd) h1, r⟩
theorem Ctx.gets (C : Ctx p s m meth c Z own cd mx ret) {pc : Nat} {Ls : Array Slot} {st : List Value} (pc' : Nat) {i : Nat} {O n d : String} {v : Value} (hd : decode cd pc = .ok (.getstatic i, 3)) (w : (Cond.fieldLink own i O n d).before a0 Z = true) (S : Sta Z Z.heap O n d v) (K : Go p l e R s m args below meth c Z Q pc' Ls (v :: st)) (hp : pc + 3 = pc' := by rfl) : Go p l e R s m args below meth c Z Q pc Ls st := by
  subst hp
  intro T X eh
  obtain ⟨T2, X2, e2, st2⟩ := getS (host := "") X C.1 C.2.1 C.2.2.1 w Via.refl eh S (g := mkF m pc Ls st) rfl (hb C.2.2.2.2.2.1 hd)
  obtain ⟨t, v', h1, r⟩ := K T2 X2 e2
  exact ⟨t, v', st2 _ h1, r⟩
theorem Ctx.alen (C : Ctx p s m meth c Z own cd mx ret) {pc : Nat} {Ls : Array Slot} {st : List Value} (pc' : Nat) {a : Addr} {cl : Cell} {ty : FieldType} {z : Int32} (hd : decode cd pc = .ok (.arraylength, 1)) (A : Arr Z Z.heap a cl ty) (hz : cl.slots.size.toInt32 = z) (K : Go p l e R s m args below meth c Z Q pc' Ls (.int z :: st)) (hp : pc + 1 = pc' := by rfl) : Go p l e R s m args below meth c Z Q pc Ls (.ref a :: st) := by
  subst hp hz
  intro T X eh
  obtain ⟨t, v', h1, r⟩ := K T X eh
  exact ⟨t, v', X.arraylength C.1 (by rw [eh]; exact A.1) (State.isArrayOf_alike C.2.1.alike A.2.1) (g := mkF m pc Ls (.ref a :: st)) rfl rfl (hb C.2.2.2.2.2.1 hd) _ h1, r⟩
theorem Ctx.zaload (C : Ctx p s m meth c Z own cd mx ret) {pc : Nat} {Ls : Array Slot} {st : List Value} (pc' : Nat) {a : Addr} {cl : Cell} {j : Int32} {v : Value} (hd : decode cd pc = .ok (.baload, 1)) (A : Arr Z Z.heap a cl .boolean) (hj : ¬ (j < 0 ∨ cl.slots.size ≤ j.toNatClampNeg)) (hv : cl.slots[j.toNatClampNeg]? = some v) (K : Go p l e R s m args below meth c Z Q pc' Ls (v :: st)) (hp : pc + 1 = pc' := by rfl) : Go p l e R s m args below meth c Z Q pc Ls (.int j :: .ref a :: st) := by
  subst hp
  intro T X eh
  obtain ⟨t, v', h1, r⟩ := K T X eh
  exact ⟨t, v', X.baloadBooleans C.1 (by rw [eh]; exact A.1) (State.isArrayOf_alike C.2.1.alike A.2.1) A.2.2 hj hv (g := mkF m pc Ls (.int j :: .ref a :: st)) rfl rfl (hb C.2.2.2.2.2.1 hd) _ h1, r⟩
theorem Ctx.retN (C : Ctx p s m meth c Z own cd mx ret) {pc : Nat} {Ls : Array Slot} {st : List Value} {z : Int32} {t : FieldType} (hret : ret = some t) (ht : t = .boolean ∨ t = .byte ∨ t = .char ∨ t = .short) (hd : decode cd pc = .ok (.ireturn, 1)) (K : Q (some (.int (nar t z)))) : Go p l e R s m args below meth c Z Q pc Ls (.int z :: st) := by
  intro T X eh
  obtain ⟨fs, hr, hrun, hended, hW, hsame⟩ := X.leave (v := some (.int (nar t z))) (fun h => by rw [C.2.2.2.1, hret] at h; cases h) C.2.2.2.2.1
  exact ⟨_, _, RoadKit.retN X C.1 (C.2.2.2.1.trans hret) ht (hb C.2.2.2.2.2.1 hd) hr, hrun, hended, ⟨⟨_, rfl⟩, hW, hsame⟩, eh, K⟩
theorem Ctx.retI (C : Ctx p s m meth c Z own cd mx ret) {pc : Nat} {Ls : Array Slot} {st : List Value} {z : Int32} (hret : ret = some .int) (hd : decode cd pc = .ok (.ireturn, 1)) (K : Q (some (.int z))) : Go p l e R s m args below meth c Z Q pc Ls (.int z :: st) := by
  intro T X eh
  obtain ⟨fs, hr, hrun, hended, hW, hsame⟩ := X.leave (v := some (.int z)) (fun h => by rw [C.2.2.2.1, hret] at h; cases h) C.2.2.2.2.1
  exact ⟨_, _, retOut X C.1 (C.2.2.2.1.trans hret) rfl (Or.inl ⟨rfl, Or.inl rfl, _, rfl⟩) (hb C.2.2.2.2.2.1 hd) hr, hrun, hended, ⟨⟨_, rfl⟩, hW, hsame⟩, eh, K⟩
theorem Ctx.retL (C : Ctx p s m meth c Z own cd mx ret) {pc : Nat} {Ls : Array Slot} {st : List Value} {z : Int64} (hret : ret = some .long) (hd : decode cd pc = .ok (.lreturn, 1)) (K : Q (some (.long z))) : Go p l e R s m args below meth c Z Q pc Ls (.long z :: st) := by
  intro T X eh
  obtain ⟨fs, hr, hrun, hended, hW, hsame⟩ := X.leave (v := some (.long z)) (fun h => by rw [C.2.2.2.1, hret] at h; cases h) C.2.2.2.2.1
  exact ⟨_, _, retOut X C.1 (C.2.2.2.1.trans hret) rfl (Or.inr (Or.inl ⟨rfl, rfl, _, rfl⟩)) (hb C.2.2.2.2.2.1 hd) hr, hrun, hended, ⟨⟨_, rfl⟩, hW, hsame⟩, eh, K⟩
theorem Ctx.iloadN (C : Ctx p s m meth c Z own cd mx ret) {pc : Nat} {Ls : Array Slot} {st : List Value} (pc' : Nat) {j : Fin 4} {v : Int32} (hd : decode cd pc = .ok (.iload_n j, 1)) (hl : Ls[j.val]? = some (.val (.int v))) (K : Go p l e R s m args below meth c Z Q pc' Ls (.int v :: st)) (hp : pc + 1 = pc' := by rfl) : Go p l e R s m args below meth c Z Q pc Ls (st) := by
  subst hp
  exact Go.pure (fun T t h hr => XS.iloadN h C.1 rfl (hb C.2.2.2.2.2.1 hd) hl hr) K
theorem Ctx.iload (C : Ctx p s m meth c Z own cd mx ret) {pc : Nat} {Ls : Array Slot} {st : List Value} (pc' : Nat) {j : Nat} {v : Int32} (hd : decode cd pc = .ok (.iload j, 2)) (hl : Ls[j]? = some (.val (.int v))) (K : Go p l e R s m args below meth c Z Q pc' Ls (.int v :: st)) (hp : pc + 2 = pc' := by rfl) : Go p l e R s m args below meth c Z Q pc Ls (st) := by
  subst hp
  exact Go.pure (fun T t h hr => XS.iload h C.1 rfl (hb C.2.2.2.2.2.1 hd) hl hr) K
theorem Ctx.lloadN (C : Ctx p s m meth c Z own cd mx ret) {pc : Nat} {Ls : Array Slot} {st : List Value} (pc' : Nat) {j : Fin 4} {v : Int64} (hd : decode cd pc = .ok (.lload_n j, 1)) (hl : Ls[j.val]? = some (.val (.long v))) (K : Go p l e R s m args below meth c Z Q pc' Ls (.long v :: st)) (hp : pc + 1 = pc' := by rfl) : Go p l e R s m args below meth c Z Q pc Ls (st) := by
  subst hp
  exact Go.pure (fun T t h hr => XT.lloadN h C.1 rfl (hb C.2.2.2.2.2.1 hd) hl hr) K
theorem Ctx.lload (C : Ctx p s m meth c Z own cd mx ret) {pc : Nat} {Ls : Array Slot} {st : List Value} (pc' : Nat) {j : Nat} {v : Int64} (hd : decode cd pc = .ok (.lload j, 2)) (hl : Ls[j]? = some (.val (.long v))) (K : Go p l e R s m args below meth c Z Q pc' Ls (.long v :: st)) (hp : pc + 2 = pc' := by rfl) : Go p l e R s m args below meth c Z Q pc Ls (st) := by
  subst hp
  exact Go.pure (fun T t h hr => XT.lload h C.1 rfl (hb C.2.2.2.2.2.1 hd) hl hr) K
theorem Ctx.aloadN (C : Ctx p s m meth c Z own cd mx ret) {pc : Nat} {Ls : Array Slot} {st : List Value} (pc' : Nat) {j : Fin 4} {v : Value} (hd : decode cd pc = .ok (.aload_n j, 1)) (hl : Ls[j.val]? = some (.val v)) (hv : v.isRef = true) (K : Go p l e R s m args below meth c Z Q pc' Ls (v :: st)) (hp : pc + 1 = pc' := by rfl) : Go p l e R s m args below meth c Z Q pc Ls (st) := by
  subst hp
  exact Go.pure (fun T t h hr => XS.aloadN h C.1 rfl (hb C.2.2.2.2.2.1 hd) hl hv hr) K
theorem Ctx.aload (C : Ctx p s m meth c Z own cd mx ret) {pc : Nat} {Ls : Array Slot} {st : List Value} (pc' : Nat) {j : Nat} {v : Value} (hd : decode cd pc = .ok (.aload j, 2)) (hl : Ls[j]? = some (.val v)) (hv : v.isRef = true) (K : Go p l e R s m args below meth c Z Q pc' Ls (v :: st)) (hp : pc + 2 = pc' := by rfl) : Go p l e R s m args below meth c Z Q pc Ls (st) := by
  subst hp
  exact Go.pure (fun T t h hr => XS.aload h C.1 rfl (hb C.2.2.2.2.2.1 hd) hl hv hr) K
theorem Ctx.istoreN (C : Ctx p s m meth c Z own cd mx ret) {pc : Nat} {Ls : Array Slot} {st : List Value} (pc' : Nat) {j : Fin 4} {v : Int32} {L' : Array Slot} (hd : decode cd pc = .ok (.istore_n j, 1)) (hl : storeLocals Ls j.val (.int v) = some L') (K : Go p l e R s m args below meth c Z Q pc' L' (st)) (hp : pc + 1 = pc' := by rfl) : Go p l e R s m args below meth c Z Q pc Ls (.int v :: st) := by
  subst hp
  exact Go.pure (fun T t h hr => XS.istoreN h C.1 rfl (hb C.2.2.2.2.2.1 hd) rfl hl hr) K
theorem Ctx.istore (C : Ctx p s m meth c Z own cd mx ret) {pc : Nat} {Ls : Array Slot} {st : List Value} (pc' : Nat) {j : Nat} {v : Int32} {L' : Array Slot} (hd : decode cd pc = .ok (.istore j, 2)) (hl : storeLocals Ls j (.int v) = some L') (K : Go p l e R s m args below meth c Z Q pc' L' (st)) (hp : pc + 2 = pc' := by rfl) : Go p l e R s m args below meth c Z Q pc Ls (.int v :: st) := by
  subst hp
  exact Go.pure (fun T t h hr => XS.istore h C.1 rfl (hb C.2.2.2.2.2.1 hd) rfl hl hr) K
theorem Ctx.lstoreN (C : Ctx p s m meth c Z own cd mx ret) {pc : Nat} {Ls : Array Slot} {st : List Value} (pc' : Nat) {j : Fin 4} {v : Int64} {L' : Array Slot} (hd : decode cd pc = .ok (.lstore_n j, 1)) (hl : storeLocals Ls j.val (.long v) = some L') (K : Go p l e R s m args below meth c Z Q pc' L' (st)) (hp : pc + 1 = pc' := by rfl) : Go p l e R s m args below meth c Z Q pc Ls (.long v :: st) := by
  subst hp
  exact Go.pure (fun T t h hr => XT.lstoreN h C.1 rfl (hb C.2.2.2.2.2.1 hd) rfl hl hr) K
theorem Ctx.lstore (C : Ctx p s m meth c Z own cd mx ret) {pc : Nat} {Ls : Array Slot} {st : List Value} (pc' : Nat) {j : Nat} {v : Int64} {L' : Array Slot} (hd : decode cd pc = .ok (.lstore j, 2)) (hl : storeLocals Ls j (.long v) = some L') (K : Go p l e R s m args below meth c Z Q pc' L' (st)) (hp : pc + 2 = pc' := by rfl) : Go p l e R s m args below meth c Z Q pc Ls (.long v :: st) := by
  subst hp
  exact Go.pure (fun T t h hr => XT.lstore h C.1 rfl (hb C.2.2.2.2.2.1 hd) rfl hl hr) K
theorem Ctx.astoreN (C : Ctx p s m meth c Z own cd mx ret) {pc : Nat} {Ls : Array Slot} {st : List Value} (pc' : Nat) {j : Fin 4} {v : Value} {L' : Array Slot} (hd : decode cd pc = .ok (.astore_n j, 1)) (hl : storeLocals Ls j.val v = some L') (hv : v.isRef = true) (K : Go p l e R s m args below meth c Z Q pc' L' (st)) (hp : pc + 1 = pc' := by rfl) : Go p l e R s m args below meth c Z Q pc Ls (v :: st) := by
  subst hp
  exact Go.pure (fun T t h hr => XS.astoreN h C.1 rfl (hb C.2.2.2.2.2.1 hd) rfl hv hl hr) K
theorem Ctx.astore (C : Ctx p s m meth c Z own cd mx ret) {pc : Nat} {Ls : Array Slot} {st : List Value} (pc' : Nat) {j : Nat} {v : Value} {L' : Array Slot} (hd : decode cd pc = .ok (.astore j, 2)) (hl : storeLocals Ls j v = some L') (hv : v.isRef = true) (K : Go p l e R s m args below meth c Z Q pc' L' (st)) (hp : pc + 2 = pc' := by rfl) : Go p l e R s m args below meth c Z Q pc Ls (v :: st) := by
  subst hp
  exact Go.pure (fun T t h hr => XS.astore h C.1 rfl (hb C.2.2.2.2.2.1 hd) rfl hv hl hr) K
theorem Ctx.iconst (C : Ctx p s m meth c Z own cd mx ret) {pc : Nat} {Ls : Array Slot} {st : List Value} (pc' : Nat) {i : Int} (v : Int32) (hd : decode cd pc = .ok (.iconst i, 1)) (hv : Int32.ofInt i = v) (K : Go p l e R s m args below meth c Z Q pc' Ls (.int v :: st)) (hp : pc + 1 = pc' := by rfl) : Go p l e R s m args below meth c Z Q pc Ls (st) := by
  subst hp
  exact Go.pure (fun T t h hr => XT.iconstV h C.1 rfl v (hb C.2.2.2.2.2.1 hd) hv hr) K
theorem Ctx.bipush (C : Ctx p s m meth c Z own cd mx ret) {pc : Nat} {Ls : Array Slot} {st : List Value} (pc' : Nat) {i : Int} (v : Int32) (hd : decode cd pc = .ok (.bipush i, 2)) (hv : (Int8.ofInt i).toInt32 = v) (K : Go p l e R s m args below meth c Z Q pc' Ls (.int v :: st)) (hp : pc + 2 = pc' := by rfl) : Go p l e R s m args below meth c Z Q pc Ls (st) := by
  subst hp
  exact Go.pure (fun T t h hr => XT.bipushV h C.1 rfl v (hb C.2.2.2.2.2.1 hd) hv hr) K
theorem Ctx.sipush (C : Ctx p s m meth c Z own cd mx ret) {pc : Nat} {Ls : Array Slot} {st : List Value} (pc' : Nat) {i : Int} (v : Int32) (hd : decode cd pc = .ok (.sipush i, 3)) (hv : (Int16.ofInt i).toInt32 = v) (K : Go p l e R s m args below meth c Z Q pc' Ls (.int v :: st)) (hp : pc + 3 = pc' := by rfl) : Go p l e R s m args below meth c Z Q pc Ls (st) := by
  subst hp
  exact Go.pure (fun T t h hr => XT.sipushV h C.1 rfl v (hb C.2.2.2.2.2.1 hd) hv hr) K
theorem Ctx.lconst (C : Ctx p s m meth c Z own cd mx ret) {pc : Nat} {Ls : Array Slot} {st : List Value} (pc' : Nat) {i : Fin 2} (v : Int64) (hd : decode cd pc = .ok (.lconst i, 1)) (hv : Int64.ofNat i = v) (K : Go p l e R s m args below meth c Z Q pc' Ls (.long v :: st)) (hp : pc + 1 = pc' := by rfl) : Go p l e R s m args below meth c Z Q pc Ls (st) := by
  subst hp
  exact Go.pure (fun T t h hr => XT.lconstV h C.1 rfl v (hb C.2.2.2.2.2.1 hd) hv hr) K
theorem Ctx.aconstNull (C : Ctx p s m meth c Z own cd mx ret) {pc : Nat} {Ls : Array Slot} {st : List Value} (pc' : Nat)  (hd : decode cd pc = .ok (.aconst_null, 1))  (K : Go p l e R s m args below meth c Z Q pc' Ls (.null :: st)) (hp : pc + 1 = pc' := by rfl) : Go p l e R s m args below meth c Z Q pc Ls (st) := by
  subst hp
  exact Go.pure (fun T t h hr => XS.aconstNull h C.1 rfl (hb C.2.2.2.2.2.1 hd)  hr) K
theorem Ctx.iadd (C : Ctx p s m meth c Z own cd mx ret) {pc : Nat} {Ls : Array Slot} {st : List Value} (pc' : Nat) {x y : Int32} (hd : decode cd pc = .ok (.iadd, 1))  (K : Go p l e R s m args below meth c Z Q pc' Ls (.int (x + y) :: st)) (hp : pc + 1 = pc' := by rfl) : Go p l e R s m args below meth c Z Q pc Ls (.int y :: .int x :: st) := by
  subst hp
  exact Go.pure (fun T t h hr => XS.iadd h C.1 rfl (hb C.2.2.2.2.2.1 hd) rfl hr) K
theorem Ctx.isub (C : Ctx p s m meth c Z own cd mx ret) {pc : Nat} {Ls : Array Slot} {st : List Value} (pc' : Nat) {x y : Int32} (hd : decode cd pc = .ok (.isub, 1))  (K : Go p l e R s m args below meth c Z Q pc' Ls (.int (x - y) :: st)) (hp : pc + 1 = pc' := by rfl) : Go p l e R s m args below meth c Z Q pc Ls (.int y :: .int x :: st) := by
  subst hp
  exact Go.pure (fun T t h hr => XS.isub h C.1 rfl (hb C.2.2.2.2.2.1 hd) rfl hr) K
theorem Ctx.imul (C : Ctx p s m meth c Z own cd mx ret) {pc : Nat} {Ls : Array Slot} {st : List Value} (pc' : Nat) {x y : Int32} (hd : decode cd pc = .ok (.imul, 1))  (K : Go p l e R s m args below meth c Z Q pc' Ls (.int (x * y) :: st)) (hp : pc + 1 = pc' := by rfl) : Go p l e R s m args below meth c Z Q pc Ls (.int y :: .int x :: st) := by
  subst hp
  exact Go.pure (fun T t h hr => XS.imul h C.1 rfl (hb C.2.2.2.2.2.1 hd) rfl hr) K
theorem Ctx.iand (C : Ctx p s m meth c Z own cd mx ret) {pc : Nat} {Ls : Array Slot} {st : List Value} (pc' : Nat) {x y : Int32} (hd : decode cd pc = .ok (.iand, 1))  (K : Go p l e R s m args below meth c Z Q pc' Ls (.int (x &&& y) :: st)) (hp : pc + 1 = pc' := by rfl) : Go p l e R s m args below meth c Z Q pc Ls (.int y :: .int x :: st) := by
  subst hp
  exact Go.pure (fun T t h hr => XS.iand h C.1 rfl (hb C.2.2.2.2.2.1 hd) rfl hr) K
theorem Ctx.ior (C : Ctx p s m meth c Z own cd mx ret) {pc : Nat} {Ls : Array Slot} {st : List Value} (pc' : Nat) {x y : Int32} (hd : decode cd pc = .ok (.ior, 1))  (K : Go p l e R s m args below meth c Z Q pc' Ls (.int (x ||| y) :: st)) (hp : pc + 1 = pc' := by rfl) : Go p l e R s m args below meth c Z Q pc Ls (.int y :: .int x :: st) := by
  subst hp
  exact Go.pure (fun T t h hr => XT.ior h C.1 rfl (hb C.2.2.2.2.2.1 hd) rfl hr) K
theorem Ctx.ixor (C : Ctx p s m meth c Z own cd mx ret) {pc : Nat} {Ls : Array Slot} {st : List Value} (pc' : Nat) {x y : Int32} (hd : decode cd pc = .ok (.ixor, 1))  (K : Go p l e R s m args below meth c Z Q pc' Ls (.int (x ^^^ y) :: st)) (hp : pc + 1 = pc' := by rfl) : Go p l e R s m args below meth c Z Q pc Ls (.int y :: .int x :: st) := by
  subst hp
  exact Go.pure (fun T t h hr => XT.ixor h C.1 rfl (hb C.2.2.2.2.2.1 hd) rfl hr) K
theorem Ctx.ishl (C : Ctx p s m meth c Z own cd mx ret) {pc : Nat} {Ls : Array Slot} {st : List Value} (pc' : Nat) {x y : Int32} (hd : decode cd pc = .ok (.ishl, 1))  (K : Go p l e R s m args below meth c Z Q pc' Ls (.int (x <<< (y &&& 31)) :: st)) (hp : pc + 1 = pc' := by rfl) : Go p l e R s m args below meth c Z Q pc Ls (.int y :: .int x :: st) := by
  subst hp
  exact Go.pure (fun T t h hr => XT.ishl h C.1 rfl (hb C.2.2.2.2.2.1 hd) rfl hr) K
theorem Ctx.ishr (C : Ctx p s m meth c Z own cd mx ret) {pc : Nat} {Ls : Array Slot} {st : List Value} (pc' : Nat) {x y : Int32} (hd : decode cd pc = .ok (.ishr, 1))  (K : Go p l e R s m args below meth c Z Q pc' Ls (.int (x >>> (y &&& 31)) :: st)) (hp : pc + 1 = pc' := by rfl) : Go p l e R s m args below meth c Z Q pc Ls (.int y :: .int x :: st) := by
  subst hp
  exact Go.pure (fun T t h hr => XT.ishr h C.1 rfl (hb C.2.2.2.2.2.1 hd) rfl hr) K
theorem Ctx.iushr (C : Ctx p s m meth c Z own cd mx ret) {pc : Nat} {Ls : Array Slot} {st : List Value} (pc' : Nat) {x y : Int32} (hd : decode cd pc = .ok (.iushr, 1))  (K : Go p l e R s m args below meth c Z Q pc' Ls (.int (XT.ushr x y) :: st)) (hp : pc + 1 = pc' := by rfl) : Go p l e R s m args below meth c Z Q pc Ls (.int y :: .int x :: st) := by
  subst hp
  exact Go.pure (fun T t h hr => XT.iushr h C.1 rfl (hb C.2.2.2.2.2.1 hd) rfl hr) K
theorem Ctx.ineg (C : Ctx p s m meth c Z own cd mx ret) {pc : Nat} {Ls : Array Slot} {st : List Value} (pc' : Nat) {x : Int32} (hd : decode cd pc = .ok (.ineg, 1))  (K : Go p l e R s m args below meth c Z Q pc' Ls (.int (-x) :: st)) (hp : pc + 1 = pc' := by rfl) : Go p l e R s m args below meth c Z Q pc Ls (.int x :: st) := by
  subst hp
  exact Go.pure (fun T t h hr => XS.ineg h C.1 rfl (hb C.2.2.2.2.2.1 hd) rfl hr) K
theorem Ctx.ladd (C : Ctx p s m meth c Z own cd mx ret) {pc : Nat} {Ls : Array Slot} {st : List Value} (pc' : Nat) {x y : Int64} (hd : decode cd pc = .ok (.ladd, 1))  (K : Go p l e R s m args below meth c Z Q pc' Ls (.long (x + y) :: st)) (hp : pc + 1 = pc' := by rfl) : Go p l e R s m args below meth c Z Q pc Ls (.long y :: .long x :: st) := by
  subst hp
  exact Go.pure (fun T t h hr => XT.ladd h C.1 rfl (hb C.2.2.2.2.2.1 hd) rfl hr) K
theorem Ctx.lsub (C : Ctx p s m meth c Z own cd mx ret) {pc : Nat} {Ls : Array Slot} {st : List Value} (pc' : Nat) {x y : Int64} (hd : decode cd pc = .ok (.lsub, 1))  (K : Go p l e R s m args below meth c Z Q pc' Ls (.long (x - y) :: st)) (hp : pc + 1 = pc' := by rfl) : Go p l e R s m args below meth c Z Q pc Ls (.long y :: .long x :: st) := by
  subst hp
  exact Go.pure (fun T t h hr => XT.lsub h C.1 rfl (hb C.2.2.2.2.2.1 hd) rfl hr) K
theorem Ctx.lmul (C : Ctx p s m meth c Z own cd mx ret) {pc : Nat} {Ls : Array Slot} {st : List Value} (pc' : Nat) {x y : Int64} (hd : decode cd pc = .ok (.lmul, 1))  (K : Go p l e R s m args below meth c Z Q pc' Ls (.long (x * y) :: st)) (hp : pc + 1 = pc' := by rfl) : Go p l e R s m args below meth c Z Q pc Ls (.long y :: .long x :: st) := by
  subst hp
  exact Go.pure (fun T t h hr => XT.lmul h C.1 rfl (hb C.2.2.2.2.2.1 hd) rfl hr) K
theorem Ctx.land (C : Ctx p s m meth c Z own cd mx ret) {pc : Nat} {Ls : Array Slot} {st : List Value} (pc' : Nat) {x y : Int64} (hd : decode cd pc = .ok (.land, 1))  (K : Go p l e R s m args below meth c Z Q pc' Ls (.long (x &&& y) :: st)) (hp : pc + 1 = pc' := by rfl) : Go p l e R s m args below meth c Z Q pc Ls (.long y :: .long x :: st) := by
  subst hp
  exact Go.pure (fun T t h hr => XT.land h C.1 rfl (hb C.2.2.2.2.2.1 hd) rfl hr) K
theorem Ctx.lor (C : Ctx p s m meth c Z own cd mx ret) {pc : Nat} {Ls : Array Slot} {st : List Value} (pc' : Nat) {x y : Int64} (hd : decode cd pc = .ok (.lor, 1))  (K : Go p l e R s m args below meth c Z Q pc' Ls (.long (x ||| y) :: st)) (hp : pc + 1 = pc' := by rfl) : Go p l e R s m args below meth c Z Q pc Ls (.long y :: .long x :: st) := by
  subst hp
  exact Go.pure (fun T t h hr => XT.lor h C.1 rfl (hb C.2.2.2.2.2.1 hd) rfl hr) K
theorem Ctx.lxor (C : Ctx p s m meth c Z own cd mx ret) {pc : Nat} {Ls : Array Slot} {st : List Value} (pc' : Nat) {x y : Int64} (hd : decode cd pc = .ok (.lxor, 1))  (K : Go p l e R s m args below meth c Z Q pc' Ls (.long (x ^^^ y) :: st)) (hp : pc + 1 = pc' := by rfl) : Go p l e R s m args below meth c Z Q pc Ls (.long y :: .long x :: st) := by
  subst hp
  exact Go.pure (fun T t h hr => XT.lxor h C.1 rfl (hb C.2.2.2.2.2.1 hd) rfl hr) K
theorem Ctx.ldiv (C : Ctx p s m meth c Z own cd mx ret) {pc : Nat} {Ls : Array Slot} {st : List Value} (pc' : Nat) {x y : Int64} (hd : decode cd pc = .ok (.ldiv, 1)) (hy : y ≠ 0) (K : Go p l e R s m args below meth c Z Q pc' Ls (.long (x / y) :: st)) (hp : pc + 1 = pc' := by rfl) : Go p l e R s m args below meth c Z Q pc Ls (.long y :: .long x :: st) := by
  subst hp
  exact Go.pure (fun T t h hr => XT.ldiv h C.1 rfl (hb C.2.2.2.2.2.1 hd) rfl hy hr) K
theorem Ctx.i2l (C : Ctx p s m meth c Z own cd mx ret) {pc : Nat} {Ls : Array Slot} {st : List Value} (pc' : Nat) {x : Int32} (hd : decode cd pc = .ok (.i2l, 1))  (K : Go p l e R s m args below meth c Z Q pc' Ls (.long x.toInt64 :: st)) (hp : pc + 1 = pc' := by rfl) : Go p l e R s m args below meth c Z Q pc Ls (.int x :: st) := by
  subst hp
  exact Go.pure (fun T t h hr => XT.i2l h C.1 rfl (hb C.2.2.2.2.2.1 hd) rfl hr) K
theorem Ctx.l2i (C : Ctx p s m meth c Z own cd mx ret) {pc : Nat} {Ls : Array Slot} {st : List Value} (pc' : Nat) {x : Int64} (hd : decode cd pc = .ok (.l2i, 1))  (K : Go p l e R s m args below meth c Z Q pc' Ls (.int x.toInt32 :: st)) (hp : pc + 1 = pc' := by rfl) : Go p l e R s m args below meth c Z Q pc Ls (.long x :: st) := by
  subst hp
  exact Go.pure (fun T t h hr => XT.l2i h C.1 rfl (hb C.2.2.2.2.2.1 hd) rfl hr) K
theorem Ctx.i2b (C : Ctx p s m meth c Z own cd mx ret) {pc : Nat} {Ls : Array Slot} {st : List Value} (pc' : Nat) {x : Int32} (hd : decode cd pc = .ok (.i2b, 1))  (K : Go p l e R s m args below meth c Z Q pc' Ls (.int x.toInt8.toInt32 :: st)) (hp : pc + 1 = pc' := by rfl) : Go p l e R s m args below meth c Z Q pc Ls (.int x :: st) := by
  subst hp
  exact Go.pure (fun T t h hr => XT.i2b h C.1 rfl (hb C.2.2.2.2.2.1 hd) rfl hr) K
theorem Ctx.i2c (C : Ctx p s m meth c Z own cd mx ret) {pc : Nat} {Ls : Array Slot} {st : List Value} (pc' : Nat) {x : Int32} (hd : decode cd pc = .ok (.i2c, 1))  (K : Go p l e R s m args below meth c Z Q pc' Ls (.int x.toUInt32.toUInt16.toUInt32.toInt32 :: st)) (hp : pc + 1 = pc' := by rfl) : Go p l e R s m args below meth c Z Q pc Ls (.int x :: st) := by
  subst hp
  exact Go.pure (fun T t h hr => XT.i2c h C.1 rfl (hb C.2.2.2.2.2.1 hd) rfl hr) K
theorem Ctx.lcmp (C : Ctx p s m meth c Z own cd mx ret) {pc : Nat} {Ls : Array Slot} {st : List Value} (pc' : Nat) {x y : Int64} (hd : decode cd pc = .ok (.lcmp, 1))  (K : Go p l e R s m args below meth c Z Q pc' Ls (.int (XT.cmpL x y) :: st)) (hp : pc + 1 = pc' := by rfl) : Go p l e R s m args below meth c Z Q pc Ls (.long y :: .long x :: st) := by
  subst hp
  exact Go.pure (fun T t h hr => XT.lcmp h C.1 rfl (hb C.2.2.2.2.2.1 hd) rfl hr) K
theorem Ctx.pop (C : Ctx p s m meth c Z own cd mx ret) {pc : Nat} {Ls : Array Slot} {st : List Value} (pc' : Nat) {x : Value} (hd : decode cd pc = .ok (.pop, 1)) (hc : x.category = 1) (K : Go p l e R s m args below meth c Z Q pc' Ls (st)) (hp : pc + 1 = pc' := by rfl) : Go p l e R s m args below meth c Z Q pc Ls (x :: st) := by
  subst hp
  exact Go.pure (fun T t h hr => XT.pop h C.1 rfl (hb C.2.2.2.2.2.1 hd) rfl hc hr) K
theorem Ctx.dup (C : Ctx p s m meth c Z own cd mx ret) {pc : Nat} {Ls : Array Slot} {st : List Value} (pc' : Nat) {x : Value} (hd : decode cd pc = .ok (.dup, 1)) (hc : x.category = 1) (K : Go p l e R s m args below meth c Z Q pc' Ls (x :: x :: st)) (hp : pc + 1 = pc' := by rfl) : Go p l e R s m args below meth c Z Q pc Ls (x :: st) := by
  subst hp
  exact Go.pure (fun T t h hr => XS.dup h C.1 rfl (hb C.2.2.2.2.2.1 hd) rfl hc hr) K
theorem Ctx.dupX1 (C : Ctx p s m meth c Z own cd mx ret) {pc : Nat} {Ls : Array Slot} {st : List Value} (pc' : Nat) {x y : Value} (hd : decode cd pc = .ok (.dup_x1, 1)) (hc : x.category = 1) (hc' : y.category = 1) (K : Go p l e R s m args below meth c Z Q pc' Ls (x :: y :: x :: st)) (hp : pc + 1 = pc' := by rfl) : Go p l e R s m args below meth c Z Q pc Ls (x :: y :: st) := by
  subst hp
  exact Go.pure (fun T t h hr => XT.dupX1 h C.1 rfl (hb C.2.2.2.2.2.1 hd) rfl hc hc' hr) K
theorem Ctx.dup2 (C : Ctx p s m meth c Z own cd mx ret) {pc : Nat} {Ls : Array Slot} {st : List Value} (pc' : Nat) {x y : Value} (hd : decode cd pc = .ok (.dup2, 1)) (hc : x.category = 1) (hc' : y.category = 1) (K : Go p l e R s m args below meth c Z Q pc' Ls (x :: y :: x :: y :: st)) (hp : pc + 1 = pc' := by rfl) : Go p l e R s m args below meth c Z Q pc Ls (x :: y :: st) := by
  subst hp
  exact Go.pure (fun T t h hr => XT.dup2 h C.1 rfl (hb C.2.2.2.2.2.1 hd) rfl hc hc' hr) K

theorem Ctx.goto (C : Ctx p s m meth c Z own cd mx ret) {pc : Nat} {Ls : Array Slot} {st : List Value} (pc' : Nat) {o : Int} (hd : decode cd pc = .ok (.goto o, 3)) (ho : 0 ≤ (pc : Int) + o) (hp : ((pc : Int) + o).toNat = pc') (K : Go p l e R s m args below meth c Z Q pc' Ls st) : Go p l e R s m args below meth c Z Q pc Ls st :=
  Go.pure (fun T t h hr => XS.goto h C.1 rfl (pc0 := pc) rfl (hb C.2.2.2.2.2.1 hd) ho hp hr) K
theorem Ctx.ifY (C : Ctx p s m meth c Z own cd mx ret) {pc : Nat} {Ls : Array Slot} {st : List Value} (pc' : Nat) {o : Int} {k : ClassFile.Cond} {x : Int32} (hd : decode cd pc = .ok (.ifCond k o, 3)) (ho : 0 ≤ (pc : Int) + o) (hp : ((pc : Int) + o).toNat = pc') (hc : ifCond.holds k x = true) (K : Go p l e R s m args below meth c Z Q pc' Ls st) : Go p l e R s m args below meth c Z Q pc Ls (.int x :: st) :=
  Go.pure (fun T t h hr => XS.ifYes h C.1 rfl (pc0 := pc) rfl (hb C.2.2.2.2.2.1 hd) rfl hc ho hp hr) K
theorem Ctx.ifN (C : Ctx p s m meth c Z own cd mx ret) {pc : Nat} {Ls : Array Slot} {st : List Value} (pc' : Nat) {o : Int} {k : ClassFile.Cond} {x : Int32} (hd : decode cd pc = .ok (.ifCond k o, 3)) (hp : pc + 3 = pc') (hc : ifCond.holds k x = false) (K : Go p l e R s m args below meth c Z Q pc' Ls st) : Go p l e R s m args below meth c Z Q pc Ls (.int x :: st) := by
  subst hp
  exact Go.pure (fun T t h hr => XS.ifNo h C.1 rfl (hb C.2.2.2.2.2.1 hd) rfl hc hr) K
theorem Ctx.icY (C : Ctx p s m meth c Z own cd mx ret) {pc : Nat} {Ls : Array Slot} {st : List Value} (pc' : Nat) {o : Int} {k : ClassFile.Cond} {x y : Int32} (hd : decode cd pc = .ok (.if_icmp k o, 3)) (ho : 0 ≤ (pc : Int) + o) (hp : ((pc : Int) + o).toNat = pc') (hc : if_icmp.holds k x y = true) (K : Go p l e R s m args below meth c Z Q pc' Ls st) : Go p l e R s m args below meth c Z Q pc Ls (.int y :: .int x :: st) :=
  Go.pure (fun T t h hr => XS.icmpYes h C.1 rfl (pc0 := pc) rfl (hb C.2.2.2.2.2.1 hd) rfl hc ho hp hr) K
theorem Ctx.icN (C : Ctx p s m meth c Z own cd mx ret) {pc : Nat} {Ls : Array Slot} {st : List Value} (pc' : Nat) {o : Int} {k : ClassFile.Cond} {x y : Int32} (hd : decode cd pc = .ok (.if_icmp k o, 3)) (hp : pc + 3 = pc') (hc : if_icmp.holds k x y = false) (K : Go p l e R s m args below meth c Z Q pc' Ls st) : Go p l e R s m args below meth c Z Q pc Ls (.int y :: .int x :: st) := by
  subst hp
  exact Go.pure (fun T t h hr => XS.icmpNo h C.1 rfl (hb C.2.2.2.2.2.1 hd) rfl hc hr) K
theorem Ctx.nullY (C : Ctx p s m meth c Z own cd mx ret) {pc : Nat} {Ls : Array Slot} {st : List Value} (pc' : Nat) {o : Int} (hd : decode cd pc = .ok (.ifnull o, 3)) (ho : 0 ≤ (pc : Int) + o) (hp : ((pc : Int) + o).toNat = pc') (K : Go p l e R s m args below meth c Z Q pc' Ls st) : Go p l e R s m args below meth c Z Q pc Ls (.null :: st) :=
  Go.pure (fun T t h hr => XS.ifnullYes h C.1 rfl (pc0 := pc) rfl (hb C.2.2.2.2.2.1 hd) rfl ho hp hr) K
theorem Ctx.nullN (C : Ctx p s m meth c Z own cd mx ret) {pc : Nat} {Ls : Array Slot} {st : List Value} (pc' : Nat) {o : Int} {a : Addr} (hd : decode cd pc = .ok (.ifnull o, 3)) (hp : pc + 3 = pc') (K : Go p l e R s m args below meth c Z Q pc' Ls st) : Go p l e R s m args below meth c Z Q pc Ls (.ref a :: st) := by
  subst hp
  exact Go.pure (fun T t h hr => XS.ifnullNo h C.1 rfl (hb C.2.2.2.2.2.1 hd) rfl hr) K
theorem Ctx.nonY (C : Ctx p s m meth c Z own cd mx ret) {pc : Nat} {Ls : Array Slot} {st : List Value} (pc' : Nat) {o : Int} {a : Addr} (hd : decode cd pc = .ok (.ifnonnull o, 3)) (ho : 0 ≤ (pc : Int) + o) (hp : ((pc : Int) + o).toNat = pc') (K : Go p l e R s m args below meth c Z Q pc' Ls st) : Go p l e R s m args below meth c Z Q pc Ls (.ref a :: st) :=
  Go.pure (fun T t h hr => XT.ifnonnullYes h C.1 rfl (pc0 := pc) rfl (hb C.2.2.2.2.2.1 hd) rfl ho hp hr) K
theorem Ctx.nonN (C : Ctx p s m meth c Z own cd mx ret) {pc : Nat} {Ls : Array Slot} {st : List Value} (pc' : Nat) {o : Int} (hd : decode cd pc = .ok (.ifnonnull o, 3)) (hp : pc + 3 = pc') (K : Go p l e R s m args below meth c Z Q pc' Ls st) : Go p l e R s m args below meth c Z Q pc Ls (.null :: st) := by
  subst hp
  exact Go.pure (fun T t h hr => XT.ifnonnullNo h C.1 rfl (hb C.2.2.2.2.2.1 hd) rfl hr) K
theorem Ctx.acY (C : Ctx p s m meth c Z own cd mx ret) {pc : Nat} {Ls : Array Slot} {st : List Value} (pc' : Nat) {o : Int} {k : ClassFile.ACond} {x y : Value} (hd : decode cd pc = .ok (.if_acmp k o, 3)) (ho : 0 ≤ (pc : Int) + o) (hp : ((pc : Int) + o).toNat = pc') (hx : x.isRef = true) (hy : y.isRef = true) (hc : XT.acmp k x y = true) (K : Go p l e R s m args below meth c Z Q pc' Ls st) : Go p l e R s m args below meth c Z Q pc Ls (y :: x :: st) :=
  Go.pure (fun T t h hr => XT.acmpYes h C.1 rfl (pc0 := pc) rfl (hb C.2.2.2.2.2.1 hd) rfl hx hy hc ho hp hr) K
theorem Ctx.acN (C : Ctx p s m meth c Z own cd mx ret) {pc : Nat} {Ls : Array Slot} {st : List Value} (pc' : Nat) {o : Int} {k : ClassFile.ACond} {x y : Value} (hd : decode cd pc = .ok (.if_acmp k o, 3)) (hp : pc + 3 = pc') (hx : x.isRef = true) (hy : y.isRef = true) (hc : XT.acmp k x y = false) (K : Go p l e R s m args below meth c Z Q pc' Ls st) : Go p l e R s m args below meth c Z Q pc Ls (y :: x :: st) := by
  subst hp
  exact Go.pure (fun T t h hr => XT.acmpNo h C.1 rfl (hb C.2.2.2.2.2.1 hd) rfl hx hy hc hr) K
theorem Ctx.iinc (C : Ctx p s m meth c Z own cd mx ret) {pc : Nat} {Ls : Array Slot} {st : List Value} (pc' : Nat) {j : Nat} {i : Int} {x : Int32} {L' : Array Slot} (v : Int32) (hd : decode cd pc = .ok (.iinc j i, 3)) (hv : Int32.ofInt i = v) (hl : Ls[j]? = some (.val (.int x))) (hl' : storeLocals Ls j (.int (x + v)) = some L') (K : Go p l e R s m args below meth c Z Q pc' L' st) (hp : pc + 3 = pc' := by rfl) : Go p l e R s m args below meth c Z Q pc Ls st := by
  subst hp
  exact Go.pure (fun T t h hr => XT.iincV h C.1 rfl v (hb C.2.2.2.2.2.1 hd) hv hl hl' hr) K
theorem Ctx.irem (C : Ctx p s m meth c Z own cd mx ret) {pc : Nat} {Ls : Array Slot} {st : List Value} (pc' : Nat) {x y : Int32} (hd : decode cd pc = .ok (.irem, 1)) (hy : y ≠ 0) (K : Go p l e R s m args below meth c Z Q pc' Ls (.int (x % y) :: st)) (hp : pc + 1 = pc' := by rfl) : Go p l e R s m args below meth c Z Q pc Ls (.int y :: .int x :: st) := by
  subst hp
  exact Go.pure (fun T t h hr => XS.irem h C.1 rfl (hb C.2.2.2.2.2.1 hd) rfl hy (by rw [irem_eq_mod]; exact hr)) K
theorem Ctx.idiv (C : Ctx p s m meth c Z own cd mx ret) {pc : Nat} {Ls : Array Slot} {st : List Value} (pc' : Nat) {x y : Int32} (hd : decode cd pc = .ok (.idiv, 1)) (hy : y ≠ 0) (K : Go p l e R s m args below meth c Z Q pc' Ls (.int (x / y) :: st)) (hp : pc + 1 = pc' := by rfl) : Go p l e R s m args below meth c Z Q pc Ls (.int y :: .int x :: st) := by
  subst hp
  exact Go.pure (fun T t h hr => XS.idiv h C.1 rfl (hb C.2.2.2.2.2.1 hd) rfl hy hr) K
theorem Ctx.lrem (C : Ctx p s m meth c Z own cd mx ret) {pc : Nat} {Ls : Array Slot} {st : List Value} (pc' : Nat) {x y : Int64} (hd : decode cd pc = .ok (.lrem, 1)) (hy : y ≠ 0) (K : Go p l e R s m args below meth c Z Q pc' Ls (.long (x % y) :: st)) (hp : pc + 1 = pc' := by rfl) : Go p l e R s m args below meth c Z Q pc Ls (.long y :: .long x :: st) := by
  subst hp
  exact Go.pure (fun T t h hr => XT.lrem h C.1 rfl (hb C.2.2.2.2.2.1 hd) rfl hy (by rw [lrem_mod]; exact hr)) K
theorem Ctx.lushr (C : Ctx p s m meth c Z own cd mx ret) {pc : Nat} {Ls : Array Slot} {st : List Value} (pc' : Nat) {x : Int64} {y : Int32} (hd : decode cd pc = .ok (.lushr, 1)) (K : Go p l e R s m args below meth c Z Q pc' Ls (.long (XT.ushrL x y) :: st)) (hp : pc + 1 = pc' := by rfl) : Go p l e R s m args below meth c Z Q pc Ls (.int y :: .long x :: st) := by
  subst hp
  exact Go.pure (fun T t h hr => XT.lushr h C.1 rfl (hb C.2.2.2.2.2.1 hd) rfl hr) K
theorem Ctx.lshl (C : Ctx p s m meth c Z own cd mx ret) {pc : Nat} {Ls : Array Slot} {st : List Value} (pc' : Nat) {x : Int64} {y : Int32} (hd : decode cd pc = .ok (.lshl, 1)) (K : Go p l e R s m args below meth c Z Q pc' Ls (.long (x <<< (y.toInt64 &&& 63)) :: st)) (hp : pc + 1 = pc' := by rfl) : Go p l e R s m args below meth c Z Q pc Ls (.int y :: .long x :: st) := by
  subst hp
  exact Go.pure (fun T t h hr => XT.lshl h C.1 rfl (hb C.2.2.2.2.2.1 hd) rfl hr) K
end Own

theorem own_all {args : Array Value} {s : State} {t : Term} {cnd : Jvm.Cond} {a : Addr} {cl : Cell} (ht : t.eval args s none [] s = some (.ref a)) (ha : s.arrayAt? a = some cl) (h : (Jvm.Cond.all t cnd).value args s none s [] = some true) : ∀ i, i < cl.slots.size → cnd.value args s none s [i] = some true := by
  simp only [Cond.value, ht, ha] at h
  have key : ∀ (L : List Nat) (acc : Option Bool), L.foldl (fun acc i => match acc with | some true => cnd.value args s none s (i :: []) | x => x) acc = some true → acc = some true ∧ ∀ i ∈ L, cnd.value args s none s [i] = some true := by
    intro L
    induction L with
    | nil => intro acc h; exact ⟨h, fun i hi => nomatch hi⟩
    | cons x L ih =>
      intro acc h
      rw [List.foldl_cons] at h
      obtain ⟨h1, h2⟩ := ih _ h
      have hacc : acc = some true := by
        rcases acc with _ | b
        · cases h1
        · cases b
          · cases h1
          · rfl
      subst hacc
      refine ⟨rfl, fun i hi => ?_⟩
      rcases List.mem_cons.mp hi with rfl | hi
      · exact h1
      · exact h2 i hi
  intro i hi
  exact (key _ _ h).2 i (List.mem_range.mpr hi)
theorem own_or {args : Array Value} {s : State} {i : List Nat} {c d : Jvm.Cond} (h : (Jvm.Cond.or c d).value args s none s i = some true) : c.value args s none s i = some true ∨ d.value args s none s i = some true := by
  simp only [Cond.value] at h
  cases hc : c.value args s none s i with
  | none => rw [hc] at h; cases h
  | some b => cases b with
    | false => rw [hc] at h; exact Or.inr h
    | true => exact Or.inl rfl
theorem own_eqi {args : Array Value} {s : State} {i : List Nat} {t : Term} {b : Int32} (h : (Jvm.Cond.eq t (.int b)).value args s none s i = some true) : t.eval args s none i s = some (.int b) := by
  simp only [Cond.value, Term.int_eval] at h
  cases ha : t.eval args s none i s with
  | none => simp [ha] at h
  | some v =>
    cases v <;> simp [ha] at h
    rw [h]
theorem own_el {args : Array Value} {s : State} {i : List Nat} {t ix : Term} {a : Addr} {cl : Cell} {b j : Int32} (ht : t.eval args s none i s = some (.ref a)) (ha : s.arrayAt? a = some cl) (hj : ix.eval args s none i s = some (.int j)) (h : (Jvm.Cond.eq (.elem t ix) (.int b)).value args s none s i = some true) : cl.slots[j.toNatClampNeg]? = some (.int b) := by
  obtain ⟨a', j', cell, e1, e2, e3, -, e5⟩ := Term.elem_spec (own_eqi h)
  cases ht.symm.trans e1
  cases ha.symm.trans e3
  cases hj.symm.trans e2
  exact e5
theorem own_len {args : Array Value} {s : State} {t : Term} {a : Addr} {cl : Cell} {z : Int32} (ht : t.eval args s none [] s = some (.ref a)) (ha : s.arrayAt? a = some cl) (h : (Jvm.Cond.eq (.length t) (.int z)).value args s none s [] = some true) (hz : ¬ z < 0) : cl.slots.size = z.toNatClampNeg := by
  have q := own_eqi h
  simp only [Term.eval, ht, ha, Option.bind_eq_bind, Option.bind_some] at q
  split at q
  · rename_i hlt
    have e : cl.slots.size.toInt32 = z := by simpa using q
    have e2 : (Int32.ofNat cl.slots.size).toInt = cl.slots.size := Int32.toInt_ofNat_small (by omega)
    have e3 : z.toInt = cl.slots.size := by rw [← e]; exact e2
    simp only [Int32.toNatClampNeg, e3]
    omega
  · cases q

def own_stP (j : Int32) : Prop := (¬ j < 65 ∧ ¬ 90 < j) ∨ (¬ j < 97 ∧ ¬ 122 < j) ∨ j = 95
instance (j : Int32) : Decidable (own_stP j) := by unfold own_stP; exact inferInstance
def own_st (j : Int32) : Int32 := if own_stP j then 1 else 0
theorem own_st1 {j : Int32} (h : own_stP j) : own_st j = 1 := if_pos h
theorem own_st0 {j : Int32} (h : ¬ own_stP j) : own_st j = 0 := if_neg h
theorem own_st01 {j : Int32} (h : ¬ own_st j = 0) : own_st j = 1 := by
  by_cases q : own_stP j
  · exact own_st1 q
  · exact absurd (own_st0 q) h
theorem own_big128 {j : Int32} (h : ¬ j < 128) : own_st j = 0 := own_st0 fun q => by
  simp only [own_stP, Int32.lt_iff_toInt_lt, ← Int32.toInt_inj] at q h
  have e1 : (128 : Int32).toInt = 128 := by decide
  have e2 : (65 : Int32).toInt = 65 := by decide
  have e3 : (90 : Int32).toInt = 90 := by decide
  have e4 : (97 : Int32).toInt = 97 := by decide
  have e5 : (122 : Int32).toInt = 122 := by decide
  have e6 : (95 : Int32).toInt = 95 := by decide
  rw [e1] at h
  rw [e2, e3, e4, e5, e6] at q
  omega
theorem own_some {x y : Int32} (h : x = y) : some (Value.int x) = some (Value.int y) := by rw [h]
theorem pn_0 : plainName "com/example/gatesmith/gatesmith/dataflow/VerilogIdentifier" = true := by first | (simp [plainName, overriddenIn]; done) | decide +kernel
theorem d1_0 : decode prog_35_method_3_code 0 = .ok (.iload_n 0, 1) := by decide +kernel
theorem d1_1 : decode prog_35_method_3_code 1 = .ok (.getstatic 25, 3) := by decide +kernel
theorem d1_4 : decode prog_35_method_3_code 4 = .ok (.arraylength, 1) := by decide +kernel
theorem d1_5 : decode prog_35_method_3_code 5 = .ok (.if_icmp .ge 15, 3) := by decide +kernel
theorem d1_8 : decode prog_35_method_3_code 8 = .ok (.getstatic 25, 3) := by decide +kernel
theorem d1_11 : decode prog_35_method_3_code 11 = .ok (.iload_n 0, 1) := by decide +kernel
theorem d1_12 : decode prog_35_method_3_code 12 = .ok (.baload, 1) := by decide +kernel
theorem d1_13 : decode prog_35_method_3_code 13 = .ok (.ifCond .eq 7, 3) := by decide +kernel
theorem d1_16 : decode prog_35_method_3_code 16 = .ok (.iconst 1, 1) := by decide +kernel
theorem d1_17 : decode prog_35_method_3_code 17 = .ok (.goto 4, 3) := by decide +kernel
theorem d1_20 : decode prog_35_method_3_code 20 = .ok (.iconst 0, 1) := by decide +kernel
theorem d1_21 : decode prog_35_method_3_code 21 = .ok (.ireturn, 1) := by decide +kernel
theorem ef_1 (m : MethodId) (x0 : Int32) : entryFrame m #[(.int x0)] 1 = mkF m 0 #[.val (.int x0)] [] := by first | (simp [entryFrame, mkF, argsToLocals, Value.category]; done) | rfl
set_option maxRecDepth 65536 in
set_option maxHeartbeats 40000000 in
theorem met_start (l : Launch) (Z : State) (a0 : Array Value) (hw : ∀ d ∈ tables_1, d.before a0 Z = true) (c_ : Int32) (a : Addr) (cl : Cell) (hc0 : ¬ c_ < 0) (A : Arr Z Z.heap a cl .boolean) (hsz : cl.slots.size = (128 : Int32).toNatClampNeg) (S : Sta Z Z.heap "com/example/gatesmith/gatesmith/dataflow/VerilogIdentifier" "STARTS" "[Z" (.ref a)) (E : ∀ j : Int32, ¬ j < 0 → j < 128 → cl.slots[j.toNatClampNeg]? = some (.int (own_st j))) : Met l Z (⟨"com/example/gatesmith/gatesmith/dataflow/VerilogIdentifier", "isStart", "(C)Z"⟩ : MethodName) prog_35_method_3_code 1 (some .boolean) [] ({ frames := 0, cells := 0, slots := 0, locals := 0 } : Room) #[(.int c_)] (fun v => v = some (.int (own_st c_))) := by
  refine Met.intro pn_0 (fun m => ef_1 m c_) rfl rfl ?_
  intro p e s m below meth c C
  refine C.iloadN 1 d1_0 rfl ?_
  refine C.gets (a0 := a0) 4 d1_1 (hw _ (List.mem_of_getElem? (i := 5) rfl)) S ?_
  refine C.alen 5 d1_4 A (len_of hsz (by decide)) ?_
  rcases Decidable.em (c_ < (128 : Int32)) with h5 | h5
  · skip
    refine C.icN 8 d1_5 rfl (XT.ii_ge_f h5) ?_
    refine C.gets (a0 := a0) 11 d1_8 (hw _ (List.mem_of_getElem? (i := 5) rfl)) S ?_
    refine C.iloadN 12 d1_11 rfl ?_
    refine C.zaload 13 d1_12 A (inb_of hsz ⟨hc0, h5⟩) (E c_ hc0 h5) ?_
    rcases Decidable.em ((own_st c_) = 0) with h13 | h13
    · skip
      refine C.ifY 20 d1_13 (by decide) (by decide) (XT.i0_eq_t h13) ?_
      refine C.iconst 21 (0 : Int32) d1_20 (by decide) ?_
      refine C.retN (t := .boolean) rfl (by simp) d1_21 ?_
      exact (own_some h13.symm)
    · skip
      refine C.ifN 16 d1_13 rfl (XT.i0_eq_f h13) ?_
      refine C.iconst 17 (1 : Int32) d1_16 (by decide) ?_
      refine C.goto 21 d1_17 (by decide) (by decide) ?_
      refine C.retN (t := .boolean) rfl (by simp) d1_21 ?_
      exact (own_some (own_st01 h13).symm)
  · skip
    refine C.icY 20 d1_5 (by decide) (by decide) (XT.ii_ge_t h5) ?_
    refine C.iconst 21 (0 : Int32) d1_20 (by decide) ?_
    refine C.retN (t := .boolean) rfl (by simp) d1_21 ?_
    exact (own_some (own_big128 h5).symm)
theorem pn_1 : plainName "com/example/gatesmith/gatesmith/dataflow/VerilogIdentifierIsStartPinLaw" = true := by first | (simp [plainName, overriddenIn]; done) | decide +kernel
theorem d2_0 : decode method_2_code 0 = .ok (.iload_n 0, 1) := by decide +kernel
theorem d2_1 : decode method_2_code 1 = .ok (.bipush 65, 2) := by decide +kernel
theorem d2_3 : decode method_2_code 3 = .ok (.if_icmp .lt 11, 3) := by decide +kernel
theorem d2_6 : decode method_2_code 6 = .ok (.iload_n 0, 1) := by decide +kernel
theorem d2_7 : decode method_2_code 7 = .ok (.bipush 90, 2) := by decide +kernel
theorem d2_9 : decode method_2_code 9 = .ok (.if_icmp .gt 5, 3) := by decide +kernel
theorem d2_12 : decode method_2_code 12 = .ok (.iconst 1, 1) := by decide +kernel
theorem d2_13 : decode method_2_code 13 = .ok (.ireturn, 1) := by decide +kernel
theorem d2_14 : decode method_2_code 14 = .ok (.iload_n 0, 1) := by decide +kernel
theorem d2_15 : decode method_2_code 15 = .ok (.bipush 97, 2) := by decide +kernel
theorem d2_17 : decode method_2_code 17 = .ok (.if_icmp .lt 11, 3) := by decide +kernel
theorem d2_20 : decode method_2_code 20 = .ok (.iload_n 0, 1) := by decide +kernel
theorem d2_21 : decode method_2_code 21 = .ok (.bipush 122, 2) := by decide +kernel
theorem d2_23 : decode method_2_code 23 = .ok (.if_icmp .gt 5, 3) := by decide +kernel
theorem d2_26 : decode method_2_code 26 = .ok (.iconst 1, 1) := by decide +kernel
theorem d2_27 : decode method_2_code 27 = .ok (.ireturn, 1) := by decide +kernel
theorem d2_28 : decode method_2_code 28 = .ok (.iload_n 0, 1) := by decide +kernel
theorem d2_29 : decode method_2_code 29 = .ok (.bipush 95, 2) := by decide +kernel
theorem d2_31 : decode method_2_code 31 = .ok (.if_icmp .ne 7, 3) := by decide +kernel
theorem d2_34 : decode method_2_code 34 = .ok (.iconst 1, 1) := by decide +kernel
theorem d2_35 : decode method_2_code 35 = .ok (.goto 4, 3) := by decide +kernel
theorem d2_38 : decode method_2_code 38 = .ok (.iconst 0, 1) := by decide +kernel
theorem d2_39 : decode method_2_code 39 = .ok (.ireturn, 1) := by decide +kernel
theorem ef_2 (m : MethodId) (x0 : Int32) : entryFrame m #[(.int x0)] 1 = mkF m 0 #[.val (.int x0)] [] := by first | (simp [entryFrame, mkF, argsToLocals, Value.category]; done) | rfl
set_option maxRecDepth 65536 in
set_option maxHeartbeats 40000000 in
theorem met_exp (l : Launch) (Z : State) (a0 : Array Value) (hw : ∀ d ∈ tables_1, d.before a0 Z = true) (c_ : Int32) : Met l Z (⟨"com/example/gatesmith/gatesmith/dataflow/VerilogIdentifierIsStartPinLaw", "expected", "(C)Z"⟩ : MethodName) method_2_code 1 (some .boolean) [] ({ frames := 0, cells := 0, slots := 0, locals := 0 } : Room) #[(.int c_)] (fun v => v = some (.int (own_st c_))) := by
  refine Met.intro pn_1 (fun m => ef_2 m c_) rfl rfl ?_
  intro p e s m below meth c C
  refine C.iloadN 1 d2_0 rfl ?_
  refine C.bipush 3 (65 : Int32) d2_1 (by decide) ?_
  rcases Decidable.em (c_ < (65 : Int32)) with h3 | h3
  · skip
    refine C.icY 14 d2_3 (by decide) (by decide) (XT.ii_lt_t h3) ?_
    refine C.iloadN 15 d2_14 rfl ?_
    refine C.bipush 17 (97 : Int32) d2_15 (by decide) ?_
    rcases Decidable.em (c_ < (97 : Int32)) with h17 | h17
    · skip
      refine C.icY 28 d2_17 (by decide) (by decide) (XT.ii_lt_t h17) ?_
      refine C.iloadN 29 d2_28 rfl ?_
      refine C.bipush 31 (95 : Int32) d2_29 (by decide) ?_
      rcases Decidable.em (c_ = (95 : Int32)) with h31 | h31
      · skip
        refine C.icN 34 d2_31 rfl (XT.ii_ne_f h31) ?_
        refine C.iconst 35 (1 : Int32) d2_34 (by decide) ?_
        refine C.goto 39 d2_35 (by decide) (by decide) ?_
        refine C.retN (t := .boolean) rfl (by simp) d2_39 ?_
        exact (own_some (own_st1 (Or.inr (Or.inr h31))).symm)
      · skip
        refine C.icY 38 d2_31 (by decide) (by decide) (XT.ii_ne_t h31) ?_
        refine C.iconst 39 (0 : Int32) d2_38 (by decide) ?_
        refine C.retN (t := .boolean) rfl (by simp) d2_39 ?_
        exact (own_some (own_st0 (fun q => q.elim (fun q => q.1 h3) (fun q => q.elim (fun q => q.1 h17) h31))).symm)
    · skip
      refine C.icN 20 d2_17 rfl (XT.ii_lt_f h17) ?_
      refine C.iloadN 21 d2_20 rfl ?_
      refine C.bipush 23 (122 : Int32) d2_21 (by decide) ?_
      rcases Decidable.em ((122 : Int32) < c_) with h23 | h23
      · skip
        refine C.icY 28 d2_23 (by decide) (by decide) (XT.ii_gt_t h23) ?_
        refine C.iloadN 29 d2_28 rfl ?_
        refine C.bipush 31 (95 : Int32) d2_29 (by decide) ?_
        rcases Decidable.em (c_ = (95 : Int32)) with h31 | h31
        · skip
          refine C.icN 34 d2_31 rfl (XT.ii_ne_f h31) ?_
          refine C.iconst 35 (1 : Int32) d2_34 (by decide) ?_
          refine C.goto 39 d2_35 (by decide) (by decide) ?_
          refine C.retN (t := .boolean) rfl (by simp) d2_39 ?_
          exact (own_some (own_st1 (Or.inr (Or.inr h31))).symm)
        · skip
          refine C.icY 38 d2_31 (by decide) (by decide) (XT.ii_ne_t h31) ?_
          refine C.iconst 39 (0 : Int32) d2_38 (by decide) ?_
          refine C.retN (t := .boolean) rfl (by simp) d2_39 ?_
          exact (own_some (own_st0 (fun q => q.elim (fun q => q.1 h3) (fun q => q.elim (fun q => q.2 h23) h31))).symm)
      · skip
        refine C.icN 26 d2_23 rfl (XT.ii_gt_f h23) ?_
        refine C.iconst 27 (1 : Int32) d2_26 (by decide) ?_
        refine C.retN (t := .boolean) rfl (by simp) d2_27 ?_
        exact (own_some (own_st1 (Or.inr (Or.inl ⟨h17, h23⟩))).symm)
  · skip
    refine C.icN 6 d2_3 rfl (XT.ii_lt_f h3) ?_
    refine C.iloadN 7 d2_6 rfl ?_
    refine C.bipush 9 (90 : Int32) d2_7 (by decide) ?_
    rcases Decidable.em ((90 : Int32) < c_) with h9 | h9
    · skip
      refine C.icY 14 d2_9 (by decide) (by decide) (XT.ii_gt_t h9) ?_
      refine C.iloadN 15 d2_14 rfl ?_
      refine C.bipush 17 (97 : Int32) d2_15 (by decide) ?_
      rcases Decidable.em (c_ < (97 : Int32)) with h17 | h17
      · skip
        refine C.icY 28 d2_17 (by decide) (by decide) (XT.ii_lt_t h17) ?_
        refine C.iloadN 29 d2_28 rfl ?_
        refine C.bipush 31 (95 : Int32) d2_29 (by decide) ?_
        rcases Decidable.em (c_ = (95 : Int32)) with h31 | h31
        · skip
          refine C.icN 34 d2_31 rfl (XT.ii_ne_f h31) ?_
          refine C.iconst 35 (1 : Int32) d2_34 (by decide) ?_
          refine C.goto 39 d2_35 (by decide) (by decide) ?_
          refine C.retN (t := .boolean) rfl (by simp) d2_39 ?_
          exact (own_some (own_st1 (Or.inr (Or.inr h31))).symm)
        · skip
          refine C.icY 38 d2_31 (by decide) (by decide) (XT.ii_ne_t h31) ?_
          refine C.iconst 39 (0 : Int32) d2_38 (by decide) ?_
          refine C.retN (t := .boolean) rfl (by simp) d2_39 ?_
          exact (own_some (own_st0 (fun q => q.elim (fun q => q.2 h9) (fun q => q.elim (fun q => q.1 h17) h31))).symm)
      · skip
        refine C.icN 20 d2_17 rfl (XT.ii_lt_f h17) ?_
        refine C.iloadN 21 d2_20 rfl ?_
        refine C.bipush 23 (122 : Int32) d2_21 (by decide) ?_
        rcases Decidable.em ((122 : Int32) < c_) with h23 | h23
        · skip
          refine C.icY 28 d2_23 (by decide) (by decide) (XT.ii_gt_t h23) ?_
          refine C.iloadN 29 d2_28 rfl ?_
          refine C.bipush 31 (95 : Int32) d2_29 (by decide) ?_
          rcases Decidable.em (c_ = (95 : Int32)) with h31 | h31
          · skip
            refine C.icN 34 d2_31 rfl (XT.ii_ne_f h31) ?_
            refine C.iconst 35 (1 : Int32) d2_34 (by decide) ?_
            refine C.goto 39 d2_35 (by decide) (by decide) ?_
            refine C.retN (t := .boolean) rfl (by simp) d2_39 ?_
            exact (own_some (own_st1 (Or.inr (Or.inr h31))).symm)
          · skip
            refine C.icY 38 d2_31 (by decide) (by decide) (XT.ii_ne_t h31) ?_
            refine C.iconst 39 (0 : Int32) d2_38 (by decide) ?_
            refine C.retN (t := .boolean) rfl (by simp) d2_39 ?_
            exact (own_some (own_st0 (fun q => q.elim (fun q => q.2 h9) (fun q => q.elim (fun q => q.2 h23) h31))).symm)
        · skip
          refine C.icN 26 d2_23 rfl (XT.ii_gt_f h23) ?_
          refine C.iconst 27 (1 : Int32) d2_26 (by decide) ?_
          refine C.retN (t := .boolean) rfl (by simp) d2_27 ?_
          exact (own_some (own_st1 (Or.inr (Or.inl ⟨h17, h23⟩))).symm)
    · skip
      refine C.icN 12 d2_9 rfl (XT.ii_gt_f h9) ?_
      refine C.iconst 13 (1 : Int32) d2_12 (by decide) ?_
      refine C.retN (t := .boolean) rfl (by simp) d2_13 ?_
      exact (own_some (own_st1 (Or.inl ⟨h3, h9⟩)).symm)
theorem pd__C_rZ : parseMethodDescriptor "(C)Z" = some ⟨[.char], some .boolean⟩ := by decide +kernel
theorem ef_3 (m : MethodId) (x0 : Int32) : entryFrame m #[(.int x0)] maxLocals = mkF m 0 #[.val (.int x0), .unset] [] := by first | (simp [entryFrame, mkF, argsToLocals, Value.category, maxLocals]; done) | rfl
set_option maxRecDepth 65536 in
set_option maxHeartbeats 40000000 in
theorem met_law (l : Launch) (Z : State) (a0 : Array Value) (hw : ∀ d ∈ tables_1, d.before a0 Z = true) (i0 : Int32) (a : Addr) (cl : Cell) (A : Arr Z Z.heap a cl .boolean) (hsz : cl.slots.size = (128 : Int32).toNatClampNeg) (S : Sta Z Z.heap "com/example/gatesmith/gatesmith/dataflow/VerilogIdentifier" "STARTS" "[Z" (.ref a)) (E : ∀ j : Int32, ¬ j < 0 → j < 128 → cl.slots[j.toNatClampNeg]? = some (.int (own_st j))) : Met l Z x code maxLocals ret tables_1 room_1 #[(.int i0)] (fun v => v = some (.int 1)) := by
  refine Met.intro pn_1 (fun m => ef_3 m i0) rfl rfl ?_
  intro p e s m below meth c C
  refine C.iloadN 1 at_0 rfl ?_
  refine C.ldcI (a0 := a0) 3 at_1 (hw _ (List.mem_of_getElem? (i := 0) rfl)) ?_
  refine C.iand 4 at_3 ?_
  refine C.i2c 5 at_4 ?_
  generalize hc1 : (i0 &&& (65535 : Int32)).toUInt32.toUInt16.toUInt32.toInt32 = c1
  refine C.istoreN 6 (L' := #[.val (.int i0), .val (.int c1)]) at_5 rfl ?_
  have hc0 : ¬ c1 < 0 := by
    have q := (c_i2c (i0 &&& (65535 : Int32))).2.1
    rw [hc1] at q
    rw [Int32.lt_iff_toInt_lt]
    exact Int.not_lt.mpr q
  refine C.iloadN 7 at_6 rfl ?_
  refine C.call (a0 := a0) 10 [(.int c1)] [] at_7 (met_start l Z a0 hw c1 a cl hc0 A hsz S E) (hw _ (List.mem_of_getElem? (i := 1) rfl)) (hw _ (List.mem_of_getElem? (i := 2) rfl)) (hw _ (List.mem_of_getElem? (i := 3) rfl)) (hw _ (List.mem_of_getElem? (i := 4) rfl)) (by decide) rfl (lenOf pd__C_rZ rfl) (by decide) (W := 0) (Nat.le_of_eq rfl) (by decide) rfl rfl rfl ?_
  rintro _ rfl
  refine C.iloadN 11 at_10 rfl ?_
  refine C.call (a0 := a0) 14 [(.int c1)] [(.int (own_st c1))] at_11 (met_exp l Z a0 hw c1) (hw _ (List.mem_of_getElem? (i := 7) rfl)) (hw _ (List.mem_of_getElem? (i := 8) rfl)) (hw _ (List.mem_of_getElem? (i := 9) rfl)) (hw _ (List.mem_of_getElem? (i := 10) rfl)) (by decide) rfl (lenOf pd__C_rZ rfl) (by decide) (W := 1) (Nat.le_of_eq rfl) (by decide) rfl rfl rfl ?_
  rintro _ rfl
  refine C.icN 17 at_14 rfl (XT.ii_ne_f (show (own_st c1) = (own_st c1) from rfl)) ?_
  refine C.iconst 18 (1 : Int32) at_17 (by decide) ?_
  refine C.goto 22 at_18 (by decide) (by decide) ?_
  refine C.retN (t := .boolean) rfl (by simp) at_22 ?_
  exact rfl
theorem own_lx3 {j : Int32} (q : 65 ≤ j) (q2 : j < 65) : False := by
  simp only [Int32.lt_iff_toInt_lt, Int32.le_iff_toInt_le, ← Int32.toInt_inj, Int32.reduceToInt] at *
  omega
theorem own_lx4 {j : Int32} (q : 91 ≤ j) (q2 : j < 91) : False := by
  simp only [Int32.lt_iff_toInt_lt, Int32.le_iff_toInt_le, ← Int32.toInt_inj, Int32.reduceToInt] at *
  omega
theorem own_lx5 {j : Int32} (q : 95 ≤ j) (q2 : j < 95) : False := by
  simp only [Int32.lt_iff_toInt_lt, Int32.le_iff_toInt_le, ← Int32.toInt_inj, Int32.reduceToInt] at *
  omega
theorem own_pt6 {j : Int32} (q1 : ¬ j < 95) (q2 : j < 96) : j = 95 := by
  simp only [Int32.lt_iff_toInt_lt, Int32.le_iff_toInt_le, ← Int32.toInt_inj, Int32.reduceToInt] at *
  omega
theorem own_pt7 {j : Int32} (q1 : ¬ j < 96) (q2 : j < 97) : j = 96 := by
  simp only [Int32.lt_iff_toInt_lt, Int32.le_iff_toInt_le, ← Int32.toInt_inj, Int32.reduceToInt] at *
  omega
theorem own_lx8 {j : Int32} (q : 123 ≤ j) (q2 : j < 123) : False := by
  simp only [Int32.lt_iff_toInt_lt, Int32.le_iff_toInt_le, ← Int32.toInt_inj, Int32.reduceToInt] at *
  omega
theorem own_sg3 {j : Int32} (q1 : ¬ j < 0) (q2 : j < 65) : ¬ own_stP j := by
  simp only [own_stP, Int32.lt_iff_toInt_lt, Int32.le_iff_toInt_le, ← Int32.toInt_inj, Int32.reduceToInt] at *
  omega
theorem own_sg4 {j : Int32} (q1 : ¬ j < 65) (q2 : j < 91) : own_stP j := by
  simp only [own_stP, Int32.lt_iff_toInt_lt, Int32.le_iff_toInt_le, ← Int32.toInt_inj, Int32.reduceToInt] at *
  omega
theorem own_sg5 {j : Int32} (q1 : ¬ j < 91) (q2 : j < 95) : ¬ own_stP j := by
  simp only [own_stP, Int32.lt_iff_toInt_lt, Int32.le_iff_toInt_le, ← Int32.toInt_inj, Int32.reduceToInt] at *
  omega
theorem own_sg6 {j : Int32} (q1 : ¬ j < 95) (q2 : j < 96) : own_stP j := by
  simp only [own_stP, Int32.lt_iff_toInt_lt, Int32.le_iff_toInt_le, ← Int32.toInt_inj, Int32.reduceToInt] at *
  omega
theorem own_sg7 {j : Int32} (q1 : ¬ j < 96) (q2 : j < 97) : ¬ own_stP j := by
  simp only [own_stP, Int32.lt_iff_toInt_lt, Int32.le_iff_toInt_le, ← Int32.toInt_inj, Int32.reduceToInt] at *
  omega
theorem own_sg8 {j : Int32} (q1 : ¬ j < 97) (q2 : j < 123) : own_stP j := by
  simp only [own_stP, Int32.lt_iff_toInt_lt, Int32.le_iff_toInt_le, ← Int32.toInt_inj, Int32.reduceToInt] at *
  omega
theorem own_sg9 {j : Int32} (q1 : ¬ j < 123) (q2 : j < 128) : ¬ own_stP j := by
  simp only [own_stP, Int32.lt_iff_toInt_lt, Int32.le_iff_toInt_le, ← Int32.toInt_inj, Int32.reduceToInt] at *
  omega
set_option maxRecDepth 65536 in
set_option maxHeartbeats 40000000 in
theorem comes_1 {Post : Tables → Env → Array Value → State → Outcome → State → Prop} (hpost : ∀ tb e args s v u, (limb_1_1.after args s (.returned v) u = true ∧ limb_1_2.after args s (.returned v) u = true ∧ True) → FrameEnd s (.returned v) u (Jvm.fieldLocs frame_1_writes args s ++ Jvm.arrayLocs frame_1_arrays args s ++ Jvm.staticLocs frame_1_statics s) 0 0 → Post tb e args s (.returned v) u) :
    ArmFor flags0 classFile x code maxLocals ret World_1 tables_1 room_1 Calls_1 rest_1 Pre_1 Post := by
  intro l hfl _ _ p e ha hc hk s m args below hf hA hF happ hP
  obtain ⟨hcalls, hrest, hpre⟩ := hP
  obtain ⟨-, -, -, hnamed, -, -, -, hat⟩ := (Spec.applies_iff hf).mp happ
  obtain ⟨hg, hn⟩ := and_e (Cond.before_iff.mp (show (Jvm.Cond.and given_1 narrow_1).before args s = true from hpre))
  obtain ⟨g0, gr0⟩ := and_e hg
  have ga0 := gr0
  obtain ⟨w0, rfl⟩ : ∃ w0 : Value, args = #[w0] := by
    have hs : args.size = 1 := by simpa [Cond.value, given_1] using g0
    obtain ⟨L⟩ := args
    match L, hs with
    | [w0], _ => exact ⟨w0, rfl⟩
  have hw := fun d (hd : d ∈ tables_1) => atoms_spec (ws := Jvm.Cond.code x code maxLocals ret :: tables_1) hat d (List.mem_cons_of_mem _ hd)
  have hfit : Fit s := fun {y c} hc i hi => by
    obtain ⟨ha, rfl⟩ := Array.getElem?_eq_some_iff.mp hc
    have q := List.all_eq_true.mp ((Array.all_eq_true_iff_forall_mem.mp hF) _ (Array.getElem_mem ha)) i (List.mem_range.mpr hi)
    simpa [Array.getElem?_eq_getElem hi] using q
  obtain ⟨i0, e0⟩ := is_v ga0
  obtain rfl : w0 = (.int i0) := Option.some.inj e0
  have r0 := hn
  obtain ⟨n1, r1⟩ := and_e r0
  obtain ⟨n2, r2⟩ := and_e r1
  obtain ⟨n3, r3⟩ := and_e r2
  obtain ⟨n4, r4⟩ := and_e r3
  obtain ⟨n5, r5⟩ := and_e r4
  obtain ⟨n6, r6⟩ := and_e r5
  obtain ⟨n7, r7⟩ := and_e r6
  obtain ⟨n8, r8⟩ := and_e r7
  have n9 := r8
  obtain ⟨a, ev⟩ := arr_v n1
  obtain ⟨cl, A⟩ := Arr.start ev n1
  have S : Sta s s.heap "com/example/gatesmith/gatesmith/dataflow/VerilogIdentifier" "STARTS" "[Z" (.ref a) := Sta.start ev (Or.inr ⟨hw _ (List.mem_of_getElem? (i := 3) rfl), hw _ (List.mem_of_getElem? (i := 6) rfl)⟩)
  have hat2 : s.arrayAt? a = some cl := A.fin (Vm.Alike.refl _)
  have hsz := own_len ev hat2 n2 (by decide)
  have E : ∀ j : Int32, ¬ j < 0 → j < 128 → cl.slots[j.toNatClampNeg]? = some (.int (own_st j)) := by
    intro j h0 h1
    have hi : j.toNatClampNeg < cl.slots.size := by
      have q := inb_of hsz ⟨h0, h1⟩
      omega
    have ix : (Term.index 0).eval #[.int i0] s none [j.toNatClampNeg] s = some (.int j) := idx_at h0
    have evx : ∀ ii : List Nat, Term.eval #[.int i0] s none ii s (Term.static "com/example/gatesmith/gatesmith/dataflow/VerilogIdentifier" "STARTS" "[Z") = some (.ref a) := fun _ => ev
    have g3 := own_all ev hat2 n3 _ hi
    have f3 : ¬ j < 0 → j < 65 → cl.slots[j.toNatClampNeg]? = some (.int 0) := fun q1 q2 => by
      rcases own_or g3 with q | w
      · exact (own_lx3 (gotT (Cond.le_ints (Term.int_eval _) ix) q) q2).elim
      exact own_el (evx _) hat2 ix w
    have g4 := own_all ev hat2 n4 _ hi
    have f4 : ¬ j < 65 → j < 91 → cl.slots[j.toNatClampNeg]? = some (.int 1) := fun q1 q2 => by
      rcases own_or g4 with q | w
      · exact absurd (gotT (Cond.lt_ints ix (Term.int_eval _)) q) q1
      rcases own_or w with q | w
      · exact (own_lx4 (gotT (Cond.le_ints (Term.int_eval _) ix) q) q2).elim
      exact own_el (evx _) hat2 ix w
    have g5 := own_all ev hat2 n5 _ hi
    have f5 : ¬ j < 91 → j < 95 → cl.slots[j.toNatClampNeg]? = some (.int 0) := fun q1 q2 => by
      rcases own_or g5 with q | w
      · exact absurd (gotT (Cond.lt_ints ix (Term.int_eval _)) q) q1
      rcases own_or w with q | w
      · exact (own_lx5 (gotT (Cond.le_ints (Term.int_eval _) ix) q) q2).elim
      exact own_el (evx _) hat2 ix w
    have f6 : ¬ j < 95 → j < 96 → cl.slots[j.toNatClampNeg]? = some (.int 1) := fun q1 q2 => by
      rw [own_pt6 q1 q2]
      exact own_el (evx _) hat2 (Term.int_eval _) n6
    have f7 : ¬ j < 96 → j < 97 → cl.slots[j.toNatClampNeg]? = some (.int 0) := fun q1 q2 => by
      rw [own_pt7 q1 q2]
      exact own_el (evx _) hat2 (Term.int_eval _) n7
    have g8 := own_all ev hat2 n8 _ hi
    have f8 : ¬ j < 97 → j < 123 → cl.slots[j.toNatClampNeg]? = some (.int 1) := fun q1 q2 => by
      rcases own_or g8 with q | w
      · exact absurd (gotT (Cond.lt_ints ix (Term.int_eval _)) q) q1
      rcases own_or w with q | w
      · exact (own_lx8 (gotT (Cond.le_ints (Term.int_eval _) ix) q) q2).elim
      exact own_el (evx _) hat2 ix w
    have g9 := own_all ev hat2 n9 _ hi
    have f9 : ¬ j < 123 → j < 128 → cl.slots[j.toNatClampNeg]? = some (.int 0) := fun q1 q2 => by
      rcases own_or g9 with q | w
      · exact absurd (gotT (Cond.lt_ints ix (Term.int_eval _)) q) q1
      exact own_el (evx _) hat2 ix w
    by_cases c3 : j < 65
    · rw [f3 h0 c3]
      exact own_some (own_st0 (own_sg3 h0 c3)).symm
    by_cases c4 : j < 91
    · rw [f4 c3 c4]
      exact own_some (own_st1 (own_sg4 c3 c4)).symm
    by_cases c5 : j < 95
    · rw [f5 c4 c5]
      exact own_some (own_st0 (own_sg5 c4 c5)).symm
    by_cases c6 : j < 96
    · rw [f6 c5 c6]
      exact own_some (own_st1 (own_sg6 c5 c6)).symm
    by_cases c7 : j < 97
    · rw [f7 c6 c7]
      exact own_some (own_st0 (own_sg7 c6 c7)).symm
    by_cases c8 : j < 123
    · rw [f8 c7 c8]
      exact own_some (own_st1 (own_sg8 c7 c8)).symm
    rw [f9 c8 h1]
    exact own_some (own_st0 (own_sg9 c8 h1)).symm
  obtain ⟨n, o, h1, h2, h3, _, L, rfl, ⟨rfl, -, rfl⟩, hq⟩ := met_law l s _ hw i0 a cl A hsz S E p e ha hc hk s m _ below hf ((Spec.applies_iff_loose hf).mp happ).1 ⟨rfl, State.Warmed39.refl s, rfl⟩ trivial
  refine ⟨n, _, h1, h2, h3, hpost _ _ _ _ _ _ ⟨Cond.after_iff.mpr rfl, Cond.after_iff.mpr (eq_i res_at (Term.int_eval (1)) rfl), trivial⟩ ⟨hq.1, hq.2.1, (hq.2.2.sift fun y hy => nomatch hy).mono (by decide) (by decide)⟩⟩
theorem main_1_1 : Claimed_1_1 := comes_1 fun _ _ _ _ _ _ h hF => ⟨h.1, hF⟩
theorem main_1_2 : Claimed_1_2 := comes_1 fun _ _ _ _ _ _ h hF => ⟨h.2.1, hF⟩
end Jvm.Pilot.@@N@@
namespace Jvm.Pilot.@@N@@
open Jvm Jvm.ClassFile Sem Op Lib Jvm.Free Jvm.Stand Jvm.Pilot.@@N@@.Jvm.D
/-! MADE BY PROGRAM (witnessworld.py) out of the Statement's table words and the real class files: 9 classes; the members and pool entries that the words name. The judged class is class 1, her method 2. -/
namespace start1
open Jvm.ClassFile
def u (s : String) : CpInfo := .utf8 (stringToUtf16 s)
/-- a pool by its gaps: so many unusable entries, then the entry; so many at the end -/
def gap : Nat → List CpInfo → List CpInfo
  | 0, r => r
  | n + 1, r => .unusable :: gap n r
def poolList (es : List (Nat × CpInfo)) (last : Nat) : List CpInfo := es.foldr (fun e r => gap e.1 (e.2 :: r)) (gap last [])
def pool (es : List (Nat × CpInfo)) (last : Nat) : Array CpInfo := ⟨poolList es last⟩
def fileOf (pool : Array CpInfo) (this : Nat) (attrs : Array Attribute := #[]) (ms : Array MethodInfo := #[]) (fl : Nat := 33) (sup : Nat := 0) (ifs : Array Nat := #[]) (fds : Array FieldInfo := #[]) : ClassFile where
  minorVersion := 0
  majorVersion := 65
  constantPool := pool
  accessFlags := fl
  thisClass := this
  superClass := sup
  interfaces := ifs
  fields := fds
  methods := ms
  attributes := attrs
def plain (name : String) (sup : Option ClassId) : Class where
  name := name
  kind := .ordinary
  loader := none
  accessFlags := 33
  super := sup
  interfaces := #[]
  cf := none
  fields := #[]
  methods := #[]
  instanceTypes := #[]
  staticTypes := #[]
  resolved := #[]
  callSites := []
  init := .initialized
  statics := none
  mirror := none

def pool0 : Array CpInfo := pool [(5, u "<init>"), (0, u "()V"), (1, .class_ 10), (1, u "java/lang/Object")] 113

def k0m0 : Method := { name := "<init>", desc := "()V", sig := { parameters := [], returnType := none }, accessFlags := 1, code := none }
/-- java/lang/Object -/
def k0 : Class := { plain "java/lang/Object" none with
  accessFlags := 33
  interfaces := #[]
  cf := some (fileOf pool0 8 #[] #[{ accessFlags := 1, nameIndex := 5, descriptorIndex := 6, attributes := #[] }] 33 0 #[] #[])
  fields := #[]
  methods := #[k0m0]
  instanceTypes := #[]
  staticTypes := #[]
  resolved := Array.replicate 124 none
  statics := none }

def pool1 : Array CpInfo := pool [(2, .class_ 4), (1, u "java/lang/Object"), (0, u "<init>"), (0, u "()V"), (0, .integer 65535), (0, .methodref 9 10), (0, .class_ 11), (0, .nameAndType 12 13), (0, u "com/example/gatesmith/gatesmith/dataflow/VerilogIdentifier"), (0, u "isStart"), (0, u "(C)Z"), (0, .methodref 15 16), (0, .class_ 17), (0, .nameAndType 18 13), (0, u "com/example/gatesmith/gatesmith/dataflow/VerilogIdentifierIsStartPinLaw"), (0, u "expected"), (3, u "law"), (0, u "(I)Z")] 2

def k1m0 : Method := { name := "<init>", desc := "()V", sig := { parameters := [], returnType := none }, accessFlags := 2, code := none }
def k1c1 : Code := { maxStack := 2, maxLocals := 1, code := method_2_code, exceptionTable := #[], attributes := #[] }
def k1m1 : Method := { name := "expected", desc := "(C)Z", sig := { parameters := [.char], returnType := some .boolean }, accessFlags := 10, code := some k1c1 }
def k1c2 : Code := { maxStack := 2, maxLocals := 2, code := code, exceptionTable := #[], attributes := #[] }
def k1m2 : Method := { name := "law", desc := "(I)Z", sig := { parameters := [.int], returnType := some .boolean }, accessFlags := 9, code := some k1c2 }
/-- com/example/gatesmith/gatesmith/dataflow/VerilogIdentifierIsStartPinLaw -/
def k1 : Class := { plain "com/example/gatesmith/gatesmith/dataflow/VerilogIdentifierIsStartPinLaw" (some 0) with
  accessFlags := 49
  interfaces := #[]
  cf := some (fileOf pool1 15 #[] #[{ accessFlags := 2, nameIndex := 5, descriptorIndex := 6, attributes := #[] }, { accessFlags := 10, nameIndex := 18, descriptorIndex := 13, attributes := #[] }, { accessFlags := 9, nameIndex := 22, descriptorIndex := 23, attributes := #[] }] 49 2 #[] #[])
  fields := #[]
  methods := #[k1m0, k1m1, k1m2]
  instanceTypes := #[]
  staticTypes := #[]
  resolved := Array.replicate 26 none
  statics := none }

def pool2 : Array CpInfo := pool [(1, .class_ 2), (0, u "com/example/gatesmith/gatesmith/dataflow/VerilogIdentifier"), (1, .class_ 6), (1, u "java/lang/Object"), (0, u "<init>"), (0, u "()V"), (2, u "SIMPLE_PATTERN"), (0, u "Ljava/util/regex/Pattern;"), (12, .fieldref 1 26), (0, .nameAndType 27 28), (0, u "STARTS"), (0, u "[Z"), (2, u "PARTS"), (20, u "START"), (0, u "Ljava/lang/String;"), (1, u "PART"), (0, u "SIMPLE"), (0, u "SYSTEM"), (6, u "isStart"), (0, u "(C)Z")] 6

def k2m0 : Method := { name := "<init>", desc := "()V", sig := { parameters := [], returnType := none }, accessFlags := 2, code := none }
def k2c1 : Code := { maxStack := 2, maxLocals := 1, code := prog_35_method_3_code, exceptionTable := #[], attributes := #[] }
def k2m1 : Method := { name := "isStart", desc := "(C)Z", sig := { parameters := [.char], returnType := some .boolean }, accessFlags := 9, code := some k2c1 }
/-- com/example/gatesmith/gatesmith/dataflow/VerilogIdentifier -/
def k2 : Class := { plain "com/example/gatesmith/gatesmith/dataflow/VerilogIdentifier" (some 0) with
  accessFlags := 49
  interfaces := #[]
  cf := some (fileOf pool2 1 #[] #[{ accessFlags := 2, nameIndex := 7, descriptorIndex := 8, attributes := #[] }, { accessFlags := 9, nameIndex := 64, descriptorIndex := 65, attributes := #[] }] 49 4 #[] #[{ accessFlags := 26, nameIndex := 52, descriptorIndex := 53, attributes := #[] }, { accessFlags := 25, nameIndex := 55, descriptorIndex := 53, attributes := #[] }, { accessFlags := 25, nameIndex := 56, descriptorIndex := 53, attributes := #[] }, { accessFlags := 25, nameIndex := 57, descriptorIndex := 53, attributes := #[] }, { accessFlags := 26, nameIndex := 11, descriptorIndex := 12, attributes := #[] }, { accessFlags := 26, nameIndex := 27, descriptorIndex := 28, attributes := #[] }, { accessFlags := 26, nameIndex := 31, descriptorIndex := 28, attributes := #[] }])
  fields := #[{ name := "START", type := (.object "java/lang/String"), accessFlags := 26, slot := 0, constantValue := 0 }, { name := "PART", type := (.object "java/lang/String"), accessFlags := 25, slot := 1, constantValue := 0 }, { name := "SIMPLE", type := (.object "java/lang/String"), accessFlags := 25, slot := 2, constantValue := 0 }, { name := "SYSTEM", type := (.object "java/lang/String"), accessFlags := 25, slot := 3, constantValue := 0 }, { name := "SIMPLE_PATTERN", type := (.object "java/util/regex/Pattern"), accessFlags := 26, slot := 4, constantValue := 0 }, { name := "STARTS", type := (.array .boolean), accessFlags := 26, slot := 5, constantValue := 0 }, { name := "PARTS", type := (.array .boolean), accessFlags := 26, slot := 6, constantValue := 0 }]
  methods := #[k2m0, k2m1]
  instanceTypes := #[]
  staticTypes := #[(.object "java/lang/String"), (.object "java/lang/String"), (.object "java/lang/String"), (.object "java/lang/String"), (.object "java/util/regex/Pattern"), (.array .boolean), (.array .boolean)]
  resolved := Array.replicate 72 none
  statics := some 0 }

def pool3 : Array CpInfo := pool [(1, u "java/lang/Cloneable"), (0, .class_ 1), (0, u "java/lang/Object"), (0, .class_ 3)] 3

/-- java/lang/Cloneable -/
def k3 : Class := { plain "java/lang/Cloneable" (some 0) with
  accessFlags := 1537
  interfaces := #[]
  cf := some (fileOf pool3 2 #[] #[] 1537 4 #[] #[])
  fields := #[]
  methods := #[]
  instanceTypes := #[]
  staticTypes := #[]
  resolved := Array.replicate 8 none
  statics := none }

def pool4 : Array CpInfo := pool [(1, u "java/io/Serializable"), (0, .class_ 1), (0, u "java/lang/Object"), (0, .class_ 3)] 3

/-- java/io/Serializable -/
def k4 : Class := { plain "java/io/Serializable" (some 0) with
  accessFlags := 1537
  interfaces := #[]
  cf := some (fileOf pool4 2 #[] #[] 1537 4 #[] #[])
  fields := #[]
  methods := #[]
  instanceTypes := #[]
  staticTypes := #[]
  resolved := Array.replicate 8 none
  statics := none }

/-- the primitive boolean -/
def k5 : Class := { plain "boolean" none with kind := .primitive 'Z', accessFlags := 0x411 }
/-- [Z -/
def k6 : Class := { plain "[Z" (some 0) with kind := .array 5 .boolean, interfaces := #[3, 4], accessFlags := 1041 }

/-- the primitive byte -/
def k7 : Class := { plain "byte" none with kind := .primitive 'B', accessFlags := 0x411 }
/-- [B -/
def k8 : Class := { plain "[B" (some 0) with kind := .array 7 .byte, interfaces := #[3, 4], accessFlags := 1041 }

def heap : Heap := #[{ cls := 2, slots := #[.null, .null, .null, .null, .null, .ref 1, .null], vm := .statics 2 },
  { cls := 6, slots := #[.int 0, .int 0, .int 0, .int 0, .int 0, .int 0, .int 0, .int 0, .int 0, .int 0, .int 0, .int 0, .int 0, .int 0, .int 0, .int 0, .int 0, .int 0, .int 0, .int 0, .int 0, .int 0, .int 0, .int 0, .int 0, .int 0, .int 0, .int 0, .int 0, .int 0, .int 0, .int 0, .int 0, .int 0, .int 0, .int 0, .int 0, .int 0, .int 0, .int 0, .int 0, .int 0, .int 0, .int 0, .int 0, .int 0, .int 0, .int 0, .int 0, .int 0, .int 0, .int 0, .int 0, .int 0, .int 0, .int 0, .int 0, .int 0, .int 0, .int 0, .int 0, .int 0, .int 0, .int 0, .int 0, .int 1, .int 1, .int 1, .int 1, .int 1, .int 1, .int 1, .int 1, .int 1, .int 1, .int 1, .int 1, .int 1, .int 1, .int 1, .int 1, .int 1, .int 1, .int 1, .int 1, .int 1, .int 1, .int 1, .int 1, .int 1, .int 1, .int 0, .int 0, .int 0, .int 0, .int 1, .int 0, .int 1, .int 1, .int 1, .int 1, .int 1, .int 1, .int 1, .int 1, .int 1, .int 1, .int 1, .int 1, .int 1, .int 1, .int 1, .int 1, .int 1, .int 1, .int 1, .int 1, .int 1, .int 1, .int 1, .int 1, .int 1, .int 1, .int 0, .int 0, .int 0, .int 0, .int 0], vm := .none }]
def classes : Array Class := #[k0, k1, k2, k3, k4, k5, k6, k7, k8]
def interned : List (Array UInt16 × Addr) := []
def slotsUsed : Nat := 135
def theMethod : MethodId := ⟨1, 2⟩
def args0 : Array Value := #[.int 5]
def aboutOver (below : List Frame) : State where
  vm := { classes := classes, interned := interned.toArray }
  heap := heap
  slotsUsed := slotsUsed
  threads := #[{ frames := .invoking theMethod args0 :: below }]
def below0 : List Frame := [.native { method := ⟨0, 0⟩, args := #[] }]
def about1 : State := aboutOver below0
def p0 : Program := .bare "" "" ""
def e0 : Env := launch0.env 0 0 0
theorem w_frames : about1.frames = Frame.invoking theMethod args0 :: below0 := rfl
set_option maxRecDepth 65536 in
theorem w_args : argsFit about1.vm theMethod args0 = true := by decide +kernel
set_option maxRecDepth 65536 in
theorem w_heap : heapFits about1 = true := by decide +kernel
set_option maxRecDepth 65536 in
theorem w_runnable : about1.curStatus? = some .runnable := by decide +kernel
set_option maxRecDepth 65536 in
theorem w_alone : about1.alone = true := by decide +kernel
set_option maxRecDepth 65536 in
theorem w_named : about1.methodNamed? x = some theMethod := by decide +kernel
set_option maxRecDepth 65536 in
theorem w_hears : about1.hears theMethod below0 = true := by decide +kernel
set_option maxRecDepth 65536 in
theorem w_ripe : about1.ripe theMethod args0 below0 = true := by decide +kernel
theorem w_running : about1.status = .running := rfl
set_option maxRecDepth 65536 in
theorem w_room : about1.hasRoom e0.platform room_1 = true :=
  launch0.hasRoom_least _ room_1 (by decide +kernel) (by decide +kernel) (by decide +kernel) (by decide +kernel) (by decide +kernel) (by decide +kernel)
theorem allAtoms_all (ts : List Jvm.Cond) (a : Array Jvm.Value) (st : Jvm.State) : (allAtoms ts).before a st = ts.all (fun c => c.before a st) := by
  induction ts with
  | nil => rfl
  | cons c t ih =>
    show (Jvm.Cond.and c (allAtoms t)).before a st = _
    rw [Jvm.Cond.before_and, ih, List.all_cons]
def words1 : List Jvm.Cond := Jvm.Cond.code x code maxLocals ret :: tables_1
/-- a 'code' word, met by the world's own term for the bytes: nothing is compared byte by byte -/
theorem code_word {y : MethodName} {bytes : ByteArray} {mx : Nat} {rt : Option FieldType} {a : Array Value} {s : State} {m : MethodId} {meth : Method} {c : Code} (h1 : s.methodNamed? y = some m) (h2 : s.vm.method? m = some meth) (h3 : meth.code = some c) (h4 : c.code = bytes)
    (h5 : (c.maxLocals == mx && c.exceptionTable.isEmpty && decide (c.maxStack ≤ mostOperands) && decide (meth.sig.returnType = rt) && !meth.locks && decide (parseMethodDescriptor y.desc = some meth.sig)) = true) : (Jvm.Cond.code y bytes mx rt).before a s = true := by
  simp only [Bool.and_eq_true, beq_iff_eq, Bool.not_eq_true', decide_eq_true_eq] at h5
  obtain ⟨⟨⟨⟨⟨g1, g2⟩, g3⟩, g4⟩, g5⟩, g6⟩ := h5
  simp [Cond.before, Cond.holds, Cond.value, h1, h2, h3, h4, g1, g2, g3, g4, g5, g6]
def isCode : Jvm.Cond → Bool
  | .code _ _ _ _ => true
  | _ => false
theorem all_split {L : List Jvm.Cond} {P : Jvm.Cond → Bool} (h1 : L.all (fun c => isCode c || P c) = true) (h2 : ∀ c ∈ L.filter isCode, P c = true) : L.all P = true := by
  refine List.all_eq_true.mpr fun c hc => ?_
  have h := List.all_eq_true.mp h1 c hc
  rcases Bool.eq_false_or_eq_true (isCode c) with hi | hi
  · exact h2 c (List.mem_filter.mpr ⟨hc, hi⟩)
  · simpa [hi] using h
set_option maxRecDepth 65536 in
theorem w_c0 : (Jvm.Cond.code x code maxLocals ret).before args0 about1 = true := code_word (m := ⟨1, 2⟩) (meth := k1m2) (c := k1c2) (by decide +kernel) rfl rfl rfl (by decide +kernel)
set_option maxRecDepth 65536 in
theorem w_c1 : (Jvm.Cond.code ({ cls := "com/example/gatesmith/gatesmith/dataflow/VerilogIdentifier", name := "isStart", desc := "(C)Z" } : Jvm.MethodName) prog_35_method_3_code (1 : Nat) (Option.some Jvm.ClassFile.FieldType.boolean)).before args0 about1 = true := code_word (m := ⟨2, 1⟩) (meth := k2m1) (c := k2c1) (by decide +kernel) rfl rfl rfl (by decide +kernel)
set_option maxRecDepth 65536 in
theorem w_c2 : (Jvm.Cond.code ({ cls := "com/example/gatesmith/gatesmith/dataflow/VerilogIdentifierIsStartPinLaw", name := "expected", desc := "(C)Z" } : Jvm.MethodName) method_2_code (1 : Nat) (Option.some Jvm.ClassFile.FieldType.boolean)).before args0 about1 = true := code_word (m := ⟨1, 1⟩) (meth := k1m1) (c := k1c1) (by decide +kernel) rfl rfl rfl (by decide +kernel)
def codes1 : List Jvm.Cond := [Jvm.Cond.code x code maxLocals ret, Jvm.Cond.code ({ cls := "com/example/gatesmith/gatesmith/dataflow/VerilogIdentifier", name := "isStart", desc := "(C)Z" } : Jvm.MethodName) prog_35_method_3_code (1 : Nat) (Option.some Jvm.ClassFile.FieldType.boolean), Jvm.Cond.code ({ cls := "com/example/gatesmith/gatesmith/dataflow/VerilogIdentifierIsStartPinLaw", name := "expected", desc := "(C)Z" } : Jvm.MethodName) method_2_code (1 : Nat) (Option.some Jvm.ClassFile.FieldType.boolean)]
set_option maxRecDepth 65536 in
theorem codes_eq : words1.filter isCode = codes1 := rfl
theorem w_codes : ∀ c ∈ words1.filter isCode, c.before args0 about1 = true := by
  rw [codes_eq]
  intro c hc
  simp only [codes1, List.mem_cons, List.not_mem_nil, or_false] at hc
  rcases hc with rfl | rfl | rfl
  · exact w_c0
  · exact w_c1
  · exact w_c2
set_option maxRecDepth 65536 in
theorem w_t1 : words1.all (fun c => isCode c || c.before args0 about1) = true := by decide +kernel
theorem w_tables : (allAtoms (Jvm.Cond.code x code maxLocals ret :: tables_1)).before args0 about1 = true := by
  rw [allAtoms_all]
  show words1.all (fun c => c.before args0 about1) = true
  refine all_split ?_ w_codes
  rw [w_t1]
set_option maxRecDepth 65536 in
theorem w_case : (Jvm.Cond.and given_1 narrow_1).before args0 about1 = true := by decide +kernel
theorem w_applies : (headSpec (Jvm.Cond.code x code maxLocals ret :: tables_1) room_1).applies x e0.platform about1 = true :=
  (Spec.applies_iff w_frames).mpr ⟨w_running, w_runnable, w_alone, w_named, w_hears, w_ripe, w_room, w_tables⟩
theorem atStart : AtStart classFile x code maxLocals ret World_1 tables_1 room_1 Calls_1 rest_1 Pre_1 launch0 p0 e0 about1 theMethod args0 below0 :=
  ⟨lists_1, trivial, launch0.admits_env _ _ _, launch0.least_env, fairChoices_fair.cas, fairChoices_fair.clock, w_frames, w_args, w_heap, w_applies, trivial, trivial, w_case⟩
end start1
theorem witness_1 : WitnessClaimed_1 := ⟨start1.p0, start1.e0, start1.about1, start1.theMethod, start1.args0, start1.below0, start1.atStart⟩
end Jvm.Pilot.@@N@@
