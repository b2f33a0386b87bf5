import JvmDerived
import JvmDerived.Pilot.@@N@@Statement
import JvmDerived.Pilot.@@N@@Code
set_option linter.unusedVariables false
set_option linter.unusedSimpArgs false
@@BLOCK:NumsL.lean.txt@@
namespace Jvm.Pilot.@@N@@
open Jvm Jvm.ClassFile Sem Op Lib Jvm.Free Jvm.Stand Jvm.LawKit Jvm.RoadKit Bundle Jvm.Pilot.@@N@@.Jvm.D
section Own
variable {p : Program} {l : Launch} {e : Env} {R : Room} {s : State} {m : MethodId} {args : Array Value} {below : List Frame} {meth : Method} {c : Code} {Z : State} {a0 : Array Value} {own : String} {cd : ByteArray} {mx : Nat} {ret : Option FieldType} {Q : Option Value → Prop}
/-- what a walk knows of its own method -/
def Ctx (p : Program) (s : State) (m : MethodId) (meth : Method) (c : Code) (Z : State) (own : String) (cd : ByteArray) (mx : Nat) (ret : Option FieldType) : Prop :=
  p.tables.exec = Jvm.exec ∧ Z.Warmed39 s.vm ∧ s.vm.findClass own = some m.cls ∧ meth.sig.returnType = ret ∧ meth.locks = false ∧ c.code = cd ∧ c.maxLocals = mx
/-- from this frame the run returns, and Q holds of what it returns -/
def Go (p : Program) (l : Launch) (e : Env) (R : Room) (s : State) (m : MethodId) (args : Array Value) (below : List Frame) (meth : Method) (c : Code) (Z : State) (Q : Option Value → Prop) (pc : Nat) (Ls : Array Slot) (st : List Value) : Prop :=
  ∀ T, Stand p l e R s m args below meth c T [] 0 0 → T.heap = Z.heap → ∃ t v, Steps p.tables e below (T.setTop (mkF m pc Ls st)) t ∧ t.status = .running ∧ Ended t below (.returned v) ∧ FrameEnd s (.returned v) t [] 0 0 ∧ t.heap = Z.heap ∧ Q v
theorem Go.pure {pc pc' : Nat} {Ls Ls' : Array Slot} {st st' : List Value} (hs : ∀ T t, At T m c below → Steps p.tables e below (T.setTop (mkF m pc' Ls' st')) t → Steps p.tables e below (T.setTop (mkF m pc Ls st)) t) (K : Go p l e R s m args below meth c Z Q pc' Ls' st') : Go p l e R s m args below meth c Z Q pc Ls st := fun T X eh => by
  obtain ⟨t, v, h1, r⟩ := K T X eh
  exact ⟨t, v, hs T t X.here h1, r⟩
/-- a contract: called with these arguments it returns, changes nothing, and Q holds of what it returns -/
def Met (l : Launch) (Z : State) (y : MethodName) (cd : ByteArray) (mx : Nat) (ret : Option FieldType) (ws : List Jvm.Cond) (rm : Room) (as : Array Value) (Q : Option Value → Prop) : Prop :=
  MetFree l y (head1 (Jvm.Cond.code y cd mx ret :: ws) rm) (fun a U => a = as ∧ Z.Warmed39 U.vm ∧ U.heap = Z.heap) (fun _ _ _ _ _ => True) (fun _ U o U' => ∃ v L, o = .returned v ∧ (L = [] ∧ U'.heap = Z.heap ∧ Q v) ∧ FrameEnd U o U' L rm.cells rm.slots)
theorem Met.intro {y : MethodName} {ws : List Jvm.Cond} {rm : Room} {as : Array Value} {Ls : Array Slot} (hpl : plainName y.cls = true) (hent : ∀ m, entryFrame m as mx = mkF m 0 Ls []) (hc : rm.cells = 0) (hn : rm.slots = 0)
    (K : ∀ p e s m below meth c, Ctx p s m meth c Z y.cls cd mx ret → Go p l e rm s m as below meth c Z Q 0 Ls []) : Met l Z y cd mx ret ws rm as Q := by
  refine MetFree.of_bodySF (plainFor_of_name hpl) hisR ?_
  intro p e s m args below meth c s₁ Bd hml0 hP hK
  obtain ⟨rfl, hZ, hh⟩ := hP
  have X0 : Stand p l e rm s m args below meth c s₁ [] 0 0 := Stand.of_body Bd
  have e0 : s₁.heap = Z.heap := by rw [← hh, Bd.state]; rfl
  obtain ⟨t, v, h1, h2, h3, h4, h5, h6⟩ := K p e s m below meth c ⟨Bd.exec, hZ, findClass_of_methodNamed Bd.named, Bd.returns, Bd.notSynchronized, Bd.bytes, hml0⟩ s₁ X0 e0
  exact ⟨t, _, castTop (hent m) h1, h2, h3, v, [], rfl, ⟨rfl, h5, h6⟩, by rw [hc, hn]; exact h4⟩
theorem Ctx.call (C : Ctx p s m meth c Z own cd mx ret) {pc : Nat} {Ls : Array Slot} {st : List Value} (pc' : Nat) {i : Nat} {y : MethodName} {cd' : ByteArray} {mx' : Nat} {ret' : Option FieldType} {rm : Room} {Q' : Option Value → Prop} (argsL rest : List Value)
    (hd : decode cd pc = .ok (.invokestatic i, 3)) (hM : Met l Z y cd' mx' ret' [] rm argsL.toArray Q') (w1 : (Cond.methodLink own i y).before a0 Z = true) (w2 : (Cond.static y).before a0 Z = true) (w3 : (Cond.initialized y.cls).before a0 Z = true) (w4 : (Cond.code y cd' mx' ret').before a0 Z = true)
    (hy : y.cls ≠ "java/lang/invoke/MethodHandle" ∧ y.cls ≠ "java/lang/invoke/VarHandle") (hsz : Ls.size = mx) (hlen : ∀ sig, parseMethodDescriptor y.desc = some sig → argsL.length = sig.parameters.length) (hf : rm.frames + 1 ≤ R.frames) {W : Nat} (hW : 2 * 0 + (rest.map fun v => v.category).sum ≤ W) (hl : W + (mx' + 11) + rm.locals ≤ R.locals) (hrc : rm.cells = 0) (hrs : rm.slots = 0) (hst : st = argsL.reverse ++ rest)
    (K : ∀ v, Q' v → Go p l e R s m args below meth c Z Q pc' Ls (v.toList ++ rest)) (hp : pc + 3 = pc' := by rfl) : Go p l e R s m args below meth c Z Q pc Ls st := by
  subst hp hst
  obtain ⟨hx, hZ, hown, hret, hlk, hby, hmx⟩ := C
  intro T X eh
  obtain ⟨v, vm₁, ⟨T2, L2, k2, n2⟩, -, X2, ⟨Lc, hQ, l2, y2, z2⟩, st2⟩ := Jvm.LawKit.callS X hx hown (mvT hZ w1) (mvT hZ w2) (mvT hZ w3) (mvT hZ w4) hy (backOf (W := W) (h := Z.heap) (as' := argsL.toArray) (Q := fun v hh L => L = [] ∧ hh = Z.heap ∧ Q' v) hM hZ w4 w3 hf hl) (g := mkF m pc Ls (argsL.reverse ++ rest)) rfl (hsz.trans hmx.symm) hlen rfl hW (hb hby hd) (fun _ _ => ⟨rfl, eh, by rw [hrc]; exact Nat.zero_le _, by rw [hrs]; exact Nat.zero_le _⟩)
  dsimp only [Pt.U, Pt.locs, Pt.cells, Pt.slots] at X2 l2 y2 z2 st2 hQ
  obtain ⟨rfl, h2, hq⟩ := hQ
  rw [hrc] at y2
  rw [hrs] at z2
  subst l2 y2 z2
  obtain ⟨t, v', h1, r⟩ := K v hq T2 X2 h2
  exact ⟨t, v', st2 _ h1, r⟩
theorem Ctx.ldcI (C : Ctx p s m meth c Z own cd mx ret) {pc : Nat} {Ls : Array Slot} {st : List Value} (pc' : Nat) {i : Nat} {v : Int32} (hd : decode cd pc = .ok (.ldc i, 2)) (w : (Cond.constant own i v).before a0 Z = true) (K : Go p l e R s m args below meth c Z Q pc' Ls (.int v :: st)) (hp : pc + 2 = pc' := by rfl) : Go p l e R s m args below meth c Z Q pc Ls st := by
  subst hp
  intro T X eh
  obtain ⟨t, v', h1, r⟩ := K T X eh
  exact ⟨t, v', Jvm.Stand.ldcI X C.1 C.2.2.1 (mvT C.2.1 w) rfl (hb C.2.2.2.2.2.1 hd) h1, r⟩
theorem Ctx.ldc2 (C : Ctx p s m meth c Z own cd mx ret) {pc : Nat} {Ls : Array Slot} {st : List Value} (pc' : Nat) {i : Nat} {v : Int64} (hd : decode cd pc = .ok (.ldc2_w i, 3)) (w : (Cond.constantLong own i v).before a0 Z = true) (K : Go p l e R s m args below meth c Z Q pc' Ls (.long v :: st)) (hp : pc + 3 = pc' := by rfl) : Go p l e R s m args below meth c Z Q pc Ls st := by
  subst hp
  intro T X eh
  obtain ⟨t, v', h1, r⟩ := K T X eh
  exact ⟨t, v', Jvm.Stand.ldc2J X C.1 C.2.2.1 (mvT C.2.1 w) rfl (hb C.2.2.2.2.2.1 hd) h1, r⟩
theorem Ctx.gets (C : Ctx p s m meth c Z own cd mx ret) {pc : Nat} {Ls : Array Slot} {st : List Value} (pc' : Nat) {i : Nat} {O n d : String} {v : Value} (hd : decode cd pc = .ok (.getstatic i, 3)) (w : (Cond.fieldLink own i O n d).before a0 Z = true) (S : Sta Z Z.heap O n d v) (K : Go p l e R s m args below meth c Z Q pc' Ls (v :: st)) (hp : pc + 3 = pc' := by rfl) : Go p l e R s m args below meth c Z Q pc Ls st := by
  subst hp
  intro T X eh
  obtain ⟨T2, X2, e2, st2⟩ := getS (host := "") X C.1 C.2.1 C.2.2.1 w Via.refl eh S (g := mkF m pc Ls st) rfl (hb C.2.2.2.2.2.1 hd)
  obtain ⟨t, v', h1, r⟩ := K T2 X2 e2
  exact ⟨t, v', st2 _ h1, r⟩
theorem Ctx.alen (C : Ctx p s m meth c Z own cd mx ret) {pc : Nat} {Ls : Array Slot} {st : List Value} (pc' : Nat) {a : Addr} {cl : Cell} {ty : FieldType} {z : Int32} (hd : decode cd pc = .ok (.arraylength, 1)) (A : Arr Z Z.heap a cl ty) (hz : cl.slots.size.toInt32 = z) (K : Go p l e R s m args below meth c Z Q pc' Ls (.int z :: st)) (hp : pc + 1 = pc' := by rfl) : Go p l e R s m args below meth c Z Q pc Ls (.ref a :: st) := by
  subst hp hz
  intro T X eh
  obtain ⟨t, v', h1, r⟩ := K T X eh
  exact ⟨t, v', X.arraylength C.1 (by rw [eh]; exact A.1) (State.isArrayOf_alike C.2.1.alike A.2.1) (g := mkF m pc Ls (.ref a :: st)) rfl rfl (hb C.2.2.2.2.2.1 hd) _ h1, r⟩
theorem Ctx.zaload (C : Ctx p s m meth c Z own cd mx ret) {pc : Nat} {Ls : Array Slot} {st : List Value} (pc' : Nat) {a : Addr} {cl : Cell} {j : Int32} {v : Value} (hd : decode cd pc = .ok (.baload, 1)) (A : Arr Z Z.heap a cl .boolean) (hj : ¬ (j < 0 ∨ cl.slots.size ≤ j.toNatClampNeg)) (hv : cl.slots[j.toNatClampNeg]? = some v) (K : Go p l e R s m args below meth c Z Q pc' Ls (v :: st)) (hp : pc + 1 = pc' := by rfl) : Go p l e R s m args below meth c Z Q pc Ls (.int j :: .ref a :: st) := by
  subst hp
  intro T X eh
  obtain ⟨t, v', h1, r⟩ := K T X eh
  exact ⟨t, v', X.baloadBooleans C.1 (by rw [eh]; exact A.1) (State.isArrayOf_alike C.2.1.alike A.2.1) A.2.2 hj hv (g := mkF m pc Ls (.int j :: .ref a :: st)) rfl rfl (hb C.2.2.2.2.2.1 hd) _ h1, r⟩
theorem Ctx.retN (C : Ctx p s m meth c Z own cd mx ret) {pc : Nat} {Ls : Array Slot} {st : List Value} {z : Int32} {t : FieldType} (hret : ret = some t) (ht : t = .boolean ∨ t = .byte ∨ t = .char ∨ t = .short) (hd : decode cd pc = .ok (.ireturn, 1)) (K : Q (some (.int (nar t z)))) : Go p l e R s m args below meth c Z Q pc Ls (.int z :: st) := by
  intro T X eh
  obtain ⟨fs, hr, hrun, hended, hW, hsame⟩ := X.leave (v := some (.int (nar t z))) (fun h => by rw [C.2.2.2.1, hret] at h; cases h) C.2.2.2.2.1
  exact ⟨_, _, RoadKit.retN X C.1 (C.2.2.2.1.trans hret) ht (hb C.2.2.2.2.2.1 hd) hr, hrun, hended, ⟨⟨_, rfl⟩, hW, hsame⟩, eh, K⟩
theorem Ctx.retI (C : Ctx p s m meth c Z own cd mx ret) {pc : Nat} {Ls : Array Slot} {st : List Value} {z : Int32} (hret : ret = some .int) (hd : decode cd pc = .ok (.ireturn, 1)) (K : Q (some (.int z))) : Go p l e R s m args below meth c Z Q pc Ls (.int z :: st) := by
  intro T X eh
  obtain ⟨fs, hr, hrun, hended, hW, hsame⟩ := X.leave (v := some (.int z)) (fun h => by rw [C.2.2.2.1, hret] at h; cases h) C.2.2.2.2.1
  exact ⟨_, _, retOut X C.1 (C.2.2.2.1.trans hret) rfl (Or.inl ⟨rfl, Or.inl rfl, _, rfl⟩) (hb C.2.2.2.2.2.1 hd) hr, hrun, hended, ⟨⟨_, rfl⟩, hW, hsame⟩, eh, K⟩
theorem Ctx.retL (C : Ctx p s m meth c Z own cd mx ret) {pc : Nat} {Ls : Array Slot} {st : List Value} {z : Int64} (hret : ret = some .long) (hd : decode cd pc = .ok (.lreturn, 1)) (K : Q (some (.long z))) : Go p l e R s m args below meth c Z Q pc Ls (.long z :: st) := by
  intro T X eh
  obtain ⟨fs, hr, hrun, hended, hW, hsame⟩ := X.leave (v := some (.long z)) (fun h => by rw [C.2.2.2.1, hret] at h; cases h) C.2.2.2.2.1
  exact ⟨_, _, retOut X C.1 (C.2.2.2.1.trans hret) rfl (Or.inr (Or.inl ⟨rfl, rfl, _, rfl⟩)) (hb C.2.2.2.2.2.1 hd) hr, hrun, hended, ⟨⟨_, rfl⟩, hW, hsame⟩, eh, K⟩
theorem Ctx.iloadN (C : Ctx p s m meth c Z own cd mx ret) {pc : Nat} {Ls : Array Slot} {st : List Value} (pc' : Nat) {j : Fin 4} {v : Int32} (hd : decode cd pc = .ok (.iload_n j, 1)) (hl : Ls[j.val]? = some (.val (.int v))) (K : Go p l e R s m args below meth c Z Q pc' Ls (.int v :: st)) (hp : pc + 1 = pc' := by rfl) : Go p l e R s m args below meth c Z Q pc Ls (st) := by
  subst hp
  exact Go.pure (fun T t h hr => XS.iloadN h C.1 rfl (hb C.2.2.2.2.2.1 hd) hl hr) K
theorem Ctx.iload (C : Ctx p s m meth c Z own cd mx ret) {pc : Nat} {Ls : Array Slot} {st : List Value} (pc' : Nat) {j : Nat} {v : Int32} (hd : decode cd pc = .ok (.iload j, 2)) (hl : Ls[j]? = some (.val (.int v))) (K : Go p l e R s m args below meth c Z Q pc' Ls (.int v :: st)) (hp : pc + 2 = pc' := by rfl) : Go p l e R s m args below meth c Z Q pc Ls (st) := by
  subst hp
  exact Go.pure (fun T t h hr => XS.iload h C.1 rfl (hb C.2.2.2.2.2.1 hd) hl hr) K
theorem Ctx.lloadN (C : Ctx p s m meth c Z own cd mx ret) {pc : Nat} {Ls : Array Slot} {st : List Value} (pc' : Nat) {j : Fin 4} {v : Int64} (hd : decode cd pc = .ok (.lload_n j, 1)) (hl : Ls[j.val]? = some (.val (.long v))) (K : Go p l e R s m args below meth c Z Q pc' Ls (.long v :: st)) (hp : pc + 1 = pc' := by rfl) : Go p l e R s m args below meth c Z Q pc Ls (st) := by
  subst hp
  exact Go.pure (fun T t h hr => XT.lloadN h C.1 rfl (hb C.2.2.2.2.2.1 hd) hl hr) K
theorem Ctx.lload (C : Ctx p s m meth c Z own cd mx ret) {pc : Nat} {Ls : Array Slot} {st : List Value} (pc' : Nat) {j : Nat} {v : Int64} (hd : decode cd pc = .ok (.lload j, 2)) (hl : Ls[j]? = some (.val (.long v))) (K : Go p l e R s m args below meth c Z Q pc' Ls (.long v :: st)) (hp : pc + 2 = pc' := by rfl) : Go p l e R s m args below meth c Z Q pc Ls (st) := by
  subst hp
  exact Go.pure (fun T t h hr => XT.lload h C.1 rfl (hb C.2.2.2.2.2.1 hd) hl hr) K
theorem Ctx.aloadN (C : Ctx p s m meth c Z own cd mx ret) {pc : Nat} {Ls : Array Slot} {st : List Value} (pc' : Nat) {j : Fin 4} {v : Value} (hd : decode cd pc = .ok (.aload_n j, 1)) (hl : Ls[j.val]? = some (.val v)) (hv : v.isRef = true) (K : Go p l e R s m args below meth c Z Q pc' Ls (v :: st)) (hp : pc + 1 = pc' := by rfl) : Go p l e R s m args below meth c Z Q pc Ls (st) := by
  subst hp
  exact Go.pure (fun T t h hr => XS.aloadN h C.1 rfl (hb C.2.2.2.2.2.1 hd) hl hv hr) K
theorem Ctx.aload (C : Ctx p s m meth c Z own cd mx ret) {pc : Nat} {Ls : Array Slot} {st : List Value} (pc' : Nat) {j : Nat} {v : Value} (hd : decode cd pc = .ok (.aload j, 2)) (hl : Ls[j]? = some (.val v)) (hv : v.isRef = true) (K : Go p l e R s m args below meth c Z Q pc' Ls (v :: st)) (hp : pc + 2 = pc' := by rfl) : Go p l e R s m args below meth c Z Q pc Ls (st) := by
  subst hp
  exact Go.pure (fun T t h hr => XS.aload h C.1 rfl (hb C.2.2.2.2.2.1 hd) hl hv hr) K
theorem Ctx.istoreN (C : Ctx p s m meth c Z own cd mx ret) {pc : Nat} {Ls : Array Slot} {st : List Value} (pc' : Nat) {j : Fin 4} {v : Int32} {L' : Array Slot} (hd : decode cd pc = .ok (.istore_n j, 1)) (hl : storeLocals Ls j.val (.int v) = some L') (K : Go p l e R s m args below meth c Z Q pc' L' (st)) (hp : pc + 1 = pc' := by rfl) : Go p l e R s m args below meth c Z Q pc Ls (.int v :: st) := by
  subst hp
  exact Go.pure (fun T t h hr => XS.istoreN h C.1 rfl (hb C.2.2.2.2.2.1 hd) rfl hl hr) K
theorem Ctx.istore (C : Ctx p s m meth c Z own cd mx ret) {pc : Nat} {Ls : Array Slot} {st : List Value} (pc' : Nat) {j : Nat} {v : Int32} {L' : Array Slot} (hd : decode cd pc = .ok (.istore j, 2)) (hl : storeLocals Ls j (.int v) = some L') (K : Go p l e R s m args below meth c Z Q pc' L' (st)) (hp : pc + 2 = pc' := by rfl) : Go p l e R s m args below meth c Z Q pc Ls (.int v :: st) := by
  subst hp
  exact Go.pure (fun T t h hr => XS.istore h C.1 rfl (hb C.2.2.2.2.2.1 hd) rfl hl hr) K
theorem Ctx.lstoreN (C : Ctx p s m meth c Z own cd mx ret) {pc : Nat} {Ls : Array Slot} {st : List Value} (pc' : Nat) {j : Fin 4} {v : Int64} {L' : Array Slot} (hd : decode cd pc = .ok (.lstore_n j, 1)) (hl : storeLocals Ls j.val (.long v) = some L') (K : Go p l e R s m args below meth c Z Q pc' L' (st)) (hp : pc + 1 = pc' := by rfl) : Go p l e R s m args below meth c Z Q pc Ls (.long v :: st) := by
  subst hp
  exact Go.pure (fun T t h hr => XT.lstoreN h C.1 rfl (hb C.2.2.2.2.2.1 hd) rfl hl hr) K
theorem Ctx.lstore (C : Ctx p s m meth c Z own cd mx ret) {pc : Nat} {Ls : Array Slot} {st : List Value} (pc' : Nat) {j : Nat} {v : Int64} {L' : Array Slot} (hd : decode cd pc = .ok (.lstore j, 2)) (hl : storeLocals Ls j (.long v) = some L') (K : Go p l e R s m args below meth c Z Q pc' L' (st)) (hp : pc + 2 = pc' := by rfl) : Go p l e R s m args below meth c Z Q pc Ls (.long v :: st) := by
  subst hp
  exact Go.pure (fun T t h hr => XT.lstore h C.1 rfl (hb C.2.2.2.2.2.1 hd) rfl hl hr) K
theorem Ctx.astoreN (C : Ctx p s m meth c Z own cd mx ret) {pc : Nat} {Ls : Array Slot} {st : List Value} (pc' : Nat) {j : Fin 4} {v : Value} {L' : Array Slot} (hd : decode cd pc = .ok (.astore_n j, 1)) (hl : storeLocals Ls j.val v = some L') (hv : v.isRef = true) (K : Go p l e R s m args below meth c Z Q pc' L' (st)) (hp : pc + 1 = pc' := by rfl) : Go p l e R s m args below meth c Z Q pc Ls (v :: st) := by
  subst hp
  exact Go.pure (fun T t h hr => XS.astoreN h C.1 rfl (hb C.2.2.2.2.2.1 hd) rfl hv hl hr) K
theorem Ctx.astore (C : Ctx p s m meth c Z own cd mx ret) {pc : Nat} {Ls : Array Slot} {st : List Value} (pc' : Nat) {j : Nat} {v : Value} {L' : Array Slot} (hd : decode cd pc = .ok (.astore j, 2)) (hl : storeLocals Ls j v = some L') (hv : v.isRef = true) (K : Go p l e R s m args below meth c Z Q pc' L' (st)) (hp : pc + 2 = pc' := by rfl) : Go p l e R s m args below meth c Z Q pc Ls (v :: st) := by
  subst hp
  exact Go.pure (fun T t h hr => XS.astore h C.1 rfl (hb C.2.2.2.2.2.1 hd) rfl hv hl hr) K
theorem Ctx.iconst (C : Ctx p s m meth c Z own cd mx ret) {pc : Nat} {Ls : Array Slot} {st : List Value} (pc' : Nat) {i : Int} (v : Int32) (hd : decode cd pc = .ok (.iconst i, 1)) (hv : Int32.ofInt i = v) (K : Go p l e R s m args below meth c Z Q pc' Ls (.int v :: st)) (hp : pc + 1 = pc' := by rfl) : Go p l e R s m args below meth c Z Q pc Ls (st) := by
  subst hp
  exact Go.pure (fun T t h hr => XT.iconstV h C.1 rfl v (hb C.2.2.2.2.2.1 hd) hv hr) K
theorem Ctx.bipush (C : Ctx p s m meth c Z own cd mx ret) {pc : Nat} {Ls : Array Slot} {st : List Value} (pc' : Nat) {i : Int} (v : Int32) (hd : decode cd pc = .ok (.bipush i, 2)) (hv : (Int8.ofInt i).toInt32 = v) (K : Go p l e R s m args below meth c Z Q pc' Ls (.int v :: st)) (hp : pc + 2 = pc' := by rfl) : Go p l e R s m args below meth c Z Q pc Ls (st) := by
  subst hp
  exact Go.pure (fun T t h hr => XT.bipushV h C.1 rfl v (hb C.2.2.2.2.2.1 hd) hv hr) K
theorem Ctx.sipush (C : Ctx p s m meth c Z own cd mx ret) {pc : Nat} {Ls : Array Slot} {st : List Value} (pc' : Nat) {i : Int} (v : Int32) (hd : decode cd pc = .ok (.sipush i, 3)) (hv : (Int16.ofInt i).toInt32 = v) (K : Go p l e R s m args below meth c Z Q pc' Ls (.int v :: st)) (hp : pc + 3 = pc' := by rfl) : Go p l e R s m args below meth c Z Q pc Ls (st) := by
  subst hp
  exact Go.pure (fun T t h hr => XT.sipushV h C.1 rfl v (hb C.2.2.2.2.2.1 hd) hv hr) K
theorem Ctx.lconst (C : Ctx p s m meth c Z own cd mx ret) {pc : Nat} {Ls : Array Slot} {st : List Value} (pc' : Nat) {i : Fin 2} (v : Int64) (hd : decode cd pc = .ok (.lconst i, 1)) (hv : Int64.ofNat i = v) (K : Go p l e R s m args below meth c Z Q pc' Ls (.long v :: st)) (hp : pc + 1 = pc' := by rfl) : Go p l e R s m args below meth c Z Q pc Ls (st) := by
  subst hp
  exact Go.pure (fun T t h hr => XT.lconstV h C.1 rfl v (hb C.2.2.2.2.2.1 hd) hv hr) K
theorem Ctx.aconstNull (C : Ctx p s m meth c Z own cd mx ret) {pc : Nat} {Ls : Array Slot} {st : List Value} (pc' : Nat)  (hd : decode cd pc = .ok (.aconst_null, 1))  (K : Go p l e R s m args below meth c Z Q pc' Ls (.null :: st)) (hp : pc + 1 = pc' := by rfl) : Go p l e R s m args below meth c Z Q pc Ls (st) := by
  subst hp
  exact Go.pure (fun T t h hr => XS.aconstNull h C.1 rfl (hb C.2.2.2.2.2.1 hd)  hr) K
theorem Ctx.iadd (C : Ctx p s m meth c Z own cd mx ret) {pc : Nat} {Ls : Array Slot} {st : List Value} (pc' : Nat) {x y : Int32} (hd : decode cd pc = .ok (.iadd, 1))  (K : Go p l e R s m args below meth c Z Q pc' Ls (.int (x + y) :: st)) (hp : pc + 1 = pc' := by rfl) : Go p l e R s m args below meth c Z Q pc Ls (.int y :: .int x :: st) := by
  subst hp
  exact Go.pure (fun T t h hr => XS.iadd h C.1 rfl (hb C.2.2.2.2.2.1 hd) rfl hr) K
theorem Ctx.isub (C : Ctx p s m meth c Z own cd mx ret) {pc : Nat} {Ls : Array Slot} {st : List Value} (pc' : Nat) {x y : Int32} (hd : decode cd pc = .ok (.isub, 1))  (K : Go p l e R s m args below meth c Z Q pc' Ls (.int (x - y) :: st)) (hp : pc + 1 = pc' := by rfl) : Go p l e R s m args below meth c Z Q pc Ls (.int y :: .int x :: st) := by
  subst hp
  exact Go.pure (fun T t h hr => XS.isub h C.1 rfl (hb C.2.2.2.2.2.1 hd) rfl hr) K
theorem Ctx.imul (C : Ctx p s m meth c Z own cd mx ret) {pc : Nat} {Ls : Array Slot} {st : List Value} (pc' : Nat) {x y : Int32} (hd : decode cd pc = .ok (.imul, 1))  (K : Go p l e R s m args below meth c Z Q pc' Ls (.int (x * y) :: st)) (hp : pc + 1 = pc' := by rfl) : Go p l e R s m args below meth c Z Q pc Ls (.int y :: .int x :: st) := by
  subst hp
  exact Go.pure (fun T t h hr => XS.imul h C.1 rfl (hb C.2.2.2.2.2.1 hd) rfl hr) K
theorem Ctx.iand (C : Ctx p s m meth c Z own cd mx ret) {pc : Nat} {Ls : Array Slot} {st : List Value} (pc' : Nat) {x y : Int32} (hd : decode cd pc = .ok (.iand, 1))  (K : Go p l e R s m args below meth c Z Q pc' Ls (.int (x &&& y) :: st)) (hp : pc + 1 = pc' := by rfl) : Go p l e R s m args below meth c Z Q pc Ls (.int y :: .int x :: st) := by
  subst hp
  exact Go.pure (fun T t h hr => XS.iand h C.1 rfl (hb C.2.2.2.2.2.1 hd) rfl hr) K
theorem Ctx.ior (C : Ctx p s m meth c Z own cd mx ret) {pc : Nat} {Ls : Array Slot} {st : List Value} (pc' : Nat) {x y : Int32} (hd : decode cd pc = .ok (.ior, 1))  (K : Go p l e R s m args below meth c Z Q pc' Ls (.int (x ||| y) :: st)) (hp : pc + 1 = pc' := by rfl) : Go p l e R s m args below meth c Z Q pc Ls (.int y :: .int x :: st) := by
  subst hp
  exact Go.pure (fun T t h hr => XT.ior h C.1 rfl (hb C.2.2.2.2.2.1 hd) rfl hr) K
theorem Ctx.ixor (C : Ctx p s m meth c Z own cd mx ret) {pc : Nat} {Ls : Array Slot} {st : List Value} (pc' : Nat) {x y : Int32} (hd : decode cd pc = .ok (.ixor, 1))  (K : Go p l e R s m args below meth c Z Q pc' Ls (.int (x ^^^ y) :: st)) (hp : pc + 1 = pc' := by rfl) : Go p l e R s m args below meth c Z Q pc Ls (.int y :: .int x :: st) := by
  subst hp
  exact Go.pure (fun T t h hr => XT.ixor h C.1 rfl (hb C.2.2.2.2.2.1 hd) rfl hr) K
theorem Ctx.ishl (C : Ctx p s m meth c Z own cd mx ret) {pc : Nat} {Ls : Array Slot} {st : List Value} (pc' : Nat) {x y : Int32} (hd : decode cd pc = .ok (.ishl, 1))  (K : Go p l e R s m args below meth c Z Q pc' Ls (.int (x <<< (y &&& 31)) :: st)) (hp : pc + 1 = pc' := by rfl) : Go p l e R s m args below meth c Z Q pc Ls (.int y :: .int x :: st) := by
  subst hp
  exact Go.pure (fun T t h hr => XT.ishl h C.1 rfl (hb C.2.2.2.2.2.1 hd) rfl hr) K
theorem Ctx.ishr (C : Ctx p s m meth c Z own cd mx ret) {pc : Nat} {Ls : Array Slot} {st : List Value} (pc' : Nat) {x y : Int32} (hd : decode cd pc = .ok (.ishr, 1))  (K : Go p l e R s m args below meth c Z Q pc' Ls (.int (x >>> (y &&& 31)) :: st)) (hp : pc + 1 = pc' := by rfl) : Go p l e R s m args below meth c Z Q pc Ls (.int y :: .int x :: st) := by
  subst hp
  exact Go.pure (fun T t h hr => XT.ishr h C.1 rfl (hb C.2.2.2.2.2.1 hd) rfl hr) K
theorem Ctx.iushr (C : Ctx p s m meth c Z own cd mx ret) {pc : Nat} {Ls : Array Slot} {st : List Value} (pc' : Nat) {x y : Int32} (hd : decode cd pc = .ok (.iushr, 1))  (K : Go p l e R s m args below meth c Z Q pc' Ls (.int (XT.ushr x y) :: st)) (hp : pc + 1 = pc' := by rfl) : Go p l e R s m args below meth c Z Q pc Ls (.int y :: .int x :: st) := by
  subst hp
  exact Go.pure (fun T t h hr => XT.iushr h C.1 rfl (hb C.2.2.2.2.2.1 hd) rfl hr) K
theorem Ctx.ineg (C : Ctx p s m meth c Z own cd mx ret) {pc : Nat} {Ls : Array Slot} {st : List Value} (pc' : Nat) {x : Int32} (hd : decode cd pc = .ok (.ineg, 1))  (K : Go p l e R s m args below meth c Z Q pc' Ls (.int (-x) :: st)) (hp : pc + 1 = pc' := by rfl) : Go p l e R s m args below meth c Z Q pc Ls (.int x :: st) := by
  subst hp
  exact Go.pure (fun T t h hr => XS.ineg h C.1 rfl (hb C.2.2.2.2.2.1 hd) rfl hr) K
theorem Ctx.ladd (C : Ctx p s m meth c Z own cd mx ret) {pc : Nat} {Ls : Array Slot} {st : List Value} (pc' : Nat) {x y : Int64} (hd : decode cd pc = .ok (.ladd, 1))  (K : Go p l e R s m args below meth c Z Q pc' Ls (.long (x + y) :: st)) (hp : pc + 1 = pc' := by rfl) : Go p l e R s m args below meth c Z Q pc Ls (.long y :: .long x :: st) := by
  subst hp
  exact Go.pure (fun T t h hr => XT.ladd h C.1 rfl (hb C.2.2.2.2.2.1 hd) rfl hr) K
theorem Ctx.lsub (C : Ctx p s m meth c Z own cd mx ret) {pc : Nat} {Ls : Array Slot} {st : List Value} (pc' : Nat) {x y : Int64} (hd : decode cd pc = .ok (.lsub, 1))  (K : Go p l e R s m args below meth c Z Q pc' Ls (.long (x - y) :: st)) (hp : pc + 1 = pc' := by rfl) : Go p l e R s m args below meth c Z Q pc Ls (.long y :: .long x :: st) := by
  subst hp
  exact Go.pure (fun T t h hr => XT.lsub h C.1 rfl (hb C.2.2.2.2.2.1 hd) rfl hr) K
theorem Ctx.lmul (C : Ctx p s m meth c Z own cd mx ret) {pc : Nat} {Ls : Array Slot} {st : List Value} (pc' : Nat) {x y : Int64} (hd : decode cd pc = .ok (.lmul, 1))  (K : Go p l e R s m args below meth c Z Q pc' Ls (.long (x * y) :: st)) (hp : pc + 1 = pc' := by rfl) : Go p l e R s m args below meth c Z Q pc Ls (.long y :: .long x :: st) := by
  subst hp
  exact Go.pure (fun T t h hr => XT.lmul h C.1 rfl (hb C.2.2.2.2.2.1 hd) rfl hr) K
theorem Ctx.land (C : Ctx p s m meth c Z own cd mx ret) {pc : Nat} {Ls : Array Slot} {st : List Value} (pc' : Nat) {x y : Int64} (hd : decode cd pc = .ok (.land, 1))  (K : Go p l e R s m args below meth c Z Q pc' Ls (.long (x &&& y) :: st)) (hp : pc + 1 = pc' := by rfl) : Go p l e R s m args below meth c Z Q pc Ls (.long y :: .long x :: st) := by
  subst hp
  exact Go.pure (fun T t h hr => XT.land h C.1 rfl (hb C.2.2.2.2.2.1 hd) rfl hr) K
theorem Ctx.lor (C : Ctx p s m meth c Z own cd mx ret) {pc : Nat} {Ls : Array Slot} {st : List Value} (pc' : Nat) {x y : Int64} (hd : decode cd pc = .ok (.lor, 1))  (K : Go p l e R s m args below meth c Z Q pc' Ls (.long (x ||| y) :: st)) (hp : pc + 1 = pc' := by rfl) : Go p l e R s m args below meth c Z Q pc Ls (.long y :: .long x :: st) := by
  subst hp
  exact Go.pure (fun T t h hr => XT.lor h C.1 rfl (hb C.2.2.2.2.2.1 hd) rfl hr) K
theorem Ctx.lxor (C : Ctx p s m meth c Z own cd mx ret) {pc : Nat} {Ls : Array Slot} {st : List Value} (pc' : Nat) {x y : Int64} (hd : decode cd pc = .ok (.lxor, 1))  (K : Go p l e R s m args below meth c Z Q pc' Ls (.long (x ^^^ y) :: st)) (hp : pc + 1 = pc' := by rfl) : Go p l e R s m args below meth c Z Q pc Ls (.long y :: .long x :: st) := by
  subst hp
  exact Go.pure (fun T t h hr => XT.lxor h C.1 rfl (hb C.2.2.2.2.2.1 hd) rfl hr) K
theorem Ctx.ldiv (C : Ctx p s m meth c Z own cd mx ret) {pc : Nat} {Ls : Array Slot} {st : List Value} (pc' : Nat) {x y : Int64} (hd : decode cd pc = .ok (.ldiv, 1)) (hy : y ≠ 0) (K : Go p l e R s m args below meth c Z Q pc' Ls (.long (x / y) :: st)) (hp : pc + 1 = pc' := by rfl) : Go p l e R s m args below meth c Z Q pc Ls (.long y :: .long x :: st) := by
  subst hp
  exact Go.pure (fun T t h hr => XT.ldiv h C.1 rfl (hb C.2.2.2.2.2.1 hd) rfl hy hr) K
theorem Ctx.i2l (C : Ctx p s m meth c Z own cd mx ret) {pc : Nat} {Ls : Array Slot} {st : List Value} (pc' : Nat) {x : Int32} (hd : decode cd pc = .ok (.i2l, 1))  (K : Go p l e R s m args below meth c Z Q pc' Ls (.long x.toInt64 :: st)) (hp : pc + 1 = pc' := by rfl) : Go p l e R s m args below meth c Z Q pc Ls (.int x :: st) := by
  subst hp
  exact Go.pure (fun T t h hr => XT.i2l h C.1 rfl (hb C.2.2.2.2.2.1 hd) rfl hr) K
theorem Ctx.l2i (C : Ctx p s m meth c Z own cd mx ret) {pc : Nat} {Ls : Array Slot} {st : List Value} (pc' : Nat) {x : Int64} (hd : decode cd pc = .ok (.l2i, 1))  (K : Go p l e R s m args below meth c Z Q pc' Ls (.int x.toInt32 :: st)) (hp : pc + 1 = pc' := by rfl) : Go p l e R s m args below meth c Z Q pc Ls (.long x :: st) := by
  subst hp
  exact Go.pure (fun T t h hr => XT.l2i h C.1 rfl (hb C.2.2.2.2.2.1 hd) rfl hr) K
theorem Ctx.i2b (C : Ctx p s m meth c Z own cd mx ret) {pc : Nat} {Ls : Array Slot} {st : List Value} (pc' : Nat) {x : Int32} (hd : decode cd pc = .ok (.i2b, 1))  (K : Go p l e R s m args below meth c Z Q pc' Ls (.int x.toInt8.toInt32 :: st)) (hp : pc + 1 = pc' := by rfl) : Go p l e R s m args below meth c Z Q pc Ls (.int x :: st) := by
  subst hp
  exact Go.pure (fun T t h hr => XT.i2b h C.1 rfl (hb C.2.2.2.2.2.1 hd) rfl hr) K
theorem Ctx.i2c (C : Ctx p s m meth c Z own cd mx ret) {pc : Nat} {Ls : Array Slot} {st : List Value} (pc' : Nat) {x : Int32} (hd : decode cd pc = .ok (.i2c, 1))  (K : Go p l e R s m args below meth c Z Q pc' Ls (.int x.toUInt32.toUInt16.toUInt32.toInt32 :: st)) (hp : pc + 1 = pc' := by rfl) : Go p l e R s m args below meth c Z Q pc Ls (.int x :: st) := by
  subst hp
  exact Go.pure (fun T t h hr => XT.i2c h C.1 rfl (hb C.2.2.2.2.2.1 hd) rfl hr) K
theorem Ctx.lcmp (C : Ctx p s m meth c Z own cd mx ret) {pc : Nat} {Ls : Array Slot} {st : List Value} (pc' : Nat) {x y : Int64} (hd : decode cd pc = .ok (.lcmp, 1))  (K : Go p l e R s m args below meth c Z Q pc' Ls (.int (XT.cmpL x y) :: st)) (hp : pc + 1 = pc' := by rfl) : Go p l e R s m args below meth c Z Q pc Ls (.long y :: .long x :: st) := by
  subst hp
  exact Go.pure (fun T t h hr => XT.lcmp h C.1 rfl (hb C.2.2.2.2.2.1 hd) rfl hr) K
theorem Ctx.pop (C : Ctx p s m meth c Z own cd mx ret) {pc : Nat} {Ls : Array Slot} {st : List Value} (pc' : Nat) {x : Value} (hd : decode cd pc = .ok (.pop, 1)) (hc : x.category = 1) (K : Go p l e R s m args below meth c Z Q pc' Ls (st)) (hp : pc + 1 = pc' := by rfl) : Go p l e R s m args below meth c Z Q pc Ls (x :: st) := by
  subst hp
  exact Go.pure (fun T t h hr => XT.pop h C.1 rfl (hb C.2.2.2.2.2.1 hd) rfl hc hr) K
theorem Ctx.dup (C : Ctx p s m meth c Z own cd mx ret) {pc : Nat} {Ls : Array Slot} {st : List Value} (pc' : Nat) {x : Value} (hd : decode cd pc = .ok (.dup, 1)) (hc : x.category = 1) (K : Go p l e R s m args below meth c Z Q pc' Ls (x :: x :: st)) (hp : pc + 1 = pc' := by rfl) : Go p l e R s m args below meth c Z Q pc Ls (x :: st) := by
  subst hp
  exact Go.pure (fun T t h hr => XS.dup h C.1 rfl (hb C.2.2.2.2.2.1 hd) rfl hc hr) K
theorem Ctx.dupX1 (C : Ctx p s m meth c Z own cd mx ret) {pc : Nat} {Ls : Array Slot} {st : List Value} (pc' : Nat) {x y : Value} (hd : decode cd pc = .ok (.dup_x1, 1)) (hc : x.category = 1) (hc' : y.category = 1) (K : Go p l e R s m args below meth c Z Q pc' Ls (x :: y :: x :: st)) (hp : pc + 1 = pc' := by rfl) : Go p l e R s m args below meth c Z Q pc Ls (x :: y :: st) := by
  subst hp
  exact Go.pure (fun T t h hr => XT.dupX1 h C.1 rfl (hb C.2.2.2.2.2.1 hd) rfl hc hc' hr) K
theorem Ctx.dup2 (C : Ctx p s m meth c Z own cd mx ret) {pc : Nat} {Ls : Array Slot} {st : List Value} (pc' : Nat) {x y : Value} (hd : decode cd pc = .ok (.dup2, 1)) (hc : x.category = 1) (hc' : y.category = 1) (K : Go p l e R s m args below meth c Z Q pc' Ls (x :: y :: x :: y :: st)) (hp : pc + 1 = pc' := by rfl) : Go p l e R s m args below meth c Z Q pc Ls (x :: y :: st) := by
  subst hp
  exact Go.pure (fun T t h hr => XT.dup2 h C.1 rfl (hb C.2.2.2.2.2.1 hd) rfl hc hc' hr) K

theorem Ctx.goto (C : Ctx p s m meth c Z own cd mx ret) {pc : Nat} {Ls : Array Slot} {st : List Value} (pc' : Nat) {o : Int} (hd : decode cd pc = .ok (.goto o, 3)) (ho : 0 ≤ (pc : Int) + o) (hp : ((pc : Int) + o).toNat = pc') (K : Go p l e R s m args below meth c Z Q pc' Ls st) : Go p l e R s m args below meth c Z Q pc Ls st :=
  Go.pure (fun T t h hr => XS.goto h C.1 rfl (pc0 := pc) rfl (hb C.2.2.2.2.2.1 hd) ho hp hr) K
theorem Ctx.ifY (C : Ctx p s m meth c Z own cd mx ret) {pc : Nat} {Ls : Array Slot} {st : List Value} (pc' : Nat) {o : Int} {k : ClassFile.Cond} {x : Int32} (hd : decode cd pc = .ok (.ifCond k o, 3)) (ho : 0 ≤ (pc : Int) + o) (hp : ((pc : Int) + o).toNat = pc') (hc : ifCond.holds k x = true) (K : Go p l e R s m args below meth c Z Q pc' Ls st) : Go p l e R s m args below meth c Z Q pc Ls (.int x :: st) :=
  Go.pure (fun T t h hr => XS.ifYes h C.1 rfl (pc0 := pc) rfl (hb C.2.2.2.2.2.1 hd) rfl hc ho hp hr) K
theorem Ctx.ifN (C : Ctx p s m meth c Z own cd mx ret) {pc : Nat} {Ls : Array Slot} {st : List Value} (pc' : Nat) {o : Int} {k : ClassFile.Cond} {x : Int32} (hd : decode cd pc = .ok (.ifCond k o, 3)) (hp : pc + 3 = pc') (hc : ifCond.holds k x = false) (K : Go p l e R s m args below meth c Z Q pc' Ls st) : Go p l e R s m args below meth c Z Q pc Ls (.int x :: st) := by
  subst hp
  exact Go.pure (fun T t h hr => XS.ifNo h C.1 rfl (hb C.2.2.2.2.2.1 hd) rfl hc hr) K
theorem Ctx.icY (C : Ctx p s m meth c Z own cd mx ret) {pc : Nat} {Ls : Array Slot} {st : List Value} (pc' : Nat) {o : Int} {k : ClassFile.Cond} {x y : Int32} (hd : decode cd pc = .ok (.if_icmp k o, 3)) (ho : 0 ≤ (pc : Int) + o) (hp : ((pc : Int) + o).toNat = pc') (hc : if_icmp.holds k x y = true) (K : Go p l e R s m args below meth c Z Q pc' Ls st) : Go p l e R s m args below meth c Z Q pc Ls (.int y :: .int x :: st) :=
  Go.pure (fun T t h hr => XS.icmpYes h C.1 rfl (pc0 := pc) rfl (hb C.2.2.2.2.2.1 hd) rfl hc ho hp hr) K
theorem Ctx.icN (C : Ctx p s m meth c Z own cd mx ret) {pc : Nat} {Ls : Array Slot} {st : List Value} (pc' : Nat) {o : Int} {k : ClassFile.Cond} {x y : Int32} (hd : decode cd pc = .ok (.if_icmp k o, 3)) (hp : pc + 3 = pc') (hc : if_icmp.holds k x y = false) (K : Go p l e R s m args below meth c Z Q pc' Ls st) : Go p l e R s m args below meth c Z Q pc Ls (.int y :: .int x :: st) := by
  subst hp
  exact Go.pure (fun T t h hr => XS.icmpNo h C.1 rfl (hb C.2.2.2.2.2.1 hd) rfl hc hr) K
theorem Ctx.nullY (C : Ctx p s m meth c Z own cd mx ret) {pc : Nat} {Ls : Array Slot} {st : List Value} (pc' : Nat) {o : Int} (hd : decode cd pc = .ok (.ifnull o, 3)) (ho : 0 ≤ (pc : Int) + o) (hp : ((pc : Int) + o).toNat = pc') (K : Go p l e R s m args below meth c Z Q pc' Ls st) : Go p l e R s m args below meth c Z Q pc Ls (.null :: st) :=
  Go.pure (fun T t h hr => XS.ifnullYes h C.1 rfl (pc0 := pc) rfl (hb C.2.2.2.2.2.1 hd) rfl ho hp hr) K
theorem Ctx.nullN (C : Ctx p s m meth c Z own cd mx ret) {pc : Nat} {Ls : Array Slot} {st : List Value} (pc' : Nat) {o : Int} {a : Addr} (hd : decode cd pc = .ok (.ifnull o, 3)) (hp : pc + 3 = pc') (K : Go p l e R s m args below meth c Z Q pc' Ls st) : Go p l e R s m args below meth c Z Q pc Ls (.ref a :: st) := by
  subst hp
  exact Go.pure (fun T t h hr => XS.ifnullNo h C.1 rfl (hb C.2.2.2.2.2.1 hd) rfl hr) K
theorem Ctx.nonY (C : Ctx p s m meth c Z own cd mx ret) {pc : Nat} {Ls : Array Slot} {st : List Value} (pc' : Nat) {o : Int} {a : Addr} (hd : decode cd pc = .ok (.ifnonnull o, 3)) (ho : 0 ≤ (pc : Int) + o) (hp : ((pc : Int) + o).toNat = pc') (K : Go p l e R s m args below meth c Z Q pc' Ls st) : Go p l e R s m args below meth c Z Q pc Ls (.ref a :: st) :=
  Go.pure (fun T t h hr => XT.ifnonnullYes h C.1 rfl (pc0 := pc) rfl (hb C.2.2.2.2.2.1 hd) rfl ho hp hr) K
theorem Ctx.nonN (C : Ctx p s m meth c Z own cd mx ret) {pc : Nat} {Ls : Array Slot} {st : List Value} (pc' : Nat) {o : Int} (hd : decode cd pc = .ok (.ifnonnull o, 3)) (hp : pc + 3 = pc') (K : Go p l e R s m args below meth c Z Q pc' Ls st) : Go p l e R s m args below meth c Z Q pc Ls (.null :: st) := by
  subst hp
  exact Go.pure (fun T t h hr => XT.ifnonnullNo h C.1 rfl (hb C.2.2.2.2.2.1 hd) rfl hr) K
theorem Ctx.acY (C : Ctx p s m meth c Z own cd mx ret) {pc : Nat} {Ls : Array Slot} {st : List Value} (pc' : Nat) {o : Int} {k : ClassFile.ACond} {x y : Value} (hd : decode cd pc = .ok (.if_acmp k o, 3)) (ho : 0 ≤ (pc : Int) + o) (hp : ((pc : Int) + o).toNat = pc') (hx : x.isRef = true) (hy : y.isRef = true) (hc : XT.acmp k x y = true) (K : Go p l e R s m args below meth c Z Q pc' Ls st) : Go p l e R s m args below meth c Z Q pc Ls (y :: x :: st) :=
  Go.pure (fun T t h hr => XT.acmpYes h C.1 rfl (pc0 := pc) rfl (hb C.2.2.2.2.2.1 hd) rfl hx hy hc ho hp hr) K
theorem Ctx.acN (C : Ctx p s m meth c Z own cd mx ret) {pc : Nat} {Ls : Array Slot} {st : List Value} (pc' : Nat) {o : Int} {k : ClassFile.ACond} {x y : Value} (hd : decode cd pc = .ok (.if_acmp k o, 3)) (hp : pc + 3 = pc') (hx : x.isRef = true) (hy : y.isRef = true) (hc : XT.acmp k x y = false) (K : Go p l e R s m args below meth c Z Q pc' Ls st) : Go p l e R s m args below meth c Z Q pc Ls (y :: x :: st) := by
  subst hp
  exact Go.pure (fun T t h hr => XT.acmpNo h C.1 rfl (hb C.2.2.2.2.2.1 hd) rfl hx hy hc hr) K
theorem Ctx.iinc (C : Ctx p s m meth c Z own cd mx ret) {pc : Nat} {Ls : Array Slot} {st : List Value} (pc' : Nat) {j : Nat} {i : Int} {x : Int32} {L' : Array Slot} (v : Int32) (hd : decode cd pc = .ok (.iinc j i, 3)) (hv : Int32.ofInt i = v) (hl : Ls[j]? = some (.val (.int x))) (hl' : storeLocals Ls j (.int (x + v)) = some L') (K : Go p l e R s m args below meth c Z Q pc' L' st) (hp : pc + 3 = pc' := by rfl) : Go p l e R s m args below meth c Z Q pc Ls st := by
  subst hp
  exact Go.pure (fun T t h hr => XT.iincV h C.1 rfl v (hb C.2.2.2.2.2.1 hd) hv hl hl' hr) K
theorem Ctx.irem (C : Ctx p s m meth c Z own cd mx ret) {pc : Nat} {Ls : Array Slot} {st : List Value} (pc' : Nat) {x y : Int32} (hd : decode cd pc = .ok (.irem, 1)) (hy : y ≠ 0) (K : Go p l e R s m args below meth c Z Q pc' Ls (.int (x % y) :: st)) (hp : pc + 1 = pc' := by rfl) : Go p l e R s m args below meth c Z Q pc Ls (.int y :: .int x :: st) := by
  subst hp
  exact Go.pure (fun T t h hr => XS.irem h C.1 rfl (hb C.2.2.2.2.2.1 hd) rfl hy (by rw [irem_eq_mod]; exact hr)) K
theorem Ctx.idiv (C : Ctx p s m meth c Z own cd mx ret) {pc : Nat} {Ls : Array Slot} {st : List Value} (pc' : Nat) {x y : Int32} (hd : decode cd pc = .ok (.idiv, 1)) (hy : y ≠ 0) (K : Go p l e R s m args below meth c Z Q pc' Ls (.int (x / y) :: st)) (hp : pc + 1 = pc' := by rfl) : Go p l e R s m args below meth c Z Q pc Ls (.int y :: .int x :: st) := by
  subst hp
  exact Go.pure (fun T t h hr => XS.idiv h C.1 rfl (hb C.2.2.2.2.2.1 hd) rfl hy hr) K
theorem Ctx.lrem (C : Ctx p s m meth c Z own cd mx ret) {pc : Nat} {Ls : Array Slot} {st : List Value} (pc' : Nat) {x y : Int64} (hd : decode cd pc = .ok (.lrem, 1)) (hy : y ≠ 0) (K : Go p l e R s m args below meth c Z Q pc' Ls (.long (x % y) :: st)) (hp : pc + 1 = pc' := by rfl) : Go p l e R s m args below meth c Z Q pc Ls (.long y :: .long x :: st) := by
  subst hp
  exact Go.pure (fun T t h hr => XT.lrem h C.1 rfl (hb C.2.2.2.2.2.1 hd) rfl hy (by rw [lrem_mod]; exact hr)) K
theorem Ctx.lushr (C : Ctx p s m meth c Z own cd mx ret) {pc : Nat} {Ls : Array Slot} {st : List Value} (pc' : Nat) {x : Int64} {y : Int32} (hd : decode cd pc = .ok (.lushr, 1)) (K : Go p l e R s m args below meth c Z Q pc' Ls (.long (XT.ushrL x y) :: st)) (hp : pc + 1 = pc' := by rfl) : Go p l e R s m args below meth c Z Q pc Ls (.int y :: .long x :: st) := by
  subst hp
  exact Go.pure (fun T t h hr => XT.lushr h C.1 rfl (hb C.2.2.2.2.2.1 hd) rfl hr) K
theorem Ctx.lshl (C : Ctx p s m meth c Z own cd mx ret) {pc : Nat} {Ls : Array Slot} {st : List Value} (pc' : Nat) {x : Int64} {y : Int32} (hd : decode cd pc = .ok (.lshl, 1)) (K : Go p l e R s m args below meth c Z Q pc' Ls (.long (x <<< (y.toInt64 &&& 63)) :: st)) (hp : pc + 1 = pc' := by rfl) : Go p l e R s m args below meth c Z Q pc Ls (.int y :: .long x :: st) := by
  subst hp
  exact Go.pure (fun T t h hr => XT.lshl h C.1 rfl (hb C.2.2.2.2.2.1 hd) rfl hr) K
end Own

def own_Inv (m x r0 r1 t0 t1 : Int) : Prop := 0 ≤ r1 ∧ r1 < r0 ∧ r0 ≤ m ∧ (∃ k, t0 * x = r0 + k * m) ∧ (∃ k, t1 * x = r1 + k * m) ∧ (∀ c, c ∣ r0 → c ∣ r1 → c ∣ m ∧ c ∣ x) ∧ ((0 ≤ t0 ∧ t1 ≤ 0 ∧ t0 * r1 - t1 * r0 = m) ∨ (t0 ≤ 0 ∧ 0 ≤ t1 ∧ t1 * r0 - t0 * r1 = m)) ∧ 2 * t0 ≤ m ∧ -m ≤ 2 * t0 ∧ (x = 0 → t0 = 0 ∧ r1 = 0)
theorem own_inv0 {m x : Int} (hx : 0 ≤ x) (hm : x < m) : own_Inv m x m x 0 1 :=
  ⟨hx, hm, Int.le_refl _, ⟨-1, by omega⟩, ⟨0, by omega⟩, fun c h1 h2 => ⟨h1, h2⟩, Or.inr ⟨by omega, by omega, by omega⟩, by omega, by omega, fun h => ⟨rfl, h⟩⟩
/-- one turn -/
theorem own_inv1 {m x r0 r1 t0 t1 : Int} (I : own_Inv m x r0 r1 t0 t1) (h1 : r1 ≠ 0) : own_Inv m x r1 (r0 - r0 / r1 * r1) t1 (t0 - r0 / r1 * t1) := by
  obtain ⟨a1, a2, a3, ⟨k0, a4⟩, ⟨k1, a5⟩, a6, a7, a8, a9, a10⟩ := I
  have hr : r0 - r0 / r1 * r1 = r0 % r1 := by have := Int.mul_ediv_add_emod r0 r1; rw [Int.mul_comm] at this; omega
  have b1 := Int.emod_nonneg r0 h1
  have b2 := Int.emod_lt_of_pos r0 (show 0 < r1 by omega)
  have hq : 0 ≤ r0 / r1 := Int.ediv_nonneg (by omega) a1
  refine ⟨by omega, by omega, by omega, ⟨k1, a5⟩, ⟨k0 - r0 / r1 * k1, ?_⟩, fun c d1 d2 => ?_, ?_, ?_, ?_, fun h => absurd (a10 h).2 h1⟩
  · generalize r0 / r1 = q at *; grind
  · refine a6 c ?_ d1
    have : r0 = (r0 - r0 / r1 * r1) + r0 / r1 * r1 := by omega
    rw [this]; exact Int.dvd_add d2 (Int.dvd_mul_of_dvd_right d1)
  · generalize hqq : r0 / r1 = q at *
    rcases a7 with ⟨p1, p2, p3⟩ | ⟨p1, p2, p3⟩
    · refine Or.inr ⟨p2, ?_, by grind⟩
      have : q * t1 ≤ 0 := Int.mul_nonpos_of_nonneg_of_nonpos hq p2
      omega
    · refine Or.inl ⟨p2, ?_, by grind⟩
      have : 0 ≤ q * t1 := Int.mul_nonneg hq p2
      omega
  · rcases a7 with ⟨p1, p2, p3⟩ | ⟨p1, p2, p3⟩
    · omega
    · have e1 : t1 * 2 ≤ t1 * r0 := Int.mul_le_mul_of_nonneg_left (by omega) p2
      have e2 : t0 * r1 ≤ 0 := Int.mul_nonpos_of_nonpos_of_nonneg p1 a1
      omega
  · rcases a7 with ⟨p1, p2, p3⟩ | ⟨p1, p2, p3⟩
    · have e1 : (-t1) * 2 ≤ (-t1) * r0 := Int.mul_le_mul_of_nonneg_left (by omega) (by omega)
      have e2 : 0 ≤ t0 * r1 := Int.mul_nonneg p1 a1
      have e3 : (-t1) * r0 = -(t1 * r0) := Int.neg_mul _ _
      omega
    · omega
/-- the sizes at one turn: no wrap -/
theorem own_big {m x r0 r1 t0 t1 : Int} (I : own_Inv m x r0 r1 t0 t1) : -m ≤ t1 ∧ t1 ≤ m := by
  obtain ⟨a1, a2, a3, -, -, -, a7, -, -, -⟩ := I
  rcases a7 with ⟨p1, p2, p3⟩ | ⟨p1, p2, p3⟩
  · have e1 : (-t1) * 1 ≤ (-t1) * r0 := Int.mul_le_mul_of_nonneg_left (by omega) (by omega)
    have e2 : 0 ≤ t0 * r1 := Int.mul_nonneg p1 a1
    have e3 : (-t1) * r0 = -(t1 * r0) := Int.neg_mul _ _
    omega
  · have e1 : t1 * 1 ≤ t1 * r0 := Int.mul_le_mul_of_nonneg_left (by omega) p2
    have e2 : t0 * r1 ≤ 0 := Int.mul_nonpos_of_nonpos_of_nonneg p1 a1
    omega
/-- what inverse promises: x is the number mod m -/
def own_Inverse (m x r : Int) : Prop := 0 ≤ r ∧ r < m ∧ ((x = 0 ∧ r = 0) ∨ ∃ d, 0 < d ∧ d ≤ x ∧ d ∣ m ∧ d ∣ x ∧ (x * r) % m = d)
theorem own_inv2 {m x r0 t0 t1 : Int} (hx : 0 ≤ x) (hm : x < m) (I : own_Inv m x r0 0 t0 t1) : own_Inverse m x (if t0 < 0 then t0 + m else t0) := by
  obtain ⟨a1, a2, a3, ⟨k0, a4⟩, -, a6, a7, a8, a9, a10⟩ := I
  obtain ⟨d1, d2⟩ := a6 r0 (Int.dvd_refl _) (Int.dvd_zero _)
  by_cases hx0 : x = 0
  · subst hx0
    have hz : t0 = 0 := (a10 rfl).1
    subst hz
    exact ⟨by simp, by simp; omega, Or.inl ⟨rfl, by simp⟩⟩
  have hle : r0 ≤ x := Int.le_of_dvd (by omega) d2
  have key : ∀ k, (x * (t0 + k * m)) % m = r0 := fun k => by
    have : x * (t0 + k * m) = r0 + (k0 + x * k) * m := by grind
    rw [this, Int.add_mul_emod_self_right]
    exact Int.emod_eq_of_lt (by omega) (by omega)
  by_cases ht : t0 < 0
  · rw [if_pos ht]
    refine ⟨by omega, by omega, Or.inr ⟨r0, by omega, hle, d1, d2, ?_⟩⟩
    have := key 1; simpa using this
  · rw [if_neg ht]
    refine ⟨by omega, by omega, Or.inr ⟨r0, by omega, hle, d1, d2, ?_⟩⟩
    have := key 0; simpa using this
theorem own_law {m x r v : Int} (hm : 0 < m) (hv : 0 ≤ v) (hx : x = v % m) (I : own_Inverse m x r) (h1 : (x * r) % m ≠ 1 % m) : ((x * r) % m = 0 → x = 0) ∧ ((x * r) % m ≠ 0 → 1 < (x * r) % m ∧ v % ((x * r) % m) = 0 ∧ m % ((x * r) % m) = 0) := by
  obtain ⟨i1, i2, ⟨rfl, -⟩ | ⟨d, d0, d1, d2, d3, d4⟩⟩ := I
  · simp
  · rw [d4] at h1 ⊢
    have hxm : x < m := hx ▸ Int.emod_lt_of_pos v hm
    have h2 : (1 : Int) % m = 1 := Int.emod_eq_of_lt (by omega) (by omega)
    rw [h2] at h1
    refine ⟨fun h => by omega, fun h => ⟨by omega, ?_, Int.emod_eq_zero_of_dvd d2⟩⟩
    refine Int.emod_eq_zero_of_dvd ?_
    have : v = x + m * (v / m) := by have := Int.emod_add_mul_ediv v m; omega
    rw [this]; exact Int.dvd_add d3 (Int.dvd_mul_of_dvd_left d2)
theorem own_mm (x r m : Int) : ((x / 65536 * r) % m * 65536 + x % 65536 * r) % m = (x * r) % m := by
  have h1 : x * r = (x / 65536 * r) * 65536 + x % 65536 * r := by
    have h := Int.mul_ediv_add_emod x 65536
    generalize x / 65536 = p at *
    generalize x % 65536 = q at *
    grind
  rw [h1, Int.add_emod, Int.mul_emod, Int.emod_emod_of_dvd _ (Int.dvd_refl m), ← Int.mul_emod, ← Int.add_emod]

theorem own_nz {b : Int64} (h : 0 < b.toInt) : b ≠ 0 := fun e => by rw [e] at h; exact absurd h (by decide)
theorem own_rem {a b : Int64} (h : 0 ≤ a.toInt) : (a % b).toInt = a.toInt % b.toInt := by rw [Int64.toInt_mod, Int.tmod_eq_emod_of_nonneg h]
theorem own_i0 {a : Int64} : a = 0 ↔ a.toInt = 0 := by rw [← Int64.toInt_inj]; rfl
theorem own_turn {m x : Int} {r0 r1 t0 t1 : Int64} (hm : m < 4294967296) (I : own_Inv m x r0.toInt r1.toInt t0.toInt t1.toInt) (h : ¬ r1 = 0) :
    own_Inv m x r1.toInt (r0 - r0 / r1 * r1).toInt t1.toInt (t0 - r0 / r1 * t1).toInt ∧ (r0 - r0 / r1 * r1).toInt.toNat < r1.toInt.toNat := by
  have hr1 : r1.toInt ≠ 0 := fun e => h (own_i0.mpr e)
  have I' := own_inv1 I hr1
  obtain ⟨b1, b2⟩ := own_big I'
  obtain ⟨a1, a2, a3, -, -, -, -, a8, a9, -⟩ := I
  obtain ⟨c1, c2, c3, -, -, -, -, c8, c9, -⟩ := id I'
  have hq : (r0 / r1).toInt = r0.toInt / r1.toInt := (c_ldiv r0 r1 r1.toInt rfl (fun e => by rw [e] at a1 ; exact absurd a1 (by decide))).1 (by omega)
  have e1 : (r0 / r1 * r1).toInt = r0.toInt / r1.toInt * r1.toInt := by
    rw [Jvm.Kit.i64_mul (by rw [hq]; omega) (by rw [hq]; omega), hq]
  have e2 : (r0 - r0 / r1 * r1).toInt = r0.toInt - r0.toInt / r1.toInt * r1.toInt := by
    rw [Jvm.Kit.i64_sub (by rw [e1]; omega) (by rw [e1]; omega), e1]
  have e3 : (r0 / r1 * t1).toInt = r0.toInt / r1.toInt * t1.toInt := by
    rw [Jvm.Kit.i64_mul (by rw [hq]; omega) (by rw [hq]; omega), hq]
  have e4 : (t0 - r0 / r1 * t1).toInt = t0.toInt - r0.toInt / r1.toInt * t1.toInt := by
    rw [Jvm.Kit.i64_sub (by rw [e3]; omega) (by rw [e3]; omega), e3]
  rw [e2, e4]
  exact ⟨I', by omega⟩
theorem own_fin {x : Int} {b r0 r1 t0 t1 : Int64} (hb : b.toInt < 4294967296) (hx : 0 ≤ x) (hxm : x < b.toInt) (I : own_Inv b.toInt x r0.toInt r1.toInt t0.toInt t1.toInt) (h : r1 = 0) : (t0 < 0 → own_Inverse b.toInt x (t0 + b).toInt) ∧ (¬ t0 < 0 → own_Inverse b.toInt x t0.toInt) := by
  have hr : r1.toInt = 0 := own_i0.mp h
  rw [hr] at I
  have F := own_inv2 hx hxm I
  obtain ⟨-, -, -, -, -, -, -, a8, a9, -⟩ := I
  rw [Int64.lt_iff_toInt_lt]
  have e0 : (0 : Int64).toInt = 0 := rfl
  rw [e0]
  refine ⟨fun ht => ?_, fun ht => ?_⟩
  · rw [if_pos ht] at F
    rw [Jvm.Kit.i64_add (by omega) (by omega)]; exact F
  · rw [if_neg ht] at F; exact F
theorem own_ushr {x : Int64} (h : 0 ≤ x.toInt) : (XT.ushrL x 16).toInt = x.toInt / 65536 := by
  have e : XT.ushrL x 16 = (x.toUInt64 >>> (16 : UInt64)).toInt64 := rfl
  rw [e]
  exact Jvm.Kit.i64_lushr (n := 16) (k := 16) (by rw [Int64.le_iff_toInt_le]; exact h) (by decide) (by decide)
theorem own_mulmod {x r m : Int64} (hx : 0 ≤ x.toInt) (hx' : x.toInt < 4294967296) (hr : 0 ≤ r.toInt) (hr' : r.toInt < 4294967296) (hm : 0 < m.toInt) (hm' : m.toInt < 4294967296) :
    (((XT.ushrL x 16 * r) % m) <<< ((16 : Int32).toInt64 &&& 63) + (x &&& 65535) * r).toInt = ((x.toInt / 65536 * r.toInt) % m.toInt) * 65536 + x.toInt % 65536 * r.toInt ∧ 0 ≤ ((x.toInt / 65536 * r.toInt) % m.toInt) * 65536 + x.toInt % 65536 * r.toInt := by
  have e1 := own_ushr hx
  have b1 : x.toInt / 65536 * r.toInt ≤ 65535 * 4294967295 := Int.mul_le_mul (by omega) (by omega) hr (by omega)
  have b1' : 0 ≤ x.toInt / 65536 * r.toInt := Int.mul_nonneg (by omega) hr
  have e2 : (XT.ushrL x 16 * r).toInt = x.toInt / 65536 * r.toInt := by rw [Jvm.Kit.i64_mul (by rw [e1]; omega) (by rw [e1]; omega), e1]
  have e3 : ((XT.ushrL x 16 * r) % m).toInt = (x.toInt / 65536 * r.toInt) % m.toInt := by rw [own_rem (by rw [e2]; exact b1'), e2]
  have b3 := Int.emod_nonneg (x.toInt / 65536 * r.toInt) (show m.toInt ≠ 0 by omega)
  have b3' := Int.emod_lt_of_pos (x.toInt / 65536 * r.toInt) hm
  have e4 : (((XT.ushrL x 16 * r) % m) <<< ((16 : Int32).toInt64 &&& 63)).toInt = ((x.toInt / 65536 * r.toInt) % m.toInt) * 65536 := by
    rw [Jvm.Kit.i64_shl _ _ (k := 16) (by decide) (by rw [e3]; omega) (by rw [e3]; omega), e3]
    rfl
  have e5 : (x &&& 65535).toInt = x.toInt % 65536 := c_maskL x 65535 16 (by decide) (by decide)
  have b5 : x.toInt % 65536 * r.toInt ≤ 65535 * 4294967295 := Int.mul_le_mul (by omega) (by omega) hr (by omega)
  have b5' : 0 ≤ x.toInt % 65536 * r.toInt := Int.mul_nonneg (by omega) hr
  have e6 : ((x &&& 65535) * r).toInt = x.toInt % 65536 * r.toInt := by rw [Jvm.Kit.i64_mul (by rw [e5]; omega) (by rw [e5]; omega), e5]
  refine ⟨?_, by omega⟩
  rw [Jvm.Kit.i64_add (by rw [e4, e6]; omega) (by rw [e4, e6]; omega), e4, e6]

theorem pn_0 : plainName "com/example/gatesmith/gatesmith/power/PrimeFactors" = true := by first | (simp [plainName, overriddenIn]; done) | decide +kernel
theorem d1_0 : decode prog_82_method_10_code 0 = .ok (.lload_n 2, 1) := by decide +kernel
theorem d1_1 : decode prog_82_method_10_code 1 = .ok (.lstore 4, 2) := by decide +kernel
theorem d1_3 : decode prog_82_method_10_code 3 = .ok (.lload_n 0, 1) := by decide +kernel
theorem d1_4 : decode prog_82_method_10_code 4 = .ok (.lload_n 2, 1) := by decide +kernel
theorem d1_5 : decode prog_82_method_10_code 5 = .ok (.lrem, 1) := by decide +kernel
theorem d1_6 : decode prog_82_method_10_code 6 = .ok (.lstore 6, 2) := by decide +kernel
theorem d1_8 : decode prog_82_method_10_code 8 = .ok (.lconst 0, 1) := by decide +kernel
theorem d1_9 : decode prog_82_method_10_code 9 = .ok (.lstore 8, 2) := by decide +kernel
theorem d1_11 : decode prog_82_method_10_code 11 = .ok (.lconst 1, 1) := by decide +kernel
theorem d1_12 : decode prog_82_method_10_code 12 = .ok (.lstore 10, 2) := by decide +kernel
theorem d1_14 : decode prog_82_method_10_code 14 = .ok (.lload 6, 2) := by decide +kernel
theorem d1_16 : decode prog_82_method_10_code 16 = .ok (.lconst 0, 1) := by decide +kernel
theorem d1_17 : decode prog_82_method_10_code 17 = .ok (.lcmp, 1) := by decide +kernel
theorem d1_18 : decode prog_82_method_10_code 18 = .ok (.ifCond .eq 49, 3) := by decide +kernel
theorem d1_21 : decode prog_82_method_10_code 21 = .ok (.lload 4, 2) := by decide +kernel
theorem d1_23 : decode prog_82_method_10_code 23 = .ok (.lload 6, 2) := by decide +kernel
theorem d1_25 : decode prog_82_method_10_code 25 = .ok (.ldiv, 1) := by decide +kernel
theorem d1_26 : decode prog_82_method_10_code 26 = .ok (.lstore 12, 2) := by decide +kernel
theorem d1_28 : decode prog_82_method_10_code 28 = .ok (.lload 4, 2) := by decide +kernel
theorem d1_30 : decode prog_82_method_10_code 30 = .ok (.lload 12, 2) := by decide +kernel
theorem d1_32 : decode prog_82_method_10_code 32 = .ok (.lload 6, 2) := by decide +kernel
theorem d1_34 : decode prog_82_method_10_code 34 = .ok (.lmul, 1) := by decide +kernel
theorem d1_35 : decode prog_82_method_10_code 35 = .ok (.lsub, 1) := by decide +kernel
theorem d1_36 : decode prog_82_method_10_code 36 = .ok (.lstore 14, 2) := by decide +kernel
theorem d1_38 : decode prog_82_method_10_code 38 = .ok (.lload 6, 2) := by decide +kernel
theorem d1_40 : decode prog_82_method_10_code 40 = .ok (.lstore 4, 2) := by decide +kernel
theorem d1_42 : decode prog_82_method_10_code 42 = .ok (.lload 14, 2) := by decide +kernel
theorem d1_44 : decode prog_82_method_10_code 44 = .ok (.lstore 6, 2) := by decide +kernel
theorem d1_46 : decode prog_82_method_10_code 46 = .ok (.lload 8, 2) := by decide +kernel
theorem d1_48 : decode prog_82_method_10_code 48 = .ok (.lload 12, 2) := by decide +kernel
theorem d1_50 : decode prog_82_method_10_code 50 = .ok (.lload 10, 2) := by decide +kernel
theorem d1_52 : decode prog_82_method_10_code 52 = .ok (.lmul, 1) := by decide +kernel
theorem d1_53 : decode prog_82_method_10_code 53 = .ok (.lsub, 1) := by decide +kernel
theorem d1_54 : decode prog_82_method_10_code 54 = .ok (.lstore 16, 2) := by decide +kernel
theorem d1_56 : decode prog_82_method_10_code 56 = .ok (.lload 10, 2) := by decide +kernel
theorem d1_58 : decode prog_82_method_10_code 58 = .ok (.lstore 8, 2) := by decide +kernel
theorem d1_60 : decode prog_82_method_10_code 60 = .ok (.lload 16, 2) := by decide +kernel
theorem d1_62 : decode prog_82_method_10_code 62 = .ok (.lstore 10, 2) := by decide +kernel
theorem d1_64 : decode prog_82_method_10_code 64 = .ok (.goto (-50), 3) := by decide +kernel
theorem d1_67 : decode prog_82_method_10_code 67 = .ok (.lload 8, 2) := by decide +kernel
theorem d1_69 : decode prog_82_method_10_code 69 = .ok (.lconst 0, 1) := by decide +kernel
theorem d1_70 : decode prog_82_method_10_code 70 = .ok (.lcmp, 1) := by decide +kernel
theorem d1_71 : decode prog_82_method_10_code 71 = .ok (.ifCond .ge 10, 3) := by decide +kernel
theorem d1_74 : decode prog_82_method_10_code 74 = .ok (.lload 8, 2) := by decide +kernel
theorem d1_76 : decode prog_82_method_10_code 76 = .ok (.lload_n 2, 1) := by decide +kernel
theorem d1_77 : decode prog_82_method_10_code 77 = .ok (.ladd, 1) := by decide +kernel
theorem d1_78 : decode prog_82_method_10_code 78 = .ok (.goto 5, 3) := by decide +kernel
theorem d1_81 : decode prog_82_method_10_code 81 = .ok (.lload 8, 2) := by decide +kernel
theorem d1_83 : decode prog_82_method_10_code 83 = .ok (.lreturn, 1) := by decide +kernel
theorem ef_1 (m : MethodId) (x0 : Int64) (x1 : Int64) : entryFrame m #[(.long x0), (.long x1)] 18 = mkF m 0 #[.val (.long x0), .second, .val (.long x1), .second, .unset, .unset, .unset, .unset, .unset, .unset, .unset, .unset, .unset, .unset, .unset, .unset, .unset, .unset] [] := by first | (simp [entryFrame, mkF, argsToLocals, Value.category]; done) | rfl
set_option maxRecDepth 65536 in
set_option maxHeartbeats 40000000 in
theorem met_inv (l : Launch) (Z : State) (a0 : Array Value) (hw : ∀ d ∈ tables_1, d.before a0 Z = true) (a : Int64) (b : Int64) (ha1 : 0 ≤ a.toInt) (ha2 : a.toInt < 4294967296) (hb1 : 0 < b.toInt) (hb2 : b.toInt < 4294967296) : Met l Z (⟨"com/example/gatesmith/gatesmith/power/PrimeFactors", "inverse", "(JJ)J"⟩ : MethodName) prog_82_method_10_code 18 (some .long) [] ({ frames := 0, cells := 0, slots := 0, locals := 0 } : Room) #[(.long a), (.long b)] (fun v => ∃ r : Int64, v = some (.long r) ∧ own_Inverse b.toInt (a.toInt % b.toInt) r.toInt) := by
  refine Met.intro pn_0 (fun m => ef_1 m a b) rfl rfl ?_
  intro p e s m below meth c C
  have hx0 : 0 ≤ (a.toInt % b.toInt) := Int.emod_nonneg _ (by omega)
  have hx1 : (a.toInt % b.toInt) < b.toInt := Int.emod_lt_of_pos _ hb1
  have I0 : own_Inv b.toInt (a.toInt % b.toInt) b.toInt (a % b).toInt (0 : Int64).toInt (1 : Int64).toInt := by rw [own_rem ha1]; exact own_inv0 hx0 hx1
  have L14 : ∀ (n : Nat), ∀ (r0 : Int64) (r1 : Int64) (t0 : Int64) (t1 : Int64) (q : Int64) (nx : Int64) (tm : Int64), (r1.toInt.toNat = n) → (own_Inv b.toInt (a.toInt % b.toInt) r0.toInt r1.toInt t0.toInt t1.toInt) → Go p l e ({ frames := 0, cells := 0, slots := 0, locals := 0 } : Room) s m #[(.long a), (.long b)] below meth c Z (fun v => ∃ r : Int64, v = some (.long r) ∧ own_Inverse b.toInt (a.toInt % b.toInt) r.toInt) 14 #[.val (.long a), .second, .val (.long b), .second, .val (.long r0), .second, .val (.long r1), .second, .val (.long t0), .second, .val (.long t1), .second, .val (.long q), .second, .val (.long nx), .second, .val (.long tm), .second] [] := by
    intro n
    induction n using Nat.strongRecOn with
    | ind n ih =>
      intro r0 r1 t0 t1 q nx tm hn I
      refine C.lload 16 d1_14 rfl ?_
      refine C.lconst 17 (0 : Int64) d1_16 (by decide) ?_
      refine C.lcmp 18 d1_17 ?_
      rcases Decidable.em (r1 = (0 : Int64)) with h18 | h18
      · skip
        refine C.ifY 67 d1_18 (by decide) (by decide) (XT.ll_eq_t h18) ?_
        refine C.lload 69 d1_67 rfl ?_
        refine C.lconst 70 (0 : Int64) d1_69 (by decide) ?_
        refine C.lcmp 71 d1_70 ?_
        rcases Decidable.em (t0 < (0 : Int64)) with h71 | h71
        · skip
          refine C.ifN 74 d1_71 rfl (XT.ll_ge_f h71) ?_
          refine C.lload 76 d1_74 rfl ?_
          refine C.lloadN 77 d1_76 rfl ?_
          refine C.ladd 78 d1_77 ?_
          refine C.goto 83 d1_78 (by decide) (by decide) ?_
          refine C.retL rfl d1_83 ?_
          exact ⟨_, rfl, (own_fin hb2 hx0 hx1 I h18).1 h71⟩
        · skip
          refine C.ifY 81 d1_71 (by decide) (by decide) (XT.ll_ge_t h71) ?_
          refine C.lload 83 d1_81 rfl ?_
          refine C.retL rfl d1_83 ?_
          exact ⟨_, rfl, (own_fin hb2 hx0 hx1 I h18).2 h71⟩
      · skip
        refine C.ifN 21 d1_18 rfl (XT.ll_eq_f h18) ?_
        refine C.lload 23 d1_21 rfl ?_
        refine C.lload 25 d1_23 rfl ?_
        refine C.ldiv 26 d1_25 h18 ?_
        refine C.lstore 28 (L' := #[.val (.long a), .second, .val (.long b), .second, .val (.long r0), .second, .val (.long r1), .second, .val (.long t0), .second, .val (.long t1), .second, .val (.long (r0 / r1)), .second, .val (.long nx), .second, .val (.long tm), .second]) d1_26 rfl ?_
        refine C.lload 30 d1_28 rfl ?_
        refine C.lload 32 d1_30 rfl ?_
        refine C.lload 34 d1_32 rfl ?_
        refine C.lmul 35 d1_34 ?_
        refine C.lsub 36 d1_35 ?_
        refine C.lstore 38 (L' := #[.val (.long a), .second, .val (.long b), .second, .val (.long r0), .second, .val (.long r1), .second, .val (.long t0), .second, .val (.long t1), .second, .val (.long (r0 / r1)), .second, .val (.long (r0 - ((r0 / r1) * r1))), .second, .val (.long tm), .second]) d1_36 rfl ?_
        refine C.lload 40 d1_38 rfl ?_
        refine C.lstore 42 (L' := #[.val (.long a), .second, .val (.long b), .second, .val (.long r1), .second, .val (.long r1), .second, .val (.long t0), .second, .val (.long t1), .second, .val (.long (r0 / r1)), .second, .val (.long (r0 - ((r0 / r1) * r1))), .second, .val (.long tm), .second]) d1_40 rfl ?_
        refine C.lload 44 d1_42 rfl ?_
        refine C.lstore 46 (L' := #[.val (.long a), .second, .val (.long b), .second, .val (.long r1), .second, .val (.long (r0 - ((r0 / r1) * r1))), .second, .val (.long t0), .second, .val (.long t1), .second, .val (.long (r0 / r1)), .second, .val (.long (r0 - ((r0 / r1) * r1))), .second, .val (.long tm), .second]) d1_44 rfl ?_
        refine C.lload 48 d1_46 rfl ?_
        refine C.lload 50 d1_48 rfl ?_
        refine C.lload 52 d1_50 rfl ?_
        refine C.lmul 53 d1_52 ?_
        refine C.lsub 54 d1_53 ?_
        refine C.lstore 56 (L' := #[.val (.long a), .second, .val (.long b), .second, .val (.long r1), .second, .val (.long (r0 - ((r0 / r1) * r1))), .second, .val (.long t0), .second, .val (.long t1), .second, .val (.long (r0 / r1)), .second, .val (.long (r0 - ((r0 / r1) * r1))), .second, .val (.long (t0 - ((r0 / r1) * t1))), .second]) d1_54 rfl ?_
        refine C.lload 58 d1_56 rfl ?_
        refine C.lstore 60 (L' := #[.val (.long a), .second, .val (.long b), .second, .val (.long r1), .second, .val (.long (r0 - ((r0 / r1) * r1))), .second, .val (.long t1), .second, .val (.long t1), .second, .val (.long (r0 / r1)), .second, .val (.long (r0 - ((r0 / r1) * r1))), .second, .val (.long (t0 - ((r0 / r1) * t1))), .second]) d1_58 rfl ?_
        refine C.lload 62 d1_60 rfl ?_
        refine C.lstore 64 (L' := #[.val (.long a), .second, .val (.long b), .second, .val (.long r1), .second, .val (.long (r0 - ((r0 / r1) * r1))), .second, .val (.long t1), .second, .val (.long (t0 - ((r0 / r1) * t1))), .second, .val (.long (r0 / r1)), .second, .val (.long (r0 - ((r0 / r1) * r1))), .second, .val (.long (t0 - ((r0 / r1) * t1))), .second]) d1_62 rfl ?_
        refine C.goto 14 d1_64 (by decide) (by decide) ?_
        exact ih _ (hn ▸ (own_turn hb2 I h18).2) _ _ _ _ _ _ _ rfl (own_turn hb2 I h18).1
  refine C.lloadN 1 d1_0 rfl ?_
  refine C.lstore 3 (L' := #[.val (.long a), .second, .val (.long b), .second, .val (.long b), .second, .unset, .unset, .unset, .unset, .unset, .unset, .unset, .unset, .unset, .unset, .unset, .unset]) d1_1 rfl ?_
  refine C.lloadN 4 d1_3 rfl ?_
  refine C.lloadN 5 d1_4 rfl ?_
  refine C.lrem 6 d1_5 (own_nz hb1) ?_
  refine C.lstore 8 (L' := #[.val (.long a), .second, .val (.long b), .second, .val (.long b), .second, .val (.long (a % b)), .second, .unset, .unset, .unset, .unset, .unset, .unset, .unset, .unset, .unset, .unset]) d1_6 rfl ?_
  refine C.lconst 9 (0 : Int64) d1_8 (by decide) ?_
  refine C.lstore 11 (L' := #[.val (.long a), .second, .val (.long b), .second, .val (.long b), .second, .val (.long (a % b)), .second, .val (.long (0 : Int64)), .second, .unset, .unset, .unset, .unset, .unset, .unset, .unset, .unset]) d1_9 rfl ?_
  refine C.lconst 12 (1 : Int64) d1_11 (by decide) ?_
  refine C.lstore 14 (L' := #[.val (.long a), .second, .val (.long b), .second, .val (.long b), .second, .val (.long (a % b)), .second, .val (.long (0 : Int64)), .second, .val (.long (1 : Int64)), .second, .unset, .unset, .unset, .unset, .unset, .unset]) d1_12 rfl ?_
  refine C.lload 16 d1_14 rfl ?_
  refine C.lconst 17 (0 : Int64) d1_16 (by decide) ?_
  refine C.lcmp 18 d1_17 ?_
  rcases Decidable.em ((a % b) = (0 : Int64)) with h18 | h18
  · skip
    refine C.ifY 67 d1_18 (by decide) (by decide) (XT.ll_eq_t h18) ?_
    refine C.lload 69 d1_67 rfl ?_
    refine C.lconst 70 (0 : Int64) d1_69 (by decide) ?_
    refine C.lcmp 71 d1_70 ?_
    refine C.ifY 81 d1_71 (by decide) (by decide) (XT.ll_ge_t (show ¬ ((0 : Int64) < (0 : Int64)) from (by decide))) ?_
    refine C.lload 83 d1_81 rfl ?_
    refine C.retL rfl d1_83 ?_
    exact ⟨_, rfl, (own_fin hb2 hx0 hx1 I0 h18).2 (by decide)⟩
  · skip
    refine C.ifN 21 d1_18 rfl (XT.ll_eq_f h18) ?_
    refine C.lload 23 d1_21 rfl ?_
    refine C.lload 25 d1_23 rfl ?_
    refine C.ldiv 26 d1_25 h18 ?_
    refine C.lstore 28 (L' := #[.val (.long a), .second, .val (.long b), .second, .val (.long b), .second, .val (.long (a % b)), .second, .val (.long (0 : Int64)), .second, .val (.long (1 : Int64)), .second, .val (.long (b / (a % b))), .second, .unset, .unset, .unset, .unset]) d1_26 rfl ?_
    refine C.lload 30 d1_28 rfl ?_
    refine C.lload 32 d1_30 rfl ?_
    refine C.lload 34 d1_32 rfl ?_
    refine C.lmul 35 d1_34 ?_
    refine C.lsub 36 d1_35 ?_
    refine C.lstore 38 (L' := #[.val (.long a), .second, .val (.long b), .second, .val (.long b), .second, .val (.long (a % b)), .second, .val (.long (0 : Int64)), .second, .val (.long (1 : Int64)), .second, .val (.long (b / (a % b))), .second, .val (.long (b - ((b / (a % b)) * (a % b)))), .second, .unset, .unset]) d1_36 rfl ?_
    refine C.lload 40 d1_38 rfl ?_
    refine C.lstore 42 (L' := #[.val (.long a), .second, .val (.long b), .second, .val (.long (a % b)), .second, .val (.long (a % b)), .second, .val (.long (0 : Int64)), .second, .val (.long (1 : Int64)), .second, .val (.long (b / (a % b))), .second, .val (.long (b - ((b / (a % b)) * (a % b)))), .second, .unset, .unset]) d1_40 rfl ?_
    refine C.lload 44 d1_42 rfl ?_
    refine C.lstore 46 (L' := #[.val (.long a), .second, .val (.long b), .second, .val (.long (a % b)), .second, .val (.long (b - ((b / (a % b)) * (a % b)))), .second, .val (.long (0 : Int64)), .second, .val (.long (1 : Int64)), .second, .val (.long (b / (a % b))), .second, .val (.long (b - ((b / (a % b)) * (a % b)))), .second, .unset, .unset]) d1_44 rfl ?_
    refine C.lload 48 d1_46 rfl ?_
    refine C.lload 50 d1_48 rfl ?_
    refine C.lload 52 d1_50 rfl ?_
    refine C.lmul 53 d1_52 ?_
    refine C.lsub 54 d1_53 ?_
    refine C.lstore 56 (L' := #[.val (.long a), .second, .val (.long b), .second, .val (.long (a % b)), .second, .val (.long (b - ((b / (a % b)) * (a % b)))), .second, .val (.long (0 : Int64)), .second, .val (.long (1 : Int64)), .second, .val (.long (b / (a % b))), .second, .val (.long (b - ((b / (a % b)) * (a % b)))), .second, .val (.long ((0 : Int64) - ((b / (a % b)) * (1 : Int64)))), .second]) d1_54 rfl ?_
    refine C.lload 58 d1_56 rfl ?_
    refine C.lstore 60 (L' := #[.val (.long a), .second, .val (.long b), .second, .val (.long (a % b)), .second, .val (.long (b - ((b / (a % b)) * (a % b)))), .second, .val (.long (1 : Int64)), .second, .val (.long (1 : Int64)), .second, .val (.long (b / (a % b))), .second, .val (.long (b - ((b / (a % b)) * (a % b)))), .second, .val (.long ((0 : Int64) - ((b / (a % b)) * (1 : Int64)))), .second]) d1_58 rfl ?_
    refine C.lload 62 d1_60 rfl ?_
    refine C.lstore 64 (L' := #[.val (.long a), .second, .val (.long b), .second, .val (.long (a % b)), .second, .val (.long (b - ((b / (a % b)) * (a % b)))), .second, .val (.long (1 : Int64)), .second, .val (.long ((0 : Int64) - ((b / (a % b)) * (1 : Int64)))), .second, .val (.long (b / (a % b))), .second, .val (.long (b - ((b / (a % b)) * (a % b)))), .second, .val (.long ((0 : Int64) - ((b / (a % b)) * (1 : Int64)))), .second]) d1_62 rfl ?_
    refine C.goto 14 d1_64 (by decide) (by decide) ?_
    exact L14 _ _ _ _ _ _ _ _ rfl (own_turn hb2 I0 h18).1
theorem pn_1 : plainName "com/example/gatesmith/gatesmith/power/PrimeFactorsInversePinLaw" = true := by first | (simp [plainName, overriddenIn]; done) | decide +kernel
theorem d2_0 : decode method_2_code 0 = .ok (.lload_n 0, 1) := by decide +kernel
theorem d2_1 : decode method_2_code 1 = .ok (.bipush 16, 2) := by decide +kernel
theorem d2_3 : decode method_2_code 3 = .ok (.lushr, 1) := by decide +kernel
theorem d2_4 : decode method_2_code 4 = .ok (.lstore 6, 2) := by decide +kernel
theorem d2_6 : decode method_2_code 6 = .ok (.lload_n 0, 1) := by decide +kernel
theorem d2_7 : decode method_2_code 7 = .ok (.ldc2_w 7, 3) := by decide +kernel
theorem d2_10 : decode method_2_code 10 = .ok (.land, 1) := by decide +kernel
theorem d2_11 : decode method_2_code 11 = .ok (.lstore 8, 2) := by decide +kernel
theorem d2_13 : decode method_2_code 13 = .ok (.lload 6, 2) := by decide +kernel
theorem d2_15 : decode method_2_code 15 = .ok (.lload_n 2, 1) := by decide +kernel
theorem d2_16 : decode method_2_code 16 = .ok (.lmul, 1) := by decide +kernel
theorem d2_17 : decode method_2_code 17 = .ok (.lload 4, 2) := by decide +kernel
theorem d2_19 : decode method_2_code 19 = .ok (.lrem, 1) := by decide +kernel
theorem d2_20 : decode method_2_code 20 = .ok (.lstore 10, 2) := by decide +kernel
theorem d2_22 : decode method_2_code 22 = .ok (.lload 10, 2) := by decide +kernel
theorem d2_24 : decode method_2_code 24 = .ok (.bipush 16, 2) := by decide +kernel
theorem d2_26 : decode method_2_code 26 = .ok (.lshl, 1) := by decide +kernel
theorem d2_27 : decode method_2_code 27 = .ok (.lload 8, 2) := by decide +kernel
theorem d2_29 : decode method_2_code 29 = .ok (.lload_n 2, 1) := by decide +kernel
theorem d2_30 : decode method_2_code 30 = .ok (.lmul, 1) := by decide +kernel
theorem d2_31 : decode method_2_code 31 = .ok (.ladd, 1) := by decide +kernel
theorem d2_32 : decode method_2_code 32 = .ok (.lload 4, 2) := by decide +kernel
theorem d2_34 : decode method_2_code 34 = .ok (.lrem, 1) := by decide +kernel
theorem d2_35 : decode method_2_code 35 = .ok (.lreturn, 1) := by decide +kernel
theorem ef_2 (m : MethodId) (x0 : Int64) (x1 : Int64) (x2 : Int64) : entryFrame m #[(.long x0), (.long x1), (.long x2)] 12 = mkF m 0 #[.val (.long x0), .second, .val (.long x1), .second, .val (.long x2), .second, .unset, .unset, .unset, .unset, .unset, .unset] [] := by first | (simp [entryFrame, mkF, argsToLocals, Value.category]; done) | rfl
set_option maxRecDepth 65536 in
set_option maxHeartbeats 40000000 in
theorem met_mul (l : Launch) (Z : State) (a0 : Array Value) (hw : ∀ d ∈ tables_1, d.before a0 Z = true) (x : Int64) (r : Int64) (b : Int64) (hx : 0 ≤ x.toInt) (hx' : x.toInt < 4294967296) (hr : 0 ≤ r.toInt) (hr' : r.toInt < 4294967296) (hb : 0 < b.toInt) (hb' : b.toInt < 4294967296) : Met l Z (⟨"com/example/gatesmith/gatesmith/power/PrimeFactorsInversePinLaw", "mulMod", "(JJJ)J"⟩ : MethodName) method_2_code 12 (some .long) [] ({ frames := 0, cells := 0, slots := 0, locals := 0 } : Room) #[(.long x), (.long r), (.long b)] (fun v => ∃ g : Int64, v = some (.long g) ∧ g.toInt = (x.toInt * r.toInt) % b.toInt) := by
  refine Met.intro pn_1 (fun m => ef_2 m x r b) rfl rfl ?_
  intro p e s m below meth c C
  refine C.lloadN 1 d2_0 rfl ?_
  refine C.bipush 3 (16 : Int32) d2_1 (by decide) ?_
  refine C.lushr 4 d2_3 ?_
  refine C.lstore 6 (L' := #[.val (.long x), .second, .val (.long r), .second, .val (.long b), .second, .val (.long (XT.ushrL x (16 : Int32))), .second, .unset, .unset, .unset, .unset]) d2_4 rfl ?_
  refine C.lloadN 7 d2_6 rfl ?_
  refine C.ldc2 (a0 := a0) 10 d2_7 (hw _ (List.mem_of_getElem? (i := 9) rfl)) ?_
  refine C.land 11 d2_10 ?_
  refine C.lstore 13 (L' := #[.val (.long x), .second, .val (.long r), .second, .val (.long b), .second, .val (.long (XT.ushrL x (16 : Int32))), .second, .val (.long (x &&& (65535 : Int64))), .second, .unset, .unset]) d2_11 rfl ?_
  refine C.lload 15 d2_13 rfl ?_
  refine C.lloadN 16 d2_15 rfl ?_
  refine C.lmul 17 d2_16 ?_
  refine C.lload 19 d2_17 rfl ?_
  refine C.lrem 20 d2_19 (own_nz hb) ?_
  refine C.lstore 22 (L' := #[.val (.long x), .second, .val (.long r), .second, .val (.long b), .second, .val (.long (XT.ushrL x (16 : Int32))), .second, .val (.long (x &&& (65535 : Int64))), .second, .val (.long (((XT.ushrL x (16 : Int32)) * r) % b)), .second]) d2_20 rfl ?_
  refine C.lload 24 d2_22 rfl ?_
  refine C.bipush 26 (16 : Int32) d2_24 (by decide) ?_
  refine C.lshl 27 d2_26 ?_
  refine C.lload 29 d2_27 rfl ?_
  refine C.lloadN 30 d2_29 rfl ?_
  refine C.lmul 31 d2_30 ?_
  refine C.ladd 32 d2_31 ?_
  refine C.lload 34 d2_32 rfl ?_
  refine C.lrem 35 d2_34 (own_nz hb) ?_
  refine C.retL rfl d2_35 ?_
  exact ⟨_, rfl, by obtain ⟨q1, q2⟩ := own_mulmod hx hx' hr hr' hb hb'; rw [own_rem (by rw [q1]; exact q2), q1]; exact own_mm _ _ _⟩
theorem pd__JJ_rJ : parseMethodDescriptor "(JJ)J" = some ⟨[.long, .long], some .long⟩ := by decide +kernel
theorem pd__JJJ_rJ : parseMethodDescriptor "(JJJ)J" = some ⟨[.long, .long, .long], some .long⟩ := by decide +kernel
theorem ef_3 (m : MethodId) (x0 : Int64) (x1 : Int64) : entryFrame m #[(.long x0), (.long x1)] maxLocals = mkF m 0 #[.val (.long x0), .second, .val (.long x1), .second, .unset, .unset, .unset, .unset, .unset, .unset, .unset, .unset, .unset, .unset, .unset, .unset] [] := by first | (simp [entryFrame, mkF, argsToLocals, Value.category, maxLocals]; done) | rfl
set_option maxRecDepth 65536 in
set_option maxHeartbeats 40000000 in
theorem met_law (l : Launch) (Z : State) (a0 : Array Value) (hw : ∀ d ∈ tables_1, d.before a0 Z = true) (i0 : Int64) (i1_ : Int64) : Met l Z x code maxLocals ret tables_1 room_1 #[(.long i0), (.long i1_)] (fun v => v = some (.int 1)) := by
  refine Met.intro pn_1 (fun m => ef_3 m i0 i1_) rfl rfl ?_
  intro p e s m below meth c C
  refine C.lloadN 1 at_0 rfl ?_
  refine C.ldc2 (a0 := a0) 4 at_1 (hw _ (List.mem_of_getElem? (i := 0) rfl)) ?_
  refine C.land 5 at_4 ?_
  generalize hm : (i0 &&& (4294967295 : Int64)) = m'
  refine C.lstore 7 (L' := #[.val (.long i0), .second, .val (.long i1_), .second, .val (.long m'), .second, .unset, .unset, .unset, .unset, .unset, .unset, .unset, .unset, .unset, .unset]) at_5 rfl ?_
  refine C.lload 9 at_7 rfl ?_
  refine C.lconst 10 (0 : Int64) at_9 (by decide) ?_
  refine C.lcmp 11 at_10 ?_
  rcases Decidable.em (m' = (0 : Int64)) with h11 | h11
  · skip
    refine C.ifN 14 at_11 rfl (XT.ll_ne_f h11) ?_
    refine C.iconst 15 (1 : Int32) at_14 (by decide) ?_
    refine C.retN (t := .boolean) rfl (by simp) at_15 ?_
    exact rfl
  · skip
    refine C.ifY 16 at_11 (by decide) (by decide) (XT.ll_ne_t h11) ?_
    have hm0 : 0 < m'.toInt := by
      have q1 := c_maskL i0 4294967295 32 (by decide) (by decide)
      have q2 : m'.toInt ≠ 0 := fun e => h11 (own_i0.mpr e)
      rw [hm] at q1
      omega
    have hm1 : m'.toInt < 4294967296 := by
      have q1 := c_maskL i0 4294967295 32 (by decide) (by decide)
      rw [hm] at q1
      omega
    refine C.lloadN 17 at_16 rfl ?_
    refine C.ldc2 (a0 := a0) 20 at_17 (hw _ (List.mem_of_getElem? (i := 0) rfl)) ?_
    refine C.land 21 at_20 ?_
    generalize hv : (i1_ &&& (4294967295 : Int64)) = v
    refine C.lstore 23 (L' := #[.val (.long i0), .second, .val (.long i1_), .second, .val (.long m'), .second, .val (.long v), .second, .unset, .unset, .unset, .unset, .unset, .unset, .unset, .unset]) at_21 rfl ?_
    have hv0 : 0 ≤ v.toInt ∧ v.toInt < 4294967296 := by
      have q1 := c_maskL i1_ 4294967295 32 (by decide) (by decide)
      rw [hv] at q1
      omega
    obtain ⟨hv0, hv1⟩ := hv0
    refine C.lload 25 at_23 rfl ?_
    refine C.lload 27 at_25 rfl ?_
    refine C.call (a0 := a0) 30 [(.long v), (.long m')] [] at_27 (met_inv l Z a0 hw v m' (by omega) (by omega) hm0 (by omega)) (hw _ (List.mem_of_getElem? (i := 1) rfl)) (hw _ (List.mem_of_getElem? (i := 2) rfl)) (hw _ (List.mem_of_getElem? (i := 3) rfl)) (hw _ (List.mem_of_getElem? (i := 4) rfl)) (by decide) rfl (lenOf pd__JJ_rJ rfl) (by decide) (W := 0) (Nat.le_of_eq rfl) (by decide) rfl rfl rfl ?_
    rintro _ ⟨r, rfl, I⟩
    obtain ⟨i1, i2, -⟩ := id I
    refine C.lstore 32 (L' := #[.val (.long i0), .second, .val (.long i1_), .second, .val (.long m'), .second, .val (.long v), .second, .val (.long r), .second, .unset, .unset, .unset, .unset, .unset, .unset]) at_30 rfl ?_
    refine C.lload 34 at_32 rfl ?_
    refine C.lconst 35 (0 : Int64) at_34 (by decide) ?_
    refine C.lcmp 36 at_35 ?_
    refine C.ifN 39 at_36 rfl (XT.ll_lt_f (show ¬ (r < (0 : Int64)) from (by rw [Int64.lt_iff_toInt_lt]; exact Int.not_lt.mpr i1))) ?_
    refine C.lload 41 at_39 rfl ?_
    refine C.lload 43 at_41 rfl ?_
    refine C.lcmp 44 at_43 ?_
    refine C.ifY 49 at_44 (by decide) (by decide) (XT.ll_lt_t (show r < m' from (by rw [Int64.lt_iff_toInt_lt]; exact i2))) ?_
    refine C.lload 51 at_49 rfl ?_
    refine C.lload 53 at_51 rfl ?_
    refine C.lrem 54 at_53 (own_nz hm0) ?_
    refine C.lstore 56 (L' := #[.val (.long i0), .second, .val (.long i1_), .second, .val (.long m'), .second, .val (.long v), .second, .val (.long r), .second, .val (.long (v % m')), .second, .unset, .unset, .unset, .unset]) at_54 rfl ?_
    have hx : (v % m').toInt = v.toInt % m'.toInt := own_rem hv0
    have x0 : 0 ≤ (v % m').toInt := by rw [hx]; exact Int.emod_nonneg _ (by omega)
    have x1 : (v % m').toInt < m'.toInt := by rw [hx]; exact Int.emod_lt_of_pos _ hm0
    refine C.lload 58 at_56 rfl ?_
    refine C.lload 60 at_58 rfl ?_
    refine C.lload 62 at_60 rfl ?_
    refine C.call (a0 := a0) 65 [(.long (v % m')), (.long r), (.long m')] [] at_62 (met_mul l Z a0 hw (v % m') r m' x0 (by omega) i1 (by omega) hm0 (by omega)) (hw _ (List.mem_of_getElem? (i := 5) rfl)) (hw _ (List.mem_of_getElem? (i := 6) rfl)) (hw _ (List.mem_of_getElem? (i := 7) rfl)) (hw _ (List.mem_of_getElem? (i := 8) rfl)) (by decide) rfl (lenOf pd__JJJ_rJ rfl) (by decide) (W := 0) (Nat.le_of_eq rfl) (by decide) rfl rfl rfl ?_
    rintro _ ⟨g, rfl, hg⟩
    have hg2 := hg
    rw [hx] at hg
    have LW := own_law (v := v.toInt) hm0 (by omega) rfl I
    refine C.lstore 67 (L' := #[.val (.long i0), .second, .val (.long i1_), .second, .val (.long m'), .second, .val (.long v), .second, .val (.long r), .second, .val (.long (v % m')), .second, .val (.long g), .second, .unset, .unset]) at_65 rfl ?_
    refine C.lconst 68 (1 : Int64) at_67 (by decide) ?_
    refine C.lload 70 at_68 rfl ?_
    refine C.lrem 71 at_70 (own_nz hm0) ?_
    refine C.lstore 73 (L' := #[.val (.long i0), .second, .val (.long i1_), .second, .val (.long m'), .second, .val (.long v), .second, .val (.long r), .second, .val (.long (v % m')), .second, .val (.long g), .second, .val (.long ((1 : Int64) % m')), .second]) at_71 rfl ?_
    refine C.lload 75 at_73 rfl ?_
    refine C.lload 77 at_75 rfl ?_
    refine C.lcmp 78 at_77 ?_
    rcases Decidable.em (g = ((1 : Int64) % m')) with h78 | h78
    · skip
      refine C.ifN 81 at_78 rfl (XT.ll_ne_f h78) ?_
      refine C.iconst 82 (1 : Int32) at_81 (by decide) ?_
      refine C.retN (t := .boolean) rfl (by simp) at_82 ?_
      exact rfl
    · skip
      refine C.ifY 83 at_78 (by decide) (by decide) (XT.ll_ne_t h78) ?_
      have h78i : (v.toInt % m'.toInt * r.toInt) % m'.toInt ≠ 1 % m'.toInt := fun e => h78 (Int64.toInt_inj.mp (by rw [hg, own_rem (by decide), e]; rfl))
      refine C.lload 85 at_83 rfl ?_
      refine C.lconst 86 (0 : Int64) at_85 (by decide) ?_
      refine C.lcmp 87 at_86 ?_
      rcases Decidable.em (g = (0 : Int64)) with h87 | h87
      · skip
        refine C.ifN 90 at_87 rfl (XT.ll_ne_f h87) ?_
        refine C.lload 92 at_90 rfl ?_
        refine C.lconst 93 (0 : Int64) at_92 (by decide) ?_
        refine C.lcmp 94 at_93 ?_
        refine C.ifN 97 at_94 rfl (XT.ll_ne_f (show (v % m') = (0 : Int64) from (own_i0.mpr (by rw [hx]; exact (LW h78i).1 (by rw [← hg, h87]; rfl))))) ?_
        refine C.iconst 98 (1 : Int32) at_97 (by decide) ?_
        refine C.goto 102 at_98 (by decide) (by decide) ?_
        refine C.retN (t := .boolean) rfl (by simp) at_102 ?_
        exact rfl
      · skip
        refine C.ifY 103 at_87 (by decide) (by decide) (XT.ll_ne_t h87) ?_
        have h87i : (v.toInt % m'.toInt * r.toInt) % m'.toInt ≠ 0 := fun e => h87 (own_i0.mpr (by rw [hg, e]))
        refine C.lload 105 at_103 rfl ?_
        refine C.lconst 106 (1 : Int64) at_105 (by decide) ?_
        refine C.lcmp 107 at_106 ?_
        refine C.ifN 110 at_107 rfl (XT.ll_le_f (show (1 : Int64) < g from (by rw [Int64.lt_iff_toInt_lt, hg]; exact ((LW h78i).2 h87i).1))) ?_
        refine C.lload 112 at_110 rfl ?_
        refine C.lload 114 at_112 rfl ?_
        refine C.lrem 115 at_114 (fun e => h87 e) ?_
        refine C.lconst 116 (0 : Int64) at_115 (by decide) ?_
        refine C.lcmp 117 at_116 ?_
        refine C.ifN 120 at_117 rfl (XT.ll_ne_f (show (v % g) = (0 : Int64) from (own_i0.mpr (by rw [own_rem (by omega), hg]; exact ((LW h78i).2 h87i).2.1)))) ?_
        refine C.lload 122 at_120 rfl ?_
        refine C.lload 124 at_122 rfl ?_
        refine C.lrem 125 at_124 (fun e => h87 e) ?_
        refine C.lconst 126 (0 : Int64) at_125 (by decide) ?_
        refine C.lcmp 127 at_126 ?_
        refine C.ifN 130 at_127 rfl (XT.ll_ne_f (show (m' % g) = (0 : Int64) from (own_i0.mpr (by rw [own_rem (by omega), hg]; exact ((LW h78i).2 h87i).2.2)))) ?_
        refine C.iconst 131 (1 : Int32) at_130 (by decide) ?_
        refine C.goto 135 at_131 (by decide) (by decide) ?_
        refine C.retN (t := .boolean) rfl (by simp) at_135 ?_
        exact rfl
set_option maxRecDepth 65536 in
set_option maxHeartbeats 40000000 in
theorem comes_1 {Post : Tables → Env → Array Value → State → Outcome → State → Prop} (hpost : ∀ tb e args s v u, (limb_1_1.after args s (.returned v) u = true ∧ limb_1_2.after args s (.returned v) u = true ∧ True) → FrameEnd s (.returned v) u (Jvm.fieldLocs frame_1_writes args s ++ Jvm.arrayLocs frame_1_arrays args s ++ Jvm.staticLocs frame_1_statics s) 0 0 → Post tb e args s (.returned v) u) :
    ArmFor flags0 classFile x code maxLocals ret World_1 tables_1 room_1 Calls_1 rest_1 Pre_1 Post := by
  intro l hfl _ _ p e ha hc hk s m args below hf hA hF happ hP
  obtain ⟨hcalls, hrest, hpre⟩ := hP
  obtain ⟨-, -, -, hnamed, -, -, -, hat⟩ := (Spec.applies_iff hf).mp happ
  obtain ⟨hg, hn⟩ := and_e (Cond.before_iff.mp (show (Jvm.Cond.and given_1 narrow_1).before args s = true from hpre))
  obtain ⟨g0, gr0⟩ := and_e hg
  obtain ⟨ga0, gr1⟩ := and_e gr0
  have ga1 := gr1
  obtain ⟨w0, w1, rfl⟩ : ∃ w0 w1 : Value, args = #[w0, w1] := by
    have hs : args.size = 2 := by simpa [Cond.value, given_1] using g0
    obtain ⟨L⟩ := args
    match L, hs with
    | [w0, w1], _ => exact ⟨w0, w1, rfl⟩
  have hw := fun d (hd : d ∈ tables_1) => atoms_spec (ws := Jvm.Cond.code x code maxLocals ret :: tables_1) hat d (List.mem_cons_of_mem _ hd)
  have hfit : Fit s := fun {y c} hc i hi => by
    obtain ⟨ha, rfl⟩ := Array.getElem?_eq_some_iff.mp hc
    have q := List.all_eq_true.mp ((Array.all_eq_true_iff_forall_mem.mp hF) _ (Array.getElem_mem ha)) i (List.mem_range.mpr hi)
    simpa [Array.getElem?_eq_getElem hi] using q
  obtain ⟨i0, e0⟩ := isL_v ga0
  obtain rfl : w0 = (.long i0) := Option.some.inj e0
  obtain ⟨i1, e1⟩ := isL_v ga1
  obtain rfl : w1 = (.long i1) := Option.some.inj e1
  obtain ⟨n, o, h1, h2, h3, _, L, rfl, ⟨rfl, -, rfl⟩, hq⟩ := met_law l s _ hw i0 i1 p e ha hc hk s m _ below hf ((Spec.applies_iff_loose hf).mp happ).1 ⟨rfl, State.Warmed39.refl s, rfl⟩ trivial
  refine ⟨n, _, h1, h2, h3, hpost _ _ _ _ _ _ ⟨Cond.after_iff.mpr rfl, Cond.after_iff.mpr (eq_i res_at (Term.int_eval (1)) rfl), trivial⟩ ⟨hq.1, hq.2.1, (hq.2.2.sift fun y hy => nomatch hy).mono (by decide) (by decide)⟩⟩
theorem main_1_1 : Claimed_1_1 := comes_1 fun _ _ _ _ _ _ h hF => ⟨h.1, hF⟩
theorem main_1_2 : Claimed_1_2 := comes_1 fun _ _ _ _ _ _ h hF => ⟨h.2.1, hF⟩
end Jvm.Pilot.@@N@@
namespace Jvm.Pilot.@@N@@
open Jvm Jvm.ClassFile Sem Op Lib Jvm.Free Jvm.Stand Jvm.Pilot.@@N@@.Jvm.D
/-! MADE BY PROGRAM (witnessworld.py) out of the Statement's table words and the real class files: 7 classes; the members and pool entries that the words name. The judged class is class 1, her method 2. -/
namespace start1
open Jvm.ClassFile
def u (s : String) : CpInfo := .utf8 (stringToUtf16 s)
/-- a pool by its gaps: so many unusable entries, then the entry; so many at the end -/
def gap : Nat → List CpInfo → List CpInfo
  | 0, r => r
  | n + 1, r => .unusable :: gap n r
def poolList (es : List (Nat × CpInfo)) (last : Nat) : List CpInfo := es.foldr (fun e r => gap e.1 (e.2 :: r)) (gap last [])
def pool (es : List (Nat × CpInfo)) (last : Nat) : Array CpInfo := ⟨poolList es last⟩
def fileOf (pool : Array CpInfo) (this : Nat) (attrs : Array Attribute := #[]) (ms : Array MethodInfo := #[]) (fl : Nat := 33) (sup : Nat := 0) (ifs : Array Nat := #[]) (fds : Array FieldInfo := #[]) : ClassFile where
  minorVersion := 0
  majorVersion := 65
  constantPool := pool
  accessFlags := fl
  thisClass := this
  superClass := sup
  interfaces := ifs
  fields := fds
  methods := ms
  attributes := attrs
def plain (name : String) (sup : Option ClassId) : Class where
  name := name
  kind := .ordinary
  loader := none
  accessFlags := 33
  super := sup
  interfaces := #[]
  cf := none
  fields := #[]
  methods := #[]
  instanceTypes := #[]
  staticTypes := #[]
  resolved := #[]
  callSites := []
  init := .initialized
  statics := none
  mirror := none

def pool0 : Array CpInfo := pool [(5, u "<init>"), (0, u "()V"), (1, .class_ 10), (1, u "java/lang/Object")] 113

def k0m0 : Method := { name := "<init>", desc := "()V", sig := { parameters := [], returnType := none }, accessFlags := 1, code := none }
/-- java/lang/Object -/
def k0 : Class := { plain "java/lang/Object" none with
  accessFlags := 33
  interfaces := #[]
  cf := some (fileOf pool0 8 #[] #[{ accessFlags := 1, nameIndex := 5, descriptorIndex := 6, attributes := #[] }] 33 0 #[] #[])
  fields := #[]
  methods := #[k0m0]
  instanceTypes := #[]
  staticTypes := #[]
  resolved := Array.replicate 124 none
  statics := none }

def pool1 : Array CpInfo := pool [(2, .class_ 4), (1, u "java/lang/Object"), (0, u "<init>"), (0, u "()V"), (0, .long 65535), (1, .long 4294967295), (1, .methodref 12 13), (0, .class_ 14), (0, .nameAndType 15 16), (0, u "com/example/gatesmith/gatesmith/power/PrimeFactors"), (0, u "inverse"), (0, u "(JJ)J"), (0, .methodref 18 19), (0, .class_ 20), (0, .nameAndType 21 22), (0, u "com/example/gatesmith/gatesmith/power/PrimeFactorsInversePinLaw"), (0, u "mulMod"), (0, u "(JJJ)J"), (2, u "law"), (0, u "(JJ)Z")] 3

def k1m0 : Method := { name := "<init>", desc := "()V", sig := { parameters := [], returnType := none }, accessFlags := 2, code := none }
def k1c1 : Code := { maxStack := 6, maxLocals := 12, code := method_2_code, exceptionTable := #[], attributes := #[] }
def k1m1 : Method := { name := "mulMod", desc := "(JJJ)J", sig := { parameters := [.long, .long, .long], returnType := some .long }, accessFlags := 10, code := some k1c1 }
def k1c2 : Code := { maxStack := 6, maxLocals := 16, code := code, exceptionTable := #[], attributes := #[] }
def k1m2 : Method := { name := "law", desc := "(JJ)Z", sig := { parameters := [.long, .long], returnType := some .boolean }, accessFlags := 9, code := some k1c2 }
/-- com/example/gatesmith/gatesmith/power/PrimeFactorsInversePinLaw -/
def k1 : Class := { plain "com/example/gatesmith/gatesmith/power/PrimeFactorsInversePinLaw" (some 0) with
  accessFlags := 49
  interfaces := #[]
  cf := some (fileOf pool1 18 #[] #[{ accessFlags := 2, nameIndex := 5, descriptorIndex := 6, attributes := #[] }, { accessFlags := 10, nameIndex := 21, descriptorIndex := 22, attributes := #[] }, { accessFlags := 9, nameIndex := 25, descriptorIndex := 26, attributes := #[] }] 49 2 #[] #[])
  fields := #[]
  methods := #[k1m0, k1m1, k1m2]
  instanceTypes := #[]
  staticTypes := #[]
  resolved := Array.replicate 30 none
  statics := none }

def pool2 : Array CpInfo := pool [(2, .class_ 4), (1, u "java/lang/Object"), (0, u "<init>"), (0, u "()V"), (0, .class_ 8), (0, u "com/example/gatesmith/gatesmith/power/PrimeFactors"), (56, u "BASES"), (0, u "[J"), (10, u "(JJ)J"), (23, u "LIMIT"), (0, u "J"), (1, u "TRIAL"), (0, u "BATCH"), (9, u "inverse")] 32

def k2m0 : Method := { name := "<init>", desc := "()V", sig := { parameters := [], returnType := none }, accessFlags := 2, code := none }
def k2c1 : Code := { maxStack := 6, maxLocals := 18, code := prog_82_method_10_code, exceptionTable := #[], attributes := #[] }
def k2m1 : Method := { name := "inverse", desc := "(JJ)J", sig := { parameters := [.long, .long], returnType := some .long }, accessFlags := 8, code := some k2c1 }
/-- com/example/gatesmith/gatesmith/power/PrimeFactors -/
def k2 : Class := { plain "com/example/gatesmith/gatesmith/power/PrimeFactors" (some 0) with
  accessFlags := 48
  interfaces := #[]
  cf := some (fileOf pool2 7 #[] #[{ accessFlags := 2, nameIndex := 5, descriptorIndex := 6, attributes := #[] }, { accessFlags := 8, nameIndex := 115, descriptorIndex := 77, attributes := #[] }] 48 2 #[] #[{ accessFlags := 24, nameIndex := 101, descriptorIndex := 102, attributes := #[] }, { accessFlags := 26, nameIndex := 104, descriptorIndex := 102, attributes := #[] }, { accessFlags := 26, nameIndex := 105, descriptorIndex := 102, attributes := #[] }, { accessFlags := 26, nameIndex := 65, descriptorIndex := 66, attributes := #[] }])
  fields := #[{ name := "LIMIT", type := .long, accessFlags := 24, slot := 0, constantValue := 0 }, { name := "TRIAL", type := .long, accessFlags := 26, slot := 1, constantValue := 0 }, { name := "BATCH", type := .long, accessFlags := 26, slot := 2, constantValue := 0 }, { name := "BASES", type := (.array .long), accessFlags := 26, slot := 3, constantValue := 0 }]
  methods := #[k2m0, k2m1]
  instanceTypes := #[]
  staticTypes := #[.long, .long, .long, (.array .long)]
  resolved := Array.replicate 148 none
  statics := none }

def pool3 : Array CpInfo := pool [(1, u "java/lang/Cloneable"), (0, .class_ 1), (0, u "java/lang/Object"), (0, .class_ 3)] 3

/-- java/lang/Cloneable -/
def k3 : Class := { plain "java/lang/Cloneable" (some 0) with
  accessFlags := 1537
  interfaces := #[]
  cf := some (fileOf pool3 2 #[] #[] 1537 4 #[] #[])
  fields := #[]
  methods := #[]
  instanceTypes := #[]
  staticTypes := #[]
  resolved := Array.replicate 8 none
  statics := none }

def pool4 : Array CpInfo := pool [(1, u "java/io/Serializable"), (0, .class_ 1), (0, u "java/lang/Object"), (0, .class_ 3)] 3

/-- java/io/Serializable -/
def k4 : Class := { plain "java/io/Serializable" (some 0) with
  accessFlags := 1537
  interfaces := #[]
  cf := some (fileOf pool4 2 #[] #[] 1537 4 #[] #[])
  fields := #[]
  methods := #[]
  instanceTypes := #[]
  staticTypes := #[]
  resolved := Array.replicate 8 none
  statics := none }

/-- the primitive byte -/
def k5 : Class := { plain "byte" none with kind := .primitive 'B', accessFlags := 0x411 }
/-- [B -/
def k6 : Class := { plain "[B" (some 0) with kind := .array 5 .byte, interfaces := #[3, 4], accessFlags := 1041 }

def heap : Heap := #[]
def classes : Array Class := #[k0, k1, k2, k3, k4, k5, k6]
def interned : List (Array UInt16 × Addr) := []
def slotsUsed : Nat := 0
def theMethod : MethodId := ⟨1, 2⟩
def args0 : Array Value := #[.long 7, .long 3]
def aboutOver (below : List Frame) : State where
  vm := { classes := classes, interned := interned.toArray }
  heap := heap
  slotsUsed := slotsUsed
  threads := #[{ frames := .invoking theMethod args0 :: below }]
def below0 : List Frame := [.native { method := ⟨0, 0⟩, args := #[] }]
def about1 : State := aboutOver below0
def p0 : Program := .bare "" "" ""
def e0 : Env := launch0.env 0 0 0
theorem w_frames : about1.frames = Frame.invoking theMethod args0 :: below0 := rfl
set_option maxRecDepth 65536 in
theorem w_args : argsFit about1.vm theMethod args0 = true := by decide +kernel
set_option maxRecDepth 65536 in
theorem w_heap : heapFits about1 = true := by decide +kernel
set_option maxRecDepth 65536 in
theorem w_runnable : about1.curStatus? = some .runnable := by decide +kernel
set_option maxRecDepth 65536 in
theorem w_alone : about1.alone = true := by decide +kernel
set_option maxRecDepth 65536 in
theorem w_named : about1.methodNamed? x = some theMethod := by decide +kernel
set_option maxRecDepth 65536 in
theorem w_hears : about1.hears theMethod below0 = true := by decide +kernel
set_option maxRecDepth 65536 in
theorem w_ripe : about1.ripe theMethod args0 below0 = true := by decide +kernel
theorem w_running : about1.status = .running := rfl
set_option maxRecDepth 65536 in
theorem w_room : about1.hasRoom e0.platform room_1 = true :=
  launch0.hasRoom_least _ room_1 (by decide +kernel) (by decide +kernel) (by decide +kernel) (by decide +kernel) (by decide +kernel) (by decide +kernel)
theorem allAtoms_all (ts : List Jvm.Cond) (a : Array Jvm.Value) (st : Jvm.State) : (allAtoms ts).before a st = ts.all (fun c => c.before a st) := by
  induction ts with
  | nil => rfl
  | cons c t ih =>
    show (Jvm.Cond.and c (allAtoms t)).before a st = _
    rw [Jvm.Cond.before_and, ih, List.all_cons]
def words1 : List Jvm.Cond := Jvm.Cond.code x code maxLocals ret :: tables_1
/-- a 'code' word, met by the world's own term for the bytes: nothing is compared byte by byte -/
theorem code_word {y : MethodName} {bytes : ByteArray} {mx : Nat} {rt : Option FieldType} {a : Array Value} {s : State} {m : MethodId} {meth : Method} {c : Code} (h1 : s.methodNamed? y = some m) (h2 : s.vm.method? m = some meth) (h3 : meth.code = some c) (h4 : c.code = bytes)
    (h5 : (c.maxLocals == mx && c.exceptionTable.isEmpty && decide (c.maxStack ≤ mostOperands) && decide (meth.sig.returnType = rt) && !meth.locks && decide (parseMethodDescriptor y.desc = some meth.sig)) = true) : (Jvm.Cond.code y bytes mx rt).before a s = true := by
  simp only [Bool.and_eq_true, beq_iff_eq, Bool.not_eq_true', decide_eq_true_eq] at h5
  obtain ⟨⟨⟨⟨⟨g1, g2⟩, g3⟩, g4⟩, g5⟩, g6⟩ := h5
  simp [Cond.before, Cond.holds, Cond.value, h1, h2, h3, h4, g1, g2, g3, g4, g5, g6]
def isCode : Jvm.Cond → Bool
  | .code _ _ _ _ => true
  | _ => false
theorem all_split {L : List Jvm.Cond} {P : Jvm.Cond → Bool} (h1 : L.all (fun c => isCode c || P c) = true) (h2 : ∀ c ∈ L.filter isCode, P c = true) : L.all P = true := by
  refine List.all_eq_true.mpr fun c hc => ?_
  have h := List.all_eq_true.mp h1 c hc
  rcases Bool.eq_false_or_eq_true (isCode c) with hi | hi
  · exact h2 c (List.mem_filter.mpr ⟨hc, hi⟩)
  · simpa [hi] using h
set_option maxRecDepth 65536 in
theorem w_c0 : (Jvm.Cond.code x code maxLocals ret).before args0 about1 = true := code_word (m := ⟨1, 2⟩) (meth := k1m2) (c := k1c2) (by decide +kernel) rfl rfl rfl (by decide +kernel)
set_option maxRecDepth 65536 in
theorem w_c1 : (Jvm.Cond.code ({ cls := "com/example/gatesmith/gatesmith/power/PrimeFactors", name := "inverse", desc := "(JJ)J" } : Jvm.MethodName) prog_82_method_10_code (18 : Nat) (Option.some Jvm.ClassFile.FieldType.long)).before args0 about1 = true := code_word (m := ⟨2, 1⟩) (meth := k2m1) (c := k2c1) (by decide +kernel) rfl rfl rfl (by decide +kernel)
set_option maxRecDepth 65536 in
theorem w_c2 : (Jvm.Cond.code ({ cls := "com/example/gatesmith/gatesmith/power/PrimeFactorsInversePinLaw", name := "mulMod", desc := "(JJJ)J" } : Jvm.MethodName) method_2_code (12 : Nat) (Option.some Jvm.ClassFile.FieldType.long)).before args0 about1 = true := code_word (m := ⟨1, 1⟩) (meth := k1m1) (c := k1c1) (by decide +kernel) rfl rfl rfl (by decide +kernel)
def codes1 : List Jvm.Cond := [Jvm.Cond.code x code maxLocals ret, Jvm.Cond.code ({ cls := "com/example/gatesmith/gatesmith/power/PrimeFactors", name := "inverse", desc := "(JJ)J" } : Jvm.MethodName) prog_82_method_10_code (18 : Nat) (Option.some Jvm.ClassFile.FieldType.long), Jvm.Cond.code ({ cls := "com/example/gatesmith/gatesmith/power/PrimeFactorsInversePinLaw", name := "mulMod", desc := "(JJJ)J" } : Jvm.MethodName) method_2_code (12 : Nat) (Option.some Jvm.ClassFile.FieldType.long)]
set_option maxRecDepth 65536 in
theorem codes_eq : words1.filter isCode = codes1 := rfl
theorem w_codes : ∀ c ∈ words1.filter isCode, c.before args0 about1 = true := by
  rw [codes_eq]
  intro c hc
  simp only [codes1, List.mem_cons, List.not_mem_nil, or_false] at hc
  rcases hc with rfl | rfl | rfl
  · exact w_c0
  · exact w_c1
  · exact w_c2
set_option maxRecDepth 65536 in
theorem w_t1 : words1.all (fun c => isCode c || c.before args0 about1) = true := by decide +kernel
theorem w_tables : (allAtoms (Jvm.Cond.code x code maxLocals ret :: tables_1)).before args0 about1 = true := by
  rw [allAtoms_all]
  show words1.all (fun c => c.before args0 about1) = true
  refine all_split ?_ w_codes
  rw [w_t1]
set_option maxRecDepth 65536 in
theorem w_case : (Jvm.Cond.and given_1 narrow_1).before args0 about1 = true := by decide +kernel
theorem w_applies : (headSpec (Jvm.Cond.code x code maxLocals ret :: tables_1) room_1).applies x e0.platform about1 = true :=
  (Spec.applies_iff w_frames).mpr ⟨w_running, w_runnable, w_alone, w_named, w_hears, w_ripe, w_room, w_tables⟩
theorem atStart : AtStart classFile x code maxLocals ret World_1 tables_1 room_1 Calls_1 rest_1 Pre_1 launch0 p0 e0 about1 theMethod args0 below0 :=
  ⟨lists_1, trivial, launch0.admits_env _ _ _, launch0.least_env, fairChoices_fair.cas, fairChoices_fair.clock, w_frames, w_args, w_heap, w_applies, trivial, trivial, w_case⟩
end start1
theorem witness_1 : WitnessClaimed_1 := ⟨start1.p0, start1.e0, start1.about1, start1.theMethod, start1.args0, start1.below0, start1.atStart⟩
end Jvm.Pilot.@@N@@
