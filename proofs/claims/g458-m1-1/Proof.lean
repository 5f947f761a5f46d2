import JvmDerived
import JvmDerived.Pilot.@@N@@Statement
import JvmDerived.Pilot.@@N@@Code
set_option linter.unusedVariables false
set_option linter.unusedSimpArgs false
@@BLOCK:NumsL.lean.txt@@
namespace Jvm.Pilot.@@N@@
open Jvm Jvm.ClassFile Sem Op Lib Jvm.Free Jvm.Stand Jvm.LawKit Jvm.RoadKit Bundle Jvm.Pilot.@@N@@.Jvm.D
section OwnWalk
variable {p : Program} {l : Launch} {e : Env} {R : Room} {s : State} {m : MethodId} {args : Array Value} {below : List Frame} {meth : Method} {c : Code} {T T' : State} {locs : List Loc} {cells slots : Nat} {P : Outcome → State → Prop} {pc : Nat} {ls : Array Slot} {st : List Value}
/-- from the frame g at T the method ends, and P holds of its end -/
def own_E (p : Program) (e : Env) (below : List Frame) (P : Outcome → State → Prop) (T : State) (g : JFrame) : Prop := ∃ s₂ o, Steps p.tables e below (T.setTop g) s₂ ∧ s₂.status = .running ∧ Ended s₂ below o ∧ P o s₂
theorem own_go {g g' : JFrame} (h : ∀ t, Steps p.tables e below (T'.setTop g') t → Steps p.tables e below (T.setTop g) t) (k : own_E p e below P T' g') : own_E p e below P T g := by
  obtain ⟨s₂, o, h1, h2⟩ := k; exact ⟨s₂, o, h _ h1, h2⟩
theorem own_cast {g g' : JFrame} (q : g = g') (k : own_E p e below P T g') : own_E p e below P T g := q ▸ k
/-- what a contract's end says -/
def own_P (s : State) (Q : Option Value → Heap → List Loc → Prop) (cm sm : Nat) (o : Outcome) (t : State) : Prop := ∃ v L, o = .returned v ∧ Q v t.heap L ∧ FrameEnd s o t L cm sm
theorem own_iloadN (X : Stand p l e R s m args below meth c T locs cells slots) (hx : p.tables.exec = Jvm.exec) {k : Fin 4} {v : Int32} (hd : decode c.code pc = .ok (.iload_n k, 1)) (hl : ls[k.val]? = some (.val (.int v))) (h : own_E p e below P T (mkF m (pc + 1) ls (.int v :: st))) : own_E p e below P T (mkF m pc ls (st)) := own_go (fun _ k => XS.iloadN X.here hx rfl hd hl k) h
theorem own_iload (X : Stand p l e R s m args below meth c T locs cells slots) (hx : p.tables.exec = Jvm.exec) {k : Nat} {v : Int32} (hd : decode c.code pc = .ok (.iload k, 2)) (hl : ls[k]? = some (.val (.int v))) (h : own_E p e below P T (mkF m (pc + 2) ls (.int v :: st))) : own_E p e below P T (mkF m pc ls (st)) := own_go (fun _ k => XS.iload X.here hx rfl hd hl k) h
theorem own_lloadN (X : Stand p l e R s m args below meth c T locs cells slots) (hx : p.tables.exec = Jvm.exec) {k : Fin 4} {v : Int64} (hd : decode c.code pc = .ok (.lload_n k, 1)) (hl : ls[k.val]? = some (.val (.long v))) (h : own_E p e below P T (mkF m (pc + 1) ls (.long v :: st))) : own_E p e below P T (mkF m pc ls (st)) := own_go (fun _ k => XT.lloadN X.here hx rfl hd hl k) h
theorem own_lload (X : Stand p l e R s m args below meth c T locs cells slots) (hx : p.tables.exec = Jvm.exec) {k : Nat} {v : Int64} (hd : decode c.code pc = .ok (.lload k, 2)) (hl : ls[k]? = some (.val (.long v))) (h : own_E p e below P T (mkF m (pc + 2) ls (.long v :: st))) : own_E p e below P T (mkF m pc ls (st)) := own_go (fun _ k => XT.lload X.here hx rfl hd hl k) h
theorem own_aloadN (X : Stand p l e R s m args below meth c T locs cells slots) (hx : p.tables.exec = Jvm.exec) {k : Fin 4} {v : Value} (hd : decode c.code pc = .ok (.aload_n k, 1)) (hl : ls[k.val]? = some (.val v)) (hv : v.isRef = true) (h : own_E p e below P T (mkF m (pc + 1) ls (v :: st))) : own_E p e below P T (mkF m pc ls (st)) := own_go (fun _ k => XS.aloadN X.here hx rfl hd hl hv k) h
theorem own_aload (X : Stand p l e R s m args below meth c T locs cells slots) (hx : p.tables.exec = Jvm.exec) {k : Nat} {v : Value} (hd : decode c.code pc = .ok (.aload k, 2)) (hl : ls[k]? = some (.val v)) (hv : v.isRef = true) (h : own_E p e below P T (mkF m (pc + 2) ls (v :: st))) : own_E p e below P T (mkF m pc ls (st)) := own_go (fun _ k => XS.aload X.here hx rfl hd hl hv k) h
theorem own_istoreN (X : Stand p l e R s m args below meth c T locs cells slots) (hx : p.tables.exec = Jvm.exec) {k : Fin 4} {v : Int32} {l' : Array Slot} (hd : decode c.code pc = .ok (.istore_n k, 1)) (hl : storeLocals ls k.val (.int v) = some l') (h : own_E p e below P T (mkF m (pc + 1) l' (st))) : own_E p e below P T (mkF m pc ls (.int v :: st)) := own_go (fun _ k => XS.istoreN X.here hx rfl hd rfl hl k) h
theorem own_istore (X : Stand p l e R s m args below meth c T locs cells slots) (hx : p.tables.exec = Jvm.exec) {k : Nat} {v : Int32} {l' : Array Slot} (hd : decode c.code pc = .ok (.istore k, 2)) (hl : storeLocals ls k (.int v) = some l') (h : own_E p e below P T (mkF m (pc + 2) l' (st))) : own_E p e below P T (mkF m pc ls (.int v :: st)) := own_go (fun _ k => XS.istore X.here hx rfl hd rfl hl k) h
theorem own_lstoreN (X : Stand p l e R s m args below meth c T locs cells slots) (hx : p.tables.exec = Jvm.exec) {k : Fin 4} {v : Int64} {l' : Array Slot} (hd : decode c.code pc = .ok (.lstore_n k, 1)) (hl : storeLocals ls k.val (.long v) = some l') (h : own_E p e below P T (mkF m (pc + 1) l' (st))) : own_E p e below P T (mkF m pc ls (.long v :: st)) := own_go (fun _ k => XT.lstoreN X.here hx rfl hd rfl hl k) h
theorem own_lstore (X : Stand p l e R s m args below meth c T locs cells slots) (hx : p.tables.exec = Jvm.exec) {k : Nat} {v : Int64} {l' : Array Slot} (hd : decode c.code pc = .ok (.lstore k, 2)) (hl : storeLocals ls k (.long v) = some l') (h : own_E p e below P T (mkF m (pc + 2) l' (st))) : own_E p e below P T (mkF m pc ls (.long v :: st)) := own_go (fun _ k => XT.lstore X.here hx rfl hd rfl hl k) h
theorem own_astoreN (X : Stand p l e R s m args below meth c T locs cells slots) (hx : p.tables.exec = Jvm.exec) {k : Fin 4} {v : Value} {l' : Array Slot} (hd : decode c.code pc = .ok (.astore_n k, 1)) (hv : v.isRef = true) (hl : storeLocals ls k.val v = some l') (h : own_E p e below P T (mkF m (pc + 1) l' (st))) : own_E p e below P T (mkF m pc ls (v :: st)) := own_go (fun _ k => XS.astoreN X.here hx rfl hd rfl hv hl k) h
theorem own_astore (X : Stand p l e R s m args below meth c T locs cells slots) (hx : p.tables.exec = Jvm.exec) {k : Nat} {v : Value} {l' : Array Slot} (hd : decode c.code pc = .ok (.astore k, 2)) (hv : v.isRef = true) (hl : storeLocals ls k v = some l') (h : own_E p e below P T (mkF m (pc + 2) l' (st))) : own_E p e below P T (mkF m pc ls (v :: st)) := own_go (fun _ k => XS.astore X.here hx rfl hd rfl hv hl k) h
theorem own_iconst (X : Stand p l e R s m args below meth c T locs cells slots) (hx : p.tables.exec = Jvm.exec) {i : Int} {v : Int32} (hd : decode c.code pc = .ok (.iconst i, 1)) (hv : Int32.ofInt i = v) (h : own_E p e below P T (mkF m (pc + 1) ls (.int v :: st))) : own_E p e below P T (mkF m pc ls (st)) := by subst hv; exact own_go (fun _ k => XS.iconst X.here hx rfl hd k) h
theorem own_bipush (X : Stand p l e R s m args below meth c T locs cells slots) (hx : p.tables.exec = Jvm.exec) {i : Int} {v : Int32} (hd : decode c.code pc = .ok (.bipush i, 2)) (hv : (Int8.ofInt i).toInt32 = v) (h : own_E p e below P T (mkF m (pc + 2) ls (.int v :: st))) : own_E p e below P T (mkF m pc ls (st)) := by subst hv; exact own_go (fun _ k => XS.bipush X.here hx rfl hd k) h
theorem own_sipush (X : Stand p l e R s m args below meth c T locs cells slots) (hx : p.tables.exec = Jvm.exec) {i : Int} {v : Int32} (hd : decode c.code pc = .ok (.sipush i, 3)) (hv : (Int16.ofInt i).toInt32 = v) (h : own_E p e below P T (mkF m (pc + 3) ls (.int v :: st))) : own_E p e below P T (mkF m pc ls (st)) := by subst hv; exact own_go (fun _ k => XS.sipush X.here hx rfl hd k) h
theorem own_lconst (X : Stand p l e R s m args below meth c T locs cells slots) (hx : p.tables.exec = Jvm.exec) {i : Fin 2} {v : Int64} (hd : decode c.code pc = .ok (.lconst i, 1)) (hv : Int64.ofNat i = v) (h : own_E p e below P T (mkF m (pc + 1) ls (.long v :: st))) : own_E p e below P T (mkF m pc ls (st)) := by subst hv; exact own_go (fun _ k => XT.lconst X.here hx rfl hd k) h
theorem own_aconstNull (X : Stand p l e R s m args below meth c T locs cells slots) (hx : p.tables.exec = Jvm.exec)  (hd : decode c.code pc = .ok (.aconst_null, 1)) (h : own_E p e below P T (mkF m (pc + 1) ls (.null :: st))) : own_E p e below P T (mkF m pc ls (st)) := own_go (fun _ k => XS.aconstNull X.here hx rfl hd k) h
theorem own_iadd (X : Stand p l e R s m args below meth c T locs cells slots) (hx : p.tables.exec = Jvm.exec) {x y z : Int32} (hd : decode c.code pc = .ok (.iadd, 1)) (hv : x + y = z) (h : own_E p e below P T (mkF m (pc + 1) ls (.int z :: st))) : own_E p e below P T (mkF m pc ls (.int y :: .int x :: st)) := by subst hv; exact own_go (fun _ k => XS.iadd X.here hx rfl hd rfl k) h
theorem own_isub (X : Stand p l e R s m args below meth c T locs cells slots) (hx : p.tables.exec = Jvm.exec) {x y z : Int32} (hd : decode c.code pc = .ok (.isub, 1)) (hv : x - y = z) (h : own_E p e below P T (mkF m (pc + 1) ls (.int z :: st))) : own_E p e below P T (mkF m pc ls (.int y :: .int x :: st)) := by subst hv; exact own_go (fun _ k => XS.isub X.here hx rfl hd rfl k) h
theorem own_imul (X : Stand p l e R s m args below meth c T locs cells slots) (hx : p.tables.exec = Jvm.exec) {x y z : Int32} (hd : decode c.code pc = .ok (.imul, 1)) (hv : x * y = z) (h : own_E p e below P T (mkF m (pc + 1) ls (.int z :: st))) : own_E p e below P T (mkF m pc ls (.int y :: .int x :: st)) := by subst hv; exact own_go (fun _ k => XS.imul X.here hx rfl hd rfl k) h
theorem own_iand (X : Stand p l e R s m args below meth c T locs cells slots) (hx : p.tables.exec = Jvm.exec) {x y z : Int32} (hd : decode c.code pc = .ok (.iand, 1)) (hv : x &&& y = z) (h : own_E p e below P T (mkF m (pc + 1) ls (.int z :: st))) : own_E p e below P T (mkF m pc ls (.int y :: .int x :: st)) := by subst hv; exact own_go (fun _ k => XS.iand X.here hx rfl hd rfl k) h
theorem own_ior (X : Stand p l e R s m args below meth c T locs cells slots) (hx : p.tables.exec = Jvm.exec) {x y z : Int32} (hd : decode c.code pc = .ok (.ior, 1)) (hv : x ||| y = z) (h : own_E p e below P T (mkF m (pc + 1) ls (.int z :: st))) : own_E p e below P T (mkF m pc ls (.int y :: .int x :: st)) := by subst hv; exact own_go (fun _ k => XT.ior X.here hx rfl hd rfl k) h
theorem own_ishr (X : Stand p l e R s m args below meth c T locs cells slots) (hx : p.tables.exec = Jvm.exec) {x y z : Int32} (hd : decode c.code pc = .ok (.ishr, 1)) (hv : x >>> (y &&& 31) = z) (h : own_E p e below P T (mkF m (pc + 1) ls (.int z :: st))) : own_E p e below P T (mkF m pc ls (.int y :: .int x :: st)) := by subst hv; exact own_go (fun _ k => XT.ishr X.here hx rfl hd rfl k) h
theorem own_iushr (X : Stand p l e R s m args below meth c T locs cells slots) (hx : p.tables.exec = Jvm.exec) {x y z : Int32} (hd : decode c.code pc = .ok (.iushr, 1)) (hv : Jvm.Free.XT.ushr x y = z) (h : own_E p e below P T (mkF m (pc + 1) ls (.int z :: st))) : own_E p e below P T (mkF m pc ls (.int y :: .int x :: st)) := by subst hv; exact own_go (fun _ k => XT.iushr X.here hx rfl hd rfl k) h
theorem own_ladd (X : Stand p l e R s m args below meth c T locs cells slots) (hx : p.tables.exec = Jvm.exec) {x y z : Int64} (hd : decode c.code pc = .ok (.ladd, 1)) (hv : x + y = z) (h : own_E p e below P T (mkF m (pc + 1) ls (.long z :: st))) : own_E p e below P T (mkF m pc ls (.long y :: .long x :: st)) := by subst hv; exact own_go (fun _ k => XT.ladd X.here hx rfl hd rfl k) h
theorem own_lsub (X : Stand p l e R s m args below meth c T locs cells slots) (hx : p.tables.exec = Jvm.exec) {x y z : Int64} (hd : decode c.code pc = .ok (.lsub, 1)) (hv : x - y = z) (h : own_E p e below P T (mkF m (pc + 1) ls (.long z :: st))) : own_E p e below P T (mkF m pc ls (.long y :: .long x :: st)) := by subst hv; exact own_go (fun _ k => XT.lsub X.here hx rfl hd rfl k) h
theorem own_lmul (X : Stand p l e R s m args below meth c T locs cells slots) (hx : p.tables.exec = Jvm.exec) {x y z : Int64} (hd : decode c.code pc = .ok (.lmul, 1)) (hv : x * y = z) (h : own_E p e below P T (mkF m (pc + 1) ls (.long z :: st))) : own_E p e below P T (mkF m pc ls (.long y :: .long x :: st)) := by subst hv; exact own_go (fun _ k => XT.lmul X.here hx rfl hd rfl k) h
theorem own_land (X : Stand p l e R s m args below meth c T locs cells slots) (hx : p.tables.exec = Jvm.exec) {x y z : Int64} (hd : decode c.code pc = .ok (.land, 1)) (hv : x &&& y = z) (h : own_E p e below P T (mkF m (pc + 1) ls (.long z :: st))) : own_E p e below P T (mkF m pc ls (.long y :: .long x :: st)) := by subst hv; exact own_go (fun _ k => XT.land X.here hx rfl hd rfl k) h
theorem own_ldiv (X : Stand p l e R s m args below meth c T locs cells slots) (hx : p.tables.exec = Jvm.exec) {x y z : Int64} (hd : decode c.code pc = .ok (.ldiv, 1)) (hy : y ≠ 0) (hv : x / y = z) (h : own_E p e below P T (mkF m (pc + 1) ls (.long z :: st))) : own_E p e below P T (mkF m pc ls (.long y :: .long x :: st)) := by subst hv; exact own_go (fun _ k => XT.ldiv X.here hx rfl hd rfl hy k) h
theorem own_lushr (X : Stand p l e R s m args below meth c T locs cells slots) (hx : p.tables.exec = Jvm.exec) {x z : Int64} {y : Int32} (hd : decode c.code pc = .ok (.lushr, 1)) (hv : Jvm.Free.XT.ushrL x y = z) (h : own_E p e below P T (mkF m (pc + 1) ls (.long z :: st))) : own_E p e below P T (mkF m pc ls (.int y :: .long x :: st)) := by subst hv; exact own_go (fun _ k => XT.lushr X.here hx rfl hd rfl k) h
theorem own_lcmp (X : Stand p l e R s m args below meth c T locs cells slots) (hx : p.tables.exec = Jvm.exec) {x y : Int64} {z : Int32} (hd : decode c.code pc = .ok (.lcmp, 1)) (hv : Jvm.Free.XT.cmpL x y = z) (h : own_E p e below P T (mkF m (pc + 1) ls (.int z :: st))) : own_E p e below P T (mkF m pc ls (.long y :: .long x :: st)) := by subst hv; exact own_go (fun _ k => XT.lcmp X.here hx rfl hd rfl k) h
theorem own_i2l (X : Stand p l e R s m args below meth c T locs cells slots) (hx : p.tables.exec = Jvm.exec) {x : Int32} {z : Int64} (hd : decode c.code pc = .ok (.i2l, 1)) (hv : x.toInt64 = z) (h : own_E p e below P T (mkF m (pc + 1) ls (.long z :: st))) : own_E p e below P T (mkF m pc ls (.int x :: st)) := by subst hv; exact own_go (fun _ k => XT.i2l X.here hx rfl hd rfl k) h
theorem own_l2i (X : Stand p l e R s m args below meth c T locs cells slots) (hx : p.tables.exec = Jvm.exec) {x : Int64} {z : Int32} (hd : decode c.code pc = .ok (.l2i, 1)) (hv : x.toInt32 = z) (h : own_E p e below P T (mkF m (pc + 1) ls (.int z :: st))) : own_E p e below P T (mkF m pc ls (.long x :: st)) := by subst hv; exact own_go (fun _ k => XT.l2i X.here hx rfl hd rfl k) h
theorem own_i2c (X : Stand p l e R s m args below meth c T locs cells slots) (hx : p.tables.exec = Jvm.exec) {x z : Int32} (hd : decode c.code pc = .ok (.i2c, 1)) (hv : x.toUInt32.toUInt16.toUInt32.toInt32 = z) (h : own_E p e below P T (mkF m (pc + 1) ls (.int z :: st))) : own_E p e below P T (mkF m pc ls (.int x :: st)) := by subst hv; exact own_go (fun _ k => XT.i2c X.here hx rfl hd rfl k) h
theorem own_i2b (X : Stand p l e R s m args below meth c T locs cells slots) (hx : p.tables.exec = Jvm.exec) {x z : Int32} (hd : decode c.code pc = .ok (.i2b, 1)) (hv : x.toInt8.toInt32 = z) (h : own_E p e below P T (mkF m (pc + 1) ls (.int z :: st))) : own_E p e below P T (mkF m pc ls (.int x :: st)) := by subst hv; exact own_go (fun _ k => XT.i2b X.here hx rfl hd rfl k) h
theorem own_iinc (X : Stand p l e R s m args below meth c T locs cells slots) (hx : p.tables.exec = Jvm.exec) {k : Nat} {i : Int} {x z : Int32} {l' : Array Slot} (hd : decode c.code pc = .ok (.iinc k i, 3)) (hl : ls[k]? = some (.val (.int x))) (hv : x + Int32.ofInt i = z) (hl' : storeLocals ls k (.int z) = some l') (h : own_E p e below P T (mkF m (pc + 3) l' (st))) : own_E p e below P T (mkF m pc ls (st)) := by subst hv; exact own_go (fun _ k => XS.iinc X.here hx rfl hd hl hl' k) h
theorem own_dup (X : Stand p l e R s m args below meth c T locs cells slots) (hx : p.tables.exec = Jvm.exec) {v : Value} (hd : decode c.code pc = .ok (.dup, 1)) (hv : v.category = 1) (h : own_E p e below P T (mkF m (pc + 1) ls (v :: v :: st))) : own_E p e below P T (mkF m pc ls (v :: st)) := own_go (fun _ k => XS.dup X.here hx rfl hd rfl hv k) h
theorem own_pop (X : Stand p l e R s m args below meth c T locs cells slots) (hx : p.tables.exec = Jvm.exec) {v : Value} (hd : decode c.code pc = .ok (.pop, 1)) (hv : v.category = 1) (h : own_E p e below P T (mkF m (pc + 1) ls (st))) : own_E p e below P T (mkF m pc ls (v :: st)) := own_go (fun _ k => XT.pop X.here hx rfl hd rfl hv k) h
theorem own_dupX1 (X : Stand p l e R s m args below meth c T locs cells slots) (hx : p.tables.exec = Jvm.exec) {v w : Value} (hd : decode c.code pc = .ok (.dup_x1, 1)) (hv : v.category = 1) (hw : w.category = 1) (h : own_E p e below P T (mkF m (pc + 1) ls (v :: w :: v :: st))) : own_E p e below P T (mkF m pc ls (v :: w :: st)) := own_go (fun _ k => XT.dupX1 X.here hx rfl hd rfl hv hw k) h
theorem own_goto (X : Stand p l e R s m args below meth c T locs cells slots) (hx : p.tables.exec = Jvm.exec)  {o : Int} (hd : decode c.code pc = .ok (.goto o, 3)) (pc' : Nat) (ho : 0 ≤ (pc : Int) + o) (hp : ((pc : Int) + o).toNat = pc') (h : own_E p e below P T (mkF m pc' ls st)) : own_E p e below P T (mkF m pc ls (st)) := own_go (fun _ k => XS.goto X.here hx rfl rfl hd ho hp k) h
theorem own_ifYes (X : Stand p l e R s m args below meth c T locs cells slots) (hx : p.tables.exec = Jvm.exec) {cd : ClassFile.Cond} {x : Int32} {o : Int} (hd : decode c.code pc = .ok (.ifCond cd o, 3)) (hc : ifCond.holds cd x = true) (pc' : Nat) (ho : 0 ≤ (pc : Int) + o) (hp : ((pc : Int) + o).toNat = pc') (h : own_E p e below P T (mkF m pc' ls st)) : own_E p e below P T (mkF m pc ls (.int x :: st)) := own_go (fun _ k => XS.ifYes X.here hx rfl rfl hd rfl hc ho hp k) h
theorem own_ifNo (X : Stand p l e R s m args below meth c T locs cells slots) (hx : p.tables.exec = Jvm.exec) {cd : ClassFile.Cond} {x : Int32} {o : Int} (hd : decode c.code pc = .ok (.ifCond cd o, 3)) (hc : ifCond.holds cd x = false) (h : own_E p e below P T (mkF m (pc + 3) ls st)) : own_E p e below P T (mkF m pc ls (.int x :: st)) := own_go (fun _ k => XS.ifNo X.here hx rfl hd rfl hc k) h
theorem own_icmpYes (X : Stand p l e R s m args below meth c T locs cells slots) (hx : p.tables.exec = Jvm.exec) {cd : ClassFile.Cond} {x y : Int32} {o : Int} (hd : decode c.code pc = .ok (.if_icmp cd o, 3)) (hc : if_icmp.holds cd x y = true) (pc' : Nat) (ho : 0 ≤ (pc : Int) + o) (hp : ((pc : Int) + o).toNat = pc') (h : own_E p e below P T (mkF m pc' ls st)) : own_E p e below P T (mkF m pc ls (.int y :: .int x :: st)) := own_go (fun _ k => XS.icmpYes X.here hx rfl rfl hd rfl hc ho hp k) h
theorem own_icmpNo (X : Stand p l e R s m args below meth c T locs cells slots) (hx : p.tables.exec = Jvm.exec) {cd : ClassFile.Cond} {x y : Int32} {o : Int} (hd : decode c.code pc = .ok (.if_icmp cd o, 3)) (hc : if_icmp.holds cd x y = false) (h : own_E p e below P T (mkF m (pc + 3) ls st)) : own_E p e below P T (mkF m pc ls (.int y :: .int x :: st)) := own_go (fun _ k => XS.icmpNo X.here hx rfl hd rfl hc k) h
theorem own_acmpYes (X : Stand p l e R s m args below meth c T locs cells slots) (hx : p.tables.exec = Jvm.exec) {cd : ACond} {x y : Value} {o : Int} (hd : decode c.code pc = .ok (.if_acmp cd o, 3)) (h1 : x.isRef = true) (h2 : y.isRef = true) (hc : Jvm.Free.XT.acmp cd x y = true) (pc' : Nat) (ho : 0 ≤ (pc : Int) + o) (hp : ((pc : Int) + o).toNat = pc') (h : own_E p e below P T (mkF m pc' ls st)) : own_E p e below P T (mkF m pc ls (y :: x :: st)) := own_go (fun _ k => Jvm.RoadKit.acmp X hx rfl h1 h2 (same := decide (x = y)) rfl hd rfl rfl ho (by rw [hp]; cases cd <;> simp_all [acV, Jvm.Free.XT.acmp]) k) h
theorem own_acmpNo (X : Stand p l e R s m args below meth c T locs cells slots) (hx : p.tables.exec = Jvm.exec) {cd : ACond} {x y : Value} {o : Int} (hd : decode c.code pc = .ok (.if_acmp cd o, 3)) (h1 : x.isRef = true) (h2 : y.isRef = true) (ho : 0 ≤ (pc : Int) + o) (hc : Jvm.Free.XT.acmp cd x y = false) (h : own_E p e below P T (mkF m (pc + 3) ls st)) : own_E p e below P T (mkF m pc ls (y :: x :: st)) := own_go (fun _ k => Jvm.RoadKit.acmp X hx rfl h1 h2 (same := decide (x = y)) rfl hd rfl rfl ho (by cases cd <;> simp_all [acV, Jvm.Free.XT.acmp]) k) h
theorem own_nullYes (X : Stand p l e R s m args below meth c T locs cells slots) (hx : p.tables.exec = Jvm.exec)  {o : Int} (hd : decode c.code pc = .ok (.ifnull o, 3)) (pc' : Nat) (ho : 0 ≤ (pc : Int) + o) (hp : ((pc : Int) + o).toNat = pc') (h : own_E p e below P T (mkF m pc' ls st)) : own_E p e below P T (mkF m pc ls (.null :: st)) := own_go (fun _ k => XS.ifnullYes X.here hx rfl rfl hd rfl ho hp k) h
theorem own_nullNo (X : Stand p l e R s m args below meth c T locs cells slots) (hx : p.tables.exec = Jvm.exec) {b : Addr} {o : Int} (hd : decode c.code pc = .ok (.ifnull o, 3)) (h : own_E p e below P T (mkF m (pc + 3) ls st)) : own_E p e below P T (mkF m pc ls (.ref b :: st)) := own_go (fun _ k => XS.ifnullNo X.here hx rfl hd rfl k) h
theorem own_nonnullYes (X : Stand p l e R s m args below meth c T locs cells slots) (hx : p.tables.exec = Jvm.exec) {b : Addr} {o : Int} (hd : decode c.code pc = .ok (.ifnonnull o, 3)) (pc' : Nat) (ho : 0 ≤ (pc : Int) + o) (hp : ((pc : Int) + o).toNat = pc') (h : own_E p e below P T (mkF m pc' ls st)) : own_E p e below P T (mkF m pc ls (.ref b :: st)) := own_go (fun _ k => XT.ifnonnullYes X.here hx rfl rfl hd rfl ho hp k) h
theorem own_nonnullNo (X : Stand p l e R s m args below meth c T locs cells slots) (hx : p.tables.exec = Jvm.exec)  {o : Int} (hd : decode c.code pc = .ok (.ifnonnull o, 3)) (h : own_E p e below P T (mkF m (pc + 3) ls st)) : own_E p e below P T (mkF m pc ls (.null :: st)) := own_go (fun _ k => XT.ifnonnullNo X.here hx rfl hd rfl k) h
theorem own_alen (X : Stand p l e R s m args below meth c T locs cells slots) (hx : p.tables.exec = Jvm.exec) {Z : State} (hZ : Z.Warmed39 s.vm) {h : Heap} (eT : T.heap = h) {a : Addr} {cl : Cell} {ty : FieldType} (A : Arr Z h a cl ty) {z : Int32} (hz : cl.slots.size.toInt32 = z) (hd : decode c.code pc = .ok (.arraylength, 1)) (k : own_E p e below P T (mkF m (pc + 1) ls (.int z :: st))) : own_E p e below P T (mkF m pc ls (.ref a :: st)) := by
  subst hz
  exact own_go (fun _ k => X.arraylength hx (by rw [eT]; exact A.1) (State.isArrayOf_alike hZ.alike A.2.1) (g := mkF m pc ls (.ref a :: st)) rfl rfl hd _ k) k
theorem own_baload (X : Stand p l e R s m args below meth c T locs cells slots) (hx : p.tables.exec = Jvm.exec) {Z : State} (hZ : Z.Warmed39 s.vm) {h : Heap} (eT : T.heap = h) {a : Addr} {cl : Cell} (A : Arr Z h a cl .byte) {j : Int32} {v : Value} (hin : ¬ (j < 0 ∨ cl.slots.size ≤ j.toNatClampNeg)) (hv : cl.slots[j.toNatClampNeg]? = some v) (hd : decode c.code pc = .ok (.baload, 1)) (k : own_E p e below P T (mkF m (pc + 1) ls (v :: st))) : own_E p e below P T (mkF m pc ls (.int j :: .ref a :: st)) :=
  own_go (fun _ k => X.baloadBytes hx (by rw [eT]; exact A.1) (State.isArrayOf_alike hZ.alike A.2.1) A.2.2 hin hv (g := mkF m pc ls (.int j :: .ref a :: st)) rfl rfl hd _ k) k
theorem own_zaload (X : Stand p l e R s m args below meth c T locs cells slots) (hx : p.tables.exec = Jvm.exec) {Z : State} (hZ : Z.Warmed39 s.vm) {h : Heap} (eT : T.heap = h) {a : Addr} {cl : Cell} (A : Arr Z h a cl .boolean) {j : Int32} {v : Value} (hin : ¬ (j < 0 ∨ cl.slots.size ≤ j.toNatClampNeg)) (hv : cl.slots[j.toNatClampNeg]? = some v) (hd : decode c.code pc = .ok (.baload, 1)) (k : own_E p e below P T (mkF m (pc + 1) ls (v :: st))) : own_E p e below P T (mkF m pc ls (.int j :: .ref a :: st)) :=
  own_go (fun _ k => X.baloadBooleans hx (by rw [eT]; exact A.1) (State.isArrayOf_alike hZ.alike A.2.1) A.2.2 hin hv (g := mkF m pc ls (.int j :: .ref a :: st)) rfl rfl hd _ k) k
theorem own_iaload (X : Stand p l e R s m args below meth c T locs cells slots) (hx : p.tables.exec = Jvm.exec) {Z : State} (hZ : Z.Warmed39 s.vm) {h : Heap} (eT : T.heap = h) {a : Addr} {cl : Cell} (A : Arr Z h a cl .int) {j : Int32} {v : Value} (hin : ¬ (j < 0 ∨ cl.slots.size ≤ j.toNatClampNeg)) (hv : cl.slots[j.toNatClampNeg]? = some v) (hd : decode c.code pc = .ok (.iaload, 1)) (k : own_E p e below P T (mkF m (pc + 1) ls (v :: st))) : own_E p e below P T (mkF m pc ls (.int j :: .ref a :: st)) :=
  own_go (fun _ k => X.iaload hx (by rw [eT]; exact A.1) (State.isArrayOf_alike hZ.alike A.2.1) A.2.2 hin hv (g := mkF m pc ls (.int j :: .ref a :: st)) rfl rfl hd _ k) k
theorem own_aaload (X : Stand p l e R s m args below meth c T locs cells slots) (hx : p.tables.exec = Jvm.exec) {Z : State} (hZ : Z.Warmed39 s.vm) {h : Heap} (eT : T.heap = h) {a : Addr} {cl : Cell} {ty : FieldType} (A : Arr Z h a cl ty) (hty : ty.isReference = true) {j : Int32} {v : Value} (hin : ¬ (j < 0 ∨ cl.slots.size ≤ j.toNatClampNeg)) (hv : cl.slots[j.toNatClampNeg]? = some v) (hd : decode c.code pc = .ok (.aaload, 1)) (k : own_E p e below P T (mkF m (pc + 1) ls (v :: st))) : own_E p e below P T (mkF m pc ls (.int j :: .ref a :: st)) :=
  own_go (fun _ k => X.aaload hx (by rw [eT]; exact A.1) (State.isArrayOf_alike hZ.alike A.2.1) hty A.2.2 hin hv (g := mkF m pc ls (.int j :: .ref a :: st)) rfl rfl hd _ k) k
theorem own_retN (X : Stand p l e R s m args below meth c T locs cells slots) (hx : p.tables.exec = Jvm.exec) {z z' : Int32} {t : FieldType} {Q : Option Value → Heap → List Loc → Prop} {cm sm : Nat} (hret : meth.sig.returnType = some t) (ht : t = .boolean ∨ t = .byte ∨ t = .char ∨ t = .short) (hlk : meth.locks = false) (hd : decode c.code pc = .ok (.ireturn, 1)) (hz : nar t z = z') (hc : cells ≤ cm) (hs : slots ≤ sm) (hQ : Q (some (.int z')) T.heap locs) : own_E p e below (own_P s Q cm sm) T (mkF m pc ls (.int z :: st)) := by
  subst hz
  obtain ⟨fs, hr, hrun, hended, hW, hsame⟩ := X.leave (v := some (.int (nar t z))) (fun h => by rw [hret] at h; cases h) hlk
  exact ⟨_, _, retN X hx hret ht hd hr, hrun, hended, _, _, rfl, hQ, ⟨_, rfl⟩, hW, hsame.mono hc hs⟩
theorem own_retO (X : Stand p l e R s m args below meth c T locs cells slots) (hx : p.tables.exec = Jvm.exec) {w : Value} {t : FieldType} {i : Instr} {Q : Option Value → Heap → List Loc → Prop} {cm sm : Nat} (hret : meth.sig.returnType = some t) (hlk : meth.locks = false) (hn : narrow t w = w)
    (hi : (i = .ireturn ∧ (t = .int ∨ t = .boolean ∨ t = .byte ∨ t = .char ∨ t = .short) ∧ ∃ z, w = .int z) ∨ (i = .lreturn ∧ t = .long ∧ ∃ z, w = .long z) ∨ (i = .dreturn ∧ t = .double ∧ ∃ z, w = .double z) ∨ (i = .freturn ∧ t = .float ∧ ∃ z, w = .float z) ∨ (i = .areturn ∧ t.isReference = true ∧ w.isRef = true))
    (hd : decode c.code pc = .ok (i, 1)) (hc : cells ≤ cm) (hs : slots ≤ sm) (hQ : Q (some w) T.heap locs) : own_E p e below (own_P s Q cm sm) T (mkF m pc ls (w :: st)) := by
  obtain ⟨fs, hr, hrun, hended, hW, hsame⟩ := X.leave (v := some w) (fun h => by rw [hret] at h; cases h) hlk
  exact ⟨_, _, Jvm.RoadKit.retOut X hx hret hn hi hd hr, hrun, hended, _, _, rfl, hQ, ⟨_, rfl⟩, hW, hsame.mono hc hs⟩
theorem own_retI (X : Stand p l e R s m args below meth c T locs cells slots) (hx : p.tables.exec = Jvm.exec) {z : Int32} {Q : Option Value → Heap → List Loc → Prop} {cm sm : Nat} (hret : meth.sig.returnType = some .int) (hlk : meth.locks = false) (hd : decode c.code pc = .ok (.ireturn, 1)) (hc : cells ≤ cm) (hs : slots ≤ sm) (hQ : Q (some (.int z)) T.heap locs) : own_E p e below (own_P s Q cm sm) T (mkF m pc ls (.int z :: st)) := own_retO X hx hret hlk rfl (Or.inl ⟨rfl, Or.inl rfl, _, rfl⟩) hd hc hs hQ
theorem own_retL (X : Stand p l e R s m args below meth c T locs cells slots) (hx : p.tables.exec = Jvm.exec) {z : Int64} {Q : Option Value → Heap → List Loc → Prop} {cm sm : Nat} (hret : meth.sig.returnType = some .long) (hlk : meth.locks = false) (hd : decode c.code pc = .ok (.lreturn, 1)) (hc : cells ≤ cm) (hs : slots ≤ sm) (hQ : Q (some (.long z)) T.heap locs) : own_E p e below (own_P s Q cm sm) T (mkF m pc ls (.long z :: st)) := own_retO X hx hret hlk rfl (Or.inr (Or.inl ⟨rfl, rfl, _, rfl⟩)) hd hc hs hQ
theorem own_retA (X : Stand p l e R s m args below meth c T locs cells slots) (hx : p.tables.exec = Jvm.exec) {w : Value} {t : FieldType} {Q : Option Value → Heap → List Loc → Prop} {cm sm : Nat} (hret : meth.sig.returnType = some t) (ht : t.isReference = true) (hw : w.isRef = true) (hlk : meth.locks = false) (hd : decode c.code pc = .ok (.areturn, 1)) (hc : cells ≤ cm) (hs : slots ≤ sm) (hQ : Q (some w) T.heap locs) : own_E p e below (own_P s Q cm sm) T (mkF m pc ls (w :: st)) := own_retO X hx hret hlk (by rcases ref_cases hw with rfl | ⟨a, rfl⟩ <;> cases t <;> rfl) (Or.inr (Or.inr (Or.inr (Or.inr ⟨rfl, ht, hw⟩)))) hd hc hs hQ
theorem own_retV (X : Stand p l e R s m args below meth c T locs cells slots) (hx : p.tables.exec = Jvm.exec) {Q : Option Value → Heap → List Loc → Prop} {cm sm : Nat} (hret : meth.sig.returnType = none) (hlk : meth.locks = false) (hd : decode c.code pc = .ok (.return_, 1)) (hc : cells ≤ cm) (hs : slots ≤ sm) (hQ : Q none T.heap locs) : own_E p e below (own_P s Q cm sm) T (mkF m pc ls []) := by
  obtain ⟨fs, hr, hrun, hended, hW, hsame⟩ := X.leave (v := none) (fun _ => rfl) hlk
  exact ⟨_, _, X.returnOut hx hret hd hr, hrun, hended, _, _, rfl, hQ, ⟨_, rfl⟩, hW, hsame.mono hc hs⟩
theorem own_lt {a b : Nat} (h : a < b) : a < b := h
theorem own_ne {a b : Nat} (h : a < b ∨ b < a) : a ≠ b := fun q => by omega
theorem own_nar {v : Value} {C : String} (r : v.isRef = true) : narrow (.object C) v = v := by rcases ref_cases r with rfl | ⟨a, rfl⟩ <;> rfl
theorem own_fit {v : Value} {C : String} (r : v.isRef = true) : fits (.object C) v = true := by rcases ref_cases r with rfl | ⟨a, rfl⟩ <;> rfl
end OwnWalk
theorem own_w {Z : State} {a0 : Array Value} (hw : ∀ d ∈ tables_1, d.before a0 Z = true) (k : Nat) {d : Jvm.Cond} (h : tables_1[k]? = some d) : d.before a0 Z = true := hw d (List.mem_of_getElem? h)
section OwnW
variable {p : Program} {l : Launch} {e : Env} {R : Room} {s : State} {m : MethodId} {args : Array Value} {below : List Frame} {meth : Method} {c : Code} {T : State} {locs : List Loc} {cells slots : Nat} {pc : Nat} {ls : Array Slot} {st : List Value} {Z : State} {a0 : Array Value} {EL : List (String × Nat)} {vm : Vm} {k0 : Nat} {h0 : Heap}
/-- what a contract's end says, where String constants may be loaded -/
def own_PW (s Z : State) (EL : List (String × Nat)) (Q : Option Value → Heap → List Loc → Prop) (cm sm : Nat) (o : Outcome) (t : State) : Prop := ∃ v L, o = .returned v ∧ Q v t.heap L ∧ CHr Z EL s.vm s.heap t.vm t.heap ∧ ReturnedEndW s o t L cm sm
theorem own_retNW (X : Stand p l e R (s.setVm vm) m args below meth c T locs cells slots) (hx : p.tables.exec = Jvm.exec) (hS : s.Since vm k0) (hk : k0 ≤ T.heap.size) (hZ : Z.Warmed39 vm) (hEL : EW Z a0 EL) (hh : s.heap = h0) (C : CHr Z EL s.vm h0 vm T.heap) {z z' : Int32} {t : FieldType} {Q : Option Value → Heap → List Loc → Prop} {cm sm : Nat} (hret : meth.sig.returnType = some t) (ht : t = .boolean ∨ t = .byte ∨ t = .char ∨ t = .short) (hlk : meth.locks = false) (hd : decode c.code pc = .ok (.ireturn, 1)) (hz : nar t z = z') (hc : cells ≤ cm) (hs : slots ≤ sm) (hQ : Q (some (.int z')) T.heap locs) : own_E p e below (own_PW s Z EL Q cm sm) T (mkF m pc ls (.int z :: st)) := by
  subst hz hh
  obtain ⟨fs, hr, hrun, hended, hEnd⟩ := X.leaveW hS hk (v := some (.int (nar t z))) (fun h => by rw [hret] at h; cases h) hlk
  have D := C.trans (CHv.at X hZ hEL C.1)
  exact ⟨_, _, retN X hx hret ht hd hr, hrun, hended, _, _, rfl, hQ, D, hEnd.1, hEnd.2.1, hEnd.2.2.1, hEnd.2.2.2.mono hc hs⟩
theorem own_retOW (X : Stand p l e R (s.setVm vm) m args below meth c T locs cells slots) (hx : p.tables.exec = Jvm.exec) (hS : s.Since vm k0) (hk : k0 ≤ T.heap.size) (hZ : Z.Warmed39 vm) (hEL : EW Z a0 EL) (hh : s.heap = h0) (C : CHr Z EL s.vm h0 vm T.heap) {w : Value} {t : FieldType} {i : Instr} {Q : Option Value → Heap → List Loc → Prop} {cm sm : Nat} (hret : meth.sig.returnType = some t) (hlk : meth.locks = false) (hn : narrow t w = w)
    (hi : (i = .ireturn ∧ (t = .int ∨ t = .boolean ∨ t = .byte ∨ t = .char ∨ t = .short) ∧ ∃ z, w = .int z) ∨ (i = .lreturn ∧ t = .long ∧ ∃ z, w = .long z) ∨ (i = .dreturn ∧ t = .double ∧ ∃ z, w = .double z) ∨ (i = .freturn ∧ t = .float ∧ ∃ z, w = .float z) ∨ (i = .areturn ∧ t.isReference = true ∧ w.isRef = true))
    (hd : decode c.code pc = .ok (i, 1)) (hc : cells ≤ cm) (hs : slots ≤ sm) (hQ : Q (some w) T.heap locs) : own_E p e below (own_PW s Z EL Q cm sm) T (mkF m pc ls (w :: st)) := by
  subst hh
  obtain ⟨fs, hr, hrun, hended, hEnd⟩ := X.leaveW hS hk (v := some w) (fun h => by rw [hret] at h; cases h) hlk
  have D := C.trans (CHv.at X hZ hEL C.1)
  exact ⟨_, _, Jvm.RoadKit.retOut X hx hret hn hi hd hr, hrun, hended, _, _, rfl, hQ, D, hEnd.1, hEnd.2.1, hEnd.2.2.1, hEnd.2.2.2.mono hc hs⟩
theorem own_retAW (X : Stand p l e R (s.setVm vm) m args below meth c T locs cells slots) (hx : p.tables.exec = Jvm.exec) (hS : s.Since vm k0) (hk : k0 ≤ T.heap.size) (hZ : Z.Warmed39 vm) (hEL : EW Z a0 EL) (hh : s.heap = h0) (C : CHr Z EL s.vm h0 vm T.heap) {w : Value} {t : FieldType} {Q : Option Value → Heap → List Loc → Prop} {cm sm : Nat} (hret : meth.sig.returnType = some t) (ht : t.isReference = true) (hw : w.isRef = true) (hlk : meth.locks = false) (hd : decode c.code pc = .ok (.areturn, 1)) (hc : cells ≤ cm) (hs : slots ≤ sm) (hQ : Q (some w) T.heap locs) : own_E p e below (own_PW s Z EL Q cm sm) T (mkF m pc ls (w :: st)) := own_retOW X hx hS hk hZ hEL hh C hret hlk (by rcases ref_cases hw with rfl | ⟨a, rfl⟩ <;> cases t <;> rfl) (Or.inr (Or.inr (Or.inr (Or.inr ⟨rfl, ht, hw⟩)))) hd hc hs hQ
theorem own_retVW (X : Stand p l e R (s.setVm vm) m args below meth c T locs cells slots) (hx : p.tables.exec = Jvm.exec) (hS : s.Since vm k0) (hk : k0 ≤ T.heap.size) (hZ : Z.Warmed39 vm) (hEL : EW Z a0 EL) (hh : s.heap = h0) (C : CHr Z EL s.vm h0 vm T.heap) {Q : Option Value → Heap → List Loc → Prop} {cm sm : Nat} (hret : meth.sig.returnType = none) (hlk : meth.locks = false) (hd : decode c.code pc = .ok (.return_, 1)) (hc : cells ≤ cm) (hs : slots ≤ sm) (hQ : Q none T.heap locs) : own_E p e below (own_PW s Z EL Q cm sm) T (mkF m pc ls []) := by
  subst hh
  obtain ⟨fs, hr, hrun, hended, hEnd⟩ := X.leaveW hS hk (v := none) (fun _ => rfl) hlk
  have D := C.trans (CHv.at X hZ hEL C.1)
  exact ⟨_, _, X.returnOut hx hret hd hr, hrun, hended, _, _, rfl, hQ, D, hEnd.1, hEnd.2.1, hEnd.2.2.1, hEnd.2.2.2.mono hc hs⟩
end OwnW

def own_EL : List (String × Nat) := [("com/example/narrow_gate/narrowgate/TargetParameterPinLaw", 7)]
theorem own_EW {Z : State} {a0 : Array Value} (hw : ∀ d ∈ tables_1, d.before a0 Z = true) : EW Z a0 own_EL := EW.cons (own_w hw 127 rfl) (by decide) EW.nil
theorem own_wS {Z : State} {a0 : Array Value} (hw : ∀ d ∈ tables_1, d.before a0 Z = true) : ∀ a ∈ Bundle.stringAtoms, a.before a0 Z = true := fun d hd => hw d ((by decide +kernel : ∀ d ∈ Bundle.stringAtoms, d ∈ tables_1) d hd)
def own_QV (h0 : Heap) (n0 : Nat) (v : Option Value) (h : Heap) (L : List Loc) : Prop := v = none ∧ Fr n0 L ∧ h = h0
def own_Q (r : Value) (h0 : Heap) (n0 : Nat) (v : Option Value) (h : Heap) (L : List Loc) : Prop := v = some r ∧ Fr n0 L ∧ h = h0
/-- a String of one byte x (e is 0) or of none -/
def own_len (e : Int32) : Int32 := if e = 0 then 1 else 0
def own_vs (e x : Int32) : List Value := if e = 0 then [.int x] else []
def own_S (Z : State) (h : Heap) (a : Addr) (e x : Int32) : Prop := ∃ b k, Exa Z h a "java/lang/String" ∧ Fld Z h a "java/lang/String" "coder" "B" (.int (0 : Int32)) ∧ Fld Z h a "java/lang/String" "value" "[B" (.ref b) ∧ Arv Z h b k .byte (own_len e) (own_vs e x) (.int (0 : Int32))
theorem own_Sk {Z : State} {h h' : Heap} {a : Addr} {e x : Int32} (F : own_S Z h a e x) (K : Keep h h' []) : own_S Z h' a e x := by
  obtain ⟨b, k, f1, f2, f3, f4⟩ := F
  exact ⟨b, k, f1.keep K, f2.keep K nin0, f3.keep K nin0, f4.keep K nin0⟩
theorem own_Sx {Z : State} {h : Heap} {a : Addr} {e x : Int32} (F : own_S Z h a e x) : Exa Z h a "java/lang/String" := by obtain ⟨b, k, f1, -⟩ := F; exact f1
/-- what String.equals gives of two such -/
def own_seq (e1 x1 e2 x2 : Int32) : Int32 := if e1 = 0 then (if e2 = 0 then (if x1 = x2 then 1 else 0) else 0) else (if e2 = 0 then 0 else 1)
theorem own_same {Z : State} {h : Heap} {a : Addr} {e1 x1 e2 x2 : Int32} (F : own_S Z h a e1 x1) (G : own_S Z h a e2 x2) (h1 : e1 = 0 ∨ e1 = 1) (h2 : e2 = 0 ∨ e2 = 1) : own_seq e1 x1 e2 x2 = 1 := by
  obtain ⟨b, k, -, -, f3, c, A, -, S, -, H, -⟩ := F
  obtain ⟨b', k', -, -, g3, c', A', -, S', -, H', -⟩ := G
  have hb : Value.ref b = Value.ref b' := Classical.byContradiction fun q => (f3.ne g3 q) rfl
  cases hb
  cases A.1.symm.trans A'.1
  rcases h1 with rfl | rfl <;> rcases h2 with rfl | rfl
  · have z : c.slots.size = 1 := S
    have q1 : c.slots[0]? = some (.int x1) := H 0 (by omega)
    have q2 : c.slots[0]? = some (.int x2) := H' 0 (by omega)
    rw [q1] at q2
    cases q2
    simp [own_seq]
  · have z : c.slots.size = 1 := S
    have z' : c.slots.size = 0 := S'
    omega
  · have z : c.slots.size = 0 := S
    have z' : c.slots.size = 1 := S'
    omega
  · simp [own_seq]
def own_pick (m : Int32) (v r : Value) : Value := if m = 0 then r else v
theorem own_pickR {m : Int32} {v r : Value} (h1 : v.isRef = true) (h2 : r.isRef = true) : (own_pick m v r).isRef = true := by unfold own_pick; split <;> assumption
/-- 1 where the flag's bit is set, else 0 -/
def own_b (z : Int32) : Int32 := if z = 0 then 0 else 1
theorem own_b01 (z : Int32) : own_b z = 0 ∨ own_b z = 1 := by unfold own_b; split <;> simp
/-- what the law reckons of two names -/
def own_m (e q c d : Int32) : Int32 := if e = q then (if e = 0 then (if c = d then 1 else 0) else 1) else 0
def own_c (z : Int32) : Int32 := z.toUInt32.toUInt16.toUInt32.toInt32
theorem own_cv (x : Int32) : (own_c (x &&& 255)).toInt = x.toInt % 256 := by
  have h : ∀ u : BitVec 32, ((u &&& 255#32).setWidth 16).setWidth 32 = u &&& 255#32 := fun u => by
    apply BitVec.eq_of_toNat_eq
    have k : (u &&& 255#32).toNat < 256 := by rw [BitVec.toNat_and]; exact Nat.lt_of_le_of_lt Nat.and_le_right (by decide)
    simp only [BitVec.toNat_setWidth]
    omega
  have e : own_c (x &&& 255) = x &&& 255 := by
    apply Int32.toBitVec_inj.mp
    show ((x.toBitVec &&& 255#32).setWidth 16).setWidth 32 = x.toBitVec &&& 255#32
    exact h _
  rw [e]
  exact Jvm.Kit.i32_mask x 255 (k := 8) (by decide) (by decide)
theorem own_cb (x : Int32) : ¬ own_c (x &&& 255) < 0 ∧ ¬ (255 : Int32) < own_c (x &&& 255) := by
  have h := own_cv x
  constructor
  · rw [Int32.lt_iff_toInt_lt, h]; show ¬ x.toInt % 256 < 0; omega
  · rw [Int32.lt_iff_toInt_lt, h]; show ¬ 255 < x.toInt % 256; omega
theorem own_byte (x y : Int32) : (own_c (x &&& 255)).toInt8.toInt32 = (own_c (y &&& 255)).toInt8.toInt32 ↔ own_c (x &&& 255) = own_c (y &&& 255) := by
  constructor
  · intro h
    have h2 := congrArg Int32.toInt h
    rw [Int8.toInt_toInt32, Int8.toInt_toInt32, Int32.toInt_toInt8, Int32.toInt_toInt8, own_cv, own_cv] at h2
    apply Int32.toInt_inj.mp
    rw [own_cv, own_cv]
    rw [Int.bmod_def, Int.bmod_def] at h2
    omega
  · intro h; rw [h]
theorem own_rel (e q x y : Int32) (h1 : e = 0 ∨ e = 1) (h2 : q = 0 ∨ q = 1) : own_seq e (own_c (x &&& 255)).toInt8.toInt32 q (own_c (y &&& 255)).toInt8.toInt32 = own_m e q (own_c (x &&& 255)) (own_c (y &&& 255)) := by
  have hb := own_byte x y
  rcases h1 with rfl | rfl <;> rcases h2 with rfl | rfl <;> simp [own_seq, own_m, hb]
theorem own_pn0 : plainName "java/lang/Record" = true := by first | (simp [plainName, overriddenIn]; done) | decide +kernel
theorem own_ef1 (m : MethodId) (x0 : Addr) : entryFrame m #[(.ref x0)] 1 = mkF m 0 #[.val (.ref x0)] [] := by first | (simp [entryFrame, mkF, argsToLocals, Value.category]; done) | rfl
theorem own_d0_0 : decode jdk_30_method_1_code 0 = .ok (.aload_n 0, 1) := by decide +kernel
theorem own_d0_1 : decode jdk_30_method_1_code 1 = .ok (.invokespecial 1, 3) := by decide +kernel
theorem own_d0_4 : decode jdk_30_method_1_code 4 = .ok (.return_, 1) := by decide +kernel
set_option maxRecDepth 65536 in
set_option maxHeartbeats 40000000 in
theorem own_rmRC (l : Launch) (Z : State) (a0 : Array Value) (hw : ∀ d ∈ tables_1, d.before a0 Z = true) (ws : List Jvm.Cond) (a1 : Addr) (h0 : Heap) (n0 : Nat) (Z0 : n0 ≤ h0.size)  :
    MetFree l (⟨"java/lang/Record", "<init>", "()V"⟩ : MethodName) (head1 (Jvm.Cond.code (⟨"java/lang/Record", "<init>", "()V"⟩ : MethodName) jdk_30_method_1_code 1 none :: ws) ({ frames := 1, cells := 0, slots := 0, locals := 12 } : Room)) (fun a U => a = #[(.ref a1)] ∧ Z.Warmed39 U.vm ∧ U.heap = h0) (fun _ _ _ _ _ => True) (fun _ U o U' => ∃ v L, o = .returned v ∧ own_QV h0 n0 v U'.heap L ∧ FrameEnd U o U' L ({ frames := 1, cells := 0, slots := 0, locals := 12 } : Room).cells ({ frames := 1, cells := 0, slots := 0, locals := 12 } : Room).slots) := by
  refine MetFree.of_bodySF (plainFor_of_name own_pn0) hisR ?_
  intro p e s m args below meth c s₁ Bd hml0 hP hK
  obtain ⟨rfl, hZ, hh⟩ := hP
  have hx := Bd.exec
  have hby := Bd.bytes
  have hlk : meth.locks = false := Bd.notSynchronized
  have hml : c.maxLocals = 1 := hml0
  have hown : s.vm.findClass "java/lang/Record" = some m.cls := findClass_of_methodNamed Bd.named
  have hnm := (name_of_methodNamed Bd.named Bd.method).1
  have X0 : Stand p l e ({ frames := 1, cells := 0, slots := 0, locals := 12 } : Room) s m #[(.ref a1)] below meth c s₁ [] 0 0 := Stand.of_body Bd
  have e0 : s₁.heap = h0 := by rw [← hh, Bd.state]; rfl
  have N0 := Fr.nil n0
  show own_E p e below (own_P s (own_QV h0 n0) ({ frames := 1, cells := 0, slots := 0, locals := 12 } : Room).cells ({ frames := 1, cells := 0, slots := 0, locals := 12 } : Room).slots) s₁ (entryFrame m #[(.ref a1)] 1)
  refine own_cast (own_ef1 m a1) ?_
  show own_E p e below _ s₁ (mkF m 0 #[.val (.ref a1)] [])
  refine own_aloadN X0 hx (hb hby own_d0_0) rfl rfl ?_
  show own_E p e below _ s₁ (mkF m 1 #[.val (.ref a1)] [(.ref a1)])
  obtain ⟨T1, X1, e1, st1⟩ := initO X0 hx hZ hown (own_w hw 37 rfl) (own_w hw 20 rfl) (own_w hw 21 rfl) e0 (g := (mkF m 1 #[.val (.ref a1)] [(.ref a1)])) rfl (by rw [hml]; rfl) rfl (hb hby own_d0_1) (by decide) (W := 0) (by show 2 * 0 + _ ≤ _; exact Nat.le_of_eq rfl) (by decide)
  refine own_go st1 ?_
  show own_E p e below _ T1 (mkF m 4 #[.val (.ref a1)] [])
  refine own_retV X1 hx Bd.returns hlk (hb hby own_d0_4) (by decide) (by decide) ?_
  rw [e1]
  exact ⟨rfl, N0, rfl⟩

theorem own_pn1 : plainName "java/util/AbstractCollection" = true := by first | (simp [plainName, overriddenIn]; done) | decide +kernel
theorem own_ef2 (m : MethodId) (x0 : Addr) : entryFrame m #[(.ref x0)] 1 = mkF m 0 #[.val (.ref x0)] [] := by first | (simp [entryFrame, mkF, argsToLocals, Value.category]; done) | rfl
theorem own_d1_0 : decode jdk_22_method_1_code 0 = .ok (.aload_n 0, 1) := by decide +kernel
theorem own_d1_1 : decode jdk_22_method_1_code 1 = .ok (.invokespecial 1, 3) := by decide +kernel
theorem own_d1_4 : decode jdk_22_method_1_code 4 = .ok (.return_, 1) := by decide +kernel
set_option maxRecDepth 65536 in
set_option maxHeartbeats 40000000 in
theorem own_rmAC (l : Launch) (Z : State) (a0 : Array Value) (hw : ∀ d ∈ tables_1, d.before a0 Z = true) (ws : List Jvm.Cond) (a1 : Addr) (h0 : Heap) (n0 : Nat) (Z0 : n0 ≤ h0.size)  :
    MetFree l (⟨"java/util/AbstractCollection", "<init>", "()V"⟩ : MethodName) (head1 (Jvm.Cond.code (⟨"java/util/AbstractCollection", "<init>", "()V"⟩ : MethodName) jdk_22_method_1_code 1 none :: ws) ({ frames := 1, cells := 0, slots := 0, locals := 12 } : Room)) (fun a U => a = #[(.ref a1)] ∧ Z.Warmed39 U.vm ∧ U.heap = h0) (fun _ _ _ _ _ => True) (fun _ U o U' => ∃ v L, o = .returned v ∧ own_QV h0 n0 v U'.heap L ∧ FrameEnd U o U' L ({ frames := 1, cells := 0, slots := 0, locals := 12 } : Room).cells ({ frames := 1, cells := 0, slots := 0, locals := 12 } : Room).slots) := by
  refine MetFree.of_bodySF (plainFor_of_name own_pn1) hisR ?_
  intro p e s m args below meth c s₁ Bd hml0 hP hK
  obtain ⟨rfl, hZ, hh⟩ := hP
  have hx := Bd.exec
  have hby := Bd.bytes
  have hlk : meth.locks = false := Bd.notSynchronized
  have hml : c.maxLocals = 1 := hml0
  have hown : s.vm.findClass "java/util/AbstractCollection" = some m.cls := findClass_of_methodNamed Bd.named
  have hnm := (name_of_methodNamed Bd.named Bd.method).1
  have X0 : Stand p l e ({ frames := 1, cells := 0, slots := 0, locals := 12 } : Room) s m #[(.ref a1)] below meth c s₁ [] 0 0 := Stand.of_body Bd
  have e0 : s₁.heap = h0 := by rw [← hh, Bd.state]; rfl
  have N0 := Fr.nil n0
  show own_E p e below (own_P s (own_QV h0 n0) ({ frames := 1, cells := 0, slots := 0, locals := 12 } : Room).cells ({ frames := 1, cells := 0, slots := 0, locals := 12 } : Room).slots) s₁ (entryFrame m #[(.ref a1)] 1)
  refine own_cast (own_ef2 m a1) ?_
  show own_E p e below _ s₁ (mkF m 0 #[.val (.ref a1)] [])
  refine own_aloadN X0 hx (hb hby own_d1_0) rfl rfl ?_
  show own_E p e below _ s₁ (mkF m 1 #[.val (.ref a1)] [(.ref a1)])
  obtain ⟨T2, X2, e2, st2⟩ := initO X0 hx hZ hown (own_w hw 62 rfl) (own_w hw 20 rfl) (own_w hw 21 rfl) e0 (g := (mkF m 1 #[.val (.ref a1)] [(.ref a1)])) rfl (by rw [hml]; rfl) rfl (hb hby own_d1_1) (by decide) (W := 0) (by show 2 * 0 + _ ≤ _; exact Nat.le_of_eq rfl) (by decide)
  refine own_go st2 ?_
  show own_E p e below _ T2 (mkF m 4 #[.val (.ref a1)] [])
  refine own_retV X2 hx Bd.returns hlk (hb hby own_d1_4) (by decide) (by decide) ?_
  rw [e2]
  exact ⟨rfl, N0, rfl⟩

def own_QL (Z : State) (a1 : Addr) (d : Value) (h0 : Heap) (n0 : Nat) (v : Option Value) (h : Heap) (L : List Loc) : Prop := v = none ∧ Fr n0 L ∧ Keep h0 h [a1] ∧ Fld Z h a1 "java/util/ArrayList" "elementData" "[Ljava/lang/Object;" d ∧ Fld Z h a1 "java/util/ArrayList" "size" "I" (.int (0 : Int32)) ∧ Fld Z h a1 "java/util/AbstractList" "modCount" "I" (.int (0 : Int32))
theorem own_pn2 : plainName "java/util/AbstractList" = true := by first | (simp [plainName, overriddenIn]; done) | decide +kernel
theorem own_ef3 (m : MethodId) (x0 : Addr) : entryFrame m #[(.ref x0)] 1 = mkF m 0 #[.val (.ref x0)] [] := by first | (simp [entryFrame, mkF, argsToLocals, Value.category]; done) | rfl
theorem own_d2_0 : decode jdk_39_method_1_code 0 = .ok (.aload_n 0, 1) := by decide +kernel
theorem own_pd0 : parseMethodDescriptor "()V" = some ⟨[], none⟩ := by decide +kernel
theorem own_d2_1 : decode jdk_39_method_1_code 1 = .ok (.invokespecial 1, 3) := by decide +kernel
theorem own_d2_4 : decode jdk_39_method_1_code 4 = .ok (.aload_n 0, 1) := by decide +kernel
theorem own_d2_5 : decode jdk_39_method_1_code 5 = .ok (.iconst 0, 1) := by decide +kernel
theorem own_d2_6 : decode jdk_39_method_1_code 6 = .ok (.putfield 7, 3) := by decide +kernel
theorem own_d2_9 : decode jdk_39_method_1_code 9 = .ok (.return_, 1) := by decide +kernel
set_option maxRecDepth 65536 in
set_option maxHeartbeats 40000000 in
theorem own_rmAB (l : Launch) (Z : State) (a0 : Array Value) (hw : ∀ d ∈ tables_1, d.before a0 Z = true) (ws : List Jvm.Cond) (a1 : Addr) (h0 : Heap) (n0 : Nat) (Z0 : n0 ≤ h0.size) (LD : Fld Z h0 a1 "java/util/ArrayList" "elementData" "[Ljava/lang/Object;" .null) (LZ : Fld Z h0 a1 "java/util/ArrayList" "size" "I" (.int (0 : Int32))) (LM : Fld Z h0 a1 "java/util/AbstractList" "modCount" "I" (.int (0 : Int32))) (LX : Exa Z h0 a1 "java/util/ArrayList") (g0 : n0 ≤ a1) :
    MetFree l (⟨"java/util/AbstractList", "<init>", "()V"⟩ : MethodName) (head1 (Jvm.Cond.code (⟨"java/util/AbstractList", "<init>", "()V"⟩ : MethodName) jdk_39_method_1_code 1 none :: ws) ({ frames := 2, cells := 0, slots := 0, locals := 24 } : Room)) (fun a U => a = #[(.ref a1)] ∧ Z.Warmed39 U.vm ∧ U.heap = h0) (fun _ _ _ _ _ => True) (fun _ U o U' => ∃ v L, o = .returned v ∧ own_QL Z a1 .null h0 n0 v U'.heap L ∧ FrameEnd U o U' L ({ frames := 2, cells := 0, slots := 0, locals := 24 } : Room).cells ({ frames := 2, cells := 0, slots := 0, locals := 24 } : Room).slots) := by
  refine MetFree.of_bodySF (plainFor_of_name own_pn2) hisR ?_
  intro p e s m args below meth c s₁ Bd hml0 hP hK
  obtain ⟨rfl, hZ, hh⟩ := hP
  have hx := Bd.exec
  have hby := Bd.bytes
  have hlk : meth.locks = false := Bd.notSynchronized
  have hml : c.maxLocals = 1 := hml0
  have hown : s.vm.findClass "java/util/AbstractList" = some m.cls := findClass_of_methodNamed Bd.named
  have hnm := (name_of_methodNamed Bd.named Bd.method).1
  have X0 : Stand p l e ({ frames := 2, cells := 0, slots := 0, locals := 24 } : Room) s m #[(.ref a1)] below meth c s₁ [] 0 0 := Stand.of_body Bd
  have e0 : s₁.heap = h0 := by rw [← hh, Bd.state]; rfl
  have N0 := Fr.nil n0
  show own_E p e below (own_P s (own_QL Z a1 .null h0 n0) ({ frames := 2, cells := 0, slots := 0, locals := 24 } : Room).cells ({ frames := 2, cells := 0, slots := 0, locals := 24 } : Room).slots) s₁ (entryFrame m #[(.ref a1)] 1)
  refine own_cast (own_ef3 m a1) ?_
  have lt3 := own_lt (LD).lt
  have lt4 := own_lt (LX).lt
  show own_E p e below _ s₁ (mkF m 0 #[.val (.ref a1)] [])
  refine own_aloadN X0 hx (hb hby own_d2_0) rfl rfl ?_
  show own_E p e below _ s₁ (mkF m 1 #[.val (.ref a1)] [(.ref a1)])
  obtain ⟨_, _, ⟨T5, L5, k5, n5⟩, -, X5, ⟨Lc5, hQ5, l5, y5, z5⟩, st5⟩ := X0.specialBack hx (y := (⟨"java/util/AbstractCollection", "<init>", "()V"⟩ : MethodName)) rfl hown (mvT hZ (own_w hw 56 rfl)) (mvT hZ (own_w hw 57 rfl)) (mvT hZ (own_w hw 61 rfl)) (by decide) (backOf (W := 0) (own_rmAC l Z a0 hw [] a1 h0 n0 Z0) hZ (own_w hw 61 rfl) (own_w hw 60 rfl) (by decide) (by decide)) (g := (mkF m 1 #[.val (.ref a1)] [(.ref a1)])) rfl (by rw [hml]; rfl) (Steps.refl _) (a := a1) (argsL := []) (rest := []) (lenOf own_pd0 rfl) rfl (by show 2 * 0 + _ ≤ _; exact Nat.le_of_eq rfl) (hb hby own_d2_1) (fun _ _ => ⟨rfl, e0, Nat.le_of_ble_eq_true rfl, Nat.le_of_ble_eq_true rfl⟩)
  dsimp only [Pt.U, Pt.locs, Pt.cells, Pt.slots] at X5 l5 y5 z5 st5 hQ5
  subst l5 y5 z5
  obtain ⟨rfl, M5, e5⟩ := hQ5
  have N5 := Fr.app N0 M5
  refine own_go (fun _ k => st5.trans k) ?_
  show own_E p e below _ T5 (mkF m 4 #[.val (.ref a1)] [])
  refine own_aloadN X5 hx (hb hby own_d2_4) rfl rfl ?_
  show own_E p e below _ T5 (mkF m 5 #[.val (.ref a1)] [(.ref a1)])
  refine own_iconst X5 hx (hb hby own_d2_5) (v := (0 : Int32)) (by decide) ?_
  show own_E p e below _ T5 (mkF m 6 #[.val (.ref a1)] [(.int (0 : Int32)), (.ref a1)])
  obtain ⟨T6, h6, X6, e6, W6, st6⟩ := putF X5 hx hZ hown (host := "") (Or.inl (own_w hw 63 rfl)) Via.refl e5 LM LX (Or.inl (own_w hw 64 rfl)) (own_w hw 45 rfl) (ty := .int) (by decide) rfl rfl (g := (mkF m 6 #[.val (.ref a1)] [(.int (0 : Int32)), (.ref a1)])) rfl rfl (hb hby own_d2_6)
  refine own_go st6 ?_
  have N6 := Fr.snoc X6 N5 (by omega)
  have z6 : h0.size ≤ h6.size := Nat.le_of_eq W6.size.symm
  have F6 : Fld Z h6 a1 "java/util/AbstractList" "modCount" "I" (.int (0 : Int32)) := Fld.same W6 LM
  show own_E p e below _ T6 (mkF m 9 #[.val (.ref a1)] [])
  refine own_retV X6 hx Bd.returns hlk (hb hby own_d2_9) (by decide) (by decide) ?_
  rw [e6]
  exact ⟨rfl, N6, ((Keep.refl _ _).wr W6 (Or.inl (List.mem_of_getElem? (i := 0) rfl))), (LD.other W6 (Or.inr (slot_ne (Or.inl (own_w hw 67 rfl)) (Or.inl (own_w hw 64 rfl)) (by decide) (t := (.array (.object "java/lang/Object"))) (t' := .int) (by decide) (by decide)))), (LZ.other W6 (Or.inr (slot_ne (Or.inl (own_w hw 126 rfl)) (Or.inl (own_w hw 64 rfl)) (by decide) (t := .int) (t' := .int) (by decide) (by decide)))), F6⟩

theorem own_pn3 : plainName "java/util/ArrayList" = true := by first | (simp [plainName, overriddenIn]; done) | decide +kernel
theorem own_ef4 (m : MethodId) (x0 : Addr) : entryFrame m #[(.ref x0)] 1 = mkF m 0 #[.val (.ref x0)] [] := by first | (simp [entryFrame, mkF, argsToLocals, Value.category]; done) | rfl
theorem own_d3_0 : decode jdk_38_method_2_code 0 = .ok (.aload_n 0, 1) := by decide +kernel
theorem own_d3_1 : decode jdk_38_method_2_code 1 = .ok (.invokespecial 1, 3) := by decide +kernel
theorem own_d3_4 : decode jdk_38_method_2_code 4 = .ok (.aload_n 0, 1) := by decide +kernel
theorem own_d3_5 : decode jdk_38_method_2_code 5 = .ok (.getstatic 39, 3) := by decide +kernel
theorem own_d3_8 : decode jdk_38_method_2_code 8 = .ok (.putfield 9, 3) := by decide +kernel
theorem own_d3_11 : decode jdk_38_method_2_code 11 = .ok (.return_, 1) := by decide +kernel
set_option maxRecDepth 65536 in
set_option maxHeartbeats 40000000 in
theorem own_rmAI (l : Launch) (Z : State) (a0 : Array Value) (hw : ∀ d ∈ tables_1, d.before a0 Z = true) (ws : List Jvm.Cond) (a1 wd : Addr) (h0 : Heap) (n0 : Nat) (Z0 : n0 ≤ h0.size) (O0 : Old Z n0 h0) (SD : Sta Z Z.heap "java/util/ArrayList" "DEFAULTCAPACITY_EMPTY_ELEMENTDATA" "[Ljava/lang/Object;" (.ref wd)) (LD : Fld Z h0 a1 "java/util/ArrayList" "elementData" "[Ljava/lang/Object;" .null) (LZ : Fld Z h0 a1 "java/util/ArrayList" "size" "I" (.int (0 : Int32))) (LM : Fld Z h0 a1 "java/util/AbstractList" "modCount" "I" (.int (0 : Int32))) (LX : Exa Z h0 a1 "java/util/ArrayList") (g0 : n0 ≤ a1) :
    MetFree l (⟨"java/util/ArrayList", "<init>", "()V"⟩ : MethodName) (head1 (Jvm.Cond.code (⟨"java/util/ArrayList", "<init>", "()V"⟩ : MethodName) jdk_38_method_2_code 1 none :: ws) ({ frames := 3, cells := 0, slots := 0, locals := 36 } : Room)) (fun a U => a = #[(.ref a1)] ∧ Z.Warmed39 U.vm ∧ U.heap = h0) (fun _ _ _ _ _ => True) (fun _ U o U' => ∃ v L, o = .returned v ∧ own_QL Z a1 (.ref wd) h0 n0 v U'.heap L ∧ FrameEnd U o U' L ({ frames := 3, cells := 0, slots := 0, locals := 36 } : Room).cells ({ frames := 3, cells := 0, slots := 0, locals := 36 } : Room).slots) := by
  refine MetFree.of_bodySF (plainFor_of_name own_pn3) hisR ?_
  intro p e s m args below meth c s₁ Bd hml0 hP hK
  obtain ⟨rfl, hZ, hh⟩ := hP
  have hx := Bd.exec
  have hby := Bd.bytes
  have hlk : meth.locks = false := Bd.notSynchronized
  have hml : c.maxLocals = 1 := hml0
  have hown : s.vm.findClass "java/util/ArrayList" = some m.cls := findClass_of_methodNamed Bd.named
  have hnm := (name_of_methodNamed Bd.named Bd.method).1
  have X0 : Stand p l e ({ frames := 3, cells := 0, slots := 0, locals := 36 } : Room) s m #[(.ref a1)] below meth c s₁ [] 0 0 := Stand.of_body Bd
  have e0 : s₁.heap = h0 := by rw [← hh, Bd.state]; rfl
  have N0 := Fr.nil n0
  show own_E p e below (own_P s (own_QL Z a1 (.ref wd) h0 n0) ({ frames := 3, cells := 0, slots := 0, locals := 36 } : Room).cells ({ frames := 3, cells := 0, slots := 0, locals := 36 } : Room).slots) s₁ (entryFrame m #[(.ref a1)] 1)
  refine own_cast (own_ef4 m a1) ?_
  have od7 := (O0).1
  have lt8 := own_lt (LD).lt
  have lt9 := own_lt (LX).lt
  show own_E p e below _ s₁ (mkF m 0 #[.val (.ref a1)] [])
  refine own_aloadN X0 hx (hb hby own_d3_0) rfl rfl ?_
  show own_E p e below _ s₁ (mkF m 1 #[.val (.ref a1)] [(.ref a1)])
  obtain ⟨_, _, ⟨T10, L10, k10, n10⟩, -, X10, ⟨Lc10, hQ10, l10, y10, z10⟩, st10⟩ := X0.specialBack hx (y := (⟨"java/util/AbstractList", "<init>", "()V"⟩ : MethodName)) rfl hown (mvT hZ (own_w hw 50 rfl)) (mvT hZ (own_w hw 51 rfl)) (mvT hZ (own_w hw 55 rfl)) (by decide) (backOf (W := 0) (own_rmAB l Z a0 hw [] a1 h0 n0 Z0 LD LZ LM LX g0) hZ (own_w hw 55 rfl) (own_w hw 54 rfl) (by decide) (by decide)) (g := (mkF m 1 #[.val (.ref a1)] [(.ref a1)])) rfl (by rw [hml]; rfl) (Steps.refl _) (a := a1) (argsL := []) (rest := []) (lenOf own_pd0 rfl) rfl (by show 2 * 0 + _ ≤ _; exact Nat.le_of_eq rfl) (hb hby own_d3_1) (fun _ _ => ⟨rfl, e0, Nat.le_of_ble_eq_true rfl, Nat.le_of_ble_eq_true rfl⟩)
  dsimp only [Pt.U, Pt.locs, Pt.cells, Pt.slots] at X10 l10 y10 z10 st10 hQ10
  subst l10 y10 z10
  obtain ⟨rfl, M10, K10, F10, G10, J10⟩ := hQ10
  have N10 := Fr.app N0 M10
  refine own_go (fun _ k => st10.trans k) ?_
  have z10 : h0.size ≤ T10.heap.size := K10.1
  show own_E p e below _ T10 (mkF m 4 #[.val (.ref a1)] [])
  refine own_aloadN X10 hx (hb hby own_d3_4) rfl rfl ?_
  show own_E p e below _ T10 (mkF m 5 #[.val (.ref a1)] [(.ref a1)])
  obtain ⟨T11, X11, e11, st11⟩ := getS2 X10 hx hZ hown (host := "") (Or.inl (own_w hw 65 rfl)) Via.refl (rfl : T10.heap = T10.heap) (SD.ext ((O0.keep K10 (allS (by omega) all0))).2) (g := (mkF m 5 #[.val (.ref a1)] [(.ref a1)])) rfl (hb hby own_d3_5)
  refine own_go st11 ?_
  show own_E p e below _ T11 (mkF m 8 #[.val (.ref a1)] [(.ref wd), (.ref a1)])
  obtain ⟨T12, h12, X12, e12, W12, st12⟩ := putF X11 hx hZ hown (host := "") (Or.inl (own_w hw 66 rfl)) Via.refl e11 F10 (LX.keep K10) (Or.inl (own_w hw 67 rfl)) (own_w hw 45 rfl) (ty := (.array (.object "java/lang/Object"))) (by decide) rfl rfl (g := (mkF m 8 #[.val (.ref a1)] [(.ref wd), (.ref a1)])) rfl rfl (hb hby own_d3_8)
  refine own_go st12 ?_
  have N12 := Fr.snoc X12 N10 (by omega)
  have z12 : T10.heap.size ≤ h12.size := Nat.le_of_eq W12.size.symm
  have F12 : Fld Z h12 a1 "java/util/ArrayList" "elementData" "[Ljava/lang/Object;" (.ref wd) := Fld.same W12 F10
  show own_E p e below _ T12 (mkF m 11 #[.val (.ref a1)] [])
  refine own_retV X12 hx Bd.returns hlk (hb hby own_d3_11) (by decide) (by decide) ?_
  rw [e12]
  exact ⟨rfl, N12, (((Keep.refl _ _).trans K10 (allS (Or.inl (List.mem_of_getElem? (i := 0) rfl)) all0)).wr W12 (Or.inl (List.mem_of_getElem? (i := 0) rfl))), F12, (G10.other W12 (Or.inr (slot_ne (Or.inl (own_w hw 126 rfl)) (Or.inl (own_w hw 67 rfl)) (by decide) (t := .int) (t' := (.array (.object "java/lang/Object"))) (by decide) (by decide)))), (J10.other W12 (Or.inr (slot_ne (Or.inl (own_w hw 64 rfl)) (Or.inl (own_w hw 67 rfl)) (by decide) (t := .int) (t' := (.array (.object "java/lang/Object"))) (by decide) (by decide))))⟩

theorem own_pn4 : plainName "java/lang/StringLatin1" = true := by first | (simp [plainName, overriddenIn]; done) | decide +kernel
theorem own_ef5 (m : MethodId) (x0 : Int32) : entryFrame m #[(.int x0)] 1 = mkF m 0 #[.val (.int x0)] [] := by first | (simp [entryFrame, mkF, argsToLocals, Value.category]; done) | rfl
theorem own_d4_0 : decode jdk_43_method_3_code 0 = .ok (.iload_n 0, 1) := by decide +kernel
theorem own_d4_1 : decode jdk_43_method_3_code 1 = .ok (.sipush 255, 3) := by decide +kernel
theorem own_d4_4 : decode jdk_43_method_3_code 4 = .ok (.if_icmp .gt 7, 3) := by decide +kernel
theorem own_d4_7 : decode jdk_43_method_3_code 7 = .ok (.iconst 1, 1) := by decide +kernel
theorem own_d4_8 : decode jdk_43_method_3_code 8 = .ok (.goto 4, 3) := by decide +kernel
theorem own_d4_12 : decode jdk_43_method_3_code 12 = .ok (.ireturn, 1) := by decide +kernel
set_option maxRecDepth 65536 in
set_option maxHeartbeats 40000000 in
theorem own_rmCE (l : Launch) (Z : State) (a0 : Array Value) (hw : ∀ d ∈ tables_1, d.before a0 Z = true) (ws : List Jvm.Cond) (c0 : Int32) (h0 : Heap) (n0 : Nat) (Z0 : n0 ≤ h0.size) (hi : ¬ (255 : Int32) < c0) :
    MetFree l (⟨"java/lang/StringLatin1", "canEncode", "(C)Z"⟩ : MethodName) (head1 (Jvm.Cond.code (⟨"java/lang/StringLatin1", "canEncode", "(C)Z"⟩ : MethodName) jdk_43_method_3_code 1 (some .boolean) :: ws) ({ frames := 0, cells := 0, slots := 0, locals := 0 } : Room)) (fun a U => a = #[(.int c0)] ∧ Z.Warmed39 U.vm ∧ U.heap = h0) (fun _ _ _ _ _ => True) (fun _ U o U' => ∃ v L, o = .returned v ∧ own_Q (.int 1) h0 n0 v U'.heap L ∧ FrameEnd U o U' L ({ frames := 0, cells := 0, slots := 0, locals := 0 } : Room).cells ({ frames := 0, cells := 0, slots := 0, locals := 0 } : Room).slots) := by
  refine MetFree.of_bodySF (plainFor_of_name own_pn4) hisR ?_
  intro p e s m args below meth c s₁ Bd hml0 hP hK
  obtain ⟨rfl, hZ, hh⟩ := hP
  have hx := Bd.exec
  have hby := Bd.bytes
  have hlk : meth.locks = false := Bd.notSynchronized
  have hml : c.maxLocals = 1 := hml0
  have hown : s.vm.findClass "java/lang/StringLatin1" = some m.cls := findClass_of_methodNamed Bd.named
  have hnm := (name_of_methodNamed Bd.named Bd.method).1
  have X0 : Stand p l e ({ frames := 0, cells := 0, slots := 0, locals := 0 } : Room) s m #[(.int c0)] below meth c s₁ [] 0 0 := Stand.of_body Bd
  have e0 : s₁.heap = h0 := by rw [← hh, Bd.state]; rfl
  have N0 := Fr.nil n0
  show own_E p e below (own_P s (own_Q (.int 1) h0 n0) ({ frames := 0, cells := 0, slots := 0, locals := 0 } : Room).cells ({ frames := 0, cells := 0, slots := 0, locals := 0 } : Room).slots) s₁ (entryFrame m #[(.int c0)] 1)
  refine own_cast (own_ef5 m c0) ?_
  show own_E p e below _ s₁ (mkF m 0 #[.val (.int c0)] [])
  refine own_iloadN X0 hx (hb hby own_d4_0) rfl ?_
  show own_E p e below _ s₁ (mkF m 1 #[.val (.int c0)] [(.int c0)])
  refine own_sipush X0 hx (hb hby own_d4_1) (v := (255 : Int32)) (by decide) ?_
  show own_E p e below _ s₁ (mkF m 4 #[.val (.int c0)] [(.int (255 : Int32)), (.int c0)])
  refine own_icmpNo X0 hx (hb hby own_d4_4) (XT.ii_gt_f hi) ?_
  show own_E p e below _ s₁ (mkF m 7 #[.val (.int c0)] [])
  refine own_iconst X0 hx (hb hby own_d4_7) (v := (1 : Int32)) (by decide) ?_
  show own_E p e below _ s₁ (mkF m 8 #[.val (.int c0)] [(.int (1 : Int32))])
  refine own_goto X0 hx (hb hby own_d4_8) 12 (by decide) (by decide) ?_
  show own_E p e below _ s₁ (mkF m 12 #[.val (.int c0)] [(.int (1 : Int32))])
  refine own_retN X0 hx (t := .boolean) Bd.returns (by simp) hlk (hb hby own_d4_12) (z' := (1 : Int32)) (by decide) (by decide) (by decide) ?_
  rw [e0]
  exact ⟨rfl, N0, rfl⟩

def own_QT (Z : State) (c0 : Int32) (h0 : Heap) (n0 : Nat) (v : Option Value) (h : Heap) (L : List Loc) : Prop := ∃ b k, v = some (.ref b) ∧ Fr n0 L ∧ Keep h0 h [] ∧ h0.size ≤ b ∧ Arv Z h b k .byte (1 : Int32) [.int c0.toInt8.toInt32] (.int (0 : Int32))
theorem own_ef6 (m : MethodId) (x0 : Int32) : entryFrame m #[(.int x0)] 1 = mkF m 0 #[.val (.int x0)] [] := by first | (simp [entryFrame, mkF, argsToLocals, Value.category]; done) | rfl
theorem own_d5_0 : decode jdk_43_method_46_code 0 = .ok (.iconst 1, 1) := by decide +kernel
theorem own_d5_1 : decode jdk_43_method_46_code 1 = .ok (.newarray .byte, 2) := by decide +kernel
theorem own_d5_3 : decode jdk_43_method_46_code 3 = .ok (.dup, 1) := by decide +kernel
theorem own_d5_4 : decode jdk_43_method_46_code 4 = .ok (.iconst 0, 1) := by decide +kernel
theorem own_d5_5 : decode jdk_43_method_46_code 5 = .ok (.iload_n 0, 1) := by decide +kernel
theorem own_d5_6 : decode jdk_43_method_46_code 6 = .ok (.i2b, 1) := by decide +kernel
theorem own_d5_7 : decode jdk_43_method_46_code 7 = .ok (.bastore, 1) := by decide +kernel
theorem own_d5_8 : decode jdk_43_method_46_code 8 = .ok (.areturn, 1) := by decide +kernel
set_option maxRecDepth 65536 in
set_option maxHeartbeats 40000000 in
theorem own_rmTB (l : Launch) (Z : State) (a0 : Array Value) (hw : ∀ d ∈ tables_1, d.before a0 Z = true) (ws : List Jvm.Cond) (c0 : Int32) (h0 : Heap) (n0 : Nat) (Z0 : n0 ≤ h0.size)  :
    MetFree l (⟨"java/lang/StringLatin1", "toBytes", "(C)[B"⟩ : MethodName) (head1 (Jvm.Cond.code (⟨"java/lang/StringLatin1", "toBytes", "(C)[B"⟩ : MethodName) jdk_43_method_46_code 1 (some (.array .byte)) :: ws) ({ frames := 0, cells := 1, slots := 1, locals := 0 } : Room)) (fun a U => a = #[(.int c0)] ∧ Z.Warmed39 U.vm ∧ U.heap = h0) (fun _ _ _ _ _ => True) (fun _ U o U' => ∃ v L, o = .returned v ∧ own_QT Z c0 h0 n0 v U'.heap L ∧ FrameEnd U o U' L ({ frames := 0, cells := 1, slots := 1, locals := 0 } : Room).cells ({ frames := 0, cells := 1, slots := 1, locals := 0 } : Room).slots) := by
  refine MetFree.of_bodySF (plainFor_of_name own_pn4) hisR ?_
  intro p e s m args below meth c s₁ Bd hml0 hP hK
  obtain ⟨rfl, hZ, hh⟩ := hP
  have hx := Bd.exec
  have hby := Bd.bytes
  have hlk : meth.locks = false := Bd.notSynchronized
  have hml : c.maxLocals = 1 := hml0
  have hown : s.vm.findClass "java/lang/StringLatin1" = some m.cls := findClass_of_methodNamed Bd.named
  have hnm := (name_of_methodNamed Bd.named Bd.method).1
  have X0 : Stand p l e ({ frames := 0, cells := 1, slots := 1, locals := 0 } : Room) s m #[(.int c0)] below meth c s₁ [] 0 0 := Stand.of_body Bd
  have e0 : s₁.heap = h0 := by rw [← hh, Bd.state]; rfl
  have N0 := Fr.nil n0
  show own_E p e below (own_P s (own_QT Z c0 h0 n0) ({ frames := 0, cells := 1, slots := 1, locals := 0 } : Room).cells ({ frames := 0, cells := 1, slots := 1, locals := 0 } : Room).slots) s₁ (entryFrame m #[(.int c0)] 1)
  refine own_cast (own_ef6 m c0) ?_
  show own_E p e below _ s₁ (mkF m 0 #[.val (.int c0)] [])
  refine own_iconst X0 hx (hb hby own_d5_0) (v := (1 : Int32)) (by decide) ?_
  show own_E p e below _ s₁ (mkF m 1 #[.val (.int c0)] [(.int (1 : Int32))])
  obtain ⟨T13, h13, kc13, X13, e13, E13, A13, st13⟩ := newP X0 hx hZ (own_w hw 14 rfl) e0 (g := (mkF m 1 #[.val (.int c0)] [(.int (1 : Int32))])) rfl (hb hby own_d5_1) rfl (by decide : ¬ ((1 : Int32) < (0 : Int32))) (cap := 1) (by decide : ((1 : Int32)).toNatClampNeg ≤ 1) (by decide) (by decide) (by decide)
  obtain ⟨b13, g13⟩ : ∃ z, z = h0.size := ⟨_, rfl⟩
  rw [← g13] at A13 st13
  have z13 : h0.size ≤ h13.size := E13.1
  have t13 : b13 < h13.size := A13.lt
  have V13 : Arv Z h13 b13 kc13 .byte (1 : Int32) [] (.int (0 : Int32)) := Arv.new A13 (by decide : ¬ ((1 : Int32) < (0 : Int32)))
  refine own_go st13 ?_
  have lt14 := own_lt (V13).lt
  show own_E p e below _ T13 (mkF m 3 #[.val (.int c0)] [(.ref b13)])
  refine own_dup X13 hx (hb hby own_d5_3) rfl ?_
  show own_E p e below _ T13 (mkF m 4 #[.val (.int c0)] [(.ref b13), (.ref b13)])
  refine own_iconst X13 hx (hb hby own_d5_4) (v := (0 : Int32)) (by decide) ?_
  show own_E p e below _ T13 (mkF m 5 #[.val (.int c0)] [(.int (0 : Int32)), (.ref b13), (.ref b13)])
  refine own_iloadN X13 hx (hb hby own_d5_5) rfl ?_
  show own_E p e below _ T13 (mkF m 6 #[.val (.int c0)] [(.int c0), (.int (0 : Int32)), (.ref b13), (.ref b13)])
  refine own_i2b X13 hx (hb hby own_d5_6) (z := (c0.toInt8.toInt32)) rfl ?_
  show own_E p e below _ T13 (mkF m 7 #[.val (.int c0)] [(.int (c0.toInt8.toInt32)), (.int (0 : Int32)), (.ref b13), (.ref b13)])
  have hnar : nar .byte (c0.toInt8.toInt32) = c0.toInt8.toInt32 := by simp [nar]
  have P15 : Arv Z h13 b13 kc13 .byte (1 : Int32) [(.int (0 : Int32))] (.int (0 : Int32)) := V13.pad (pad_rep [] (.int (0 : Int32)) 1)
  obtain ⟨c15, B15, q15, S15, M15, H15, U15⟩ := id P15
  obtain ⟨T16, h16, X16, e16, W16, st16⟩ := stB X13 hx hZ e13 B15 (j := (0 : Int32)) (inb_of S15 ⟨(by decide : ¬ ((0 : Int32) < (0 : Int32))), (by decide : (0 : Int32) < (1 : Int32))⟩) (g := (mkF m 7 #[.val (.int c0)] [(.int (c0.toInt8.toInt32)), (.int (0 : Int32)), (.ref b13), (.ref b13)])) rfl rfl (hb hby own_d5_7)
  have V16 : Arv Z h16 b13 kc13 .byte (1 : Int32) [(.int (nar .byte (c0.toInt8.toInt32)))] (.int (0 : Int32)) := Arv.set B15 q15 S15 M15 H15 U15 (fits_nar_byte _) W16 0 rfl (Nat.le_of_ble_eq_true rfl)
  refine own_go st16 ?_
  have N16 := Fr.snoc X16 N0 (by omega)
  have z16 : h13.size ≤ h16.size := Nat.le_of_eq W16.size.symm
  show own_E p e below _ T16 (mkF m 8 #[.val (.int c0)] [(.ref b13)])
  refine own_retA X16 hx Bd.returns rfl rfl hlk (hb hby own_d5_8) (by decide) (by decide) ?_
  rw [e16]
  exact ⟨_, _, rfl, N16, (((Keep.refl _ _).ext E13).wr W16 (Or.inr (by omega))), (by omega), (hnar ▸ V16)⟩

def own_QI (Z : State) (a1 b1 : Addr) (h0 : Heap) (n0 : Nat) (v : Option Value) (h : Heap) (L : List Loc) : Prop := v = none ∧ Fr n0 L ∧ Keep h0 h [a1] ∧ Fld Z h a1 "java/lang/String" "coder" "B" (.int (0 : Int32)) ∧ Fld Z h a1 "java/lang/String" "value" "[B" (.ref b1)
theorem own_pn5 : plainName "java/lang/String" = true := by first | (simp [plainName, overriddenIn]; done) | decide +kernel
theorem own_ef7 (m : MethodId) (x0 : Addr) (x1 : Addr) (x2 : Int32) : entryFrame m #[(.ref x0), (.ref x1), (.int x2)] 3 = mkF m 0 #[.val (.ref x0), .val (.ref x1), .val (.int x2)] [] := by first | (simp [entryFrame, mkF, argsToLocals, Value.category]; done) | rfl
theorem own_d6_0 : decode jdk_42_method_151_code 0 = .ok (.aload_n 0, 1) := by decide +kernel
theorem own_d6_1 : decode jdk_42_method_151_code 1 = .ok (.invokespecial 1, 3) := by decide +kernel
theorem own_d6_4 : decode jdk_42_method_151_code 4 = .ok (.aload_n 0, 1) := by decide +kernel
theorem own_d6_5 : decode jdk_42_method_151_code 5 = .ok (.aload_n 1, 1) := by decide +kernel
theorem own_d6_6 : decode jdk_42_method_151_code 6 = .ok (.putfield 9, 3) := by decide +kernel
theorem own_d6_9 : decode jdk_42_method_151_code 9 = .ok (.aload_n 0, 1) := by decide +kernel
theorem own_d6_10 : decode jdk_42_method_151_code 10 = .ok (.iload_n 2, 1) := by decide +kernel
theorem own_d6_11 : decode jdk_42_method_151_code 11 = .ok (.putfield 15, 3) := by decide +kernel
theorem own_d6_14 : decode jdk_42_method_151_code 14 = .ok (.return_, 1) := by decide +kernel
set_option maxRecDepth 65536 in
set_option maxHeartbeats 40000000 in
theorem own_rmSI (l : Launch) (Z : State) (a0 : Array Value) (hw : ∀ d ∈ tables_1, d.before a0 Z = true) (ws : List Jvm.Cond) (a1 b1 : Addr) (h0 : Heap) (n0 : Nat) (Z0 : n0 ≤ h0.size) (F0 : Fld Z h0 a1 "java/lang/String" "coder" "B" (.int (0 : Int32))) (F1 : Fld Z h0 a1 "java/lang/String" "value" "[B" .null) (A0 : Exa Z h0 a1 "java/lang/String") (g0 : n0 ≤ a1) :
    MetFree l (⟨"java/lang/String", "<init>", "([BB)V"⟩ : MethodName) (head1 (Jvm.Cond.code (⟨"java/lang/String", "<init>", "([BB)V"⟩ : MethodName) jdk_42_method_151_code 3 none :: ws) ({ frames := 1, cells := 0, slots := 0, locals := 12 } : Room)) (fun a U => a = #[(.ref a1), (.ref b1), (.int (0 : Int32))] ∧ Z.Warmed39 U.vm ∧ U.heap = h0) (fun _ _ _ _ _ => True) (fun _ U o U' => ∃ v L, o = .returned v ∧ own_QI Z a1 b1 h0 n0 v U'.heap L ∧ FrameEnd U o U' L ({ frames := 1, cells := 0, slots := 0, locals := 12 } : Room).cells ({ frames := 1, cells := 0, slots := 0, locals := 12 } : Room).slots) := by
  refine MetFree.of_bodySF (plainFor_of_name own_pn5) hisR ?_
  intro p e s m args below meth c s₁ Bd hml0 hP hK
  obtain ⟨rfl, hZ, hh⟩ := hP
  have hx := Bd.exec
  have hby := Bd.bytes
  have hlk : meth.locks = false := Bd.notSynchronized
  have hml : c.maxLocals = 3 := hml0
  have hown : s.vm.findClass "java/lang/String" = some m.cls := findClass_of_methodNamed Bd.named
  have hnm := (name_of_methodNamed Bd.named Bd.method).1
  have X0 : Stand p l e ({ frames := 1, cells := 0, slots := 0, locals := 12 } : Room) s m #[(.ref a1), (.ref b1), (.int (0 : Int32))] below meth c s₁ [] 0 0 := Stand.of_body Bd
  have e0 : s₁.heap = h0 := by rw [← hh, Bd.state]; rfl
  have N0 := Fr.nil n0
  show own_E p e below (own_P s (own_QI Z a1 b1 h0 n0) ({ frames := 1, cells := 0, slots := 0, locals := 12 } : Room).cells ({ frames := 1, cells := 0, slots := 0, locals := 12 } : Room).slots) s₁ (entryFrame m #[(.ref a1), (.ref b1), (.int (0 : Int32))] 3)
  refine own_cast (own_ef7 m a1 b1 (0 : Int32)) ?_
  have lt17 := own_lt (F0).lt
  have lt18 := own_lt (A0).lt
  show own_E p e below _ s₁ (mkF m 0 #[.val (.ref a1), .val (.ref b1), .val (.int (0 : Int32))] [])
  refine own_aloadN X0 hx (hb hby own_d6_0) rfl rfl ?_
  show own_E p e below _ s₁ (mkF m 1 #[.val (.ref a1), .val (.ref b1), .val (.int (0 : Int32))] [(.ref a1)])
  obtain ⟨T19, X19, e19, st19⟩ := initO X0 hx hZ hown (own_w hw 19 rfl) (own_w hw 20 rfl) (own_w hw 21 rfl) e0 (g := (mkF m 1 #[.val (.ref a1), .val (.ref b1), .val (.int (0 : Int32))] [(.ref a1)])) rfl (by rw [hml]; rfl) rfl (hb hby own_d6_1) (by decide) (W := 0) (by show 2 * 0 + _ ≤ _; exact Nat.le_of_eq rfl) (by decide)
  refine own_go st19 ?_
  show own_E p e below _ T19 (mkF m 4 #[.val (.ref a1), .val (.ref b1), .val (.int (0 : Int32))] [])
  refine own_aloadN X19 hx (hb hby own_d6_4) rfl rfl ?_
  show own_E p e below _ T19 (mkF m 5 #[.val (.ref a1), .val (.ref b1), .val (.int (0 : Int32))] [(.ref a1)])
  refine own_aloadN X19 hx (hb hby own_d6_5) rfl rfl ?_
  show own_E p e below _ T19 (mkF m 6 #[.val (.ref a1), .val (.ref b1), .val (.int (0 : Int32))] [(.ref b1), (.ref a1)])
  obtain ⟨T20, h20, X20, e20, W20, st20⟩ := putF X19 hx hZ hown (host := "") (Or.inl (own_w hw 22 rfl)) Via.refl e19 F1 A0 (Or.inr ⟨(own_w hw 23 rfl), rfl, hnm⟩) (own_w hw 10 rfl) (ty := (.array .byte)) (by decide) rfl rfl (g := (mkF m 6 #[.val (.ref a1), .val (.ref b1), .val (.int (0 : Int32))] [(.ref b1), (.ref a1)])) rfl rfl (hb hby own_d6_6)
  refine own_go st20 ?_
  have N20 := Fr.snoc X20 N0 (by omega)
  have z20 : h0.size ≤ h20.size := Nat.le_of_eq W20.size.symm
  have F20 : Fld Z h20 a1 "java/lang/String" "value" "[B" (.ref b1) := Fld.same W20 F1
  show own_E p e below _ T20 (mkF m 9 #[.val (.ref a1), .val (.ref b1), .val (.int (0 : Int32))] [])
  refine own_aloadN X20 hx (hb hby own_d6_9) rfl rfl ?_
  show own_E p e below _ T20 (mkF m 10 #[.val (.ref a1), .val (.ref b1), .val (.int (0 : Int32))] [(.ref a1)])
  refine own_iloadN X20 hx (hb hby own_d6_10) rfl ?_
  show own_E p e below _ T20 (mkF m 11 #[.val (.ref a1), .val (.ref b1), .val (.int (0 : Int32))] [(.int (0 : Int32)), (.ref a1)])
  obtain ⟨T21, h21, X21, e21, W21, st21⟩ := putF X20 hx hZ hown (host := "") (Or.inl (own_w hw 24 rfl)) Via.refl e20 (F0.other W20 (Or.inr (slot_ne (Or.inr (own_w hw 25 rfl)) (Or.inr (own_w hw 23 rfl)) (by decide) (t := .byte) (t' := (.array .byte)) (by decide) (by decide)))) (A0.wr W20) (Or.inr ⟨(own_w hw 25 rfl), rfl, hnm⟩) (own_w hw 10 rfl) (ty := .byte) (by decide) (by decide) (by decide) (g := (mkF m 11 #[.val (.ref a1), .val (.ref b1), .val (.int (0 : Int32))] [(.int (0 : Int32)), (.ref a1)])) rfl rfl (hb hby own_d6_11)
  refine own_go st21 ?_
  have N21 := Fr.snoc X21 N20 (by omega)
  have z21 : h20.size ≤ h21.size := Nat.le_of_eq W21.size.symm
  have F21 : Fld Z h21 a1 "java/lang/String" "coder" "B" (.int (0 : Int32)) := Fld.same W21 (F0.other W20 (Or.inr (slot_ne (Or.inr (own_w hw 25 rfl)) (Or.inr (own_w hw 23 rfl)) (by decide) (t := .byte) (t' := (.array .byte)) (by decide) (by decide))))
  show own_E p e below _ T21 (mkF m 14 #[.val (.ref a1), .val (.ref b1), .val (.int (0 : Int32))] [])
  refine own_retV X21 hx Bd.returns hlk (hb hby own_d6_14) (by decide) (by decide) ?_
  rw [e21]
  exact ⟨rfl, N21, (((Keep.refl _ _).wr W20 (Or.inl (List.mem_of_getElem? (i := 0) rfl))).wr W21 (Or.inl (List.mem_of_getElem? (i := 0) rfl))), F21, (F20.other W21 (Or.inr (slot_ne (Or.inr (own_w hw 23 rfl)) (Or.inr (own_w hw 25 rfl)) (by decide) (t := (.array .byte)) (t' := .byte) (by decide) (by decide))))⟩

def own_QS (Z : State) (x : Int32) (h0 : Heap) (n0 : Nat) (v : Option Value) (h : Heap) (L : List Loc) : Prop := ∃ a, v = some (.ref a) ∧ Fr n0 L ∧ Keep h0 h [] ∧ own_S Z h a 0 x
theorem own_ef8 (m : MethodId) (x0 : Int32) : entryFrame m #[(.int x0)] 1 = mkF m 0 #[.val (.int x0)] [] := by first | (simp [entryFrame, mkF, argsToLocals, Value.category]; done) | rfl
theorem own_d7_0 : decode jdk_42_method_139_code 0 = .ok (.getstatic 38, 3) := by decide +kernel
theorem own_d7_3 : decode jdk_42_method_139_code 3 = .ok (.ifCond .eq 23, 3) := by decide +kernel
theorem own_d7_6 : decode jdk_42_method_139_code 6 = .ok (.iload_n 0, 1) := by decide +kernel
theorem own_pd1 : parseMethodDescriptor "(C)Z" = some ⟨[.char], some .boolean⟩ := by decide +kernel
theorem own_d7_7 : decode jdk_42_method_139_code 7 = .ok (.invokestatic 1015, 3) := by decide +kernel
theorem own_d7_10 : decode jdk_42_method_139_code 10 = .ok (.ifCond .eq 16, 3) := by decide +kernel
theorem own_d7_13 : decode jdk_42_method_139_code 13 = .ok (.new 10, 3) := by decide +kernel
theorem own_d7_16 : decode jdk_42_method_139_code 16 = .ok (.dup, 1) := by decide +kernel
theorem own_d7_17 : decode jdk_42_method_139_code 17 = .ok (.iload_n 0, 1) := by decide +kernel
theorem own_pd2 : parseMethodDescriptor "(C)[B" = some ⟨[.char], some (.array .byte)⟩ := by decide +kernel
theorem own_d7_18 : decode jdk_42_method_139_code 18 = .ok (.invokestatic 1018, 3) := by decide +kernel
theorem own_d7_21 : decode jdk_42_method_139_code 21 = .ok (.iconst 0, 1) := by decide +kernel
theorem own_pd3 : parseMethodDescriptor "([BB)V" = some ⟨[(.array .byte), .byte], none⟩ := by decide +kernel
theorem own_d7_22 : decode jdk_42_method_139_code 22 = .ok (.invokespecial 209, 3) := by decide +kernel
theorem own_d7_25 : decode jdk_42_method_139_code 25 = .ok (.areturn, 1) := by decide +kernel
set_option maxRecDepth 65536 in
set_option maxHeartbeats 40000000 in
theorem own_rmVO (l : Launch) (Z : State) (a0 : Array Value) (hw : ∀ d ∈ tables_1, d.before a0 Z = true) (ws : List Jvm.Cond) (c0 G1 : Int32) (h0 : Heap) (n0 : Nat) (Z0 : n0 ≤ h0.size) (O0 : Old Z n0 h0) (SC : Sta Z Z.heap "java/lang/String" "COMPACT_STRINGS" "Z" (.int G1)) (P1 : ¬ G1 = 0) (hi : ¬ (255 : Int32) < c0) :
    MetFree l (⟨"java/lang/String", "valueOf", "(C)Ljava/lang/String;"⟩ : MethodName) (head1 (Jvm.Cond.code (⟨"java/lang/String", "valueOf", "(C)Ljava/lang/String;"⟩ : MethodName) jdk_42_method_139_code 1 (some (.object "java/lang/String")) :: ws) ({ frames := 2, cells := 2, slots := 5, locals := 32 } : Room)) (fun a U => a = #[(.int c0)] ∧ Z.Warmed39 U.vm ∧ U.heap = h0) (fun _ _ _ _ _ => True) (fun _ U o U' => ∃ v L, o = .returned v ∧ own_QS Z c0.toInt8.toInt32 h0 n0 v U'.heap L ∧ FrameEnd U o U' L ({ frames := 2, cells := 2, slots := 5, locals := 32 } : Room).cells ({ frames := 2, cells := 2, slots := 5, locals := 32 } : Room).slots) := by
  refine MetFree.of_bodySF (plainFor_of_name own_pn5) hisR ?_
  intro p e s m args below meth c s₁ Bd hml0 hP hK
  obtain ⟨rfl, hZ, hh⟩ := hP
  have hx := Bd.exec
  have hby := Bd.bytes
  have hlk : meth.locks = false := Bd.notSynchronized
  have hml : c.maxLocals = 1 := hml0
  have hown : s.vm.findClass "java/lang/String" = some m.cls := findClass_of_methodNamed Bd.named
  have hnm := (name_of_methodNamed Bd.named Bd.method).1
  have X0 : Stand p l e ({ frames := 2, cells := 2, slots := 5, locals := 32 } : Room) s m #[(.int c0)] below meth c s₁ [] 0 0 := Stand.of_body Bd
  have e0 : s₁.heap = h0 := by rw [← hh, Bd.state]; rfl
  have N0 := Fr.nil n0
  show own_E p e below (own_P s (own_QS Z c0.toInt8.toInt32 h0 n0) ({ frames := 2, cells := 2, slots := 5, locals := 32 } : Room).cells ({ frames := 2, cells := 2, slots := 5, locals := 32 } : Room).slots) s₁ (entryFrame m #[(.int c0)] 1)
  refine own_cast (own_ef8 m c0) ?_
  have od22 := (O0).1
  show own_E p e below _ s₁ (mkF m 0 #[.val (.int c0)] [])
  obtain ⟨T23, X23, e23, st23⟩ := getS2 X0 hx hZ hown (host := "") (Or.inl (own_w hw 4 rfl)) Via.refl e0 (SC.ext (O0).2) (g := (mkF m 0 #[.val (.int c0)] [])) rfl (hb hby own_d7_0)
  refine own_go st23 ?_
  show own_E p e below _ T23 (mkF m 3 #[.val (.int c0)] [(.int G1)])
  refine own_ifNo X23 hx (hb hby own_d7_3) (XT.i0_eq_f P1) ?_
  show own_E p e below _ T23 (mkF m 6 #[.val (.int c0)] [])
  refine own_iloadN X23 hx (hb hby own_d7_6) rfl ?_
  show own_E p e below _ T23 (mkF m 7 #[.val (.int c0)] [(.int c0)])
  obtain ⟨_, _, ⟨T24, L24, k24, n24⟩, -, X24, ⟨Lc24, hQ24, l24, y24, z24⟩, st24⟩ := Jvm.LawKit.callS X23 hx (y := (⟨"java/lang/StringLatin1", "canEncode", "(C)Z"⟩ : MethodName)) hown (mvT hZ (own_w hw 5 rfl)) (mvT hZ (own_w hw 6 rfl)) (mvT hZ (own_w hw 7 rfl)) (mvT hZ (own_w hw 8 rfl)) (by decide) (backOf (W := 0) (own_rmCE l Z a0 hw [] c0 h0 n0 (by omega) hi) hZ (own_w hw 8 rfl) (own_w hw 7 rfl) (by decide) (by decide)) (g := (mkF m 7 #[.val (.int c0)] [(.int c0)])) rfl (by rw [hml]; rfl) (argsL := [(.int c0)]) (rest := []) (lenOf own_pd1 rfl) rfl (by show 2 * 0 + _ ≤ _; exact Nat.le_of_eq rfl) (hb hby own_d7_7) (fun _ _ => ⟨rfl, e23, Nat.le_of_ble_eq_true rfl, Nat.le_of_ble_eq_true rfl⟩)
  dsimp only [Pt.U, Pt.locs, Pt.cells, Pt.slots] at X24 l24 y24 z24 st24 hQ24
  subst l24 y24 z24
  obtain ⟨rfl, M24, e24⟩ := hQ24
  have N24 := Fr.app N0 M24
  refine own_go st24 ?_
  show own_E p e below _ T24 (mkF m 10 #[.val (.int c0)] [(.int (1 : Int32))])
  refine own_ifNo X24 hx (hb hby own_d7_10) (by decide +kernel) ?_
  show own_E p e below _ T24 (mkF m 13 #[.val (.int c0)] [])
  obtain ⟨T25, h25, X25, e25, E25, A25, D25, -, st25⟩ := newO X24 hx hZ hown (own_w hw 9 rfl) (own_w hw 10 rfl) (own_w hw 2 rfl) e24 (g := (mkF m 13 #[.val (.int c0)] [])) rfl (hb hby own_d7_13) (by decide) (by decide)
  obtain ⟨a25, g25⟩ : ∃ z, z = h0.size := ⟨_, rfl⟩
  rw [← g25] at A25 D25 st25
  have z25 : h0.size ≤ h25.size := E25.1
  have t25 : a25 < h25.size := A25.lt
  refine own_go st25 ?_
  have lt26 := own_lt (A25).lt
  show own_E p e below _ T25 (mkF m 16 #[.val (.int c0)] [(.ref a25)])
  refine own_dup X25 hx (hb hby own_d7_16) rfl ?_
  show own_E p e below _ T25 (mkF m 17 #[.val (.int c0)] [(.ref a25), (.ref a25)])
  refine own_iloadN X25 hx (hb hby own_d7_17) rfl ?_
  show own_E p e below _ T25 (mkF m 18 #[.val (.int c0)] [(.int c0), (.ref a25), (.ref a25)])
  obtain ⟨_, _, ⟨T27, L27, k27, n27⟩, -, X27, ⟨Lc27, hQ27, l27, y27, z27⟩, st27⟩ := Jvm.LawKit.callS X25 hx (y := (⟨"java/lang/StringLatin1", "toBytes", "(C)[B"⟩ : MethodName)) hown (mvT hZ (own_w hw 11 rfl)) (mvT hZ (own_w hw 12 rfl)) (mvT hZ (own_w hw 7 rfl)) (mvT hZ (own_w hw 13 rfl)) (by decide) (backOf (W := 2) (own_rmTB l Z a0 hw [] c0 h25 n0 (by omega)) hZ (own_w hw 13 rfl) (own_w hw 7 rfl) (by decide) (by decide)) (g := (mkF m 18 #[.val (.int c0)] [(.int c0), (.ref a25), (.ref a25)])) rfl (by rw [hml]; rfl) (argsL := [(.int c0)]) (rest := [(.ref a25), (.ref a25)]) (lenOf own_pd2 rfl) rfl (by show 2 * 0 + _ ≤ _; exact Nat.le_of_eq rfl) (hb hby own_d7_18) (fun _ _ => ⟨rfl, e25, Nat.le_of_ble_eq_true rfl, Nat.le_of_ble_eq_true rfl⟩)
  dsimp only [Pt.U, Pt.locs, Pt.cells, Pt.slots] at X27 l27 y27 z27 st27 hQ27
  subst l27 y27 z27
  obtain ⟨b27, kb27, rfl, M27, K27, gb27, V27⟩ := hQ27
  have N27 := Fr.app N24 M27
  refine own_go st27 ?_
  have z27 : h25.size ≤ T27.heap.size := K27.1
  show own_E p e below _ T27 (mkF m 21 #[.val (.int c0)] [(.ref b27), (.ref a25), (.ref a25)])
  have lt28 := own_lt (V27).lt
  refine own_iconst X27 hx (hb hby own_d7_21) (v := (0 : Int32)) (by decide) ?_
  show own_E p e below _ T27 (mkF m 22 #[.val (.int c0)] [(.int (0 : Int32)), (.ref b27), (.ref a25), (.ref a25)])
  obtain ⟨_, _, ⟨T29, L29, k29, n29⟩, -, X29, ⟨Lc29, hQ29, l29, y29, z29⟩, st29⟩ := X27.specialBack hx (y := (⟨"java/lang/String", "<init>", "([BB)V"⟩ : MethodName)) rfl hown (mvT hZ (own_w hw 15 rfl)) (mvT hZ (own_w hw 16 rfl)) (mvT hZ (own_w hw 18 rfl)) (by decide) (backOf (W := 1) (own_rmSI l Z a0 hw [] a25 b27 T27.heap n0 (by omega) ((D25 (Or.inr (own_w hw 25 rfl)) (ty := .byte) (by decide)).keep K27 nin0) ((D25 (Or.inr (own_w hw 23 rfl)) (ty := (.array .byte)) (by decide)).keep K27 nin0) (A25.keep K27) (by omega)) hZ (own_w hw 18 rfl) (own_w hw 2 rfl) (by decide) (by decide)) (g := (mkF m 22 #[.val (.int c0)] [(.int (0 : Int32)), (.ref b27), (.ref a25), (.ref a25)])) rfl (by rw [hml]; rfl) (Steps.refl _) (a := a25) (argsL := [(.ref b27), (.int (0 : Int32))]) (rest := [(.ref a25)]) (lenOf own_pd3 rfl) rfl (by show 2 * 0 + _ ≤ _; exact Nat.le_of_eq rfl) (hb hby own_d7_22) (fun _ _ => ⟨rfl, (rfl : T27.heap = T27.heap), Nat.le_of_ble_eq_true rfl, Nat.le_of_ble_eq_true rfl⟩)
  dsimp only [Pt.U, Pt.locs, Pt.cells, Pt.slots] at X29 l29 y29 z29 st29 hQ29
  subst l29 y29 z29
  obtain ⟨rfl, M29, K29, F29, G29⟩ := hQ29
  have N29 := Fr.app N27 M29
  refine own_go (fun _ k => st29.trans k) ?_
  have z29 : T27.heap.size ≤ T29.heap.size := K29.1
  show own_E p e below _ T29 (mkF m 25 #[.val (.int c0)] [(.ref a25)])
  refine own_retA X29 hx Bd.returns rfl rfl hlk (hb hby own_d7_25) (by decide) (by decide) ?_
  exact ⟨_, rfl, N29, ((((Keep.refl _ _).ext E25).trans K27 all0).trans K29 (allS (Or.inr (by omega)) all0)), _, _, ((A25.keep K27).keep K29), F29, G29, (V27.keep K29 (ninS (by first | assumption | exact Ne.symm (by assumption) | exact own_ne (by omega)) nin0))⟩

theorem own_ef9 (m : MethodId) (x0 : Addr) (x1 : Addr) : entryFrame m #[(.ref x0), (.ref x1)] 3 = mkF m 0 #[.val (.ref x0), .val (.ref x1), .unset] [] := by first | (simp [entryFrame, mkF, argsToLocals, Value.category]; done) | rfl
theorem own_d8_0 : decode jdk_43_method_13_code 0 = .ok (.aload_n 0, 1) := by decide +kernel
theorem own_d8_1 : decode jdk_43_method_13_code 1 = .ok (.arraylength, 1) := by decide +kernel
theorem own_d8_2 : decode jdk_43_method_13_code 2 = .ok (.aload_n 1, 1) := by decide +kernel
theorem own_d8_3 : decode jdk_43_method_13_code 3 = .ok (.arraylength, 1) := by decide +kernel
theorem own_d8_4 : decode jdk_43_method_13_code 4 = .ok (.if_icmp .ne 30, 3) := by decide +kernel
theorem own_d8_7 : decode jdk_43_method_13_code 7 = .ok (.iconst 0, 1) := by decide +kernel
theorem own_d8_8 : decode jdk_43_method_13_code 8 = .ok (.istore_n 2, 1) := by decide +kernel
theorem own_d8_9 : decode jdk_43_method_13_code 9 = .ok (.iload_n 2, 1) := by decide +kernel
theorem own_d8_10 : decode jdk_43_method_13_code 10 = .ok (.aload_n 0, 1) := by decide +kernel
theorem own_d8_11 : decode jdk_43_method_13_code 11 = .ok (.arraylength, 1) := by decide +kernel
theorem own_d8_12 : decode jdk_43_method_13_code 12 = .ok (.if_icmp .ge 20, 3) := by decide +kernel
theorem own_d8_15 : decode jdk_43_method_13_code 15 = .ok (.aload_n 0, 1) := by decide +kernel
theorem own_d8_16 : decode jdk_43_method_13_code 16 = .ok (.iload_n 2, 1) := by decide +kernel
theorem own_d8_17 : decode jdk_43_method_13_code 17 = .ok (.baload, 1) := by decide +kernel
theorem own_d8_18 : decode jdk_43_method_13_code 18 = .ok (.aload_n 1, 1) := by decide +kernel
theorem own_d8_19 : decode jdk_43_method_13_code 19 = .ok (.iload_n 2, 1) := by decide +kernel
theorem own_d8_20 : decode jdk_43_method_13_code 20 = .ok (.baload, 1) := by decide +kernel
theorem own_d8_21 : decode jdk_43_method_13_code 21 = .ok (.if_icmp .eq 5, 3) := by decide +kernel
theorem own_d8_26 : decode jdk_43_method_13_code 26 = .ok (.iinc 2 1, 3) := by decide +kernel
theorem own_d8_29 : decode jdk_43_method_13_code 29 = .ok (.goto (-20), 3) := by decide +kernel
theorem own_d8_32 : decode jdk_43_method_13_code 32 = .ok (.iconst 1, 1) := by decide +kernel
theorem own_d8_33 : decode jdk_43_method_13_code 33 = .ok (.ireturn, 1) := by decide +kernel
theorem own_d8_24 : decode jdk_43_method_13_code 24 = .ok (.iconst 0, 1) := by decide +kernel
theorem own_d8_25 : decode jdk_43_method_13_code 25 = .ok (.ireturn, 1) := by decide +kernel
set_option maxRecDepth 65536 in
set_option maxHeartbeats 40000000 in
theorem own_rmLE11 (l : Launch) (Z : State) (a0 : Array Value) (hw : ∀ d ∈ tables_1, d.before a0 Z = true) (ws : List Jvm.Cond) (b1 b2 : Addr) (k1 k2 : ClassId) (x1 x2 : Int32) (h0 : Heap) (n0 : Nat) (Z0 : n0 ≤ h0.size) (V1 : Arv Z h0 b1 k1 .byte (1 : Int32) [.int x1] (.int (0 : Int32))) (V2 : Arv Z h0 b2 k2 .byte (1 : Int32) [.int x2] (.int (0 : Int32))) :
    MetFree l (⟨"java/lang/StringLatin1", "equals", "([B[B)Z"⟩ : MethodName) (head1 (Jvm.Cond.code (⟨"java/lang/StringLatin1", "equals", "([B[B)Z"⟩ : MethodName) jdk_43_method_13_code 3 (some .boolean) :: ws) ({ frames := 0, cells := 0, slots := 0, locals := 0 } : Room)) (fun a U => a = #[(.ref b1), (.ref b2)] ∧ Z.Warmed39 U.vm ∧ U.heap = h0) (fun _ _ _ _ _ => True) (fun _ U o U' => ∃ v L, o = .returned v ∧ own_Q (.int (if x1 = x2 then (1 : Int32) else 0)) h0 n0 v U'.heap L ∧ FrameEnd U o U' L ({ frames := 0, cells := 0, slots := 0, locals := 0 } : Room).cells ({ frames := 0, cells := 0, slots := 0, locals := 0 } : Room).slots) := by
  refine MetFree.of_bodySF (plainFor_of_name own_pn4) hisR ?_
  intro p e s m args below meth c s₁ Bd hml0 hP hK
  obtain ⟨rfl, hZ, hh⟩ := hP
  have hx := Bd.exec
  have hby := Bd.bytes
  have hlk : meth.locks = false := Bd.notSynchronized
  have hml : c.maxLocals = 3 := hml0
  have hown : s.vm.findClass "java/lang/StringLatin1" = some m.cls := findClass_of_methodNamed Bd.named
  have hnm := (name_of_methodNamed Bd.named Bd.method).1
  have X0 : Stand p l e ({ frames := 0, cells := 0, slots := 0, locals := 0 } : Room) s m #[(.ref b1), (.ref b2)] below meth c s₁ [] 0 0 := Stand.of_body Bd
  have e0 : s₁.heap = h0 := by rw [← hh, Bd.state]; rfl
  have N0 := Fr.nil n0
  show own_E p e below (own_P s (own_Q (.int (if x1 = x2 then (1 : Int32) else 0)) h0 n0) ({ frames := 0, cells := 0, slots := 0, locals := 0 } : Room).cells ({ frames := 0, cells := 0, slots := 0, locals := 0 } : Room).slots) s₁ (entryFrame m #[(.ref b1), (.ref b2)] 3)
  refine own_cast (own_ef9 m b1 b2) ?_
  have lt30 := own_lt (V1).lt
  have lt31 := own_lt (V2).lt
  show own_E p e below _ s₁ (mkF m 0 #[.val (.ref b1), .val (.ref b2), .unset] [])
  refine own_aloadN X0 hx (hb hby own_d8_0) rfl rfl ?_
  show own_E p e below _ s₁ (mkF m 1 #[.val (.ref b1), .val (.ref b2), .unset] [(.ref b1)])
  obtain ⟨c32, B32, q32, S32, M32, H32, U32⟩ := id V1
  refine own_alen X0 hx hZ e0 B32 (z := (1 : Int32)) (len_of S32 M32) (hb hby own_d8_1) ?_
  show own_E p e below _ s₁ (mkF m 2 #[.val (.ref b1), .val (.ref b2), .unset] [(.int (1 : Int32))])
  refine own_aloadN X0 hx (hb hby own_d8_2) rfl rfl ?_
  show own_E p e below _ s₁ (mkF m 3 #[.val (.ref b1), .val (.ref b2), .unset] [(.ref b2), (.int (1 : Int32))])
  obtain ⟨c33, B33, q33, S33, M33, H33, U33⟩ := id V2
  refine own_alen X0 hx hZ e0 B33 (z := (1 : Int32)) (len_of S33 M33) (hb hby own_d8_3) ?_
  show own_E p e below _ s₁ (mkF m 4 #[.val (.ref b1), .val (.ref b2), .unset] [(.int (1 : Int32)), (.int (1 : Int32))])
  refine own_icmpNo X0 hx (hb hby own_d8_4) (by decide +kernel) ?_
  show own_E p e below _ s₁ (mkF m 7 #[.val (.ref b1), .val (.ref b2), .unset] [])
  refine own_iconst X0 hx (hb hby own_d8_7) (v := (0 : Int32)) (by decide) ?_
  show own_E p e below _ s₁ (mkF m 8 #[.val (.ref b1), .val (.ref b2), .unset] [(.int (0 : Int32))])
  refine own_istoreN X0 hx (hb hby own_d8_8) (l' := #[.val (.ref b1), .val (.ref b2), .val (.int (0 : Int32))]) rfl ?_
  show own_E p e below _ s₁ (mkF m 9 #[.val (.ref b1), .val (.ref b2), .val (.int (0 : Int32))] [])
  refine own_iloadN X0 hx (hb hby own_d8_9) rfl ?_
  show own_E p e below _ s₁ (mkF m 10 #[.val (.ref b1), .val (.ref b2), .val (.int (0 : Int32))] [(.int (0 : Int32))])
  refine own_aloadN X0 hx (hb hby own_d8_10) rfl rfl ?_
  show own_E p e below _ s₁ (mkF m 11 #[.val (.ref b1), .val (.ref b2), .val (.int (0 : Int32))] [(.ref b1), (.int (0 : Int32))])
  obtain ⟨c34, B34, q34, S34, M34, H34, U34⟩ := id V1
  refine own_alen X0 hx hZ e0 B34 (z := (1 : Int32)) (len_of S34 M34) (hb hby own_d8_11) ?_
  show own_E p e below _ s₁ (mkF m 12 #[.val (.ref b1), .val (.ref b2), .val (.int (0 : Int32))] [(.int (1 : Int32)), (.int (0 : Int32))])
  refine own_icmpNo X0 hx (hb hby own_d8_12) (by decide +kernel) ?_
  show own_E p e below _ s₁ (mkF m 15 #[.val (.ref b1), .val (.ref b2), .val (.int (0 : Int32))] [])
  refine own_aloadN X0 hx (hb hby own_d8_15) rfl rfl ?_
  show own_E p e below _ s₁ (mkF m 16 #[.val (.ref b1), .val (.ref b2), .val (.int (0 : Int32))] [(.ref b1)])
  refine own_iloadN X0 hx (hb hby own_d8_16) rfl ?_
  show own_E p e below _ s₁ (mkF m 17 #[.val (.ref b1), .val (.ref b2), .val (.int (0 : Int32))] [(.int (0 : Int32)), (.ref b1)])
  obtain ⟨c35, B35, q35, S35, M35, H35, U35⟩ := id V1
  have i35 := inb_of (j := (0 : Int32)) S35 ⟨by decide, by decide⟩
  refine own_baload X0 hx hZ e0 B35 (v := (.int x1)) i35 (H35.at i35 rfl) (hb hby own_d8_17) ?_
  show own_E p e below _ s₁ (mkF m 18 #[.val (.ref b1), .val (.ref b2), .val (.int (0 : Int32))] [(.int x1)])
  refine own_aloadN X0 hx (hb hby own_d8_18) rfl rfl ?_
  show own_E p e below _ s₁ (mkF m 19 #[.val (.ref b1), .val (.ref b2), .val (.int (0 : Int32))] [(.ref b2), (.int x1)])
  refine own_iloadN X0 hx (hb hby own_d8_19) rfl ?_
  show own_E p e below _ s₁ (mkF m 20 #[.val (.ref b1), .val (.ref b2), .val (.int (0 : Int32))] [(.int (0 : Int32)), (.ref b2), (.int x1)])
  obtain ⟨c36, B36, q36, S36, M36, H36, U36⟩ := id V2
  have i36 := inb_of (j := (0 : Int32)) S36 ⟨by decide, by decide⟩
  refine own_baload X0 hx hZ e0 B36 (v := (.int x2)) i36 (H36.at i36 rfl) (hb hby own_d8_20) ?_
  show own_E p e below _ s₁ (mkF m 21 #[.val (.ref b1), .val (.ref b2), .val (.int (0 : Int32))] [(.int x2), (.int x1)])
  by_cases hx12 : x1 = x2
  · skip
    refine own_icmpYes X0 hx (hb hby own_d8_21) (XT.ii_eq_t hx12) 26 (by decide) (by decide) ?_
    show own_E p e below _ s₁ (mkF m 26 #[.val (.ref b1), .val (.ref b2), .val (.int (0 : Int32))] [])
    refine own_iinc X0 hx (hb hby own_d8_26) rfl (z := (1 : Int32)) (by decide +kernel) (l' := #[.val (.ref b1), .val (.ref b2), .val (.int (1 : Int32))]) rfl ?_
    show own_E p e below _ s₁ (mkF m 29 #[.val (.ref b1), .val (.ref b2), .val (.int (1 : Int32))] [])
    refine own_goto X0 hx (hb hby own_d8_29) 9 (by decide) (by decide) ?_
    show own_E p e below _ s₁ (mkF m 9 #[.val (.ref b1), .val (.ref b2), .val (.int (1 : Int32))] [])
    refine own_iloadN X0 hx (hb hby own_d8_9) rfl ?_
    show own_E p e below _ s₁ (mkF m 10 #[.val (.ref b1), .val (.ref b2), .val (.int (1 : Int32))] [(.int (1 : Int32))])
    refine own_aloadN X0 hx (hb hby own_d8_10) rfl rfl ?_
    show own_E p e below _ s₁ (mkF m 11 #[.val (.ref b1), .val (.ref b2), .val (.int (1 : Int32))] [(.ref b1), (.int (1 : Int32))])
    obtain ⟨c37, B37, q37, S37, M37, H37, U37⟩ := id V1
    refine own_alen X0 hx hZ e0 B37 (z := (1 : Int32)) (len_of S37 M37) (hb hby own_d8_11) ?_
    show own_E p e below _ s₁ (mkF m 12 #[.val (.ref b1), .val (.ref b2), .val (.int (1 : Int32))] [(.int (1 : Int32)), (.int (1 : Int32))])
    refine own_icmpYes X0 hx (hb hby own_d8_12) (by decide +kernel) 32 (by decide) (by decide) ?_
    show own_E p e below _ s₁ (mkF m 32 #[.val (.ref b1), .val (.ref b2), .val (.int (1 : Int32))] [])
    refine own_iconst X0 hx (hb hby own_d8_32) (v := (1 : Int32)) (by decide) ?_
    show own_E p e below _ s₁ (mkF m 33 #[.val (.ref b1), .val (.ref b2), .val (.int (1 : Int32))] [(.int (1 : Int32))])
    refine own_retN X0 hx (t := .boolean) Bd.returns (by simp) hlk (hb hby own_d8_33) (z' := (1 : Int32)) (by decide) (by decide) (by decide) ?_
    rw [e0]
    exact ⟨by rw [if_pos hx12], N0, rfl⟩
  · skip
    refine own_icmpNo X0 hx (hb hby own_d8_21) (XT.ii_eq_f hx12) ?_
    show own_E p e below _ s₁ (mkF m 24 #[.val (.ref b1), .val (.ref b2), .val (.int (0 : Int32))] [])
    refine own_iconst X0 hx (hb hby own_d8_24) (v := (0 : Int32)) (by decide) ?_
    show own_E p e below _ s₁ (mkF m 25 #[.val (.ref b1), .val (.ref b2), .val (.int (0 : Int32))] [(.int (0 : Int32))])
    refine own_retN X0 hx (t := .boolean) Bd.returns (by simp) hlk (hb hby own_d8_25) (z' := (0 : Int32)) (by decide) (by decide) (by decide) ?_
    rw [e0]
    exact ⟨by rw [if_neg hx12], N0, rfl⟩

theorem own_ef10 (m : MethodId) (x0 : Addr) (x1 : Addr) : entryFrame m #[(.ref x0), (.ref x1)] 3 = mkF m 0 #[.val (.ref x0), .val (.ref x1), .unset] [] := by first | (simp [entryFrame, mkF, argsToLocals, Value.category]; done) | rfl
theorem own_d8_34 : decode jdk_43_method_13_code 34 = .ok (.iconst 0, 1) := by decide +kernel
theorem own_d8_35 : decode jdk_43_method_13_code 35 = .ok (.ireturn, 1) := by decide +kernel
set_option maxRecDepth 65536 in
set_option maxHeartbeats 40000000 in
theorem own_rmLE10 (l : Launch) (Z : State) (a0 : Array Value) (hw : ∀ d ∈ tables_1, d.before a0 Z = true) (ws : List Jvm.Cond) (b1 b2 : Addr) (k1 k2 : ClassId) (x1 x2 : Int32) (h0 : Heap) (n0 : Nat) (Z0 : n0 ≤ h0.size) (V1 : Arv Z h0 b1 k1 .byte (1 : Int32) [.int x1] (.int (0 : Int32))) (V2 : Arv Z h0 b2 k2 .byte (0 : Int32) [] (.int (0 : Int32))) :
    MetFree l (⟨"java/lang/StringLatin1", "equals", "([B[B)Z"⟩ : MethodName) (head1 (Jvm.Cond.code (⟨"java/lang/StringLatin1", "equals", "([B[B)Z"⟩ : MethodName) jdk_43_method_13_code 3 (some .boolean) :: ws) ({ frames := 0, cells := 0, slots := 0, locals := 0 } : Room)) (fun a U => a = #[(.ref b1), (.ref b2)] ∧ Z.Warmed39 U.vm ∧ U.heap = h0) (fun _ _ _ _ _ => True) (fun _ U o U' => ∃ v L, o = .returned v ∧ own_Q (.int (0 : Int32)) h0 n0 v U'.heap L ∧ FrameEnd U o U' L ({ frames := 0, cells := 0, slots := 0, locals := 0 } : Room).cells ({ frames := 0, cells := 0, slots := 0, locals := 0 } : Room).slots) := by
  refine MetFree.of_bodySF (plainFor_of_name own_pn4) hisR ?_
  intro p e s m args below meth c s₁ Bd hml0 hP hK
  obtain ⟨rfl, hZ, hh⟩ := hP
  have hx := Bd.exec
  have hby := Bd.bytes
  have hlk : meth.locks = false := Bd.notSynchronized
  have hml : c.maxLocals = 3 := hml0
  have hown : s.vm.findClass "java/lang/StringLatin1" = some m.cls := findClass_of_methodNamed Bd.named
  have hnm := (name_of_methodNamed Bd.named Bd.method).1
  have X0 : Stand p l e ({ frames := 0, cells := 0, slots := 0, locals := 0 } : Room) s m #[(.ref b1), (.ref b2)] below meth c s₁ [] 0 0 := Stand.of_body Bd
  have e0 : s₁.heap = h0 := by rw [← hh, Bd.state]; rfl
  have N0 := Fr.nil n0
  show own_E p e below (own_P s (own_Q (.int (0 : Int32)) h0 n0) ({ frames := 0, cells := 0, slots := 0, locals := 0 } : Room).cells ({ frames := 0, cells := 0, slots := 0, locals := 0 } : Room).slots) s₁ (entryFrame m #[(.ref b1), (.ref b2)] 3)
  refine own_cast (own_ef10 m b1 b2) ?_
  have lt38 := own_lt (V1).lt
  have lt39 := own_lt (V2).lt
  show own_E p e below _ s₁ (mkF m 0 #[.val (.ref b1), .val (.ref b2), .unset] [])
  refine own_aloadN X0 hx (hb hby own_d8_0) rfl rfl ?_
  show own_E p e below _ s₁ (mkF m 1 #[.val (.ref b1), .val (.ref b2), .unset] [(.ref b1)])
  obtain ⟨c40, B40, q40, S40, M40, H40, U40⟩ := id V1
  refine own_alen X0 hx hZ e0 B40 (z := (1 : Int32)) (len_of S40 M40) (hb hby own_d8_1) ?_
  show own_E p e below _ s₁ (mkF m 2 #[.val (.ref b1), .val (.ref b2), .unset] [(.int (1 : Int32))])
  refine own_aloadN X0 hx (hb hby own_d8_2) rfl rfl ?_
  show own_E p e below _ s₁ (mkF m 3 #[.val (.ref b1), .val (.ref b2), .unset] [(.ref b2), (.int (1 : Int32))])
  obtain ⟨c41, B41, q41, S41, M41, H41, U41⟩ := id V2
  refine own_alen X0 hx hZ e0 B41 (z := (0 : Int32)) (len_of S41 M41) (hb hby own_d8_3) ?_
  show own_E p e below _ s₁ (mkF m 4 #[.val (.ref b1), .val (.ref b2), .unset] [(.int (0 : Int32)), (.int (1 : Int32))])
  refine own_icmpYes X0 hx (hb hby own_d8_4) (by decide +kernel) 34 (by decide) (by decide) ?_
  show own_E p e below _ s₁ (mkF m 34 #[.val (.ref b1), .val (.ref b2), .unset] [])
  refine own_iconst X0 hx (hb hby own_d8_34) (v := (0 : Int32)) (by decide) ?_
  show own_E p e below _ s₁ (mkF m 35 #[.val (.ref b1), .val (.ref b2), .unset] [(.int (0 : Int32))])
  refine own_retN X0 hx (t := .boolean) Bd.returns (by simp) hlk (hb hby own_d8_35) (z' := (0 : Int32)) (by decide) (by decide) (by decide) ?_
  rw [e0]
  exact ⟨rfl, N0, rfl⟩

theorem own_ef11 (m : MethodId) (x0 : Addr) (x1 : Addr) : entryFrame m #[(.ref x0), (.ref x1)] 3 = mkF m 0 #[.val (.ref x0), .val (.ref x1), .unset] [] := by first | (simp [entryFrame, mkF, argsToLocals, Value.category]; done) | rfl
set_option maxRecDepth 65536 in
set_option maxHeartbeats 40000000 in
theorem own_rmLE01 (l : Launch) (Z : State) (a0 : Array Value) (hw : ∀ d ∈ tables_1, d.before a0 Z = true) (ws : List Jvm.Cond) (b1 b2 : Addr) (k1 k2 : ClassId) (x1 x2 : Int32) (h0 : Heap) (n0 : Nat) (Z0 : n0 ≤ h0.size) (V1 : Arv Z h0 b1 k1 .byte (0 : Int32) [] (.int (0 : Int32))) (V2 : Arv Z h0 b2 k2 .byte (1 : Int32) [.int x2] (.int (0 : Int32))) :
    MetFree l (⟨"java/lang/StringLatin1", "equals", "([B[B)Z"⟩ : MethodName) (head1 (Jvm.Cond.code (⟨"java/lang/StringLatin1", "equals", "([B[B)Z"⟩ : MethodName) jdk_43_method_13_code 3 (some .boolean) :: ws) ({ frames := 0, cells := 0, slots := 0, locals := 0 } : Room)) (fun a U => a = #[(.ref b1), (.ref b2)] ∧ Z.Warmed39 U.vm ∧ U.heap = h0) (fun _ _ _ _ _ => True) (fun _ U o U' => ∃ v L, o = .returned v ∧ own_Q (.int (0 : Int32)) h0 n0 v U'.heap L ∧ FrameEnd U o U' L ({ frames := 0, cells := 0, slots := 0, locals := 0 } : Room).cells ({ frames := 0, cells := 0, slots := 0, locals := 0 } : Room).slots) := by
  refine MetFree.of_bodySF (plainFor_of_name own_pn4) hisR ?_
  intro p e s m args below meth c s₁ Bd hml0 hP hK
  obtain ⟨rfl, hZ, hh⟩ := hP
  have hx := Bd.exec
  have hby := Bd.bytes
  have hlk : meth.locks = false := Bd.notSynchronized
  have hml : c.maxLocals = 3 := hml0
  have hown : s.vm.findClass "java/lang/StringLatin1" = some m.cls := findClass_of_methodNamed Bd.named
  have hnm := (name_of_methodNamed Bd.named Bd.method).1
  have X0 : Stand p l e ({ frames := 0, cells := 0, slots := 0, locals := 0 } : Room) s m #[(.ref b1), (.ref b2)] below meth c s₁ [] 0 0 := Stand.of_body Bd
  have e0 : s₁.heap = h0 := by rw [← hh, Bd.state]; rfl
  have N0 := Fr.nil n0
  show own_E p e below (own_P s (own_Q (.int (0 : Int32)) h0 n0) ({ frames := 0, cells := 0, slots := 0, locals := 0 } : Room).cells ({ frames := 0, cells := 0, slots := 0, locals := 0 } : Room).slots) s₁ (entryFrame m #[(.ref b1), (.ref b2)] 3)
  refine own_cast (own_ef11 m b1 b2) ?_
  have lt42 := own_lt (V1).lt
  have lt43 := own_lt (V2).lt
  show own_E p e below _ s₁ (mkF m 0 #[.val (.ref b1), .val (.ref b2), .unset] [])
  refine own_aloadN X0 hx (hb hby own_d8_0) rfl rfl ?_
  show own_E p e below _ s₁ (mkF m 1 #[.val (.ref b1), .val (.ref b2), .unset] [(.ref b1)])
  obtain ⟨c44, B44, q44, S44, M44, H44, U44⟩ := id V1
  refine own_alen X0 hx hZ e0 B44 (z := (0 : Int32)) (len_of S44 M44) (hb hby own_d8_1) ?_
  show own_E p e below _ s₁ (mkF m 2 #[.val (.ref b1), .val (.ref b2), .unset] [(.int (0 : Int32))])
  refine own_aloadN X0 hx (hb hby own_d8_2) rfl rfl ?_
  show own_E p e below _ s₁ (mkF m 3 #[.val (.ref b1), .val (.ref b2), .unset] [(.ref b2), (.int (0 : Int32))])
  obtain ⟨c45, B45, q45, S45, M45, H45, U45⟩ := id V2
  refine own_alen X0 hx hZ e0 B45 (z := (1 : Int32)) (len_of S45 M45) (hb hby own_d8_3) ?_
  show own_E p e below _ s₁ (mkF m 4 #[.val (.ref b1), .val (.ref b2), .unset] [(.int (1 : Int32)), (.int (0 : Int32))])
  refine own_icmpYes X0 hx (hb hby own_d8_4) (by decide +kernel) 34 (by decide) (by decide) ?_
  show own_E p e below _ s₁ (mkF m 34 #[.val (.ref b1), .val (.ref b2), .unset] [])
  refine own_iconst X0 hx (hb hby own_d8_34) (v := (0 : Int32)) (by decide) ?_
  show own_E p e below _ s₁ (mkF m 35 #[.val (.ref b1), .val (.ref b2), .unset] [(.int (0 : Int32))])
  refine own_retN X0 hx (t := .boolean) Bd.returns (by simp) hlk (hb hby own_d8_35) (z' := (0 : Int32)) (by decide) (by decide) (by decide) ?_
  rw [e0]
  exact ⟨rfl, N0, rfl⟩

theorem own_ef12 (m : MethodId) (x0 : Addr) (x1 : Addr) : entryFrame m #[(.ref x0), (.ref x1)] 3 = mkF m 0 #[.val (.ref x0), .val (.ref x1), .unset] [] := by first | (simp [entryFrame, mkF, argsToLocals, Value.category]; done) | rfl
set_option maxRecDepth 65536 in
set_option maxHeartbeats 40000000 in
theorem own_rmLE00 (l : Launch) (Z : State) (a0 : Array Value) (hw : ∀ d ∈ tables_1, d.before a0 Z = true) (ws : List Jvm.Cond) (b1 b2 : Addr) (k1 k2 : ClassId) (x1 x2 : Int32) (h0 : Heap) (n0 : Nat) (Z0 : n0 ≤ h0.size) (V1 : Arv Z h0 b1 k1 .byte (0 : Int32) [] (.int (0 : Int32))) (V2 : Arv Z h0 b2 k2 .byte (0 : Int32) [] (.int (0 : Int32))) :
    MetFree l (⟨"java/lang/StringLatin1", "equals", "([B[B)Z"⟩ : MethodName) (head1 (Jvm.Cond.code (⟨"java/lang/StringLatin1", "equals", "([B[B)Z"⟩ : MethodName) jdk_43_method_13_code 3 (some .boolean) :: ws) ({ frames := 0, cells := 0, slots := 0, locals := 0 } : Room)) (fun a U => a = #[(.ref b1), (.ref b2)] ∧ Z.Warmed39 U.vm ∧ U.heap = h0) (fun _ _ _ _ _ => True) (fun _ U o U' => ∃ v L, o = .returned v ∧ own_Q (.int (1 : Int32)) h0 n0 v U'.heap L ∧ FrameEnd U o U' L ({ frames := 0, cells := 0, slots := 0, locals := 0 } : Room).cells ({ frames := 0, cells := 0, slots := 0, locals := 0 } : Room).slots) := by
  refine MetFree.of_bodySF (plainFor_of_name own_pn4) hisR ?_
  intro p e s m args below meth c s₁ Bd hml0 hP hK
  obtain ⟨rfl, hZ, hh⟩ := hP
  have hx := Bd.exec
  have hby := Bd.bytes
  have hlk : meth.locks = false := Bd.notSynchronized
  have hml : c.maxLocals = 3 := hml0
  have hown : s.vm.findClass "java/lang/StringLatin1" = some m.cls := findClass_of_methodNamed Bd.named
  have hnm := (name_of_methodNamed Bd.named Bd.method).1
  have X0 : Stand p l e ({ frames := 0, cells := 0, slots := 0, locals := 0 } : Room) s m #[(.ref b1), (.ref b2)] below meth c s₁ [] 0 0 := Stand.of_body Bd
  have e0 : s₁.heap = h0 := by rw [← hh, Bd.state]; rfl
  have N0 := Fr.nil n0
  show own_E p e below (own_P s (own_Q (.int (1 : Int32)) h0 n0) ({ frames := 0, cells := 0, slots := 0, locals := 0 } : Room).cells ({ frames := 0, cells := 0, slots := 0, locals := 0 } : Room).slots) s₁ (entryFrame m #[(.ref b1), (.ref b2)] 3)
  refine own_cast (own_ef12 m b1 b2) ?_
  have lt46 := own_lt (V1).lt
  have lt47 := own_lt (V2).lt
  show own_E p e below _ s₁ (mkF m 0 #[.val (.ref b1), .val (.ref b2), .unset] [])
  refine own_aloadN X0 hx (hb hby own_d8_0) rfl rfl ?_
  show own_E p e below _ s₁ (mkF m 1 #[.val (.ref b1), .val (.ref b2), .unset] [(.ref b1)])
  obtain ⟨c48, B48, q48, S48, M48, H48, U48⟩ := id V1
  refine own_alen X0 hx hZ e0 B48 (z := (0 : Int32)) (len_of S48 M48) (hb hby own_d8_1) ?_
  show own_E p e below _ s₁ (mkF m 2 #[.val (.ref b1), .val (.ref b2), .unset] [(.int (0 : Int32))])
  refine own_aloadN X0 hx (hb hby own_d8_2) rfl rfl ?_
  show own_E p e below _ s₁ (mkF m 3 #[.val (.ref b1), .val (.ref b2), .unset] [(.ref b2), (.int (0 : Int32))])
  obtain ⟨c49, B49, q49, S49, M49, H49, U49⟩ := id V2
  refine own_alen X0 hx hZ e0 B49 (z := (0 : Int32)) (len_of S49 M49) (hb hby own_d8_3) ?_
  show own_E p e below _ s₁ (mkF m 4 #[.val (.ref b1), .val (.ref b2), .unset] [(.int (0 : Int32)), (.int (0 : Int32))])
  refine own_icmpNo X0 hx (hb hby own_d8_4) (by decide +kernel) ?_
  show own_E p e below _ s₁ (mkF m 7 #[.val (.ref b1), .val (.ref b2), .unset] [])
  refine own_iconst X0 hx (hb hby own_d8_7) (v := (0 : Int32)) (by decide) ?_
  show own_E p e below _ s₁ (mkF m 8 #[.val (.ref b1), .val (.ref b2), .unset] [(.int (0 : Int32))])
  refine own_istoreN X0 hx (hb hby own_d8_8) (l' := #[.val (.ref b1), .val (.ref b2), .val (.int (0 : Int32))]) rfl ?_
  show own_E p e below _ s₁ (mkF m 9 #[.val (.ref b1), .val (.ref b2), .val (.int (0 : Int32))] [])
  refine own_iloadN X0 hx (hb hby own_d8_9) rfl ?_
  show own_E p e below _ s₁ (mkF m 10 #[.val (.ref b1), .val (.ref b2), .val (.int (0 : Int32))] [(.int (0 : Int32))])
  refine own_aloadN X0 hx (hb hby own_d8_10) rfl rfl ?_
  show own_E p e below _ s₁ (mkF m 11 #[.val (.ref b1), .val (.ref b2), .val (.int (0 : Int32))] [(.ref b1), (.int (0 : Int32))])
  obtain ⟨c50, B50, q50, S50, M50, H50, U50⟩ := id V1
  refine own_alen X0 hx hZ e0 B50 (z := (0 : Int32)) (len_of S50 M50) (hb hby own_d8_11) ?_
  show own_E p e below _ s₁ (mkF m 12 #[.val (.ref b1), .val (.ref b2), .val (.int (0 : Int32))] [(.int (0 : Int32)), (.int (0 : Int32))])
  refine own_icmpYes X0 hx (hb hby own_d8_12) (by decide +kernel) 32 (by decide) (by decide) ?_
  show own_E p e below _ s₁ (mkF m 32 #[.val (.ref b1), .val (.ref b2), .val (.int (0 : Int32))] [])
  refine own_iconst X0 hx (hb hby own_d8_32) (v := (1 : Int32)) (by decide) ?_
  show own_E p e below _ s₁ (mkF m 33 #[.val (.ref b1), .val (.ref b2), .val (.int (0 : Int32))] [(.int (1 : Int32))])
  refine own_retN X0 hx (t := .boolean) Bd.returns (by simp) hlk (hb hby own_d8_33) (z' := (1 : Int32)) (by decide) (by decide) (by decide) ?_
  rw [e0]
  exact ⟨rfl, N0, rfl⟩

theorem own_ef13 (m : MethodId) (x0 : Addr) (x1 : Addr) : entryFrame m #[(.ref x0), (.ref x1)] 3 = mkF m 0 #[.val (.ref x0), .val (.ref x1), .unset] [] := by first | (simp [entryFrame, mkF, argsToLocals, Value.category]; done) | rfl
theorem own_d9_0 : decode jdk_42_method_66_code 0 = .ok (.aload_n 0, 1) := by decide +kernel
theorem own_d9_1 : decode jdk_42_method_66_code 1 = .ok (.aload_n 1, 1) := by decide +kernel
theorem own_d9_2 : decode jdk_42_method_66_code 2 = .ok (.if_acmp .ne 5, 3) := by decide +kernel
theorem own_d9_5 : decode jdk_42_method_66_code 5 = .ok (.iconst 1, 1) := by decide +kernel
theorem own_d9_6 : decode jdk_42_method_66_code 6 = .ok (.ireturn, 1) := by decide +kernel
theorem own_d9_7 : decode jdk_42_method_66_code 7 = .ok (.aload_n 1, 1) := by decide +kernel
theorem own_d9_8 : decode jdk_42_method_66_code 8 = .ok (.instanceof 10, 3) := by decide +kernel
theorem own_d9_11 : decode jdk_42_method_66_code 11 = .ok (.ifCond .eq 43, 3) := by decide +kernel
theorem own_d9_14 : decode jdk_42_method_66_code 14 = .ok (.aload_n 1, 1) := by decide +kernel
theorem own_d9_15 : decode jdk_42_method_66_code 15 = .ok (.checkcast 10, 3) := by decide +kernel
theorem own_d9_18 : decode jdk_42_method_66_code 18 = .ok (.astore_n 2, 1) := by decide +kernel
theorem own_d9_19 : decode jdk_42_method_66_code 19 = .ok (.getstatic 38, 3) := by decide +kernel
theorem own_d9_22 : decode jdk_42_method_66_code 22 = .ok (.ifCond .eq 14, 3) := by decide +kernel
theorem own_d9_25 : decode jdk_42_method_66_code 25 = .ok (.aload_n 0, 1) := by decide +kernel
theorem own_d9_26 : decode jdk_42_method_66_code 26 = .ok (.getfield 15, 3) := by decide +kernel
theorem own_d9_29 : decode jdk_42_method_66_code 29 = .ok (.aload_n 2, 1) := by decide +kernel
theorem own_d9_30 : decode jdk_42_method_66_code 30 = .ok (.getfield 15, 3) := by decide +kernel
theorem own_d9_33 : decode jdk_42_method_66_code 33 = .ok (.if_icmp .ne 21, 3) := by decide +kernel
theorem own_d9_36 : decode jdk_42_method_66_code 36 = .ok (.aload_n 0, 1) := by decide +kernel
theorem own_d9_37 : decode jdk_42_method_66_code 37 = .ok (.getfield 9, 3) := by decide +kernel
theorem own_d9_40 : decode jdk_42_method_66_code 40 = .ok (.aload_n 2, 1) := by decide +kernel
theorem own_d9_41 : decode jdk_42_method_66_code 41 = .ok (.getfield 9, 3) := by decide +kernel
theorem own_pd4 : parseMethodDescriptor "([B[B)Z" = some ⟨[(.array .byte), (.array .byte)], some .boolean⟩ := by decide +kernel
theorem own_d9_44 : decode jdk_42_method_66_code 44 = .ok (.invokestatic 541, 3) := by decide +kernel
theorem own_d9_47 : decode jdk_42_method_66_code 47 = .ok (.ifCond .eq 7, 3) := by decide +kernel
theorem own_d9_50 : decode jdk_42_method_66_code 50 = .ok (.iconst 1, 1) := by decide +kernel
theorem own_d9_51 : decode jdk_42_method_66_code 51 = .ok (.goto 4, 3) := by decide +kernel
theorem own_d9_55 : decode jdk_42_method_66_code 55 = .ok (.ireturn, 1) := by decide +kernel
theorem own_d9_54 : decode jdk_42_method_66_code 54 = .ok (.iconst 0, 1) := by decide +kernel
set_option maxRecDepth 65536 in
set_option maxHeartbeats 40000000 in
theorem own_rmEQ (l : Launch) (Z : State) (a0 : Array Value) (hw : ∀ d ∈ tables_1, d.before a0 Z = true) (ws : List Jvm.Cond) (a1 a2 : Addr) (e1 x1 e2 x2 G1 : Int32) (h0 : Heap) (n0 : Nat) (Z0 : n0 ≤ h0.size) (O0 : Old Z n0 h0) (SC : Sta Z Z.heap "java/lang/String" "COMPACT_STRINGS" "Z" (.int G1)) (P1 : ¬ G1 = 0) (F1 : own_S Z h0 a1 e1 x1) (F2 : own_S Z h0 a2 e2 x2) (he1 : e1 = 0 ∨ e1 = 1) (he2 : e2 = 0 ∨ e2 = 1) :
    MetFree l (⟨"java/lang/String", "equals", "(Ljava/lang/Object;)Z"⟩ : MethodName) (head1 (Jvm.Cond.code (⟨"java/lang/String", "equals", "(Ljava/lang/Object;)Z"⟩ : MethodName) jdk_42_method_66_code 3 (some .boolean) :: ws) ({ frames := 1, cells := 0, slots := 0, locals := 20 } : Room)) (fun a U => a = #[(.ref a1), (.ref a2)] ∧ Z.Warmed39 U.vm ∧ U.heap = h0) (fun _ _ _ _ _ => True) (fun _ U o U' => ∃ v L, o = .returned v ∧ own_Q (.int (own_seq e1 x1 e2 x2)) h0 n0 v U'.heap L ∧ FrameEnd U o U' L ({ frames := 1, cells := 0, slots := 0, locals := 20 } : Room).cells ({ frames := 1, cells := 0, slots := 0, locals := 20 } : Room).slots) := by
  refine MetFree.of_bodySF (plainFor_of_name own_pn5) hisR ?_
  intro p e s m args below meth c s₁ Bd hml0 hP hK
  obtain ⟨rfl, hZ, hh⟩ := hP
  have hx := Bd.exec
  have hby := Bd.bytes
  have hlk : meth.locks = false := Bd.notSynchronized
  have hml : c.maxLocals = 3 := hml0
  have hown : s.vm.findClass "java/lang/String" = some m.cls := findClass_of_methodNamed Bd.named
  have hnm := (name_of_methodNamed Bd.named Bd.method).1
  have X0 : Stand p l e ({ frames := 1, cells := 0, slots := 0, locals := 20 } : Room) s m #[(.ref a1), (.ref a2)] below meth c s₁ [] 0 0 := Stand.of_body Bd
  have e0 : s₁.heap = h0 := by rw [← hh, Bd.state]; rfl
  have N0 := Fr.nil n0
  show own_E p e below (own_P s (own_Q (.int (own_seq e1 x1 e2 x2)) h0 n0) ({ frames := 1, cells := 0, slots := 0, locals := 20 } : Room).cells ({ frames := 1, cells := 0, slots := 0, locals := 20 } : Room).slots) s₁ (entryFrame m #[(.ref a1), (.ref a2)] 3)
  refine own_cast (own_ef13 m a1 a2) ?_
  have od51 := (O0).1
  have lt52 := own_lt ((own_Sx F1)).lt
  have lt53 := own_lt ((own_Sx F2)).lt
  show own_E p e below _ s₁ (mkF m 0 #[.val (.ref a1), .val (.ref a2), .unset] [])
  refine own_aloadN X0 hx (hb hby own_d9_0) rfl rfl ?_
  show own_E p e below _ s₁ (mkF m 1 #[.val (.ref a1), .val (.ref a2), .unset] [(.ref a1)])
  refine own_aloadN X0 hx (hb hby own_d9_1) rfl rfl ?_
  show own_E p e below _ s₁ (mkF m 2 #[.val (.ref a1), .val (.ref a2), .unset] [(.ref a2), (.ref a1)])
  by_cases hab : a1 = a2
  · skip
    refine own_acmpNo X0 hx (hb hby own_d9_2) rfl rfl (by decide) (XT.aa_ne_f (congrArg Value.ref hab)) ?_
    show own_E p e below _ s₁ (mkF m 5 #[.val (.ref a1), .val (.ref a2), .unset] [])
    refine own_iconst X0 hx (hb hby own_d9_5) (v := (1 : Int32)) (by decide) ?_
    show own_E p e below _ s₁ (mkF m 6 #[.val (.ref a1), .val (.ref a2), .unset] [(.int (1 : Int32))])
    subst hab
    refine own_retN X0 hx (t := .boolean) Bd.returns (by simp) hlk (hb hby own_d9_6) (z' := (1 : Int32)) (by decide) (by decide) (by decide) ?_
    rw [e0]
    exact ⟨by rw [own_same F1 F2 he1 he2], N0, rfl⟩
  · skip
    refine own_acmpYes X0 hx (hb hby own_d9_2) rfl rfl (XT.aa_ne_t (fun q => hab (Value.ref.inj q))) 7 (by decide) (by decide) ?_
    show own_E p e below _ s₁ (mkF m 7 #[.val (.ref a1), .val (.ref a2), .unset] [])
    refine own_aloadN X0 hx (hb hby own_d9_7) rfl rfl ?_
    show own_E p e below _ s₁ (mkF m 8 #[.val (.ref a1), .val (.ref a2), .unset] [(.ref a2)])
    obtain ⟨T54, X54, e54, st54⟩ := instY X0 hx hZ hown (own_w hw 9 rfl) e0 (Ins.self (own_Sx F2)) (g := (mkF m 8 #[.val (.ref a1), .val (.ref a2), .unset] [(.ref a2)])) rfl rfl (hb hby own_d9_8)
    refine own_go st54 ?_
    show own_E p e below _ T54 (mkF m 11 #[.val (.ref a1), .val (.ref a2), .unset] [(.int (1 : Int32))])
    refine own_ifNo X54 hx (hb hby own_d9_11) (by decide +kernel) ?_
    show own_E p e below _ T54 (mkF m 14 #[.val (.ref a1), .val (.ref a2), .unset] [])
    refine own_aloadN X54 hx (hb hby own_d9_14) rfl rfl ?_
    show own_E p e below _ T54 (mkF m 15 #[.val (.ref a1), .val (.ref a2), .unset] [(.ref a2)])
    obtain ⟨T55, X55, e55, st55⟩ := castY X54 hx hZ hown (own_w hw 9 rfl) e54 (Ins.self (own_Sx F2)) (g := (mkF m 15 #[.val (.ref a1), .val (.ref a2), .unset] [(.ref a2)])) rfl rfl (hb hby own_d9_15)
    refine own_go st55 ?_
    show own_E p e below _ T55 (mkF m 18 #[.val (.ref a1), .val (.ref a2), .unset] [(.ref a2)])
    refine own_astoreN X55 hx (hb hby own_d9_18) rfl (l' := #[.val (.ref a1), .val (.ref a2), .val (.ref a2)]) rfl ?_
    show own_E p e below _ T55 (mkF m 19 #[.val (.ref a1), .val (.ref a2), .val (.ref a2)] [])
    obtain ⟨T56, X56, e56, st56⟩ := getS2 X55 hx hZ hown (host := "") (Or.inl (own_w hw 4 rfl)) Via.refl e55 (SC.ext (O0).2) (g := (mkF m 19 #[.val (.ref a1), .val (.ref a2), .val (.ref a2)] [])) rfl (hb hby own_d9_19)
    refine own_go st56 ?_
    show own_E p e below _ T56 (mkF m 22 #[.val (.ref a1), .val (.ref a2), .val (.ref a2)] [(.int G1)])
    refine own_ifNo X56 hx (hb hby own_d9_22) (XT.i0_eq_f P1) ?_
    show own_E p e below _ T56 (mkF m 25 #[.val (.ref a1), .val (.ref a2), .val (.ref a2)] [])
    obtain ⟨b1, k1, -, c1, v1, r1⟩ := F1
    obtain ⟨b2, k2, -, c2, v2, r2⟩ := F2
    refine own_aloadN X56 hx (hb hby own_d9_25) rfl rfl ?_
    show own_E p e below _ T56 (mkF m 26 #[.val (.ref a1), .val (.ref a2), .val (.ref a2)] [(.ref a1)])
    obtain ⟨T57, X57, e57, st57⟩ := getF X56 hx hZ hown (host := "") (Or.inl (own_w hw 24 rfl)) Via.refl e56 c1 (g := (mkF m 26 #[.val (.ref a1), .val (.ref a2), .val (.ref a2)] [(.ref a1)])) rfl rfl (hb hby own_d9_26)
    refine own_go st57 ?_
    show own_E p e below _ T57 (mkF m 29 #[.val (.ref a1), .val (.ref a2), .val (.ref a2)] [(.int (0 : Int32))])
    refine own_aloadN X57 hx (hb hby own_d9_29) rfl rfl ?_
    show own_E p e below _ T57 (mkF m 30 #[.val (.ref a1), .val (.ref a2), .val (.ref a2)] [(.ref a2), (.int (0 : Int32))])
    obtain ⟨T58, X58, e58, st58⟩ := getF X57 hx hZ hown (host := "") (Or.inl (own_w hw 24 rfl)) Via.refl e57 c2 (g := (mkF m 30 #[.val (.ref a1), .val (.ref a2), .val (.ref a2)] [(.ref a2), (.int (0 : Int32))])) rfl rfl (hb hby own_d9_30)
    refine own_go st58 ?_
    show own_E p e below _ T58 (mkF m 33 #[.val (.ref a1), .val (.ref a2), .val (.ref a2)] [(.int (0 : Int32)), (.int (0 : Int32))])
    refine own_icmpNo X58 hx (hb hby own_d9_33) (by decide +kernel) ?_
    show own_E p e below _ T58 (mkF m 36 #[.val (.ref a1), .val (.ref a2), .val (.ref a2)] [])
    refine own_aloadN X58 hx (hb hby own_d9_36) rfl rfl ?_
    show own_E p e below _ T58 (mkF m 37 #[.val (.ref a1), .val (.ref a2), .val (.ref a2)] [(.ref a1)])
    obtain ⟨T59, X59, e59, st59⟩ := getF X58 hx hZ hown (host := "") (Or.inl (own_w hw 22 rfl)) Via.refl e58 v1 (g := (mkF m 37 #[.val (.ref a1), .val (.ref a2), .val (.ref a2)] [(.ref a1)])) rfl rfl (hb hby own_d9_37)
    refine own_go st59 ?_
    show own_E p e below _ T59 (mkF m 40 #[.val (.ref a1), .val (.ref a2), .val (.ref a2)] [(.ref b1)])
    refine own_aloadN X59 hx (hb hby own_d9_40) rfl rfl ?_
    show own_E p e below _ T59 (mkF m 41 #[.val (.ref a1), .val (.ref a2), .val (.ref a2)] [(.ref a2), (.ref b1)])
    obtain ⟨T60, X60, e60, st60⟩ := getF X59 hx hZ hown (host := "") (Or.inl (own_w hw 22 rfl)) Via.refl e59 v2 (g := (mkF m 41 #[.val (.ref a1), .val (.ref a2), .val (.ref a2)] [(.ref a2), (.ref b1)])) rfl rfl (hb hby own_d9_41)
    refine own_go st60 ?_
    show own_E p e below _ T60 (mkF m 44 #[.val (.ref a1), .val (.ref a2), .val (.ref a2)] [(.ref b2), (.ref b1)])
    rcases he1 with rfl | rfl
    · skip
      rcases he2 with rfl | rfl
      · skip
        have r1' : Arv Z h0 b1 k1 .byte (1 : Int32) [.int x1] (.int (0 : Int32)) := r1
        have r2' : Arv Z h0 b2 k2 .byte (1 : Int32) [.int x2] (.int (0 : Int32)) := r2
        obtain ⟨_, _, ⟨T61, L61, k61, n61⟩, -, X61, ⟨Lc61, hQ61, l61, y61, z61⟩, st61⟩ := Jvm.LawKit.callS X60 hx (y := (⟨"java/lang/StringLatin1", "equals", "([B[B)Z"⟩ : MethodName)) hown (mvT hZ (own_w hw 195 rfl)) (mvT hZ (own_w hw 196 rfl)) (mvT hZ (own_w hw 7 rfl)) (mvT hZ (own_w hw 197 rfl)) (by decide) (backOf (W := 0) (own_rmLE11 l Z a0 hw [] b1 b2 k1 k2 x1 x2 h0 n0 Z0 r1' r2') hZ (own_w hw 197 rfl) (own_w hw 7 rfl) (by decide) (by decide)) (g := (mkF m 44 #[.val (.ref a1), .val (.ref a2), .val (.ref a2)] [(.ref b2), (.ref b1)])) rfl (by rw [hml]; rfl) (argsL := [(.ref b1), (.ref b2)]) (rest := []) (lenOf own_pd4 rfl) rfl (by show 2 * 0 + _ ≤ _; exact Nat.le_of_eq rfl) (hb hby own_d9_44) (fun _ _ => ⟨rfl, e60, Nat.le_of_ble_eq_true rfl, Nat.le_of_ble_eq_true rfl⟩)
        dsimp only [Pt.U, Pt.locs, Pt.cells, Pt.slots] at X61 l61 y61 z61 st61 hQ61
        subst l61 y61 z61
        obtain ⟨rfl, M61, e61⟩ := hQ61
        have N61 := Fr.app N0 M61
        refine own_go st61 ?_
        show own_E p e below _ T61 (mkF m 47 #[.val (.ref a1), .val (.ref a2), .val (.ref a2)] [(.int (if x1 = x2 then (1 : Int32) else 0))])
        by_cases hx12 : x1 = x2
        · skip
          refine own_ifNo X61 hx (hb hby own_d9_47) (XT.i0_eq_f (by rw [if_pos hx12]; decide)) ?_
          show own_E p e below _ T61 (mkF m 50 #[.val (.ref a1), .val (.ref a2), .val (.ref a2)] [])
          refine own_iconst X61 hx (hb hby own_d9_50) (v := (1 : Int32)) (by decide) ?_
          show own_E p e below _ T61 (mkF m 51 #[.val (.ref a1), .val (.ref a2), .val (.ref a2)] [(.int (1 : Int32))])
          refine own_goto X61 hx (hb hby own_d9_51) 55 (by decide) (by decide) ?_
          show own_E p e below _ T61 (mkF m 55 #[.val (.ref a1), .val (.ref a2), .val (.ref a2)] [(.int (1 : Int32))])
          refine own_retN X61 hx (t := .boolean) Bd.returns (by simp) hlk (hb hby own_d9_55) (z' := (1 : Int32)) (by decide) (by decide) (by decide) ?_
          rw [e61]
          exact ⟨by simp [own_seq, hx12], N61, rfl⟩
        · skip
          refine own_ifYes X61 hx (hb hby own_d9_47) (XT.i0_eq_t (by rw [if_neg hx12])) 54 (by decide) (by decide) ?_
          show own_E p e below _ T61 (mkF m 54 #[.val (.ref a1), .val (.ref a2), .val (.ref a2)] [])
          refine own_iconst X61 hx (hb hby own_d9_54) (v := (0 : Int32)) (by decide) ?_
          show own_E p e below _ T61 (mkF m 55 #[.val (.ref a1), .val (.ref a2), .val (.ref a2)] [(.int (0 : Int32))])
          refine own_retN X61 hx (t := .boolean) Bd.returns (by simp) hlk (hb hby own_d9_55) (z' := (0 : Int32)) (by decide) (by decide) (by decide) ?_
          rw [e61]
          exact ⟨by simp [own_seq, hx12], N61, rfl⟩
      · skip
        have r1' : Arv Z h0 b1 k1 .byte (1 : Int32) [.int x1] (.int (0 : Int32)) := r1
        have r2' : Arv Z h0 b2 k2 .byte (0 : Int32) [] (.int (0 : Int32)) := r2
        obtain ⟨_, _, ⟨T62, L62, k62, n62⟩, -, X62, ⟨Lc62, hQ62, l62, y62, z62⟩, st62⟩ := Jvm.LawKit.callS X60 hx (y := (⟨"java/lang/StringLatin1", "equals", "([B[B)Z"⟩ : MethodName)) hown (mvT hZ (own_w hw 195 rfl)) (mvT hZ (own_w hw 196 rfl)) (mvT hZ (own_w hw 7 rfl)) (mvT hZ (own_w hw 197 rfl)) (by decide) (backOf (W := 0) (own_rmLE10 l Z a0 hw [] b1 b2 k1 k2 x1 x2 h0 n0 Z0 r1' r2') hZ (own_w hw 197 rfl) (own_w hw 7 rfl) (by decide) (by decide)) (g := (mkF m 44 #[.val (.ref a1), .val (.ref a2), .val (.ref a2)] [(.ref b2), (.ref b1)])) rfl (by rw [hml]; rfl) (argsL := [(.ref b1), (.ref b2)]) (rest := []) (lenOf own_pd4 rfl) rfl (by show 2 * 0 + _ ≤ _; exact Nat.le_of_eq rfl) (hb hby own_d9_44) (fun _ _ => ⟨rfl, e60, Nat.le_of_ble_eq_true rfl, Nat.le_of_ble_eq_true rfl⟩)
        dsimp only [Pt.U, Pt.locs, Pt.cells, Pt.slots] at X62 l62 y62 z62 st62 hQ62
        subst l62 y62 z62
        obtain ⟨rfl, M62, e62⟩ := hQ62
        have N62 := Fr.app N0 M62
        refine own_go st62 ?_
        show own_E p e below _ T62 (mkF m 47 #[.val (.ref a1), .val (.ref a2), .val (.ref a2)] [(.int (0 : Int32))])
        refine own_ifYes X62 hx (hb hby own_d9_47) (by decide +kernel) 54 (by decide) (by decide) ?_
        show own_E p e below _ T62 (mkF m 54 #[.val (.ref a1), .val (.ref a2), .val (.ref a2)] [])
        refine own_iconst X62 hx (hb hby own_d9_54) (v := (0 : Int32)) (by decide) ?_
        show own_E p e below _ T62 (mkF m 55 #[.val (.ref a1), .val (.ref a2), .val (.ref a2)] [(.int (0 : Int32))])
        refine own_retN X62 hx (t := .boolean) Bd.returns (by simp) hlk (hb hby own_d9_55) (z' := (0 : Int32)) (by decide) (by decide) (by decide) ?_
        rw [e62]
        exact ⟨by simp [own_seq], N62, rfl⟩
    · skip
      rcases he2 with rfl | rfl
      · skip
        have r1' : Arv Z h0 b1 k1 .byte (0 : Int32) [] (.int (0 : Int32)) := r1
        have r2' : Arv Z h0 b2 k2 .byte (1 : Int32) [.int x2] (.int (0 : Int32)) := r2
        obtain ⟨_, _, ⟨T63, L63, k63, n63⟩, -, X63, ⟨Lc63, hQ63, l63, y63, z63⟩, st63⟩ := Jvm.LawKit.callS X60 hx (y := (⟨"java/lang/StringLatin1", "equals", "([B[B)Z"⟩ : MethodName)) hown (mvT hZ (own_w hw 195 rfl)) (mvT hZ (own_w hw 196 rfl)) (mvT hZ (own_w hw 7 rfl)) (mvT hZ (own_w hw 197 rfl)) (by decide) (backOf (W := 0) (own_rmLE01 l Z a0 hw [] b1 b2 k1 k2 x1 x2 h0 n0 Z0 r1' r2') hZ (own_w hw 197 rfl) (own_w hw 7 rfl) (by decide) (by decide)) (g := (mkF m 44 #[.val (.ref a1), .val (.ref a2), .val (.ref a2)] [(.ref b2), (.ref b1)])) rfl (by rw [hml]; rfl) (argsL := [(.ref b1), (.ref b2)]) (rest := []) (lenOf own_pd4 rfl) rfl (by show 2 * 0 + _ ≤ _; exact Nat.le_of_eq rfl) (hb hby own_d9_44) (fun _ _ => ⟨rfl, e60, Nat.le_of_ble_eq_true rfl, Nat.le_of_ble_eq_true rfl⟩)
        dsimp only [Pt.U, Pt.locs, Pt.cells, Pt.slots] at X63 l63 y63 z63 st63 hQ63
        subst l63 y63 z63
        obtain ⟨rfl, M63, e63⟩ := hQ63
        have N63 := Fr.app N0 M63
        refine own_go st63 ?_
        show own_E p e below _ T63 (mkF m 47 #[.val (.ref a1), .val (.ref a2), .val (.ref a2)] [(.int (0 : Int32))])
        refine own_ifYes X63 hx (hb hby own_d9_47) (by decide +kernel) 54 (by decide) (by decide) ?_
        show own_E p e below _ T63 (mkF m 54 #[.val (.ref a1), .val (.ref a2), .val (.ref a2)] [])
        refine own_iconst X63 hx (hb hby own_d9_54) (v := (0 : Int32)) (by decide) ?_
        show own_E p e below _ T63 (mkF m 55 #[.val (.ref a1), .val (.ref a2), .val (.ref a2)] [(.int (0 : Int32))])
        refine own_retN X63 hx (t := .boolean) Bd.returns (by simp) hlk (hb hby own_d9_55) (z' := (0 : Int32)) (by decide) (by decide) (by decide) ?_
        rw [e63]
        exact ⟨by simp [own_seq], N63, rfl⟩
      · skip
        have r1' : Arv Z h0 b1 k1 .byte (0 : Int32) [] (.int (0 : Int32)) := r1
        have r2' : Arv Z h0 b2 k2 .byte (0 : Int32) [] (.int (0 : Int32)) := r2
        obtain ⟨_, _, ⟨T64, L64, k64, n64⟩, -, X64, ⟨Lc64, hQ64, l64, y64, z64⟩, st64⟩ := Jvm.LawKit.callS X60 hx (y := (⟨"java/lang/StringLatin1", "equals", "([B[B)Z"⟩ : MethodName)) hown (mvT hZ (own_w hw 195 rfl)) (mvT hZ (own_w hw 196 rfl)) (mvT hZ (own_w hw 7 rfl)) (mvT hZ (own_w hw 197 rfl)) (by decide) (backOf (W := 0) (own_rmLE00 l Z a0 hw [] b1 b2 k1 k2 x1 x2 h0 n0 Z0 r1' r2') hZ (own_w hw 197 rfl) (own_w hw 7 rfl) (by decide) (by decide)) (g := (mkF m 44 #[.val (.ref a1), .val (.ref a2), .val (.ref a2)] [(.ref b2), (.ref b1)])) rfl (by rw [hml]; rfl) (argsL := [(.ref b1), (.ref b2)]) (rest := []) (lenOf own_pd4 rfl) rfl (by show 2 * 0 + _ ≤ _; exact Nat.le_of_eq rfl) (hb hby own_d9_44) (fun _ _ => ⟨rfl, e60, Nat.le_of_ble_eq_true rfl, Nat.le_of_ble_eq_true rfl⟩)
        dsimp only [Pt.U, Pt.locs, Pt.cells, Pt.slots] at X64 l64 y64 z64 st64 hQ64
        subst l64 y64 z64
        obtain ⟨rfl, M64, e64⟩ := hQ64
        have N64 := Fr.app N0 M64
        refine own_go st64 ?_
        show own_E p e below _ T64 (mkF m 47 #[.val (.ref a1), .val (.ref a2), .val (.ref a2)] [(.int (1 : Int32))])
        refine own_ifNo X64 hx (hb hby own_d9_47) (by decide +kernel) ?_
        show own_E p e below _ T64 (mkF m 50 #[.val (.ref a1), .val (.ref a2), .val (.ref a2)] [])
        refine own_iconst X64 hx (hb hby own_d9_50) (v := (1 : Int32)) (by decide) ?_
        show own_E p e below _ T64 (mkF m 51 #[.val (.ref a1), .val (.ref a2), .val (.ref a2)] [(.int (1 : Int32))])
        refine own_goto X64 hx (hb hby own_d9_51) 55 (by decide) (by decide) ?_
        show own_E p e below _ T64 (mkF m 55 #[.val (.ref a1), .val (.ref a2), .val (.ref a2)] [(.int (1 : Int32))])
        refine own_retN X64 hx (t := .boolean) Bd.returns (by simp) hlk (hb hby own_d9_55) (z' := (1 : Int32)) (by decide) (by decide) (by decide) ?_
        rw [e64]
        exact ⟨by simp [own_seq], N64, rfl⟩

def own_QP (Z : State) (a1 s0 s1 : Addr) (h0 : Heap) (n0 : Nat) (v : Option Value) (h : Heap) (L : List Loc) : Prop := v = none ∧ Fr n0 L ∧ Keep h0 h [a1] ∧ Fld Z h a1 "com/example/narrow_gate/narrowgate/Target$Parameter" "name" "Ljava/lang/String;" (.ref s0) ∧ Fld Z h a1 "com/example/narrow_gate/narrowgate/Target$Parameter" "value" "Ljava/lang/String;" (.ref s1)
theorem own_pn6 : plainName "com/example/narrow_gate/narrowgate/Target$Parameter" = true := by first | (simp [plainName, overriddenIn]; done) | decide +kernel
theorem own_ef14 (m : MethodId) (x0 : Addr) (x1 : Addr) (x2 : Addr) (x3 : Addr) : entryFrame m #[(.ref x0), (.ref x1), (.ref x2), (.ref x3)] 4 = mkF m 0 #[.val (.ref x0), .val (.ref x1), .val (.ref x2), .val (.ref x3)] [] := by first | (simp [entryFrame, mkF, argsToLocals, Value.category]; done) | rfl
theorem own_d10_0 : decode prog_6_method_1_code 0 = .ok (.aload_n 0, 1) := by decide +kernel
theorem own_d10_1 : decode prog_6_method_1_code 1 = .ok (.invokespecial 1, 3) := by decide +kernel
theorem own_d10_4 : decode prog_6_method_1_code 4 = .ok (.aload_n 0, 1) := by decide +kernel
theorem own_d10_5 : decode prog_6_method_1_code 5 = .ok (.aload_n 1, 1) := by decide +kernel
theorem own_d10_6 : decode prog_6_method_1_code 6 = .ok (.putfield 7, 3) := by decide +kernel
theorem own_d10_9 : decode prog_6_method_1_code 9 = .ok (.aload_n 0, 1) := by decide +kernel
theorem own_d10_10 : decode prog_6_method_1_code 10 = .ok (.aload_n 2, 1) := by decide +kernel
theorem own_d10_11 : decode prog_6_method_1_code 11 = .ok (.putfield 13, 3) := by decide +kernel
theorem own_d10_14 : decode prog_6_method_1_code 14 = .ok (.aload_n 0, 1) := by decide +kernel
theorem own_d10_15 : decode prog_6_method_1_code 15 = .ok (.aload_n 3, 1) := by decide +kernel
theorem own_d10_16 : decode prog_6_method_1_code 16 = .ok (.putfield 16, 3) := by decide +kernel
theorem own_d10_19 : decode prog_6_method_1_code 19 = .ok (.return_, 1) := by decide +kernel
set_option maxRecDepth 65536 in
set_option maxHeartbeats 40000000 in
theorem own_rmPI (l : Launch) (Z : State) (a0 : Array Value) (hw : ∀ d ∈ tables_1, d.before a0 Z = true) (ws : List Jvm.Cond) (a1 s0 s1 : Addr) (h0 : Heap) (n0 : Nat) (Z0 : n0 ≤ h0.size) (F0 : Fld Z h0 a1 "com/example/narrow_gate/narrowgate/Target$Parameter" "name" "Ljava/lang/String;" .null) (F1 : Fld Z h0 a1 "com/example/narrow_gate/narrowgate/Target$Parameter" "value" "Ljava/lang/String;" .null) (F2 : Fld Z h0 a1 "com/example/narrow_gate/narrowgate/Target$Parameter" "text" "Ljava/lang/String;" .null) (A0 : Exa Z h0 a1 "com/example/narrow_gate/narrowgate/Target$Parameter") (g0 : n0 ≤ a1) :
    MetFree l (⟨"com/example/narrow_gate/narrowgate/Target$Parameter", "<init>", "(Ljava/lang/String;Ljava/lang/String;Ljava/lang/String;)V"⟩ : MethodName) (head1 (Jvm.Cond.code (⟨"com/example/narrow_gate/narrowgate/Target$Parameter", "<init>", "(Ljava/lang/String;Ljava/lang/String;Ljava/lang/String;)V"⟩ : MethodName) prog_6_method_1_code 4 none :: ws) ({ frames := 2, cells := 0, slots := 0, locals := 24 } : Room)) (fun a U => a = #[(.ref a1), (.ref s0), (.ref s1), (.ref s1)] ∧ Z.Warmed39 U.vm ∧ U.heap = h0) (fun _ _ _ _ _ => True) (fun _ U o U' => ∃ v L, o = .returned v ∧ own_QP Z a1 s0 s1 h0 n0 v U'.heap L ∧ FrameEnd U o U' L ({ frames := 2, cells := 0, slots := 0, locals := 24 } : Room).cells ({ frames := 2, cells := 0, slots := 0, locals := 24 } : Room).slots) := by
  refine MetFree.of_bodySF (plainFor_of_name own_pn6) hisR ?_
  intro p e s m args below meth c s₁ Bd hml0 hP hK
  obtain ⟨rfl, hZ, hh⟩ := hP
  have hx := Bd.exec
  have hby := Bd.bytes
  have hlk : meth.locks = false := Bd.notSynchronized
  have hml : c.maxLocals = 4 := hml0
  have hown : s.vm.findClass "com/example/narrow_gate/narrowgate/Target$Parameter" = some m.cls := findClass_of_methodNamed Bd.named
  have hnm := (name_of_methodNamed Bd.named Bd.method).1
  have X0 : Stand p l e ({ frames := 2, cells := 0, slots := 0, locals := 24 } : Room) s m #[(.ref a1), (.ref s0), (.ref s1), (.ref s1)] below meth c s₁ [] 0 0 := Stand.of_body Bd
  have e0 : s₁.heap = h0 := by rw [← hh, Bd.state]; rfl
  have N0 := Fr.nil n0
  show own_E p e below (own_P s (own_QP Z a1 s0 s1 h0 n0) ({ frames := 2, cells := 0, slots := 0, locals := 24 } : Room).cells ({ frames := 2, cells := 0, slots := 0, locals := 24 } : Room).slots) s₁ (entryFrame m #[(.ref a1), (.ref s0), (.ref s1), (.ref s1)] 4)
  refine own_cast (own_ef14 m a1 s0 s1 s1) ?_
  have lt65 := own_lt (F0).lt
  have lt66 := own_lt (A0).lt
  show own_E p e below _ s₁ (mkF m 0 #[.val (.ref a1), .val (.ref s0), .val (.ref s1), .val (.ref s1)] [])
  refine own_aloadN X0 hx (hb hby own_d10_0) rfl rfl ?_
  show own_E p e below _ s₁ (mkF m 1 #[.val (.ref a1), .val (.ref s0), .val (.ref s1), .val (.ref s1)] [(.ref a1)])
  obtain ⟨_, _, ⟨T67, L67, k67, n67⟩, -, X67, ⟨Lc67, hQ67, l67, y67, z67⟩, st67⟩ := X0.specialBack hx (y := (⟨"java/lang/Record", "<init>", "()V"⟩ : MethodName)) rfl hown (mvT hZ (own_w hw 32 rfl)) (mvT hZ (own_w hw 33 rfl)) (mvT hZ (own_w hw 36 rfl)) (by decide) (backOf (W := 0) (own_rmRC l Z a0 hw [] a1 h0 n0 Z0) hZ (own_w hw 36 rfl) (own_w hw 35 rfl) (by decide) (by decide)) (g := (mkF m 1 #[.val (.ref a1), .val (.ref s0), .val (.ref s1), .val (.ref s1)] [(.ref a1)])) rfl (by rw [hml]; rfl) (Steps.refl _) (a := a1) (argsL := []) (rest := []) (lenOf own_pd0 rfl) rfl (by show 2 * 0 + _ ≤ _; exact Nat.le_of_eq rfl) (hb hby own_d10_1) (fun _ _ => ⟨rfl, e0, Nat.le_of_ble_eq_true rfl, Nat.le_of_ble_eq_true rfl⟩)
  dsimp only [Pt.U, Pt.locs, Pt.cells, Pt.slots] at X67 l67 y67 z67 st67 hQ67
  subst l67 y67 z67
  obtain ⟨rfl, M67, e67⟩ := hQ67
  have N67 := Fr.app N0 M67
  refine own_go (fun _ k => st67.trans k) ?_
  show own_E p e below _ T67 (mkF m 4 #[.val (.ref a1), .val (.ref s0), .val (.ref s1), .val (.ref s1)] [])
  refine own_aloadN X67 hx (hb hby own_d10_4) rfl rfl ?_
  show own_E p e below _ T67 (mkF m 5 #[.val (.ref a1), .val (.ref s0), .val (.ref s1), .val (.ref s1)] [(.ref a1)])
  refine own_aloadN X67 hx (hb hby own_d10_5) rfl rfl ?_
  show own_E p e below _ T67 (mkF m 6 #[.val (.ref a1), .val (.ref s0), .val (.ref s1), .val (.ref s1)] [(.ref s0), (.ref a1)])
  obtain ⟨T68, h68, X68, e68, W68, st68⟩ := putF X67 hx hZ hown (host := "") (Or.inl (own_w hw 38 rfl)) Via.refl e67 F0 A0 (Or.inr ⟨(own_w hw 39 rfl), rfl, hnm⟩) (own_w hw 27 rfl) (ty := (.object "java/lang/String")) (by decide) rfl rfl (g := (mkF m 6 #[.val (.ref a1), .val (.ref s0), .val (.ref s1), .val (.ref s1)] [(.ref s0), (.ref a1)])) rfl rfl (hb hby own_d10_6)
  refine own_go st68 ?_
  have N68 := Fr.snoc X68 N67 (by omega)
  have z68 : h0.size ≤ h68.size := Nat.le_of_eq W68.size.symm
  have F68 : Fld Z h68 a1 "com/example/narrow_gate/narrowgate/Target$Parameter" "name" "Ljava/lang/String;" (.ref s0) := Fld.same W68 F0
  show own_E p e below _ T68 (mkF m 9 #[.val (.ref a1), .val (.ref s0), .val (.ref s1), .val (.ref s1)] [])
  refine own_aloadN X68 hx (hb hby own_d10_9) rfl rfl ?_
  show own_E p e below _ T68 (mkF m 10 #[.val (.ref a1), .val (.ref s0), .val (.ref s1), .val (.ref s1)] [(.ref a1)])
  refine own_aloadN X68 hx (hb hby own_d10_10) rfl rfl ?_
  show own_E p e below _ T68 (mkF m 11 #[.val (.ref a1), .val (.ref s0), .val (.ref s1), .val (.ref s1)] [(.ref s1), (.ref a1)])
  obtain ⟨T69, h69, X69, e69, W69, st69⟩ := putF X68 hx hZ hown (host := "") (Or.inl (own_w hw 40 rfl)) Via.refl e68 (F1.other W68 (Or.inr (slot_ne (Or.inr (own_w hw 41 rfl)) (Or.inr (own_w hw 39 rfl)) (by decide) (t := (.object "java/lang/String")) (t' := (.object "java/lang/String")) (by decide) (by decide)))) (A0.wr W68) (Or.inr ⟨(own_w hw 41 rfl), rfl, hnm⟩) (own_w hw 27 rfl) (ty := (.object "java/lang/String")) (by decide) rfl rfl (g := (mkF m 11 #[.val (.ref a1), .val (.ref s0), .val (.ref s1), .val (.ref s1)] [(.ref s1), (.ref a1)])) rfl rfl (hb hby own_d10_11)
  refine own_go st69 ?_
  have N69 := Fr.snoc X69 N68 (by omega)
  have z69 : h68.size ≤ h69.size := Nat.le_of_eq W69.size.symm
  have F69 : Fld Z h69 a1 "com/example/narrow_gate/narrowgate/Target$Parameter" "value" "Ljava/lang/String;" (.ref s1) := Fld.same W69 (F1.other W68 (Or.inr (slot_ne (Or.inr (own_w hw 41 rfl)) (Or.inr (own_w hw 39 rfl)) (by decide) (t := (.object "java/lang/String")) (t' := (.object "java/lang/String")) (by decide) (by decide))))
  show own_E p e below _ T69 (mkF m 14 #[.val (.ref a1), .val (.ref s0), .val (.ref s1), .val (.ref s1)] [])
  refine own_aloadN X69 hx (hb hby own_d10_14) rfl rfl ?_
  show own_E p e below _ T69 (mkF m 15 #[.val (.ref a1), .val (.ref s0), .val (.ref s1), .val (.ref s1)] [(.ref a1)])
  refine own_aloadN X69 hx (hb hby own_d10_15) rfl rfl ?_
  show own_E p e below _ T69 (mkF m 16 #[.val (.ref a1), .val (.ref s0), .val (.ref s1), .val (.ref s1)] [(.ref s1), (.ref a1)])
  obtain ⟨T70, h70, X70, e70, W70, st70⟩ := putF X69 hx hZ hown (host := "") (Or.inl (own_w hw 42 rfl)) Via.refl e69 ((F2.other W68 (Or.inr (slot_ne (Or.inr (own_w hw 43 rfl)) (Or.inr (own_w hw 39 rfl)) (by decide) (t := (.object "java/lang/String")) (t' := (.object "java/lang/String")) (by decide) (by decide)))).other W69 (Or.inr (slot_ne (Or.inr (own_w hw 43 rfl)) (Or.inr (own_w hw 41 rfl)) (by decide) (t := (.object "java/lang/String")) (t' := (.object "java/lang/String")) (by decide) (by decide)))) ((A0.wr W68).wr W69) (Or.inr ⟨(own_w hw 43 rfl), rfl, hnm⟩) (own_w hw 27 rfl) (ty := (.object "java/lang/String")) (by decide) rfl rfl (g := (mkF m 16 #[.val (.ref a1), .val (.ref s0), .val (.ref s1), .val (.ref s1)] [(.ref s1), (.ref a1)])) rfl rfl (hb hby own_d10_16)
  refine own_go st70 ?_
  have N70 := Fr.snoc X70 N69 (by omega)
  have z70 : h69.size ≤ h70.size := Nat.le_of_eq W70.size.symm
  have F70 : Fld Z h70 a1 "com/example/narrow_gate/narrowgate/Target$Parameter" "text" "Ljava/lang/String;" (.ref s1) := Fld.same W70 ((F2.other W68 (Or.inr (slot_ne (Or.inr (own_w hw 43 rfl)) (Or.inr (own_w hw 39 rfl)) (by decide) (t := (.object "java/lang/String")) (t' := (.object "java/lang/String")) (by decide) (by decide)))).other W69 (Or.inr (slot_ne (Or.inr (own_w hw 43 rfl)) (Or.inr (own_w hw 41 rfl)) (by decide) (t := (.object "java/lang/String")) (t' := (.object "java/lang/String")) (by decide) (by decide))))
  show own_E p e below _ T70 (mkF m 19 #[.val (.ref a1), .val (.ref s0), .val (.ref s1), .val (.ref s1)] [])
  refine own_retV X70 hx Bd.returns hlk (hb hby own_d10_19) (by decide) (by decide) ?_
  rw [e70]
  exact ⟨rfl, N70, ((((Keep.refl _ _).wr W68 (Or.inl (List.mem_of_getElem? (i := 0) rfl))).wr W69 (Or.inl (List.mem_of_getElem? (i := 0) rfl))).wr W70 (Or.inl (List.mem_of_getElem? (i := 0) rfl))), ((F68.other W69 (Or.inr (slot_ne (Or.inr (own_w hw 39 rfl)) (Or.inr (own_w hw 41 rfl)) (by decide) (t := (.object "java/lang/String")) (t' := (.object "java/lang/String")) (by decide) (by decide)))).other W70 (Or.inr (slot_ne (Or.inr (own_w hw 39 rfl)) (Or.inr (own_w hw 43 rfl)) (by decide) (t := (.object "java/lang/String")) (t' := (.object "java/lang/String")) (by decide) (by decide)))), (F69.other W70 (Or.inr (slot_ne (Or.inr (own_w hw 41 rfl)) (Or.inr (own_w hw 43 rfl)) (by decide) (t := (.object "java/lang/String")) (t' := (.object "java/lang/String")) (by decide) (by decide))))⟩

def own_QG (Z : State) (a1 s1 : Addr) (h0 : Heap) (n0 : Nat) (v : Option Value) (h : Heap) (L : List Loc) : Prop := v = none ∧ Fr n0 L ∧ Keep h0 h [a1] ∧ Fld Z h a1 "com/example/narrow_gate/narrowgate/Target" "parameters" "Ljava/util/List;" (.ref s1)
theorem own_pn7 : plainName "com/example/narrow_gate/narrowgate/Target" = true := by first | (simp [plainName, overriddenIn]; done) | decide +kernel
theorem own_ef15 (m : MethodId) (x0 : Addr) (x1 : Addr) (x2 : Addr) : entryFrame m #[(.ref x0), (.ref x1), (.ref x2)] 3 = mkF m 0 #[.val (.ref x0), .val (.ref x1), .val (.ref x2)] [] := by first | (simp [entryFrame, mkF, argsToLocals, Value.category]; done) | rfl
theorem own_d11_0 : decode prog_5_method_1_code 0 = .ok (.aload_n 0, 1) := by decide +kernel
theorem own_d11_1 : decode prog_5_method_1_code 1 = .ok (.invokespecial 1, 3) := by decide +kernel
theorem own_d11_4 : decode prog_5_method_1_code 4 = .ok (.aload_n 0, 1) := by decide +kernel
theorem own_d11_5 : decode prog_5_method_1_code 5 = .ok (.aload_n 1, 1) := by decide +kernel
theorem own_d11_6 : decode prog_5_method_1_code 6 = .ok (.putfield 7, 3) := by decide +kernel
theorem own_d11_9 : decode prog_5_method_1_code 9 = .ok (.aload_n 0, 1) := by decide +kernel
theorem own_d11_10 : decode prog_5_method_1_code 10 = .ok (.aload_n 2, 1) := by decide +kernel
theorem own_d11_11 : decode prog_5_method_1_code 11 = .ok (.putfield 13, 3) := by decide +kernel
theorem own_d11_14 : decode prog_5_method_1_code 14 = .ok (.return_, 1) := by decide +kernel
set_option maxRecDepth 65536 in
set_option maxHeartbeats 40000000 in
theorem own_rmGI (l : Launch) (Z : State) (a0 : Array Value) (hw : ∀ d ∈ tables_1, d.before a0 Z = true) (ws : List Jvm.Cond) (a1 s0 s1 : Addr) (h0 : Heap) (n0 : Nat) (Z0 : n0 ≤ h0.size) (F0 : Fld Z h0 a1 "com/example/narrow_gate/narrowgate/Target" "segments" "Ljava/util/List;" .null) (F1 : Fld Z h0 a1 "com/example/narrow_gate/narrowgate/Target" "parameters" "Ljava/util/List;" .null) (A0 : Exa Z h0 a1 "com/example/narrow_gate/narrowgate/Target") (g0 : n0 ≤ a1) :
    MetFree l (⟨"com/example/narrow_gate/narrowgate/Target", "<init>", "(Ljava/util/List;Ljava/util/List;)V"⟩ : MethodName) (head1 (Jvm.Cond.code (⟨"com/example/narrow_gate/narrowgate/Target", "<init>", "(Ljava/util/List;Ljava/util/List;)V"⟩ : MethodName) prog_5_method_1_code 3 none :: ws) ({ frames := 2, cells := 0, slots := 0, locals := 24 } : Room)) (fun a U => a = #[(.ref a1), (.ref s0), (.ref s1)] ∧ Z.Warmed39 U.vm ∧ U.heap = h0) (fun _ _ _ _ _ => True) (fun _ U o U' => ∃ v L, o = .returned v ∧ own_QG Z a1 s1 h0 n0 v U'.heap L ∧ FrameEnd U o U' L ({ frames := 2, cells := 0, slots := 0, locals := 24 } : Room).cells ({ frames := 2, cells := 0, slots := 0, locals := 24 } : Room).slots) := by
  refine MetFree.of_bodySF (plainFor_of_name own_pn7) hisR ?_
  intro p e s m args below meth c s₁ Bd hml0 hP hK
  obtain ⟨rfl, hZ, hh⟩ := hP
  have hx := Bd.exec
  have hby := Bd.bytes
  have hlk : meth.locks = false := Bd.notSynchronized
  have hml : c.maxLocals = 3 := hml0
  have hown : s.vm.findClass "com/example/narrow_gate/narrowgate/Target" = some m.cls := findClass_of_methodNamed Bd.named
  have hnm := (name_of_methodNamed Bd.named Bd.method).1
  have X0 : Stand p l e ({ frames := 2, cells := 0, slots := 0, locals := 24 } : Room) s m #[(.ref a1), (.ref s0), (.ref s1)] below meth c s₁ [] 0 0 := Stand.of_body Bd
  have e0 : s₁.heap = h0 := by rw [← hh, Bd.state]; rfl
  have N0 := Fr.nil n0
  show own_E p e below (own_P s (own_QG Z a1 s1 h0 n0) ({ frames := 2, cells := 0, slots := 0, locals := 24 } : Room).cells ({ frames := 2, cells := 0, slots := 0, locals := 24 } : Room).slots) s₁ (entryFrame m #[(.ref a1), (.ref s0), (.ref s1)] 3)
  refine own_cast (own_ef15 m a1 s0 s1) ?_
  have lt71 := own_lt (F0).lt
  have lt72 := own_lt (A0).lt
  show own_E p e below _ s₁ (mkF m 0 #[.val (.ref a1), .val (.ref s0), .val (.ref s1)] [])
  refine own_aloadN X0 hx (hb hby own_d11_0) rfl rfl ?_
  show own_E p e below _ s₁ (mkF m 1 #[.val (.ref a1), .val (.ref s0), .val (.ref s1)] [(.ref a1)])
  obtain ⟨_, _, ⟨T73, L73, k73, n73⟩, -, X73, ⟨Lc73, hQ73, l73, y73, z73⟩, st73⟩ := X0.specialBack hx (y := (⟨"java/lang/Record", "<init>", "()V"⟩ : MethodName)) rfl hown (mvT hZ (own_w hw 74 rfl)) (mvT hZ (own_w hw 33 rfl)) (mvT hZ (own_w hw 36 rfl)) (by decide) (backOf (W := 0) (own_rmRC l Z a0 hw [] a1 h0 n0 Z0) hZ (own_w hw 36 rfl) (own_w hw 35 rfl) (by decide) (by decide)) (g := (mkF m 1 #[.val (.ref a1), .val (.ref s0), .val (.ref s1)] [(.ref a1)])) rfl (by rw [hml]; rfl) (Steps.refl _) (a := a1) (argsL := []) (rest := []) (lenOf own_pd0 rfl) rfl (by show 2 * 0 + _ ≤ _; exact Nat.le_of_eq rfl) (hb hby own_d11_1) (fun _ _ => ⟨rfl, e0, Nat.le_of_ble_eq_true rfl, Nat.le_of_ble_eq_true rfl⟩)
  dsimp only [Pt.U, Pt.locs, Pt.cells, Pt.slots] at X73 l73 y73 z73 st73 hQ73
  subst l73 y73 z73
  obtain ⟨rfl, M73, e73⟩ := hQ73
  have N73 := Fr.app N0 M73
  refine own_go (fun _ k => st73.trans k) ?_
  show own_E p e below _ T73 (mkF m 4 #[.val (.ref a1), .val (.ref s0), .val (.ref s1)] [])
  refine own_aloadN X73 hx (hb hby own_d11_4) rfl rfl ?_
  show own_E p e below _ T73 (mkF m 5 #[.val (.ref a1), .val (.ref s0), .val (.ref s1)] [(.ref a1)])
  refine own_aloadN X73 hx (hb hby own_d11_5) rfl rfl ?_
  show own_E p e below _ T73 (mkF m 6 #[.val (.ref a1), .val (.ref s0), .val (.ref s1)] [(.ref s0), (.ref a1)])
  obtain ⟨T74, h74, X74, e74, W74, st74⟩ := putF X73 hx hZ hown (host := "") (Or.inl (own_w hw 75 rfl)) Via.refl e73 F0 A0 (Or.inr ⟨(own_w hw 76 rfl), rfl, hnm⟩) (own_w hw 69 rfl) (ty := (.object "java/util/List")) (by decide) rfl rfl (g := (mkF m 6 #[.val (.ref a1), .val (.ref s0), .val (.ref s1)] [(.ref s0), (.ref a1)])) rfl rfl (hb hby own_d11_6)
  refine own_go st74 ?_
  have N74 := Fr.snoc X74 N73 (by omega)
  have z74 : h0.size ≤ h74.size := Nat.le_of_eq W74.size.symm
  have F74 : Fld Z h74 a1 "com/example/narrow_gate/narrowgate/Target" "segments" "Ljava/util/List;" (.ref s0) := Fld.same W74 F0
  show own_E p e below _ T74 (mkF m 9 #[.val (.ref a1), .val (.ref s0), .val (.ref s1)] [])
  refine own_aloadN X74 hx (hb hby own_d11_9) rfl rfl ?_
  show own_E p e below _ T74 (mkF m 10 #[.val (.ref a1), .val (.ref s0), .val (.ref s1)] [(.ref a1)])
  refine own_aloadN X74 hx (hb hby own_d11_10) rfl rfl ?_
  show own_E p e below _ T74 (mkF m 11 #[.val (.ref a1), .val (.ref s0), .val (.ref s1)] [(.ref s1), (.ref a1)])
  obtain ⟨T75, h75, X75, e75, W75, st75⟩ := putF X74 hx hZ hown (host := "") (Or.inl (own_w hw 77 rfl)) Via.refl e74 (F1.other W74 (Or.inr (slot_ne (Or.inr (own_w hw 78 rfl)) (Or.inr (own_w hw 76 rfl)) (by decide) (t := (.object "java/util/List")) (t' := (.object "java/util/List")) (by decide) (by decide)))) (A0.wr W74) (Or.inr ⟨(own_w hw 78 rfl), rfl, hnm⟩) (own_w hw 69 rfl) (ty := (.object "java/util/List")) (by decide) rfl rfl (g := (mkF m 11 #[.val (.ref a1), .val (.ref s0), .val (.ref s1)] [(.ref s1), (.ref a1)])) rfl rfl (hb hby own_d11_11)
  refine own_go st75 ?_
  have N75 := Fr.snoc X75 N74 (by omega)
  have z75 : h74.size ≤ h75.size := Nat.le_of_eq W75.size.symm
  have F75 : Fld Z h75 a1 "com/example/narrow_gate/narrowgate/Target" "parameters" "Ljava/util/List;" (.ref s1) := Fld.same W75 (F1.other W74 (Or.inr (slot_ne (Or.inr (own_w hw 78 rfl)) (Or.inr (own_w hw 76 rfl)) (by decide) (t := (.object "java/util/List")) (t' := (.object "java/util/List")) (by decide) (by decide))))
  show own_E p e below _ T75 (mkF m 14 #[.val (.ref a1), .val (.ref s0), .val (.ref s1)] [])
  refine own_retV X75 hx Bd.returns hlk (hb hby own_d11_14) (by decide) (by decide) ?_
  rw [e75]
  exact ⟨rfl, N75, (((Keep.refl _ _).wr W74 (Or.inl (List.mem_of_getElem? (i := 0) rfl))).wr W75 (Or.inl (List.mem_of_getElem? (i := 0) rfl))), F75⟩

theorem own_ef16 (m : MethodId) (x0 : Addr) : entryFrame m #[(.ref x0)] 1 = mkF m 0 #[.val (.ref x0)] [] := by first | (simp [entryFrame, mkF, argsToLocals, Value.category]; done) | rfl
theorem own_d12_0 : decode prog_6_method_5_code 0 = .ok (.aload_n 0, 1) := by decide +kernel
theorem own_d12_1 : decode prog_6_method_5_code 1 = .ok (.getfield 7, 3) := by decide +kernel
theorem own_d12_4 : decode prog_6_method_5_code 4 = .ok (.areturn, 1) := by decide +kernel
set_option maxRecDepth 65536 in
set_option maxHeartbeats 40000000 in
theorem own_rmNM (l : Launch) (Z : State) (a0 : Array Value) (hw : ∀ d ∈ tables_1, d.before a0 Z = true) (ws : List Jvm.Cond) (a1 s0 : Addr) (h0 : Heap) (n0 : Nat) (Z0 : n0 ≤ h0.size) (F0 : Fld Z h0 a1 "com/example/narrow_gate/narrowgate/Target$Parameter" "name" "Ljava/lang/String;" (.ref s0)) :
    MetFree l (⟨"com/example/narrow_gate/narrowgate/Target$Parameter", "name", "()Ljava/lang/String;"⟩ : MethodName) (head1 (Jvm.Cond.code (⟨"com/example/narrow_gate/narrowgate/Target$Parameter", "name", "()Ljava/lang/String;"⟩ : MethodName) prog_6_method_5_code 1 (some (.object "java/lang/String")) :: ws) ({ frames := 0, cells := 0, slots := 0, locals := 0 } : Room)) (fun a U => a = #[(.ref a1)] ∧ Z.Warmed39 U.vm ∧ U.heap = h0) (fun _ _ _ _ _ => True) (fun _ U o U' => ∃ v L, o = .returned v ∧ own_Q (.ref s0) h0 n0 v U'.heap L ∧ FrameEnd U o U' L ({ frames := 0, cells := 0, slots := 0, locals := 0 } : Room).cells ({ frames := 0, cells := 0, slots := 0, locals := 0 } : Room).slots) := by
  refine MetFree.of_bodySF (plainFor_of_name own_pn6) hisR ?_
  intro p e s m args below meth c s₁ Bd hml0 hP hK
  obtain ⟨rfl, hZ, hh⟩ := hP
  have hx := Bd.exec
  have hby := Bd.bytes
  have hlk : meth.locks = false := Bd.notSynchronized
  have hml : c.maxLocals = 1 := hml0
  have hown : s.vm.findClass "com/example/narrow_gate/narrowgate/Target$Parameter" = some m.cls := findClass_of_methodNamed Bd.named
  have hnm := (name_of_methodNamed Bd.named Bd.method).1
  have X0 : Stand p l e ({ frames := 0, cells := 0, slots := 0, locals := 0 } : Room) s m #[(.ref a1)] below meth c s₁ [] 0 0 := Stand.of_body Bd
  have e0 : s₁.heap = h0 := by rw [← hh, Bd.state]; rfl
  have N0 := Fr.nil n0
  show own_E p e below (own_P s (own_Q (.ref s0) h0 n0) ({ frames := 0, cells := 0, slots := 0, locals := 0 } : Room).cells ({ frames := 0, cells := 0, slots := 0, locals := 0 } : Room).slots) s₁ (entryFrame m #[(.ref a1)] 1)
  refine own_cast (own_ef16 m a1) ?_
  have lt76 := own_lt (F0).lt
  show own_E p e below _ s₁ (mkF m 0 #[.val (.ref a1)] [])
  refine own_aloadN X0 hx (hb hby own_d12_0) rfl rfl ?_
  show own_E p e below _ s₁ (mkF m 1 #[.val (.ref a1)] [(.ref a1)])
  obtain ⟨T77, X77, e77, st77⟩ := getF X0 hx hZ hown (host := "") (Or.inl (own_w hw 38 rfl)) Via.refl e0 F0 (g := (mkF m 1 #[.val (.ref a1)] [(.ref a1)])) rfl rfl (hb hby own_d12_1)
  refine own_go st77 ?_
  show own_E p e below _ T77 (mkF m 4 #[.val (.ref a1)] [(.ref s0)])
  refine own_retA X77 hx Bd.returns rfl rfl hlk (hb hby own_d12_4) (by decide) (by decide) ?_
  rw [e77]
  exact ⟨rfl, N0, rfl⟩

theorem own_ef17 (m : MethodId) (x0 : Addr) : entryFrame m #[(.ref x0)] 1 = mkF m 0 #[.val (.ref x0)] [] := by first | (simp [entryFrame, mkF, argsToLocals, Value.category]; done) | rfl
theorem own_d13_0 : decode prog_6_method_6_code 0 = .ok (.aload_n 0, 1) := by decide +kernel
theorem own_d13_1 : decode prog_6_method_6_code 1 = .ok (.getfield 13, 3) := by decide +kernel
theorem own_d13_4 : decode prog_6_method_6_code 4 = .ok (.areturn, 1) := by decide +kernel
set_option maxRecDepth 65536 in
set_option maxHeartbeats 40000000 in
theorem own_rmVL (l : Launch) (Z : State) (a0 : Array Value) (hw : ∀ d ∈ tables_1, d.before a0 Z = true) (ws : List Jvm.Cond) (a1 s0 : Addr) (h0 : Heap) (n0 : Nat) (Z0 : n0 ≤ h0.size) (F0 : Fld Z h0 a1 "com/example/narrow_gate/narrowgate/Target$Parameter" "value" "Ljava/lang/String;" (.ref s0)) :
    MetFree l (⟨"com/example/narrow_gate/narrowgate/Target$Parameter", "value", "()Ljava/lang/String;"⟩ : MethodName) (head1 (Jvm.Cond.code (⟨"com/example/narrow_gate/narrowgate/Target$Parameter", "value", "()Ljava/lang/String;"⟩ : MethodName) prog_6_method_6_code 1 (some (.object "java/lang/String")) :: ws) ({ frames := 0, cells := 0, slots := 0, locals := 0 } : Room)) (fun a U => a = #[(.ref a1)] ∧ Z.Warmed39 U.vm ∧ U.heap = h0) (fun _ _ _ _ _ => True) (fun _ U o U' => ∃ v L, o = .returned v ∧ own_Q (.ref s0) h0 n0 v U'.heap L ∧ FrameEnd U o U' L ({ frames := 0, cells := 0, slots := 0, locals := 0 } : Room).cells ({ frames := 0, cells := 0, slots := 0, locals := 0 } : Room).slots) := by
  refine MetFree.of_bodySF (plainFor_of_name own_pn6) hisR ?_
  intro p e s m args below meth c s₁ Bd hml0 hP hK
  obtain ⟨rfl, hZ, hh⟩ := hP
  have hx := Bd.exec
  have hby := Bd.bytes
  have hlk : meth.locks = false := Bd.notSynchronized
  have hml : c.maxLocals = 1 := hml0
  have hown : s.vm.findClass "com/example/narrow_gate/narrowgate/Target$Parameter" = some m.cls := findClass_of_methodNamed Bd.named
  have hnm := (name_of_methodNamed Bd.named Bd.method).1
  have X0 : Stand p l e ({ frames := 0, cells := 0, slots := 0, locals := 0 } : Room) s m #[(.ref a1)] below meth c s₁ [] 0 0 := Stand.of_body Bd
  have e0 : s₁.heap = h0 := by rw [← hh, Bd.state]; rfl
  have N0 := Fr.nil n0
  show own_E p e below (own_P s (own_Q (.ref s0) h0 n0) ({ frames := 0, cells := 0, slots := 0, locals := 0 } : Room).cells ({ frames := 0, cells := 0, slots := 0, locals := 0 } : Room).slots) s₁ (entryFrame m #[(.ref a1)] 1)
  refine own_cast (own_ef17 m a1) ?_
  have lt78 := own_lt (F0).lt
  show own_E p e below _ s₁ (mkF m 0 #[.val (.ref a1)] [])
  refine own_aloadN X0 hx (hb hby own_d13_0) rfl rfl ?_
  show own_E p e below _ s₁ (mkF m 1 #[.val (.ref a1)] [(.ref a1)])
  obtain ⟨T79, X79, e79, st79⟩ := getF X0 hx hZ hown (host := "") (Or.inl (own_w hw 40 rfl)) Via.refl e0 F0 (g := (mkF m 1 #[.val (.ref a1)] [(.ref a1)])) rfl rfl (hb hby own_d13_1)
  refine own_go st79 ?_
  show own_E p e below _ T79 (mkF m 4 #[.val (.ref a1)] [(.ref s0)])
  refine own_retA X79 hx Bd.returns rfl rfl hlk (hb hby own_d13_4) (by decide) (by decide) ?_
  rw [e79]
  exact ⟨rfl, N0, rfl⟩

theorem own_ef18 (m : MethodId) (x0 : Int32) (x1 : Int32) : entryFrame m #[(.int x0), (.int x1)] 2 = mkF m 0 #[.val (.int x0), .val (.int x1)] [] := by first | (simp [entryFrame, mkF, argsToLocals, Value.category]; done) | rfl
theorem own_d14_0 : decode jdk_29_method_65_code 0 = .ok (.iload_n 0, 1) := by decide +kernel
theorem own_d14_1 : decode jdk_29_method_65_code 1 = .ok (.iload_n 1, 1) := by decide +kernel
theorem own_d14_2 : decode jdk_29_method_65_code 2 = .ok (.if_icmp .lt 7, 3) := by decide +kernel
theorem own_d14_5 : decode jdk_29_method_65_code 5 = .ok (.iload_n 0, 1) := by decide +kernel
theorem own_d14_6 : decode jdk_29_method_65_code 6 = .ok (.goto 4, 3) := by decide +kernel
theorem own_d14_10 : decode jdk_29_method_65_code 10 = .ok (.ireturn, 1) := by decide +kernel
set_option maxRecDepth 65536 in
set_option maxHeartbeats 40000000 in
theorem own_rmMX (l : Launch) (Z : State) (a0 : Array Value) (hw : ∀ d ∈ tables_1, d.before a0 Z = true) (ws : List Jvm.Cond)  (h0 : Heap) (n0 : Nat) (Z0 : n0 ≤ h0.size)  :
    MetFree l (⟨"java/lang/Math", "max", "(II)I"⟩ : MethodName) (head1 (Jvm.Cond.code (⟨"java/lang/Math", "max", "(II)I"⟩ : MethodName) jdk_29_method_65_code 2 (some .int) :: ws) ({ frames := 0, cells := 0, slots := 0, locals := 0 } : Room)) (fun a U => a = #[(.int (10 : Int32)), (.int (1 : Int32))] ∧ Z.Warmed39 U.vm ∧ U.heap = h0) (fun _ _ _ _ _ => True) (fun _ U o U' => ∃ v L, o = .returned v ∧ own_Q (.int 10) h0 n0 v U'.heap L ∧ FrameEnd U o U' L ({ frames := 0, cells := 0, slots := 0, locals := 0 } : Room).cells ({ frames := 0, cells := 0, slots := 0, locals := 0 } : Room).slots) := by
  refine MetFree.of_bodySF (by decide +kernel) hisR ?_
  intro p e s m args below meth c s₁ Bd hml0 hP hK
  obtain ⟨rfl, hZ, hh⟩ := hP
  have hx := Bd.exec
  have hby := Bd.bytes
  have hlk : meth.locks = false := Bd.notSynchronized
  have hml : c.maxLocals = 2 := hml0
  have hown : s.vm.findClass "java/lang/Math" = some m.cls := findClass_of_methodNamed Bd.named
  have hnm := (name_of_methodNamed Bd.named Bd.method).1
  have X0 : Stand p l e ({ frames := 0, cells := 0, slots := 0, locals := 0 } : Room) s m #[(.int (10 : Int32)), (.int (1 : Int32))] below meth c s₁ [] 0 0 := Stand.of_body Bd
  have e0 : s₁.heap = h0 := by rw [← hh, Bd.state]; rfl
  have N0 := Fr.nil n0
  show own_E p e below (own_P s (own_Q (.int 10) h0 n0) ({ frames := 0, cells := 0, slots := 0, locals := 0 } : Room).cells ({ frames := 0, cells := 0, slots := 0, locals := 0 } : Room).slots) s₁ (entryFrame m #[(.int (10 : Int32)), (.int (1 : Int32))] 2)
  refine own_cast (own_ef18 m (10 : Int32) (1 : Int32)) ?_
  show own_E p e below _ s₁ (mkF m 0 #[.val (.int (10 : Int32)), .val (.int (1 : Int32))] [])
  refine own_iloadN X0 hx (hb hby own_d14_0) rfl ?_
  show own_E p e below _ s₁ (mkF m 1 #[.val (.int (10 : Int32)), .val (.int (1 : Int32))] [(.int (10 : Int32))])
  refine own_iloadN X0 hx (hb hby own_d14_1) rfl ?_
  show own_E p e below _ s₁ (mkF m 2 #[.val (.int (10 : Int32)), .val (.int (1 : Int32))] [(.int (1 : Int32)), (.int (10 : Int32))])
  refine own_icmpNo X0 hx (hb hby own_d14_2) (by decide +kernel) ?_
  show own_E p e below _ s₁ (mkF m 5 #[.val (.int (10 : Int32)), .val (.int (1 : Int32))] [])
  refine own_iloadN X0 hx (hb hby own_d14_5) rfl ?_
  show own_E p e below _ s₁ (mkF m 6 #[.val (.int (10 : Int32)), .val (.int (1 : Int32))] [(.int (10 : Int32))])
  refine own_goto X0 hx (hb hby own_d14_6) 10 (by decide) (by decide) ?_
  show own_E p e below _ s₁ (mkF m 10 #[.val (.int (10 : Int32)), .val (.int (1 : Int32))] [(.int (10 : Int32))])
  refine own_retI X0 hx Bd.returns hlk (hb hby own_d14_10) (by decide) (by decide) ?_
  rw [e0]
  exact ⟨rfl, N0, rfl⟩

def own_QW (Z : State) (a1 : Addr) (vs : List Value) (i j : Int32) (r : Addr → Option Value) (h0 : Heap) (n0 : Nat) (v : Option Value) (h : Heap) (L : List Loc) : Prop := ∃ d k, v = r d ∧ Fr n0 L ∧ Keep h0 h [a1] ∧ h0.size ≤ d ∧ Fld Z h a1 "java/util/ArrayList" "elementData" "[Ljava/lang/Object;" (.ref d) ∧ Fld Z h a1 "java/util/ArrayList" "size" "I" (.int i) ∧ Fld Z h a1 "java/util/AbstractList" "modCount" "I" (.int j) ∧ Arv Z h d k (.object "java/lang/Object") (10 : Int32) vs .null ∧ Ovr Z k "java/lang/Object"
theorem own_ef19 (m : MethodId) (x0 : Addr) (x1 : Int32) : entryFrame m #[(.ref x0), (.int x1)] 4 = mkF m 0 #[.val (.ref x0), .val (.int x1), .unset, .unset] [] := by first | (simp [entryFrame, mkF, argsToLocals, Value.category]; done) | rfl
theorem own_d15_0 : decode jdk_38_method_6_code 0 = .ok (.aload_n 0, 1) := by decide +kernel
theorem own_d15_1 : decode jdk_38_method_6_code 1 = .ok (.getfield 9, 3) := by decide +kernel
theorem own_d15_4 : decode jdk_38_method_6_code 4 = .ok (.arraylength, 1) := by decide +kernel
theorem own_d15_5 : decode jdk_38_method_6_code 5 = .ok (.istore_n 2, 1) := by decide +kernel
theorem own_d15_6 : decode jdk_38_method_6_code 6 = .ok (.iload_n 2, 1) := by decide +kernel
theorem own_d15_7 : decode jdk_38_method_6_code 7 = .ok (.ifCond .gt 13, 3) := by decide +kernel
theorem own_d15_10 : decode jdk_38_method_6_code 10 = .ok (.aload_n 0, 1) := by decide +kernel
theorem own_d15_11 : decode jdk_38_method_6_code 11 = .ok (.getfield 9, 3) := by decide +kernel
theorem own_d15_14 : decode jdk_38_method_6_code 14 = .ok (.getstatic 39, 3) := by decide +kernel
theorem own_d15_17 : decode jdk_38_method_6_code 17 = .ok (.if_acmp .eq 28, 3) := by decide +kernel
theorem own_d15_45 : decode jdk_38_method_6_code 45 = .ok (.aload_n 0, 1) := by decide +kernel
theorem own_d15_46 : decode jdk_38_method_6_code 46 = .ok (.bipush 10, 2) := by decide +kernel
theorem own_d15_48 : decode jdk_38_method_6_code 48 = .ok (.iload_n 1, 1) := by decide +kernel
theorem own_pd5 : parseMethodDescriptor "(II)I" = some ⟨[.int, .int], some .int⟩ := by decide +kernel
theorem own_d15_49 : decode jdk_38_method_6_code 49 = .ok (.invokestatic 79, 3) := by decide +kernel
theorem own_d15_52 : decode jdk_38_method_6_code 52 = .ok (.anewarray 7, 3) := by decide +kernel
theorem own_d15_55 : decode jdk_38_method_6_code 55 = .ok (.dup_x1, 1) := by decide +kernel
theorem own_d15_56 : decode jdk_38_method_6_code 56 = .ok (.putfield 9, 3) := by decide +kernel
theorem own_d15_59 : decode jdk_38_method_6_code 59 = .ok (.areturn, 1) := by decide +kernel
set_option maxRecDepth 65536 in
set_option maxHeartbeats 40000000 in
theorem own_rmG1 (l : Launch) (Z : State) (a0 : Array Value) (hw : ∀ d ∈ tables_1, d.before a0 Z = true) (ws : List Jvm.Cond) (a1 wd : Addr) (cwd : Cell) (h0 : Heap) (n0 : Nat) (Z0 : n0 ≤ h0.size) (O0 : Old Z n0 h0) (SD : Sta Z Z.heap "java/util/ArrayList" "DEFAULTCAPACITY_EMPTY_ELEMENTDATA" "[Ljava/lang/Object;" (.ref wd)) (AW : Arr Z Z.heap wd cwd (.object "java/lang/Object")) (zw : cwd.slots.size = 0) (LD : Fld Z h0 a1 "java/util/ArrayList" "elementData" "[Ljava/lang/Object;" (.ref wd)) (LZ : Fld Z h0 a1 "java/util/ArrayList" "size" "I" (.int (0 : Int32))) (LM : Fld Z h0 a1 "java/util/AbstractList" "modCount" "I" (.int (1 : Int32))) (LX : Exa Z h0 a1 "java/util/ArrayList") (g0 : n0 ≤ a1) :
    MetFree l (⟨"java/util/ArrayList", "grow", "(I)[Ljava/lang/Object;"⟩ : MethodName) (head1 (Jvm.Cond.code (⟨"java/util/ArrayList", "grow", "(I)[Ljava/lang/Object;"⟩ : MethodName) jdk_38_method_6_code 4 (some (.array (.object "java/lang/Object"))) :: ws) ({ frames := 1, cells := 1, slots := 10, locals := 20 } : Room)) (fun a U => a = #[(.ref a1), (.int (1 : Int32))] ∧ Z.Warmed39 U.vm ∧ U.heap = h0) (fun _ _ _ _ _ => True) (fun _ U o U' => ∃ v L, o = .returned v ∧ own_QW Z a1 [] 0 1 (fun d => some (.ref d)) h0 n0 v U'.heap L ∧ FrameEnd U o U' L ({ frames := 1, cells := 1, slots := 10, locals := 20 } : Room).cells ({ frames := 1, cells := 1, slots := 10, locals := 20 } : Room).slots) := by
  refine MetFree.of_bodySF (plainFor_of_name own_pn3) hisR ?_
  intro p e s m args below meth c s₁ Bd hml0 hP hK
  obtain ⟨rfl, hZ, hh⟩ := hP
  have hx := Bd.exec
  have hby := Bd.bytes
  have hlk : meth.locks = false := Bd.notSynchronized
  have hml : c.maxLocals = 4 := hml0
  have hown : s.vm.findClass "java/util/ArrayList" = some m.cls := findClass_of_methodNamed Bd.named
  have hnm := (name_of_methodNamed Bd.named Bd.method).1
  have X0 : Stand p l e ({ frames := 1, cells := 1, slots := 10, locals := 20 } : Room) s m #[(.ref a1), (.int (1 : Int32))] below meth c s₁ [] 0 0 := Stand.of_body Bd
  have e0 : s₁.heap = h0 := by rw [← hh, Bd.state]; rfl
  have N0 := Fr.nil n0
  show own_E p e below (own_P s (own_QW Z a1 [] 0 1 (fun d => some (.ref d)) h0 n0) ({ frames := 1, cells := 1, slots := 10, locals := 20 } : Room).cells ({ frames := 1, cells := 1, slots := 10, locals := 20 } : Room).slots) s₁ (entryFrame m #[(.ref a1), (.int (1 : Int32))] 4)
  refine own_cast (own_ef19 m a1 (1 : Int32)) ?_
  have od80 := (O0).1
  have lt81 := own_lt (LD).lt
  have lt82 := own_lt (LX).lt
  show own_E p e below _ s₁ (mkF m 0 #[.val (.ref a1), .val (.int (1 : Int32)), .unset, .unset] [])
  refine own_aloadN X0 hx (hb hby own_d15_0) rfl rfl ?_
  show own_E p e below _ s₁ (mkF m 1 #[.val (.ref a1), .val (.int (1 : Int32)), .unset, .unset] [(.ref a1)])
  obtain ⟨T83, X83, e83, st83⟩ := getF X0 hx hZ hown (host := "") (Or.inl (own_w hw 66 rfl)) Via.refl e0 LD (g := (mkF m 1 #[.val (.ref a1), .val (.int (1 : Int32)), .unset, .unset] [(.ref a1)])) rfl rfl (hb hby own_d15_1)
  refine own_go st83 ?_
  show own_E p e below _ T83 (mkF m 4 #[.val (.ref a1), .val (.int (1 : Int32)), .unset, .unset] [(.ref wd)])
  refine own_alen X83 hx hZ e83 (AW.ext (O0).2) (z := (0 : Int32)) (by rw [zw]; decide) (hb hby own_d15_4) ?_
  show own_E p e below _ T83 (mkF m 5 #[.val (.ref a1), .val (.int (1 : Int32)), .unset, .unset] [(.int (0 : Int32))])
  refine own_istoreN X83 hx (hb hby own_d15_5) (l' := #[.val (.ref a1), .val (.int (1 : Int32)), .val (.int (0 : Int32)), .unset]) rfl ?_
  show own_E p e below _ T83 (mkF m 6 #[.val (.ref a1), .val (.int (1 : Int32)), .val (.int (0 : Int32)), .unset] [])
  refine own_iloadN X83 hx (hb hby own_d15_6) rfl ?_
  show own_E p e below _ T83 (mkF m 7 #[.val (.ref a1), .val (.int (1 : Int32)), .val (.int (0 : Int32)), .unset] [(.int (0 : Int32))])
  refine own_ifNo X83 hx (hb hby own_d15_7) (by decide +kernel) ?_
  show own_E p e below _ T83 (mkF m 10 #[.val (.ref a1), .val (.int (1 : Int32)), .val (.int (0 : Int32)), .unset] [])
  refine own_aloadN X83 hx (hb hby own_d15_10) rfl rfl ?_
  show own_E p e below _ T83 (mkF m 11 #[.val (.ref a1), .val (.int (1 : Int32)), .val (.int (0 : Int32)), .unset] [(.ref a1)])
  obtain ⟨T84, X84, e84, st84⟩ := getF X83 hx hZ hown (host := "") (Or.inl (own_w hw 66 rfl)) Via.refl e83 LD (g := (mkF m 11 #[.val (.ref a1), .val (.int (1 : Int32)), .val (.int (0 : Int32)), .unset] [(.ref a1)])) rfl rfl (hb hby own_d15_11)
  refine own_go st84 ?_
  show own_E p e below _ T84 (mkF m 14 #[.val (.ref a1), .val (.int (1 : Int32)), .val (.int (0 : Int32)), .unset] [(.ref wd)])
  obtain ⟨T85, X85, e85, st85⟩ := getS2 X84 hx hZ hown (host := "") (Or.inl (own_w hw 65 rfl)) Via.refl e84 (SD.ext (O0).2) (g := (mkF m 14 #[.val (.ref a1), .val (.int (1 : Int32)), .val (.int (0 : Int32)), .unset] [(.ref wd)])) rfl (hb hby own_d15_14)
  refine own_go st85 ?_
  show own_E p e below _ T85 (mkF m 17 #[.val (.ref a1), .val (.int (1 : Int32)), .val (.int (0 : Int32)), .unset] [(.ref wd), (.ref wd)])
  refine own_acmpYes X85 hx (hb hby own_d15_17) rfl rfl (XT.aa_eq_t rfl) 45 (by decide) (by decide) ?_
  show own_E p e below _ T85 (mkF m 45 #[.val (.ref a1), .val (.int (1 : Int32)), .val (.int (0 : Int32)), .unset] [])
  refine own_aloadN X85 hx (hb hby own_d15_45) rfl rfl ?_
  show own_E p e below _ T85 (mkF m 46 #[.val (.ref a1), .val (.int (1 : Int32)), .val (.int (0 : Int32)), .unset] [(.ref a1)])
  refine own_bipush X85 hx (hb hby own_d15_46) (v := (10 : Int32)) (by decide) ?_
  show own_E p e below _ T85 (mkF m 48 #[.val (.ref a1), .val (.int (1 : Int32)), .val (.int (0 : Int32)), .unset] [(.int (10 : Int32)), (.ref a1)])
  refine own_iloadN X85 hx (hb hby own_d15_48) rfl ?_
  show own_E p e below _ T85 (mkF m 49 #[.val (.ref a1), .val (.int (1 : Int32)), .val (.int (0 : Int32)), .unset] [(.int (1 : Int32)), (.int (10 : Int32)), (.ref a1)])
  obtain ⟨_, _, ⟨T86, L86, k86, n86⟩, -, X86, ⟨Lc86, hQ86, l86, y86, z86⟩, st86⟩ := Jvm.LawKit.callS X85 hx (y := (⟨"java/lang/Math", "max", "(II)I"⟩ : MethodName)) hown (mvT hZ (own_w hw 162 rfl)) (mvT hZ (own_w hw 163 rfl)) (mvT hZ (own_w hw 164 rfl)) (mvT hZ (own_w hw 165 rfl)) (by decide) (backOf (W := 1) (own_rmMX l Z a0 hw [] h0 n0 (by omega)) hZ (own_w hw 165 rfl) (own_w hw 164 rfl) (by decide) (by decide)) (g := (mkF m 49 #[.val (.ref a1), .val (.int (1 : Int32)), .val (.int (0 : Int32)), .unset] [(.int (1 : Int32)), (.int (10 : Int32)), (.ref a1)])) rfl (by rw [hml]; rfl) (argsL := [(.int (10 : Int32)), (.int (1 : Int32))]) (rest := [(.ref a1)]) (lenOf own_pd5 rfl) rfl (by show 2 * 0 + _ ≤ _; exact Nat.le_of_eq rfl) (hb hby own_d15_49) (fun _ _ => ⟨rfl, e85, Nat.le_of_ble_eq_true rfl, Nat.le_of_ble_eq_true rfl⟩)
  dsimp only [Pt.U, Pt.locs, Pt.cells, Pt.slots] at X86 l86 y86 z86 st86 hQ86
  subst l86 y86 z86
  obtain ⟨rfl, M86, e86⟩ := hQ86
  have N86 := Fr.app N0 M86
  refine own_go st86 ?_
  show own_E p e below _ T86 (mkF m 52 #[.val (.ref a1), .val (.int (1 : Int32)), .val (.int (0 : Int32)), .unset] [(.int (10 : Int32)), (.ref a1)])
  obtain ⟨T87, h87, kc87, X87, e87, E87, A87, O87, st87⟩ := newR X86 hx hZ hown (own_w hw 166 rfl) (own_w hw 167 rfl) e86 (g := (mkF m 52 #[.val (.ref a1), .val (.int (1 : Int32)), .val (.int (0 : Int32)), .unset] [(.int (10 : Int32)), (.ref a1)])) rfl (hb hby own_d15_52) rfl (by decide : ¬ ((10 : Int32) < (0 : Int32))) (cap := 10) (by decide : ((10 : Int32)).toNatClampNeg ≤ 10) (by decide) (by decide) (by decide)
  obtain ⟨b87, g87⟩ : ∃ z, z = h0.size := ⟨_, rfl⟩
  rw [← g87] at A87 st87
  have z87 : h0.size ≤ h87.size := E87.1
  have t87 : b87 < h87.size := A87.lt
  have V87 : Arv Z h87 b87 kc87 (.object "java/lang/Object") (10 : Int32) [] .null := Arv.new A87 (by decide : ¬ ((10 : Int32) < (0 : Int32)))
  refine own_go st87 ?_
  have lt88 := own_lt (V87).lt
  show own_E p e below _ T87 (mkF m 55 #[.val (.ref a1), .val (.int (1 : Int32)), .val (.int (0 : Int32)), .unset] [(.ref b87), (.ref a1)])
  refine own_dupX1 X87 hx (hb hby own_d15_55) rfl rfl ?_
  show own_E p e below _ T87 (mkF m 56 #[.val (.ref a1), .val (.int (1 : Int32)), .val (.int (0 : Int32)), .unset] [(.ref b87), (.ref a1), (.ref b87)])
  obtain ⟨T89, h89, X89, e89, W89, st89⟩ := putF X87 hx hZ hown (host := "") (Or.inl (own_w hw 66 rfl)) Via.refl e87 (LD.ext E87) (LX.ext E87) (Or.inl (own_w hw 67 rfl)) (own_w hw 45 rfl) (ty := (.array (.object "java/lang/Object"))) (by decide) rfl rfl (g := (mkF m 56 #[.val (.ref a1), .val (.int (1 : Int32)), .val (.int (0 : Int32)), .unset] [(.ref b87), (.ref a1), (.ref b87)])) rfl rfl (hb hby own_d15_56)
  refine own_go st89 ?_
  have N89 := Fr.snoc X89 N86 (by omega)
  have z89 : h87.size ≤ h89.size := Nat.le_of_eq W89.size.symm
  have F89 : Fld Z h89 a1 "java/util/ArrayList" "elementData" "[Ljava/lang/Object;" (.ref b87) := Fld.same W89 (LD.ext E87)
  show own_E p e below _ T89 (mkF m 59 #[.val (.ref a1), .val (.int (1 : Int32)), .val (.int (0 : Int32)), .unset] [(.ref b87)])
  refine own_retA X89 hx Bd.returns rfl rfl hlk (hb hby own_d15_59) (by decide) (by decide) ?_
  rw [e89]
  exact ⟨_, _, rfl, N89, (((Keep.refl _ _).ext E87).wr W89 (Or.inl (List.mem_of_getElem? (i := 0) rfl))), (by omega), F89, ((LZ.ext E87).other W89 (Or.inr (slot_ne (Or.inl (own_w hw 126 rfl)) (Or.inl (own_w hw 67 rfl)) (by decide) (t := .int) (t' := (.array (.object "java/lang/Object"))) (by decide) (by decide)))), ((LM.ext E87).other W89 (Or.inr (slot_ne (Or.inl (own_w hw 64 rfl)) (Or.inl (own_w hw 67 rfl)) (by decide) (t := .int) (t' := (.array (.object "java/lang/Object"))) (by decide) (by decide)))), (V87.other W89 (by first | assumption | exact Ne.symm (by assumption) | exact own_ne (by omega))), O87⟩

theorem own_ef20 (m : MethodId) (x0 : Addr) : entryFrame m #[(.ref x0)] 1 = mkF m 0 #[.val (.ref x0)] [] := by first | (simp [entryFrame, mkF, argsToLocals, Value.category]; done) | rfl
theorem own_d16_0 : decode jdk_38_method_7_code 0 = .ok (.aload_n 0, 1) := by decide +kernel
theorem own_d16_1 : decode jdk_38_method_7_code 1 = .ok (.aload_n 0, 1) := by decide +kernel
theorem own_d16_2 : decode jdk_38_method_7_code 2 = .ok (.getfield 48, 3) := by decide +kernel
theorem own_d16_5 : decode jdk_38_method_7_code 5 = .ok (.iconst 1, 1) := by decide +kernel
theorem own_d16_6 : decode jdk_38_method_7_code 6 = .ok (.iadd, 1) := by decide +kernel
theorem own_pd6 : parseMethodDescriptor "(I)[Ljava/lang/Object;" = some ⟨[.int], some (.array (.object "java/lang/Object"))⟩ := by decide +kernel
theorem own_d16_7 : decode jdk_38_method_7_code 7 = .ok (.invokevirtual 69, 3) := by decide +kernel
theorem own_d16_10 : decode jdk_38_method_7_code 10 = .ok (.areturn, 1) := by decide +kernel
set_option maxRecDepth 65536 in
set_option maxHeartbeats 40000000 in
theorem own_rmG0 (l : Launch) (Z : State) (a0 : Array Value) (hw : ∀ d ∈ tables_1, d.before a0 Z = true) (ws : List Jvm.Cond) (a1 wd : Addr) (cwd : Cell) (h0 : Heap) (n0 : Nat) (Z0 : n0 ≤ h0.size) (O0 : Old Z n0 h0) (SD : Sta Z Z.heap "java/util/ArrayList" "DEFAULTCAPACITY_EMPTY_ELEMENTDATA" "[Ljava/lang/Object;" (.ref wd)) (AW : Arr Z Z.heap wd cwd (.object "java/lang/Object")) (zw : cwd.slots.size = 0) (LD : Fld Z h0 a1 "java/util/ArrayList" "elementData" "[Ljava/lang/Object;" (.ref wd)) (LZ : Fld Z h0 a1 "java/util/ArrayList" "size" "I" (.int (0 : Int32))) (LM : Fld Z h0 a1 "java/util/AbstractList" "modCount" "I" (.int (1 : Int32))) (LX : Exa Z h0 a1 "java/util/ArrayList") (g0 : n0 ≤ a1) :
    MetFree l (⟨"java/util/ArrayList", "grow", "()[Ljava/lang/Object;"⟩ : MethodName) (head1 (Jvm.Cond.code (⟨"java/util/ArrayList", "grow", "()[Ljava/lang/Object;"⟩ : MethodName) jdk_38_method_7_code 1 (some (.array (.object "java/lang/Object"))) :: ws) ({ frames := 2, cells := 1, slots := 10, locals := 40 } : Room)) (fun a U => a = #[(.ref a1)] ∧ Z.Warmed39 U.vm ∧ U.heap = h0) (fun _ _ _ _ _ => True) (fun _ U o U' => ∃ v L, o = .returned v ∧ own_QW Z a1 [] 0 1 (fun d => some (.ref d)) h0 n0 v U'.heap L ∧ FrameEnd U o U' L ({ frames := 2, cells := 1, slots := 10, locals := 40 } : Room).cells ({ frames := 2, cells := 1, slots := 10, locals := 40 } : Room).slots) := by
  refine MetFree.of_bodySF (plainFor_of_name own_pn3) hisR ?_
  intro p e s m args below meth c s₁ Bd hml0 hP hK
  obtain ⟨rfl, hZ, hh⟩ := hP
  have hx := Bd.exec
  have hby := Bd.bytes
  have hlk : meth.locks = false := Bd.notSynchronized
  have hml : c.maxLocals = 1 := hml0
  have hown : s.vm.findClass "java/util/ArrayList" = some m.cls := findClass_of_methodNamed Bd.named
  have hnm := (name_of_methodNamed Bd.named Bd.method).1
  have X0 : Stand p l e ({ frames := 2, cells := 1, slots := 10, locals := 40 } : Room) s m #[(.ref a1)] below meth c s₁ [] 0 0 := Stand.of_body Bd
  have e0 : s₁.heap = h0 := by rw [← hh, Bd.state]; rfl
  have N0 := Fr.nil n0
  show own_E p e below (own_P s (own_QW Z a1 [] 0 1 (fun d => some (.ref d)) h0 n0) ({ frames := 2, cells := 1, slots := 10, locals := 40 } : Room).cells ({ frames := 2, cells := 1, slots := 10, locals := 40 } : Room).slots) s₁ (entryFrame m #[(.ref a1)] 1)
  refine own_cast (own_ef20 m a1) ?_
  have od90 := (O0).1
  have lt91 := own_lt (LD).lt
  have lt92 := own_lt (LX).lt
  show own_E p e below _ s₁ (mkF m 0 #[.val (.ref a1)] [])
  refine own_aloadN X0 hx (hb hby own_d16_0) rfl rfl ?_
  show own_E p e below _ s₁ (mkF m 1 #[.val (.ref a1)] [(.ref a1)])
  refine own_aloadN X0 hx (hb hby own_d16_1) rfl rfl ?_
  show own_E p e below _ s₁ (mkF m 2 #[.val (.ref a1)] [(.ref a1), (.ref a1)])
  obtain ⟨T93, X93, e93, st93⟩ := getF X0 hx hZ hown (host := "") (Or.inl (own_w hw 146 rfl)) Via.refl e0 LZ (g := (mkF m 2 #[.val (.ref a1)] [(.ref a1), (.ref a1)])) rfl rfl (hb hby own_d16_2)
  refine own_go st93 ?_
  show own_E p e below _ T93 (mkF m 5 #[.val (.ref a1)] [(.int (0 : Int32)), (.ref a1)])
  refine own_iconst X93 hx (hb hby own_d16_5) (v := (1 : Int32)) (by decide) ?_
  show own_E p e below _ T93 (mkF m 6 #[.val (.ref a1)] [(.int (1 : Int32)), (.int (0 : Int32)), (.ref a1)])
  refine own_iadd X93 hx (hb hby own_d16_6) (z := (1 : Int32)) (by decide +kernel) ?_
  show own_E p e below _ T93 (mkF m 7 #[.val (.ref a1)] [(.int (1 : Int32)), (.ref a1)])
  obtain ⟨cq94, kq94, qa94, qb94, qc94⟩ := isOf hZ e93 LX
  obtain ⟨cc94, pa94, pb94⟩ := (LX).cell
  obtain ⟨_, _, ⟨T94, L94, k94, n94⟩, -, X94, ⟨Lc94, hQ94, l94, y94, z94⟩, st94⟩ := X93.privateBack hx (y := (⟨"java/util/ArrayList", "grow", "(I)[Ljava/lang/Object;"⟩ : MethodName)) hown (mvT hZ (own_w hw 157 rfl)) (mvT hZ (own_w hw 158 rfl)) (mvT hZ (own_w hw 160 rfl)) (Cond.privateMethod_at (mvP hZ (own_w hw 159 rfl) (args := #[]))) (mvT hZ (own_w hw 161 rfl)) (by decide) (backOf (W := 0) (own_rmG1 l Z a0 hw [] a1 wd cwd h0 n0 Z0 O0 SD AW zw LD LZ LM LX g0) hZ (own_w hw 161 rfl) (own_w hw 46 rfl) (by decide) (by decide)) (g := (mkF m 7 #[.val (.ref a1)] [(.int (1 : Int32)), (.ref a1)])) rfl (by rw [hml]; rfl) (Steps.refl _) (a := a1) (by rw [e93]; exact pa94) pb94 (argsL := [(.int (1 : Int32))]) (rest := []) (lenOf own_pd6 rfl) rfl (by show 2 * 0 + _ ≤ _; exact Nat.le_of_eq rfl) (hb hby own_d16_7) (fun _ _ => ⟨rfl, e93, Nat.le_of_ble_eq_true rfl, Nat.le_of_ble_eq_true rfl⟩)
  dsimp only [Pt.U, Pt.locs, Pt.cells, Pt.slots] at X94 l94 y94 z94 st94 hQ94
  subst l94 y94 z94
  obtain ⟨d94, kd94, rfl, M94, K94, gd94, F94, G94, J94, V94, O94⟩ := hQ94
  have N94 := Fr.app N0 M94
  refine own_go (fun _ k => st94.trans k) ?_
  have z94 : h0.size ≤ T94.heap.size := K94.1
  show own_E p e below _ T94 (mkF m 10 #[.val (.ref a1)] [(.ref d94)])
  refine own_retA X94 hx Bd.returns rfl rfl hlk (hb hby own_d16_10) (by decide) (by decide) ?_
  exact ⟨_, _, rfl, N94, K94, gd94, F94, G94, J94, V94, O94⟩

theorem own_ef21 (m : MethodId) (x0 : Addr) (x1 : Addr) (x2 : Addr) (x3 : Int32) : entryFrame m #[(.ref x0), (.ref x1), (.ref x2), (.int x3)] 4 = mkF m 0 #[.val (.ref x0), .val (.ref x1), .val (.ref x2), .val (.int x3)] [] := by first | (simp [entryFrame, mkF, argsToLocals, Value.category]; done) | rfl
theorem own_d17_0 : decode jdk_38_method_24_code 0 = .ok (.iload_n 3, 1) := by decide +kernel
theorem own_d17_1 : decode jdk_38_method_24_code 1 = .ok (.aload_n 2, 1) := by decide +kernel
theorem own_d17_2 : decode jdk_38_method_24_code 2 = .ok (.arraylength, 1) := by decide +kernel
theorem own_d17_3 : decode jdk_38_method_24_code 3 = .ok (.if_icmp .ne 8, 3) := by decide +kernel
theorem own_d17_6 : decode jdk_38_method_24_code 6 = .ok (.aload_n 0, 1) := by decide +kernel
theorem own_pd7 : parseMethodDescriptor "()[Ljava/lang/Object;" = some ⟨[], some (.array (.object "java/lang/Object"))⟩ := by decide +kernel
theorem own_d17_7 : decode jdk_38_method_24_code 7 = .ok (.invokevirtual 129, 3) := by decide +kernel
theorem own_d17_10 : decode jdk_38_method_24_code 10 = .ok (.astore_n 2, 1) := by decide +kernel
theorem own_d17_11 : decode jdk_38_method_24_code 11 = .ok (.aload_n 2, 1) := by decide +kernel
theorem own_d17_12 : decode jdk_38_method_24_code 12 = .ok (.iload_n 3, 1) := by decide +kernel
theorem own_d17_13 : decode jdk_38_method_24_code 13 = .ok (.aload_n 1, 1) := by decide +kernel
theorem own_d17_14 : decode jdk_38_method_24_code 14 = .ok (.aastore, 1) := by decide +kernel
theorem own_d17_15 : decode jdk_38_method_24_code 15 = .ok (.aload_n 0, 1) := by decide +kernel
theorem own_d17_16 : decode jdk_38_method_24_code 16 = .ok (.iload_n 3, 1) := by decide +kernel
theorem own_d17_17 : decode jdk_38_method_24_code 17 = .ok (.iconst 1, 1) := by decide +kernel
theorem own_d17_18 : decode jdk_38_method_24_code 18 = .ok (.iadd, 1) := by decide +kernel
theorem own_d17_19 : decode jdk_38_method_24_code 19 = .ok (.putfield 48, 3) := by decide +kernel
theorem own_d17_22 : decode jdk_38_method_24_code 22 = .ok (.return_, 1) := by decide +kernel
set_option maxRecDepth 65536 in
set_option maxHeartbeats 40000000 in
theorem own_rmB0 (l : Launch) (Z : State) (a0 : Array Value) (hw : ∀ d ∈ tables_1, d.before a0 Z = true) (ws : List Jvm.Cond) (a1 p0 wd : Addr) (cwd : Cell) (h0 : Heap) (n0 : Nat) (Z0 : n0 ≤ h0.size) (O0 : Old Z n0 h0) (SD : Sta Z Z.heap "java/util/ArrayList" "DEFAULTCAPACITY_EMPTY_ELEMENTDATA" "[Ljava/lang/Object;" (.ref wd)) (AW : Arr Z Z.heap wd cwd (.object "java/lang/Object")) (zw : cwd.slots.size = 0) (LD : Fld Z h0 a1 "java/util/ArrayList" "elementData" "[Ljava/lang/Object;" (.ref wd)) (LZ : Fld Z h0 a1 "java/util/ArrayList" "size" "I" (.int (0 : Int32))) (LM : Fld Z h0 a1 "java/util/AbstractList" "modCount" "I" (.int (1 : Int32))) (LX : Exa Z h0 a1 "java/util/ArrayList") (g0 : n0 ≤ a1) (PX : Exa Z h0 p0 "com/example/narrow_gate/narrowgate/Target$Parameter") :
    MetFree l (⟨"java/util/ArrayList", "add", "(Ljava/lang/Object;[Ljava/lang/Object;I)V"⟩ : MethodName) (head1 (Jvm.Cond.code (⟨"java/util/ArrayList", "add", "(Ljava/lang/Object;[Ljava/lang/Object;I)V"⟩ : MethodName) jdk_38_method_24_code 4 none :: ws) ({ frames := 3, cells := 1, slots := 10, locals := 60 } : Room)) (fun a U => a = #[(.ref a1), (.ref p0), (.ref wd), (.int (0 : Int32))] ∧ Z.Warmed39 U.vm ∧ U.heap = h0) (fun _ _ _ _ _ => True) (fun _ U o U' => ∃ v L, o = .returned v ∧ own_QW Z a1 [.ref p0] 1 1 (fun _ => none) h0 n0 v U'.heap L ∧ FrameEnd U o U' L ({ frames := 3, cells := 1, slots := 10, locals := 60 } : Room).cells ({ frames := 3, cells := 1, slots := 10, locals := 60 } : Room).slots) := by
  refine MetFree.of_bodySF (plainFor_of_name own_pn3) hisR ?_
  intro p e s m args below meth c s₁ Bd hml0 hP hK
  obtain ⟨rfl, hZ, hh⟩ := hP
  have hx := Bd.exec
  have hby := Bd.bytes
  have hlk : meth.locks = false := Bd.notSynchronized
  have hml : c.maxLocals = 4 := hml0
  have hown : s.vm.findClass "java/util/ArrayList" = some m.cls := findClass_of_methodNamed Bd.named
  have hnm := (name_of_methodNamed Bd.named Bd.method).1
  have X0 : Stand p l e ({ frames := 3, cells := 1, slots := 10, locals := 60 } : Room) s m #[(.ref a1), (.ref p0), (.ref wd), (.int (0 : Int32))] below meth c s₁ [] 0 0 := Stand.of_body Bd
  have e0 : s₁.heap = h0 := by rw [← hh, Bd.state]; rfl
  have N0 := Fr.nil n0
  show own_E p e below (own_P s (own_QW Z a1 [.ref p0] 1 1 (fun _ => none) h0 n0) ({ frames := 3, cells := 1, slots := 10, locals := 60 } : Room).cells ({ frames := 3, cells := 1, slots := 10, locals := 60 } : Room).slots) s₁ (entryFrame m #[(.ref a1), (.ref p0), (.ref wd), (.int (0 : Int32))] 4)
  refine own_cast (own_ef21 m a1 p0 wd (0 : Int32)) ?_
  have od95 := (O0).1
  have lt96 := own_lt (PX).lt
  have lt97 := own_lt (LD).lt
  have lt98 := own_lt (LX).lt
  show own_E p e below _ s₁ (mkF m 0 #[.val (.ref a1), .val (.ref p0), .val (.ref wd), .val (.int (0 : Int32))] [])
  refine own_iloadN X0 hx (hb hby own_d17_0) rfl ?_
  show own_E p e below _ s₁ (mkF m 1 #[.val (.ref a1), .val (.ref p0), .val (.ref wd), .val (.int (0 : Int32))] [(.int (0 : Int32))])
  refine own_aloadN X0 hx (hb hby own_d17_1) rfl rfl ?_
  show own_E p e below _ s₁ (mkF m 2 #[.val (.ref a1), .val (.ref p0), .val (.ref wd), .val (.int (0 : Int32))] [(.ref wd), (.int (0 : Int32))])
  refine own_alen X0 hx hZ e0 (AW.ext (O0).2) (z := (0 : Int32)) (by rw [zw]; decide) (hb hby own_d17_2) ?_
  show own_E p e below _ s₁ (mkF m 3 #[.val (.ref a1), .val (.ref p0), .val (.ref wd), .val (.int (0 : Int32))] [(.int (0 : Int32)), (.int (0 : Int32))])
  refine own_icmpNo X0 hx (hb hby own_d17_3) (by decide +kernel) ?_
  show own_E p e below _ s₁ (mkF m 6 #[.val (.ref a1), .val (.ref p0), .val (.ref wd), .val (.int (0 : Int32))] [])
  refine own_aloadN X0 hx (hb hby own_d17_6) rfl rfl ?_
  show own_E p e below _ s₁ (mkF m 7 #[.val (.ref a1), .val (.ref p0), .val (.ref wd), .val (.int (0 : Int32))] [(.ref a1)])
  obtain ⟨cq99, kq99, qa99, qb99, qc99⟩ := isOf hZ e0 LX
  obtain ⟨cc99, pa99, pb99⟩ := (LX).cell
  obtain ⟨_, _, ⟨T99, L99, k99, n99⟩, -, X99, ⟨Lc99, hQ99, l99, y99, z99⟩, st99⟩ := X0.privateBack hx (y := (⟨"java/util/ArrayList", "grow", "()[Ljava/lang/Object;"⟩ : MethodName)) hown (mvT hZ (own_w hw 152 rfl)) (mvT hZ (own_w hw 153 rfl)) (mvT hZ (own_w hw 155 rfl)) (Cond.privateMethod_at (mvP hZ (own_w hw 154 rfl) (args := #[]))) (mvT hZ (own_w hw 156 rfl)) (by decide) (backOf (W := 0) (own_rmG0 l Z a0 hw [] a1 wd cwd h0 n0 Z0 O0 SD AW zw LD LZ LM LX g0) hZ (own_w hw 156 rfl) (own_w hw 46 rfl) (by decide) (by decide)) (g := (mkF m 7 #[.val (.ref a1), .val (.ref p0), .val (.ref wd), .val (.int (0 : Int32))] [(.ref a1)])) rfl (by rw [hml]; rfl) (Steps.refl _) (a := a1) (by rw [e0]; exact pa99) pb99 (argsL := []) (rest := []) (lenOf own_pd7 rfl) rfl (by show 2 * 0 + _ ≤ _; exact Nat.le_of_eq rfl) (hb hby own_d17_7) (fun _ _ => ⟨rfl, e0, Nat.le_of_ble_eq_true rfl, Nat.le_of_ble_eq_true rfl⟩)
  dsimp only [Pt.U, Pt.locs, Pt.cells, Pt.slots] at X99 l99 y99 z99 st99 hQ99
  subst l99 y99 z99
  obtain ⟨d99, kd99, rfl, M99, K99, gd99, F99, G99, J99, V99, O99⟩ := hQ99
  have N99 := Fr.app N0 M99
  refine own_go (fun _ k => st99.trans k) ?_
  have z99 : h0.size ≤ T99.heap.size := K99.1
  show own_E p e below _ T99 (mkF m 10 #[.val (.ref a1), .val (.ref p0), .val (.ref wd), .val (.int (0 : Int32))] [(.ref d99)])
  have lt100 := own_lt (V99).lt
  refine own_astoreN X99 hx (hb hby own_d17_10) rfl (l' := #[.val (.ref a1), .val (.ref p0), .val (.ref d99), .val (.int (0 : Int32))]) rfl ?_
  show own_E p e below _ T99 (mkF m 11 #[.val (.ref a1), .val (.ref p0), .val (.ref d99), .val (.int (0 : Int32))] [])
  refine own_aloadN X99 hx (hb hby own_d17_11) rfl rfl ?_
  show own_E p e below _ T99 (mkF m 12 #[.val (.ref a1), .val (.ref p0), .val (.ref d99), .val (.int (0 : Int32))] [(.ref d99)])
  refine own_iloadN X99 hx (hb hby own_d17_12) rfl ?_
  show own_E p e below _ T99 (mkF m 13 #[.val (.ref a1), .val (.ref p0), .val (.ref d99), .val (.int (0 : Int32))] [(.int (0 : Int32)), (.ref d99)])
  refine own_aloadN X99 hx (hb hby own_d17_13) rfl rfl ?_
  show own_E p e below _ T99 (mkF m 14 #[.val (.ref a1), .val (.ref p0), .val (.ref d99), .val (.int (0 : Int32))] [(.ref p0), (.int (0 : Int32)), (.ref d99)])
  have P101 : Arv Z T99.heap d99 kd99 (.object "java/lang/Object") (10 : Int32) [.null] .null := V99.pad (pad_rep [] .null 1)
  obtain ⟨c101, B101, q101, S101, M101, H101, U101⟩ := id P101
  obtain ⟨T102, h102, X102, e102, W102, st102⟩ := stR X99 hx hZ (rfl : T99.heap = T99.heap) B101 (j := (0 : Int32)) (inb_of S101 ⟨(by decide : ¬ ((0 : Int32) < (0 : Int32))), (by decide : (0 : Int32) < (10 : Int32))⟩) rfl (Sto.ofV B101 q101 O99 (Ins.of_exa (PX.keep K99) (own_w hw 168 rfl))) (g := (mkF m 14 #[.val (.ref a1), .val (.ref p0), .val (.ref d99), .val (.int (0 : Int32))] [(.ref p0), (.int (0 : Int32)), (.ref d99)])) rfl rfl (hb hby own_d17_14)
  have V102 : Arv Z h102 d99 kd99 (.object "java/lang/Object") (10 : Int32) [(.ref p0)] .null := Arv.set B101 q101 S101 M101 H101 U101 rfl W102 0 rfl (Nat.le_of_ble_eq_true rfl)
  refine own_go st102 ?_
  have N102 := Fr.snoc X102 N99 (by omega)
  have z102 : T99.heap.size ≤ h102.size := Nat.le_of_eq W102.size.symm
  show own_E p e below _ T102 (mkF m 15 #[.val (.ref a1), .val (.ref p0), .val (.ref d99), .val (.int (0 : Int32))] [])
  refine own_aloadN X102 hx (hb hby own_d17_15) rfl rfl ?_
  show own_E p e below _ T102 (mkF m 16 #[.val (.ref a1), .val (.ref p0), .val (.ref d99), .val (.int (0 : Int32))] [(.ref a1)])
  refine own_iloadN X102 hx (hb hby own_d17_16) rfl ?_
  show own_E p e below _ T102 (mkF m 17 #[.val (.ref a1), .val (.ref p0), .val (.ref d99), .val (.int (0 : Int32))] [(.int (0 : Int32)), (.ref a1)])
  refine own_iconst X102 hx (hb hby own_d17_17) (v := (1 : Int32)) (by decide) ?_
  show own_E p e below _ T102 (mkF m 18 #[.val (.ref a1), .val (.ref p0), .val (.ref d99), .val (.int (0 : Int32))] [(.int (1 : Int32)), (.int (0 : Int32)), (.ref a1)])
  refine own_iadd X102 hx (hb hby own_d17_18) (z := (1 : Int32)) (by decide +kernel) ?_
  show own_E p e below _ T102 (mkF m 19 #[.val (.ref a1), .val (.ref p0), .val (.ref d99), .val (.int (0 : Int32))] [(.int (1 : Int32)), (.ref a1)])
  obtain ⟨T103, h103, X103, e103, W103, st103⟩ := putF X102 hx hZ hown (host := "") (Or.inl (own_w hw 146 rfl)) Via.refl e102 (G99.other W102 (Or.inl (by first | assumption | exact Ne.symm (by assumption) | exact own_ne (by omega)))) ((LX.keep K99).wr W102) (Or.inl (own_w hw 126 rfl)) (own_w hw 45 rfl) (ty := .int) (by decide) rfl rfl (g := (mkF m 19 #[.val (.ref a1), .val (.ref p0), .val (.ref d99), .val (.int (0 : Int32))] [(.int (1 : Int32)), (.ref a1)])) rfl rfl (hb hby own_d17_19)
  refine own_go st103 ?_
  have N103 := Fr.snoc X103 N102 (by omega)
  have z103 : h102.size ≤ h103.size := Nat.le_of_eq W103.size.symm
  have F103 : Fld Z h103 a1 "java/util/ArrayList" "size" "I" (.int (1 : Int32)) := Fld.same W103 (G99.other W102 (Or.inl (by first | assumption | exact Ne.symm (by assumption) | exact own_ne (by omega))))
  show own_E p e below _ T103 (mkF m 22 #[.val (.ref a1), .val (.ref p0), .val (.ref d99), .val (.int (0 : Int32))] [])
  refine own_retV X103 hx Bd.returns hlk (hb hby own_d17_22) (by decide) (by decide) ?_
  rw [e103]
  exact ⟨_, _, rfl, N103, ((((Keep.refl _ _).trans K99 (allS (Or.inl (List.mem_of_getElem? (i := 0) rfl)) all0)).wr W102 (Or.inr (by omega))).wr W103 (Or.inl (List.mem_of_getElem? (i := 0) rfl))), gd99, ((F99.other W102 (Or.inl (by first | assumption | exact Ne.symm (by assumption) | exact own_ne (by omega)))).other W103 (Or.inr (slot_ne (Or.inl (own_w hw 67 rfl)) (Or.inl (own_w hw 126 rfl)) (by decide) (t := (.array (.object "java/lang/Object"))) (t' := .int) (by decide) (by decide)))), F103, ((J99.other W102 (Or.inl (by first | assumption | exact Ne.symm (by assumption) | exact own_ne (by omega)))).other W103 (Or.inr (slot_ne (Or.inl (own_w hw 64 rfl)) (Or.inl (own_w hw 126 rfl)) (by decide) (t := .int) (t' := .int) (by decide) (by decide)))), (V102.other W103 (by first | assumption | exact Ne.symm (by assumption) | exact own_ne (by omega))), O99⟩

theorem own_ef22 (m : MethodId) (x0 : Addr) (x1 : Addr) : entryFrame m #[(.ref x0), (.ref x1)] 2 = mkF m 0 #[.val (.ref x0), .val (.ref x1)] [] := by first | (simp [entryFrame, mkF, argsToLocals, Value.category]; done) | rfl
theorem own_d18_0 : decode jdk_38_method_25_code 0 = .ok (.aload_n 0, 1) := by decide +kernel
theorem own_d18_1 : decode jdk_38_method_25_code 1 = .ok (.dup, 1) := by decide +kernel
theorem own_d18_2 : decode jdk_38_method_25_code 2 = .ok (.getfield 63, 3) := by decide +kernel
theorem own_d18_5 : decode jdk_38_method_25_code 5 = .ok (.iconst 1, 1) := by decide +kernel
theorem own_d18_6 : decode jdk_38_method_25_code 6 = .ok (.iadd, 1) := by decide +kernel
theorem own_d18_7 : decode jdk_38_method_25_code 7 = .ok (.putfield 63, 3) := by decide +kernel
theorem own_d18_10 : decode jdk_38_method_25_code 10 = .ok (.aload_n 0, 1) := by decide +kernel
theorem own_d18_11 : decode jdk_38_method_25_code 11 = .ok (.aload_n 1, 1) := by decide +kernel
theorem own_d18_12 : decode jdk_38_method_25_code 12 = .ok (.aload_n 0, 1) := by decide +kernel
theorem own_d18_13 : decode jdk_38_method_25_code 13 = .ok (.getfield 9, 3) := by decide +kernel
theorem own_d18_16 : decode jdk_38_method_25_code 16 = .ok (.aload_n 0, 1) := by decide +kernel
theorem own_d18_17 : decode jdk_38_method_25_code 17 = .ok (.getfield 48, 3) := by decide +kernel
theorem own_pd8 : parseMethodDescriptor "(Ljava/lang/Object;[Ljava/lang/Object;I)V" = some ⟨[(.object "java/lang/Object"), (.array (.object "java/lang/Object")), .int], none⟩ := by decide +kernel
theorem own_d18_20 : decode jdk_38_method_25_code 20 = .ok (.invokevirtual 131, 3) := by decide +kernel
theorem own_d18_23 : decode jdk_38_method_25_code 23 = .ok (.iconst 1, 1) := by decide +kernel
theorem own_d18_24 : decode jdk_38_method_25_code 24 = .ok (.ireturn, 1) := by decide +kernel
set_option maxRecDepth 65536 in
set_option maxHeartbeats 40000000 in
theorem own_rmA0 (l : Launch) (Z : State) (a0 : Array Value) (hw : ∀ d ∈ tables_1, d.before a0 Z = true) (ws : List Jvm.Cond) (a1 p0 wd : Addr) (cwd : Cell) (h0 : Heap) (n0 : Nat) (Z0 : n0 ≤ h0.size) (O0 : Old Z n0 h0) (SD : Sta Z Z.heap "java/util/ArrayList" "DEFAULTCAPACITY_EMPTY_ELEMENTDATA" "[Ljava/lang/Object;" (.ref wd)) (AW : Arr Z Z.heap wd cwd (.object "java/lang/Object")) (zw : cwd.slots.size = 0) (LD : Fld Z h0 a1 "java/util/ArrayList" "elementData" "[Ljava/lang/Object;" (.ref wd)) (LZ : Fld Z h0 a1 "java/util/ArrayList" "size" "I" (.int (0 : Int32))) (LM : Fld Z h0 a1 "java/util/AbstractList" "modCount" "I" (.int (0 : Int32))) (LX : Exa Z h0 a1 "java/util/ArrayList") (g0 : n0 ≤ a1) (PX : Exa Z h0 p0 "com/example/narrow_gate/narrowgate/Target$Parameter") :
    MetFree l (⟨"java/util/ArrayList", "add", "(Ljava/lang/Object;)Z"⟩ : MethodName) (head1 (Jvm.Cond.code (⟨"java/util/ArrayList", "add", "(Ljava/lang/Object;)Z"⟩ : MethodName) jdk_38_method_25_code 2 (some .boolean) :: ws) ({ frames := 4, cells := 1, slots := 10, locals := 80 } : Room)) (fun a U => a = #[(.ref a1), (.ref p0)] ∧ Z.Warmed39 U.vm ∧ U.heap = h0) (fun _ _ _ _ _ => True) (fun _ U o U' => ∃ v L, o = .returned v ∧ own_QW Z a1 [.ref p0] 1 1 (fun _ => some (.int 1)) h0 n0 v U'.heap L ∧ FrameEnd U o U' L ({ frames := 4, cells := 1, slots := 10, locals := 80 } : Room).cells ({ frames := 4, cells := 1, slots := 10, locals := 80 } : Room).slots) := by
  refine MetFree.of_bodySF (plainFor_of_name own_pn3) hisR ?_
  intro p e s m args below meth c s₁ Bd hml0 hP hK
  obtain ⟨rfl, hZ, hh⟩ := hP
  have hx := Bd.exec
  have hby := Bd.bytes
  have hlk : meth.locks = false := Bd.notSynchronized
  have hml : c.maxLocals = 2 := hml0
  have hown : s.vm.findClass "java/util/ArrayList" = some m.cls := findClass_of_methodNamed Bd.named
  have hnm := (name_of_methodNamed Bd.named Bd.method).1
  have X0 : Stand p l e ({ frames := 4, cells := 1, slots := 10, locals := 80 } : Room) s m #[(.ref a1), (.ref p0)] below meth c s₁ [] 0 0 := Stand.of_body Bd
  have e0 : s₁.heap = h0 := by rw [← hh, Bd.state]; rfl
  have N0 := Fr.nil n0
  show own_E p e below (own_P s (own_QW Z a1 [.ref p0] 1 1 (fun _ => some (.int 1)) h0 n0) ({ frames := 4, cells := 1, slots := 10, locals := 80 } : Room).cells ({ frames := 4, cells := 1, slots := 10, locals := 80 } : Room).slots) s₁ (entryFrame m #[(.ref a1), (.ref p0)] 2)
  refine own_cast (own_ef22 m a1 p0) ?_
  have od104 := (O0).1
  have lt105 := own_lt (PX).lt
  have lt106 := own_lt (LD).lt
  have lt107 := own_lt (LX).lt
  show own_E p e below _ s₁ (mkF m 0 #[.val (.ref a1), .val (.ref p0)] [])
  refine own_aloadN X0 hx (hb hby own_d18_0) rfl rfl ?_
  show own_E p e below _ s₁ (mkF m 1 #[.val (.ref a1), .val (.ref p0)] [(.ref a1)])
  refine own_dup X0 hx (hb hby own_d18_1) rfl ?_
  show own_E p e below _ s₁ (mkF m 2 #[.val (.ref a1), .val (.ref p0)] [(.ref a1), (.ref a1)])
  obtain ⟨T108, X108, e108, st108⟩ := getF X0 hx hZ hown (host := "") (Or.inl (own_w hw 145 rfl)) (Via.of (own_w hw 111 rfl)) e0 LM (g := (mkF m 2 #[.val (.ref a1), .val (.ref p0)] [(.ref a1), (.ref a1)])) rfl rfl (hb hby own_d18_2)
  refine own_go st108 ?_
  show own_E p e below _ T108 (mkF m 5 #[.val (.ref a1), .val (.ref p0)] [(.int (0 : Int32)), (.ref a1)])
  refine own_iconst X108 hx (hb hby own_d18_5) (v := (1 : Int32)) (by decide) ?_
  show own_E p e below _ T108 (mkF m 6 #[.val (.ref a1), .val (.ref p0)] [(.int (1 : Int32)), (.int (0 : Int32)), (.ref a1)])
  refine own_iadd X108 hx (hb hby own_d18_6) (z := (1 : Int32)) (by decide +kernel) ?_
  show own_E p e below _ T108 (mkF m 7 #[.val (.ref a1), .val (.ref p0)] [(.int (1 : Int32)), (.ref a1)])
  obtain ⟨T109, h109, X109, e109, W109, st109⟩ := putF X108 hx hZ hown (host := "") (Or.inl (own_w hw 145 rfl)) (Via.of (own_w hw 111 rfl)) e108 LM LX (Or.inl (own_w hw 64 rfl)) (own_w hw 45 rfl) (ty := .int) (by decide) rfl rfl (g := (mkF m 7 #[.val (.ref a1), .val (.ref p0)] [(.int (1 : Int32)), (.ref a1)])) rfl rfl (hb hby own_d18_7)
  refine own_go st109 ?_
  have N109 := Fr.snoc X109 N0 (by omega)
  have z109 : h0.size ≤ h109.size := Nat.le_of_eq W109.size.symm
  have F109 : Fld Z h109 a1 "java/util/AbstractList" "modCount" "I" (.int (1 : Int32)) := Fld.same W109 LM
  show own_E p e below _ T109 (mkF m 10 #[.val (.ref a1), .val (.ref p0)] [])
  refine own_aloadN X109 hx (hb hby own_d18_10) rfl rfl ?_
  show own_E p e below _ T109 (mkF m 11 #[.val (.ref a1), .val (.ref p0)] [(.ref a1)])
  refine own_aloadN X109 hx (hb hby own_d18_11) rfl rfl ?_
  show own_E p e below _ T109 (mkF m 12 #[.val (.ref a1), .val (.ref p0)] [(.ref p0), (.ref a1)])
  refine own_aloadN X109 hx (hb hby own_d18_12) rfl rfl ?_
  show own_E p e below _ T109 (mkF m 13 #[.val (.ref a1), .val (.ref p0)] [(.ref a1), (.ref p0), (.ref a1)])
  obtain ⟨T110, X110, e110, st110⟩ := getF X109 hx hZ hown (host := "") (Or.inl (own_w hw 66 rfl)) Via.refl e109 (LD.other W109 (Or.inr (slot_ne (Or.inl (own_w hw 67 rfl)) (Or.inl (own_w hw 64 rfl)) (by decide) (t := (.array (.object "java/lang/Object"))) (t' := .int) (by decide) (by decide)))) (g := (mkF m 13 #[.val (.ref a1), .val (.ref p0)] [(.ref a1), (.ref p0), (.ref a1)])) rfl rfl (hb hby own_d18_13)
  refine own_go st110 ?_
  show own_E p e below _ T110 (mkF m 16 #[.val (.ref a1), .val (.ref p0)] [(.ref wd), (.ref p0), (.ref a1)])
  refine own_aloadN X110 hx (hb hby own_d18_16) rfl rfl ?_
  show own_E p e below _ T110 (mkF m 17 #[.val (.ref a1), .val (.ref p0)] [(.ref a1), (.ref wd), (.ref p0), (.ref a1)])
  obtain ⟨T111, X111, e111, st111⟩ := getF X110 hx hZ hown (host := "") (Or.inl (own_w hw 146 rfl)) Via.refl e110 (LZ.other W109 (Or.inr (slot_ne (Or.inl (own_w hw 126 rfl)) (Or.inl (own_w hw 64 rfl)) (by decide) (t := .int) (t' := .int) (by decide) (by decide)))) (g := (mkF m 17 #[.val (.ref a1), .val (.ref p0)] [(.ref a1), (.ref wd), (.ref p0), (.ref a1)])) rfl rfl (hb hby own_d18_17)
  refine own_go st111 ?_
  show own_E p e below _ T111 (mkF m 20 #[.val (.ref a1), .val (.ref p0)] [(.int (0 : Int32)), (.ref wd), (.ref p0), (.ref a1)])
  obtain ⟨cq112, kq112, qa112, qb112, qc112⟩ := isOf hZ e111 (LX.wr W109)
  obtain ⟨cc112, pa112, pb112⟩ := ((LX.wr W109)).cell
  obtain ⟨_, _, ⟨T112, L112, k112, n112⟩, -, X112, ⟨Lc112, hQ112, l112, y112, z112⟩, st112⟩ := X111.privateBack hx (y := (⟨"java/util/ArrayList", "add", "(Ljava/lang/Object;[Ljava/lang/Object;I)V"⟩ : MethodName)) hown (mvT hZ (own_w hw 147 rfl)) (mvT hZ (own_w hw 148 rfl)) (mvT hZ (own_w hw 150 rfl)) (Cond.privateMethod_at (mvP hZ (own_w hw 149 rfl) (args := #[]))) (mvT hZ (own_w hw 151 rfl)) (by decide) (backOf (W := 0) (own_rmB0 l Z a0 hw [] a1 p0 wd cwd h109 n0 (by omega) (O0.wr W109 (by omega)) SD AW zw (LD.other W109 (Or.inr (slot_ne (Or.inl (own_w hw 67 rfl)) (Or.inl (own_w hw 64 rfl)) (by decide) (t := (.array (.object "java/lang/Object"))) (t' := .int) (by decide) (by decide)))) (LZ.other W109 (Or.inr (slot_ne (Or.inl (own_w hw 126 rfl)) (Or.inl (own_w hw 64 rfl)) (by decide) (t := .int) (t' := .int) (by decide) (by decide)))) F109 (LX.wr W109) g0 (PX.wr W109)) hZ (own_w hw 151 rfl) (own_w hw 46 rfl) (by decide) (by decide)) (g := (mkF m 20 #[.val (.ref a1), .val (.ref p0)] [(.int (0 : Int32)), (.ref wd), (.ref p0), (.ref a1)])) rfl (by rw [hml]; rfl) (Steps.refl _) (a := a1) (by rw [e111]; exact pa112) pb112 (argsL := [(.ref p0), (.ref wd), (.int (0 : Int32))]) (rest := []) (lenOf own_pd8 rfl) rfl (by show 2 * 0 + _ ≤ _; exact Nat.le_of_eq rfl) (hb hby own_d18_20) (fun _ _ => ⟨rfl, e111, Nat.le_of_ble_eq_true rfl, Nat.le_of_ble_eq_true rfl⟩)
  dsimp only [Pt.U, Pt.locs, Pt.cells, Pt.slots] at X112 l112 y112 z112 st112 hQ112
  subst l112 y112 z112
  obtain ⟨d112, kd112, rfl, M112, K112, gd112, F112, G112, J112, V112, O112⟩ := hQ112
  have N112 := Fr.app N109 M112
  refine own_go (fun _ k => st112.trans k) ?_
  have z112 : h109.size ≤ T112.heap.size := K112.1
  show own_E p e below _ T112 (mkF m 23 #[.val (.ref a1), .val (.ref p0)] [])
  refine own_iconst X112 hx (hb hby own_d18_23) (v := (1 : Int32)) (by decide) ?_
  show own_E p e below _ T112 (mkF m 24 #[.val (.ref a1), .val (.ref p0)] [(.int (1 : Int32))])
  refine own_retN X112 hx (t := .boolean) Bd.returns (by simp) hlk (hb hby own_d18_24) (z' := (1 : Int32)) (by decide) (by decide) (by decide) ?_
  exact ⟨_, _, rfl, N112, (((Keep.refl _ _).wr W109 (Or.inl (List.mem_of_getElem? (i := 0) rfl))).trans K112 (allS (Or.inl (List.mem_of_getElem? (i := 0) rfl)) all0)), (by omega), F112, G112, J112, V112, O112⟩

def own_QW1 (Z : State) (a1 d : Addr) (k : ClassId) (vs : List Value) (v1 : Option Value) (h0 : Heap) (n0 : Nat) (v : Option Value) (h : Heap) (L : List Loc) : Prop := v = v1 ∧ Fr n0 L ∧ Keep h0 h [a1, d] ∧ Fld Z h a1 "java/util/ArrayList" "elementData" "[Ljava/lang/Object;" (.ref d) ∧ Fld Z h a1 "java/util/ArrayList" "size" "I" (.int (2 : Int32)) ∧ Fld Z h a1 "java/util/AbstractList" "modCount" "I" (.int (2 : Int32)) ∧ Arv Z h d k (.object "java/lang/Object") (10 : Int32) vs .null
theorem own_ef23 (m : MethodId) (x0 : Addr) (x1 : Addr) (x2 : Addr) (x3 : Int32) : entryFrame m #[(.ref x0), (.ref x1), (.ref x2), (.int x3)] 4 = mkF m 0 #[.val (.ref x0), .val (.ref x1), .val (.ref x2), .val (.int x3)] [] := by first | (simp [entryFrame, mkF, argsToLocals, Value.category]; done) | rfl
set_option maxRecDepth 65536 in
set_option maxHeartbeats 40000000 in
theorem own_rmB1 (l : Launch) (Z : State) (a0 : Array Value) (hw : ∀ d ∈ tables_1, d.before a0 Z = true) (ws : List Jvm.Cond) (a1 d p0 p1 : Addr) (kd : ClassId) (h0 : Heap) (n0 : Nat) (Z0 : n0 ≤ h0.size) (LD : Fld Z h0 a1 "java/util/ArrayList" "elementData" "[Ljava/lang/Object;" (.ref d)) (LZ : Fld Z h0 a1 "java/util/ArrayList" "size" "I" (.int (1 : Int32))) (LM : Fld Z h0 a1 "java/util/AbstractList" "modCount" "I" (.int (2 : Int32))) (LX : Exa Z h0 a1 "java/util/ArrayList") (LV : Arv Z h0 d kd (.object "java/lang/Object") (10 : Int32) [.ref p0] .null) (LO : Ovr Z kd "java/lang/Object") (PX : Exa Z h0 p1 "com/example/narrow_gate/narrowgate/Target$Parameter") (g0 : n0 ≤ a1) (g1 : n0 ≤ d) (ne : a1 ≠ d) :
    MetFree l (⟨"java/util/ArrayList", "add", "(Ljava/lang/Object;[Ljava/lang/Object;I)V"⟩ : MethodName) (head1 (Jvm.Cond.code (⟨"java/util/ArrayList", "add", "(Ljava/lang/Object;[Ljava/lang/Object;I)V"⟩ : MethodName) jdk_38_method_24_code 4 none :: ws) ({ frames := 0, cells := 0, slots := 0, locals := 0 } : Room)) (fun a U => a = #[(.ref a1), (.ref p1), (.ref d), (.int (1 : Int32))] ∧ Z.Warmed39 U.vm ∧ U.heap = h0) (fun _ _ _ _ _ => True) (fun _ U o U' => ∃ v L, o = .returned v ∧ own_QW1 Z a1 d kd [.ref p0, .ref p1] none h0 n0 v U'.heap L ∧ FrameEnd U o U' L ({ frames := 0, cells := 0, slots := 0, locals := 0 } : Room).cells ({ frames := 0, cells := 0, slots := 0, locals := 0 } : Room).slots) := by
  refine MetFree.of_bodySF (plainFor_of_name own_pn3) hisR ?_
  intro p e s m args below meth c s₁ Bd hml0 hP hK
  obtain ⟨rfl, hZ, hh⟩ := hP
  have hx := Bd.exec
  have hby := Bd.bytes
  have hlk : meth.locks = false := Bd.notSynchronized
  have hml : c.maxLocals = 4 := hml0
  have hown : s.vm.findClass "java/util/ArrayList" = some m.cls := findClass_of_methodNamed Bd.named
  have hnm := (name_of_methodNamed Bd.named Bd.method).1
  have X0 : Stand p l e ({ frames := 0, cells := 0, slots := 0, locals := 0 } : Room) s m #[(.ref a1), (.ref p1), (.ref d), (.int (1 : Int32))] below meth c s₁ [] 0 0 := Stand.of_body Bd
  have e0 : s₁.heap = h0 := by rw [← hh, Bd.state]; rfl
  have N0 := Fr.nil n0
  show own_E p e below (own_P s (own_QW1 Z a1 d kd [.ref p0, .ref p1] none h0 n0) ({ frames := 0, cells := 0, slots := 0, locals := 0 } : Room).cells ({ frames := 0, cells := 0, slots := 0, locals := 0 } : Room).slots) s₁ (entryFrame m #[(.ref a1), (.ref p1), (.ref d), (.int (1 : Int32))] 4)
  refine own_cast (own_ef23 m a1 p1 d (1 : Int32)) ?_
  have lt113 := own_lt (LD).lt
  have lt114 := own_lt (LX).lt
  have lt115 := own_lt (LV).lt
  have lt116 := own_lt (PX).lt
  show own_E p e below _ s₁ (mkF m 0 #[.val (.ref a1), .val (.ref p1), .val (.ref d), .val (.int (1 : Int32))] [])
  refine own_iloadN X0 hx (hb hby own_d17_0) rfl ?_
  show own_E p e below _ s₁ (mkF m 1 #[.val (.ref a1), .val (.ref p1), .val (.ref d), .val (.int (1 : Int32))] [(.int (1 : Int32))])
  refine own_aloadN X0 hx (hb hby own_d17_1) rfl rfl ?_
  show own_E p e below _ s₁ (mkF m 2 #[.val (.ref a1), .val (.ref p1), .val (.ref d), .val (.int (1 : Int32))] [(.ref d), (.int (1 : Int32))])
  obtain ⟨c117, B117, q117, S117, M117, H117, U117⟩ := id LV
  refine own_alen X0 hx hZ e0 B117 (z := (10 : Int32)) (len_of S117 M117) (hb hby own_d17_2) ?_
  show own_E p e below _ s₁ (mkF m 3 #[.val (.ref a1), .val (.ref p1), .val (.ref d), .val (.int (1 : Int32))] [(.int (10 : Int32)), (.int (1 : Int32))])
  refine own_icmpYes X0 hx (hb hby own_d17_3) (by decide +kernel) 11 (by decide) (by decide) ?_
  show own_E p e below _ s₁ (mkF m 11 #[.val (.ref a1), .val (.ref p1), .val (.ref d), .val (.int (1 : Int32))] [])
  refine own_aloadN X0 hx (hb hby own_d17_11) rfl rfl ?_
  show own_E p e below _ s₁ (mkF m 12 #[.val (.ref a1), .val (.ref p1), .val (.ref d), .val (.int (1 : Int32))] [(.ref d)])
  refine own_iloadN X0 hx (hb hby own_d17_12) rfl ?_
  show own_E p e below _ s₁ (mkF m 13 #[.val (.ref a1), .val (.ref p1), .val (.ref d), .val (.int (1 : Int32))] [(.int (1 : Int32)), (.ref d)])
  refine own_aloadN X0 hx (hb hby own_d17_13) rfl rfl ?_
  show own_E p e below _ s₁ (mkF m 14 #[.val (.ref a1), .val (.ref p1), .val (.ref d), .val (.int (1 : Int32))] [(.ref p1), (.int (1 : Int32)), (.ref d)])
  have P118 : Arv Z h0 d kd (.object "java/lang/Object") (10 : Int32) [(.ref p0), .null] .null := LV.pad (pad_rep [(.ref p0)] .null 1)
  obtain ⟨c118, B118, q118, S118, M118, H118, U118⟩ := id P118
  obtain ⟨T119, h119, X119, e119, W119, st119⟩ := stR X0 hx hZ e0 B118 (j := (1 : Int32)) (inb_of S118 ⟨(by decide : ¬ ((1 : Int32) < (0 : Int32))), (by decide : (1 : Int32) < (10 : Int32))⟩) rfl (Sto.ofV B118 q118 LO (Ins.of_exa PX (own_w hw 168 rfl))) (g := (mkF m 14 #[.val (.ref a1), .val (.ref p1), .val (.ref d), .val (.int (1 : Int32))] [(.ref p1), (.int (1 : Int32)), (.ref d)])) rfl rfl (hb hby own_d17_14)
  have V119 : Arv Z h119 d kd (.object "java/lang/Object") (10 : Int32) [(.ref p0), (.ref p1)] .null := Arv.set B118 q118 S118 M118 H118 U118 rfl W119 1 rfl (Nat.le_of_ble_eq_true rfl)
  refine own_go st119 ?_
  have N119 := Fr.snoc X119 N0 (by omega)
  have z119 : h0.size ≤ h119.size := Nat.le_of_eq W119.size.symm
  show own_E p e below _ T119 (mkF m 15 #[.val (.ref a1), .val (.ref p1), .val (.ref d), .val (.int (1 : Int32))] [])
  refine own_aloadN X119 hx (hb hby own_d17_15) rfl rfl ?_
  show own_E p e below _ T119 (mkF m 16 #[.val (.ref a1), .val (.ref p1), .val (.ref d), .val (.int (1 : Int32))] [(.ref a1)])
  refine own_iloadN X119 hx (hb hby own_d17_16) rfl ?_
  show own_E p e below _ T119 (mkF m 17 #[.val (.ref a1), .val (.ref p1), .val (.ref d), .val (.int (1 : Int32))] [(.int (1 : Int32)), (.ref a1)])
  refine own_iconst X119 hx (hb hby own_d17_17) (v := (1 : Int32)) (by decide) ?_
  show own_E p e below _ T119 (mkF m 18 #[.val (.ref a1), .val (.ref p1), .val (.ref d), .val (.int (1 : Int32))] [(.int (1 : Int32)), (.int (1 : Int32)), (.ref a1)])
  refine own_iadd X119 hx (hb hby own_d17_18) (z := (2 : Int32)) (by decide +kernel) ?_
  show own_E p e below _ T119 (mkF m 19 #[.val (.ref a1), .val (.ref p1), .val (.ref d), .val (.int (1 : Int32))] [(.int (2 : Int32)), (.ref a1)])
  obtain ⟨T120, h120, X120, e120, W120, st120⟩ := putF X119 hx hZ hown (host := "") (Or.inl (own_w hw 146 rfl)) Via.refl e119 (LZ.other W119 (Or.inl (by first | assumption | exact Ne.symm (by assumption) | exact own_ne (by omega)))) (LX.wr W119) (Or.inl (own_w hw 126 rfl)) (own_w hw 45 rfl) (ty := .int) (by decide) rfl rfl (g := (mkF m 19 #[.val (.ref a1), .val (.ref p1), .val (.ref d), .val (.int (1 : Int32))] [(.int (2 : Int32)), (.ref a1)])) rfl rfl (hb hby own_d17_19)
  refine own_go st120 ?_
  have N120 := Fr.snoc X120 N119 (by omega)
  have z120 : h119.size ≤ h120.size := Nat.le_of_eq W120.size.symm
  have F120 : Fld Z h120 a1 "java/util/ArrayList" "size" "I" (.int (2 : Int32)) := Fld.same W120 (LZ.other W119 (Or.inl (by first | assumption | exact Ne.symm (by assumption) | exact own_ne (by omega))))
  show own_E p e below _ T120 (mkF m 22 #[.val (.ref a1), .val (.ref p1), .val (.ref d), .val (.int (1 : Int32))] [])
  refine own_retV X120 hx Bd.returns hlk (hb hby own_d17_22) (by decide) (by decide) ?_
  rw [e120]
  exact ⟨rfl, N120, (((Keep.refl _ _).wr W119 (Or.inl (List.mem_of_getElem? (i := 1) rfl))).wr W120 (Or.inl (List.mem_of_getElem? (i := 0) rfl))), ((LD.other W119 (Or.inl (by first | assumption | exact Ne.symm (by assumption) | exact own_ne (by omega)))).other W120 (Or.inr (slot_ne (Or.inl (own_w hw 67 rfl)) (Or.inl (own_w hw 126 rfl)) (by decide) (t := (.array (.object "java/lang/Object"))) (t' := .int) (by decide) (by decide)))), F120, ((LM.other W119 (Or.inl (by first | assumption | exact Ne.symm (by assumption) | exact own_ne (by omega)))).other W120 (Or.inr (slot_ne (Or.inl (own_w hw 64 rfl)) (Or.inl (own_w hw 126 rfl)) (by decide) (t := .int) (t' := .int) (by decide) (by decide)))), (V119.other W120 (by first | assumption | exact Ne.symm (by assumption) | exact own_ne (by omega)))⟩

theorem own_ef24 (m : MethodId) (x0 : Addr) (x1 : Addr) : entryFrame m #[(.ref x0), (.ref x1)] 2 = mkF m 0 #[.val (.ref x0), .val (.ref x1)] [] := by first | (simp [entryFrame, mkF, argsToLocals, Value.category]; done) | rfl
set_option maxRecDepth 65536 in
set_option maxHeartbeats 40000000 in
theorem own_rmA1 (l : Launch) (Z : State) (a0 : Array Value) (hw : ∀ d ∈ tables_1, d.before a0 Z = true) (ws : List Jvm.Cond) (a1 d p0 p1 : Addr) (kd : ClassId) (h0 : Heap) (n0 : Nat) (Z0 : n0 ≤ h0.size) (LD : Fld Z h0 a1 "java/util/ArrayList" "elementData" "[Ljava/lang/Object;" (.ref d)) (LZ : Fld Z h0 a1 "java/util/ArrayList" "size" "I" (.int (1 : Int32))) (LM : Fld Z h0 a1 "java/util/AbstractList" "modCount" "I" (.int (1 : Int32))) (LX : Exa Z h0 a1 "java/util/ArrayList") (LV : Arv Z h0 d kd (.object "java/lang/Object") (10 : Int32) [.ref p0] .null) (LO : Ovr Z kd "java/lang/Object") (PX : Exa Z h0 p1 "com/example/narrow_gate/narrowgate/Target$Parameter") (g0 : n0 ≤ a1) (g1 : n0 ≤ d) (ne : a1 ≠ d) :
    MetFree l (⟨"java/util/ArrayList", "add", "(Ljava/lang/Object;)Z"⟩ : MethodName) (head1 (Jvm.Cond.code (⟨"java/util/ArrayList", "add", "(Ljava/lang/Object;)Z"⟩ : MethodName) jdk_38_method_25_code 2 (some .boolean) :: ws) ({ frames := 1, cells := 0, slots := 0, locals := 20 } : Room)) (fun a U => a = #[(.ref a1), (.ref p1)] ∧ Z.Warmed39 U.vm ∧ U.heap = h0) (fun _ _ _ _ _ => True) (fun _ U o U' => ∃ v L, o = .returned v ∧ own_QW1 Z a1 d kd [.ref p0, .ref p1] (some (.int 1)) h0 n0 v U'.heap L ∧ FrameEnd U o U' L ({ frames := 1, cells := 0, slots := 0, locals := 20 } : Room).cells ({ frames := 1, cells := 0, slots := 0, locals := 20 } : Room).slots) := by
  refine MetFree.of_bodySF (plainFor_of_name own_pn3) hisR ?_
  intro p e s m args below meth c s₁ Bd hml0 hP hK
  obtain ⟨rfl, hZ, hh⟩ := hP
  have hx := Bd.exec
  have hby := Bd.bytes
  have hlk : meth.locks = false := Bd.notSynchronized
  have hml : c.maxLocals = 2 := hml0
  have hown : s.vm.findClass "java/util/ArrayList" = some m.cls := findClass_of_methodNamed Bd.named
  have hnm := (name_of_methodNamed Bd.named Bd.method).1
  have X0 : Stand p l e ({ frames := 1, cells := 0, slots := 0, locals := 20 } : Room) s m #[(.ref a1), (.ref p1)] below meth c s₁ [] 0 0 := Stand.of_body Bd
  have e0 : s₁.heap = h0 := by rw [← hh, Bd.state]; rfl
  have N0 := Fr.nil n0
  show own_E p e below (own_P s (own_QW1 Z a1 d kd [.ref p0, .ref p1] (some (.int 1)) h0 n0) ({ frames := 1, cells := 0, slots := 0, locals := 20 } : Room).cells ({ frames := 1, cells := 0, slots := 0, locals := 20 } : Room).slots) s₁ (entryFrame m #[(.ref a1), (.ref p1)] 2)
  refine own_cast (own_ef24 m a1 p1) ?_
  have lt121 := own_lt (LD).lt
  have lt122 := own_lt (LX).lt
  have lt123 := own_lt (LV).lt
  have lt124 := own_lt (PX).lt
  show own_E p e below _ s₁ (mkF m 0 #[.val (.ref a1), .val (.ref p1)] [])
  refine own_aloadN X0 hx (hb hby own_d18_0) rfl rfl ?_
  show own_E p e below _ s₁ (mkF m 1 #[.val (.ref a1), .val (.ref p1)] [(.ref a1)])
  refine own_dup X0 hx (hb hby own_d18_1) rfl ?_
  show own_E p e below _ s₁ (mkF m 2 #[.val (.ref a1), .val (.ref p1)] [(.ref a1), (.ref a1)])
  obtain ⟨T125, X125, e125, st125⟩ := getF X0 hx hZ hown (host := "") (Or.inl (own_w hw 145 rfl)) (Via.of (own_w hw 111 rfl)) e0 LM (g := (mkF m 2 #[.val (.ref a1), .val (.ref p1)] [(.ref a1), (.ref a1)])) rfl rfl (hb hby own_d18_2)
  refine own_go st125 ?_
  show own_E p e below _ T125 (mkF m 5 #[.val (.ref a1), .val (.ref p1)] [(.int (1 : Int32)), (.ref a1)])
  refine own_iconst X125 hx (hb hby own_d18_5) (v := (1 : Int32)) (by decide) ?_
  show own_E p e below _ T125 (mkF m 6 #[.val (.ref a1), .val (.ref p1)] [(.int (1 : Int32)), (.int (1 : Int32)), (.ref a1)])
  refine own_iadd X125 hx (hb hby own_d18_6) (z := (2 : Int32)) (by decide +kernel) ?_
  show own_E p e below _ T125 (mkF m 7 #[.val (.ref a1), .val (.ref p1)] [(.int (2 : Int32)), (.ref a1)])
  obtain ⟨T126, h126, X126, e126, W126, st126⟩ := putF X125 hx hZ hown (host := "") (Or.inl (own_w hw 145 rfl)) (Via.of (own_w hw 111 rfl)) e125 LM LX (Or.inl (own_w hw 64 rfl)) (own_w hw 45 rfl) (ty := .int) (by decide) rfl rfl (g := (mkF m 7 #[.val (.ref a1), .val (.ref p1)] [(.int (2 : Int32)), (.ref a1)])) rfl rfl (hb hby own_d18_7)
  refine own_go st126 ?_
  have N126 := Fr.snoc X126 N0 (by omega)
  have z126 : h0.size ≤ h126.size := Nat.le_of_eq W126.size.symm
  have F126 : Fld Z h126 a1 "java/util/AbstractList" "modCount" "I" (.int (2 : Int32)) := Fld.same W126 LM
  show own_E p e below _ T126 (mkF m 10 #[.val (.ref a1), .val (.ref p1)] [])
  refine own_aloadN X126 hx (hb hby own_d18_10) rfl rfl ?_
  show own_E p e below _ T126 (mkF m 11 #[.val (.ref a1), .val (.ref p1)] [(.ref a1)])
  refine own_aloadN X126 hx (hb hby own_d18_11) rfl rfl ?_
  show own_E p e below _ T126 (mkF m 12 #[.val (.ref a1), .val (.ref p1)] [(.ref p1), (.ref a1)])
  refine own_aloadN X126 hx (hb hby own_d18_12) rfl rfl ?_
  show own_E p e below _ T126 (mkF m 13 #[.val (.ref a1), .val (.ref p1)] [(.ref a1), (.ref p1), (.ref a1)])
  obtain ⟨T127, X127, e127, st127⟩ := getF X126 hx hZ hown (host := "") (Or.inl (own_w hw 66 rfl)) Via.refl e126 (LD.other W126 (Or.inr (slot_ne (Or.inl (own_w hw 67 rfl)) (Or.inl (own_w hw 64 rfl)) (by decide) (t := (.array (.object "java/lang/Object"))) (t' := .int) (by decide) (by decide)))) (g := (mkF m 13 #[.val (.ref a1), .val (.ref p1)] [(.ref a1), (.ref p1), (.ref a1)])) rfl rfl (hb hby own_d18_13)
  refine own_go st127 ?_
  show own_E p e below _ T127 (mkF m 16 #[.val (.ref a1), .val (.ref p1)] [(.ref d), (.ref p1), (.ref a1)])
  refine own_aloadN X127 hx (hb hby own_d18_16) rfl rfl ?_
  show own_E p e below _ T127 (mkF m 17 #[.val (.ref a1), .val (.ref p1)] [(.ref a1), (.ref d), (.ref p1), (.ref a1)])
  obtain ⟨T128, X128, e128, st128⟩ := getF X127 hx hZ hown (host := "") (Or.inl (own_w hw 146 rfl)) Via.refl e127 (LZ.other W126 (Or.inr (slot_ne (Or.inl (own_w hw 126 rfl)) (Or.inl (own_w hw 64 rfl)) (by decide) (t := .int) (t' := .int) (by decide) (by decide)))) (g := (mkF m 17 #[.val (.ref a1), .val (.ref p1)] [(.ref a1), (.ref d), (.ref p1), (.ref a1)])) rfl rfl (hb hby own_d18_17)
  refine own_go st128 ?_
  show own_E p e below _ T128 (mkF m 20 #[.val (.ref a1), .val (.ref p1)] [(.int (1 : Int32)), (.ref d), (.ref p1), (.ref a1)])
  obtain ⟨cq129, kq129, qa129, qb129, qc129⟩ := isOf hZ e128 (LX.wr W126)
  obtain ⟨cc129, pa129, pb129⟩ := ((LX.wr W126)).cell
  obtain ⟨_, _, ⟨T129, L129, k129, n129⟩, -, X129, ⟨Lc129, hQ129, l129, y129, z129⟩, st129⟩ := X128.privateBack hx (y := (⟨"java/util/ArrayList", "add", "(Ljava/lang/Object;[Ljava/lang/Object;I)V"⟩ : MethodName)) hown (mvT hZ (own_w hw 147 rfl)) (mvT hZ (own_w hw 148 rfl)) (mvT hZ (own_w hw 150 rfl)) (Cond.privateMethod_at (mvP hZ (own_w hw 149 rfl) (args := #[]))) (mvT hZ (own_w hw 151 rfl)) (by decide) (backOf (W := 0) (own_rmB1 l Z a0 hw [] a1 d p0 p1 kd h126 n0 (by omega) (LD.other W126 (Or.inr (slot_ne (Or.inl (own_w hw 67 rfl)) (Or.inl (own_w hw 64 rfl)) (by decide) (t := (.array (.object "java/lang/Object"))) (t' := .int) (by decide) (by decide)))) (LZ.other W126 (Or.inr (slot_ne (Or.inl (own_w hw 126 rfl)) (Or.inl (own_w hw 64 rfl)) (by decide) (t := .int) (t' := .int) (by decide) (by decide)))) F126 (LX.wr W126) (LV.other W126 (by first | assumption | exact Ne.symm (by assumption) | exact own_ne (by omega))) LO (PX.wr W126) g0 g1 ne) hZ (own_w hw 151 rfl) (own_w hw 46 rfl) (by decide) (by decide)) (g := (mkF m 20 #[.val (.ref a1), .val (.ref p1)] [(.int (1 : Int32)), (.ref d), (.ref p1), (.ref a1)])) rfl (by rw [hml]; rfl) (Steps.refl _) (a := a1) (by rw [e128]; exact pa129) pb129 (argsL := [(.ref p1), (.ref d), (.int (1 : Int32))]) (rest := []) (lenOf own_pd8 rfl) rfl (by show 2 * 0 + _ ≤ _; exact Nat.le_of_eq rfl) (hb hby own_d18_20) (fun _ _ => ⟨rfl, e128, Nat.le_of_ble_eq_true rfl, Nat.le_of_ble_eq_true rfl⟩)
  dsimp only [Pt.U, Pt.locs, Pt.cells, Pt.slots] at X129 l129 y129 z129 st129 hQ129
  subst l129 y129 z129
  obtain ⟨rfl, M129, K129, F129, G129, J129, V129⟩ := hQ129
  have N129 := Fr.app N126 M129
  refine own_go (fun _ k => st129.trans k) ?_
  have z129 : h126.size ≤ T129.heap.size := K129.1
  show own_E p e below _ T129 (mkF m 23 #[.val (.ref a1), .val (.ref p1)] [])
  refine own_iconst X129 hx (hb hby own_d18_23) (v := (1 : Int32)) (by decide) ?_
  show own_E p e below _ T129 (mkF m 24 #[.val (.ref a1), .val (.ref p1)] [(.int (1 : Int32))])
  refine own_retN X129 hx (t := .boolean) Bd.returns (by simp) hlk (hb hby own_d18_24) (z' := (1 : Int32)) (by decide) (by decide) (by decide) ?_
  exact ⟨rfl, N129, (((Keep.refl _ _).wr W126 (Or.inl (List.mem_of_getElem? (i := 0) rfl))).trans K129 (allS (Or.inl (List.mem_of_getElem? (i := 0) rfl)) (allS (Or.inl (List.mem_of_getElem? (i := 1) rfl)) all0))), F129, G129, J129, V129⟩

def own_QW2 (Z : State) (a1 d : Addr) (k : ClassId) (vs : List Value) (v1 : Option Value) (h0 : Heap) (n0 : Nat) (v : Option Value) (h : Heap) (L : List Loc) : Prop := v = v1 ∧ Fr n0 L ∧ Keep h0 h [a1, d] ∧ Fld Z h a1 "java/util/ArrayList" "elementData" "[Ljava/lang/Object;" (.ref d) ∧ Fld Z h a1 "java/util/ArrayList" "size" "I" (.int (3 : Int32)) ∧ Fld Z h a1 "java/util/AbstractList" "modCount" "I" (.int (3 : Int32)) ∧ Arv Z h d k (.object "java/lang/Object") (10 : Int32) vs .null
theorem own_ef25 (m : MethodId) (x0 : Addr) (x1 : Addr) (x2 : Addr) (x3 : Int32) : entryFrame m #[(.ref x0), (.ref x1), (.ref x2), (.int x3)] 4 = mkF m 0 #[.val (.ref x0), .val (.ref x1), .val (.ref x2), .val (.int x3)] [] := by first | (simp [entryFrame, mkF, argsToLocals, Value.category]; done) | rfl
set_option maxRecDepth 65536 in
set_option maxHeartbeats 40000000 in
theorem own_rmB2 (l : Launch) (Z : State) (a0 : Array Value) (hw : ∀ d ∈ tables_1, d.before a0 Z = true) (ws : List Jvm.Cond) (a1 d p0 p1 p2 : Addr) (kd : ClassId) (h0 : Heap) (n0 : Nat) (Z0 : n0 ≤ h0.size) (LD : Fld Z h0 a1 "java/util/ArrayList" "elementData" "[Ljava/lang/Object;" (.ref d)) (LZ : Fld Z h0 a1 "java/util/ArrayList" "size" "I" (.int (2 : Int32))) (LM : Fld Z h0 a1 "java/util/AbstractList" "modCount" "I" (.int (3 : Int32))) (LX : Exa Z h0 a1 "java/util/ArrayList") (LV : Arv Z h0 d kd (.object "java/lang/Object") (10 : Int32) [.ref p0, .ref p1] .null) (LO : Ovr Z kd "java/lang/Object") (PX : Exa Z h0 p2 "com/example/narrow_gate/narrowgate/Target$Parameter") (g0 : n0 ≤ a1) (g1 : n0 ≤ d) (ne : a1 ≠ d) :
    MetFree l (⟨"java/util/ArrayList", "add", "(Ljava/lang/Object;[Ljava/lang/Object;I)V"⟩ : MethodName) (head1 (Jvm.Cond.code (⟨"java/util/ArrayList", "add", "(Ljava/lang/Object;[Ljava/lang/Object;I)V"⟩ : MethodName) jdk_38_method_24_code 4 none :: ws) ({ frames := 0, cells := 0, slots := 0, locals := 0 } : Room)) (fun a U => a = #[(.ref a1), (.ref p2), (.ref d), (.int (2 : Int32))] ∧ Z.Warmed39 U.vm ∧ U.heap = h0) (fun _ _ _ _ _ => True) (fun _ U o U' => ∃ v L, o = .returned v ∧ own_QW2 Z a1 d kd [.ref p0, .ref p1, .ref p2] none h0 n0 v U'.heap L ∧ FrameEnd U o U' L ({ frames := 0, cells := 0, slots := 0, locals := 0 } : Room).cells ({ frames := 0, cells := 0, slots := 0, locals := 0 } : Room).slots) := by
  refine MetFree.of_bodySF (plainFor_of_name own_pn3) hisR ?_
  intro p e s m args below meth c s₁ Bd hml0 hP hK
  obtain ⟨rfl, hZ, hh⟩ := hP
  have hx := Bd.exec
  have hby := Bd.bytes
  have hlk : meth.locks = false := Bd.notSynchronized
  have hml : c.maxLocals = 4 := hml0
  have hown : s.vm.findClass "java/util/ArrayList" = some m.cls := findClass_of_methodNamed Bd.named
  have hnm := (name_of_methodNamed Bd.named Bd.method).1
  have X0 : Stand p l e ({ frames := 0, cells := 0, slots := 0, locals := 0 } : Room) s m #[(.ref a1), (.ref p2), (.ref d), (.int (2 : Int32))] below meth c s₁ [] 0 0 := Stand.of_body Bd
  have e0 : s₁.heap = h0 := by rw [← hh, Bd.state]; rfl
  have N0 := Fr.nil n0
  show own_E p e below (own_P s (own_QW2 Z a1 d kd [.ref p0, .ref p1, .ref p2] none h0 n0) ({ frames := 0, cells := 0, slots := 0, locals := 0 } : Room).cells ({ frames := 0, cells := 0, slots := 0, locals := 0 } : Room).slots) s₁ (entryFrame m #[(.ref a1), (.ref p2), (.ref d), (.int (2 : Int32))] 4)
  refine own_cast (own_ef25 m a1 p2 d (2 : Int32)) ?_
  have lt130 := own_lt (LD).lt
  have lt131 := own_lt (LX).lt
  have lt132 := own_lt (LV).lt
  have lt133 := own_lt (PX).lt
  show own_E p e below _ s₁ (mkF m 0 #[.val (.ref a1), .val (.ref p2), .val (.ref d), .val (.int (2 : Int32))] [])
  refine own_iloadN X0 hx (hb hby own_d17_0) rfl ?_
  show own_E p e below _ s₁ (mkF m 1 #[.val (.ref a1), .val (.ref p2), .val (.ref d), .val (.int (2 : Int32))] [(.int (2 : Int32))])
  refine own_aloadN X0 hx (hb hby own_d17_1) rfl rfl ?_
  show own_E p e below _ s₁ (mkF m 2 #[.val (.ref a1), .val (.ref p2), .val (.ref d), .val (.int (2 : Int32))] [(.ref d), (.int (2 : Int32))])
  obtain ⟨c134, B134, q134, S134, M134, H134, U134⟩ := id LV
  refine own_alen X0 hx hZ e0 B134 (z := (10 : Int32)) (len_of S134 M134) (hb hby own_d17_2) ?_
  show own_E p e below _ s₁ (mkF m 3 #[.val (.ref a1), .val (.ref p2), .val (.ref d), .val (.int (2 : Int32))] [(.int (10 : Int32)), (.int (2 : Int32))])
  refine own_icmpYes X0 hx (hb hby own_d17_3) (by decide +kernel) 11 (by decide) (by decide) ?_
  show own_E p e below _ s₁ (mkF m 11 #[.val (.ref a1), .val (.ref p2), .val (.ref d), .val (.int (2 : Int32))] [])
  refine own_aloadN X0 hx (hb hby own_d17_11) rfl rfl ?_
  show own_E p e below _ s₁ (mkF m 12 #[.val (.ref a1), .val (.ref p2), .val (.ref d), .val (.int (2 : Int32))] [(.ref d)])
  refine own_iloadN X0 hx (hb hby own_d17_12) rfl ?_
  show own_E p e below _ s₁ (mkF m 13 #[.val (.ref a1), .val (.ref p2), .val (.ref d), .val (.int (2 : Int32))] [(.int (2 : Int32)), (.ref d)])
  refine own_aloadN X0 hx (hb hby own_d17_13) rfl rfl ?_
  show own_E p e below _ s₁ (mkF m 14 #[.val (.ref a1), .val (.ref p2), .val (.ref d), .val (.int (2 : Int32))] [(.ref p2), (.int (2 : Int32)), (.ref d)])
  have P135 : Arv Z h0 d kd (.object "java/lang/Object") (10 : Int32) [(.ref p0), (.ref p1), .null] .null := LV.pad (pad_rep [(.ref p0), (.ref p1)] .null 1)
  obtain ⟨c135, B135, q135, S135, M135, H135, U135⟩ := id P135
  obtain ⟨T136, h136, X136, e136, W136, st136⟩ := stR X0 hx hZ e0 B135 (j := (2 : Int32)) (inb_of S135 ⟨(by decide : ¬ ((2 : Int32) < (0 : Int32))), (by decide : (2 : Int32) < (10 : Int32))⟩) rfl (Sto.ofV B135 q135 LO (Ins.of_exa PX (own_w hw 168 rfl))) (g := (mkF m 14 #[.val (.ref a1), .val (.ref p2), .val (.ref d), .val (.int (2 : Int32))] [(.ref p2), (.int (2 : Int32)), (.ref d)])) rfl rfl (hb hby own_d17_14)
  have V136 : Arv Z h136 d kd (.object "java/lang/Object") (10 : Int32) [(.ref p0), (.ref p1), (.ref p2)] .null := Arv.set B135 q135 S135 M135 H135 U135 rfl W136 2 rfl (Nat.le_of_ble_eq_true rfl)
  refine own_go st136 ?_
  have N136 := Fr.snoc X136 N0 (by omega)
  have z136 : h0.size ≤ h136.size := Nat.le_of_eq W136.size.symm
  show own_E p e below _ T136 (mkF m 15 #[.val (.ref a1), .val (.ref p2), .val (.ref d), .val (.int (2 : Int32))] [])
  refine own_aloadN X136 hx (hb hby own_d17_15) rfl rfl ?_
  show own_E p e below _ T136 (mkF m 16 #[.val (.ref a1), .val (.ref p2), .val (.ref d), .val (.int (2 : Int32))] [(.ref a1)])
  refine own_iloadN X136 hx (hb hby own_d17_16) rfl ?_
  show own_E p e below _ T136 (mkF m 17 #[.val (.ref a1), .val (.ref p2), .val (.ref d), .val (.int (2 : Int32))] [(.int (2 : Int32)), (.ref a1)])
  refine own_iconst X136 hx (hb hby own_d17_17) (v := (1 : Int32)) (by decide) ?_
  show own_E p e below _ T136 (mkF m 18 #[.val (.ref a1), .val (.ref p2), .val (.ref d), .val (.int (2 : Int32))] [(.int (1 : Int32)), (.int (2 : Int32)), (.ref a1)])
  refine own_iadd X136 hx (hb hby own_d17_18) (z := (3 : Int32)) (by decide +kernel) ?_
  show own_E p e below _ T136 (mkF m 19 #[.val (.ref a1), .val (.ref p2), .val (.ref d), .val (.int (2 : Int32))] [(.int (3 : Int32)), (.ref a1)])
  obtain ⟨T137, h137, X137, e137, W137, st137⟩ := putF X136 hx hZ hown (host := "") (Or.inl (own_w hw 146 rfl)) Via.refl e136 (LZ.other W136 (Or.inl (by first | assumption | exact Ne.symm (by assumption) | exact own_ne (by omega)))) (LX.wr W136) (Or.inl (own_w hw 126 rfl)) (own_w hw 45 rfl) (ty := .int) (by decide) rfl rfl (g := (mkF m 19 #[.val (.ref a1), .val (.ref p2), .val (.ref d), .val (.int (2 : Int32))] [(.int (3 : Int32)), (.ref a1)])) rfl rfl (hb hby own_d17_19)
  refine own_go st137 ?_
  have N137 := Fr.snoc X137 N136 (by omega)
  have z137 : h136.size ≤ h137.size := Nat.le_of_eq W137.size.symm
  have F137 : Fld Z h137 a1 "java/util/ArrayList" "size" "I" (.int (3 : Int32)) := Fld.same W137 (LZ.other W136 (Or.inl (by first | assumption | exact Ne.symm (by assumption) | exact own_ne (by omega))))
  show own_E p e below _ T137 (mkF m 22 #[.val (.ref a1), .val (.ref p2), .val (.ref d), .val (.int (2 : Int32))] [])
  refine own_retV X137 hx Bd.returns hlk (hb hby own_d17_22) (by decide) (by decide) ?_
  rw [e137]
  exact ⟨rfl, N137, (((Keep.refl _ _).wr W136 (Or.inl (List.mem_of_getElem? (i := 1) rfl))).wr W137 (Or.inl (List.mem_of_getElem? (i := 0) rfl))), ((LD.other W136 (Or.inl (by first | assumption | exact Ne.symm (by assumption) | exact own_ne (by omega)))).other W137 (Or.inr (slot_ne (Or.inl (own_w hw 67 rfl)) (Or.inl (own_w hw 126 rfl)) (by decide) (t := (.array (.object "java/lang/Object"))) (t' := .int) (by decide) (by decide)))), F137, ((LM.other W136 (Or.inl (by first | assumption | exact Ne.symm (by assumption) | exact own_ne (by omega)))).other W137 (Or.inr (slot_ne (Or.inl (own_w hw 64 rfl)) (Or.inl (own_w hw 126 rfl)) (by decide) (t := .int) (t' := .int) (by decide) (by decide)))), (V136.other W137 (by first | assumption | exact Ne.symm (by assumption) | exact own_ne (by omega)))⟩

theorem own_ef26 (m : MethodId) (x0 : Addr) (x1 : Addr) : entryFrame m #[(.ref x0), (.ref x1)] 2 = mkF m 0 #[.val (.ref x0), .val (.ref x1)] [] := by first | (simp [entryFrame, mkF, argsToLocals, Value.category]; done) | rfl
set_option maxRecDepth 65536 in
set_option maxHeartbeats 40000000 in
theorem own_rmA2 (l : Launch) (Z : State) (a0 : Array Value) (hw : ∀ d ∈ tables_1, d.before a0 Z = true) (ws : List Jvm.Cond) (a1 d p0 p1 p2 : Addr) (kd : ClassId) (h0 : Heap) (n0 : Nat) (Z0 : n0 ≤ h0.size) (LD : Fld Z h0 a1 "java/util/ArrayList" "elementData" "[Ljava/lang/Object;" (.ref d)) (LZ : Fld Z h0 a1 "java/util/ArrayList" "size" "I" (.int (2 : Int32))) (LM : Fld Z h0 a1 "java/util/AbstractList" "modCount" "I" (.int (2 : Int32))) (LX : Exa Z h0 a1 "java/util/ArrayList") (LV : Arv Z h0 d kd (.object "java/lang/Object") (10 : Int32) [.ref p0, .ref p1] .null) (LO : Ovr Z kd "java/lang/Object") (PX : Exa Z h0 p2 "com/example/narrow_gate/narrowgate/Target$Parameter") (g0 : n0 ≤ a1) (g1 : n0 ≤ d) (ne : a1 ≠ d) :
    MetFree l (⟨"java/util/ArrayList", "add", "(Ljava/lang/Object;)Z"⟩ : MethodName) (head1 (Jvm.Cond.code (⟨"java/util/ArrayList", "add", "(Ljava/lang/Object;)Z"⟩ : MethodName) jdk_38_method_25_code 2 (some .boolean) :: ws) ({ frames := 1, cells := 0, slots := 0, locals := 20 } : Room)) (fun a U => a = #[(.ref a1), (.ref p2)] ∧ Z.Warmed39 U.vm ∧ U.heap = h0) (fun _ _ _ _ _ => True) (fun _ U o U' => ∃ v L, o = .returned v ∧ own_QW2 Z a1 d kd [.ref p0, .ref p1, .ref p2] (some (.int 1)) h0 n0 v U'.heap L ∧ FrameEnd U o U' L ({ frames := 1, cells := 0, slots := 0, locals := 20 } : Room).cells ({ frames := 1, cells := 0, slots := 0, locals := 20 } : Room).slots) := by
  refine MetFree.of_bodySF (plainFor_of_name own_pn3) hisR ?_
  intro p e s m args below meth c s₁ Bd hml0 hP hK
  obtain ⟨rfl, hZ, hh⟩ := hP
  have hx := Bd.exec
  have hby := Bd.bytes
  have hlk : meth.locks = false := Bd.notSynchronized
  have hml : c.maxLocals = 2 := hml0
  have hown : s.vm.findClass "java/util/ArrayList" = some m.cls := findClass_of_methodNamed Bd.named
  have hnm := (name_of_methodNamed Bd.named Bd.method).1
  have X0 : Stand p l e ({ frames := 1, cells := 0, slots := 0, locals := 20 } : Room) s m #[(.ref a1), (.ref p2)] below meth c s₁ [] 0 0 := Stand.of_body Bd
  have e0 : s₁.heap = h0 := by rw [← hh, Bd.state]; rfl
  have N0 := Fr.nil n0
  show own_E p e below (own_P s (own_QW2 Z a1 d kd [.ref p0, .ref p1, .ref p2] (some (.int 1)) h0 n0) ({ frames := 1, cells := 0, slots := 0, locals := 20 } : Room).cells ({ frames := 1, cells := 0, slots := 0, locals := 20 } : Room).slots) s₁ (entryFrame m #[(.ref a1), (.ref p2)] 2)
  refine own_cast (own_ef26 m a1 p2) ?_
  have lt138 := own_lt (LD).lt
  have lt139 := own_lt (LX).lt
  have lt140 := own_lt (LV).lt
  have lt141 := own_lt (PX).lt
  show own_E p e below _ s₁ (mkF m 0 #[.val (.ref a1), .val (.ref p2)] [])
  refine own_aloadN X0 hx (hb hby own_d18_0) rfl rfl ?_
  show own_E p e below _ s₁ (mkF m 1 #[.val (.ref a1), .val (.ref p2)] [(.ref a1)])
  refine own_dup X0 hx (hb hby own_d18_1) rfl ?_
  show own_E p e below _ s₁ (mkF m 2 #[.val (.ref a1), .val (.ref p2)] [(.ref a1), (.ref a1)])
  obtain ⟨T142, X142, e142, st142⟩ := getF X0 hx hZ hown (host := "") (Or.inl (own_w hw 145 rfl)) (Via.of (own_w hw 111 rfl)) e0 LM (g := (mkF m 2 #[.val (.ref a1), .val (.ref p2)] [(.ref a1), (.ref a1)])) rfl rfl (hb hby own_d18_2)
  refine own_go st142 ?_
  show own_E p e below _ T142 (mkF m 5 #[.val (.ref a1), .val (.ref p2)] [(.int (2 : Int32)), (.ref a1)])
  refine own_iconst X142 hx (hb hby own_d18_5) (v := (1 : Int32)) (by decide) ?_
  show own_E p e below _ T142 (mkF m 6 #[.val (.ref a1), .val (.ref p2)] [(.int (1 : Int32)), (.int (2 : Int32)), (.ref a1)])
  refine own_iadd X142 hx (hb hby own_d18_6) (z := (3 : Int32)) (by decide +kernel) ?_
  show own_E p e below _ T142 (mkF m 7 #[.val (.ref a1), .val (.ref p2)] [(.int (3 : Int32)), (.ref a1)])
  obtain ⟨T143, h143, X143, e143, W143, st143⟩ := putF X142 hx hZ hown (host := "") (Or.inl (own_w hw 145 rfl)) (Via.of (own_w hw 111 rfl)) e142 LM LX (Or.inl (own_w hw 64 rfl)) (own_w hw 45 rfl) (ty := .int) (by decide) rfl rfl (g := (mkF m 7 #[.val (.ref a1), .val (.ref p2)] [(.int (3 : Int32)), (.ref a1)])) rfl rfl (hb hby own_d18_7)
  refine own_go st143 ?_
  have N143 := Fr.snoc X143 N0 (by omega)
  have z143 : h0.size ≤ h143.size := Nat.le_of_eq W143.size.symm
  have F143 : Fld Z h143 a1 "java/util/AbstractList" "modCount" "I" (.int (3 : Int32)) := Fld.same W143 LM
  show own_E p e below _ T143 (mkF m 10 #[.val (.ref a1), .val (.ref p2)] [])
  refine own_aloadN X143 hx (hb hby own_d18_10) rfl rfl ?_
  show own_E p e below _ T143 (mkF m 11 #[.val (.ref a1), .val (.ref p2)] [(.ref a1)])
  refine own_aloadN X143 hx (hb hby own_d18_11) rfl rfl ?_
  show own_E p e below _ T143 (mkF m 12 #[.val (.ref a1), .val (.ref p2)] [(.ref p2), (.ref a1)])
  refine own_aloadN X143 hx (hb hby own_d18_12) rfl rfl ?_
  show own_E p e below _ T143 (mkF m 13 #[.val (.ref a1), .val (.ref p2)] [(.ref a1), (.ref p2), (.ref a1)])
  obtain ⟨T144, X144, e144, st144⟩ := getF X143 hx hZ hown (host := "") (Or.inl (own_w hw 66 rfl)) Via.refl e143 (LD.other W143 (Or.inr (slot_ne (Or.inl (own_w hw 67 rfl)) (Or.inl (own_w hw 64 rfl)) (by decide) (t := (.array (.object "java/lang/Object"))) (t' := .int) (by decide) (by decide)))) (g := (mkF m 13 #[.val (.ref a1), .val (.ref p2)] [(.ref a1), (.ref p2), (.ref a1)])) rfl rfl (hb hby own_d18_13)
  refine own_go st144 ?_
  show own_E p e below _ T144 (mkF m 16 #[.val (.ref a1), .val (.ref p2)] [(.ref d), (.ref p2), (.ref a1)])
  refine own_aloadN X144 hx (hb hby own_d18_16) rfl rfl ?_
  show own_E p e below _ T144 (mkF m 17 #[.val (.ref a1), .val (.ref p2)] [(.ref a1), (.ref d), (.ref p2), (.ref a1)])
  obtain ⟨T145, X145, e145, st145⟩ := getF X144 hx hZ hown (host := "") (Or.inl (own_w hw 146 rfl)) Via.refl e144 (LZ.other W143 (Or.inr (slot_ne (Or.inl (own_w hw 126 rfl)) (Or.inl (own_w hw 64 rfl)) (by decide) (t := .int) (t' := .int) (by decide) (by decide)))) (g := (mkF m 17 #[.val (.ref a1), .val (.ref p2)] [(.ref a1), (.ref d), (.ref p2), (.ref a1)])) rfl rfl (hb hby own_d18_17)
  refine own_go st145 ?_
  show own_E p e below _ T145 (mkF m 20 #[.val (.ref a1), .val (.ref p2)] [(.int (2 : Int32)), (.ref d), (.ref p2), (.ref a1)])
  obtain ⟨cq146, kq146, qa146, qb146, qc146⟩ := isOf hZ e145 (LX.wr W143)
  obtain ⟨cc146, pa146, pb146⟩ := ((LX.wr W143)).cell
  obtain ⟨_, _, ⟨T146, L146, k146, n146⟩, -, X146, ⟨Lc146, hQ146, l146, y146, z146⟩, st146⟩ := X145.privateBack hx (y := (⟨"java/util/ArrayList", "add", "(Ljava/lang/Object;[Ljava/lang/Object;I)V"⟩ : MethodName)) hown (mvT hZ (own_w hw 147 rfl)) (mvT hZ (own_w hw 148 rfl)) (mvT hZ (own_w hw 150 rfl)) (Cond.privateMethod_at (mvP hZ (own_w hw 149 rfl) (args := #[]))) (mvT hZ (own_w hw 151 rfl)) (by decide) (backOf (W := 0) (own_rmB2 l Z a0 hw [] a1 d p0 p1 p2 kd h143 n0 (by omega) (LD.other W143 (Or.inr (slot_ne (Or.inl (own_w hw 67 rfl)) (Or.inl (own_w hw 64 rfl)) (by decide) (t := (.array (.object "java/lang/Object"))) (t' := .int) (by decide) (by decide)))) (LZ.other W143 (Or.inr (slot_ne (Or.inl (own_w hw 126 rfl)) (Or.inl (own_w hw 64 rfl)) (by decide) (t := .int) (t' := .int) (by decide) (by decide)))) F143 (LX.wr W143) (LV.other W143 (by first | assumption | exact Ne.symm (by assumption) | exact own_ne (by omega))) LO (PX.wr W143) g0 g1 ne) hZ (own_w hw 151 rfl) (own_w hw 46 rfl) (by decide) (by decide)) (g := (mkF m 20 #[.val (.ref a1), .val (.ref p2)] [(.int (2 : Int32)), (.ref d), (.ref p2), (.ref a1)])) rfl (by rw [hml]; rfl) (Steps.refl _) (a := a1) (by rw [e145]; exact pa146) pb146 (argsL := [(.ref p2), (.ref d), (.int (2 : Int32))]) (rest := []) (lenOf own_pd8 rfl) rfl (by show 2 * 0 + _ ≤ _; exact Nat.le_of_eq rfl) (hb hby own_d18_20) (fun _ _ => ⟨rfl, e145, Nat.le_of_ble_eq_true rfl, Nat.le_of_ble_eq_true rfl⟩)
  dsimp only [Pt.U, Pt.locs, Pt.cells, Pt.slots] at X146 l146 y146 z146 st146 hQ146
  subst l146 y146 z146
  obtain ⟨rfl, M146, K146, F146, G146, J146, V146⟩ := hQ146
  have N146 := Fr.app N143 M146
  refine own_go (fun _ k => st146.trans k) ?_
  have z146 : h143.size ≤ T146.heap.size := K146.1
  show own_E p e below _ T146 (mkF m 23 #[.val (.ref a1), .val (.ref p2)] [])
  refine own_iconst X146 hx (hb hby own_d18_23) (v := (1 : Int32)) (by decide) ?_
  show own_E p e below _ T146 (mkF m 24 #[.val (.ref a1), .val (.ref p2)] [(.int (1 : Int32))])
  refine own_retN X146 hx (t := .boolean) Bd.returns (by simp) hlk (hb hby own_d18_24) (z' := (1 : Int32)) (by decide) (by decide) (by decide) ?_
  exact ⟨rfl, N146, (((Keep.refl _ _).wr W143 (Or.inl (List.mem_of_getElem? (i := 0) rfl))).trans K146 (allS (Or.inl (List.mem_of_getElem? (i := 0) rfl)) (allS (Or.inl (List.mem_of_getElem? (i := 1) rfl)) all0))), F146, G146, J146, V146⟩

def own_QJ2 (Z : State) (a1 l0 : Addr) (c x r : Int32) (v1 : Option Value) (h0 : Heap) (n0 : Nat) (v : Option Value) (h : Heap) (L : List Loc) : Prop := v = v1 ∧ Fr n0 L ∧ Keep h0 h [a1] ∧ Fld Z h a1 "java/util/ArrayList$Itr" "cursor" "I" (.int c) ∧ Fld Z h a1 "java/util/ArrayList$Itr" "expectedModCount" "I" (.int x) ∧ Fld Z h a1 "java/util/ArrayList$Itr" "this$0" "Ljava/util/ArrayList;" (.ref l0) ∧ Fld Z h a1 "java/util/ArrayList$Itr" "lastRet" "I" (.int r)
def own_QJ (Z : State) (a1 l0 : Addr) (c x : Int32) (v1 : Option Value) (h0 : Heap) (n0 : Nat) (v : Option Value) (h : Heap) (L : List Loc) : Prop := v = v1 ∧ Fr n0 L ∧ Keep h0 h [a1] ∧ Fld Z h a1 "java/util/ArrayList$Itr" "cursor" "I" (.int c) ∧ Fld Z h a1 "java/util/ArrayList$Itr" "expectedModCount" "I" (.int x) ∧ Fld Z h a1 "java/util/ArrayList$Itr" "this$0" "Ljava/util/ArrayList;" (.ref l0)
theorem own_pn8 : plainName "java/util/ArrayList$Itr" = true := by first | (simp [plainName, overriddenIn]; done) | decide +kernel
theorem own_ef27 (m : MethodId) (x0 : Addr) (x1 : Addr) : entryFrame m #[(.ref x0), (.ref x1)] 2 = mkF m 0 #[.val (.ref x0), .val (.ref x1)] [] := by first | (simp [entryFrame, mkF, argsToLocals, Value.category]; done) | rfl
theorem own_d19_0 : decode jdk_49_method_1_code 0 = .ok (.aload_n 0, 1) := by decide +kernel
theorem own_d19_1 : decode jdk_49_method_1_code 1 = .ok (.aload_n 1, 1) := by decide +kernel
theorem own_d19_2 : decode jdk_49_method_1_code 2 = .ok (.putfield 1, 3) := by decide +kernel
theorem own_d19_5 : decode jdk_49_method_1_code 5 = .ok (.aload_n 0, 1) := by decide +kernel
theorem own_d19_6 : decode jdk_49_method_1_code 6 = .ok (.invokespecial 7, 3) := by decide +kernel
theorem own_d19_9 : decode jdk_49_method_1_code 9 = .ok (.aload_n 0, 1) := by decide +kernel
theorem own_d19_10 : decode jdk_49_method_1_code 10 = .ok (.iconst (-1), 1) := by decide +kernel
theorem own_d19_11 : decode jdk_49_method_1_code 11 = .ok (.putfield 13, 3) := by decide +kernel
theorem own_d19_14 : decode jdk_49_method_1_code 14 = .ok (.aload_n 0, 1) := by decide +kernel
theorem own_d19_15 : decode jdk_49_method_1_code 15 = .ok (.aload_n 0, 1) := by decide +kernel
theorem own_d19_16 : decode jdk_49_method_1_code 16 = .ok (.getfield 1, 3) := by decide +kernel
theorem own_d19_19 : decode jdk_49_method_1_code 19 = .ok (.getfield 17, 3) := by decide +kernel
theorem own_d19_22 : decode jdk_49_method_1_code 22 = .ok (.putfield 22, 3) := by decide +kernel
theorem own_d19_25 : decode jdk_49_method_1_code 25 = .ok (.return_, 1) := by decide +kernel
set_option maxRecDepth 65536 in
set_option maxHeartbeats 40000000 in
theorem own_rmNI (l : Launch) (Z : State) (a0 : Array Value) (hw : ∀ d ∈ tables_1, d.before a0 Z = true) (ws : List Jvm.Cond) (a1 l0 : Addr) (x0 : Int32) (h0 : Heap) (n0 : Nat) (Z0 : n0 ≤ h0.size) (F0 : Fld Z h0 a1 "java/util/ArrayList$Itr" "cursor" "I" (.int (0 : Int32))) (F1 : Fld Z h0 a1 "java/util/ArrayList$Itr" "expectedModCount" "I" (.int (0 : Int32))) (F2 : Fld Z h0 a1 "java/util/ArrayList$Itr" "this$0" "Ljava/util/ArrayList;" .null) (F3 : Fld Z h0 a1 "java/util/ArrayList$Itr" "lastRet" "I" (.int (0 : Int32))) (A0 : Exa Z h0 a1 "java/util/ArrayList$Itr") (LM : Fld Z h0 l0 "java/util/AbstractList" "modCount" "I" (.int x0)) (g0 : n0 ≤ a1) (ne : l0 ≠ a1) :
    MetFree l (⟨"java/util/ArrayList$Itr", "<init>", "(Ljava/util/ArrayList;)V"⟩ : MethodName) (head1 (Jvm.Cond.code (⟨"java/util/ArrayList$Itr", "<init>", "(Ljava/util/ArrayList;)V"⟩ : MethodName) jdk_49_method_1_code 2 none :: ws) ({ frames := 1, cells := 0, slots := 0, locals := 12 } : Room)) (fun a U => a = #[(.ref a1), (.ref l0)] ∧ Z.Warmed39 U.vm ∧ U.heap = h0) (fun _ _ _ _ _ => True) (fun _ U o U' => ∃ v L, o = .returned v ∧ own_QJ2 Z a1 l0 0 x0 (-1) none h0 n0 v U'.heap L ∧ FrameEnd U o U' L ({ frames := 1, cells := 0, slots := 0, locals := 12 } : Room).cells ({ frames := 1, cells := 0, slots := 0, locals := 12 } : Room).slots) := by
  refine MetFree.of_bodySF (plainFor_of_name own_pn8) hisR ?_
  intro p e s m args below meth c s₁ Bd hml0 hP hK
  obtain ⟨rfl, hZ, hh⟩ := hP
  have hx := Bd.exec
  have hby := Bd.bytes
  have hlk : meth.locks = false := Bd.notSynchronized
  have hml : c.maxLocals = 2 := hml0
  have hown : s.vm.findClass "java/util/ArrayList$Itr" = some m.cls := findClass_of_methodNamed Bd.named
  have hnm := (name_of_methodNamed Bd.named Bd.method).1
  have X0 : Stand p l e ({ frames := 1, cells := 0, slots := 0, locals := 12 } : Room) s m #[(.ref a1), (.ref l0)] below meth c s₁ [] 0 0 := Stand.of_body Bd
  have e0 : s₁.heap = h0 := by rw [← hh, Bd.state]; rfl
  have N0 := Fr.nil n0
  show own_E p e below (own_P s (own_QJ2 Z a1 l0 0 x0 (-1) none h0 n0) ({ frames := 1, cells := 0, slots := 0, locals := 12 } : Room).cells ({ frames := 1, cells := 0, slots := 0, locals := 12 } : Room).slots) s₁ (entryFrame m #[(.ref a1), (.ref l0)] 2)
  refine own_cast (own_ef27 m a1 l0) ?_
  have lt147 := own_lt (F0).lt
  have lt148 := own_lt (A0).lt
  have lt149 := own_lt (LM).lt
  show own_E p e below _ s₁ (mkF m 0 #[.val (.ref a1), .val (.ref l0)] [])
  refine own_aloadN X0 hx (hb hby own_d19_0) rfl rfl ?_
  show own_E p e below _ s₁ (mkF m 1 #[.val (.ref a1), .val (.ref l0)] [(.ref a1)])
  refine own_aloadN X0 hx (hb hby own_d19_1) rfl rfl ?_
  show own_E p e below _ s₁ (mkF m 2 #[.val (.ref a1), .val (.ref l0)] [(.ref l0), (.ref a1)])
  obtain ⟨T150, h150, X150, e150, W150, st150⟩ := putF X0 hx hZ hown (host := "") (Or.inl (own_w hw 105 rfl)) Via.refl e0 F2 A0 (Or.inr ⟨(own_w hw 106 rfl), rfl, hnm⟩) (own_w hw 99 rfl) (ty := (.object "java/util/ArrayList")) (by decide) rfl rfl (g := (mkF m 2 #[.val (.ref a1), .val (.ref l0)] [(.ref l0), (.ref a1)])) rfl rfl (hb hby own_d19_2)
  refine own_go st150 ?_
  have N150 := Fr.snoc X150 N0 (by omega)
  have z150 : h0.size ≤ h150.size := Nat.le_of_eq W150.size.symm
  have F150 : Fld Z h150 a1 "java/util/ArrayList$Itr" "this$0" "Ljava/util/ArrayList;" (.ref l0) := Fld.same W150 F2
  show own_E p e below _ T150 (mkF m 5 #[.val (.ref a1), .val (.ref l0)] [])
  refine own_aloadN X150 hx (hb hby own_d19_5) rfl rfl ?_
  show own_E p e below _ T150 (mkF m 6 #[.val (.ref a1), .val (.ref l0)] [(.ref a1)])
  obtain ⟨T151, X151, e151, st151⟩ := initO X150 hx hZ hown (own_w hw 107 rfl) (own_w hw 20 rfl) (own_w hw 21 rfl) e150 (g := (mkF m 6 #[.val (.ref a1), .val (.ref l0)] [(.ref a1)])) rfl (by rw [hml]; rfl) rfl (hb hby own_d19_6) (by decide) (W := 0) (by show 2 * 0 + _ ≤ _; exact Nat.le_of_eq rfl) (by decide)
  refine own_go st151 ?_
  show own_E p e below _ T151 (mkF m 9 #[.val (.ref a1), .val (.ref l0)] [])
  refine own_aloadN X151 hx (hb hby own_d19_9) rfl rfl ?_
  show own_E p e below _ T151 (mkF m 10 #[.val (.ref a1), .val (.ref l0)] [(.ref a1)])
  refine own_iconst X151 hx (hb hby own_d19_10) (v := (-1 : Int32)) (by decide) ?_
  show own_E p e below _ T151 (mkF m 11 #[.val (.ref a1), .val (.ref l0)] [(.int (-1 : Int32)), (.ref a1)])
  obtain ⟨T152, h152, X152, e152, W152, st152⟩ := putF X151 hx hZ hown (host := "") (Or.inl (own_w hw 108 rfl)) Via.refl e151 (F3.other W150 (Or.inr (slot_ne (Or.inl (own_w hw 109 rfl)) (Or.inr (own_w hw 106 rfl)) (by decide) (t := .int) (t' := (.object "java/util/ArrayList")) (by decide) (by decide)))) (A0.wr W150) (Or.inl (own_w hw 109 rfl)) (own_w hw 99 rfl) (ty := .int) (by decide) rfl rfl (g := (mkF m 11 #[.val (.ref a1), .val (.ref l0)] [(.int (-1 : Int32)), (.ref a1)])) rfl rfl (hb hby own_d19_11)
  refine own_go st152 ?_
  have N152 := Fr.snoc X152 N150 (by omega)
  have z152 : h150.size ≤ h152.size := Nat.le_of_eq W152.size.symm
  have F152 : Fld Z h152 a1 "java/util/ArrayList$Itr" "lastRet" "I" (.int (-1 : Int32)) := Fld.same W152 (F3.other W150 (Or.inr (slot_ne (Or.inl (own_w hw 109 rfl)) (Or.inr (own_w hw 106 rfl)) (by decide) (t := .int) (t' := (.object "java/util/ArrayList")) (by decide) (by decide))))
  show own_E p e below _ T152 (mkF m 14 #[.val (.ref a1), .val (.ref l0)] [])
  refine own_aloadN X152 hx (hb hby own_d19_14) rfl rfl ?_
  show own_E p e below _ T152 (mkF m 15 #[.val (.ref a1), .val (.ref l0)] [(.ref a1)])
  refine own_aloadN X152 hx (hb hby own_d19_15) rfl rfl ?_
  show own_E p e below _ T152 (mkF m 16 #[.val (.ref a1), .val (.ref l0)] [(.ref a1), (.ref a1)])
  obtain ⟨T153, X153, e153, st153⟩ := getF X152 hx hZ hown (host := "") (Or.inl (own_w hw 105 rfl)) Via.refl e152 (F150.other W152 (Or.inr (slot_ne (Or.inr (own_w hw 106 rfl)) (Or.inl (own_w hw 109 rfl)) (by decide) (t := (.object "java/util/ArrayList")) (t' := .int) (by decide) (by decide)))) (g := (mkF m 16 #[.val (.ref a1), .val (.ref l0)] [(.ref a1), (.ref a1)])) rfl rfl (hb hby own_d19_16)
  refine own_go st153 ?_
  show own_E p e below _ T153 (mkF m 19 #[.val (.ref a1), .val (.ref l0)] [(.ref l0), (.ref a1)])
  obtain ⟨T154, X154, e154, st154⟩ := getF X153 hx hZ hown (host := "") (Or.inl (own_w hw 110 rfl)) (Via.of (own_w hw 111 rfl)) e153 ((LM.other W150 (Or.inl (by first | assumption | exact Ne.symm (by assumption) | exact own_ne (by omega)))).other W152 (Or.inl (by first | assumption | exact Ne.symm (by assumption) | exact own_ne (by omega)))) (g := (mkF m 19 #[.val (.ref a1), .val (.ref l0)] [(.ref l0), (.ref a1)])) rfl rfl (hb hby own_d19_19)
  refine own_go st154 ?_
  show own_E p e below _ T154 (mkF m 22 #[.val (.ref a1), .val (.ref l0)] [(.int x0), (.ref a1)])
  obtain ⟨T155, h155, X155, e155, W155, st155⟩ := putF X154 hx hZ hown (host := "") (Or.inl (own_w hw 112 rfl)) Via.refl e154 ((F1.other W150 (Or.inr (slot_ne (Or.inl (own_w hw 113 rfl)) (Or.inr (own_w hw 106 rfl)) (by decide) (t := .int) (t' := (.object "java/util/ArrayList")) (by decide) (by decide)))).other W152 (Or.inr (slot_ne (Or.inl (own_w hw 113 rfl)) (Or.inl (own_w hw 109 rfl)) (by decide) (t := .int) (t' := .int) (by decide) (by decide)))) ((A0.wr W150).wr W152) (Or.inl (own_w hw 113 rfl)) (own_w hw 99 rfl) (ty := .int) (by decide) rfl rfl (g := (mkF m 22 #[.val (.ref a1), .val (.ref l0)] [(.int x0), (.ref a1)])) rfl rfl (hb hby own_d19_22)
  refine own_go st155 ?_
  have N155 := Fr.snoc X155 N152 (by omega)
  have z155 : h152.size ≤ h155.size := Nat.le_of_eq W155.size.symm
  have F155 : Fld Z h155 a1 "java/util/ArrayList$Itr" "expectedModCount" "I" (.int x0) := Fld.same W155 ((F1.other W150 (Or.inr (slot_ne (Or.inl (own_w hw 113 rfl)) (Or.inr (own_w hw 106 rfl)) (by decide) (t := .int) (t' := (.object "java/util/ArrayList")) (by decide) (by decide)))).other W152 (Or.inr (slot_ne (Or.inl (own_w hw 113 rfl)) (Or.inl (own_w hw 109 rfl)) (by decide) (t := .int) (t' := .int) (by decide) (by decide))))
  show own_E p e below _ T155 (mkF m 25 #[.val (.ref a1), .val (.ref l0)] [])
  refine own_retV X155 hx Bd.returns hlk (hb hby own_d19_25) (by decide) (by decide) ?_
  rw [e155]
  exact ⟨rfl, N155, ((((Keep.refl _ _).wr W150 (Or.inl (List.mem_of_getElem? (i := 0) rfl))).wr W152 (Or.inl (List.mem_of_getElem? (i := 0) rfl))).wr W155 (Or.inl (List.mem_of_getElem? (i := 0) rfl))), (((F0.other W150 (Or.inr (slot_ne (Or.inl (own_w hw 124 rfl)) (Or.inr (own_w hw 106 rfl)) (by decide) (t := .int) (t' := (.object "java/util/ArrayList")) (by decide) (by decide)))).other W152 (Or.inr (slot_ne (Or.inl (own_w hw 124 rfl)) (Or.inl (own_w hw 109 rfl)) (by decide) (t := .int) (t' := .int) (by decide) (by decide)))).other W155 (Or.inr (slot_ne (Or.inl (own_w hw 124 rfl)) (Or.inl (own_w hw 113 rfl)) (by decide) (t := .int) (t' := .int) (by decide) (by decide)))), F155, ((F150.other W152 (Or.inr (slot_ne (Or.inr (own_w hw 106 rfl)) (Or.inl (own_w hw 109 rfl)) (by decide) (t := (.object "java/util/ArrayList")) (t' := .int) (by decide) (by decide)))).other W155 (Or.inr (slot_ne (Or.inr (own_w hw 106 rfl)) (Or.inl (own_w hw 113 rfl)) (by decide) (t := (.object "java/util/ArrayList")) (t' := .int) (by decide) (by decide)))), (F152.other W155 (Or.inr (slot_ne (Or.inl (own_w hw 109 rfl)) (Or.inl (own_w hw 113 rfl)) (by decide) (t := .int) (t' := .int) (by decide) (by decide))))⟩

def own_QR (Z : State) (l0 : Addr) (x : Int32) (h0 : Heap) (n0 : Nat) (v : Option Value) (h : Heap) (L : List Loc) : Prop := ∃ a, v = some (.ref a) ∧ Fr n0 L ∧ Keep h0 h [] ∧ h0.size ≤ a ∧ Exa Z h a "java/util/ArrayList$Itr" ∧ Fld Z h a "java/util/ArrayList$Itr" "cursor" "I" (.int (0 : Int32)) ∧ Fld Z h a "java/util/ArrayList$Itr" "expectedModCount" "I" (.int x) ∧ Fld Z h a "java/util/ArrayList$Itr" "this$0" "Ljava/util/ArrayList;" (.ref l0) ∧ Fld Z h a "java/util/ArrayList$Itr" "lastRet" "I" (.int (-1 : Int32))
theorem own_ef28 (m : MethodId) (x0 : Addr) : entryFrame m #[(.ref x0)] 1 = mkF m 0 #[.val (.ref x0)] [] := by first | (simp [entryFrame, mkF, argsToLocals, Value.category]; done) | rfl
theorem own_d20_0 : decode jdk_38_method_55_code 0 = .ok (.new 267, 3) := by decide +kernel
theorem own_d20_3 : decode jdk_38_method_55_code 3 = .ok (.dup, 1) := by decide +kernel
theorem own_d20_4 : decode jdk_38_method_55_code 4 = .ok (.aload_n 0, 1) := by decide +kernel
theorem own_pd9 : parseMethodDescriptor "(Ljava/util/ArrayList;)V" = some ⟨[(.object "java/util/ArrayList")], none⟩ := by decide +kernel
theorem own_d20_5 : decode jdk_38_method_55_code 5 = .ok (.invokespecial 269, 3) := by decide +kernel
theorem own_d20_8 : decode jdk_38_method_55_code 8 = .ok (.areturn, 1) := by decide +kernel
set_option maxRecDepth 65536 in
set_option maxHeartbeats 40000000 in
theorem own_rmIR (l : Launch) (Z : State) (a0 : Array Value) (hw : ∀ d ∈ tables_1, d.before a0 Z = true) (ws : List Jvm.Cond) (l0 : Addr) (x0 : Int32) (h0 : Heap) (n0 : Nat) (Z0 : n0 ≤ h0.size) (LM : Fld Z h0 l0 "java/util/AbstractList" "modCount" "I" (.int x0)) (LX : Exa Z h0 l0 "java/util/ArrayList") :
    MetFree l (⟨"java/util/ArrayList", "iterator", "()Ljava/util/Iterator;"⟩ : MethodName) (head1 (Jvm.Cond.code (⟨"java/util/ArrayList", "iterator", "()Ljava/util/Iterator;"⟩ : MethodName) jdk_38_method_55_code 1 (some (.object "java/util/Iterator")) :: ws) ({ frames := 2, cells := 1, slots := 4, locals := 32 } : Room)) (fun a U => a = #[(.ref l0)] ∧ Z.Warmed39 U.vm ∧ U.heap = h0) (fun _ _ _ _ _ => True) (fun _ U o U' => ∃ v L, o = .returned v ∧ own_QR Z l0 x0 h0 n0 v U'.heap L ∧ FrameEnd U o U' L ({ frames := 2, cells := 1, slots := 4, locals := 32 } : Room).cells ({ frames := 2, cells := 1, slots := 4, locals := 32 } : Room).slots) := by
  refine MetFree.of_bodySF (plainFor_of_name own_pn3) hisR ?_
  intro p e s m args below meth c s₁ Bd hml0 hP hK
  obtain ⟨rfl, hZ, hh⟩ := hP
  have hx := Bd.exec
  have hby := Bd.bytes
  have hlk : meth.locks = false := Bd.notSynchronized
  have hml : c.maxLocals = 1 := hml0
  have hown : s.vm.findClass "java/util/ArrayList" = some m.cls := findClass_of_methodNamed Bd.named
  have hnm := (name_of_methodNamed Bd.named Bd.method).1
  have X0 : Stand p l e ({ frames := 2, cells := 1, slots := 4, locals := 32 } : Room) s m #[(.ref l0)] below meth c s₁ [] 0 0 := Stand.of_body Bd
  have e0 : s₁.heap = h0 := by rw [← hh, Bd.state]; rfl
  have N0 := Fr.nil n0
  show own_E p e below (own_P s (own_QR Z l0 x0 h0 n0) ({ frames := 2, cells := 1, slots := 4, locals := 32 } : Room).cells ({ frames := 2, cells := 1, slots := 4, locals := 32 } : Room).slots) s₁ (entryFrame m #[(.ref l0)] 1)
  refine own_cast (own_ef28 m l0) ?_
  have lt156 := own_lt (LM).lt
  have lt157 := own_lt (LX).lt
  show own_E p e below _ s₁ (mkF m 0 #[.val (.ref l0)] [])
  obtain ⟨T158, h158, X158, e158, E158, A158, D158, -, st158⟩ := newO X0 hx hZ hown (own_w hw 98 rfl) (own_w hw 99 rfl) (own_w hw 100 rfl) e0 (g := (mkF m 0 #[.val (.ref l0)] [])) rfl (hb hby own_d20_0) (by decide) (by decide)
  obtain ⟨a158, g158⟩ : ∃ z, z = h0.size := ⟨_, rfl⟩
  rw [← g158] at A158 D158 st158
  have z158 : h0.size ≤ h158.size := E158.1
  have t158 : a158 < h158.size := A158.lt
  refine own_go st158 ?_
  have lt159 := own_lt (A158).lt
  show own_E p e below _ T158 (mkF m 3 #[.val (.ref l0)] [(.ref a158)])
  refine own_dup X158 hx (hb hby own_d20_3) rfl ?_
  show own_E p e below _ T158 (mkF m 4 #[.val (.ref l0)] [(.ref a158), (.ref a158)])
  refine own_aloadN X158 hx (hb hby own_d20_4) rfl rfl ?_
  show own_E p e below _ T158 (mkF m 5 #[.val (.ref l0)] [(.ref l0), (.ref a158), (.ref a158)])
  obtain ⟨_, _, ⟨T160, L160, k160, n160⟩, -, X160, ⟨Lc160, hQ160, l160, y160, z160⟩, st160⟩ := X158.specialBack hx (y := (⟨"java/util/ArrayList$Itr", "<init>", "(Ljava/util/ArrayList;)V"⟩ : MethodName)) rfl hown (mvT hZ (own_w hw 101 rfl)) (mvT hZ (own_w hw 102 rfl)) (mvT hZ (own_w hw 104 rfl)) (by decide) (backOf (W := 1) (own_rmNI l Z a0 hw [] a158 l0 x0 h158 n0 (by omega) (D158 (Or.inl (own_w hw 124 rfl)) (ty := .int) (by decide)) (D158 (Or.inl (own_w hw 113 rfl)) (ty := .int) (by decide)) (D158 (Or.inr (own_w hw 106 rfl)) (ty := (.object "java/util/ArrayList")) (by decide)) (D158 (Or.inl (own_w hw 109 rfl)) (ty := .int) (by decide)) A158 (LM.ext E158) (by omega) (own_ne (by omega))) hZ (own_w hw 104 rfl) (own_w hw 100 rfl) (by decide) (by decide)) (g := (mkF m 5 #[.val (.ref l0)] [(.ref l0), (.ref a158), (.ref a158)])) rfl (by rw [hml]; rfl) (Steps.refl _) (a := a158) (argsL := [(.ref l0)]) (rest := [(.ref a158)]) (lenOf own_pd9 rfl) rfl (by show 2 * 0 + _ ≤ _; exact Nat.le_of_eq rfl) (hb hby own_d20_5) (fun _ _ => ⟨rfl, e158, Nat.le_of_ble_eq_true rfl, Nat.le_of_ble_eq_true rfl⟩)
  dsimp only [Pt.U, Pt.locs, Pt.cells, Pt.slots] at X160 l160 y160 z160 st160 hQ160
  subst l160 y160 z160
  obtain ⟨rfl, M160, K160, F160, G160, J160, R160⟩ := hQ160
  have N160 := Fr.app N0 M160
  refine own_go (fun _ k => st160.trans k) ?_
  have z160 : h158.size ≤ T160.heap.size := K160.1
  show own_E p e below _ T160 (mkF m 8 #[.val (.ref l0)] [(.ref a158)])
  refine own_retA X160 hx Bd.returns rfl rfl hlk (hb hby own_d20_8) (by decide) (by decide) ?_
  exact ⟨_, rfl, N160, (((Keep.refl _ _).ext E158).trans K160 (allS (Or.inr (by omega)) all0)), (by omega), (A158.keep K160), F160, G160, J160, R160⟩

def own_hn (c n : Int32) : Int32 := if c = n then 0 else 1
theorem own_ef29 (m : MethodId) (x0 : Addr) : entryFrame m #[(.ref x0)] 1 = mkF m 0 #[.val (.ref x0)] [] := by first | (simp [entryFrame, mkF, argsToLocals, Value.category]; done) | rfl
theorem own_d21_0 : decode jdk_49_method_2_code 0 = .ok (.aload_n 0, 1) := by decide +kernel
theorem own_d21_1 : decode jdk_49_method_2_code 1 = .ok (.getfield 25, 3) := by decide +kernel
theorem own_d21_4 : decode jdk_49_method_2_code 4 = .ok (.aload_n 0, 1) := by decide +kernel
theorem own_d21_5 : decode jdk_49_method_2_code 5 = .ok (.getfield 1, 3) := by decide +kernel
theorem own_d21_8 : decode jdk_49_method_2_code 8 = .ok (.getfield 28, 3) := by decide +kernel
theorem own_d21_11 : decode jdk_49_method_2_code 11 = .ok (.if_icmp .eq 7, 3) := by decide +kernel
theorem own_d21_18 : decode jdk_49_method_2_code 18 = .ok (.iconst 0, 1) := by decide +kernel
theorem own_d21_19 : decode jdk_49_method_2_code 19 = .ok (.ireturn, 1) := by decide +kernel
theorem own_d21_14 : decode jdk_49_method_2_code 14 = .ok (.iconst 1, 1) := by decide +kernel
theorem own_d21_15 : decode jdk_49_method_2_code 15 = .ok (.goto 4, 3) := by decide +kernel
set_option maxRecDepth 65536 in
set_option maxHeartbeats 40000000 in
theorem own_rmHN (l : Launch) (Z : State) (a0 : Array Value) (hw : ∀ d ∈ tables_1, d.before a0 Z = true) (ws : List Jvm.Cond) (a1 l0 : Addr) (c0 z0 : Int32) (h0 : Heap) (n0 : Nat) (Z0 : n0 ≤ h0.size) (F0 : Fld Z h0 a1 "java/util/ArrayList$Itr" "cursor" "I" (.int c0)) (F2 : Fld Z h0 a1 "java/util/ArrayList$Itr" "this$0" "Ljava/util/ArrayList;" (.ref l0)) (LZ : Fld Z h0 l0 "java/util/ArrayList" "size" "I" (.int z0)) :
    MetFree l (⟨"java/util/ArrayList$Itr", "hasNext", "()Z"⟩ : MethodName) (head1 (Jvm.Cond.code (⟨"java/util/ArrayList$Itr", "hasNext", "()Z"⟩ : MethodName) jdk_49_method_2_code 1 (some .boolean) :: ws) ({ frames := 0, cells := 0, slots := 0, locals := 0 } : Room)) (fun a U => a = #[(.ref a1)] ∧ Z.Warmed39 U.vm ∧ U.heap = h0) (fun _ _ _ _ _ => True) (fun _ U o U' => ∃ v L, o = .returned v ∧ own_Q (.int (own_hn c0 z0)) h0 n0 v U'.heap L ∧ FrameEnd U o U' L ({ frames := 0, cells := 0, slots := 0, locals := 0 } : Room).cells ({ frames := 0, cells := 0, slots := 0, locals := 0 } : Room).slots) := by
  refine MetFree.of_bodySF (plainFor_of_name own_pn8) hisR ?_
  intro p e s m args below meth c s₁ Bd hml0 hP hK
  obtain ⟨rfl, hZ, hh⟩ := hP
  have hx := Bd.exec
  have hby := Bd.bytes
  have hlk : meth.locks = false := Bd.notSynchronized
  have hml : c.maxLocals = 1 := hml0
  have hown : s.vm.findClass "java/util/ArrayList$Itr" = some m.cls := findClass_of_methodNamed Bd.named
  have hnm := (name_of_methodNamed Bd.named Bd.method).1
  have X0 : Stand p l e ({ frames := 0, cells := 0, slots := 0, locals := 0 } : Room) s m #[(.ref a1)] below meth c s₁ [] 0 0 := Stand.of_body Bd
  have e0 : s₁.heap = h0 := by rw [← hh, Bd.state]; rfl
  have N0 := Fr.nil n0
  show own_E p e below (own_P s (own_Q (.int (own_hn c0 z0)) h0 n0) ({ frames := 0, cells := 0, slots := 0, locals := 0 } : Room).cells ({ frames := 0, cells := 0, slots := 0, locals := 0 } : Room).slots) s₁ (entryFrame m #[(.ref a1)] 1)
  refine own_cast (own_ef29 m a1) ?_
  have lt161 := own_lt (F0).lt
  have lt162 := own_lt (LZ).lt
  show own_E p e below _ s₁ (mkF m 0 #[.val (.ref a1)] [])
  refine own_aloadN X0 hx (hb hby own_d21_0) rfl rfl ?_
  show own_E p e below _ s₁ (mkF m 1 #[.val (.ref a1)] [(.ref a1)])
  obtain ⟨T163, X163, e163, st163⟩ := getF X0 hx hZ hown (host := "") (Or.inl (own_w hw 123 rfl)) Via.refl e0 F0 (g := (mkF m 1 #[.val (.ref a1)] [(.ref a1)])) rfl rfl (hb hby own_d21_1)
  refine own_go st163 ?_
  show own_E p e below _ T163 (mkF m 4 #[.val (.ref a1)] [(.int c0)])
  refine own_aloadN X163 hx (hb hby own_d21_4) rfl rfl ?_
  show own_E p e below _ T163 (mkF m 5 #[.val (.ref a1)] [(.ref a1), (.int c0)])
  obtain ⟨T164, X164, e164, st164⟩ := getF X163 hx hZ hown (host := "") (Or.inl (own_w hw 105 rfl)) Via.refl e163 F2 (g := (mkF m 5 #[.val (.ref a1)] [(.ref a1), (.int c0)])) rfl rfl (hb hby own_d21_5)
  refine own_go st164 ?_
  show own_E p e below _ T164 (mkF m 8 #[.val (.ref a1)] [(.ref l0), (.int c0)])
  obtain ⟨T165, X165, e165, st165⟩ := getF X164 hx hZ hown (Or.inr (own_w hw 125 rfl)) Via.refl e164 LZ (g := (mkF m 8 #[.val (.ref a1)] [(.ref l0), (.int c0)])) rfl rfl (hb hby own_d21_8)
  refine own_go st165 ?_
  show own_E p e below _ T165 (mkF m 11 #[.val (.ref a1)] [(.int z0), (.int c0)])
  by_cases hc : c0 = z0
  · skip
    refine own_icmpYes X165 hx (hb hby own_d21_11) (XT.ii_eq_t hc) 18 (by decide) (by decide) ?_
    show own_E p e below _ T165 (mkF m 18 #[.val (.ref a1)] [])
    refine own_iconst X165 hx (hb hby own_d21_18) (v := (0 : Int32)) (by decide) ?_
    show own_E p e below _ T165 (mkF m 19 #[.val (.ref a1)] [(.int (0 : Int32))])
    refine own_retN X165 hx (t := .boolean) Bd.returns (by simp) hlk (hb hby own_d21_19) (z' := (0 : Int32)) (by decide) (by decide) (by decide) ?_
    rw [e165]
    exact ⟨by rw [own_hn, if_pos hc], N0, rfl⟩
  · skip
    refine own_icmpNo X165 hx (hb hby own_d21_11) (XT.ii_eq_f hc) ?_
    show own_E p e below _ T165 (mkF m 14 #[.val (.ref a1)] [])
    refine own_iconst X165 hx (hb hby own_d21_14) (v := (1 : Int32)) (by decide) ?_
    show own_E p e below _ T165 (mkF m 15 #[.val (.ref a1)] [(.int (1 : Int32))])
    refine own_goto X165 hx (hb hby own_d21_15) 19 (by decide) (by decide) ?_
    show own_E p e below _ T165 (mkF m 19 #[.val (.ref a1)] [(.int (1 : Int32))])
    refine own_retN X165 hx (t := .boolean) Bd.returns (by simp) hlk (hb hby own_d21_19) (z' := (1 : Int32)) (by decide) (by decide) (by decide) ?_
    rw [e165]
    exact ⟨by rw [own_hn, if_neg hc], N0, rfl⟩

theorem own_ef30 (m : MethodId) (x0 : Addr) : entryFrame m #[(.ref x0)] 1 = mkF m 0 #[.val (.ref x0)] [] := by first | (simp [entryFrame, mkF, argsToLocals, Value.category]; done) | rfl
theorem own_d22_0 : decode jdk_49_method_6_code 0 = .ok (.aload_n 0, 1) := by decide +kernel
theorem own_d22_1 : decode jdk_49_method_6_code 1 = .ok (.getfield 1, 3) := by decide +kernel
theorem own_d22_4 : decode jdk_49_method_6_code 4 = .ok (.getfield 17, 3) := by decide +kernel
theorem own_d22_7 : decode jdk_49_method_6_code 7 = .ok (.aload_n 0, 1) := by decide +kernel
theorem own_d22_8 : decode jdk_49_method_6_code 8 = .ok (.getfield 22, 3) := by decide +kernel
theorem own_d22_11 : decode jdk_49_method_6_code 11 = .ok (.if_icmp .eq 11, 3) := by decide +kernel
theorem own_d22_22 : decode jdk_49_method_6_code 22 = .ok (.return_, 1) := by decide +kernel
set_option maxRecDepth 65536 in
set_option maxHeartbeats 40000000 in
theorem own_rmCM (l : Launch) (Z : State) (a0 : Array Value) (hw : ∀ d ∈ tables_1, d.before a0 Z = true) (ws : List Jvm.Cond) (a1 l0 : Addr) (x0 : Int32) (h0 : Heap) (n0 : Nat) (Z0 : n0 ≤ h0.size) (F1 : Fld Z h0 a1 "java/util/ArrayList$Itr" "expectedModCount" "I" (.int x0)) (F2 : Fld Z h0 a1 "java/util/ArrayList$Itr" "this$0" "Ljava/util/ArrayList;" (.ref l0)) (LM : Fld Z h0 l0 "java/util/AbstractList" "modCount" "I" (.int x0)) :
    MetFree l (⟨"java/util/ArrayList$Itr", "checkForComodification", "()V"⟩ : MethodName) (head1 (Jvm.Cond.code (⟨"java/util/ArrayList$Itr", "checkForComodification", "()V"⟩ : MethodName) jdk_49_method_6_code 1 none :: ws) ({ frames := 0, cells := 0, slots := 0, locals := 0 } : Room)) (fun a U => a = #[(.ref a1)] ∧ Z.Warmed39 U.vm ∧ U.heap = h0) (fun _ _ _ _ _ => True) (fun _ U o U' => ∃ v L, o = .returned v ∧ own_QV h0 n0 v U'.heap L ∧ FrameEnd U o U' L ({ frames := 0, cells := 0, slots := 0, locals := 0 } : Room).cells ({ frames := 0, cells := 0, slots := 0, locals := 0 } : Room).slots) := by
  refine MetFree.of_bodySF (plainFor_of_name own_pn8) hisR ?_
  intro p e s m args below meth c s₁ Bd hml0 hP hK
  obtain ⟨rfl, hZ, hh⟩ := hP
  have hx := Bd.exec
  have hby := Bd.bytes
  have hlk : meth.locks = false := Bd.notSynchronized
  have hml : c.maxLocals = 1 := hml0
  have hown : s.vm.findClass "java/util/ArrayList$Itr" = some m.cls := findClass_of_methodNamed Bd.named
  have hnm := (name_of_methodNamed Bd.named Bd.method).1
  have X0 : Stand p l e ({ frames := 0, cells := 0, slots := 0, locals := 0 } : Room) s m #[(.ref a1)] below meth c s₁ [] 0 0 := Stand.of_body Bd
  have e0 : s₁.heap = h0 := by rw [← hh, Bd.state]; rfl
  have N0 := Fr.nil n0
  show own_E p e below (own_P s (own_QV h0 n0) ({ frames := 0, cells := 0, slots := 0, locals := 0 } : Room).cells ({ frames := 0, cells := 0, slots := 0, locals := 0 } : Room).slots) s₁ (entryFrame m #[(.ref a1)] 1)
  refine own_cast (own_ef30 m a1) ?_
  have lt166 := own_lt (F1).lt
  have lt167 := own_lt (LM).lt
  show own_E p e below _ s₁ (mkF m 0 #[.val (.ref a1)] [])
  refine own_aloadN X0 hx (hb hby own_d22_0) rfl rfl ?_
  show own_E p e below _ s₁ (mkF m 1 #[.val (.ref a1)] [(.ref a1)])
  obtain ⟨T168, X168, e168, st168⟩ := getF X0 hx hZ hown (host := "") (Or.inl (own_w hw 105 rfl)) Via.refl e0 F2 (g := (mkF m 1 #[.val (.ref a1)] [(.ref a1)])) rfl rfl (hb hby own_d22_1)
  refine own_go st168 ?_
  show own_E p e below _ T168 (mkF m 4 #[.val (.ref a1)] [(.ref l0)])
  obtain ⟨T169, X169, e169, st169⟩ := getF X168 hx hZ hown (host := "") (Or.inl (own_w hw 110 rfl)) (Via.of (own_w hw 111 rfl)) e168 LM (g := (mkF m 4 #[.val (.ref a1)] [(.ref l0)])) rfl rfl (hb hby own_d22_4)
  refine own_go st169 ?_
  show own_E p e below _ T169 (mkF m 7 #[.val (.ref a1)] [(.int x0)])
  refine own_aloadN X169 hx (hb hby own_d22_7) rfl rfl ?_
  show own_E p e below _ T169 (mkF m 8 #[.val (.ref a1)] [(.ref a1), (.int x0)])
  obtain ⟨T170, X170, e170, st170⟩ := getF X169 hx hZ hown (host := "") (Or.inl (own_w hw 112 rfl)) Via.refl e169 F1 (g := (mkF m 8 #[.val (.ref a1)] [(.ref a1), (.int x0)])) rfl rfl (hb hby own_d22_8)
  refine own_go st170 ?_
  show own_E p e below _ T170 (mkF m 11 #[.val (.ref a1)] [(.int x0), (.int x0)])
  refine own_icmpYes X170 hx (hb hby own_d22_11) (XT.ii_eq_t rfl) 22 (by decide) (by decide) ?_
  show own_E p e below _ T170 (mkF m 22 #[.val (.ref a1)] [])
  refine own_retV X170 hx Bd.returns hlk (hb hby own_d22_22) (by decide) (by decide) ?_
  rw [e170]
  exact ⟨rfl, N0, rfl⟩

theorem own_ef31 (m : MethodId) (x0 : Addr) : entryFrame m #[(.ref x0)] 3 = mkF m 0 #[.val (.ref x0), .unset, .unset] [] := by first | (simp [entryFrame, mkF, argsToLocals, Value.category]; done) | rfl
theorem own_d23_0 : decode jdk_49_method_3_code 0 = .ok (.aload_n 0, 1) := by decide +kernel
theorem own_d23_1 : decode jdk_49_method_3_code 1 = .ok (.invokevirtual 31, 3) := by decide +kernel
theorem own_d23_4 : decode jdk_49_method_3_code 4 = .ok (.aload_n 0, 1) := by decide +kernel
theorem own_d23_5 : decode jdk_49_method_3_code 5 = .ok (.getfield 25, 3) := by decide +kernel
theorem own_d23_8 : decode jdk_49_method_3_code 8 = .ok (.istore_n 1, 1) := by decide +kernel
theorem own_d23_9 : decode jdk_49_method_3_code 9 = .ok (.iload_n 1, 1) := by decide +kernel
theorem own_d23_10 : decode jdk_49_method_3_code 10 = .ok (.aload_n 0, 1) := by decide +kernel
theorem own_d23_11 : decode jdk_49_method_3_code 11 = .ok (.getfield 1, 3) := by decide +kernel
theorem own_d23_14 : decode jdk_49_method_3_code 14 = .ok (.getfield 28, 3) := by decide +kernel
theorem own_d23_17 : decode jdk_49_method_3_code 17 = .ok (.if_icmp .lt 11, 3) := by decide +kernel
theorem own_d23_28 : decode jdk_49_method_3_code 28 = .ok (.aload_n 0, 1) := by decide +kernel
theorem own_d23_29 : decode jdk_49_method_3_code 29 = .ok (.getfield 1, 3) := by decide +kernel
theorem own_d23_32 : decode jdk_49_method_3_code 32 = .ok (.getfield 37, 3) := by decide +kernel
theorem own_d23_35 : decode jdk_49_method_3_code 35 = .ok (.astore_n 2, 1) := by decide +kernel
theorem own_d23_36 : decode jdk_49_method_3_code 36 = .ok (.iload_n 1, 1) := by decide +kernel
theorem own_d23_37 : decode jdk_49_method_3_code 37 = .ok (.aload_n 2, 1) := by decide +kernel
theorem own_d23_38 : decode jdk_49_method_3_code 38 = .ok (.arraylength, 1) := by decide +kernel
theorem own_d23_39 : decode jdk_49_method_3_code 39 = .ok (.if_icmp .lt 11, 3) := by decide +kernel
theorem own_d23_50 : decode jdk_49_method_3_code 50 = .ok (.aload_n 0, 1) := by decide +kernel
theorem own_d23_51 : decode jdk_49_method_3_code 51 = .ok (.iload_n 1, 1) := by decide +kernel
theorem own_d23_52 : decode jdk_49_method_3_code 52 = .ok (.iconst 1, 1) := by decide +kernel
theorem own_d23_53 : decode jdk_49_method_3_code 53 = .ok (.iadd, 1) := by decide +kernel
theorem own_d23_54 : decode jdk_49_method_3_code 54 = .ok (.putfield 25, 3) := by decide +kernel
theorem own_d23_57 : decode jdk_49_method_3_code 57 = .ok (.aload_n 2, 1) := by decide +kernel
theorem own_d23_58 : decode jdk_49_method_3_code 58 = .ok (.aload_n 0, 1) := by decide +kernel
theorem own_d23_59 : decode jdk_49_method_3_code 59 = .ok (.iload_n 1, 1) := by decide +kernel
theorem own_d23_60 : decode jdk_49_method_3_code 60 = .ok (.dup_x1, 1) := by decide +kernel
theorem own_d23_61 : decode jdk_49_method_3_code 61 = .ok (.putfield 13, 3) := by decide +kernel
theorem own_d23_64 : decode jdk_49_method_3_code 64 = .ok (.aaload, 1) := by decide +kernel
theorem own_d23_65 : decode jdk_49_method_3_code 65 = .ok (.areturn, 1) := by decide +kernel
set_option maxRecDepth 65536 in
set_option maxHeartbeats 40000000 in
theorem own_rmNX (l : Launch) (Z : State) (a0 : Array Value) (hw : ∀ d ∈ tables_1, d.before a0 Z = true) (ws : List Jvm.Cond) (a1 l0 d p0 : Addr) (kd : ClassId) (vs : List Value) (c0 j0 z0 x0 r0 : Int32) (h0 : Heap) (n0 : Nat) (Z0 : n0 ≤ h0.size) (F0 : Fld Z h0 a1 "java/util/ArrayList$Itr" "cursor" "I" (.int c0)) (F1 : Fld Z h0 a1 "java/util/ArrayList$Itr" "expectedModCount" "I" (.int x0)) (F2 : Fld Z h0 a1 "java/util/ArrayList$Itr" "this$0" "Ljava/util/ArrayList;" (.ref l0)) (F3 : Fld Z h0 a1 "java/util/ArrayList$Itr" "lastRet" "I" (.int r0)) (A0 : Exa Z h0 a1 "java/util/ArrayList$Itr") (LD : Fld Z h0 l0 "java/util/ArrayList" "elementData" "[Ljava/lang/Object;" (.ref d)) (LZ : Fld Z h0 l0 "java/util/ArrayList" "size" "I" (.int z0)) (LM : Fld Z h0 l0 "java/util/AbstractList" "modCount" "I" (.int x0)) (LV : Arv Z h0 d kd (.object "java/lang/Object") (10 : Int32) vs .null) (hj : c0 + 1 = j0) (h1 : ¬ c0 < 0) (h2 : c0 < z0) (h3 : c0 < 10) (hat : vs.getD c0.toNatClampNeg .null = .ref p0) (g0 : n0 ≤ a1) (ne : l0 ≠ a1) (ne2 : d ≠ a1) :
    MetFree l (⟨"java/util/ArrayList$Itr", "next", "()Ljava/lang/Object;"⟩ : MethodName) (head1 (Jvm.Cond.code (⟨"java/util/ArrayList$Itr", "next", "()Ljava/lang/Object;"⟩ : MethodName) jdk_49_method_3_code 3 (some (.object "java/lang/Object")) :: ws) ({ frames := 1, cells := 0, slots := 0, locals := 20 } : Room)) (fun a U => a = #[(.ref a1)] ∧ Z.Warmed39 U.vm ∧ U.heap = h0) (fun _ _ _ _ _ => True) (fun _ U o U' => ∃ v L, o = .returned v ∧ own_QJ2 Z a1 l0 j0 x0 c0 (some (.ref p0)) h0 n0 v U'.heap L ∧ FrameEnd U o U' L ({ frames := 1, cells := 0, slots := 0, locals := 20 } : Room).cells ({ frames := 1, cells := 0, slots := 0, locals := 20 } : Room).slots) := by
  refine MetFree.of_bodySF (plainFor_of_name own_pn8) hisR ?_
  intro p e s m args below meth c s₁ Bd hml0 hP hK
  obtain ⟨rfl, hZ, hh⟩ := hP
  have hx := Bd.exec
  have hby := Bd.bytes
  have hlk : meth.locks = false := Bd.notSynchronized
  have hml : c.maxLocals = 3 := hml0
  have hown : s.vm.findClass "java/util/ArrayList$Itr" = some m.cls := findClass_of_methodNamed Bd.named
  have hnm := (name_of_methodNamed Bd.named Bd.method).1
  have X0 : Stand p l e ({ frames := 1, cells := 0, slots := 0, locals := 20 } : Room) s m #[(.ref a1)] below meth c s₁ [] 0 0 := Stand.of_body Bd
  have e0 : s₁.heap = h0 := by rw [← hh, Bd.state]; rfl
  have N0 := Fr.nil n0
  show own_E p e below (own_P s (own_QJ2 Z a1 l0 j0 x0 c0 (some (.ref p0)) h0 n0) ({ frames := 1, cells := 0, slots := 0, locals := 20 } : Room).cells ({ frames := 1, cells := 0, slots := 0, locals := 20 } : Room).slots) s₁ (entryFrame m #[(.ref a1)] 3)
  refine own_cast (own_ef31 m a1) ?_
  have lt171 := own_lt (F0).lt
  have lt172 := own_lt (A0).lt
  have lt173 := own_lt (LD).lt
  have lt174 := own_lt (LV).lt
  show own_E p e below _ s₁ (mkF m 0 #[.val (.ref a1), .unset, .unset] [])
  refine own_aloadN X0 hx (hb hby own_d23_0) rfl rfl ?_
  show own_E p e below _ s₁ (mkF m 1 #[.val (.ref a1), .unset, .unset] [(.ref a1)])
  obtain ⟨cq175, kq175, qa175, qb175, qc175⟩ := isOf hZ e0 A0
  obtain ⟨_, _, ⟨T175, L175, k175, n175⟩, -, X175, ⟨Lc175, hQ175, l175, y175, z175⟩, st175⟩ := X0.virtualBack hx (y := (⟨"java/util/ArrayList$Itr", "checkForComodification", "()V"⟩ : MethodName)) (z := (⟨"java/util/ArrayList$Itr", "checkForComodification", "()V"⟩ : MethodName)) hown (mvT hZ (own_w hw 177 rfl)) (mvT hZ (own_w hw 178 rfl)) (notFace_of_selects (args := #[]) (mvT hZ (own_w hw 180 rfl))) (mvT hZ (own_w hw 180 rfl)) (mvT hZ (own_w hw 179 rfl)) (by decide) (backOf (W := 0) (own_rmCM l Z a0 hw [] a1 l0 x0 h0 n0 Z0 F1 F2 LM) hZ (own_w hw 181 rfl) (own_w hw 100 rfl) (by decide) (by decide)) qa175 qc175 (g := (mkF m 1 #[.val (.ref a1), .unset, .unset] [(.ref a1)])) rfl (by rw [hml]; rfl) (Steps.refl _) (argsL := []) (rest := []) (lenOf own_pd0 rfl) rfl (by show 2 * 0 + _ ≤ _; exact Nat.le_of_eq rfl) (hb hby own_d23_1) (fun _ _ => ⟨rfl, e0, Nat.le_of_ble_eq_true rfl, Nat.le_of_ble_eq_true rfl⟩)
  dsimp only [Pt.U, Pt.locs, Pt.cells, Pt.slots] at X175 l175 y175 z175 st175 hQ175
  subst l175 y175 z175
  obtain ⟨rfl, M175, e175⟩ := hQ175
  have N175 := Fr.app N0 M175
  refine own_go (fun _ k => st175.trans k) ?_
  show own_E p e below _ T175 (mkF m 4 #[.val (.ref a1), .unset, .unset] [])
  refine own_aloadN X175 hx (hb hby own_d23_4) rfl rfl ?_
  show own_E p e below _ T175 (mkF m 5 #[.val (.ref a1), .unset, .unset] [(.ref a1)])
  obtain ⟨T176, X176, e176, st176⟩ := getF X175 hx hZ hown (host := "") (Or.inl (own_w hw 123 rfl)) Via.refl e175 F0 (g := (mkF m 5 #[.val (.ref a1), .unset, .unset] [(.ref a1)])) rfl rfl (hb hby own_d23_5)
  refine own_go st176 ?_
  show own_E p e below _ T176 (mkF m 8 #[.val (.ref a1), .unset, .unset] [(.int c0)])
  refine own_istoreN X176 hx (hb hby own_d23_8) (l' := #[.val (.ref a1), .val (.int c0), .unset]) rfl ?_
  show own_E p e below _ T176 (mkF m 9 #[.val (.ref a1), .val (.int c0), .unset] [])
  refine own_iloadN X176 hx (hb hby own_d23_9) rfl ?_
  show own_E p e below _ T176 (mkF m 10 #[.val (.ref a1), .val (.int c0), .unset] [(.int c0)])
  refine own_aloadN X176 hx (hb hby own_d23_10) rfl rfl ?_
  show own_E p e below _ T176 (mkF m 11 #[.val (.ref a1), .val (.int c0), .unset] [(.ref a1), (.int c0)])
  obtain ⟨T177, X177, e177, st177⟩ := getF X176 hx hZ hown (host := "") (Or.inl (own_w hw 105 rfl)) Via.refl e176 F2 (g := (mkF m 11 #[.val (.ref a1), .val (.int c0), .unset] [(.ref a1), (.int c0)])) rfl rfl (hb hby own_d23_11)
  refine own_go st177 ?_
  show own_E p e below _ T177 (mkF m 14 #[.val (.ref a1), .val (.int c0), .unset] [(.ref l0), (.int c0)])
  obtain ⟨T178, X178, e178, st178⟩ := getF X177 hx hZ hown (Or.inr (own_w hw 125 rfl)) Via.refl e177 LZ (g := (mkF m 14 #[.val (.ref a1), .val (.int c0), .unset] [(.ref l0), (.int c0)])) rfl rfl (hb hby own_d23_14)
  refine own_go st178 ?_
  show own_E p e below _ T178 (mkF m 17 #[.val (.ref a1), .val (.int c0), .unset] [(.int z0), (.int c0)])
  refine own_icmpYes X178 hx (hb hby own_d23_17) (XT.ii_lt_t h2) 28 (by decide) (by decide) ?_
  show own_E p e below _ T178 (mkF m 28 #[.val (.ref a1), .val (.int c0), .unset] [])
  refine own_aloadN X178 hx (hb hby own_d23_28) rfl rfl ?_
  show own_E p e below _ T178 (mkF m 29 #[.val (.ref a1), .val (.int c0), .unset] [(.ref a1)])
  obtain ⟨T179, X179, e179, st179⟩ := getF X178 hx hZ hown (host := "") (Or.inl (own_w hw 105 rfl)) Via.refl e178 F2 (g := (mkF m 29 #[.val (.ref a1), .val (.int c0), .unset] [(.ref a1)])) rfl rfl (hb hby own_d23_29)
  refine own_go st179 ?_
  show own_E p e below _ T179 (mkF m 32 #[.val (.ref a1), .val (.int c0), .unset] [(.ref l0)])
  obtain ⟨T180, X180, e180, st180⟩ := getF X179 hx hZ hown (host := "") (Or.inl (own_w hw 182 rfl)) Via.refl e179 LD (g := (mkF m 32 #[.val (.ref a1), .val (.int c0), .unset] [(.ref l0)])) rfl rfl (hb hby own_d23_32)
  refine own_go st180 ?_
  show own_E p e below _ T180 (mkF m 35 #[.val (.ref a1), .val (.int c0), .unset] [(.ref d)])
  refine own_astoreN X180 hx (hb hby own_d23_35) rfl (l' := #[.val (.ref a1), .val (.int c0), .val (.ref d)]) rfl ?_
  show own_E p e below _ T180 (mkF m 36 #[.val (.ref a1), .val (.int c0), .val (.ref d)] [])
  refine own_iloadN X180 hx (hb hby own_d23_36) rfl ?_
  show own_E p e below _ T180 (mkF m 37 #[.val (.ref a1), .val (.int c0), .val (.ref d)] [(.int c0)])
  refine own_aloadN X180 hx (hb hby own_d23_37) rfl rfl ?_
  show own_E p e below _ T180 (mkF m 38 #[.val (.ref a1), .val (.int c0), .val (.ref d)] [(.ref d), (.int c0)])
  obtain ⟨c181, B181, q181, S181, M181, H181, U181⟩ := id LV
  refine own_alen X180 hx hZ e180 B181 (z := (10 : Int32)) (len_of S181 M181) (hb hby own_d23_38) ?_
  show own_E p e below _ T180 (mkF m 39 #[.val (.ref a1), .val (.int c0), .val (.ref d)] [(.int (10 : Int32)), (.int c0)])
  refine own_icmpYes X180 hx (hb hby own_d23_39) (XT.ii_lt_t h3) 50 (by decide) (by decide) ?_
  show own_E p e below _ T180 (mkF m 50 #[.val (.ref a1), .val (.int c0), .val (.ref d)] [])
  refine own_aloadN X180 hx (hb hby own_d23_50) rfl rfl ?_
  show own_E p e below _ T180 (mkF m 51 #[.val (.ref a1), .val (.int c0), .val (.ref d)] [(.ref a1)])
  refine own_iloadN X180 hx (hb hby own_d23_51) rfl ?_
  show own_E p e below _ T180 (mkF m 52 #[.val (.ref a1), .val (.int c0), .val (.ref d)] [(.int c0), (.ref a1)])
  refine own_iconst X180 hx (hb hby own_d23_52) (v := (1 : Int32)) (by decide) ?_
  show own_E p e below _ T180 (mkF m 53 #[.val (.ref a1), .val (.int c0), .val (.ref d)] [(.int (1 : Int32)), (.int c0), (.ref a1)])
  refine own_iadd X180 hx (hb hby own_d23_53) (z := (c0 + (1 : Int32))) rfl ?_
  show own_E p e below _ T180 (mkF m 54 #[.val (.ref a1), .val (.int c0), .val (.ref d)] [(.int (c0 + (1 : Int32))), (.ref a1)])
  obtain ⟨T182, h182, X182, e182, W182, st182⟩ := putF X180 hx hZ hown (host := "") (Or.inl (own_w hw 123 rfl)) Via.refl e180 F0 A0 (Or.inl (own_w hw 124 rfl)) (own_w hw 99 rfl) (ty := .int) (by decide) rfl rfl (g := (mkF m 54 #[.val (.ref a1), .val (.int c0), .val (.ref d)] [(.int (c0 + (1 : Int32))), (.ref a1)])) rfl rfl (hb hby own_d23_54)
  refine own_go st182 ?_
  have N182 := Fr.snoc X182 N175 (by omega)
  have z182 : h0.size ≤ h182.size := Nat.le_of_eq W182.size.symm
  have F182 : Fld Z h182 a1 "java/util/ArrayList$Itr" "cursor" "I" (.int (c0 + (1 : Int32))) := Fld.same W182 F0
  show own_E p e below _ T182 (mkF m 57 #[.val (.ref a1), .val (.int c0), .val (.ref d)] [])
  refine own_aloadN X182 hx (hb hby own_d23_57) rfl rfl ?_
  show own_E p e below _ T182 (mkF m 58 #[.val (.ref a1), .val (.int c0), .val (.ref d)] [(.ref d)])
  refine own_aloadN X182 hx (hb hby own_d23_58) rfl rfl ?_
  show own_E p e below _ T182 (mkF m 59 #[.val (.ref a1), .val (.int c0), .val (.ref d)] [(.ref a1), (.ref d)])
  refine own_iloadN X182 hx (hb hby own_d23_59) rfl ?_
  show own_E p e below _ T182 (mkF m 60 #[.val (.ref a1), .val (.int c0), .val (.ref d)] [(.int c0), (.ref a1), (.ref d)])
  refine own_dupX1 X182 hx (hb hby own_d23_60) rfl rfl ?_
  show own_E p e below _ T182 (mkF m 61 #[.val (.ref a1), .val (.int c0), .val (.ref d)] [(.int c0), (.ref a1), (.int c0), (.ref d)])
  obtain ⟨T183, h183, X183, e183, W183, st183⟩ := putF X182 hx hZ hown (host := "") (Or.inl (own_w hw 108 rfl)) Via.refl e182 (F3.other W182 (Or.inr (slot_ne (Or.inl (own_w hw 109 rfl)) (Or.inl (own_w hw 124 rfl)) (by decide) (t := .int) (t' := .int) (by decide) (by decide)))) (A0.wr W182) (Or.inl (own_w hw 109 rfl)) (own_w hw 99 rfl) (ty := .int) (by decide) rfl rfl (g := (mkF m 61 #[.val (.ref a1), .val (.int c0), .val (.ref d)] [(.int c0), (.ref a1), (.int c0), (.ref d)])) rfl rfl (hb hby own_d23_61)
  refine own_go st183 ?_
  have N183 := Fr.snoc X183 N182 (by omega)
  have z183 : h182.size ≤ h183.size := Nat.le_of_eq W183.size.symm
  have F183 : Fld Z h183 a1 "java/util/ArrayList$Itr" "lastRet" "I" (.int c0) := Fld.same W183 (F3.other W182 (Or.inr (slot_ne (Or.inl (own_w hw 109 rfl)) (Or.inl (own_w hw 124 rfl)) (by decide) (t := .int) (t' := .int) (by decide) (by decide))))
  show own_E p e below _ T183 (mkF m 64 #[.val (.ref a1), .val (.int c0), .val (.ref d)] [(.int c0), (.ref d)])
  obtain ⟨c184, B184, q184, S184, M184, H184, U184⟩ := id ((LV.other W182 (by first | assumption | exact Ne.symm (by assumption) | exact own_ne (by omega))).other W183 (by first | assumption | exact Ne.symm (by assumption) | exact own_ne (by omega)))
  have i184 := inb_of (j := c0) S184 ⟨h1, h3⟩
  refine own_aaload X183 hx hZ e183 B184 rfl (v := (.ref p0)) i184 (H184.at i184 hat) (hb hby own_d23_64) ?_
  show own_E p e below _ T183 (mkF m 65 #[.val (.ref a1), .val (.int c0), .val (.ref d)] [(.ref p0)])
  refine own_retA X183 hx Bd.returns rfl rfl hlk (hb hby own_d23_65) (by decide) (by decide) ?_
  rw [e183]
  exact ⟨rfl, N183, (((Keep.refl _ _).wr W182 (Or.inl (List.mem_of_getElem? (i := 0) rfl))).wr W183 (Or.inl (List.mem_of_getElem? (i := 0) rfl))), (by rw [← hj]; exact (F182.other W183 (Or.inr (slot_ne (Or.inl (own_w hw 124 rfl)) (Or.inl (own_w hw 109 rfl)) (by decide) (t := .int) (t' := .int) (by decide) (by decide))))), ((F1.other W182 (Or.inr (slot_ne (Or.inl (own_w hw 113 rfl)) (Or.inl (own_w hw 124 rfl)) (by decide) (t := .int) (t' := .int) (by decide) (by decide)))).other W183 (Or.inr (slot_ne (Or.inl (own_w hw 113 rfl)) (Or.inl (own_w hw 109 rfl)) (by decide) (t := .int) (t' := .int) (by decide) (by decide)))), ((F2.other W182 (Or.inr (slot_ne (Or.inr (own_w hw 106 rfl)) (Or.inl (own_w hw 124 rfl)) (by decide) (t := (.object "java/util/ArrayList")) (t' := .int) (by decide) (by decide)))).other W183 (Or.inr (slot_ne (Or.inr (own_w hw 106 rfl)) (Or.inl (own_w hw 109 rfl)) (by decide) (t := (.object "java/util/ArrayList")) (t' := .int) (by decide) (by decide)))), F183⟩

theorem own_pn9 : plainName "java/util/Optional" = true := by first | (simp [plainName, overriddenIn]; done) | decide +kernel
theorem own_ef32 (m : MethodId)  : entryFrame m #[] 1 = mkF m 0 #[.unset] [] := by first | (simp [entryFrame, mkF, argsToLocals, Value.category]; done) | rfl
theorem own_d24_0 : decode jdk_32_method_1_code 0 = .ok (.getstatic 1, 3) := by decide +kernel
theorem own_d24_3 : decode jdk_32_method_1_code 3 = .ok (.astore_n 0, 1) := by decide +kernel
theorem own_d24_4 : decode jdk_32_method_1_code 4 = .ok (.aload_n 0, 1) := by decide +kernel
theorem own_d24_5 : decode jdk_32_method_1_code 5 = .ok (.areturn, 1) := by decide +kernel
set_option maxRecDepth 65536 in
set_option maxHeartbeats 40000000 in
theorem own_rmOE (l : Launch) (Z : State) (a0 : Array Value) (hw : ∀ d ∈ tables_1, d.before a0 Z = true) (ws : List Jvm.Cond) (we : Addr) (h0 : Heap) (n0 : Nat) (Z0 : n0 ≤ h0.size) (O0 : Old Z n0 h0) (SE : Sta Z Z.heap "java/util/Optional" "EMPTY" "Ljava/util/Optional;" (.ref we)) :
    MetFree l (⟨"java/util/Optional", "empty", "()Ljava/util/Optional;"⟩ : MethodName) (head1 (Jvm.Cond.code (⟨"java/util/Optional", "empty", "()Ljava/util/Optional;"⟩ : MethodName) jdk_32_method_1_code 1 (some (.object "java/util/Optional")) :: ws) ({ frames := 0, cells := 0, slots := 0, locals := 0 } : Room)) (fun a U => a = #[] ∧ Z.Warmed39 U.vm ∧ U.heap = h0) (fun _ _ _ _ _ => True) (fun _ U o U' => ∃ v L, o = .returned v ∧ own_Q (.ref we) h0 n0 v U'.heap L ∧ FrameEnd U o U' L ({ frames := 0, cells := 0, slots := 0, locals := 0 } : Room).cells ({ frames := 0, cells := 0, slots := 0, locals := 0 } : Room).slots) := by
  refine MetFree.of_bodySF (plainFor_of_name own_pn9) hisR ?_
  intro p e s m args below meth c s₁ Bd hml0 hP hK
  obtain ⟨rfl, hZ, hh⟩ := hP
  have hx := Bd.exec
  have hby := Bd.bytes
  have hlk : meth.locks = false := Bd.notSynchronized
  have hml : c.maxLocals = 1 := hml0
  have hown : s.vm.findClass "java/util/Optional" = some m.cls := findClass_of_methodNamed Bd.named
  have hnm := (name_of_methodNamed Bd.named Bd.method).1
  have X0 : Stand p l e ({ frames := 0, cells := 0, slots := 0, locals := 0 } : Room) s m #[] below meth c s₁ [] 0 0 := Stand.of_body Bd
  have e0 : s₁.heap = h0 := by rw [← hh, Bd.state]; rfl
  have N0 := Fr.nil n0
  show own_E p e below (own_P s (own_Q (.ref we) h0 n0) ({ frames := 0, cells := 0, slots := 0, locals := 0 } : Room).cells ({ frames := 0, cells := 0, slots := 0, locals := 0 } : Room).slots) s₁ (entryFrame m #[] 1)
  refine own_cast (own_ef32 m ) ?_
  have od185 := (O0).1
  show own_E p e below _ s₁ (mkF m 0 #[.unset] [])
  obtain ⟨T186, X186, e186, st186⟩ := getS2 X0 hx hZ hown (host := "") (Or.inl (own_w hw 88 rfl)) Via.refl e0 (SE.ext (O0).2) (g := (mkF m 0 #[.unset] [])) rfl (hb hby own_d24_0)
  refine own_go st186 ?_
  show own_E p e below _ T186 (mkF m 3 #[.unset] [(.ref we)])
  refine own_astoreN X186 hx (hb hby own_d24_3) rfl (l' := #[.val (.ref we)]) rfl ?_
  show own_E p e below _ T186 (mkF m 4 #[.val (.ref we)] [])
  refine own_aloadN X186 hx (hb hby own_d24_4) rfl rfl ?_
  show own_E p e below _ T186 (mkF m 5 #[.val (.ref we)] [(.ref we)])
  refine own_retA X186 hx Bd.returns rfl rfl hlk (hb hby own_d24_5) (by decide) (by decide) ?_
  rw [e186]
  exact ⟨rfl, N0, rfl⟩

theorem own_pn10 : plainName "java/util/Objects" = true := by first | (simp [plainName, overriddenIn]; done) | decide +kernel
theorem own_ef33 (m : MethodId) (x0 : Addr) : entryFrame m #[(.ref x0)] 1 = mkF m 0 #[.val (.ref x0)] [] := by first | (simp [entryFrame, mkF, argsToLocals, Value.category]; done) | rfl
theorem own_d25_0 : decode jdk_31_method_10_code 0 = .ok (.aload_n 0, 1) := by decide +kernel
theorem own_d25_1 : decode jdk_31_method_10_code 1 = .ok (.ifnonnull 11, 3) := by decide +kernel
theorem own_d25_12 : decode jdk_31_method_10_code 12 = .ok (.aload_n 0, 1) := by decide +kernel
theorem own_d25_13 : decode jdk_31_method_10_code 13 = .ok (.areturn, 1) := by decide +kernel
set_option maxRecDepth 65536 in
set_option maxHeartbeats 40000000 in
theorem own_rmRN (l : Launch) (Z : State) (a0 : Array Value) (hw : ∀ d ∈ tables_1, d.before a0 Z = true) (ws : List Jvm.Cond) (a1 : Addr) (h0 : Heap) (n0 : Nat) (Z0 : n0 ≤ h0.size)  :
    MetFree l (⟨"java/util/Objects", "requireNonNull", "(Ljava/lang/Object;)Ljava/lang/Object;"⟩ : MethodName) (head1 (Jvm.Cond.code (⟨"java/util/Objects", "requireNonNull", "(Ljava/lang/Object;)Ljava/lang/Object;"⟩ : MethodName) jdk_31_method_10_code 1 (some (.object "java/lang/Object")) :: ws) ({ frames := 0, cells := 0, slots := 0, locals := 0 } : Room)) (fun a U => a = #[(.ref a1)] ∧ Z.Warmed39 U.vm ∧ U.heap = h0) (fun _ _ _ _ _ => True) (fun _ U o U' => ∃ v L, o = .returned v ∧ own_Q (.ref a1) h0 n0 v U'.heap L ∧ FrameEnd U o U' L ({ frames := 0, cells := 0, slots := 0, locals := 0 } : Room).cells ({ frames := 0, cells := 0, slots := 0, locals := 0 } : Room).slots) := by
  refine MetFree.of_bodySF (plainFor_of_name own_pn10) hisR ?_
  intro p e s m args below meth c s₁ Bd hml0 hP hK
  obtain ⟨rfl, hZ, hh⟩ := hP
  have hx := Bd.exec
  have hby := Bd.bytes
  have hlk : meth.locks = false := Bd.notSynchronized
  have hml : c.maxLocals = 1 := hml0
  have hown : s.vm.findClass "java/util/Objects" = some m.cls := findClass_of_methodNamed Bd.named
  have hnm := (name_of_methodNamed Bd.named Bd.method).1
  have X0 : Stand p l e ({ frames := 0, cells := 0, slots := 0, locals := 0 } : Room) s m #[(.ref a1)] below meth c s₁ [] 0 0 := Stand.of_body Bd
  have e0 : s₁.heap = h0 := by rw [← hh, Bd.state]; rfl
  have N0 := Fr.nil n0
  show own_E p e below (own_P s (own_Q (.ref a1) h0 n0) ({ frames := 0, cells := 0, slots := 0, locals := 0 } : Room).cells ({ frames := 0, cells := 0, slots := 0, locals := 0 } : Room).slots) s₁ (entryFrame m #[(.ref a1)] 1)
  refine own_cast (own_ef33 m a1) ?_
  show own_E p e below _ s₁ (mkF m 0 #[.val (.ref a1)] [])
  refine own_aloadN X0 hx (hb hby own_d25_0) rfl rfl ?_
  show own_E p e below _ s₁ (mkF m 1 #[.val (.ref a1)] [(.ref a1)])
  refine own_nonnullYes X0 hx (hb hby own_d25_1) 12 (by decide) (by decide) ?_
  show own_E p e below _ s₁ (mkF m 12 #[.val (.ref a1)] [])
  refine own_aloadN X0 hx (hb hby own_d25_12) rfl rfl ?_
  show own_E p e below _ s₁ (mkF m 13 #[.val (.ref a1)] [(.ref a1)])
  refine own_retA X0 hx Bd.returns rfl rfl hlk (hb hby own_d25_13) (by decide) (by decide) ?_
  rw [e0]
  exact ⟨rfl, N0, rfl⟩

def own_QO (Z : State) (a1 s0 : Addr) (h0 : Heap) (n0 : Nat) (v : Option Value) (h : Heap) (L : List Loc) : Prop := v = none ∧ Fr n0 L ∧ Keep h0 h [a1] ∧ Fld Z h a1 "java/util/Optional" "value" "Ljava/lang/Object;" (.ref s0)
theorem own_ef34 (m : MethodId) (x0 : Addr) (x1 : Addr) : entryFrame m #[(.ref x0), (.ref x1)] 2 = mkF m 0 #[.val (.ref x0), .val (.ref x1)] [] := by first | (simp [entryFrame, mkF, argsToLocals, Value.category]; done) | rfl
theorem own_d26_0 : decode jdk_32_method_2_code 0 = .ok (.aload_n 0, 1) := by decide +kernel
theorem own_d26_1 : decode jdk_32_method_2_code 1 = .ok (.invokespecial 7, 3) := by decide +kernel
theorem own_d26_4 : decode jdk_32_method_2_code 4 = .ok (.aload_n 0, 1) := by decide +kernel
theorem own_d26_5 : decode jdk_32_method_2_code 5 = .ok (.aload_n 1, 1) := by decide +kernel
theorem own_d26_6 : decode jdk_32_method_2_code 6 = .ok (.putfield 13, 3) := by decide +kernel
theorem own_d26_9 : decode jdk_32_method_2_code 9 = .ok (.return_, 1) := by decide +kernel
set_option maxRecDepth 65536 in
set_option maxHeartbeats 40000000 in
theorem own_rmOI (l : Launch) (Z : State) (a0 : Array Value) (hw : ∀ d ∈ tables_1, d.before a0 Z = true) (ws : List Jvm.Cond) (a1 s0 : Addr) (h0 : Heap) (n0 : Nat) (Z0 : n0 ≤ h0.size) (F0 : Fld Z h0 a1 "java/util/Optional" "value" "Ljava/lang/Object;" .null) (A0 : Exa Z h0 a1 "java/util/Optional") (g0 : n0 ≤ a1) :
    MetFree l (⟨"java/util/Optional", "<init>", "(Ljava/lang/Object;)V"⟩ : MethodName) (head1 (Jvm.Cond.code (⟨"java/util/Optional", "<init>", "(Ljava/lang/Object;)V"⟩ : MethodName) jdk_32_method_2_code 2 none :: ws) ({ frames := 1, cells := 0, slots := 0, locals := 12 } : Room)) (fun a U => a = #[(.ref a1), (.ref s0)] ∧ Z.Warmed39 U.vm ∧ U.heap = h0) (fun _ _ _ _ _ => True) (fun _ U o U' => ∃ v L, o = .returned v ∧ own_QO Z a1 s0 h0 n0 v U'.heap L ∧ FrameEnd U o U' L ({ frames := 1, cells := 0, slots := 0, locals := 12 } : Room).cells ({ frames := 1, cells := 0, slots := 0, locals := 12 } : Room).slots) := by
  refine MetFree.of_bodySF (plainFor_of_name own_pn9) hisR ?_
  intro p e s m args below meth c s₁ Bd hml0 hP hK
  obtain ⟨rfl, hZ, hh⟩ := hP
  have hx := Bd.exec
  have hby := Bd.bytes
  have hlk : meth.locks = false := Bd.notSynchronized
  have hml : c.maxLocals = 2 := hml0
  have hown : s.vm.findClass "java/util/Optional" = some m.cls := findClass_of_methodNamed Bd.named
  have hnm := (name_of_methodNamed Bd.named Bd.method).1
  have X0 : Stand p l e ({ frames := 1, cells := 0, slots := 0, locals := 12 } : Room) s m #[(.ref a1), (.ref s0)] below meth c s₁ [] 0 0 := Stand.of_body Bd
  have e0 : s₁.heap = h0 := by rw [← hh, Bd.state]; rfl
  have N0 := Fr.nil n0
  show own_E p e below (own_P s (own_QO Z a1 s0 h0 n0) ({ frames := 1, cells := 0, slots := 0, locals := 12 } : Room).cells ({ frames := 1, cells := 0, slots := 0, locals := 12 } : Room).slots) s₁ (entryFrame m #[(.ref a1), (.ref s0)] 2)
  refine own_cast (own_ef34 m a1 s0) ?_
  have lt187 := own_lt (F0).lt
  have lt188 := own_lt (A0).lt
  show own_E p e below _ s₁ (mkF m 0 #[.val (.ref a1), .val (.ref s0)] [])
  refine own_aloadN X0 hx (hb hby own_d26_0) rfl rfl ?_
  show own_E p e below _ s₁ (mkF m 1 #[.val (.ref a1), .val (.ref s0)] [(.ref a1)])
  obtain ⟨T189, X189, e189, st189⟩ := initO X0 hx hZ hown (own_w hw 216 rfl) (own_w hw 20 rfl) (own_w hw 21 rfl) e0 (g := (mkF m 1 #[.val (.ref a1), .val (.ref s0)] [(.ref a1)])) rfl (by rw [hml]; rfl) rfl (hb hby own_d26_1) (by decide) (W := 0) (by show 2 * 0 + _ ≤ _; exact Nat.le_of_eq rfl) (by decide)
  refine own_go st189 ?_
  show own_E p e below _ T189 (mkF m 4 #[.val (.ref a1), .val (.ref s0)] [])
  refine own_aloadN X189 hx (hb hby own_d26_4) rfl rfl ?_
  show own_E p e below _ T189 (mkF m 5 #[.val (.ref a1), .val (.ref s0)] [(.ref a1)])
  refine own_aloadN X189 hx (hb hby own_d26_5) rfl rfl ?_
  show own_E p e below _ T189 (mkF m 6 #[.val (.ref a1), .val (.ref s0)] [(.ref s0), (.ref a1)])
  obtain ⟨T190, h190, X190, e190, W190, st190⟩ := putF X189 hx hZ hown (host := "") (Or.inl (own_w hw 135 rfl)) Via.refl e189 F0 A0 (Or.inr ⟨(own_w hw 136 rfl), rfl, hnm⟩) (own_w hw 207 rfl) (ty := (.object "java/lang/Object")) (by decide) rfl rfl (g := (mkF m 6 #[.val (.ref a1), .val (.ref s0)] [(.ref s0), (.ref a1)])) rfl rfl (hb hby own_d26_6)
  refine own_go st190 ?_
  have N190 := Fr.snoc X190 N0 (by omega)
  have z190 : h0.size ≤ h190.size := Nat.le_of_eq W190.size.symm
  have F190 : Fld Z h190 a1 "java/util/Optional" "value" "Ljava/lang/Object;" (.ref s0) := Fld.same W190 F0
  show own_E p e below _ T190 (mkF m 9 #[.val (.ref a1), .val (.ref s0)] [])
  refine own_retV X190 hx Bd.returns hlk (hb hby own_d26_9) (by decide) (by decide) ?_
  rw [e190]
  exact ⟨rfl, N190, ((Keep.refl _ _).wr W190 (Or.inl (List.mem_of_getElem? (i := 0) rfl))), F190⟩

def own_QN (Z : State) (s0 : Addr) (h0 : Heap) (n0 : Nat) (v : Option Value) (h : Heap) (L : List Loc) : Prop := ∃ a, v = some (.ref a) ∧ Fr n0 L ∧ Keep h0 h [] ∧ Exa Z h a "java/util/Optional" ∧ Fld Z h a "java/util/Optional" "value" "Ljava/lang/Object;" (.ref s0)
theorem own_ef35 (m : MethodId) (x0 : Addr) : entryFrame m #[(.ref x0)] 1 = mkF m 0 #[.val (.ref x0)] [] := by first | (simp [entryFrame, mkF, argsToLocals, Value.category]; done) | rfl
theorem own_d27_0 : decode jdk_32_method_3_code 0 = .ok (.new 2, 3) := by decide +kernel
theorem own_d27_3 : decode jdk_32_method_3_code 3 = .ok (.dup, 1) := by decide +kernel
theorem own_d27_4 : decode jdk_32_method_3_code 4 = .ok (.aload_n 0, 1) := by decide +kernel
theorem own_pd10 : parseMethodDescriptor "(Ljava/lang/Object;)Ljava/lang/Object;" = some ⟨[(.object "java/lang/Object")], some (.object "java/lang/Object")⟩ := by decide +kernel
theorem own_d27_5 : decode jdk_32_method_3_code 5 = .ok (.invokestatic 17, 3) := by decide +kernel
theorem own_pd11 : parseMethodDescriptor "(Ljava/lang/Object;)V" = some ⟨[(.object "java/lang/Object")], none⟩ := by decide +kernel
theorem own_d27_8 : decode jdk_32_method_3_code 8 = .ok (.invokespecial 23, 3) := by decide +kernel
theorem own_d27_11 : decode jdk_32_method_3_code 11 = .ok (.areturn, 1) := by decide +kernel
set_option maxRecDepth 65536 in
set_option maxHeartbeats 40000000 in
theorem own_rmON (l : Launch) (Z : State) (a0 : Array Value) (hw : ∀ d ∈ tables_1, d.before a0 Z = true) (ws : List Jvm.Cond) (s0 : Addr) (h0 : Heap) (n0 : Nat) (Z0 : n0 ≤ h0.size)  :
    MetFree l (⟨"java/util/Optional", "of", "(Ljava/lang/Object;)Ljava/util/Optional;"⟩ : MethodName) (head1 (Jvm.Cond.code (⟨"java/util/Optional", "of", "(Ljava/lang/Object;)Ljava/util/Optional;"⟩ : MethodName) jdk_32_method_3_code 1 (some (.object "java/util/Optional")) :: ws) ({ frames := 2, cells := 1, slots := 1, locals := 32 } : Room)) (fun a U => a = #[(.ref s0)] ∧ Z.Warmed39 U.vm ∧ U.heap = h0) (fun _ _ _ _ _ => True) (fun _ U o U' => ∃ v L, o = .returned v ∧ own_QN Z s0 h0 n0 v U'.heap L ∧ FrameEnd U o U' L ({ frames := 2, cells := 1, slots := 1, locals := 32 } : Room).cells ({ frames := 2, cells := 1, slots := 1, locals := 32 } : Room).slots) := by
  refine MetFree.of_bodySF (plainFor_of_name own_pn9) hisR ?_
  intro p e s m args below meth c s₁ Bd hml0 hP hK
  obtain ⟨rfl, hZ, hh⟩ := hP
  have hx := Bd.exec
  have hby := Bd.bytes
  have hlk : meth.locks = false := Bd.notSynchronized
  have hml : c.maxLocals = 1 := hml0
  have hown : s.vm.findClass "java/util/Optional" = some m.cls := findClass_of_methodNamed Bd.named
  have hnm := (name_of_methodNamed Bd.named Bd.method).1
  have X0 : Stand p l e ({ frames := 2, cells := 1, slots := 1, locals := 32 } : Room) s m #[(.ref s0)] below meth c s₁ [] 0 0 := Stand.of_body Bd
  have e0 : s₁.heap = h0 := by rw [← hh, Bd.state]; rfl
  have N0 := Fr.nil n0
  show own_E p e below (own_P s (own_QN Z s0 h0 n0) ({ frames := 2, cells := 1, slots := 1, locals := 32 } : Room).cells ({ frames := 2, cells := 1, slots := 1, locals := 32 } : Room).slots) s₁ (entryFrame m #[(.ref s0)] 1)
  refine own_cast (own_ef35 m s0) ?_
  show own_E p e below _ s₁ (mkF m 0 #[.val (.ref s0)] [])
  obtain ⟨T191, h191, X191, e191, E191, A191, D191, -, st191⟩ := newO X0 hx hZ hown (own_w hw 206 rfl) (own_w hw 207 rfl) (own_w hw 86 rfl) e0 (g := (mkF m 0 #[.val (.ref s0)] [])) rfl (hb hby own_d27_0) (by decide) (by decide)
  obtain ⟨a191, g191⟩ : ∃ z, z = h0.size := ⟨_, rfl⟩
  rw [← g191] at A191 D191 st191
  have z191 : h0.size ≤ h191.size := E191.1
  have t191 : a191 < h191.size := A191.lt
  refine own_go st191 ?_
  have lt192 := own_lt (A191).lt
  show own_E p e below _ T191 (mkF m 3 #[.val (.ref s0)] [(.ref a191)])
  refine own_dup X191 hx (hb hby own_d27_3) rfl ?_
  show own_E p e below _ T191 (mkF m 4 #[.val (.ref s0)] [(.ref a191), (.ref a191)])
  refine own_aloadN X191 hx (hb hby own_d27_4) rfl rfl ?_
  show own_E p e below _ T191 (mkF m 5 #[.val (.ref s0)] [(.ref s0), (.ref a191), (.ref a191)])
  obtain ⟨_, _, ⟨T193, L193, k193, n193⟩, -, X193, ⟨Lc193, hQ193, l193, y193, z193⟩, st193⟩ := Jvm.LawKit.callS X191 hx (y := (⟨"java/util/Objects", "requireNonNull", "(Ljava/lang/Object;)Ljava/lang/Object;"⟩ : MethodName)) hown (mvT hZ (own_w hw 208 rfl)) (mvT hZ (own_w hw 209 rfl)) (mvT hZ (own_w hw 210 rfl)) (mvT hZ (own_w hw 211 rfl)) (by decide) (backOf (W := 2) (own_rmRN l Z a0 hw [] s0 h191 n0 (by omega)) hZ (own_w hw 211 rfl) (own_w hw 210 rfl) (by decide) (by decide)) (g := (mkF m 5 #[.val (.ref s0)] [(.ref s0), (.ref a191), (.ref a191)])) rfl (by rw [hml]; rfl) (argsL := [(.ref s0)]) (rest := [(.ref a191), (.ref a191)]) (lenOf own_pd10 rfl) rfl (by show 2 * 0 + _ ≤ _; exact Nat.le_of_eq rfl) (hb hby own_d27_5) (fun _ _ => ⟨rfl, e191, Nat.le_of_ble_eq_true rfl, Nat.le_of_ble_eq_true rfl⟩)
  dsimp only [Pt.U, Pt.locs, Pt.cells, Pt.slots] at X193 l193 y193 z193 st193 hQ193
  subst l193 y193 z193
  obtain ⟨rfl, M193, e193⟩ := hQ193
  have N193 := Fr.app N0 M193
  refine own_go st193 ?_
  show own_E p e below _ T193 (mkF m 8 #[.val (.ref s0)] [(.ref s0), (.ref a191), (.ref a191)])
  obtain ⟨_, _, ⟨T194, L194, k194, n194⟩, -, X194, ⟨Lc194, hQ194, l194, y194, z194⟩, st194⟩ := X193.specialBack hx (y := (⟨"java/util/Optional", "<init>", "(Ljava/lang/Object;)V"⟩ : MethodName)) rfl hown (mvT hZ (own_w hw 212 rfl)) (mvT hZ (own_w hw 213 rfl)) (mvT hZ (own_w hw 215 rfl)) (by decide) (backOf (W := 1) (own_rmOI l Z a0 hw [] a191 s0 h191 n0 (by omega) (D191 (Or.inr (own_w hw 136 rfl)) (ty := (.object "java/lang/Object")) (by decide)) A191 (by omega)) hZ (own_w hw 215 rfl) (own_w hw 86 rfl) (by decide) (by decide)) (g := (mkF m 8 #[.val (.ref s0)] [(.ref s0), (.ref a191), (.ref a191)])) rfl (by rw [hml]; rfl) (Steps.refl _) (a := a191) (argsL := [(.ref s0)]) (rest := [(.ref a191)]) (lenOf own_pd11 rfl) rfl (by show 2 * 0 + _ ≤ _; exact Nat.le_of_eq rfl) (hb hby own_d27_8) (fun _ _ => ⟨rfl, e193, Nat.le_of_ble_eq_true rfl, Nat.le_of_ble_eq_true rfl⟩)
  dsimp only [Pt.U, Pt.locs, Pt.cells, Pt.slots] at X194 l194 y194 z194 st194 hQ194
  subst l194 y194 z194
  obtain ⟨rfl, M194, K194, F194⟩ := hQ194
  have N194 := Fr.app N193 M194
  refine own_go (fun _ k => st194.trans k) ?_
  have z194 : h191.size ≤ T194.heap.size := K194.1
  show own_E p e below _ T194 (mkF m 11 #[.val (.ref s0)] [(.ref a191)])
  refine own_retA X194 hx Bd.returns rfl rfl hlk (hb hby own_d27_11) (by decide) (by decide) ?_
  exact ⟨_, rfl, N194, (((Keep.refl _ _).ext E191).trans K194 (allS (Or.inr (by omega)) all0)), (A191.keep K194), F194⟩

theorem own_ef36 (m : MethodId) (x0 : Addr) : entryFrame m #[(.ref x0)] 1 = mkF m 0 #[.val (.ref x0)] [] := by first | (simp [entryFrame, mkF, argsToLocals, Value.category]; done) | rfl
theorem own_d28_0 : decode jdk_32_method_6_code 0 = .ok (.aload_n 0, 1) := by decide +kernel
theorem own_d28_1 : decode jdk_32_method_6_code 1 = .ok (.getfield 13, 3) := by decide +kernel
theorem own_d28_4 : decode jdk_32_method_6_code 4 = .ok (.ifnull 7, 3) := by decide +kernel
theorem own_d28_7 : decode jdk_32_method_6_code 7 = .ok (.iconst 1, 1) := by decide +kernel
theorem own_d28_8 : decode jdk_32_method_6_code 8 = .ok (.goto 4, 3) := by decide +kernel
theorem own_d28_12 : decode jdk_32_method_6_code 12 = .ok (.ireturn, 1) := by decide +kernel
set_option maxRecDepth 65536 in
set_option maxHeartbeats 40000000 in
theorem own_rmP1 (l : Launch) (Z : State) (a0 : Array Value) (hw : ∀ d ∈ tables_1, d.before a0 Z = true) (ws : List Jvm.Cond) (a1 s0 : Addr) (h0 : Heap) (n0 : Nat) (Z0 : n0 ≤ h0.size) (F0 : Fld Z h0 a1 "java/util/Optional" "value" "Ljava/lang/Object;" (.ref s0)) :
    MetFree l (⟨"java/util/Optional", "isPresent", "()Z"⟩ : MethodName) (head1 (Jvm.Cond.code (⟨"java/util/Optional", "isPresent", "()Z"⟩ : MethodName) jdk_32_method_6_code 1 (some .boolean) :: ws) ({ frames := 0, cells := 0, slots := 0, locals := 0 } : Room)) (fun a U => a = #[(.ref a1)] ∧ Z.Warmed39 U.vm ∧ U.heap = h0) (fun _ _ _ _ _ => True) (fun _ U o U' => ∃ v L, o = .returned v ∧ own_Q (.int 1) h0 n0 v U'.heap L ∧ FrameEnd U o U' L ({ frames := 0, cells := 0, slots := 0, locals := 0 } : Room).cells ({ frames := 0, cells := 0, slots := 0, locals := 0 } : Room).slots) := by
  refine MetFree.of_bodySF (plainFor_of_name own_pn9) hisR ?_
  intro p e s m args below meth c s₁ Bd hml0 hP hK
  obtain ⟨rfl, hZ, hh⟩ := hP
  have hx := Bd.exec
  have hby := Bd.bytes
  have hlk : meth.locks = false := Bd.notSynchronized
  have hml : c.maxLocals = 1 := hml0
  have hown : s.vm.findClass "java/util/Optional" = some m.cls := findClass_of_methodNamed Bd.named
  have hnm := (name_of_methodNamed Bd.named Bd.method).1
  have X0 : Stand p l e ({ frames := 0, cells := 0, slots := 0, locals := 0 } : Room) s m #[(.ref a1)] below meth c s₁ [] 0 0 := Stand.of_body Bd
  have e0 : s₁.heap = h0 := by rw [← hh, Bd.state]; rfl
  have N0 := Fr.nil n0
  show own_E p e below (own_P s (own_Q (.int 1) h0 n0) ({ frames := 0, cells := 0, slots := 0, locals := 0 } : Room).cells ({ frames := 0, cells := 0, slots := 0, locals := 0 } : Room).slots) s₁ (entryFrame m #[(.ref a1)] 1)
  refine own_cast (own_ef36 m a1) ?_
  have lt195 := own_lt (F0).lt
  show own_E p e below _ s₁ (mkF m 0 #[.val (.ref a1)] [])
  refine own_aloadN X0 hx (hb hby own_d28_0) rfl rfl ?_
  show own_E p e below _ s₁ (mkF m 1 #[.val (.ref a1)] [(.ref a1)])
  obtain ⟨T196, X196, e196, st196⟩ := getF X0 hx hZ hown (host := "") (Or.inl (own_w hw 135 rfl)) Via.refl e0 F0 (g := (mkF m 1 #[.val (.ref a1)] [(.ref a1)])) rfl rfl (hb hby own_d28_1)
  refine own_go st196 ?_
  show own_E p e below _ T196 (mkF m 4 #[.val (.ref a1)] [(.ref s0)])
  refine own_nullNo X196 hx (hb hby own_d28_4) ?_
  show own_E p e below _ T196 (mkF m 7 #[.val (.ref a1)] [])
  refine own_iconst X196 hx (hb hby own_d28_7) (v := (1 : Int32)) (by decide) ?_
  show own_E p e below _ T196 (mkF m 8 #[.val (.ref a1)] [(.int (1 : Int32))])
  refine own_goto X196 hx (hb hby own_d28_8) 12 (by decide) (by decide) ?_
  show own_E p e below _ T196 (mkF m 12 #[.val (.ref a1)] [(.int (1 : Int32))])
  refine own_retN X196 hx (t := .boolean) Bd.returns (by simp) hlk (hb hby own_d28_12) (z' := (1 : Int32)) (by decide) (by decide) (by decide) ?_
  rw [e196]
  exact ⟨rfl, N0, rfl⟩

theorem own_ef37 (m : MethodId) (x0 : Addr) : entryFrame m #[(.ref x0)] 1 = mkF m 0 #[.val (.ref x0)] [] := by first | (simp [entryFrame, mkF, argsToLocals, Value.category]; done) | rfl
theorem own_d28_11 : decode jdk_32_method_6_code 11 = .ok (.iconst 0, 1) := by decide +kernel
set_option maxRecDepth 65536 in
set_option maxHeartbeats 40000000 in
theorem own_rmP0 (l : Launch) (Z : State) (a0 : Array Value) (hw : ∀ d ∈ tables_1, d.before a0 Z = true) (ws : List Jvm.Cond) (a1 : Addr) (h0 : Heap) (n0 : Nat) (Z0 : n0 ≤ h0.size) (F0 : Fld Z h0 a1 "java/util/Optional" "value" "Ljava/lang/Object;" .null) :
    MetFree l (⟨"java/util/Optional", "isPresent", "()Z"⟩ : MethodName) (head1 (Jvm.Cond.code (⟨"java/util/Optional", "isPresent", "()Z"⟩ : MethodName) jdk_32_method_6_code 1 (some .boolean) :: ws) ({ frames := 0, cells := 0, slots := 0, locals := 0 } : Room)) (fun a U => a = #[(.ref a1)] ∧ Z.Warmed39 U.vm ∧ U.heap = h0) (fun _ _ _ _ _ => True) (fun _ U o U' => ∃ v L, o = .returned v ∧ own_Q (.int 0) h0 n0 v U'.heap L ∧ FrameEnd U o U' L ({ frames := 0, cells := 0, slots := 0, locals := 0 } : Room).cells ({ frames := 0, cells := 0, slots := 0, locals := 0 } : Room).slots) := by
  refine MetFree.of_bodySF (plainFor_of_name own_pn9) hisR ?_
  intro p e s m args below meth c s₁ Bd hml0 hP hK
  obtain ⟨rfl, hZ, hh⟩ := hP
  have hx := Bd.exec
  have hby := Bd.bytes
  have hlk : meth.locks = false := Bd.notSynchronized
  have hml : c.maxLocals = 1 := hml0
  have hown : s.vm.findClass "java/util/Optional" = some m.cls := findClass_of_methodNamed Bd.named
  have hnm := (name_of_methodNamed Bd.named Bd.method).1
  have X0 : Stand p l e ({ frames := 0, cells := 0, slots := 0, locals := 0 } : Room) s m #[(.ref a1)] below meth c s₁ [] 0 0 := Stand.of_body Bd
  have e0 : s₁.heap = h0 := by rw [← hh, Bd.state]; rfl
  have N0 := Fr.nil n0
  show own_E p e below (own_P s (own_Q (.int 0) h0 n0) ({ frames := 0, cells := 0, slots := 0, locals := 0 } : Room).cells ({ frames := 0, cells := 0, slots := 0, locals := 0 } : Room).slots) s₁ (entryFrame m #[(.ref a1)] 1)
  refine own_cast (own_ef37 m a1) ?_
  have lt197 := own_lt (F0).lt
  show own_E p e below _ s₁ (mkF m 0 #[.val (.ref a1)] [])
  refine own_aloadN X0 hx (hb hby own_d28_0) rfl rfl ?_
  show own_E p e below _ s₁ (mkF m 1 #[.val (.ref a1)] [(.ref a1)])
  obtain ⟨T198, X198, e198, st198⟩ := getF X0 hx hZ hown (host := "") (Or.inl (own_w hw 135 rfl)) Via.refl e0 F0 (g := (mkF m 1 #[.val (.ref a1)] [(.ref a1)])) rfl rfl (hb hby own_d28_1)
  refine own_go st198 ?_
  show own_E p e below _ T198 (mkF m 4 #[.val (.ref a1)] [.null])
  refine own_nullYes X198 hx (hb hby own_d28_4) 11 (by decide) (by decide) ?_
  show own_E p e below _ T198 (mkF m 11 #[.val (.ref a1)] [])
  refine own_iconst X198 hx (hb hby own_d28_11) (v := (0 : Int32)) (by decide) ?_
  show own_E p e below _ T198 (mkF m 12 #[.val (.ref a1)] [(.int (0 : Int32))])
  refine own_retN X198 hx (t := .boolean) Bd.returns (by simp) hlk (hb hby own_d28_12) (z' := (0 : Int32)) (by decide) (by decide) (by decide) ?_
  rw [e198]
  exact ⟨rfl, N0, rfl⟩

theorem own_ef38 (m : MethodId) (x0 : Addr) : entryFrame m #[(.ref x0)] 1 = mkF m 0 #[.val (.ref x0)] [] := by first | (simp [entryFrame, mkF, argsToLocals, Value.category]; done) | rfl
theorem own_d29_0 : decode jdk_32_method_5_code 0 = .ok (.aload_n 0, 1) := by decide +kernel
theorem own_d29_1 : decode jdk_32_method_5_code 1 = .ok (.getfield 13, 3) := by decide +kernel
theorem own_d29_4 : decode jdk_32_method_5_code 4 = .ok (.ifnonnull 13, 3) := by decide +kernel
theorem own_d29_17 : decode jdk_32_method_5_code 17 = .ok (.aload_n 0, 1) := by decide +kernel
theorem own_d29_18 : decode jdk_32_method_5_code 18 = .ok (.getfield 13, 3) := by decide +kernel
theorem own_d29_21 : decode jdk_32_method_5_code 21 = .ok (.areturn, 1) := by decide +kernel
set_option maxRecDepth 65536 in
set_option maxHeartbeats 40000000 in
theorem own_rmOG (l : Launch) (Z : State) (a0 : Array Value) (hw : ∀ d ∈ tables_1, d.before a0 Z = true) (ws : List Jvm.Cond) (a1 s0 : Addr) (h0 : Heap) (n0 : Nat) (Z0 : n0 ≤ h0.size) (F0 : Fld Z h0 a1 "java/util/Optional" "value" "Ljava/lang/Object;" (.ref s0)) :
    MetFree l (⟨"java/util/Optional", "get", "()Ljava/lang/Object;"⟩ : MethodName) (head1 (Jvm.Cond.code (⟨"java/util/Optional", "get", "()Ljava/lang/Object;"⟩ : MethodName) jdk_32_method_5_code 1 (some (.object "java/lang/Object")) :: ws) ({ frames := 0, cells := 0, slots := 0, locals := 0 } : Room)) (fun a U => a = #[(.ref a1)] ∧ Z.Warmed39 U.vm ∧ U.heap = h0) (fun _ _ _ _ _ => True) (fun _ U o U' => ∃ v L, o = .returned v ∧ own_Q (.ref s0) h0 n0 v U'.heap L ∧ FrameEnd U o U' L ({ frames := 0, cells := 0, slots := 0, locals := 0 } : Room).cells ({ frames := 0, cells := 0, slots := 0, locals := 0 } : Room).slots) := by
  refine MetFree.of_bodySF (plainFor_of_name own_pn9) hisR ?_
  intro p e s m args below meth c s₁ Bd hml0 hP hK
  obtain ⟨rfl, hZ, hh⟩ := hP
  have hx := Bd.exec
  have hby := Bd.bytes
  have hlk : meth.locks = false := Bd.notSynchronized
  have hml : c.maxLocals = 1 := hml0
  have hown : s.vm.findClass "java/util/Optional" = some m.cls := findClass_of_methodNamed Bd.named
  have hnm := (name_of_methodNamed Bd.named Bd.method).1
  have X0 : Stand p l e ({ frames := 0, cells := 0, slots := 0, locals := 0 } : Room) s m #[(.ref a1)] below meth c s₁ [] 0 0 := Stand.of_body Bd
  have e0 : s₁.heap = h0 := by rw [← hh, Bd.state]; rfl
  have N0 := Fr.nil n0
  show own_E p e below (own_P s (own_Q (.ref s0) h0 n0) ({ frames := 0, cells := 0, slots := 0, locals := 0 } : Room).cells ({ frames := 0, cells := 0, slots := 0, locals := 0 } : Room).slots) s₁ (entryFrame m #[(.ref a1)] 1)
  refine own_cast (own_ef38 m a1) ?_
  have lt199 := own_lt (F0).lt
  show own_E p e below _ s₁ (mkF m 0 #[.val (.ref a1)] [])
  refine own_aloadN X0 hx (hb hby own_d29_0) rfl rfl ?_
  show own_E p e below _ s₁ (mkF m 1 #[.val (.ref a1)] [(.ref a1)])
  obtain ⟨T200, X200, e200, st200⟩ := getF X0 hx hZ hown (host := "") (Or.inl (own_w hw 135 rfl)) Via.refl e0 F0 (g := (mkF m 1 #[.val (.ref a1)] [(.ref a1)])) rfl rfl (hb hby own_d29_1)
  refine own_go st200 ?_
  show own_E p e below _ T200 (mkF m 4 #[.val (.ref a1)] [(.ref s0)])
  refine own_nonnullYes X200 hx (hb hby own_d29_4) 17 (by decide) (by decide) ?_
  show own_E p e below _ T200 (mkF m 17 #[.val (.ref a1)] [])
  refine own_aloadN X200 hx (hb hby own_d29_17) rfl rfl ?_
  show own_E p e below _ T200 (mkF m 18 #[.val (.ref a1)] [(.ref a1)])
  obtain ⟨T201, X201, e201, st201⟩ := getF X200 hx hZ hown (host := "") (Or.inl (own_w hw 135 rfl)) Via.refl e200 F0 (g := (mkF m 18 #[.val (.ref a1)] [(.ref a1)])) rfl rfl (hb hby own_d29_18)
  refine own_go st201 ?_
  show own_E p e below _ T201 (mkF m 21 #[.val (.ref a1)] [(.ref s0)])
  refine own_retA X201 hx Bd.returns rfl rfl hlk (hb hby own_d29_21) (by decide) (by decide) ?_
  rw [e201]
  exact ⟨rfl, N0, rfl⟩

def own_QM (Z : State) (r : Value) (h0 : Heap) (n0 : Nat) (v : Option Value) (h : Heap) (L : List Loc) : Prop := ∃ o, v = some (.ref o) ∧ Fr n0 L ∧ Keep h0 h [] ∧ Exa Z h o "java/util/Optional" ∧ Fld Z h o "java/util/Optional" "value" "Ljava/lang/Object;" r
theorem own_ef39 (m : MethodId) (x0 : Addr) (x1 : Addr) : entryFrame m #[(.ref x0), (.ref x1)] 5 = mkF m 0 #[.val (.ref x0), .val (.ref x1), .unset, .unset, .unset] [] := by first | (simp [entryFrame, mkF, argsToLocals, Value.category]; done) | rfl
theorem own_pd12 : parseMethodDescriptor "()Ljava/util/Optional;" = some ⟨[], some (.object "java/util/Optional")⟩ := by decide +kernel
theorem own_d30_0 : decode prog_5_method_3_code 0 = .ok (.invokestatic 79, 3) := by decide +kernel
theorem own_d30_3 : decode prog_5_method_3_code 3 = .ok (.astore_n 2, 1) := by decide +kernel
theorem own_d30_4 : decode prog_5_method_3_code 4 = .ok (.aload_n 0, 1) := by decide +kernel
theorem own_d30_5 : decode prog_5_method_3_code 5 = .ok (.getfield 13, 3) := by decide +kernel
theorem own_pd13 : parseMethodDescriptor "()Ljava/util/Iterator;" = some ⟨[], some (.object "java/util/Iterator")⟩ := by decide +kernel
theorem own_d30_8 : decode prog_5_method_3_code 8 = .ok (.invokeinterface 85 1, 5) := by decide +kernel
theorem own_d30_13 : decode prog_5_method_3_code 13 = .ok (.astore_n 3, 1) := by decide +kernel
theorem own_d30_14 : decode prog_5_method_3_code 14 = .ok (.aload_n 3, 1) := by decide +kernel
theorem own_pd14 : parseMethodDescriptor "()Z" = some ⟨[], some .boolean⟩ := by decide +kernel
theorem own_d30_15 : decode prog_5_method_3_code 15 = .ok (.invokeinterface 89 1, 5) := by decide +kernel
theorem own_d30_20 : decode prog_5_method_3_code 20 = .ok (.ifCond .eq 38, 3) := by decide +kernel
theorem own_d30_58 : decode prog_5_method_3_code 58 = .ok (.aload_n 2, 1) := by decide +kernel
theorem own_d30_59 : decode prog_5_method_3_code 59 = .ok (.areturn, 1) := by decide +kernel
set_option maxRecDepth 65536 in
set_option maxHeartbeats 40000000 in
theorem own_rmM0 (l : Launch) (Z : State) (a0 : Array Value) (hw : ∀ d ∈ tables_1, d.before a0 Z = true) (ws : List Jvm.Cond) (a1 q0 al d we  : Addr) (kd : ClassId) (yq xq G1  : Int32) (h0 : Heap) (n0 : Nat) (Z0 : n0 ≤ h0.size) (O0 : Old Z n0 h0) (SC : Sta Z Z.heap "java/lang/String" "COMPACT_STRINGS" "Z" (.int G1)) (P1 : ¬ G1 = 0) (SE : Sta Z Z.heap "java/util/Optional" "EMPTY" "Ljava/util/Optional;" (.ref we)) (EX : Exa Z Z.heap we "java/util/Optional") (EF : Fld Z Z.heap we "java/util/Optional" "value" "Ljava/lang/Object;" .null) (TF : Fld Z h0 a1 "com/example/narrow_gate/narrowgate/Target" "parameters" "Ljava/util/List;" (.ref al)) (LD : Fld Z h0 al "java/util/ArrayList" "elementData" "[Ljava/lang/Object;" (.ref d)) (LZ : Fld Z h0 al "java/util/ArrayList" "size" "I" (.int (0 : Int32))) (LM : Fld Z h0 al "java/util/AbstractList" "modCount" "I" (.int (0 : Int32))) (LX : Exa Z h0 al "java/util/ArrayList") (SQ : own_S Z h0 q0 yq xq) (heq : yq = 0 ∨ yq = 1) :
    MetFree l (⟨"com/example/narrow_gate/narrowgate/Target", "parameter", "(Ljava/lang/String;)Ljava/util/Optional;"⟩ : MethodName) (head1 (Jvm.Cond.code (⟨"com/example/narrow_gate/narrowgate/Target", "parameter", "(Ljava/lang/String;)Ljava/util/Optional;"⟩ : MethodName) prog_5_method_3_code 5 (some (.object "java/util/Optional")) :: ws) ({ frames := 3, cells := 1, slots := 4, locals := 60 } : Room)) (fun a U => a = #[(.ref a1), (.ref q0)] ∧ Z.Warmed39 U.vm ∧ U.heap = h0) (fun _ _ _ _ _ => True) (fun _ U o U' => ∃ v L, o = .returned v ∧ own_QM Z .null h0 n0 v U'.heap L ∧ FrameEnd U o U' L ({ frames := 3, cells := 1, slots := 4, locals := 60 } : Room).cells ({ frames := 3, cells := 1, slots := 4, locals := 60 } : Room).slots) := by
  refine MetFree.of_bodySF (plainFor_of_name own_pn7) hisR ?_
  intro p e s m args below meth c s₁ Bd hml0 hP hK
  obtain ⟨rfl, hZ, hh⟩ := hP
  have hx := Bd.exec
  have hby := Bd.bytes
  have hlk : meth.locks = false := Bd.notSynchronized
  have hml : c.maxLocals = 5 := hml0
  have hown : s.vm.findClass "com/example/narrow_gate/narrowgate/Target" = some m.cls := findClass_of_methodNamed Bd.named
  have hnm := (name_of_methodNamed Bd.named Bd.method).1
  have X0 : Stand p l e ({ frames := 3, cells := 1, slots := 4, locals := 60 } : Room) s m #[(.ref a1), (.ref q0)] below meth c s₁ [] 0 0 := Stand.of_body Bd
  have e0 : s₁.heap = h0 := by rw [← hh, Bd.state]; rfl
  have N0 := Fr.nil n0
  show own_E p e below (own_P s (own_QM Z .null h0 n0) ({ frames := 3, cells := 1, slots := 4, locals := 60 } : Room).cells ({ frames := 3, cells := 1, slots := 4, locals := 60 } : Room).slots) s₁ (entryFrame m #[(.ref a1), (.ref q0)] 5)
  refine own_cast (own_ef39 m a1 q0) ?_
  have od202 := (O0).1
  have lt203 := own_lt (EX).lt
  have lt204 := own_lt (TF).lt
  have lt205 := own_lt (LD).lt
  have lt206 := own_lt (LX).lt
  show own_E p e below _ s₁ (mkF m 0 #[.val (.ref a1), .val (.ref q0), .unset, .unset, .unset] [])
  obtain ⟨_, _, ⟨T207, L207, k207, n207⟩, -, X207, ⟨Lc207, hQ207, l207, y207, z207⟩, st207⟩ := Jvm.LawKit.callS X0 hx (y := (⟨"java/util/Optional", "empty", "()Ljava/util/Optional;"⟩ : MethodName)) hown (mvT hZ (own_w hw 84 rfl)) (mvT hZ (own_w hw 85 rfl)) (mvT hZ (own_w hw 86 rfl)) (mvT hZ (own_w hw 87 rfl)) (by decide) (backOf (W := 0) (own_rmOE l Z a0 hw [] we h0 n0 (by omega) O0 SE) hZ (own_w hw 87 rfl) (own_w hw 86 rfl) (by decide) (by decide)) (g := (mkF m 0 #[.val (.ref a1), .val (.ref q0), .unset, .unset, .unset] [])) rfl (by rw [hml]; rfl) (argsL := []) (rest := []) (lenOf own_pd12 rfl) rfl (by show 2 * 0 + _ ≤ _; exact Nat.le_of_eq rfl) (hb hby own_d30_0) (fun _ _ => ⟨rfl, e0, Nat.le_of_ble_eq_true rfl, Nat.le_of_ble_eq_true rfl⟩)
  dsimp only [Pt.U, Pt.locs, Pt.cells, Pt.slots] at X207 l207 y207 z207 st207 hQ207
  subst l207 y207 z207
  obtain ⟨rfl, M207, e207⟩ := hQ207
  have N207 := Fr.app N0 M207
  refine own_go st207 ?_
  show own_E p e below _ T207 (mkF m 3 #[.val (.ref a1), .val (.ref q0), .unset, .unset, .unset] [(.ref we)])
  refine own_astoreN X207 hx (hb hby own_d30_3) rfl (l' := #[.val (.ref a1), .val (.ref q0), .val (.ref we), .unset, .unset]) rfl ?_
  show own_E p e below _ T207 (mkF m 4 #[.val (.ref a1), .val (.ref q0), .val (.ref we), .unset, .unset] [])
  refine own_aloadN X207 hx (hb hby own_d30_4) rfl rfl ?_
  show own_E p e below _ T207 (mkF m 5 #[.val (.ref a1), .val (.ref q0), .val (.ref we), .unset, .unset] [(.ref a1)])
  obtain ⟨T208, X208, e208, st208⟩ := getF X207 hx hZ hown (host := "") (Or.inl (own_w hw 77 rfl)) Via.refl e207 TF (g := (mkF m 5 #[.val (.ref a1), .val (.ref q0), .val (.ref we), .unset, .unset] [(.ref a1)])) rfl rfl (hb hby own_d30_5)
  refine own_go st208 ?_
  show own_E p e below _ T208 (mkF m 8 #[.val (.ref a1), .val (.ref q0), .val (.ref we), .unset, .unset] [(.ref al)])
  obtain ⟨cq209, kq209, qa209, qb209, qc209⟩ := isOf hZ e208 LX
  obtain ⟨_, _, ⟨T209, L209, k209, n209⟩, -, X209, ⟨Lc209, hQ209, l209, y209, z209⟩, st209⟩ := X208.interfaceBack hx (xi := (⟨"java/util/List", "iterator", "()Ljava/util/Iterator;"⟩ : MethodName)) (y := (⟨"java/util/ArrayList", "iterator", "()Ljava/util/Iterator;"⟩ : MethodName)) hown (mvT hZ (own_w hw 89 rfl)) (mvT hZ (own_w hw 90 rfl)) (mvT hZ (own_w hw 91 rfl)) (mvT hZ (own_w hw 92 rfl)) (mvT hZ (own_w hw 93 rfl)) (mvT hZ (own_w hw 94 rfl)) (mvT hZ (own_w hw 95 rfl)) (mvT hZ (own_w hw 96 rfl)) (by decide) (backOf (W := 0) (own_rmIR l Z a0 hw [] al 0 h0 n0 (by omega) LM LX) hZ (own_w hw 97 rfl) (own_w hw 46 rfl) (by decide) (by decide)) qa209 qb209 qc209 (g := (mkF m 8 #[.val (.ref a1), .val (.ref q0), .val (.ref we), .unset, .unset] [(.ref al)])) rfl (by rw [hml]; rfl) (Steps.refl _) (argsL := []) (rest := []) (lenOf own_pd13 rfl) rfl (by show 2 * 0 + _ ≤ _; exact Nat.le_of_eq rfl) (hb hby own_d30_8) (fun _ _ => ⟨rfl, e208, Nat.le_of_ble_eq_true rfl, Nat.le_of_ble_eq_true rfl⟩)
  dsimp only [Pt.U, Pt.locs, Pt.cells, Pt.slots] at X209 l209 y209 z209 st209 hQ209
  subst l209 y209 z209
  obtain ⟨a209, rfl, M209, K209, gi209, A209, F209, G209, J209, R209⟩ := hQ209
  have N209 := Fr.app N207 M209
  refine own_go (fun _ k => st209.trans k) ?_
  have z209 : h0.size ≤ T209.heap.size := K209.1
  show own_E p e below _ T209 (mkF m 13 #[.val (.ref a1), .val (.ref q0), .val (.ref we), .unset, .unset] [(.ref a209)])
  have lt210 := own_lt (A209).lt
  have FO209 : Fld Z T209.heap we "java/util/Optional" "value" "Ljava/lang/Object;" .null := (EF.ext ((O0.keep K209 all0)).2)
  refine own_astoreN X209 hx (hb hby own_d30_13) rfl (l' := #[.val (.ref a1), .val (.ref q0), .val (.ref we), .val (.ref a209), .unset]) rfl ?_
  show own_E p e below _ T209 (mkF m 14 #[.val (.ref a1), .val (.ref q0), .val (.ref we), .val (.ref a209), .unset] [])
  refine own_aloadN X209 hx (hb hby own_d30_14) rfl rfl ?_
  show own_E p e below _ T209 (mkF m 15 #[.val (.ref a1), .val (.ref q0), .val (.ref we), .val (.ref a209), .unset] [(.ref a209)])
  obtain ⟨cq211, kq211, qa211, qb211, qc211⟩ := isOf hZ (rfl : T209.heap = T209.heap) A209
  obtain ⟨_, _, ⟨T211, L211, k211, n211⟩, -, X211, ⟨Lc211, hQ211, l211, y211, z211⟩, st211⟩ := X209.interfaceBack hx (xi := (⟨"java/util/Iterator", "hasNext", "()Z"⟩ : MethodName)) (y := (⟨"java/util/ArrayList$Itr", "hasNext", "()Z"⟩ : MethodName)) hown (mvT hZ (own_w hw 114 rfl)) (mvT hZ (own_w hw 115 rfl)) (mvT hZ (own_w hw 116 rfl)) (mvT hZ (own_w hw 117 rfl)) (mvT hZ (own_w hw 118 rfl)) (mvT hZ (own_w hw 119 rfl)) (mvT hZ (own_w hw 120 rfl)) (mvT hZ (own_w hw 121 rfl)) (by decide) (backOf (W := 0) (own_rmHN l Z a0 hw [] a209 al 0 0 T209.heap n0 (by omega) F209 J209 (LZ.keep K209 nin0)) hZ (own_w hw 122 rfl) (own_w hw 100 rfl) (by decide) (by decide)) qa211 qb211 qc211 (g := (mkF m 15 #[.val (.ref a1), .val (.ref q0), .val (.ref we), .val (.ref a209), .unset] [(.ref a209)])) rfl (by rw [hml]; rfl) (Steps.refl _) (argsL := []) (rest := []) (lenOf own_pd14 rfl) rfl (by show 2 * 0 + _ ≤ _; exact Nat.le_of_eq rfl) (hb hby own_d30_15) (fun _ _ => ⟨rfl, (rfl : T209.heap = T209.heap), Nat.le_of_ble_eq_true rfl, Nat.le_of_ble_eq_true rfl⟩)
  dsimp only [Pt.U, Pt.locs, Pt.cells, Pt.slots] at X211 l211 y211 z211 st211 hQ211
  subst l211 y211 z211
  obtain ⟨rfl, M211, e211⟩ := hQ211
  have N211 := Fr.app N209 M211
  refine own_go (fun _ k => st211.trans k) ?_
  show own_E p e below _ T211 (mkF m 20 #[.val (.ref a1), .val (.ref q0), .val (.ref we), .val (.ref a209), .unset] [(.int (own_hn (0 : Int32) (0 : Int32)))])
  refine own_ifYes X211 hx (hb hby own_d30_20) (XT.i0_eq_t (by decide)) 58 (by decide) (by decide) ?_
  show own_E p e below _ T211 (mkF m 58 #[.val (.ref a1), .val (.ref q0), .val (.ref we), .val (.ref a209), .unset] [])
  refine own_aloadN X211 hx (hb hby own_d30_58) rfl rfl ?_
  show own_E p e below _ T211 (mkF m 59 #[.val (.ref a1), .val (.ref q0), .val (.ref we), .val (.ref a209), .unset] [(.ref we)])
  refine own_retA X211 hx Bd.returns rfl rfl hlk (hb hby own_d30_59) (by decide) (by decide) ?_
  rw [e211]
  exact ⟨_, rfl, N211, ((Keep.refl _ _).trans K209 all0), (EX.ext ((O0.keep K209 all0)).2), FO209⟩

theorem own_ef40 (m : MethodId) (x0 : Addr) (x1 : Addr) : entryFrame m #[(.ref x0), (.ref x1)] 5 = mkF m 0 #[.val (.ref x0), .val (.ref x1), .unset, .unset, .unset] [] := by first | (simp [entryFrame, mkF, argsToLocals, Value.category]; done) | rfl
theorem own_d30_23 : decode prog_5_method_3_code 23 = .ok (.aload_n 3, 1) := by decide +kernel
theorem own_pd15 : parseMethodDescriptor "()Ljava/lang/Object;" = some ⟨[], some (.object "java/lang/Object")⟩ := by decide +kernel
theorem own_d30_24 : decode prog_5_method_3_code 24 = .ok (.invokeinterface 94 1, 5) := by decide +kernel
theorem own_d30_29 : decode prog_5_method_3_code 29 = .ok (.checkcast 67, 3) := by decide +kernel
theorem own_d30_32 : decode prog_5_method_3_code 32 = .ok (.astore 4, 2) := by decide +kernel
theorem own_d30_34 : decode prog_5_method_3_code 34 = .ok (.aload 4, 2) := by decide +kernel
theorem own_pd16 : parseMethodDescriptor "()Ljava/lang/String;" = some ⟨[], some (.object "java/lang/String")⟩ := by decide +kernel
theorem own_d30_36 : decode prog_5_method_3_code 36 = .ok (.invokevirtual 98, 3) := by decide +kernel
theorem own_d30_39 : decode prog_5_method_3_code 39 = .ok (.aload_n 1, 1) := by decide +kernel
theorem own_pd17 : parseMethodDescriptor "(Ljava/lang/Object;)Z" = some ⟨[(.object "java/lang/Object")], some .boolean⟩ := by decide +kernel
theorem own_d30_40 : decode prog_5_method_3_code 40 = .ok (.invokevirtual 102, 3) := by decide +kernel
theorem own_d30_43 : decode prog_5_method_3_code 43 = .ok (.ifCond .eq 12, 3) := by decide +kernel
theorem own_d30_55 : decode prog_5_method_3_code 55 = .ok (.goto (-41), 3) := by decide +kernel
theorem own_d30_46 : decode prog_5_method_3_code 46 = .ok (.aload 4, 2) := by decide +kernel
theorem own_d30_48 : decode prog_5_method_3_code 48 = .ok (.invokevirtual 105, 3) := by decide +kernel
theorem own_pd18 : parseMethodDescriptor "(Ljava/lang/Object;)Ljava/util/Optional;" = some ⟨[(.object "java/lang/Object")], some (.object "java/util/Optional")⟩ := by decide +kernel
theorem own_d30_51 : decode prog_5_method_3_code 51 = .ok (.invokestatic 108, 3) := by decide +kernel
theorem own_d30_54 : decode prog_5_method_3_code 54 = .ok (.astore_n 2, 1) := by decide +kernel
set_option maxRecDepth 65536 in
set_option maxHeartbeats 40000000 in
theorem own_rmM1 (l : Launch) (Z : State) (a0 : Array Value) (hw : ∀ d ∈ tables_1, d.before a0 Z = true) (ws : List Jvm.Cond) (a1 q0 al d we p0 s0 v0 : Addr) (kd : ClassId) (yq xq G1 y0 x0 : Int32) (h0 : Heap) (n0 : Nat) (Z0 : n0 ≤ h0.size) (O0 : Old Z n0 h0) (SC : Sta Z Z.heap "java/lang/String" "COMPACT_STRINGS" "Z" (.int G1)) (P1 : ¬ G1 = 0) (SE : Sta Z Z.heap "java/util/Optional" "EMPTY" "Ljava/util/Optional;" (.ref we)) (EX : Exa Z Z.heap we "java/util/Optional") (EF : Fld Z Z.heap we "java/util/Optional" "value" "Ljava/lang/Object;" .null) (TF : Fld Z h0 a1 "com/example/narrow_gate/narrowgate/Target" "parameters" "Ljava/util/List;" (.ref al)) (LD : Fld Z h0 al "java/util/ArrayList" "elementData" "[Ljava/lang/Object;" (.ref d)) (LZ : Fld Z h0 al "java/util/ArrayList" "size" "I" (.int (1 : Int32))) (LM : Fld Z h0 al "java/util/AbstractList" "modCount" "I" (.int (1 : Int32))) (LX : Exa Z h0 al "java/util/ArrayList") (LV : Arv Z h0 d kd (.object "java/lang/Object") (10 : Int32) [.ref p0] .null) (SQ : own_S Z h0 q0 yq xq) (heq : yq = 0 ∨ yq = 1) (PX0 : Exa Z h0 p0 "com/example/narrow_gate/narrowgate/Target$Parameter") (PN0 : Fld Z h0 p0 "com/example/narrow_gate/narrowgate/Target$Parameter" "name" "Ljava/lang/String;" (.ref s0)) (PV0 : Fld Z h0 p0 "com/example/narrow_gate/narrowgate/Target$Parameter" "value" "Ljava/lang/String;" (.ref v0)) (PS0 : own_S Z h0 s0 y0 x0) (he0 : y0 = 0 ∨ y0 = 1) :
    MetFree l (⟨"com/example/narrow_gate/narrowgate/Target", "parameter", "(Ljava/lang/String;)Ljava/util/Optional;"⟩ : MethodName) (head1 (Jvm.Cond.code (⟨"com/example/narrow_gate/narrowgate/Target", "parameter", "(Ljava/lang/String;)Ljava/util/Optional;"⟩ : MethodName) prog_5_method_3_code 5 (some (.object "java/util/Optional")) :: ws) ({ frames := 3, cells := 2, slots := 5, locals := 60 } : Room)) (fun a U => a = #[(.ref a1), (.ref q0)] ∧ Z.Warmed39 U.vm ∧ U.heap = h0) (fun _ _ _ _ _ => True) (fun _ U o U' => ∃ v L, o = .returned v ∧ own_QM Z (own_pick (own_seq y0 x0 yq xq) (.ref v0) .null) h0 n0 v U'.heap L ∧ FrameEnd U o U' L ({ frames := 3, cells := 2, slots := 5, locals := 60 } : Room).cells ({ frames := 3, cells := 2, slots := 5, locals := 60 } : Room).slots) := by
  refine MetFree.of_bodySF (plainFor_of_name own_pn7) hisR ?_
  intro p e s m args below meth c s₁ Bd hml0 hP hK
  obtain ⟨rfl, hZ, hh⟩ := hP
  have hx := Bd.exec
  have hby := Bd.bytes
  have hlk : meth.locks = false := Bd.notSynchronized
  have hml : c.maxLocals = 5 := hml0
  have hown : s.vm.findClass "com/example/narrow_gate/narrowgate/Target" = some m.cls := findClass_of_methodNamed Bd.named
  have hnm := (name_of_methodNamed Bd.named Bd.method).1
  have X0 : Stand p l e ({ frames := 3, cells := 2, slots := 5, locals := 60 } : Room) s m #[(.ref a1), (.ref q0)] below meth c s₁ [] 0 0 := Stand.of_body Bd
  have e0 : s₁.heap = h0 := by rw [← hh, Bd.state]; rfl
  have N0 := Fr.nil n0
  show own_E p e below (own_P s (own_QM Z (own_pick (own_seq y0 x0 yq xq) (.ref v0) .null) h0 n0) ({ frames := 3, cells := 2, slots := 5, locals := 60 } : Room).cells ({ frames := 3, cells := 2, slots := 5, locals := 60 } : Room).slots) s₁ (entryFrame m #[(.ref a1), (.ref q0)] 5)
  refine own_cast (own_ef40 m a1 q0) ?_
  have od212 := (O0).1
  have lt213 := own_lt (EX).lt
  have lt214 := own_lt (TF).lt
  have lt215 := own_lt (LD).lt
  have lt216 := own_lt (LX).lt
  have lt217 := own_lt (LV).lt
  have lt218 := own_lt (PX0).lt
  show own_E p e below _ s₁ (mkF m 0 #[.val (.ref a1), .val (.ref q0), .unset, .unset, .unset] [])
  obtain ⟨_, _, ⟨T219, L219, k219, n219⟩, -, X219, ⟨Lc219, hQ219, l219, y219, z219⟩, st219⟩ := Jvm.LawKit.callS X0 hx (y := (⟨"java/util/Optional", "empty", "()Ljava/util/Optional;"⟩ : MethodName)) hown (mvT hZ (own_w hw 84 rfl)) (mvT hZ (own_w hw 85 rfl)) (mvT hZ (own_w hw 86 rfl)) (mvT hZ (own_w hw 87 rfl)) (by decide) (backOf (W := 0) (own_rmOE l Z a0 hw [] we h0 n0 (by omega) O0 SE) hZ (own_w hw 87 rfl) (own_w hw 86 rfl) (by decide) (by decide)) (g := (mkF m 0 #[.val (.ref a1), .val (.ref q0), .unset, .unset, .unset] [])) rfl (by rw [hml]; rfl) (argsL := []) (rest := []) (lenOf own_pd12 rfl) rfl (by show 2 * 0 + _ ≤ _; exact Nat.le_of_eq rfl) (hb hby own_d30_0) (fun _ _ => ⟨rfl, e0, Nat.le_of_ble_eq_true rfl, Nat.le_of_ble_eq_true rfl⟩)
  dsimp only [Pt.U, Pt.locs, Pt.cells, Pt.slots] at X219 l219 y219 z219 st219 hQ219
  subst l219 y219 z219
  obtain ⟨rfl, M219, e219⟩ := hQ219
  have N219 := Fr.app N0 M219
  refine own_go st219 ?_
  show own_E p e below _ T219 (mkF m 3 #[.val (.ref a1), .val (.ref q0), .unset, .unset, .unset] [(.ref we)])
  refine own_astoreN X219 hx (hb hby own_d30_3) rfl (l' := #[.val (.ref a1), .val (.ref q0), .val (.ref we), .unset, .unset]) rfl ?_
  show own_E p e below _ T219 (mkF m 4 #[.val (.ref a1), .val (.ref q0), .val (.ref we), .unset, .unset] [])
  refine own_aloadN X219 hx (hb hby own_d30_4) rfl rfl ?_
  show own_E p e below _ T219 (mkF m 5 #[.val (.ref a1), .val (.ref q0), .val (.ref we), .unset, .unset] [(.ref a1)])
  obtain ⟨T220, X220, e220, st220⟩ := getF X219 hx hZ hown (host := "") (Or.inl (own_w hw 77 rfl)) Via.refl e219 TF (g := (mkF m 5 #[.val (.ref a1), .val (.ref q0), .val (.ref we), .unset, .unset] [(.ref a1)])) rfl rfl (hb hby own_d30_5)
  refine own_go st220 ?_
  show own_E p e below _ T220 (mkF m 8 #[.val (.ref a1), .val (.ref q0), .val (.ref we), .unset, .unset] [(.ref al)])
  obtain ⟨cq221, kq221, qa221, qb221, qc221⟩ := isOf hZ e220 LX
  obtain ⟨_, _, ⟨T221, L221, k221, n221⟩, -, X221, ⟨Lc221, hQ221, l221, y221, z221⟩, st221⟩ := X220.interfaceBack hx (xi := (⟨"java/util/List", "iterator", "()Ljava/util/Iterator;"⟩ : MethodName)) (y := (⟨"java/util/ArrayList", "iterator", "()Ljava/util/Iterator;"⟩ : MethodName)) hown (mvT hZ (own_w hw 89 rfl)) (mvT hZ (own_w hw 90 rfl)) (mvT hZ (own_w hw 91 rfl)) (mvT hZ (own_w hw 92 rfl)) (mvT hZ (own_w hw 93 rfl)) (mvT hZ (own_w hw 94 rfl)) (mvT hZ (own_w hw 95 rfl)) (mvT hZ (own_w hw 96 rfl)) (by decide) (backOf (W := 0) (own_rmIR l Z a0 hw [] al 1 h0 n0 (by omega) LM LX) hZ (own_w hw 97 rfl) (own_w hw 46 rfl) (by decide) (by decide)) qa221 qb221 qc221 (g := (mkF m 8 #[.val (.ref a1), .val (.ref q0), .val (.ref we), .unset, .unset] [(.ref al)])) rfl (by rw [hml]; rfl) (Steps.refl _) (argsL := []) (rest := []) (lenOf own_pd13 rfl) rfl (by show 2 * 0 + _ ≤ _; exact Nat.le_of_eq rfl) (hb hby own_d30_8) (fun _ _ => ⟨rfl, e220, Nat.le_of_ble_eq_true rfl, Nat.le_of_ble_eq_true rfl⟩)
  dsimp only [Pt.U, Pt.locs, Pt.cells, Pt.slots] at X221 l221 y221 z221 st221 hQ221
  subst l221 y221 z221
  obtain ⟨a221, rfl, M221, K221, gi221, A221, F221, G221, J221, R221⟩ := hQ221
  have N221 := Fr.app N219 M221
  refine own_go (fun _ k => st221.trans k) ?_
  have z221 : h0.size ≤ T221.heap.size := K221.1
  show own_E p e below _ T221 (mkF m 13 #[.val (.ref a1), .val (.ref q0), .val (.ref we), .unset, .unset] [(.ref a221)])
  have lt222 := own_lt (A221).lt
  have FO221 : Fld Z T221.heap we "java/util/Optional" "value" "Ljava/lang/Object;" .null := (EF.ext ((O0.keep K221 all0)).2)
  refine own_astoreN X221 hx (hb hby own_d30_13) rfl (l' := #[.val (.ref a1), .val (.ref q0), .val (.ref we), .val (.ref a221), .unset]) rfl ?_
  show own_E p e below _ T221 (mkF m 14 #[.val (.ref a1), .val (.ref q0), .val (.ref we), .val (.ref a221), .unset] [])
  refine own_aloadN X221 hx (hb hby own_d30_14) rfl rfl ?_
  show own_E p e below _ T221 (mkF m 15 #[.val (.ref a1), .val (.ref q0), .val (.ref we), .val (.ref a221), .unset] [(.ref a221)])
  obtain ⟨cq223, kq223, qa223, qb223, qc223⟩ := isOf hZ (rfl : T221.heap = T221.heap) A221
  obtain ⟨_, _, ⟨T223, L223, k223, n223⟩, -, X223, ⟨Lc223, hQ223, l223, y223, z223⟩, st223⟩ := X221.interfaceBack hx (xi := (⟨"java/util/Iterator", "hasNext", "()Z"⟩ : MethodName)) (y := (⟨"java/util/ArrayList$Itr", "hasNext", "()Z"⟩ : MethodName)) hown (mvT hZ (own_w hw 114 rfl)) (mvT hZ (own_w hw 115 rfl)) (mvT hZ (own_w hw 116 rfl)) (mvT hZ (own_w hw 117 rfl)) (mvT hZ (own_w hw 118 rfl)) (mvT hZ (own_w hw 119 rfl)) (mvT hZ (own_w hw 120 rfl)) (mvT hZ (own_w hw 121 rfl)) (by decide) (backOf (W := 0) (own_rmHN l Z a0 hw [] a221 al 0 1 T221.heap n0 (by omega) F221 J221 (LZ.keep K221 nin0)) hZ (own_w hw 122 rfl) (own_w hw 100 rfl) (by decide) (by decide)) qa223 qb223 qc223 (g := (mkF m 15 #[.val (.ref a1), .val (.ref q0), .val (.ref we), .val (.ref a221), .unset] [(.ref a221)])) rfl (by rw [hml]; rfl) (Steps.refl _) (argsL := []) (rest := []) (lenOf own_pd14 rfl) rfl (by show 2 * 0 + _ ≤ _; exact Nat.le_of_eq rfl) (hb hby own_d30_15) (fun _ _ => ⟨rfl, (rfl : T221.heap = T221.heap), Nat.le_of_ble_eq_true rfl, Nat.le_of_ble_eq_true rfl⟩)
  dsimp only [Pt.U, Pt.locs, Pt.cells, Pt.slots] at X223 l223 y223 z223 st223 hQ223
  subst l223 y223 z223
  obtain ⟨rfl, M223, e223⟩ := hQ223
  have N223 := Fr.app N221 M223
  refine own_go (fun _ k => st223.trans k) ?_
  show own_E p e below _ T223 (mkF m 20 #[.val (.ref a1), .val (.ref q0), .val (.ref we), .val (.ref a221), .unset] [(.int (own_hn (0 : Int32) (1 : Int32)))])
  refine own_ifNo X223 hx (hb hby own_d30_20) (XT.i0_eq_f (by decide)) ?_
  show own_E p e below _ T223 (mkF m 23 #[.val (.ref a1), .val (.ref q0), .val (.ref we), .val (.ref a221), .unset] [])
  refine own_aloadN X223 hx (hb hby own_d30_23) rfl rfl ?_
  show own_E p e below _ T223 (mkF m 24 #[.val (.ref a1), .val (.ref q0), .val (.ref we), .val (.ref a221), .unset] [(.ref a221)])
  obtain ⟨cq224, kq224, qa224, qb224, qc224⟩ := isOf hZ e223 A221
  obtain ⟨_, _, ⟨T224, L224, k224, n224⟩, -, X224, ⟨Lc224, hQ224, l224, y224, z224⟩, st224⟩ := X223.interfaceBack hx (xi := (⟨"java/util/Iterator", "next", "()Ljava/lang/Object;"⟩ : MethodName)) (y := (⟨"java/util/ArrayList$Itr", "next", "()Ljava/lang/Object;"⟩ : MethodName)) hown (mvT hZ (own_w hw 169 rfl)) (mvT hZ (own_w hw 170 rfl)) (mvT hZ (own_w hw 171 rfl)) (mvT hZ (own_w hw 172 rfl)) (mvT hZ (own_w hw 173 rfl)) (mvT hZ (own_w hw 174 rfl)) (mvT hZ (own_w hw 175 rfl)) (mvT hZ (own_w hw 121 rfl)) (by decide) (backOf (W := 0) (own_rmNX l Z a0 hw [] a221 al d p0 kd [.ref p0] 0 1 1 1 (-1 : Int32) T221.heap n0 (by omega) F221 G221 J221 R221 A221 (LD.keep K221 nin0) (LZ.keep K221 nin0) (LM.keep K221 nin0) (LV.keep K221 nin0) (by decide) (by decide) (by decide) (by decide) rfl (by omega) (own_ne (by omega)) (own_ne (by omega))) hZ (own_w hw 176 rfl) (own_w hw 100 rfl) (by decide) (by decide)) qa224 qb224 qc224 (g := (mkF m 24 #[.val (.ref a1), .val (.ref q0), .val (.ref we), .val (.ref a221), .unset] [(.ref a221)])) rfl (by rw [hml]; rfl) (Steps.refl _) (argsL := []) (rest := []) (lenOf own_pd15 rfl) rfl (by show 2 * 0 + _ ≤ _; exact Nat.le_of_eq rfl) (hb hby own_d30_24) (fun _ _ => ⟨rfl, e223, Nat.le_of_ble_eq_true rfl, Nat.le_of_ble_eq_true rfl⟩)
  dsimp only [Pt.U, Pt.locs, Pt.cells, Pt.slots] at X224 l224 y224 z224 st224 hQ224
  subst l224 y224 z224
  obtain ⟨rfl, M224, K224, F224, G224, J224, R224⟩ := hQ224
  have N224 := Fr.app N223 M224
  refine own_go (fun _ k => st224.trans k) ?_
  have z224 : T221.heap.size ≤ T224.heap.size := K224.1
  show own_E p e below _ T224 (mkF m 29 #[.val (.ref a1), .val (.ref q0), .val (.ref we), .val (.ref a221), .unset] [(.ref p0)])
  obtain ⟨T225, X225, e225, st225⟩ := castY X224 hx hZ hown (own_w hw 183 rfl) (rfl : T224.heap = T224.heap) (Ins.self ((PX0.keep K221).keep K224)) (g := (mkF m 29 #[.val (.ref a1), .val (.ref q0), .val (.ref we), .val (.ref a221), .unset] [(.ref p0)])) rfl rfl (hb hby own_d30_29)
  refine own_go st225 ?_
  show own_E p e below _ T225 (mkF m 32 #[.val (.ref a1), .val (.ref q0), .val (.ref we), .val (.ref a221), .unset] [(.ref p0)])
  refine own_astore X225 hx (hb hby own_d30_32) rfl (l' := #[.val (.ref a1), .val (.ref q0), .val (.ref we), .val (.ref a221), .val (.ref p0)]) rfl ?_
  show own_E p e below _ T225 (mkF m 34 #[.val (.ref a1), .val (.ref q0), .val (.ref we), .val (.ref a221), .val (.ref p0)] [])
  refine own_aload X225 hx (hb hby own_d30_34) rfl rfl ?_
  show own_E p e below _ T225 (mkF m 36 #[.val (.ref a1), .val (.ref q0), .val (.ref we), .val (.ref a221), .val (.ref p0)] [(.ref p0)])
  obtain ⟨cq226, kq226, qa226, qb226, qc226⟩ := isOf hZ e225 ((PX0.keep K221).keep K224)
  obtain ⟨_, _, ⟨T226, L226, k226, n226⟩, -, X226, ⟨Lc226, hQ226, l226, y226, z226⟩, st226⟩ := X225.virtualBack hx (y := (⟨"com/example/narrow_gate/narrowgate/Target$Parameter", "name", "()Ljava/lang/String;"⟩ : MethodName)) (z := (⟨"com/example/narrow_gate/narrowgate/Target$Parameter", "name", "()Ljava/lang/String;"⟩ : MethodName)) hown (mvT hZ (own_w hw 185 rfl)) (mvT hZ (own_w hw 186 rfl)) (notFace_of_selects (args := #[]) (mvT hZ (own_w hw 188 rfl))) (mvT hZ (own_w hw 188 rfl)) (mvT hZ (own_w hw 187 rfl)) (by decide) (backOf (W := 0) (own_rmNM l Z a0 hw [] p0 s0 T224.heap n0 (by omega) ((PN0.keep K221 nin0).keep K224 (ninS (by first | assumption | exact Ne.symm (by assumption) | exact own_ne (by omega)) nin0))) hZ (own_w hw 189 rfl) (own_w hw 28 rfl) (by decide) (by decide)) qa226 qc226 (g := (mkF m 36 #[.val (.ref a1), .val (.ref q0), .val (.ref we), .val (.ref a221), .val (.ref p0)] [(.ref p0)])) rfl (by rw [hml]; rfl) (Steps.refl _) (argsL := []) (rest := []) (lenOf own_pd16 rfl) rfl (by show 2 * 0 + _ ≤ _; exact Nat.le_of_eq rfl) (hb hby own_d30_36) (fun _ _ => ⟨rfl, e225, Nat.le_of_ble_eq_true rfl, Nat.le_of_ble_eq_true rfl⟩)
  dsimp only [Pt.U, Pt.locs, Pt.cells, Pt.slots] at X226 l226 y226 z226 st226 hQ226
  subst l226 y226 z226
  obtain ⟨rfl, M226, e226⟩ := hQ226
  have N226 := Fr.app N224 M226
  refine own_go (fun _ k => st226.trans k) ?_
  show own_E p e below _ T226 (mkF m 39 #[.val (.ref a1), .val (.ref q0), .val (.ref we), .val (.ref a221), .val (.ref p0)] [(.ref s0)])
  have lt227 := own_lt ((own_Sx (own_Sk PS0 (((Keep.refl _ _).trans K221 all0).trans K224 (allS (Or.inr (by omega)) all0))))).lt
  refine own_aloadN X226 hx (hb hby own_d30_39) rfl rfl ?_
  show own_E p e below _ T226 (mkF m 40 #[.val (.ref a1), .val (.ref q0), .val (.ref we), .val (.ref a221), .val (.ref p0)] [(.ref q0), (.ref s0)])
  obtain ⟨cq228, kq228, qa228, qb228, qc228⟩ := isOf hZ e226 (own_Sx (own_Sk PS0 (((Keep.refl _ _).trans K221 all0).trans K224 (allS (Or.inr (by omega)) all0))))
  obtain ⟨_, _, ⟨T228, L228, k228, n228⟩, -, X228, ⟨Lc228, hQ228, l228, y228, z228⟩, st228⟩ := X226.virtualBack hx (y := (⟨"java/lang/String", "equals", "(Ljava/lang/Object;)Z"⟩ : MethodName)) (z := (⟨"java/lang/String", "equals", "(Ljava/lang/Object;)Z"⟩ : MethodName)) hown (mvT hZ (own_w hw 190 rfl)) (mvT hZ (own_w hw 191 rfl)) (notFace_of_selects (args := #[]) (mvT hZ (own_w hw 193 rfl))) (mvT hZ (own_w hw 193 rfl)) (mvT hZ (own_w hw 192 rfl)) (by decide) (backOf (W := 0) (own_rmEQ l Z a0 hw [] s0 q0 y0 x0 yq xq G1 T224.heap n0 (by omega) ((O0.keep K221 all0).keep K224 (allS (by omega) all0)) SC P1 (own_Sk PS0 (((Keep.refl _ _).trans K221 all0).trans K224 (allS (Or.inr (by omega)) all0))) (own_Sk SQ (((Keep.refl _ _).trans K221 all0).trans K224 (allS (Or.inr (by omega)) all0))) he0 heq) hZ (own_w hw 194 rfl) (own_w hw 2 rfl) (by decide) (by decide)) qa228 qc228 (g := (mkF m 40 #[.val (.ref a1), .val (.ref q0), .val (.ref we), .val (.ref a221), .val (.ref p0)] [(.ref q0), (.ref s0)])) rfl (by rw [hml]; rfl) (Steps.refl _) (argsL := [(.ref q0)]) (rest := []) (lenOf own_pd17 rfl) rfl (by show 2 * 0 + _ ≤ _; exact Nat.le_of_eq rfl) (hb hby own_d30_40) (fun _ _ => ⟨rfl, e226, Nat.le_of_ble_eq_true rfl, Nat.le_of_ble_eq_true rfl⟩)
  dsimp only [Pt.U, Pt.locs, Pt.cells, Pt.slots] at X228 l228 y228 z228 st228 hQ228
  subst l228 y228 z228
  obtain ⟨rfl, M228, e228⟩ := hQ228
  have N228 := Fr.app N226 M228
  refine own_go (fun _ k => st228.trans k) ?_
  show own_E p e below _ T228 (mkF m 43 #[.val (.ref a1), .val (.ref q0), .val (.ref we), .val (.ref a221), .val (.ref p0)] [(.int (own_seq y0 x0 yq xq))])
  suffices hj229 : ∀ (T229 : State) (L229 : List Loc) (h229 : Heap) (o229 : Addr), Stand p l e ({ frames := 3, cells := 2, slots := 5, locals := 60 } : Room) s m #[(.ref a1), (.ref q0)] below meth c T229 L229 2 5 → T229.heap = h229 → Fr n0 L229 → Keep T224.heap h229 [] → Exa Z h229 o229 "java/util/Optional" → Fld Z h229 o229 "java/util/Optional" "value" "Ljava/lang/Object;" (own_pick (own_seq y0 x0 yq xq) (.ref v0) .null) → own_E p e below (own_P s (own_QM Z (own_pick (own_seq y0 x0 yq xq) (.ref v0) .null) h0 n0) ({ frames := 3, cells := 2, slots := 5, locals := 60 } : Room).cells ({ frames := 3, cells := 2, slots := 5, locals := 60 } : Room).slots) T229 (mkF m 14 #[.val (.ref a1), .val (.ref q0), .val (.ref o229), .val (.ref a221), .val (.ref p0)] []) from by
    by_cases hm : (own_seq y0 x0 yq xq) = 0
    · skip
      refine own_ifYes X228 hx (hb hby own_d30_43) (XT.i0_eq_t hm) 55 (by decide) (by decide) ?_
      show own_E p e below _ T228 (mkF m 55 #[.val (.ref a1), .val (.ref q0), .val (.ref we), .val (.ref a221), .val (.ref p0)] [])
      refine own_goto X228 hx (hb hby own_d30_55) 14 (by decide) (by decide) ?_
      show own_E p e below _ T228 (mkF m 14 #[.val (.ref a1), .val (.ref q0), .val (.ref we), .val (.ref a221), .val (.ref p0)] [])
      exact hj229 _ _ _ _ (X228.mono (by decide) (by decide)) e228 N228 (Keep.refl _ _) (EX.ext (((O0.keep K221 all0).keep K224 (allS (by omega) all0))).2) (by rw [own_pick, if_pos hm]; exact (FO221.keep K224 (ninS (by first | assumption | exact Ne.symm (by assumption) | exact own_ne (by omega)) nin0)))
    · skip
      refine own_ifNo X228 hx (hb hby own_d30_43) (XT.i0_eq_f hm) ?_
      show own_E p e below _ T228 (mkF m 46 #[.val (.ref a1), .val (.ref q0), .val (.ref we), .val (.ref a221), .val (.ref p0)] [])
      refine own_aload X228 hx (hb hby own_d30_46) rfl rfl ?_
      show own_E p e below _ T228 (mkF m 48 #[.val (.ref a1), .val (.ref q0), .val (.ref we), .val (.ref a221), .val (.ref p0)] [(.ref p0)])
      obtain ⟨cq230, kq230, qa230, qb230, qc230⟩ := isOf hZ e228 ((PX0.keep K221).keep K224)
      obtain ⟨_, _, ⟨T230, L230, k230, n230⟩, -, X230, ⟨Lc230, hQ230, l230, y230, z230⟩, st230⟩ := X228.virtualBack hx (y := (⟨"com/example/narrow_gate/narrowgate/Target$Parameter", "value", "()Ljava/lang/String;"⟩ : MethodName)) (z := (⟨"com/example/narrow_gate/narrowgate/Target$Parameter", "value", "()Ljava/lang/String;"⟩ : MethodName)) hown (mvT hZ (own_w hw 198 rfl)) (mvT hZ (own_w hw 199 rfl)) (notFace_of_selects (args := #[]) (mvT hZ (own_w hw 201 rfl))) (mvT hZ (own_w hw 201 rfl)) (mvT hZ (own_w hw 200 rfl)) (by decide) (backOf (W := 0) (own_rmVL l Z a0 hw [] p0 v0 T224.heap n0 (by omega) ((PV0.keep K221 nin0).keep K224 (ninS (by first | assumption | exact Ne.symm (by assumption) | exact own_ne (by omega)) nin0))) hZ (own_w hw 202 rfl) (own_w hw 28 rfl) (by decide) (by decide)) qa230 qc230 (g := (mkF m 48 #[.val (.ref a1), .val (.ref q0), .val (.ref we), .val (.ref a221), .val (.ref p0)] [(.ref p0)])) rfl (by rw [hml]; rfl) (Steps.refl _) (argsL := []) (rest := []) (lenOf own_pd16 rfl) rfl (by show 2 * 0 + _ ≤ _; exact Nat.le_of_eq rfl) (hb hby own_d30_48) (fun _ _ => ⟨rfl, e228, Nat.le_of_ble_eq_true rfl, Nat.le_of_ble_eq_true rfl⟩)
      dsimp only [Pt.U, Pt.locs, Pt.cells, Pt.slots] at X230 l230 y230 z230 st230 hQ230
      subst l230 y230 z230
      obtain ⟨rfl, M230, e230⟩ := hQ230
      have N230 := Fr.app N228 M230
      refine own_go (fun _ k => st230.trans k) ?_
      show own_E p e below _ T230 (mkF m 51 #[.val (.ref a1), .val (.ref q0), .val (.ref we), .val (.ref a221), .val (.ref p0)] [(.ref v0)])
      obtain ⟨_, _, ⟨T231, L231, k231, n231⟩, -, X231, ⟨Lc231, hQ231, l231, y231, z231⟩, st231⟩ := Jvm.LawKit.callS X230 hx (y := (⟨"java/util/Optional", "of", "(Ljava/lang/Object;)Ljava/util/Optional;"⟩ : MethodName)) hown (mvT hZ (own_w hw 203 rfl)) (mvT hZ (own_w hw 204 rfl)) (mvT hZ (own_w hw 86 rfl)) (mvT hZ (own_w hw 205 rfl)) (by decide) (backOf (W := 0) (own_rmON l Z a0 hw [] v0 T224.heap n0 (by omega)) hZ (own_w hw 205 rfl) (own_w hw 86 rfl) (by decide) (by decide)) (g := (mkF m 51 #[.val (.ref a1), .val (.ref q0), .val (.ref we), .val (.ref a221), .val (.ref p0)] [(.ref v0)])) rfl (by rw [hml]; rfl) (argsL := [(.ref v0)]) (rest := []) (lenOf own_pd18 rfl) rfl (by show 2 * 0 + _ ≤ _; exact Nat.le_of_eq rfl) (hb hby own_d30_51) (fun _ _ => ⟨rfl, e230, Nat.le_of_ble_eq_true rfl, Nat.le_of_ble_eq_true rfl⟩)
      dsimp only [Pt.U, Pt.locs, Pt.cells, Pt.slots] at X231 l231 y231 z231 st231 hQ231
      subst l231 y231 z231
      obtain ⟨a231, rfl, M231, K231, A231, F231⟩ := hQ231
      have N231 := Fr.app N230 M231
      refine own_go st231 ?_
      have z231 : T224.heap.size ≤ T231.heap.size := K231.1
      show own_E p e below _ T231 (mkF m 54 #[.val (.ref a1), .val (.ref q0), .val (.ref we), .val (.ref a221), .val (.ref p0)] [(.ref a231)])
      refine own_astoreN X231 hx (hb hby own_d30_54) rfl (l' := #[.val (.ref a1), .val (.ref q0), .val (.ref a231), .val (.ref a221), .val (.ref p0)]) rfl ?_
      show own_E p e below _ T231 (mkF m 55 #[.val (.ref a1), .val (.ref q0), .val (.ref a231), .val (.ref a221), .val (.ref p0)] [])
      refine own_goto X231 hx (hb hby own_d30_55) 14 (by decide) (by decide) ?_
      show own_E p e below _ T231 (mkF m 14 #[.val (.ref a1), .val (.ref q0), .val (.ref a231), .val (.ref a221), .val (.ref p0)] [])
      exact hj229 _ _ _ _ (X231.mono (by decide) (by decide)) (rfl : T231.heap = T231.heap) N231 K231 A231 (by rw [own_pick, if_neg hm]; exact F231)
  intro T229 L229 h229 o229 X229 e229 N229 K229 A229 F229
  have z229 : T224.heap.size ≤ h229.size := K229.1
  have lt232 := own_lt (A229).lt
  have no229 : o229 ≠ a221 := Jvm.RoadKit.ne_exa A229 ((A221.keep K224).keep K229) (by decide)
  show own_E p e below _ T229 (mkF m 14 #[.val (.ref a1), .val (.ref q0), .val (.ref o229), .val (.ref a221), .val (.ref p0)] [])
  refine own_aloadN X229 hx (hb hby own_d30_14) rfl rfl ?_
  show own_E p e below _ T229 (mkF m 15 #[.val (.ref a1), .val (.ref q0), .val (.ref o229), .val (.ref a221), .val (.ref p0)] [(.ref a221)])
  obtain ⟨cq233, kq233, qa233, qb233, qc233⟩ := isOf hZ e229 ((A221.keep K224).keep K229)
  obtain ⟨_, _, ⟨T233, L233, k233, n233⟩, -, X233, ⟨Lc233, hQ233, l233, y233, z233⟩, st233⟩ := X229.interfaceBack hx (xi := (⟨"java/util/Iterator", "hasNext", "()Z"⟩ : MethodName)) (y := (⟨"java/util/ArrayList$Itr", "hasNext", "()Z"⟩ : MethodName)) hown (mvT hZ (own_w hw 114 rfl)) (mvT hZ (own_w hw 115 rfl)) (mvT hZ (own_w hw 116 rfl)) (mvT hZ (own_w hw 117 rfl)) (mvT hZ (own_w hw 118 rfl)) (mvT hZ (own_w hw 119 rfl)) (mvT hZ (own_w hw 120 rfl)) (mvT hZ (own_w hw 121 rfl)) (by decide) (backOf (W := 0) (own_rmHN l Z a0 hw [] a221 al 1 1 h229 n0 (by omega) (F224.keep K229 nin0) (J224.keep K229 nin0) (((LZ.keep K221 nin0).keep K224 (ninS (by first | assumption | exact Ne.symm (by assumption) | exact own_ne (by omega)) nin0)).keep K229 nin0)) hZ (own_w hw 122 rfl) (own_w hw 100 rfl) (by decide) (by decide)) qa233 qb233 qc233 (g := (mkF m 15 #[.val (.ref a1), .val (.ref q0), .val (.ref o229), .val (.ref a221), .val (.ref p0)] [(.ref a221)])) rfl (by rw [hml]; rfl) (Steps.refl _) (argsL := []) (rest := []) (lenOf own_pd14 rfl) rfl (by show 2 * 0 + _ ≤ _; exact Nat.le_of_eq rfl) (hb hby own_d30_15) (fun _ _ => ⟨rfl, e229, Nat.le_of_ble_eq_true rfl, Nat.le_of_ble_eq_true rfl⟩)
  dsimp only [Pt.U, Pt.locs, Pt.cells, Pt.slots] at X233 l233 y233 z233 st233 hQ233
  subst l233 y233 z233
  obtain ⟨rfl, M233, e233⟩ := hQ233
  have N233 := Fr.app N229 M233
  refine own_go (fun _ k => st233.trans k) ?_
  show own_E p e below _ T233 (mkF m 20 #[.val (.ref a1), .val (.ref q0), .val (.ref o229), .val (.ref a221), .val (.ref p0)] [(.int (own_hn (1 : Int32) (1 : Int32)))])
  refine own_ifYes X233 hx (hb hby own_d30_20) (XT.i0_eq_t (by decide)) 58 (by decide) (by decide) ?_
  show own_E p e below _ T233 (mkF m 58 #[.val (.ref a1), .val (.ref q0), .val (.ref o229), .val (.ref a221), .val (.ref p0)] [])
  refine own_aloadN X233 hx (hb hby own_d30_58) rfl rfl ?_
  show own_E p e below _ T233 (mkF m 59 #[.val (.ref a1), .val (.ref q0), .val (.ref o229), .val (.ref a221), .val (.ref p0)] [(.ref o229)])
  refine own_retA X233 hx Bd.returns rfl rfl hlk (hb hby own_d30_59) (by decide) (by decide) ?_
  rw [e233]
  exact ⟨_, rfl, N233, ((((Keep.refl _ _).trans K221 all0).trans K224 (allS (Or.inr (by omega)) all0)).trans K229 all0), A229, F229⟩

theorem own_ef41 (m : MethodId) (x0 : Addr) (x1 : Addr) : entryFrame m #[(.ref x0), (.ref x1)] 5 = mkF m 0 #[.val (.ref x0), .val (.ref x1), .unset, .unset, .unset] [] := by first | (simp [entryFrame, mkF, argsToLocals, Value.category]; done) | rfl
set_option maxRecDepth 65536 in
set_option maxHeartbeats 40000000 in
theorem own_rmM2 (l : Launch) (Z : State) (a0 : Array Value) (hw : ∀ d ∈ tables_1, d.before a0 Z = true) (ws : List Jvm.Cond) (a1 q0 al d we p0 s0 v0 p1 s1 v1 : Addr) (kd : ClassId) (yq xq G1 y0 x0 y1 x1 : Int32) (h0 : Heap) (n0 : Nat) (Z0 : n0 ≤ h0.size) (O0 : Old Z n0 h0) (SC : Sta Z Z.heap "java/lang/String" "COMPACT_STRINGS" "Z" (.int G1)) (P1 : ¬ G1 = 0) (SE : Sta Z Z.heap "java/util/Optional" "EMPTY" "Ljava/util/Optional;" (.ref we)) (EX : Exa Z Z.heap we "java/util/Optional") (EF : Fld Z Z.heap we "java/util/Optional" "value" "Ljava/lang/Object;" .null) (TF : Fld Z h0 a1 "com/example/narrow_gate/narrowgate/Target" "parameters" "Ljava/util/List;" (.ref al)) (LD : Fld Z h0 al "java/util/ArrayList" "elementData" "[Ljava/lang/Object;" (.ref d)) (LZ : Fld Z h0 al "java/util/ArrayList" "size" "I" (.int (2 : Int32))) (LM : Fld Z h0 al "java/util/AbstractList" "modCount" "I" (.int (2 : Int32))) (LX : Exa Z h0 al "java/util/ArrayList") (LV : Arv Z h0 d kd (.object "java/lang/Object") (10 : Int32) [.ref p0, .ref p1] .null) (SQ : own_S Z h0 q0 yq xq) (heq : yq = 0 ∨ yq = 1) (PX0 : Exa Z h0 p0 "com/example/narrow_gate/narrowgate/Target$Parameter") (PN0 : Fld Z h0 p0 "com/example/narrow_gate/narrowgate/Target$Parameter" "name" "Ljava/lang/String;" (.ref s0)) (PV0 : Fld Z h0 p0 "com/example/narrow_gate/narrowgate/Target$Parameter" "value" "Ljava/lang/String;" (.ref v0)) (PS0 : own_S Z h0 s0 y0 x0) (he0 : y0 = 0 ∨ y0 = 1) (PX1 : Exa Z h0 p1 "com/example/narrow_gate/narrowgate/Target$Parameter") (PN1 : Fld Z h0 p1 "com/example/narrow_gate/narrowgate/Target$Parameter" "name" "Ljava/lang/String;" (.ref s1)) (PV1 : Fld Z h0 p1 "com/example/narrow_gate/narrowgate/Target$Parameter" "value" "Ljava/lang/String;" (.ref v1)) (PS1 : own_S Z h0 s1 y1 x1) (he1 : y1 = 0 ∨ y1 = 1) :
    MetFree l (⟨"com/example/narrow_gate/narrowgate/Target", "parameter", "(Ljava/lang/String;)Ljava/util/Optional;"⟩ : MethodName) (head1 (Jvm.Cond.code (⟨"com/example/narrow_gate/narrowgate/Target", "parameter", "(Ljava/lang/String;)Ljava/util/Optional;"⟩ : MethodName) prog_5_method_3_code 5 (some (.object "java/util/Optional")) :: ws) ({ frames := 3, cells := 3, slots := 6, locals := 60 } : Room)) (fun a U => a = #[(.ref a1), (.ref q0)] ∧ Z.Warmed39 U.vm ∧ U.heap = h0) (fun _ _ _ _ _ => True) (fun _ U o U' => ∃ v L, o = .returned v ∧ own_QM Z (own_pick (own_seq y1 x1 yq xq) (.ref v1) (own_pick (own_seq y0 x0 yq xq) (.ref v0) .null)) h0 n0 v U'.heap L ∧ FrameEnd U o U' L ({ frames := 3, cells := 3, slots := 6, locals := 60 } : Room).cells ({ frames := 3, cells := 3, slots := 6, locals := 60 } : Room).slots) := by
  refine MetFree.of_bodySF (plainFor_of_name own_pn7) hisR ?_
  intro p e s m args below meth c s₁ Bd hml0 hP hK
  obtain ⟨rfl, hZ, hh⟩ := hP
  have hx := Bd.exec
  have hby := Bd.bytes
  have hlk : meth.locks = false := Bd.notSynchronized
  have hml : c.maxLocals = 5 := hml0
  have hown : s.vm.findClass "com/example/narrow_gate/narrowgate/Target" = some m.cls := findClass_of_methodNamed Bd.named
  have hnm := (name_of_methodNamed Bd.named Bd.method).1
  have X0 : Stand p l e ({ frames := 3, cells := 3, slots := 6, locals := 60 } : Room) s m #[(.ref a1), (.ref q0)] below meth c s₁ [] 0 0 := Stand.of_body Bd
  have e0 : s₁.heap = h0 := by rw [← hh, Bd.state]; rfl
  have N0 := Fr.nil n0
  show own_E p e below (own_P s (own_QM Z (own_pick (own_seq y1 x1 yq xq) (.ref v1) (own_pick (own_seq y0 x0 yq xq) (.ref v0) .null)) h0 n0) ({ frames := 3, cells := 3, slots := 6, locals := 60 } : Room).cells ({ frames := 3, cells := 3, slots := 6, locals := 60 } : Room).slots) s₁ (entryFrame m #[(.ref a1), (.ref q0)] 5)
  refine own_cast (own_ef41 m a1 q0) ?_
  have od234 := (O0).1
  have lt235 := own_lt (EX).lt
  have lt236 := own_lt (TF).lt
  have lt237 := own_lt (LD).lt
  have lt238 := own_lt (LX).lt
  have lt239 := own_lt (LV).lt
  have lt240 := own_lt (PX0).lt
  have lt241 := own_lt (PX1).lt
  show own_E p e below _ s₁ (mkF m 0 #[.val (.ref a1), .val (.ref q0), .unset, .unset, .unset] [])
  obtain ⟨_, _, ⟨T242, L242, k242, n242⟩, -, X242, ⟨Lc242, hQ242, l242, y242, z242⟩, st242⟩ := Jvm.LawKit.callS X0 hx (y := (⟨"java/util/Optional", "empty", "()Ljava/util/Optional;"⟩ : MethodName)) hown (mvT hZ (own_w hw 84 rfl)) (mvT hZ (own_w hw 85 rfl)) (mvT hZ (own_w hw 86 rfl)) (mvT hZ (own_w hw 87 rfl)) (by decide) (backOf (W := 0) (own_rmOE l Z a0 hw [] we h0 n0 (by omega) O0 SE) hZ (own_w hw 87 rfl) (own_w hw 86 rfl) (by decide) (by decide)) (g := (mkF m 0 #[.val (.ref a1), .val (.ref q0), .unset, .unset, .unset] [])) rfl (by rw [hml]; rfl) (argsL := []) (rest := []) (lenOf own_pd12 rfl) rfl (by show 2 * 0 + _ ≤ _; exact Nat.le_of_eq rfl) (hb hby own_d30_0) (fun _ _ => ⟨rfl, e0, Nat.le_of_ble_eq_true rfl, Nat.le_of_ble_eq_true rfl⟩)
  dsimp only [Pt.U, Pt.locs, Pt.cells, Pt.slots] at X242 l242 y242 z242 st242 hQ242
  subst l242 y242 z242
  obtain ⟨rfl, M242, e242⟩ := hQ242
  have N242 := Fr.app N0 M242
  refine own_go st242 ?_
  show own_E p e below _ T242 (mkF m 3 #[.val (.ref a1), .val (.ref q0), .unset, .unset, .unset] [(.ref we)])
  refine own_astoreN X242 hx (hb hby own_d30_3) rfl (l' := #[.val (.ref a1), .val (.ref q0), .val (.ref we), .unset, .unset]) rfl ?_
  show own_E p e below _ T242 (mkF m 4 #[.val (.ref a1), .val (.ref q0), .val (.ref we), .unset, .unset] [])
  refine own_aloadN X242 hx (hb hby own_d30_4) rfl rfl ?_
  show own_E p e below _ T242 (mkF m 5 #[.val (.ref a1), .val (.ref q0), .val (.ref we), .unset, .unset] [(.ref a1)])
  obtain ⟨T243, X243, e243, st243⟩ := getF X242 hx hZ hown (host := "") (Or.inl (own_w hw 77 rfl)) Via.refl e242 TF (g := (mkF m 5 #[.val (.ref a1), .val (.ref q0), .val (.ref we), .unset, .unset] [(.ref a1)])) rfl rfl (hb hby own_d30_5)
  refine own_go st243 ?_
  show own_E p e below _ T243 (mkF m 8 #[.val (.ref a1), .val (.ref q0), .val (.ref we), .unset, .unset] [(.ref al)])
  obtain ⟨cq244, kq244, qa244, qb244, qc244⟩ := isOf hZ e243 LX
  obtain ⟨_, _, ⟨T244, L244, k244, n244⟩, -, X244, ⟨Lc244, hQ244, l244, y244, z244⟩, st244⟩ := X243.interfaceBack hx (xi := (⟨"java/util/List", "iterator", "()Ljava/util/Iterator;"⟩ : MethodName)) (y := (⟨"java/util/ArrayList", "iterator", "()Ljava/util/Iterator;"⟩ : MethodName)) hown (mvT hZ (own_w hw 89 rfl)) (mvT hZ (own_w hw 90 rfl)) (mvT hZ (own_w hw 91 rfl)) (mvT hZ (own_w hw 92 rfl)) (mvT hZ (own_w hw 93 rfl)) (mvT hZ (own_w hw 94 rfl)) (mvT hZ (own_w hw 95 rfl)) (mvT hZ (own_w hw 96 rfl)) (by decide) (backOf (W := 0) (own_rmIR l Z a0 hw [] al 2 h0 n0 (by omega) LM LX) hZ (own_w hw 97 rfl) (own_w hw 46 rfl) (by decide) (by decide)) qa244 qb244 qc244 (g := (mkF m 8 #[.val (.ref a1), .val (.ref q0), .val (.ref we), .unset, .unset] [(.ref al)])) rfl (by rw [hml]; rfl) (Steps.refl _) (argsL := []) (rest := []) (lenOf own_pd13 rfl) rfl (by show 2 * 0 + _ ≤ _; exact Nat.le_of_eq rfl) (hb hby own_d30_8) (fun _ _ => ⟨rfl, e243, Nat.le_of_ble_eq_true rfl, Nat.le_of_ble_eq_true rfl⟩)
  dsimp only [Pt.U, Pt.locs, Pt.cells, Pt.slots] at X244 l244 y244 z244 st244 hQ244
  subst l244 y244 z244
  obtain ⟨a244, rfl, M244, K244, gi244, A244, F244, G244, J244, R244⟩ := hQ244
  have N244 := Fr.app N242 M244
  refine own_go (fun _ k => st244.trans k) ?_
  have z244 : h0.size ≤ T244.heap.size := K244.1
  show own_E p e below _ T244 (mkF m 13 #[.val (.ref a1), .val (.ref q0), .val (.ref we), .unset, .unset] [(.ref a244)])
  have lt245 := own_lt (A244).lt
  have FO244 : Fld Z T244.heap we "java/util/Optional" "value" "Ljava/lang/Object;" .null := (EF.ext ((O0.keep K244 all0)).2)
  refine own_astoreN X244 hx (hb hby own_d30_13) rfl (l' := #[.val (.ref a1), .val (.ref q0), .val (.ref we), .val (.ref a244), .unset]) rfl ?_
  show own_E p e below _ T244 (mkF m 14 #[.val (.ref a1), .val (.ref q0), .val (.ref we), .val (.ref a244), .unset] [])
  refine own_aloadN X244 hx (hb hby own_d30_14) rfl rfl ?_
  show own_E p e below _ T244 (mkF m 15 #[.val (.ref a1), .val (.ref q0), .val (.ref we), .val (.ref a244), .unset] [(.ref a244)])
  obtain ⟨cq246, kq246, qa246, qb246, qc246⟩ := isOf hZ (rfl : T244.heap = T244.heap) A244
  obtain ⟨_, _, ⟨T246, L246, k246, n246⟩, -, X246, ⟨Lc246, hQ246, l246, y246, z246⟩, st246⟩ := X244.interfaceBack hx (xi := (⟨"java/util/Iterator", "hasNext", "()Z"⟩ : MethodName)) (y := (⟨"java/util/ArrayList$Itr", "hasNext", "()Z"⟩ : MethodName)) hown (mvT hZ (own_w hw 114 rfl)) (mvT hZ (own_w hw 115 rfl)) (mvT hZ (own_w hw 116 rfl)) (mvT hZ (own_w hw 117 rfl)) (mvT hZ (own_w hw 118 rfl)) (mvT hZ (own_w hw 119 rfl)) (mvT hZ (own_w hw 120 rfl)) (mvT hZ (own_w hw 121 rfl)) (by decide) (backOf (W := 0) (own_rmHN l Z a0 hw [] a244 al 0 2 T244.heap n0 (by omega) F244 J244 (LZ.keep K244 nin0)) hZ (own_w hw 122 rfl) (own_w hw 100 rfl) (by decide) (by decide)) qa246 qb246 qc246 (g := (mkF m 15 #[.val (.ref a1), .val (.ref q0), .val (.ref we), .val (.ref a244), .unset] [(.ref a244)])) rfl (by rw [hml]; rfl) (Steps.refl _) (argsL := []) (rest := []) (lenOf own_pd14 rfl) rfl (by show 2 * 0 + _ ≤ _; exact Nat.le_of_eq rfl) (hb hby own_d30_15) (fun _ _ => ⟨rfl, (rfl : T244.heap = T244.heap), Nat.le_of_ble_eq_true rfl, Nat.le_of_ble_eq_true rfl⟩)
  dsimp only [Pt.U, Pt.locs, Pt.cells, Pt.slots] at X246 l246 y246 z246 st246 hQ246
  subst l246 y246 z246
  obtain ⟨rfl, M246, e246⟩ := hQ246
  have N246 := Fr.app N244 M246
  refine own_go (fun _ k => st246.trans k) ?_
  show own_E p e below _ T246 (mkF m 20 #[.val (.ref a1), .val (.ref q0), .val (.ref we), .val (.ref a244), .unset] [(.int (own_hn (0 : Int32) (2 : Int32)))])
  refine own_ifNo X246 hx (hb hby own_d30_20) (XT.i0_eq_f (by decide)) ?_
  show own_E p e below _ T246 (mkF m 23 #[.val (.ref a1), .val (.ref q0), .val (.ref we), .val (.ref a244), .unset] [])
  refine own_aloadN X246 hx (hb hby own_d30_23) rfl rfl ?_
  show own_E p e below _ T246 (mkF m 24 #[.val (.ref a1), .val (.ref q0), .val (.ref we), .val (.ref a244), .unset] [(.ref a244)])
  obtain ⟨cq247, kq247, qa247, qb247, qc247⟩ := isOf hZ e246 A244
  obtain ⟨_, _, ⟨T247, L247, k247, n247⟩, -, X247, ⟨Lc247, hQ247, l247, y247, z247⟩, st247⟩ := X246.interfaceBack hx (xi := (⟨"java/util/Iterator", "next", "()Ljava/lang/Object;"⟩ : MethodName)) (y := (⟨"java/util/ArrayList$Itr", "next", "()Ljava/lang/Object;"⟩ : MethodName)) hown (mvT hZ (own_w hw 169 rfl)) (mvT hZ (own_w hw 170 rfl)) (mvT hZ (own_w hw 171 rfl)) (mvT hZ (own_w hw 172 rfl)) (mvT hZ (own_w hw 173 rfl)) (mvT hZ (own_w hw 174 rfl)) (mvT hZ (own_w hw 175 rfl)) (mvT hZ (own_w hw 121 rfl)) (by decide) (backOf (W := 0) (own_rmNX l Z a0 hw [] a244 al d p0 kd [.ref p0, .ref p1] 0 1 2 2 (-1 : Int32) T244.heap n0 (by omega) F244 G244 J244 R244 A244 (LD.keep K244 nin0) (LZ.keep K244 nin0) (LM.keep K244 nin0) (LV.keep K244 nin0) (by decide) (by decide) (by decide) (by decide) rfl (by omega) (own_ne (by omega)) (own_ne (by omega))) hZ (own_w hw 176 rfl) (own_w hw 100 rfl) (by decide) (by decide)) qa247 qb247 qc247 (g := (mkF m 24 #[.val (.ref a1), .val (.ref q0), .val (.ref we), .val (.ref a244), .unset] [(.ref a244)])) rfl (by rw [hml]; rfl) (Steps.refl _) (argsL := []) (rest := []) (lenOf own_pd15 rfl) rfl (by show 2 * 0 + _ ≤ _; exact Nat.le_of_eq rfl) (hb hby own_d30_24) (fun _ _ => ⟨rfl, e246, Nat.le_of_ble_eq_true rfl, Nat.le_of_ble_eq_true rfl⟩)
  dsimp only [Pt.U, Pt.locs, Pt.cells, Pt.slots] at X247 l247 y247 z247 st247 hQ247
  subst l247 y247 z247
  obtain ⟨rfl, M247, K247, F247, G247, J247, R247⟩ := hQ247
  have N247 := Fr.app N246 M247
  refine own_go (fun _ k => st247.trans k) ?_
  have z247 : T244.heap.size ≤ T247.heap.size := K247.1
  show own_E p e below _ T247 (mkF m 29 #[.val (.ref a1), .val (.ref q0), .val (.ref we), .val (.ref a244), .unset] [(.ref p0)])
  obtain ⟨T248, X248, e248, st248⟩ := castY X247 hx hZ hown (own_w hw 183 rfl) (rfl : T247.heap = T247.heap) (Ins.self ((PX0.keep K244).keep K247)) (g := (mkF m 29 #[.val (.ref a1), .val (.ref q0), .val (.ref we), .val (.ref a244), .unset] [(.ref p0)])) rfl rfl (hb hby own_d30_29)
  refine own_go st248 ?_
  show own_E p e below _ T248 (mkF m 32 #[.val (.ref a1), .val (.ref q0), .val (.ref we), .val (.ref a244), .unset] [(.ref p0)])
  refine own_astore X248 hx (hb hby own_d30_32) rfl (l' := #[.val (.ref a1), .val (.ref q0), .val (.ref we), .val (.ref a244), .val (.ref p0)]) rfl ?_
  show own_E p e below _ T248 (mkF m 34 #[.val (.ref a1), .val (.ref q0), .val (.ref we), .val (.ref a244), .val (.ref p0)] [])
  refine own_aload X248 hx (hb hby own_d30_34) rfl rfl ?_
  show own_E p e below _ T248 (mkF m 36 #[.val (.ref a1), .val (.ref q0), .val (.ref we), .val (.ref a244), .val (.ref p0)] [(.ref p0)])
  obtain ⟨cq249, kq249, qa249, qb249, qc249⟩ := isOf hZ e248 ((PX0.keep K244).keep K247)
  obtain ⟨_, _, ⟨T249, L249, k249, n249⟩, -, X249, ⟨Lc249, hQ249, l249, y249, z249⟩, st249⟩ := X248.virtualBack hx (y := (⟨"com/example/narrow_gate/narrowgate/Target$Parameter", "name", "()Ljava/lang/String;"⟩ : MethodName)) (z := (⟨"com/example/narrow_gate/narrowgate/Target$Parameter", "name", "()Ljava/lang/String;"⟩ : MethodName)) hown (mvT hZ (own_w hw 185 rfl)) (mvT hZ (own_w hw 186 rfl)) (notFace_of_selects (args := #[]) (mvT hZ (own_w hw 188 rfl))) (mvT hZ (own_w hw 188 rfl)) (mvT hZ (own_w hw 187 rfl)) (by decide) (backOf (W := 0) (own_rmNM l Z a0 hw [] p0 s0 T247.heap n0 (by omega) ((PN0.keep K244 nin0).keep K247 (ninS (by first | assumption | exact Ne.symm (by assumption) | exact own_ne (by omega)) nin0))) hZ (own_w hw 189 rfl) (own_w hw 28 rfl) (by decide) (by decide)) qa249 qc249 (g := (mkF m 36 #[.val (.ref a1), .val (.ref q0), .val (.ref we), .val (.ref a244), .val (.ref p0)] [(.ref p0)])) rfl (by rw [hml]; rfl) (Steps.refl _) (argsL := []) (rest := []) (lenOf own_pd16 rfl) rfl (by show 2 * 0 + _ ≤ _; exact Nat.le_of_eq rfl) (hb hby own_d30_36) (fun _ _ => ⟨rfl, e248, Nat.le_of_ble_eq_true rfl, Nat.le_of_ble_eq_true rfl⟩)
  dsimp only [Pt.U, Pt.locs, Pt.cells, Pt.slots] at X249 l249 y249 z249 st249 hQ249
  subst l249 y249 z249
  obtain ⟨rfl, M249, e249⟩ := hQ249
  have N249 := Fr.app N247 M249
  refine own_go (fun _ k => st249.trans k) ?_
  show own_E p e below _ T249 (mkF m 39 #[.val (.ref a1), .val (.ref q0), .val (.ref we), .val (.ref a244), .val (.ref p0)] [(.ref s0)])
  have lt250 := own_lt ((own_Sx (own_Sk PS0 (((Keep.refl _ _).trans K244 all0).trans K247 (allS (Or.inr (by omega)) all0))))).lt
  refine own_aloadN X249 hx (hb hby own_d30_39) rfl rfl ?_
  show own_E p e below _ T249 (mkF m 40 #[.val (.ref a1), .val (.ref q0), .val (.ref we), .val (.ref a244), .val (.ref p0)] [(.ref q0), (.ref s0)])
  obtain ⟨cq251, kq251, qa251, qb251, qc251⟩ := isOf hZ e249 (own_Sx (own_Sk PS0 (((Keep.refl _ _).trans K244 all0).trans K247 (allS (Or.inr (by omega)) all0))))
  obtain ⟨_, _, ⟨T251, L251, k251, n251⟩, -, X251, ⟨Lc251, hQ251, l251, y251, z251⟩, st251⟩ := X249.virtualBack hx (y := (⟨"java/lang/String", "equals", "(Ljava/lang/Object;)Z"⟩ : MethodName)) (z := (⟨"java/lang/String", "equals", "(Ljava/lang/Object;)Z"⟩ : MethodName)) hown (mvT hZ (own_w hw 190 rfl)) (mvT hZ (own_w hw 191 rfl)) (notFace_of_selects (args := #[]) (mvT hZ (own_w hw 193 rfl))) (mvT hZ (own_w hw 193 rfl)) (mvT hZ (own_w hw 192 rfl)) (by decide) (backOf (W := 0) (own_rmEQ l Z a0 hw [] s0 q0 y0 x0 yq xq G1 T247.heap n0 (by omega) ((O0.keep K244 all0).keep K247 (allS (by omega) all0)) SC P1 (own_Sk PS0 (((Keep.refl _ _).trans K244 all0).trans K247 (allS (Or.inr (by omega)) all0))) (own_Sk SQ (((Keep.refl _ _).trans K244 all0).trans K247 (allS (Or.inr (by omega)) all0))) he0 heq) hZ (own_w hw 194 rfl) (own_w hw 2 rfl) (by decide) (by decide)) qa251 qc251 (g := (mkF m 40 #[.val (.ref a1), .val (.ref q0), .val (.ref we), .val (.ref a244), .val (.ref p0)] [(.ref q0), (.ref s0)])) rfl (by rw [hml]; rfl) (Steps.refl _) (argsL := [(.ref q0)]) (rest := []) (lenOf own_pd17 rfl) rfl (by show 2 * 0 + _ ≤ _; exact Nat.le_of_eq rfl) (hb hby own_d30_40) (fun _ _ => ⟨rfl, e249, Nat.le_of_ble_eq_true rfl, Nat.le_of_ble_eq_true rfl⟩)
  dsimp only [Pt.U, Pt.locs, Pt.cells, Pt.slots] at X251 l251 y251 z251 st251 hQ251
  subst l251 y251 z251
  obtain ⟨rfl, M251, e251⟩ := hQ251
  have N251 := Fr.app N249 M251
  refine own_go (fun _ k => st251.trans k) ?_
  show own_E p e below _ T251 (mkF m 43 #[.val (.ref a1), .val (.ref q0), .val (.ref we), .val (.ref a244), .val (.ref p0)] [(.int (own_seq y0 x0 yq xq))])
  suffices hj252 : ∀ (T252 : State) (L252 : List Loc) (h252 : Heap) (o252 : Addr), Stand p l e ({ frames := 3, cells := 3, slots := 6, locals := 60 } : Room) s m #[(.ref a1), (.ref q0)] below meth c T252 L252 2 5 → T252.heap = h252 → Fr n0 L252 → Keep T247.heap h252 [] → Exa Z h252 o252 "java/util/Optional" → Fld Z h252 o252 "java/util/Optional" "value" "Ljava/lang/Object;" (own_pick (own_seq y0 x0 yq xq) (.ref v0) .null) → own_E p e below (own_P s (own_QM Z (own_pick (own_seq y1 x1 yq xq) (.ref v1) (own_pick (own_seq y0 x0 yq xq) (.ref v0) .null)) h0 n0) ({ frames := 3, cells := 3, slots := 6, locals := 60 } : Room).cells ({ frames := 3, cells := 3, slots := 6, locals := 60 } : Room).slots) T252 (mkF m 14 #[.val (.ref a1), .val (.ref q0), .val (.ref o252), .val (.ref a244), .val (.ref p0)] []) from by
    by_cases hm : (own_seq y0 x0 yq xq) = 0
    · skip
      refine own_ifYes X251 hx (hb hby own_d30_43) (XT.i0_eq_t hm) 55 (by decide) (by decide) ?_
      show own_E p e below _ T251 (mkF m 55 #[.val (.ref a1), .val (.ref q0), .val (.ref we), .val (.ref a244), .val (.ref p0)] [])
      refine own_goto X251 hx (hb hby own_d30_55) 14 (by decide) (by decide) ?_
      show own_E p e below _ T251 (mkF m 14 #[.val (.ref a1), .val (.ref q0), .val (.ref we), .val (.ref a244), .val (.ref p0)] [])
      exact hj252 _ _ _ _ (X251.mono (by decide) (by decide)) e251 N251 (Keep.refl _ _) (EX.ext (((O0.keep K244 all0).keep K247 (allS (by omega) all0))).2) (by rw [own_pick, if_pos hm]; exact (FO244.keep K247 (ninS (by first | assumption | exact Ne.symm (by assumption) | exact own_ne (by omega)) nin0)))
    · skip
      refine own_ifNo X251 hx (hb hby own_d30_43) (XT.i0_eq_f hm) ?_
      show own_E p e below _ T251 (mkF m 46 #[.val (.ref a1), .val (.ref q0), .val (.ref we), .val (.ref a244), .val (.ref p0)] [])
      refine own_aload X251 hx (hb hby own_d30_46) rfl rfl ?_
      show own_E p e below _ T251 (mkF m 48 #[.val (.ref a1), .val (.ref q0), .val (.ref we), .val (.ref a244), .val (.ref p0)] [(.ref p0)])
      obtain ⟨cq253, kq253, qa253, qb253, qc253⟩ := isOf hZ e251 ((PX0.keep K244).keep K247)
      obtain ⟨_, _, ⟨T253, L253, k253, n253⟩, -, X253, ⟨Lc253, hQ253, l253, y253, z253⟩, st253⟩ := X251.virtualBack hx (y := (⟨"com/example/narrow_gate/narrowgate/Target$Parameter", "value", "()Ljava/lang/String;"⟩ : MethodName)) (z := (⟨"com/example/narrow_gate/narrowgate/Target$Parameter", "value", "()Ljava/lang/String;"⟩ : MethodName)) hown (mvT hZ (own_w hw 198 rfl)) (mvT hZ (own_w hw 199 rfl)) (notFace_of_selects (args := #[]) (mvT hZ (own_w hw 201 rfl))) (mvT hZ (own_w hw 201 rfl)) (mvT hZ (own_w hw 200 rfl)) (by decide) (backOf (W := 0) (own_rmVL l Z a0 hw [] p0 v0 T247.heap n0 (by omega) ((PV0.keep K244 nin0).keep K247 (ninS (by first | assumption | exact Ne.symm (by assumption) | exact own_ne (by omega)) nin0))) hZ (own_w hw 202 rfl) (own_w hw 28 rfl) (by decide) (by decide)) qa253 qc253 (g := (mkF m 48 #[.val (.ref a1), .val (.ref q0), .val (.ref we), .val (.ref a244), .val (.ref p0)] [(.ref p0)])) rfl (by rw [hml]; rfl) (Steps.refl _) (argsL := []) (rest := []) (lenOf own_pd16 rfl) rfl (by show 2 * 0 + _ ≤ _; exact Nat.le_of_eq rfl) (hb hby own_d30_48) (fun _ _ => ⟨rfl, e251, Nat.le_of_ble_eq_true rfl, Nat.le_of_ble_eq_true rfl⟩)
      dsimp only [Pt.U, Pt.locs, Pt.cells, Pt.slots] at X253 l253 y253 z253 st253 hQ253
      subst l253 y253 z253
      obtain ⟨rfl, M253, e253⟩ := hQ253
      have N253 := Fr.app N251 M253
      refine own_go (fun _ k => st253.trans k) ?_
      show own_E p e below _ T253 (mkF m 51 #[.val (.ref a1), .val (.ref q0), .val (.ref we), .val (.ref a244), .val (.ref p0)] [(.ref v0)])
      obtain ⟨_, _, ⟨T254, L254, k254, n254⟩, -, X254, ⟨Lc254, hQ254, l254, y254, z254⟩, st254⟩ := Jvm.LawKit.callS X253 hx (y := (⟨"java/util/Optional", "of", "(Ljava/lang/Object;)Ljava/util/Optional;"⟩ : MethodName)) hown (mvT hZ (own_w hw 203 rfl)) (mvT hZ (own_w hw 204 rfl)) (mvT hZ (own_w hw 86 rfl)) (mvT hZ (own_w hw 205 rfl)) (by decide) (backOf (W := 0) (own_rmON l Z a0 hw [] v0 T247.heap n0 (by omega)) hZ (own_w hw 205 rfl) (own_w hw 86 rfl) (by decide) (by decide)) (g := (mkF m 51 #[.val (.ref a1), .val (.ref q0), .val (.ref we), .val (.ref a244), .val (.ref p0)] [(.ref v0)])) rfl (by rw [hml]; rfl) (argsL := [(.ref v0)]) (rest := []) (lenOf own_pd18 rfl) rfl (by show 2 * 0 + _ ≤ _; exact Nat.le_of_eq rfl) (hb hby own_d30_51) (fun _ _ => ⟨rfl, e253, Nat.le_of_ble_eq_true rfl, Nat.le_of_ble_eq_true rfl⟩)
      dsimp only [Pt.U, Pt.locs, Pt.cells, Pt.slots] at X254 l254 y254 z254 st254 hQ254
      subst l254 y254 z254
      obtain ⟨a254, rfl, M254, K254, A254, F254⟩ := hQ254
      have N254 := Fr.app N253 M254
      refine own_go st254 ?_
      have z254 : T247.heap.size ≤ T254.heap.size := K254.1
      show own_E p e below _ T254 (mkF m 54 #[.val (.ref a1), .val (.ref q0), .val (.ref we), .val (.ref a244), .val (.ref p0)] [(.ref a254)])
      refine own_astoreN X254 hx (hb hby own_d30_54) rfl (l' := #[.val (.ref a1), .val (.ref q0), .val (.ref a254), .val (.ref a244), .val (.ref p0)]) rfl ?_
      show own_E p e below _ T254 (mkF m 55 #[.val (.ref a1), .val (.ref q0), .val (.ref a254), .val (.ref a244), .val (.ref p0)] [])
      refine own_goto X254 hx (hb hby own_d30_55) 14 (by decide) (by decide) ?_
      show own_E p e below _ T254 (mkF m 14 #[.val (.ref a1), .val (.ref q0), .val (.ref a254), .val (.ref a244), .val (.ref p0)] [])
      exact hj252 _ _ _ _ (X254.mono (by decide) (by decide)) (rfl : T254.heap = T254.heap) N254 K254 A254 (by rw [own_pick, if_neg hm]; exact F254)
  intro T252 L252 h252 o252 X252 e252 N252 K252 A252 F252
  have z252 : T247.heap.size ≤ h252.size := K252.1
  have lt255 := own_lt (A252).lt
  have no252 : o252 ≠ a244 := Jvm.RoadKit.ne_exa A252 ((A244.keep K247).keep K252) (by decide)
  show own_E p e below _ T252 (mkF m 14 #[.val (.ref a1), .val (.ref q0), .val (.ref o252), .val (.ref a244), .val (.ref p0)] [])
  refine own_aloadN X252 hx (hb hby own_d30_14) rfl rfl ?_
  show own_E p e below _ T252 (mkF m 15 #[.val (.ref a1), .val (.ref q0), .val (.ref o252), .val (.ref a244), .val (.ref p0)] [(.ref a244)])
  obtain ⟨cq256, kq256, qa256, qb256, qc256⟩ := isOf hZ e252 ((A244.keep K247).keep K252)
  obtain ⟨_, _, ⟨T256, L256, k256, n256⟩, -, X256, ⟨Lc256, hQ256, l256, y256, z256⟩, st256⟩ := X252.interfaceBack hx (xi := (⟨"java/util/Iterator", "hasNext", "()Z"⟩ : MethodName)) (y := (⟨"java/util/ArrayList$Itr", "hasNext", "()Z"⟩ : MethodName)) hown (mvT hZ (own_w hw 114 rfl)) (mvT hZ (own_w hw 115 rfl)) (mvT hZ (own_w hw 116 rfl)) (mvT hZ (own_w hw 117 rfl)) (mvT hZ (own_w hw 118 rfl)) (mvT hZ (own_w hw 119 rfl)) (mvT hZ (own_w hw 120 rfl)) (mvT hZ (own_w hw 121 rfl)) (by decide) (backOf (W := 0) (own_rmHN l Z a0 hw [] a244 al 1 2 h252 n0 (by omega) (F247.keep K252 nin0) (J247.keep K252 nin0) (((LZ.keep K244 nin0).keep K247 (ninS (by first | assumption | exact Ne.symm (by assumption) | exact own_ne (by omega)) nin0)).keep K252 nin0)) hZ (own_w hw 122 rfl) (own_w hw 100 rfl) (by decide) (by decide)) qa256 qb256 qc256 (g := (mkF m 15 #[.val (.ref a1), .val (.ref q0), .val (.ref o252), .val (.ref a244), .val (.ref p0)] [(.ref a244)])) rfl (by rw [hml]; rfl) (Steps.refl _) (argsL := []) (rest := []) (lenOf own_pd14 rfl) rfl (by show 2 * 0 + _ ≤ _; exact Nat.le_of_eq rfl) (hb hby own_d30_15) (fun _ _ => ⟨rfl, e252, Nat.le_of_ble_eq_true rfl, Nat.le_of_ble_eq_true rfl⟩)
  dsimp only [Pt.U, Pt.locs, Pt.cells, Pt.slots] at X256 l256 y256 z256 st256 hQ256
  subst l256 y256 z256
  obtain ⟨rfl, M256, e256⟩ := hQ256
  have N256 := Fr.app N252 M256
  refine own_go (fun _ k => st256.trans k) ?_
  show own_E p e below _ T256 (mkF m 20 #[.val (.ref a1), .val (.ref q0), .val (.ref o252), .val (.ref a244), .val (.ref p0)] [(.int (own_hn (1 : Int32) (2 : Int32)))])
  refine own_ifNo X256 hx (hb hby own_d30_20) (XT.i0_eq_f (by decide)) ?_
  show own_E p e below _ T256 (mkF m 23 #[.val (.ref a1), .val (.ref q0), .val (.ref o252), .val (.ref a244), .val (.ref p0)] [])
  refine own_aloadN X256 hx (hb hby own_d30_23) rfl rfl ?_
  show own_E p e below _ T256 (mkF m 24 #[.val (.ref a1), .val (.ref q0), .val (.ref o252), .val (.ref a244), .val (.ref p0)] [(.ref a244)])
  obtain ⟨cq257, kq257, qa257, qb257, qc257⟩ := isOf hZ e256 ((A244.keep K247).keep K252)
  obtain ⟨_, _, ⟨T257, L257, k257, n257⟩, -, X257, ⟨Lc257, hQ257, l257, y257, z257⟩, st257⟩ := X256.interfaceBack hx (xi := (⟨"java/util/Iterator", "next", "()Ljava/lang/Object;"⟩ : MethodName)) (y := (⟨"java/util/ArrayList$Itr", "next", "()Ljava/lang/Object;"⟩ : MethodName)) hown (mvT hZ (own_w hw 169 rfl)) (mvT hZ (own_w hw 170 rfl)) (mvT hZ (own_w hw 171 rfl)) (mvT hZ (own_w hw 172 rfl)) (mvT hZ (own_w hw 173 rfl)) (mvT hZ (own_w hw 174 rfl)) (mvT hZ (own_w hw 175 rfl)) (mvT hZ (own_w hw 121 rfl)) (by decide) (backOf (W := 0) (own_rmNX l Z a0 hw [] a244 al d p1 kd [.ref p0, .ref p1] 1 2 2 2 (0 : Int32) h252 n0 (by omega) (F247.keep K252 nin0) (G247.keep K252 nin0) (J247.keep K252 nin0) (R247.keep K252 nin0) ((A244.keep K247).keep K252) (((LD.keep K244 nin0).keep K247 (ninS (by first | assumption | exact Ne.symm (by assumption) | exact own_ne (by omega)) nin0)).keep K252 nin0) (((LZ.keep K244 nin0).keep K247 (ninS (by first | assumption | exact Ne.symm (by assumption) | exact own_ne (by omega)) nin0)).keep K252 nin0) (((LM.keep K244 nin0).keep K247 (ninS (by first | assumption | exact Ne.symm (by assumption) | exact own_ne (by omega)) nin0)).keep K252 nin0) (((LV.keep K244 nin0).keep K247 (ninS (by first | assumption | exact Ne.symm (by assumption) | exact own_ne (by omega)) nin0)).keep K252 nin0) (by decide) (by decide) (by decide) (by decide) rfl (by omega) (own_ne (by omega)) (own_ne (by omega))) hZ (own_w hw 176 rfl) (own_w hw 100 rfl) (by decide) (by decide)) qa257 qb257 qc257 (g := (mkF m 24 #[.val (.ref a1), .val (.ref q0), .val (.ref o252), .val (.ref a244), .val (.ref p0)] [(.ref a244)])) rfl (by rw [hml]; rfl) (Steps.refl _) (argsL := []) (rest := []) (lenOf own_pd15 rfl) rfl (by show 2 * 0 + _ ≤ _; exact Nat.le_of_eq rfl) (hb hby own_d30_24) (fun _ _ => ⟨rfl, e256, Nat.le_of_ble_eq_true rfl, Nat.le_of_ble_eq_true rfl⟩)
  dsimp only [Pt.U, Pt.locs, Pt.cells, Pt.slots] at X257 l257 y257 z257 st257 hQ257
  subst l257 y257 z257
  obtain ⟨rfl, M257, K257, F257, G257, J257, R257⟩ := hQ257
  have N257 := Fr.app N256 M257
  refine own_go (fun _ k => st257.trans k) ?_
  have z257 : h252.size ≤ T257.heap.size := K257.1
  show own_E p e below _ T257 (mkF m 29 #[.val (.ref a1), .val (.ref q0), .val (.ref o252), .val (.ref a244), .val (.ref p0)] [(.ref p1)])
  obtain ⟨T258, X258, e258, st258⟩ := castY X257 hx hZ hown (own_w hw 183 rfl) (rfl : T257.heap = T257.heap) (Ins.self ((((PX1.keep K244).keep K247).keep K252).keep K257)) (g := (mkF m 29 #[.val (.ref a1), .val (.ref q0), .val (.ref o252), .val (.ref a244), .val (.ref p0)] [(.ref p1)])) rfl rfl (hb hby own_d30_29)
  refine own_go st258 ?_
  show own_E p e below _ T258 (mkF m 32 #[.val (.ref a1), .val (.ref q0), .val (.ref o252), .val (.ref a244), .val (.ref p0)] [(.ref p1)])
  refine own_astore X258 hx (hb hby own_d30_32) rfl (l' := #[.val (.ref a1), .val (.ref q0), .val (.ref o252), .val (.ref a244), .val (.ref p1)]) rfl ?_
  show own_E p e below _ T258 (mkF m 34 #[.val (.ref a1), .val (.ref q0), .val (.ref o252), .val (.ref a244), .val (.ref p1)] [])
  refine own_aload X258 hx (hb hby own_d30_34) rfl rfl ?_
  show own_E p e below _ T258 (mkF m 36 #[.val (.ref a1), .val (.ref q0), .val (.ref o252), .val (.ref a244), .val (.ref p1)] [(.ref p1)])
  obtain ⟨cq259, kq259, qa259, qb259, qc259⟩ := isOf hZ e258 ((((PX1.keep K244).keep K247).keep K252).keep K257)
  obtain ⟨_, _, ⟨T259, L259, k259, n259⟩, -, X259, ⟨Lc259, hQ259, l259, y259, z259⟩, st259⟩ := X258.virtualBack hx (y := (⟨"com/example/narrow_gate/narrowgate/Target$Parameter", "name", "()Ljava/lang/String;"⟩ : MethodName)) (z := (⟨"com/example/narrow_gate/narrowgate/Target$Parameter", "name", "()Ljava/lang/String;"⟩ : MethodName)) hown (mvT hZ (own_w hw 185 rfl)) (mvT hZ (own_w hw 186 rfl)) (notFace_of_selects (args := #[]) (mvT hZ (own_w hw 188 rfl))) (mvT hZ (own_w hw 188 rfl)) (mvT hZ (own_w hw 187 rfl)) (by decide) (backOf (W := 0) (own_rmNM l Z a0 hw [] p1 s1 T257.heap n0 (by omega) ((((PN1.keep K244 nin0).keep K247 (ninS (by first | assumption | exact Ne.symm (by assumption) | exact own_ne (by omega)) nin0)).keep K252 nin0).keep K257 (ninS (by first | assumption | exact Ne.symm (by assumption) | exact own_ne (by omega)) nin0))) hZ (own_w hw 189 rfl) (own_w hw 28 rfl) (by decide) (by decide)) qa259 qc259 (g := (mkF m 36 #[.val (.ref a1), .val (.ref q0), .val (.ref o252), .val (.ref a244), .val (.ref p1)] [(.ref p1)])) rfl (by rw [hml]; rfl) (Steps.refl _) (argsL := []) (rest := []) (lenOf own_pd16 rfl) rfl (by show 2 * 0 + _ ≤ _; exact Nat.le_of_eq rfl) (hb hby own_d30_36) (fun _ _ => ⟨rfl, e258, Nat.le_of_ble_eq_true rfl, Nat.le_of_ble_eq_true rfl⟩)
  dsimp only [Pt.U, Pt.locs, Pt.cells, Pt.slots] at X259 l259 y259 z259 st259 hQ259
  subst l259 y259 z259
  obtain ⟨rfl, M259, e259⟩ := hQ259
  have N259 := Fr.app N257 M259
  refine own_go (fun _ k => st259.trans k) ?_
  show own_E p e below _ T259 (mkF m 39 #[.val (.ref a1), .val (.ref q0), .val (.ref o252), .val (.ref a244), .val (.ref p1)] [(.ref s1)])
  have lt260 := own_lt ((own_Sx (own_Sk PS1 (((((Keep.refl _ _).trans K244 all0).trans K247 (allS (Or.inr (by omega)) all0)).trans K252 all0).trans K257 (allS (Or.inr (by omega)) all0))))).lt
  refine own_aloadN X259 hx (hb hby own_d30_39) rfl rfl ?_
  show own_E p e below _ T259 (mkF m 40 #[.val (.ref a1), .val (.ref q0), .val (.ref o252), .val (.ref a244), .val (.ref p1)] [(.ref q0), (.ref s1)])
  obtain ⟨cq261, kq261, qa261, qb261, qc261⟩ := isOf hZ e259 (own_Sx (own_Sk PS1 (((((Keep.refl _ _).trans K244 all0).trans K247 (allS (Or.inr (by omega)) all0)).trans K252 all0).trans K257 (allS (Or.inr (by omega)) all0))))
  obtain ⟨_, _, ⟨T261, L261, k261, n261⟩, -, X261, ⟨Lc261, hQ261, l261, y261, z261⟩, st261⟩ := X259.virtualBack hx (y := (⟨"java/lang/String", "equals", "(Ljava/lang/Object;)Z"⟩ : MethodName)) (z := (⟨"java/lang/String", "equals", "(Ljava/lang/Object;)Z"⟩ : MethodName)) hown (mvT hZ (own_w hw 190 rfl)) (mvT hZ (own_w hw 191 rfl)) (notFace_of_selects (args := #[]) (mvT hZ (own_w hw 193 rfl))) (mvT hZ (own_w hw 193 rfl)) (mvT hZ (own_w hw 192 rfl)) (by decide) (backOf (W := 0) (own_rmEQ l Z a0 hw [] s1 q0 y1 x1 yq xq G1 T257.heap n0 (by omega) ((((O0.keep K244 all0).keep K247 (allS (by omega) all0)).keep K252 all0).keep K257 (allS (by omega) all0)) SC P1 (own_Sk PS1 (((((Keep.refl _ _).trans K244 all0).trans K247 (allS (Or.inr (by omega)) all0)).trans K252 all0).trans K257 (allS (Or.inr (by omega)) all0))) (own_Sk SQ (((((Keep.refl _ _).trans K244 all0).trans K247 (allS (Or.inr (by omega)) all0)).trans K252 all0).trans K257 (allS (Or.inr (by omega)) all0))) he1 heq) hZ (own_w hw 194 rfl) (own_w hw 2 rfl) (by decide) (by decide)) qa261 qc261 (g := (mkF m 40 #[.val (.ref a1), .val (.ref q0), .val (.ref o252), .val (.ref a244), .val (.ref p1)] [(.ref q0), (.ref s1)])) rfl (by rw [hml]; rfl) (Steps.refl _) (argsL := [(.ref q0)]) (rest := []) (lenOf own_pd17 rfl) rfl (by show 2 * 0 + _ ≤ _; exact Nat.le_of_eq rfl) (hb hby own_d30_40) (fun _ _ => ⟨rfl, e259, Nat.le_of_ble_eq_true rfl, Nat.le_of_ble_eq_true rfl⟩)
  dsimp only [Pt.U, Pt.locs, Pt.cells, Pt.slots] at X261 l261 y261 z261 st261 hQ261
  subst l261 y261 z261
  obtain ⟨rfl, M261, e261⟩ := hQ261
  have N261 := Fr.app N259 M261
  refine own_go (fun _ k => st261.trans k) ?_
  show own_E p e below _ T261 (mkF m 43 #[.val (.ref a1), .val (.ref q0), .val (.ref o252), .val (.ref a244), .val (.ref p1)] [(.int (own_seq y1 x1 yq xq))])
  suffices hj262 : ∀ (T262 : State) (L262 : List Loc) (h262 : Heap) (o262 : Addr), Stand p l e ({ frames := 3, cells := 3, slots := 6, locals := 60 } : Room) s m #[(.ref a1), (.ref q0)] below meth c T262 L262 3 6 → T262.heap = h262 → Fr n0 L262 → Keep T257.heap h262 [] → Exa Z h262 o262 "java/util/Optional" → Fld Z h262 o262 "java/util/Optional" "value" "Ljava/lang/Object;" (own_pick (own_seq y1 x1 yq xq) (.ref v1) (own_pick (own_seq y0 x0 yq xq) (.ref v0) .null)) → own_E p e below (own_P s (own_QM Z (own_pick (own_seq y1 x1 yq xq) (.ref v1) (own_pick (own_seq y0 x0 yq xq) (.ref v0) .null)) h0 n0) ({ frames := 3, cells := 3, slots := 6, locals := 60 } : Room).cells ({ frames := 3, cells := 3, slots := 6, locals := 60 } : Room).slots) T262 (mkF m 14 #[.val (.ref a1), .val (.ref q0), .val (.ref o262), .val (.ref a244), .val (.ref p1)] []) from by
    by_cases hm : (own_seq y1 x1 yq xq) = 0
    · skip
      refine own_ifYes X261 hx (hb hby own_d30_43) (XT.i0_eq_t hm) 55 (by decide) (by decide) ?_
      show own_E p e below _ T261 (mkF m 55 #[.val (.ref a1), .val (.ref q0), .val (.ref o252), .val (.ref a244), .val (.ref p1)] [])
      refine own_goto X261 hx (hb hby own_d30_55) 14 (by decide) (by decide) ?_
      show own_E p e below _ T261 (mkF m 14 #[.val (.ref a1), .val (.ref q0), .val (.ref o252), .val (.ref a244), .val (.ref p1)] [])
      exact hj262 _ _ _ _ (X261.mono (by decide) (by decide)) e261 N261 (Keep.refl _ _) (A252.keep K257) (by rw [own_pick, if_pos hm]; exact (F252.keep K257 (ninS (by first | assumption | exact Ne.symm (by assumption) | exact own_ne (by omega)) nin0)))
    · skip
      refine own_ifNo X261 hx (hb hby own_d30_43) (XT.i0_eq_f hm) ?_
      show own_E p e below _ T261 (mkF m 46 #[.val (.ref a1), .val (.ref q0), .val (.ref o252), .val (.ref a244), .val (.ref p1)] [])
      refine own_aload X261 hx (hb hby own_d30_46) rfl rfl ?_
      show own_E p e below _ T261 (mkF m 48 #[.val (.ref a1), .val (.ref q0), .val (.ref o252), .val (.ref a244), .val (.ref p1)] [(.ref p1)])
      obtain ⟨cq263, kq263, qa263, qb263, qc263⟩ := isOf hZ e261 ((((PX1.keep K244).keep K247).keep K252).keep K257)
      obtain ⟨_, _, ⟨T263, L263, k263, n263⟩, -, X263, ⟨Lc263, hQ263, l263, y263, z263⟩, st263⟩ := X261.virtualBack hx (y := (⟨"com/example/narrow_gate/narrowgate/Target$Parameter", "value", "()Ljava/lang/String;"⟩ : MethodName)) (z := (⟨"com/example/narrow_gate/narrowgate/Target$Parameter", "value", "()Ljava/lang/String;"⟩ : MethodName)) hown (mvT hZ (own_w hw 198 rfl)) (mvT hZ (own_w hw 199 rfl)) (notFace_of_selects (args := #[]) (mvT hZ (own_w hw 201 rfl))) (mvT hZ (own_w hw 201 rfl)) (mvT hZ (own_w hw 200 rfl)) (by decide) (backOf (W := 0) (own_rmVL l Z a0 hw [] p1 v1 T257.heap n0 (by omega) ((((PV1.keep K244 nin0).keep K247 (ninS (by first | assumption | exact Ne.symm (by assumption) | exact own_ne (by omega)) nin0)).keep K252 nin0).keep K257 (ninS (by first | assumption | exact Ne.symm (by assumption) | exact own_ne (by omega)) nin0))) hZ (own_w hw 202 rfl) (own_w hw 28 rfl) (by decide) (by decide)) qa263 qc263 (g := (mkF m 48 #[.val (.ref a1), .val (.ref q0), .val (.ref o252), .val (.ref a244), .val (.ref p1)] [(.ref p1)])) rfl (by rw [hml]; rfl) (Steps.refl _) (argsL := []) (rest := []) (lenOf own_pd16 rfl) rfl (by show 2 * 0 + _ ≤ _; exact Nat.le_of_eq rfl) (hb hby own_d30_48) (fun _ _ => ⟨rfl, e261, Nat.le_of_ble_eq_true rfl, Nat.le_of_ble_eq_true rfl⟩)
      dsimp only [Pt.U, Pt.locs, Pt.cells, Pt.slots] at X263 l263 y263 z263 st263 hQ263
      subst l263 y263 z263
      obtain ⟨rfl, M263, e263⟩ := hQ263
      have N263 := Fr.app N261 M263
      refine own_go (fun _ k => st263.trans k) ?_
      show own_E p e below _ T263 (mkF m 51 #[.val (.ref a1), .val (.ref q0), .val (.ref o252), .val (.ref a244), .val (.ref p1)] [(.ref v1)])
      obtain ⟨_, _, ⟨T264, L264, k264, n264⟩, -, X264, ⟨Lc264, hQ264, l264, y264, z264⟩, st264⟩ := Jvm.LawKit.callS X263 hx (y := (⟨"java/util/Optional", "of", "(Ljava/lang/Object;)Ljava/util/Optional;"⟩ : MethodName)) hown (mvT hZ (own_w hw 203 rfl)) (mvT hZ (own_w hw 204 rfl)) (mvT hZ (own_w hw 86 rfl)) (mvT hZ (own_w hw 205 rfl)) (by decide) (backOf (W := 0) (own_rmON l Z a0 hw [] v1 T257.heap n0 (by omega)) hZ (own_w hw 205 rfl) (own_w hw 86 rfl) (by decide) (by decide)) (g := (mkF m 51 #[.val (.ref a1), .val (.ref q0), .val (.ref o252), .val (.ref a244), .val (.ref p1)] [(.ref v1)])) rfl (by rw [hml]; rfl) (argsL := [(.ref v1)]) (rest := []) (lenOf own_pd18 rfl) rfl (by show 2 * 0 + _ ≤ _; exact Nat.le_of_eq rfl) (hb hby own_d30_51) (fun _ _ => ⟨rfl, e263, Nat.le_of_ble_eq_true rfl, Nat.le_of_ble_eq_true rfl⟩)
      dsimp only [Pt.U, Pt.locs, Pt.cells, Pt.slots] at X264 l264 y264 z264 st264 hQ264
      subst l264 y264 z264
      obtain ⟨a264, rfl, M264, K264, A264, F264⟩ := hQ264
      have N264 := Fr.app N263 M264
      refine own_go st264 ?_
      have z264 : T257.heap.size ≤ T264.heap.size := K264.1
      show own_E p e below _ T264 (mkF m 54 #[.val (.ref a1), .val (.ref q0), .val (.ref o252), .val (.ref a244), .val (.ref p1)] [(.ref a264)])
      refine own_astoreN X264 hx (hb hby own_d30_54) rfl (l' := #[.val (.ref a1), .val (.ref q0), .val (.ref a264), .val (.ref a244), .val (.ref p1)]) rfl ?_
      show own_E p e below _ T264 (mkF m 55 #[.val (.ref a1), .val (.ref q0), .val (.ref a264), .val (.ref a244), .val (.ref p1)] [])
      refine own_goto X264 hx (hb hby own_d30_55) 14 (by decide) (by decide) ?_
      show own_E p e below _ T264 (mkF m 14 #[.val (.ref a1), .val (.ref q0), .val (.ref a264), .val (.ref a244), .val (.ref p1)] [])
      exact hj262 _ _ _ _ (X264.mono (by decide) (by decide)) (rfl : T264.heap = T264.heap) N264 K264 A264 (by rw [own_pick, if_neg hm]; exact F264)
  intro T262 L262 h262 o262 X262 e262 N262 K262 A262 F262
  have z262 : T257.heap.size ≤ h262.size := K262.1
  have lt265 := own_lt (A262).lt
  have no262 : o262 ≠ a244 := Jvm.RoadKit.ne_exa A262 ((((A244.keep K247).keep K252).keep K257).keep K262) (by decide)
  show own_E p e below _ T262 (mkF m 14 #[.val (.ref a1), .val (.ref q0), .val (.ref o262), .val (.ref a244), .val (.ref p1)] [])
  refine own_aloadN X262 hx (hb hby own_d30_14) rfl rfl ?_
  show own_E p e below _ T262 (mkF m 15 #[.val (.ref a1), .val (.ref q0), .val (.ref o262), .val (.ref a244), .val (.ref p1)] [(.ref a244)])
  obtain ⟨cq266, kq266, qa266, qb266, qc266⟩ := isOf hZ e262 ((((A244.keep K247).keep K252).keep K257).keep K262)
  obtain ⟨_, _, ⟨T266, L266, k266, n266⟩, -, X266, ⟨Lc266, hQ266, l266, y266, z266⟩, st266⟩ := X262.interfaceBack hx (xi := (⟨"java/util/Iterator", "hasNext", "()Z"⟩ : MethodName)) (y := (⟨"java/util/ArrayList$Itr", "hasNext", "()Z"⟩ : MethodName)) hown (mvT hZ (own_w hw 114 rfl)) (mvT hZ (own_w hw 115 rfl)) (mvT hZ (own_w hw 116 rfl)) (mvT hZ (own_w hw 117 rfl)) (mvT hZ (own_w hw 118 rfl)) (mvT hZ (own_w hw 119 rfl)) (mvT hZ (own_w hw 120 rfl)) (mvT hZ (own_w hw 121 rfl)) (by decide) (backOf (W := 0) (own_rmHN l Z a0 hw [] a244 al 2 2 h262 n0 (by omega) (F257.keep K262 nin0) (J257.keep K262 nin0) (((((LZ.keep K244 nin0).keep K247 (ninS (by first | assumption | exact Ne.symm (by assumption) | exact own_ne (by omega)) nin0)).keep K252 nin0).keep K257 (ninS (by first | assumption | exact Ne.symm (by assumption) | exact own_ne (by omega)) nin0)).keep K262 nin0)) hZ (own_w hw 122 rfl) (own_w hw 100 rfl) (by decide) (by decide)) qa266 qb266 qc266 (g := (mkF m 15 #[.val (.ref a1), .val (.ref q0), .val (.ref o262), .val (.ref a244), .val (.ref p1)] [(.ref a244)])) rfl (by rw [hml]; rfl) (Steps.refl _) (argsL := []) (rest := []) (lenOf own_pd14 rfl) rfl (by show 2 * 0 + _ ≤ _; exact Nat.le_of_eq rfl) (hb hby own_d30_15) (fun _ _ => ⟨rfl, e262, Nat.le_of_ble_eq_true rfl, Nat.le_of_ble_eq_true rfl⟩)
  dsimp only [Pt.U, Pt.locs, Pt.cells, Pt.slots] at X266 l266 y266 z266 st266 hQ266
  subst l266 y266 z266
  obtain ⟨rfl, M266, e266⟩ := hQ266
  have N266 := Fr.app N262 M266
  refine own_go (fun _ k => st266.trans k) ?_
  show own_E p e below _ T266 (mkF m 20 #[.val (.ref a1), .val (.ref q0), .val (.ref o262), .val (.ref a244), .val (.ref p1)] [(.int (own_hn (2 : Int32) (2 : Int32)))])
  refine own_ifYes X266 hx (hb hby own_d30_20) (XT.i0_eq_t (by decide)) 58 (by decide) (by decide) ?_
  show own_E p e below _ T266 (mkF m 58 #[.val (.ref a1), .val (.ref q0), .val (.ref o262), .val (.ref a244), .val (.ref p1)] [])
  refine own_aloadN X266 hx (hb hby own_d30_58) rfl rfl ?_
  show own_E p e below _ T266 (mkF m 59 #[.val (.ref a1), .val (.ref q0), .val (.ref o262), .val (.ref a244), .val (.ref p1)] [(.ref o262)])
  refine own_retA X266 hx Bd.returns rfl rfl hlk (hb hby own_d30_59) (by decide) (by decide) ?_
  rw [e266]
  exact ⟨_, rfl, N266, ((((((Keep.refl _ _).trans K244 all0).trans K247 (allS (Or.inr (by omega)) all0)).trans K252 all0).trans K257 (allS (Or.inr (by omega)) all0)).trans K262 all0), A262, F262⟩

theorem own_ef42 (m : MethodId) (x0 : Addr) (x1 : Addr) : entryFrame m #[(.ref x0), (.ref x1)] 5 = mkF m 0 #[.val (.ref x0), .val (.ref x1), .unset, .unset, .unset] [] := by first | (simp [entryFrame, mkF, argsToLocals, Value.category]; done) | rfl
set_option maxRecDepth 65536 in
set_option maxHeartbeats 40000000 in
theorem own_rmM3 (l : Launch) (Z : State) (a0 : Array Value) (hw : ∀ d ∈ tables_1, d.before a0 Z = true) (ws : List Jvm.Cond) (a1 q0 al d we p0 s0 v0 p1 s1 v1 p2 s2 v2 : Addr) (kd : ClassId) (yq xq G1 y0 x0 y1 x1 y2 x2 : Int32) (h0 : Heap) (n0 : Nat) (Z0 : n0 ≤ h0.size) (O0 : Old Z n0 h0) (SC : Sta Z Z.heap "java/lang/String" "COMPACT_STRINGS" "Z" (.int G1)) (P1 : ¬ G1 = 0) (SE : Sta Z Z.heap "java/util/Optional" "EMPTY" "Ljava/util/Optional;" (.ref we)) (EX : Exa Z Z.heap we "java/util/Optional") (EF : Fld Z Z.heap we "java/util/Optional" "value" "Ljava/lang/Object;" .null) (TF : Fld Z h0 a1 "com/example/narrow_gate/narrowgate/Target" "parameters" "Ljava/util/List;" (.ref al)) (LD : Fld Z h0 al "java/util/ArrayList" "elementData" "[Ljava/lang/Object;" (.ref d)) (LZ : Fld Z h0 al "java/util/ArrayList" "size" "I" (.int (3 : Int32))) (LM : Fld Z h0 al "java/util/AbstractList" "modCount" "I" (.int (3 : Int32))) (LX : Exa Z h0 al "java/util/ArrayList") (LV : Arv Z h0 d kd (.object "java/lang/Object") (10 : Int32) [.ref p0, .ref p1, .ref p2] .null) (SQ : own_S Z h0 q0 yq xq) (heq : yq = 0 ∨ yq = 1) (PX0 : Exa Z h0 p0 "com/example/narrow_gate/narrowgate/Target$Parameter") (PN0 : Fld Z h0 p0 "com/example/narrow_gate/narrowgate/Target$Parameter" "name" "Ljava/lang/String;" (.ref s0)) (PV0 : Fld Z h0 p0 "com/example/narrow_gate/narrowgate/Target$Parameter" "value" "Ljava/lang/String;" (.ref v0)) (PS0 : own_S Z h0 s0 y0 x0) (he0 : y0 = 0 ∨ y0 = 1) (PX1 : Exa Z h0 p1 "com/example/narrow_gate/narrowgate/Target$Parameter") (PN1 : Fld Z h0 p1 "com/example/narrow_gate/narrowgate/Target$Parameter" "name" "Ljava/lang/String;" (.ref s1)) (PV1 : Fld Z h0 p1 "com/example/narrow_gate/narrowgate/Target$Parameter" "value" "Ljava/lang/String;" (.ref v1)) (PS1 : own_S Z h0 s1 y1 x1) (he1 : y1 = 0 ∨ y1 = 1) (PX2 : Exa Z h0 p2 "com/example/narrow_gate/narrowgate/Target$Parameter") (PN2 : Fld Z h0 p2 "com/example/narrow_gate/narrowgate/Target$Parameter" "name" "Ljava/lang/String;" (.ref s2)) (PV2 : Fld Z h0 p2 "com/example/narrow_gate/narrowgate/Target$Parameter" "value" "Ljava/lang/String;" (.ref v2)) (PS2 : own_S Z h0 s2 y2 x2) (he2 : y2 = 0 ∨ y2 = 1) :
    MetFree l (⟨"com/example/narrow_gate/narrowgate/Target", "parameter", "(Ljava/lang/String;)Ljava/util/Optional;"⟩ : MethodName) (head1 (Jvm.Cond.code (⟨"com/example/narrow_gate/narrowgate/Target", "parameter", "(Ljava/lang/String;)Ljava/util/Optional;"⟩ : MethodName) prog_5_method_3_code 5 (some (.object "java/util/Optional")) :: ws) ({ frames := 3, cells := 4, slots := 7, locals := 60 } : Room)) (fun a U => a = #[(.ref a1), (.ref q0)] ∧ Z.Warmed39 U.vm ∧ U.heap = h0) (fun _ _ _ _ _ => True) (fun _ U o U' => ∃ v L, o = .returned v ∧ own_QM Z (own_pick (own_seq y2 x2 yq xq) (.ref v2) (own_pick (own_seq y1 x1 yq xq) (.ref v1) (own_pick (own_seq y0 x0 yq xq) (.ref v0) .null))) h0 n0 v U'.heap L ∧ FrameEnd U o U' L ({ frames := 3, cells := 4, slots := 7, locals := 60 } : Room).cells ({ frames := 3, cells := 4, slots := 7, locals := 60 } : Room).slots) := by
  refine MetFree.of_bodySF (plainFor_of_name own_pn7) hisR ?_
  intro p e s m args below meth c s₁ Bd hml0 hP hK
  obtain ⟨rfl, hZ, hh⟩ := hP
  have hx := Bd.exec
  have hby := Bd.bytes
  have hlk : meth.locks = false := Bd.notSynchronized
  have hml : c.maxLocals = 5 := hml0
  have hown : s.vm.findClass "com/example/narrow_gate/narrowgate/Target" = some m.cls := findClass_of_methodNamed Bd.named
  have hnm := (name_of_methodNamed Bd.named Bd.method).1
  have X0 : Stand p l e ({ frames := 3, cells := 4, slots := 7, locals := 60 } : Room) s m #[(.ref a1), (.ref q0)] below meth c s₁ [] 0 0 := Stand.of_body Bd
  have e0 : s₁.heap = h0 := by rw [← hh, Bd.state]; rfl
  have N0 := Fr.nil n0
  show own_E p e below (own_P s (own_QM Z (own_pick (own_seq y2 x2 yq xq) (.ref v2) (own_pick (own_seq y1 x1 yq xq) (.ref v1) (own_pick (own_seq y0 x0 yq xq) (.ref v0) .null))) h0 n0) ({ frames := 3, cells := 4, slots := 7, locals := 60 } : Room).cells ({ frames := 3, cells := 4, slots := 7, locals := 60 } : Room).slots) s₁ (entryFrame m #[(.ref a1), (.ref q0)] 5)
  refine own_cast (own_ef42 m a1 q0) ?_
  have od267 := (O0).1
  have lt268 := own_lt (EX).lt
  have lt269 := own_lt (TF).lt
  have lt270 := own_lt (LD).lt
  have lt271 := own_lt (LX).lt
  have lt272 := own_lt (LV).lt
  have lt273 := own_lt (PX0).lt
  have lt274 := own_lt (PX1).lt
  have lt275 := own_lt (PX2).lt
  show own_E p e below _ s₁ (mkF m 0 #[.val (.ref a1), .val (.ref q0), .unset, .unset, .unset] [])
  obtain ⟨_, _, ⟨T276, L276, k276, n276⟩, -, X276, ⟨Lc276, hQ276, l276, y276, z276⟩, st276⟩ := Jvm.LawKit.callS X0 hx (y := (⟨"java/util/Optional", "empty", "()Ljava/util/Optional;"⟩ : MethodName)) hown (mvT hZ (own_w hw 84 rfl)) (mvT hZ (own_w hw 85 rfl)) (mvT hZ (own_w hw 86 rfl)) (mvT hZ (own_w hw 87 rfl)) (by decide) (backOf (W := 0) (own_rmOE l Z a0 hw [] we h0 n0 (by omega) O0 SE) hZ (own_w hw 87 rfl) (own_w hw 86 rfl) (by decide) (by decide)) (g := (mkF m 0 #[.val (.ref a1), .val (.ref q0), .unset, .unset, .unset] [])) rfl (by rw [hml]; rfl) (argsL := []) (rest := []) (lenOf own_pd12 rfl) rfl (by show 2 * 0 + _ ≤ _; exact Nat.le_of_eq rfl) (hb hby own_d30_0) (fun _ _ => ⟨rfl, e0, Nat.le_of_ble_eq_true rfl, Nat.le_of_ble_eq_true rfl⟩)
  dsimp only [Pt.U, Pt.locs, Pt.cells, Pt.slots] at X276 l276 y276 z276 st276 hQ276
  subst l276 y276 z276
  obtain ⟨rfl, M276, e276⟩ := hQ276
  have N276 := Fr.app N0 M276
  refine own_go st276 ?_
  show own_E p e below _ T276 (mkF m 3 #[.val (.ref a1), .val (.ref q0), .unset, .unset, .unset] [(.ref we)])
  refine own_astoreN X276 hx (hb hby own_d30_3) rfl (l' := #[.val (.ref a1), .val (.ref q0), .val (.ref we), .unset, .unset]) rfl ?_
  show own_E p e below _ T276 (mkF m 4 #[.val (.ref a1), .val (.ref q0), .val (.ref we), .unset, .unset] [])
  refine own_aloadN X276 hx (hb hby own_d30_4) rfl rfl ?_
  show own_E p e below _ T276 (mkF m 5 #[.val (.ref a1), .val (.ref q0), .val (.ref we), .unset, .unset] [(.ref a1)])
  obtain ⟨T277, X277, e277, st277⟩ := getF X276 hx hZ hown (host := "") (Or.inl (own_w hw 77 rfl)) Via.refl e276 TF (g := (mkF m 5 #[.val (.ref a1), .val (.ref q0), .val (.ref we), .unset, .unset] [(.ref a1)])) rfl rfl (hb hby own_d30_5)
  refine own_go st277 ?_
  show own_E p e below _ T277 (mkF m 8 #[.val (.ref a1), .val (.ref q0), .val (.ref we), .unset, .unset] [(.ref al)])
  obtain ⟨cq278, kq278, qa278, qb278, qc278⟩ := isOf hZ e277 LX
  obtain ⟨_, _, ⟨T278, L278, k278, n278⟩, -, X278, ⟨Lc278, hQ278, l278, y278, z278⟩, st278⟩ := X277.interfaceBack hx (xi := (⟨"java/util/List", "iterator", "()Ljava/util/Iterator;"⟩ : MethodName)) (y := (⟨"java/util/ArrayList", "iterator", "()Ljava/util/Iterator;"⟩ : MethodName)) hown (mvT hZ (own_w hw 89 rfl)) (mvT hZ (own_w hw 90 rfl)) (mvT hZ (own_w hw 91 rfl)) (mvT hZ (own_w hw 92 rfl)) (mvT hZ (own_w hw 93 rfl)) (mvT hZ (own_w hw 94 rfl)) (mvT hZ (own_w hw 95 rfl)) (mvT hZ (own_w hw 96 rfl)) (by decide) (backOf (W := 0) (own_rmIR l Z a0 hw [] al 3 h0 n0 (by omega) LM LX) hZ (own_w hw 97 rfl) (own_w hw 46 rfl) (by decide) (by decide)) qa278 qb278 qc278 (g := (mkF m 8 #[.val (.ref a1), .val (.ref q0), .val (.ref we), .unset, .unset] [(.ref al)])) rfl (by rw [hml]; rfl) (Steps.refl _) (argsL := []) (rest := []) (lenOf own_pd13 rfl) rfl (by show 2 * 0 + _ ≤ _; exact Nat.le_of_eq rfl) (hb hby own_d30_8) (fun _ _ => ⟨rfl, e277, Nat.le_of_ble_eq_true rfl, Nat.le_of_ble_eq_true rfl⟩)
  dsimp only [Pt.U, Pt.locs, Pt.cells, Pt.slots] at X278 l278 y278 z278 st278 hQ278
  subst l278 y278 z278
  obtain ⟨a278, rfl, M278, K278, gi278, A278, F278, G278, J278, R278⟩ := hQ278
  have N278 := Fr.app N276 M278
  refine own_go (fun _ k => st278.trans k) ?_
  have z278 : h0.size ≤ T278.heap.size := K278.1
  show own_E p e below _ T278 (mkF m 13 #[.val (.ref a1), .val (.ref q0), .val (.ref we), .unset, .unset] [(.ref a278)])
  have lt279 := own_lt (A278).lt
  have FO278 : Fld Z T278.heap we "java/util/Optional" "value" "Ljava/lang/Object;" .null := (EF.ext ((O0.keep K278 all0)).2)
  refine own_astoreN X278 hx (hb hby own_d30_13) rfl (l' := #[.val (.ref a1), .val (.ref q0), .val (.ref we), .val (.ref a278), .unset]) rfl ?_
  show own_E p e below _ T278 (mkF m 14 #[.val (.ref a1), .val (.ref q0), .val (.ref we), .val (.ref a278), .unset] [])
  refine own_aloadN X278 hx (hb hby own_d30_14) rfl rfl ?_
  show own_E p e below _ T278 (mkF m 15 #[.val (.ref a1), .val (.ref q0), .val (.ref we), .val (.ref a278), .unset] [(.ref a278)])
  obtain ⟨cq280, kq280, qa280, qb280, qc280⟩ := isOf hZ (rfl : T278.heap = T278.heap) A278
  obtain ⟨_, _, ⟨T280, L280, k280, n280⟩, -, X280, ⟨Lc280, hQ280, l280, y280, z280⟩, st280⟩ := X278.interfaceBack hx (xi := (⟨"java/util/Iterator", "hasNext", "()Z"⟩ : MethodName)) (y := (⟨"java/util/ArrayList$Itr", "hasNext", "()Z"⟩ : MethodName)) hown (mvT hZ (own_w hw 114 rfl)) (mvT hZ (own_w hw 115 rfl)) (mvT hZ (own_w hw 116 rfl)) (mvT hZ (own_w hw 117 rfl)) (mvT hZ (own_w hw 118 rfl)) (mvT hZ (own_w hw 119 rfl)) (mvT hZ (own_w hw 120 rfl)) (mvT hZ (own_w hw 121 rfl)) (by decide) (backOf (W := 0) (own_rmHN l Z a0 hw [] a278 al 0 3 T278.heap n0 (by omega) F278 J278 (LZ.keep K278 nin0)) hZ (own_w hw 122 rfl) (own_w hw 100 rfl) (by decide) (by decide)) qa280 qb280 qc280 (g := (mkF m 15 #[.val (.ref a1), .val (.ref q0), .val (.ref we), .val (.ref a278), .unset] [(.ref a278)])) rfl (by rw [hml]; rfl) (Steps.refl _) (argsL := []) (rest := []) (lenOf own_pd14 rfl) rfl (by show 2 * 0 + _ ≤ _; exact Nat.le_of_eq rfl) (hb hby own_d30_15) (fun _ _ => ⟨rfl, (rfl : T278.heap = T278.heap), Nat.le_of_ble_eq_true rfl, Nat.le_of_ble_eq_true rfl⟩)
  dsimp only [Pt.U, Pt.locs, Pt.cells, Pt.slots] at X280 l280 y280 z280 st280 hQ280
  subst l280 y280 z280
  obtain ⟨rfl, M280, e280⟩ := hQ280
  have N280 := Fr.app N278 M280
  refine own_go (fun _ k => st280.trans k) ?_
  show own_E p e below _ T280 (mkF m 20 #[.val (.ref a1), .val (.ref q0), .val (.ref we), .val (.ref a278), .unset] [(.int (own_hn (0 : Int32) (3 : Int32)))])
  refine own_ifNo X280 hx (hb hby own_d30_20) (XT.i0_eq_f (by decide)) ?_
  show own_E p e below _ T280 (mkF m 23 #[.val (.ref a1), .val (.ref q0), .val (.ref we), .val (.ref a278), .unset] [])
  refine own_aloadN X280 hx (hb hby own_d30_23) rfl rfl ?_
  show own_E p e below _ T280 (mkF m 24 #[.val (.ref a1), .val (.ref q0), .val (.ref we), .val (.ref a278), .unset] [(.ref a278)])
  obtain ⟨cq281, kq281, qa281, qb281, qc281⟩ := isOf hZ e280 A278
  obtain ⟨_, _, ⟨T281, L281, k281, n281⟩, -, X281, ⟨Lc281, hQ281, l281, y281, z281⟩, st281⟩ := X280.interfaceBack hx (xi := (⟨"java/util/Iterator", "next", "()Ljava/lang/Object;"⟩ : MethodName)) (y := (⟨"java/util/ArrayList$Itr", "next", "()Ljava/lang/Object;"⟩ : MethodName)) hown (mvT hZ (own_w hw 169 rfl)) (mvT hZ (own_w hw 170 rfl)) (mvT hZ (own_w hw 171 rfl)) (mvT hZ (own_w hw 172 rfl)) (mvT hZ (own_w hw 173 rfl)) (mvT hZ (own_w hw 174 rfl)) (mvT hZ (own_w hw 175 rfl)) (mvT hZ (own_w hw 121 rfl)) (by decide) (backOf (W := 0) (own_rmNX l Z a0 hw [] a278 al d p0 kd [.ref p0, .ref p1, .ref p2] 0 1 3 3 (-1 : Int32) T278.heap n0 (by omega) F278 G278 J278 R278 A278 (LD.keep K278 nin0) (LZ.keep K278 nin0) (LM.keep K278 nin0) (LV.keep K278 nin0) (by decide) (by decide) (by decide) (by decide) rfl (by omega) (own_ne (by omega)) (own_ne (by omega))) hZ (own_w hw 176 rfl) (own_w hw 100 rfl) (by decide) (by decide)) qa281 qb281 qc281 (g := (mkF m 24 #[.val (.ref a1), .val (.ref q0), .val (.ref we), .val (.ref a278), .unset] [(.ref a278)])) rfl (by rw [hml]; rfl) (Steps.refl _) (argsL := []) (rest := []) (lenOf own_pd15 rfl) rfl (by show 2 * 0 + _ ≤ _; exact Nat.le_of_eq rfl) (hb hby own_d30_24) (fun _ _ => ⟨rfl, e280, Nat.le_of_ble_eq_true rfl, Nat.le_of_ble_eq_true rfl⟩)
  dsimp only [Pt.U, Pt.locs, Pt.cells, Pt.slots] at X281 l281 y281 z281 st281 hQ281
  subst l281 y281 z281
  obtain ⟨rfl, M281, K281, F281, G281, J281, R281⟩ := hQ281
  have N281 := Fr.app N280 M281
  refine own_go (fun _ k => st281.trans k) ?_
  have z281 : T278.heap.size ≤ T281.heap.size := K281.1
  show own_E p e below _ T281 (mkF m 29 #[.val (.ref a1), .val (.ref q0), .val (.ref we), .val (.ref a278), .unset] [(.ref p0)])
  obtain ⟨T282, X282, e282, st282⟩ := castY X281 hx hZ hown (own_w hw 183 rfl) (rfl : T281.heap = T281.heap) (Ins.self ((PX0.keep K278).keep K281)) (g := (mkF m 29 #[.val (.ref a1), .val (.ref q0), .val (.ref we), .val (.ref a278), .unset] [(.ref p0)])) rfl rfl (hb hby own_d30_29)
  refine own_go st282 ?_
  show own_E p e below _ T282 (mkF m 32 #[.val (.ref a1), .val (.ref q0), .val (.ref we), .val (.ref a278), .unset] [(.ref p0)])
  refine own_astore X282 hx (hb hby own_d30_32) rfl (l' := #[.val (.ref a1), .val (.ref q0), .val (.ref we), .val (.ref a278), .val (.ref p0)]) rfl ?_
  show own_E p e below _ T282 (mkF m 34 #[.val (.ref a1), .val (.ref q0), .val (.ref we), .val (.ref a278), .val (.ref p0)] [])
  refine own_aload X282 hx (hb hby own_d30_34) rfl rfl ?_
  show own_E p e below _ T282 (mkF m 36 #[.val (.ref a1), .val (.ref q0), .val (.ref we), .val (.ref a278), .val (.ref p0)] [(.ref p0)])
  obtain ⟨cq283, kq283, qa283, qb283, qc283⟩ := isOf hZ e282 ((PX0.keep K278).keep K281)
  obtain ⟨_, _, ⟨T283, L283, k283, n283⟩, -, X283, ⟨Lc283, hQ283, l283, y283, z283⟩, st283⟩ := X282.virtualBack hx (y := (⟨"com/example/narrow_gate/narrowgate/Target$Parameter", "name", "()Ljava/lang/String;"⟩ : MethodName)) (z := (⟨"com/example/narrow_gate/narrowgate/Target$Parameter", "name", "()Ljava/lang/String;"⟩ : MethodName)) hown (mvT hZ (own_w hw 185 rfl)) (mvT hZ (own_w hw 186 rfl)) (notFace_of_selects (args := #[]) (mvT hZ (own_w hw 188 rfl))) (mvT hZ (own_w hw 188 rfl)) (mvT hZ (own_w hw 187 rfl)) (by decide) (backOf (W := 0) (own_rmNM l Z a0 hw [] p0 s0 T281.heap n0 (by omega) ((PN0.keep K278 nin0).keep K281 (ninS (by first | assumption | exact Ne.symm (by assumption) | exact own_ne (by omega)) nin0))) hZ (own_w hw 189 rfl) (own_w hw 28 rfl) (by decide) (by decide)) qa283 qc283 (g := (mkF m 36 #[.val (.ref a1), .val (.ref q0), .val (.ref we), .val (.ref a278), .val (.ref p0)] [(.ref p0)])) rfl (by rw [hml]; rfl) (Steps.refl _) (argsL := []) (rest := []) (lenOf own_pd16 rfl) rfl (by show 2 * 0 + _ ≤ _; exact Nat.le_of_eq rfl) (hb hby own_d30_36) (fun _ _ => ⟨rfl, e282, Nat.le_of_ble_eq_true rfl, Nat.le_of_ble_eq_true rfl⟩)
  dsimp only [Pt.U, Pt.locs, Pt.cells, Pt.slots] at X283 l283 y283 z283 st283 hQ283
  subst l283 y283 z283
  obtain ⟨rfl, M283, e283⟩ := hQ283
  have N283 := Fr.app N281 M283
  refine own_go (fun _ k => st283.trans k) ?_
  show own_E p e below _ T283 (mkF m 39 #[.val (.ref a1), .val (.ref q0), .val (.ref we), .val (.ref a278), .val (.ref p0)] [(.ref s0)])
  have lt284 := own_lt ((own_Sx (own_Sk PS0 (((Keep.refl _ _).trans K278 all0).trans K281 (allS (Or.inr (by omega)) all0))))).lt
  refine own_aloadN X283 hx (hb hby own_d30_39) rfl rfl ?_
  show own_E p e below _ T283 (mkF m 40 #[.val (.ref a1), .val (.ref q0), .val (.ref we), .val (.ref a278), .val (.ref p0)] [(.ref q0), (.ref s0)])
  obtain ⟨cq285, kq285, qa285, qb285, qc285⟩ := isOf hZ e283 (own_Sx (own_Sk PS0 (((Keep.refl _ _).trans K278 all0).trans K281 (allS (Or.inr (by omega)) all0))))
  obtain ⟨_, _, ⟨T285, L285, k285, n285⟩, -, X285, ⟨Lc285, hQ285, l285, y285, z285⟩, st285⟩ := X283.virtualBack hx (y := (⟨"java/lang/String", "equals", "(Ljava/lang/Object;)Z"⟩ : MethodName)) (z := (⟨"java/lang/String", "equals", "(Ljava/lang/Object;)Z"⟩ : MethodName)) hown (mvT hZ (own_w hw 190 rfl)) (mvT hZ (own_w hw 191 rfl)) (notFace_of_selects (args := #[]) (mvT hZ (own_w hw 193 rfl))) (mvT hZ (own_w hw 193 rfl)) (mvT hZ (own_w hw 192 rfl)) (by decide) (backOf (W := 0) (own_rmEQ l Z a0 hw [] s0 q0 y0 x0 yq xq G1 T281.heap n0 (by omega) ((O0.keep K278 all0).keep K281 (allS (by omega) all0)) SC P1 (own_Sk PS0 (((Keep.refl _ _).trans K278 all0).trans K281 (allS (Or.inr (by omega)) all0))) (own_Sk SQ (((Keep.refl _ _).trans K278 all0).trans K281 (allS (Or.inr (by omega)) all0))) he0 heq) hZ (own_w hw 194 rfl) (own_w hw 2 rfl) (by decide) (by decide)) qa285 qc285 (g := (mkF m 40 #[.val (.ref a1), .val (.ref q0), .val (.ref we), .val (.ref a278), .val (.ref p0)] [(.ref q0), (.ref s0)])) rfl (by rw [hml]; rfl) (Steps.refl _) (argsL := [(.ref q0)]) (rest := []) (lenOf own_pd17 rfl) rfl (by show 2 * 0 + _ ≤ _; exact Nat.le_of_eq rfl) (hb hby own_d30_40) (fun _ _ => ⟨rfl, e283, Nat.le_of_ble_eq_true rfl, Nat.le_of_ble_eq_true rfl⟩)
  dsimp only [Pt.U, Pt.locs, Pt.cells, Pt.slots] at X285 l285 y285 z285 st285 hQ285
  subst l285 y285 z285
  obtain ⟨rfl, M285, e285⟩ := hQ285
  have N285 := Fr.app N283 M285
  refine own_go (fun _ k => st285.trans k) ?_
  show own_E p e below _ T285 (mkF m 43 #[.val (.ref a1), .val (.ref q0), .val (.ref we), .val (.ref a278), .val (.ref p0)] [(.int (own_seq y0 x0 yq xq))])
  suffices hj286 : ∀ (T286 : State) (L286 : List Loc) (h286 : Heap) (o286 : Addr), Stand p l e ({ frames := 3, cells := 4, slots := 7, locals := 60 } : Room) s m #[(.ref a1), (.ref q0)] below meth c T286 L286 2 5 → T286.heap = h286 → Fr n0 L286 → Keep T281.heap h286 [] → Exa Z h286 o286 "java/util/Optional" → Fld Z h286 o286 "java/util/Optional" "value" "Ljava/lang/Object;" (own_pick (own_seq y0 x0 yq xq) (.ref v0) .null) → own_E p e below (own_P s (own_QM Z (own_pick (own_seq y2 x2 yq xq) (.ref v2) (own_pick (own_seq y1 x1 yq xq) (.ref v1) (own_pick (own_seq y0 x0 yq xq) (.ref v0) .null))) h0 n0) ({ frames := 3, cells := 4, slots := 7, locals := 60 } : Room).cells ({ frames := 3, cells := 4, slots := 7, locals := 60 } : Room).slots) T286 (mkF m 14 #[.val (.ref a1), .val (.ref q0), .val (.ref o286), .val (.ref a278), .val (.ref p0)] []) from by
    by_cases hm : (own_seq y0 x0 yq xq) = 0
    · skip
      refine own_ifYes X285 hx (hb hby own_d30_43) (XT.i0_eq_t hm) 55 (by decide) (by decide) ?_
      show own_E p e below _ T285 (mkF m 55 #[.val (.ref a1), .val (.ref q0), .val (.ref we), .val (.ref a278), .val (.ref p0)] [])
      refine own_goto X285 hx (hb hby own_d30_55) 14 (by decide) (by decide) ?_
      show own_E p e below _ T285 (mkF m 14 #[.val (.ref a1), .val (.ref q0), .val (.ref we), .val (.ref a278), .val (.ref p0)] [])
      exact hj286 _ _ _ _ (X285.mono (by decide) (by decide)) e285 N285 (Keep.refl _ _) (EX.ext (((O0.keep K278 all0).keep K281 (allS (by omega) all0))).2) (by rw [own_pick, if_pos hm]; exact (FO278.keep K281 (ninS (by first | assumption | exact Ne.symm (by assumption) | exact own_ne (by omega)) nin0)))
    · skip
      refine own_ifNo X285 hx (hb hby own_d30_43) (XT.i0_eq_f hm) ?_
      show own_E p e below _ T285 (mkF m 46 #[.val (.ref a1), .val (.ref q0), .val (.ref we), .val (.ref a278), .val (.ref p0)] [])
      refine own_aload X285 hx (hb hby own_d30_46) rfl rfl ?_
      show own_E p e below _ T285 (mkF m 48 #[.val (.ref a1), .val (.ref q0), .val (.ref we), .val (.ref a278), .val (.ref p0)] [(.ref p0)])
      obtain ⟨cq287, kq287, qa287, qb287, qc287⟩ := isOf hZ e285 ((PX0.keep K278).keep K281)
      obtain ⟨_, _, ⟨T287, L287, k287, n287⟩, -, X287, ⟨Lc287, hQ287, l287, y287, z287⟩, st287⟩ := X285.virtualBack hx (y := (⟨"com/example/narrow_gate/narrowgate/Target$Parameter", "value", "()Ljava/lang/String;"⟩ : MethodName)) (z := (⟨"com/example/narrow_gate/narrowgate/Target$Parameter", "value", "()Ljava/lang/String;"⟩ : MethodName)) hown (mvT hZ (own_w hw 198 rfl)) (mvT hZ (own_w hw 199 rfl)) (notFace_of_selects (args := #[]) (mvT hZ (own_w hw 201 rfl))) (mvT hZ (own_w hw 201 rfl)) (mvT hZ (own_w hw 200 rfl)) (by decide) (backOf (W := 0) (own_rmVL l Z a0 hw [] p0 v0 T281.heap n0 (by omega) ((PV0.keep K278 nin0).keep K281 (ninS (by first | assumption | exact Ne.symm (by assumption) | exact own_ne (by omega)) nin0))) hZ (own_w hw 202 rfl) (own_w hw 28 rfl) (by decide) (by decide)) qa287 qc287 (g := (mkF m 48 #[.val (.ref a1), .val (.ref q0), .val (.ref we), .val (.ref a278), .val (.ref p0)] [(.ref p0)])) rfl (by rw [hml]; rfl) (Steps.refl _) (argsL := []) (rest := []) (lenOf own_pd16 rfl) rfl (by show 2 * 0 + _ ≤ _; exact Nat.le_of_eq rfl) (hb hby own_d30_48) (fun _ _ => ⟨rfl, e285, Nat.le_of_ble_eq_true rfl, Nat.le_of_ble_eq_true rfl⟩)
      dsimp only [Pt.U, Pt.locs, Pt.cells, Pt.slots] at X287 l287 y287 z287 st287 hQ287
      subst l287 y287 z287
      obtain ⟨rfl, M287, e287⟩ := hQ287
      have N287 := Fr.app N285 M287
      refine own_go (fun _ k => st287.trans k) ?_
      show own_E p e below _ T287 (mkF m 51 #[.val (.ref a1), .val (.ref q0), .val (.ref we), .val (.ref a278), .val (.ref p0)] [(.ref v0)])
      obtain ⟨_, _, ⟨T288, L288, k288, n288⟩, -, X288, ⟨Lc288, hQ288, l288, y288, z288⟩, st288⟩ := Jvm.LawKit.callS X287 hx (y := (⟨"java/util/Optional", "of", "(Ljava/lang/Object;)Ljava/util/Optional;"⟩ : MethodName)) hown (mvT hZ (own_w hw 203 rfl)) (mvT hZ (own_w hw 204 rfl)) (mvT hZ (own_w hw 86 rfl)) (mvT hZ (own_w hw 205 rfl)) (by decide) (backOf (W := 0) (own_rmON l Z a0 hw [] v0 T281.heap n0 (by omega)) hZ (own_w hw 205 rfl) (own_w hw 86 rfl) (by decide) (by decide)) (g := (mkF m 51 #[.val (.ref a1), .val (.ref q0), .val (.ref we), .val (.ref a278), .val (.ref p0)] [(.ref v0)])) rfl (by rw [hml]; rfl) (argsL := [(.ref v0)]) (rest := []) (lenOf own_pd18 rfl) rfl (by show 2 * 0 + _ ≤ _; exact Nat.le_of_eq rfl) (hb hby own_d30_51) (fun _ _ => ⟨rfl, e287, Nat.le_of_ble_eq_true rfl, Nat.le_of_ble_eq_true rfl⟩)
      dsimp only [Pt.U, Pt.locs, Pt.cells, Pt.slots] at X288 l288 y288 z288 st288 hQ288
      subst l288 y288 z288
      obtain ⟨a288, rfl, M288, K288, A288, F288⟩ := hQ288
      have N288 := Fr.app N287 M288
      refine own_go st288 ?_
      have z288 : T281.heap.size ≤ T288.heap.size := K288.1
      show own_E p e below _ T288 (mkF m 54 #[.val (.ref a1), .val (.ref q0), .val (.ref we), .val (.ref a278), .val (.ref p0)] [(.ref a288)])
      refine own_astoreN X288 hx (hb hby own_d30_54) rfl (l' := #[.val (.ref a1), .val (.ref q0), .val (.ref a288), .val (.ref a278), .val (.ref p0)]) rfl ?_
      show own_E p e below _ T288 (mkF m 55 #[.val (.ref a1), .val (.ref q0), .val (.ref a288), .val (.ref a278), .val (.ref p0)] [])
      refine own_goto X288 hx (hb hby own_d30_55) 14 (by decide) (by decide) ?_
      show own_E p e below _ T288 (mkF m 14 #[.val (.ref a1), .val (.ref q0), .val (.ref a288), .val (.ref a278), .val (.ref p0)] [])
      exact hj286 _ _ _ _ (X288.mono (by decide) (by decide)) (rfl : T288.heap = T288.heap) N288 K288 A288 (by rw [own_pick, if_neg hm]; exact F288)
  intro T286 L286 h286 o286 X286 e286 N286 K286 A286 F286
  have z286 : T281.heap.size ≤ h286.size := K286.1
  have lt289 := own_lt (A286).lt
  have no286 : o286 ≠ a278 := Jvm.RoadKit.ne_exa A286 ((A278.keep K281).keep K286) (by decide)
  show own_E p e below _ T286 (mkF m 14 #[.val (.ref a1), .val (.ref q0), .val (.ref o286), .val (.ref a278), .val (.ref p0)] [])
  refine own_aloadN X286 hx (hb hby own_d30_14) rfl rfl ?_
  show own_E p e below _ T286 (mkF m 15 #[.val (.ref a1), .val (.ref q0), .val (.ref o286), .val (.ref a278), .val (.ref p0)] [(.ref a278)])
  obtain ⟨cq290, kq290, qa290, qb290, qc290⟩ := isOf hZ e286 ((A278.keep K281).keep K286)
  obtain ⟨_, _, ⟨T290, L290, k290, n290⟩, -, X290, ⟨Lc290, hQ290, l290, y290, z290⟩, st290⟩ := X286.interfaceBack hx (xi := (⟨"java/util/Iterator", "hasNext", "()Z"⟩ : MethodName)) (y := (⟨"java/util/ArrayList$Itr", "hasNext", "()Z"⟩ : MethodName)) hown (mvT hZ (own_w hw 114 rfl)) (mvT hZ (own_w hw 115 rfl)) (mvT hZ (own_w hw 116 rfl)) (mvT hZ (own_w hw 117 rfl)) (mvT hZ (own_w hw 118 rfl)) (mvT hZ (own_w hw 119 rfl)) (mvT hZ (own_w hw 120 rfl)) (mvT hZ (own_w hw 121 rfl)) (by decide) (backOf (W := 0) (own_rmHN l Z a0 hw [] a278 al 1 3 h286 n0 (by omega) (F281.keep K286 nin0) (J281.keep K286 nin0) (((LZ.keep K278 nin0).keep K281 (ninS (by first | assumption | exact Ne.symm (by assumption) | exact own_ne (by omega)) nin0)).keep K286 nin0)) hZ (own_w hw 122 rfl) (own_w hw 100 rfl) (by decide) (by decide)) qa290 qb290 qc290 (g := (mkF m 15 #[.val (.ref a1), .val (.ref q0), .val (.ref o286), .val (.ref a278), .val (.ref p0)] [(.ref a278)])) rfl (by rw [hml]; rfl) (Steps.refl _) (argsL := []) (rest := []) (lenOf own_pd14 rfl) rfl (by show 2 * 0 + _ ≤ _; exact Nat.le_of_eq rfl) (hb hby own_d30_15) (fun _ _ => ⟨rfl, e286, Nat.le_of_ble_eq_true rfl, Nat.le_of_ble_eq_true rfl⟩)
  dsimp only [Pt.U, Pt.locs, Pt.cells, Pt.slots] at X290 l290 y290 z290 st290 hQ290
  subst l290 y290 z290
  obtain ⟨rfl, M290, e290⟩ := hQ290
  have N290 := Fr.app N286 M290
  refine own_go (fun _ k => st290.trans k) ?_
  show own_E p e below _ T290 (mkF m 20 #[.val (.ref a1), .val (.ref q0), .val (.ref o286), .val (.ref a278), .val (.ref p0)] [(.int (own_hn (1 : Int32) (3 : Int32)))])
  refine own_ifNo X290 hx (hb hby own_d30_20) (XT.i0_eq_f (by decide)) ?_
  show own_E p e below _ T290 (mkF m 23 #[.val (.ref a1), .val (.ref q0), .val (.ref o286), .val (.ref a278), .val (.ref p0)] [])
  refine own_aloadN X290 hx (hb hby own_d30_23) rfl rfl ?_
  show own_E p e below _ T290 (mkF m 24 #[.val (.ref a1), .val (.ref q0), .val (.ref o286), .val (.ref a278), .val (.ref p0)] [(.ref a278)])
  obtain ⟨cq291, kq291, qa291, qb291, qc291⟩ := isOf hZ e290 ((A278.keep K281).keep K286)
  obtain ⟨_, _, ⟨T291, L291, k291, n291⟩, -, X291, ⟨Lc291, hQ291, l291, y291, z291⟩, st291⟩ := X290.interfaceBack hx (xi := (⟨"java/util/Iterator", "next", "()Ljava/lang/Object;"⟩ : MethodName)) (y := (⟨"java/util/ArrayList$Itr", "next", "()Ljava/lang/Object;"⟩ : MethodName)) hown (mvT hZ (own_w hw 169 rfl)) (mvT hZ (own_w hw 170 rfl)) (mvT hZ (own_w hw 171 rfl)) (mvT hZ (own_w hw 172 rfl)) (mvT hZ (own_w hw 173 rfl)) (mvT hZ (own_w hw 174 rfl)) (mvT hZ (own_w hw 175 rfl)) (mvT hZ (own_w hw 121 rfl)) (by decide) (backOf (W := 0) (own_rmNX l Z a0 hw [] a278 al d p1 kd [.ref p0, .ref p1, .ref p2] 1 2 3 3 (0 : Int32) h286 n0 (by omega) (F281.keep K286 nin0) (G281.keep K286 nin0) (J281.keep K286 nin0) (R281.keep K286 nin0) ((A278.keep K281).keep K286) (((LD.keep K278 nin0).keep K281 (ninS (by first | assumption | exact Ne.symm (by assumption) | exact own_ne (by omega)) nin0)).keep K286 nin0) (((LZ.keep K278 nin0).keep K281 (ninS (by first | assumption | exact Ne.symm (by assumption) | exact own_ne (by omega)) nin0)).keep K286 nin0) (((LM.keep K278 nin0).keep K281 (ninS (by first | assumption | exact Ne.symm (by assumption) | exact own_ne (by omega)) nin0)).keep K286 nin0) (((LV.keep K278 nin0).keep K281 (ninS (by first | assumption | exact Ne.symm (by assumption) | exact own_ne (by omega)) nin0)).keep K286 nin0) (by decide) (by decide) (by decide) (by decide) rfl (by omega) (own_ne (by omega)) (own_ne (by omega))) hZ (own_w hw 176 rfl) (own_w hw 100 rfl) (by decide) (by decide)) qa291 qb291 qc291 (g := (mkF m 24 #[.val (.ref a1), .val (.ref q0), .val (.ref o286), .val (.ref a278), .val (.ref p0)] [(.ref a278)])) rfl (by rw [hml]; rfl) (Steps.refl _) (argsL := []) (rest := []) (lenOf own_pd15 rfl) rfl (by show 2 * 0 + _ ≤ _; exact Nat.le_of_eq rfl) (hb hby own_d30_24) (fun _ _ => ⟨rfl, e290, Nat.le_of_ble_eq_true rfl, Nat.le_of_ble_eq_true rfl⟩)
  dsimp only [Pt.U, Pt.locs, Pt.cells, Pt.slots] at X291 l291 y291 z291 st291 hQ291
  subst l291 y291 z291
  obtain ⟨rfl, M291, K291, F291, G291, J291, R291⟩ := hQ291
  have N291 := Fr.app N290 M291
  refine own_go (fun _ k => st291.trans k) ?_
  have z291 : h286.size ≤ T291.heap.size := K291.1
  show own_E p e below _ T291 (mkF m 29 #[.val (.ref a1), .val (.ref q0), .val (.ref o286), .val (.ref a278), .val (.ref p0)] [(.ref p1)])
  obtain ⟨T292, X292, e292, st292⟩ := castY X291 hx hZ hown (own_w hw 183 rfl) (rfl : T291.heap = T291.heap) (Ins.self ((((PX1.keep K278).keep K281).keep K286).keep K291)) (g := (mkF m 29 #[.val (.ref a1), .val (.ref q0), .val (.ref o286), .val (.ref a278), .val (.ref p0)] [(.ref p1)])) rfl rfl (hb hby own_d30_29)
  refine own_go st292 ?_
  show own_E p e below _ T292 (mkF m 32 #[.val (.ref a1), .val (.ref q0), .val (.ref o286), .val (.ref a278), .val (.ref p0)] [(.ref p1)])
  refine own_astore X292 hx (hb hby own_d30_32) rfl (l' := #[.val (.ref a1), .val (.ref q0), .val (.ref o286), .val (.ref a278), .val (.ref p1)]) rfl ?_
  show own_E p e below _ T292 (mkF m 34 #[.val (.ref a1), .val (.ref q0), .val (.ref o286), .val (.ref a278), .val (.ref p1)] [])
  refine own_aload X292 hx (hb hby own_d30_34) rfl rfl ?_
  show own_E p e below _ T292 (mkF m 36 #[.val (.ref a1), .val (.ref q0), .val (.ref o286), .val (.ref a278), .val (.ref p1)] [(.ref p1)])
  obtain ⟨cq293, kq293, qa293, qb293, qc293⟩ := isOf hZ e292 ((((PX1.keep K278).keep K281).keep K286).keep K291)
  obtain ⟨_, _, ⟨T293, L293, k293, n293⟩, -, X293, ⟨Lc293, hQ293, l293, y293, z293⟩, st293⟩ := X292.virtualBack hx (y := (⟨"com/example/narrow_gate/narrowgate/Target$Parameter", "name", "()Ljava/lang/String;"⟩ : MethodName)) (z := (⟨"com/example/narrow_gate/narrowgate/Target$Parameter", "name", "()Ljava/lang/String;"⟩ : MethodName)) hown (mvT hZ (own_w hw 185 rfl)) (mvT hZ (own_w hw 186 rfl)) (notFace_of_selects (args := #[]) (mvT hZ (own_w hw 188 rfl))) (mvT hZ (own_w hw 188 rfl)) (mvT hZ (own_w hw 187 rfl)) (by decide) (backOf (W := 0) (own_rmNM l Z a0 hw [] p1 s1 T291.heap n0 (by omega) ((((PN1.keep K278 nin0).keep K281 (ninS (by first | assumption | exact Ne.symm (by assumption) | exact own_ne (by omega)) nin0)).keep K286 nin0).keep K291 (ninS (by first | assumption | exact Ne.symm (by assumption) | exact own_ne (by omega)) nin0))) hZ (own_w hw 189 rfl) (own_w hw 28 rfl) (by decide) (by decide)) qa293 qc293 (g := (mkF m 36 #[.val (.ref a1), .val (.ref q0), .val (.ref o286), .val (.ref a278), .val (.ref p1)] [(.ref p1)])) rfl (by rw [hml]; rfl) (Steps.refl _) (argsL := []) (rest := []) (lenOf own_pd16 rfl) rfl (by show 2 * 0 + _ ≤ _; exact Nat.le_of_eq rfl) (hb hby own_d30_36) (fun _ _ => ⟨rfl, e292, Nat.le_of_ble_eq_true rfl, Nat.le_of_ble_eq_true rfl⟩)
  dsimp only [Pt.U, Pt.locs, Pt.cells, Pt.slots] at X293 l293 y293 z293 st293 hQ293
  subst l293 y293 z293
  obtain ⟨rfl, M293, e293⟩ := hQ293
  have N293 := Fr.app N291 M293
  refine own_go (fun _ k => st293.trans k) ?_
  show own_E p e below _ T293 (mkF m 39 #[.val (.ref a1), .val (.ref q0), .val (.ref o286), .val (.ref a278), .val (.ref p1)] [(.ref s1)])
  have lt294 := own_lt ((own_Sx (own_Sk PS1 (((((Keep.refl _ _).trans K278 all0).trans K281 (allS (Or.inr (by omega)) all0)).trans K286 all0).trans K291 (allS (Or.inr (by omega)) all0))))).lt
  refine own_aloadN X293 hx (hb hby own_d30_39) rfl rfl ?_
  show own_E p e below _ T293 (mkF m 40 #[.val (.ref a1), .val (.ref q0), .val (.ref o286), .val (.ref a278), .val (.ref p1)] [(.ref q0), (.ref s1)])
  obtain ⟨cq295, kq295, qa295, qb295, qc295⟩ := isOf hZ e293 (own_Sx (own_Sk PS1 (((((Keep.refl _ _).trans K278 all0).trans K281 (allS (Or.inr (by omega)) all0)).trans K286 all0).trans K291 (allS (Or.inr (by omega)) all0))))
  obtain ⟨_, _, ⟨T295, L295, k295, n295⟩, -, X295, ⟨Lc295, hQ295, l295, y295, z295⟩, st295⟩ := X293.virtualBack hx (y := (⟨"java/lang/String", "equals", "(Ljava/lang/Object;)Z"⟩ : MethodName)) (z := (⟨"java/lang/String", "equals", "(Ljava/lang/Object;)Z"⟩ : MethodName)) hown (mvT hZ (own_w hw 190 rfl)) (mvT hZ (own_w hw 191 rfl)) (notFace_of_selects (args := #[]) (mvT hZ (own_w hw 193 rfl))) (mvT hZ (own_w hw 193 rfl)) (mvT hZ (own_w hw 192 rfl)) (by decide) (backOf (W := 0) (own_rmEQ l Z a0 hw [] s1 q0 y1 x1 yq xq G1 T291.heap n0 (by omega) ((((O0.keep K278 all0).keep K281 (allS (by omega) all0)).keep K286 all0).keep K291 (allS (by omega) all0)) SC P1 (own_Sk PS1 (((((Keep.refl _ _).trans K278 all0).trans K281 (allS (Or.inr (by omega)) all0)).trans K286 all0).trans K291 (allS (Or.inr (by omega)) all0))) (own_Sk SQ (((((Keep.refl _ _).trans K278 all0).trans K281 (allS (Or.inr (by omega)) all0)).trans K286 all0).trans K291 (allS (Or.inr (by omega)) all0))) he1 heq) hZ (own_w hw 194 rfl) (own_w hw 2 rfl) (by decide) (by decide)) qa295 qc295 (g := (mkF m 40 #[.val (.ref a1), .val (.ref q0), .val (.ref o286), .val (.ref a278), .val (.ref p1)] [(.ref q0), (.ref s1)])) rfl (by rw [hml]; rfl) (Steps.refl _) (argsL := [(.ref q0)]) (rest := []) (lenOf own_pd17 rfl) rfl (by show 2 * 0 + _ ≤ _; exact Nat.le_of_eq rfl) (hb hby own_d30_40) (fun _ _ => ⟨rfl, e293, Nat.le_of_ble_eq_true rfl, Nat.le_of_ble_eq_true rfl⟩)
  dsimp only [Pt.U, Pt.locs, Pt.cells, Pt.slots] at X295 l295 y295 z295 st295 hQ295
  subst l295 y295 z295
  obtain ⟨rfl, M295, e295⟩ := hQ295
  have N295 := Fr.app N293 M295
  refine own_go (fun _ k => st295.trans k) ?_
  show own_E p e below _ T295 (mkF m 43 #[.val (.ref a1), .val (.ref q0), .val (.ref o286), .val (.ref a278), .val (.ref p1)] [(.int (own_seq y1 x1 yq xq))])
  suffices hj296 : ∀ (T296 : State) (L296 : List Loc) (h296 : Heap) (o296 : Addr), Stand p l e ({ frames := 3, cells := 4, slots := 7, locals := 60 } : Room) s m #[(.ref a1), (.ref q0)] below meth c T296 L296 3 6 → T296.heap = h296 → Fr n0 L296 → Keep T291.heap h296 [] → Exa Z h296 o296 "java/util/Optional" → Fld Z h296 o296 "java/util/Optional" "value" "Ljava/lang/Object;" (own_pick (own_seq y1 x1 yq xq) (.ref v1) (own_pick (own_seq y0 x0 yq xq) (.ref v0) .null)) → own_E p e below (own_P s (own_QM Z (own_pick (own_seq y2 x2 yq xq) (.ref v2) (own_pick (own_seq y1 x1 yq xq) (.ref v1) (own_pick (own_seq y0 x0 yq xq) (.ref v0) .null))) h0 n0) ({ frames := 3, cells := 4, slots := 7, locals := 60 } : Room).cells ({ frames := 3, cells := 4, slots := 7, locals := 60 } : Room).slots) T296 (mkF m 14 #[.val (.ref a1), .val (.ref q0), .val (.ref o296), .val (.ref a278), .val (.ref p1)] []) from by
    by_cases hm : (own_seq y1 x1 yq xq) = 0
    · skip
      refine own_ifYes X295 hx (hb hby own_d30_43) (XT.i0_eq_t hm) 55 (by decide) (by decide) ?_
      show own_E p e below _ T295 (mkF m 55 #[.val (.ref a1), .val (.ref q0), .val (.ref o286), .val (.ref a278), .val (.ref p1)] [])
      refine own_goto X295 hx (hb hby own_d30_55) 14 (by decide) (by decide) ?_
      show own_E p e below _ T295 (mkF m 14 #[.val (.ref a1), .val (.ref q0), .val (.ref o286), .val (.ref a278), .val (.ref p1)] [])
      exact hj296 _ _ _ _ (X295.mono (by decide) (by decide)) e295 N295 (Keep.refl _ _) (A286.keep K291) (by rw [own_pick, if_pos hm]; exact (F286.keep K291 (ninS (by first | assumption | exact Ne.symm (by assumption) | exact own_ne (by omega)) nin0)))
    · skip
      refine own_ifNo X295 hx (hb hby own_d30_43) (XT.i0_eq_f hm) ?_
      show own_E p e below _ T295 (mkF m 46 #[.val (.ref a1), .val (.ref q0), .val (.ref o286), .val (.ref a278), .val (.ref p1)] [])
      refine own_aload X295 hx (hb hby own_d30_46) rfl rfl ?_
      show own_E p e below _ T295 (mkF m 48 #[.val (.ref a1), .val (.ref q0), .val (.ref o286), .val (.ref a278), .val (.ref p1)] [(.ref p1)])
      obtain ⟨cq297, kq297, qa297, qb297, qc297⟩ := isOf hZ e295 ((((PX1.keep K278).keep K281).keep K286).keep K291)
      obtain ⟨_, _, ⟨T297, L297, k297, n297⟩, -, X297, ⟨Lc297, hQ297, l297, y297, z297⟩, st297⟩ := X295.virtualBack hx (y := (⟨"com/example/narrow_gate/narrowgate/Target$Parameter", "value", "()Ljava/lang/String;"⟩ : MethodName)) (z := (⟨"com/example/narrow_gate/narrowgate/Target$Parameter", "value", "()Ljava/lang/String;"⟩ : MethodName)) hown (mvT hZ (own_w hw 198 rfl)) (mvT hZ (own_w hw 199 rfl)) (notFace_of_selects (args := #[]) (mvT hZ (own_w hw 201 rfl))) (mvT hZ (own_w hw 201 rfl)) (mvT hZ (own_w hw 200 rfl)) (by decide) (backOf (W := 0) (own_rmVL l Z a0 hw [] p1 v1 T291.heap n0 (by omega) ((((PV1.keep K278 nin0).keep K281 (ninS (by first | assumption | exact Ne.symm (by assumption) | exact own_ne (by omega)) nin0)).keep K286 nin0).keep K291 (ninS (by first | assumption | exact Ne.symm (by assumption) | exact own_ne (by omega)) nin0))) hZ (own_w hw 202 rfl) (own_w hw 28 rfl) (by decide) (by decide)) qa297 qc297 (g := (mkF m 48 #[.val (.ref a1), .val (.ref q0), .val (.ref o286), .val (.ref a278), .val (.ref p1)] [(.ref p1)])) rfl (by rw [hml]; rfl) (Steps.refl _) (argsL := []) (rest := []) (lenOf own_pd16 rfl) rfl (by show 2 * 0 + _ ≤ _; exact Nat.le_of_eq rfl) (hb hby own_d30_48) (fun _ _ => ⟨rfl, e295, Nat.le_of_ble_eq_true rfl, Nat.le_of_ble_eq_true rfl⟩)
      dsimp only [Pt.U, Pt.locs, Pt.cells, Pt.slots] at X297 l297 y297 z297 st297 hQ297
      subst l297 y297 z297
      obtain ⟨rfl, M297, e297⟩ := hQ297
      have N297 := Fr.app N295 M297
      refine own_go (fun _ k => st297.trans k) ?_
      show own_E p e below _ T297 (mkF m 51 #[.val (.ref a1), .val (.ref q0), .val (.ref o286), .val (.ref a278), .val (.ref p1)] [(.ref v1)])
      obtain ⟨_, _, ⟨T298, L298, k298, n298⟩, -, X298, ⟨Lc298, hQ298, l298, y298, z298⟩, st298⟩ := Jvm.LawKit.callS X297 hx (y := (⟨"java/util/Optional", "of", "(Ljava/lang/Object;)Ljava/util/Optional;"⟩ : MethodName)) hown (mvT hZ (own_w hw 203 rfl)) (mvT hZ (own_w hw 204 rfl)) (mvT hZ (own_w hw 86 rfl)) (mvT hZ (own_w hw 205 rfl)) (by decide) (backOf (W := 0) (own_rmON l Z a0 hw [] v1 T291.heap n0 (by omega)) hZ (own_w hw 205 rfl) (own_w hw 86 rfl) (by decide) (by decide)) (g := (mkF m 51 #[.val (.ref a1), .val (.ref q0), .val (.ref o286), .val (.ref a278), .val (.ref p1)] [(.ref v1)])) rfl (by rw [hml]; rfl) (argsL := [(.ref v1)]) (rest := []) (lenOf own_pd18 rfl) rfl (by show 2 * 0 + _ ≤ _; exact Nat.le_of_eq rfl) (hb hby own_d30_51) (fun _ _ => ⟨rfl, e297, Nat.le_of_ble_eq_true rfl, Nat.le_of_ble_eq_true rfl⟩)
      dsimp only [Pt.U, Pt.locs, Pt.cells, Pt.slots] at X298 l298 y298 z298 st298 hQ298
      subst l298 y298 z298
      obtain ⟨a298, rfl, M298, K298, A298, F298⟩ := hQ298
      have N298 := Fr.app N297 M298
      refine own_go st298 ?_
      have z298 : T291.heap.size ≤ T298.heap.size := K298.1
      show own_E p e below _ T298 (mkF m 54 #[.val (.ref a1), .val (.ref q0), .val (.ref o286), .val (.ref a278), .val (.ref p1)] [(.ref a298)])
      refine own_astoreN X298 hx (hb hby own_d30_54) rfl (l' := #[.val (.ref a1), .val (.ref q0), .val (.ref a298), .val (.ref a278), .val (.ref p1)]) rfl ?_
      show own_E p e below _ T298 (mkF m 55 #[.val (.ref a1), .val (.ref q0), .val (.ref a298), .val (.ref a278), .val (.ref p1)] [])
      refine own_goto X298 hx (hb hby own_d30_55) 14 (by decide) (by decide) ?_
      show own_E p e below _ T298 (mkF m 14 #[.val (.ref a1), .val (.ref q0), .val (.ref a298), .val (.ref a278), .val (.ref p1)] [])
      exact hj296 _ _ _ _ (X298.mono (by decide) (by decide)) (rfl : T298.heap = T298.heap) N298 K298 A298 (by rw [own_pick, if_neg hm]; exact F298)
  intro T296 L296 h296 o296 X296 e296 N296 K296 A296 F296
  have z296 : T291.heap.size ≤ h296.size := K296.1
  have lt299 := own_lt (A296).lt
  have no296 : o296 ≠ a278 := Jvm.RoadKit.ne_exa A296 ((((A278.keep K281).keep K286).keep K291).keep K296) (by decide)
  show own_E p e below _ T296 (mkF m 14 #[.val (.ref a1), .val (.ref q0), .val (.ref o296), .val (.ref a278), .val (.ref p1)] [])
  refine own_aloadN X296 hx (hb hby own_d30_14) rfl rfl ?_
  show own_E p e below _ T296 (mkF m 15 #[.val (.ref a1), .val (.ref q0), .val (.ref o296), .val (.ref a278), .val (.ref p1)] [(.ref a278)])
  obtain ⟨cq300, kq300, qa300, qb300, qc300⟩ := isOf hZ e296 ((((A278.keep K281).keep K286).keep K291).keep K296)
  obtain ⟨_, _, ⟨T300, L300, k300, n300⟩, -, X300, ⟨Lc300, hQ300, l300, y300, z300⟩, st300⟩ := X296.interfaceBack hx (xi := (⟨"java/util/Iterator", "hasNext", "()Z"⟩ : MethodName)) (y := (⟨"java/util/ArrayList$Itr", "hasNext", "()Z"⟩ : MethodName)) hown (mvT hZ (own_w hw 114 rfl)) (mvT hZ (own_w hw 115 rfl)) (mvT hZ (own_w hw 116 rfl)) (mvT hZ (own_w hw 117 rfl)) (mvT hZ (own_w hw 118 rfl)) (mvT hZ (own_w hw 119 rfl)) (mvT hZ (own_w hw 120 rfl)) (mvT hZ (own_w hw 121 rfl)) (by decide) (backOf (W := 0) (own_rmHN l Z a0 hw [] a278 al 2 3 h296 n0 (by omega) (F291.keep K296 nin0) (J291.keep K296 nin0) (((((LZ.keep K278 nin0).keep K281 (ninS (by first | assumption | exact Ne.symm (by assumption) | exact own_ne (by omega)) nin0)).keep K286 nin0).keep K291 (ninS (by first | assumption | exact Ne.symm (by assumption) | exact own_ne (by omega)) nin0)).keep K296 nin0)) hZ (own_w hw 122 rfl) (own_w hw 100 rfl) (by decide) (by decide)) qa300 qb300 qc300 (g := (mkF m 15 #[.val (.ref a1), .val (.ref q0), .val (.ref o296), .val (.ref a278), .val (.ref p1)] [(.ref a278)])) rfl (by rw [hml]; rfl) (Steps.refl _) (argsL := []) (rest := []) (lenOf own_pd14 rfl) rfl (by show 2 * 0 + _ ≤ _; exact Nat.le_of_eq rfl) (hb hby own_d30_15) (fun _ _ => ⟨rfl, e296, Nat.le_of_ble_eq_true rfl, Nat.le_of_ble_eq_true rfl⟩)
  dsimp only [Pt.U, Pt.locs, Pt.cells, Pt.slots] at X300 l300 y300 z300 st300 hQ300
  subst l300 y300 z300
  obtain ⟨rfl, M300, e300⟩ := hQ300
  have N300 := Fr.app N296 M300
  refine own_go (fun _ k => st300.trans k) ?_
  show own_E p e below _ T300 (mkF m 20 #[.val (.ref a1), .val (.ref q0), .val (.ref o296), .val (.ref a278), .val (.ref p1)] [(.int (own_hn (2 : Int32) (3 : Int32)))])
  refine own_ifNo X300 hx (hb hby own_d30_20) (XT.i0_eq_f (by decide)) ?_
  show own_E p e below _ T300 (mkF m 23 #[.val (.ref a1), .val (.ref q0), .val (.ref o296), .val (.ref a278), .val (.ref p1)] [])
  refine own_aloadN X300 hx (hb hby own_d30_23) rfl rfl ?_
  show own_E p e below _ T300 (mkF m 24 #[.val (.ref a1), .val (.ref q0), .val (.ref o296), .val (.ref a278), .val (.ref p1)] [(.ref a278)])
  obtain ⟨cq301, kq301, qa301, qb301, qc301⟩ := isOf hZ e300 ((((A278.keep K281).keep K286).keep K291).keep K296)
  obtain ⟨_, _, ⟨T301, L301, k301, n301⟩, -, X301, ⟨Lc301, hQ301, l301, y301, z301⟩, st301⟩ := X300.interfaceBack hx (xi := (⟨"java/util/Iterator", "next", "()Ljava/lang/Object;"⟩ : MethodName)) (y := (⟨"java/util/ArrayList$Itr", "next", "()Ljava/lang/Object;"⟩ : MethodName)) hown (mvT hZ (own_w hw 169 rfl)) (mvT hZ (own_w hw 170 rfl)) (mvT hZ (own_w hw 171 rfl)) (mvT hZ (own_w hw 172 rfl)) (mvT hZ (own_w hw 173 rfl)) (mvT hZ (own_w hw 174 rfl)) (mvT hZ (own_w hw 175 rfl)) (mvT hZ (own_w hw 121 rfl)) (by decide) (backOf (W := 0) (own_rmNX l Z a0 hw [] a278 al d p2 kd [.ref p0, .ref p1, .ref p2] 2 3 3 3 (1 : Int32) h296 n0 (by omega) (F291.keep K296 nin0) (G291.keep K296 nin0) (J291.keep K296 nin0) (R291.keep K296 nin0) ((((A278.keep K281).keep K286).keep K291).keep K296) (((((LD.keep K278 nin0).keep K281 (ninS (by first | assumption | exact Ne.symm (by assumption) | exact own_ne (by omega)) nin0)).keep K286 nin0).keep K291 (ninS (by first | assumption | exact Ne.symm (by assumption) | exact own_ne (by omega)) nin0)).keep K296 nin0) (((((LZ.keep K278 nin0).keep K281 (ninS (by first | assumption | exact Ne.symm (by assumption) | exact own_ne (by omega)) nin0)).keep K286 nin0).keep K291 (ninS (by first | assumption | exact Ne.symm (by assumption) | exact own_ne (by omega)) nin0)).keep K296 nin0) (((((LM.keep K278 nin0).keep K281 (ninS (by first | assumption | exact Ne.symm (by assumption) | exact own_ne (by omega)) nin0)).keep K286 nin0).keep K291 (ninS (by first | assumption | exact Ne.symm (by assumption) | exact own_ne (by omega)) nin0)).keep K296 nin0) (((((LV.keep K278 nin0).keep K281 (ninS (by first | assumption | exact Ne.symm (by assumption) | exact own_ne (by omega)) nin0)).keep K286 nin0).keep K291 (ninS (by first | assumption | exact Ne.symm (by assumption) | exact own_ne (by omega)) nin0)).keep K296 nin0) (by decide) (by decide) (by decide) (by decide) rfl (by omega) (own_ne (by omega)) (own_ne (by omega))) hZ (own_w hw 176 rfl) (own_w hw 100 rfl) (by decide) (by decide)) qa301 qb301 qc301 (g := (mkF m 24 #[.val (.ref a1), .val (.ref q0), .val (.ref o296), .val (.ref a278), .val (.ref p1)] [(.ref a278)])) rfl (by rw [hml]; rfl) (Steps.refl _) (argsL := []) (rest := []) (lenOf own_pd15 rfl) rfl (by show 2 * 0 + _ ≤ _; exact Nat.le_of_eq rfl) (hb hby own_d30_24) (fun _ _ => ⟨rfl, e300, Nat.le_of_ble_eq_true rfl, Nat.le_of_ble_eq_true rfl⟩)
  dsimp only [Pt.U, Pt.locs, Pt.cells, Pt.slots] at X301 l301 y301 z301 st301 hQ301
  subst l301 y301 z301
  obtain ⟨rfl, M301, K301, F301, G301, J301, R301⟩ := hQ301
  have N301 := Fr.app N300 M301
  refine own_go (fun _ k => st301.trans k) ?_
  have z301 : h296.size ≤ T301.heap.size := K301.1
  show own_E p e below _ T301 (mkF m 29 #[.val (.ref a1), .val (.ref q0), .val (.ref o296), .val (.ref a278), .val (.ref p1)] [(.ref p2)])
  obtain ⟨T302, X302, e302, st302⟩ := castY X301 hx hZ hown (own_w hw 183 rfl) (rfl : T301.heap = T301.heap) (Ins.self ((((((PX2.keep K278).keep K281).keep K286).keep K291).keep K296).keep K301)) (g := (mkF m 29 #[.val (.ref a1), .val (.ref q0), .val (.ref o296), .val (.ref a278), .val (.ref p1)] [(.ref p2)])) rfl rfl (hb hby own_d30_29)
  refine own_go st302 ?_
  show own_E p e below _ T302 (mkF m 32 #[.val (.ref a1), .val (.ref q0), .val (.ref o296), .val (.ref a278), .val (.ref p1)] [(.ref p2)])
  refine own_astore X302 hx (hb hby own_d30_32) rfl (l' := #[.val (.ref a1), .val (.ref q0), .val (.ref o296), .val (.ref a278), .val (.ref p2)]) rfl ?_
  show own_E p e below _ T302 (mkF m 34 #[.val (.ref a1), .val (.ref q0), .val (.ref o296), .val (.ref a278), .val (.ref p2)] [])
  refine own_aload X302 hx (hb hby own_d30_34) rfl rfl ?_
  show own_E p e below _ T302 (mkF m 36 #[.val (.ref a1), .val (.ref q0), .val (.ref o296), .val (.ref a278), .val (.ref p2)] [(.ref p2)])
  obtain ⟨cq303, kq303, qa303, qb303, qc303⟩ := isOf hZ e302 ((((((PX2.keep K278).keep K281).keep K286).keep K291).keep K296).keep K301)
  obtain ⟨_, _, ⟨T303, L303, k303, n303⟩, -, X303, ⟨Lc303, hQ303, l303, y303, z303⟩, st303⟩ := X302.virtualBack hx (y := (⟨"com/example/narrow_gate/narrowgate/Target$Parameter", "name", "()Ljava/lang/String;"⟩ : MethodName)) (z := (⟨"com/example/narrow_gate/narrowgate/Target$Parameter", "name", "()Ljava/lang/String;"⟩ : MethodName)) hown (mvT hZ (own_w hw 185 rfl)) (mvT hZ (own_w hw 186 rfl)) (notFace_of_selects (args := #[]) (mvT hZ (own_w hw 188 rfl))) (mvT hZ (own_w hw 188 rfl)) (mvT hZ (own_w hw 187 rfl)) (by decide) (backOf (W := 0) (own_rmNM l Z a0 hw [] p2 s2 T301.heap n0 (by omega) ((((((PN2.keep K278 nin0).keep K281 (ninS (by first | assumption | exact Ne.symm (by assumption) | exact own_ne (by omega)) nin0)).keep K286 nin0).keep K291 (ninS (by first | assumption | exact Ne.symm (by assumption) | exact own_ne (by omega)) nin0)).keep K296 nin0).keep K301 (ninS (by first | assumption | exact Ne.symm (by assumption) | exact own_ne (by omega)) nin0))) hZ (own_w hw 189 rfl) (own_w hw 28 rfl) (by decide) (by decide)) qa303 qc303 (g := (mkF m 36 #[.val (.ref a1), .val (.ref q0), .val (.ref o296), .val (.ref a278), .val (.ref p2)] [(.ref p2)])) rfl (by rw [hml]; rfl) (Steps.refl _) (argsL := []) (rest := []) (lenOf own_pd16 rfl) rfl (by show 2 * 0 + _ ≤ _; exact Nat.le_of_eq rfl) (hb hby own_d30_36) (fun _ _ => ⟨rfl, e302, Nat.le_of_ble_eq_true rfl, Nat.le_of_ble_eq_true rfl⟩)
  dsimp only [Pt.U, Pt.locs, Pt.cells, Pt.slots] at X303 l303 y303 z303 st303 hQ303
  subst l303 y303 z303
  obtain ⟨rfl, M303, e303⟩ := hQ303
  have N303 := Fr.app N301 M303
  refine own_go (fun _ k => st303.trans k) ?_
  show own_E p e below _ T303 (mkF m 39 #[.val (.ref a1), .val (.ref q0), .val (.ref o296), .val (.ref a278), .val (.ref p2)] [(.ref s2)])
  have lt304 := own_lt ((own_Sx (own_Sk PS2 (((((((Keep.refl _ _).trans K278 all0).trans K281 (allS (Or.inr (by omega)) all0)).trans K286 all0).trans K291 (allS (Or.inr (by omega)) all0)).trans K296 all0).trans K301 (allS (Or.inr (by omega)) all0))))).lt
  refine own_aloadN X303 hx (hb hby own_d30_39) rfl rfl ?_
  show own_E p e below _ T303 (mkF m 40 #[.val (.ref a1), .val (.ref q0), .val (.ref o296), .val (.ref a278), .val (.ref p2)] [(.ref q0), (.ref s2)])
  obtain ⟨cq305, kq305, qa305, qb305, qc305⟩ := isOf hZ e303 (own_Sx (own_Sk PS2 (((((((Keep.refl _ _).trans K278 all0).trans K281 (allS (Or.inr (by omega)) all0)).trans K286 all0).trans K291 (allS (Or.inr (by omega)) all0)).trans K296 all0).trans K301 (allS (Or.inr (by omega)) all0))))
  obtain ⟨_, _, ⟨T305, L305, k305, n305⟩, -, X305, ⟨Lc305, hQ305, l305, y305, z305⟩, st305⟩ := X303.virtualBack hx (y := (⟨"java/lang/String", "equals", "(Ljava/lang/Object;)Z"⟩ : MethodName)) (z := (⟨"java/lang/String", "equals", "(Ljava/lang/Object;)Z"⟩ : MethodName)) hown (mvT hZ (own_w hw 190 rfl)) (mvT hZ (own_w hw 191 rfl)) (notFace_of_selects (args := #[]) (mvT hZ (own_w hw 193 rfl))) (mvT hZ (own_w hw 193 rfl)) (mvT hZ (own_w hw 192 rfl)) (by decide) (backOf (W := 0) (own_rmEQ l Z a0 hw [] s2 q0 y2 x2 yq xq G1 T301.heap n0 (by omega) ((((((O0.keep K278 all0).keep K281 (allS (by omega) all0)).keep K286 all0).keep K291 (allS (by omega) all0)).keep K296 all0).keep K301 (allS (by omega) all0)) SC P1 (own_Sk PS2 (((((((Keep.refl _ _).trans K278 all0).trans K281 (allS (Or.inr (by omega)) all0)).trans K286 all0).trans K291 (allS (Or.inr (by omega)) all0)).trans K296 all0).trans K301 (allS (Or.inr (by omega)) all0))) (own_Sk SQ (((((((Keep.refl _ _).trans K278 all0).trans K281 (allS (Or.inr (by omega)) all0)).trans K286 all0).trans K291 (allS (Or.inr (by omega)) all0)).trans K296 all0).trans K301 (allS (Or.inr (by omega)) all0))) he2 heq) hZ (own_w hw 194 rfl) (own_w hw 2 rfl) (by decide) (by decide)) qa305 qc305 (g := (mkF m 40 #[.val (.ref a1), .val (.ref q0), .val (.ref o296), .val (.ref a278), .val (.ref p2)] [(.ref q0), (.ref s2)])) rfl (by rw [hml]; rfl) (Steps.refl _) (argsL := [(.ref q0)]) (rest := []) (lenOf own_pd17 rfl) rfl (by show 2 * 0 + _ ≤ _; exact Nat.le_of_eq rfl) (hb hby own_d30_40) (fun _ _ => ⟨rfl, e303, Nat.le_of_ble_eq_true rfl, Nat.le_of_ble_eq_true rfl⟩)
  dsimp only [Pt.U, Pt.locs, Pt.cells, Pt.slots] at X305 l305 y305 z305 st305 hQ305
  subst l305 y305 z305
  obtain ⟨rfl, M305, e305⟩ := hQ305
  have N305 := Fr.app N303 M305
  refine own_go (fun _ k => st305.trans k) ?_
  show own_E p e below _ T305 (mkF m 43 #[.val (.ref a1), .val (.ref q0), .val (.ref o296), .val (.ref a278), .val (.ref p2)] [(.int (own_seq y2 x2 yq xq))])
  suffices hj306 : ∀ (T306 : State) (L306 : List Loc) (h306 : Heap) (o306 : Addr), Stand p l e ({ frames := 3, cells := 4, slots := 7, locals := 60 } : Room) s m #[(.ref a1), (.ref q0)] below meth c T306 L306 4 7 → T306.heap = h306 → Fr n0 L306 → Keep T301.heap h306 [] → Exa Z h306 o306 "java/util/Optional" → Fld Z h306 o306 "java/util/Optional" "value" "Ljava/lang/Object;" (own_pick (own_seq y2 x2 yq xq) (.ref v2) (own_pick (own_seq y1 x1 yq xq) (.ref v1) (own_pick (own_seq y0 x0 yq xq) (.ref v0) .null))) → own_E p e below (own_P s (own_QM Z (own_pick (own_seq y2 x2 yq xq) (.ref v2) (own_pick (own_seq y1 x1 yq xq) (.ref v1) (own_pick (own_seq y0 x0 yq xq) (.ref v0) .null))) h0 n0) ({ frames := 3, cells := 4, slots := 7, locals := 60 } : Room).cells ({ frames := 3, cells := 4, slots := 7, locals := 60 } : Room).slots) T306 (mkF m 14 #[.val (.ref a1), .val (.ref q0), .val (.ref o306), .val (.ref a278), .val (.ref p2)] []) from by
    by_cases hm : (own_seq y2 x2 yq xq) = 0
    · skip
      refine own_ifYes X305 hx (hb hby own_d30_43) (XT.i0_eq_t hm) 55 (by decide) (by decide) ?_
      show own_E p e below _ T305 (mkF m 55 #[.val (.ref a1), .val (.ref q0), .val (.ref o296), .val (.ref a278), .val (.ref p2)] [])
      refine own_goto X305 hx (hb hby own_d30_55) 14 (by decide) (by decide) ?_
      show own_E p e below _ T305 (mkF m 14 #[.val (.ref a1), .val (.ref q0), .val (.ref o296), .val (.ref a278), .val (.ref p2)] [])
      exact hj306 _ _ _ _ (X305.mono (by decide) (by decide)) e305 N305 (Keep.refl _ _) (A296.keep K301) (by rw [own_pick, if_pos hm]; exact (F296.keep K301 (ninS (by first | assumption | exact Ne.symm (by assumption) | exact own_ne (by omega)) nin0)))
    · skip
      refine own_ifNo X305 hx (hb hby own_d30_43) (XT.i0_eq_f hm) ?_
      show own_E p e below _ T305 (mkF m 46 #[.val (.ref a1), .val (.ref q0), .val (.ref o296), .val (.ref a278), .val (.ref p2)] [])
      refine own_aload X305 hx (hb hby own_d30_46) rfl rfl ?_
      show own_E p e below _ T305 (mkF m 48 #[.val (.ref a1), .val (.ref q0), .val (.ref o296), .val (.ref a278), .val (.ref p2)] [(.ref p2)])
      obtain ⟨cq307, kq307, qa307, qb307, qc307⟩ := isOf hZ e305 ((((((PX2.keep K278).keep K281).keep K286).keep K291).keep K296).keep K301)
      obtain ⟨_, _, ⟨T307, L307, k307, n307⟩, -, X307, ⟨Lc307, hQ307, l307, y307, z307⟩, st307⟩ := X305.virtualBack hx (y := (⟨"com/example/narrow_gate/narrowgate/Target$Parameter", "value", "()Ljava/lang/String;"⟩ : MethodName)) (z := (⟨"com/example/narrow_gate/narrowgate/Target$Parameter", "value", "()Ljava/lang/String;"⟩ : MethodName)) hown (mvT hZ (own_w hw 198 rfl)) (mvT hZ (own_w hw 199 rfl)) (notFace_of_selects (args := #[]) (mvT hZ (own_w hw 201 rfl))) (mvT hZ (own_w hw 201 rfl)) (mvT hZ (own_w hw 200 rfl)) (by decide) (backOf (W := 0) (own_rmVL l Z a0 hw [] p2 v2 T301.heap n0 (by omega) ((((((PV2.keep K278 nin0).keep K281 (ninS (by first | assumption | exact Ne.symm (by assumption) | exact own_ne (by omega)) nin0)).keep K286 nin0).keep K291 (ninS (by first | assumption | exact Ne.symm (by assumption) | exact own_ne (by omega)) nin0)).keep K296 nin0).keep K301 (ninS (by first | assumption | exact Ne.symm (by assumption) | exact own_ne (by omega)) nin0))) hZ (own_w hw 202 rfl) (own_w hw 28 rfl) (by decide) (by decide)) qa307 qc307 (g := (mkF m 48 #[.val (.ref a1), .val (.ref q0), .val (.ref o296), .val (.ref a278), .val (.ref p2)] [(.ref p2)])) rfl (by rw [hml]; rfl) (Steps.refl _) (argsL := []) (rest := []) (lenOf own_pd16 rfl) rfl (by show 2 * 0 + _ ≤ _; exact Nat.le_of_eq rfl) (hb hby own_d30_48) (fun _ _ => ⟨rfl, e305, Nat.le_of_ble_eq_true rfl, Nat.le_of_ble_eq_true rfl⟩)
      dsimp only [Pt.U, Pt.locs, Pt.cells, Pt.slots] at X307 l307 y307 z307 st307 hQ307
      subst l307 y307 z307
      obtain ⟨rfl, M307, e307⟩ := hQ307
      have N307 := Fr.app N305 M307
      refine own_go (fun _ k => st307.trans k) ?_
      show own_E p e below _ T307 (mkF m 51 #[.val (.ref a1), .val (.ref q0), .val (.ref o296), .val (.ref a278), .val (.ref p2)] [(.ref v2)])
      obtain ⟨_, _, ⟨T308, L308, k308, n308⟩, -, X308, ⟨Lc308, hQ308, l308, y308, z308⟩, st308⟩ := Jvm.LawKit.callS X307 hx (y := (⟨"java/util/Optional", "of", "(Ljava/lang/Object;)Ljava/util/Optional;"⟩ : MethodName)) hown (mvT hZ (own_w hw 203 rfl)) (mvT hZ (own_w hw 204 rfl)) (mvT hZ (own_w hw 86 rfl)) (mvT hZ (own_w hw 205 rfl)) (by decide) (backOf (W := 0) (own_rmON l Z a0 hw [] v2 T301.heap n0 (by omega)) hZ (own_w hw 205 rfl) (own_w hw 86 rfl) (by decide) (by decide)) (g := (mkF m 51 #[.val (.ref a1), .val (.ref q0), .val (.ref o296), .val (.ref a278), .val (.ref p2)] [(.ref v2)])) rfl (by rw [hml]; rfl) (argsL := [(.ref v2)]) (rest := []) (lenOf own_pd18 rfl) rfl (by show 2 * 0 + _ ≤ _; exact Nat.le_of_eq rfl) (hb hby own_d30_51) (fun _ _ => ⟨rfl, e307, Nat.le_of_ble_eq_true rfl, Nat.le_of_ble_eq_true rfl⟩)
      dsimp only [Pt.U, Pt.locs, Pt.cells, Pt.slots] at X308 l308 y308 z308 st308 hQ308
      subst l308 y308 z308
      obtain ⟨a308, rfl, M308, K308, A308, F308⟩ := hQ308
      have N308 := Fr.app N307 M308
      refine own_go st308 ?_
      have z308 : T301.heap.size ≤ T308.heap.size := K308.1
      show own_E p e below _ T308 (mkF m 54 #[.val (.ref a1), .val (.ref q0), .val (.ref o296), .val (.ref a278), .val (.ref p2)] [(.ref a308)])
      refine own_astoreN X308 hx (hb hby own_d30_54) rfl (l' := #[.val (.ref a1), .val (.ref q0), .val (.ref a308), .val (.ref a278), .val (.ref p2)]) rfl ?_
      show own_E p e below _ T308 (mkF m 55 #[.val (.ref a1), .val (.ref q0), .val (.ref a308), .val (.ref a278), .val (.ref p2)] [])
      refine own_goto X308 hx (hb hby own_d30_55) 14 (by decide) (by decide) ?_
      show own_E p e below _ T308 (mkF m 14 #[.val (.ref a1), .val (.ref q0), .val (.ref a308), .val (.ref a278), .val (.ref p2)] [])
      exact hj306 _ _ _ _ (X308.mono (by decide) (by decide)) (rfl : T308.heap = T308.heap) N308 K308 A308 (by rw [own_pick, if_neg hm]; exact F308)
  intro T306 L306 h306 o306 X306 e306 N306 K306 A306 F306
  have z306 : T301.heap.size ≤ h306.size := K306.1
  have lt309 := own_lt (A306).lt
  have no306 : o306 ≠ a278 := Jvm.RoadKit.ne_exa A306 ((((((A278.keep K281).keep K286).keep K291).keep K296).keep K301).keep K306) (by decide)
  show own_E p e below _ T306 (mkF m 14 #[.val (.ref a1), .val (.ref q0), .val (.ref o306), .val (.ref a278), .val (.ref p2)] [])
  refine own_aloadN X306 hx (hb hby own_d30_14) rfl rfl ?_
  show own_E p e below _ T306 (mkF m 15 #[.val (.ref a1), .val (.ref q0), .val (.ref o306), .val (.ref a278), .val (.ref p2)] [(.ref a278)])
  obtain ⟨cq310, kq310, qa310, qb310, qc310⟩ := isOf hZ e306 ((((((A278.keep K281).keep K286).keep K291).keep K296).keep K301).keep K306)
  obtain ⟨_, _, ⟨T310, L310, k310, n310⟩, -, X310, ⟨Lc310, hQ310, l310, y310, z310⟩, st310⟩ := X306.interfaceBack hx (xi := (⟨"java/util/Iterator", "hasNext", "()Z"⟩ : MethodName)) (y := (⟨"java/util/ArrayList$Itr", "hasNext", "()Z"⟩ : MethodName)) hown (mvT hZ (own_w hw 114 rfl)) (mvT hZ (own_w hw 115 rfl)) (mvT hZ (own_w hw 116 rfl)) (mvT hZ (own_w hw 117 rfl)) (mvT hZ (own_w hw 118 rfl)) (mvT hZ (own_w hw 119 rfl)) (mvT hZ (own_w hw 120 rfl)) (mvT hZ (own_w hw 121 rfl)) (by decide) (backOf (W := 0) (own_rmHN l Z a0 hw [] a278 al 3 3 h306 n0 (by omega) (F301.keep K306 nin0) (J301.keep K306 nin0) (((((((LZ.keep K278 nin0).keep K281 (ninS (by first | assumption | exact Ne.symm (by assumption) | exact own_ne (by omega)) nin0)).keep K286 nin0).keep K291 (ninS (by first | assumption | exact Ne.symm (by assumption) | exact own_ne (by omega)) nin0)).keep K296 nin0).keep K301 (ninS (by first | assumption | exact Ne.symm (by assumption) | exact own_ne (by omega)) nin0)).keep K306 nin0)) hZ (own_w hw 122 rfl) (own_w hw 100 rfl) (by decide) (by decide)) qa310 qb310 qc310 (g := (mkF m 15 #[.val (.ref a1), .val (.ref q0), .val (.ref o306), .val (.ref a278), .val (.ref p2)] [(.ref a278)])) rfl (by rw [hml]; rfl) (Steps.refl _) (argsL := []) (rest := []) (lenOf own_pd14 rfl) rfl (by show 2 * 0 + _ ≤ _; exact Nat.le_of_eq rfl) (hb hby own_d30_15) (fun _ _ => ⟨rfl, e306, Nat.le_of_ble_eq_true rfl, Nat.le_of_ble_eq_true rfl⟩)
  dsimp only [Pt.U, Pt.locs, Pt.cells, Pt.slots] at X310 l310 y310 z310 st310 hQ310
  subst l310 y310 z310
  obtain ⟨rfl, M310, e310⟩ := hQ310
  have N310 := Fr.app N306 M310
  refine own_go (fun _ k => st310.trans k) ?_
  show own_E p e below _ T310 (mkF m 20 #[.val (.ref a1), .val (.ref q0), .val (.ref o306), .val (.ref a278), .val (.ref p2)] [(.int (own_hn (3 : Int32) (3 : Int32)))])
  refine own_ifYes X310 hx (hb hby own_d30_20) (XT.i0_eq_t (by decide)) 58 (by decide) (by decide) ?_
  show own_E p e below _ T310 (mkF m 58 #[.val (.ref a1), .val (.ref q0), .val (.ref o306), .val (.ref a278), .val (.ref p2)] [])
  refine own_aloadN X310 hx (hb hby own_d30_58) rfl rfl ?_
  show own_E p e below _ T310 (mkF m 59 #[.val (.ref a1), .val (.ref q0), .val (.ref o306), .val (.ref a278), .val (.ref p2)] [(.ref o306)])
  refine own_retA X310 hx Bd.returns rfl rfl hlk (hb hby own_d30_59) (by decide) (by decide) ?_
  rw [e310]
  exact ⟨_, rfl, N310, ((((((((Keep.refl _ _).trans K278 all0).trans K281 (allS (Or.inr (by omega)) all0)).trans K286 all0).trans K291 (allS (Or.inr (by omega)) all0)).trans K296 all0).trans K301 (allS (Or.inr (by omega)) all0)).trans K306 all0), A306, F306⟩

theorem own_b0 {z : Int32} (h : z = 0) : own_b z = 0 := by rw [own_b, if_pos h]
theorem own_b1 {z : Int32} (h : ¬ z = 0) : own_b z = 1 := by rw [own_b, if_neg h]
theorem own_pick0 {m : Int32} {v r : Value} (h : m = 0) : own_pick m v r = r := by rw [own_pick, if_pos h]
theorem own_pick1 {m : Int32} {v r : Value} (h : ¬ m = 0) : own_pick m v r = v := by rw [own_pick, if_neg h]
theorem own_Sem {Z : State} {h : Heap} {a b : Addr} {k : ClassId} {e x : Int32} (he : ¬ e = 0) (f1 : Exa Z h a "java/lang/String") (f2 : Fld Z h a "java/lang/String" "coder" "B" (.int (0 : Int32))) (f3 : Fld Z h a "java/lang/String" "value" "[B" (.ref b)) (f4 : Arv Z h b k .byte (0 : Int32) [] (.int (0 : Int32))) : own_S Z h a e x := ⟨b, k, f1, f2, f3, by rw [own_len, own_vs, if_neg he, if_neg he]; exact f4⟩
def own_Q0 (n0 : Nat) (v : Option Value) (h : Heap) (L : List Loc) : Prop := v = some (.int 1) ∧ Fr n0 L
theorem own_pn11 : plainName "com/example/narrow_gate/narrowgate/TargetParameterPinLaw" = true := by first | (simp [plainName, overriddenIn]; done) | decide +kernel
theorem own_ef43 (m : MethodId) (x0 : Int32) (x1 : Int32) (x2 : Int32) (x3 : Int32) : entryFrame m #[(.int x0), (.int x1), (.int x2), (.int x3)] maxLocals = mkF m 0 #[.val (.int x0), .val (.int x1), .val (.int x2), .val (.int x3), .unset, .unset, .unset, .unset, .unset, .unset, .unset, .unset, .unset, .unset, .unset, .unset, .unset, .unset, .unset, .unset, .unset, .unset, .unset, .unset, .unset, .unset, .unset, .unset, .unset, .unset, .unset] [] := by first | (simp [entryFrame, mkF, argsToLocals, Value.category, maxLocals]; done) | rfl
theorem own_pd19 : parseMethodDescriptor "(C)Ljava/lang/String;" = some ⟨[.char], some (.object "java/lang/String")⟩ := by decide +kernel
theorem own_pd20 : parseMethodDescriptor "(Ljava/lang/String;Ljava/lang/String;Ljava/lang/String;)V" = some ⟨[(.object "java/lang/String"), (.object "java/lang/String"), (.object "java/lang/String")], none⟩ := by decide +kernel
theorem own_pd21 : parseMethodDescriptor "(Ljava/util/List;Ljava/util/List;)V" = some ⟨[(.object "java/util/List"), (.object "java/util/List")], none⟩ := by decide +kernel
theorem own_pd22 : parseMethodDescriptor "(Ljava/lang/String;)Ljava/util/Optional;" = some ⟨[(.object "java/lang/String")], some (.object "java/util/Optional")⟩ := by decide +kernel
set_option maxRecDepth 65536 in
set_option maxHeartbeats 40000000 in
theorem own_rm0 (l : Launch) (Z : State) (a0 : Array Value) (hw : ∀ d ∈ tables_1, d.before a0 Z = true) (ws : List Jvm.Cond) (i0 i1 i2 i3 G1 : Int32) (wd we : Addr) (cwd : Cell) (h0 : Heap) (n0 : Nat) (Z0 : n0 ≤ h0.size) (O0 : Old Z n0 h0) (SC : Sta Z Z.heap "java/lang/String" "COMPACT_STRINGS" "Z" (.int G1)) (P1 : ¬ G1 = 0) (SD : Sta Z Z.heap "java/util/ArrayList" "DEFAULTCAPACITY_EMPTY_ELEMENTDATA" "[Ljava/lang/Object;" (.ref wd)) (AW : Arr Z Z.heap wd cwd (.object "java/lang/Object")) (zw : cwd.slots.size = 0) (SE : Sta Z Z.heap "java/util/Optional" "EMPTY" "Ljava/util/Optional;" (.ref we)) (EX : Exa Z Z.heap we "java/util/Optional") (EF : Fld Z Z.heap we "java/util/Optional" "value" "Ljava/lang/Object;" .null) :
    MetFree l x (head1 (Jvm.Cond.code x code maxLocals ret :: ws) room_1) (fun a U => a = #[(.int i0), (.int i1), (.int i2), (.int i3)] ∧ Z.Warmed39 U.vm ∧ U.heap = h0 ∧ CHv Z own_EL U.vm h0) (fun _ _ _ _ _ => True) (fun _ U o U' => ∃ v L, o = .returned v ∧ own_Q0 n0 v U'.heap L ∧ CHr Z own_EL U.vm U.heap U'.vm U'.heap ∧ ReturnedEndW U o U' L room_1.cells room_1.slots) := by
  refine MetFree.of_bodySF (plainFor_of_name own_pn11) hisR ?_
  intro p e s m args below meth c s₁ Bd hml0 hP hK
  obtain ⟨rfl, hZ, hh, HC⟩ := hP
  have hx := Bd.exec
  have hby := Bd.bytes
  have hlk : meth.locks = false := Bd.notSynchronized
  have hml : c.maxLocals = 31 := hml0
  have hown : s.vm.findClass "com/example/narrow_gate/narrowgate/TargetParameterPinLaw" = some m.cls := findClass_of_methodNamed Bd.named
  have hnm := (name_of_methodNamed Bd.named Bd.method).1
  have X0 : Stand p l e room_1 (s.setVm s.vm) m #[(.int i0), (.int i1), (.int i2), (.int i3)] below meth c s₁ [] 0 0 := Stand.of_body Bd
  have e0 : s₁.heap = h0 := by rw [← hh, Bd.state]; rfl
  have N0 := Fr.nil n0
  have hS : s.Since s.vm s.heap.size := (State.WarmedH.refl s).since _
  have hk0 : s.heap.size ≤ h0.size := Nat.le_of_eq (congrArg Array.size hh)
  have C0 : CHr Z own_EL s.vm h0 s.vm h0 := CHr.refl HC
  have hEL : EW Z a0 own_EL := own_EW hw
  have wS := own_wS hw
  have hZ : Z.Warmed39 (s.setVm s.vm).vm := hZ
  have hown : (s.setVm s.vm).vm.findClass "com/example/narrow_gate/narrowgate/TargetParameterPinLaw" = some m.cls := hown
  show own_E p e below (own_PW s Z own_EL (own_Q0 n0) room_1.cells room_1.slots) s₁ (entryFrame m #[(.int i0), (.int i1), (.int i2), (.int i3)] maxLocals)
  refine own_cast (own_ef43 m i0 i1 i2 i3) ?_
  have od311 := (O0).1
  show own_E p e below _ s₁ (mkF m 0 #[.val (.int i0), .val (.int i1), .val (.int i2), .val (.int i3), .unset, .unset, .unset, .unset, .unset, .unset, .unset, .unset, .unset, .unset, .unset, .unset, .unset, .unset, .unset, .unset, .unset, .unset, .unset, .unset, .unset, .unset, .unset, .unset, .unset, .unset, .unset] [])
  refine own_iloadN X0 hx (hb hby at_0) rfl ?_
  refine own_iconst X0 hx (hb hby at_1) (v := (3 : Int32)) (by decide) ?_
  refine own_iand X0 hx (hb hby at_2) (z := (i0 &&& (3 : Int32))) rfl ?_
  refine own_istore X0 hx (hb hby at_3) (l' := #[.val (.int i0), .val (.int i1), .val (.int i2), .val (.int i3), .val (.int (i0 &&& (3 : Int32))), .unset, .unset, .unset, .unset, .unset, .unset, .unset, .unset, .unset, .unset, .unset, .unset, .unset, .unset, .unset, .unset, .unset, .unset, .unset, .unset, .unset, .unset, .unset, .unset, .unset, .unset]) rfl ?_
  refine own_iloadN X0 hx (hb hby at_5) rfl ?_
  refine own_iconst X0 hx (hb hby at_6) (v := (2 : Int32)) (by decide) ?_
  refine own_iushr X0 hx (hb hby at_7) (z := (XT.ushr i0 (2 : Int32))) rfl ?_
  refine own_iconst X0 hx (hb hby at_8) (v := (1 : Int32)) (by decide) ?_
  refine own_iand X0 hx (hb hby at_9) (z := ((XT.ushr i0 (2 : Int32)) &&& (1 : Int32))) rfl ?_
  suffices hj312 : own_E p e below (own_PW s Z own_EL (own_Q0 n0) room_1.cells room_1.slots) s₁ (mkF m 18 #[.val (.int i0), .val (.int i1), .val (.int i2), .val (.int i3), .val (.int (i0 &&& (3 : Int32))), .unset, .unset, .unset, .unset, .unset, .unset, .unset, .unset, .unset, .unset, .unset, .unset, .unset, .unset, .unset, .unset, .unset, .unset, .unset, .unset, .unset, .unset, .unset, .unset, .unset, .unset] [(.int (own_b ((XT.ushr i0 (2 : Int32)) &&& (1 : Int32))))]) from by
    by_cases hz : ((XT.ushr i0 (2 : Int32)) &&& (1 : Int32)) = 0
    · skip
      refine own_ifYes X0 hx (hb hby at_10) (XT.i0_eq_t hz) 17 (by decide) (by decide) ?_
      show own_E p e below _ s₁ (mkF m 17 #[.val (.int i0), .val (.int i1), .val (.int i2), .val (.int i3), .val (.int (i0 &&& (3 : Int32))), .unset, .unset, .unset, .unset, .unset, .unset, .unset, .unset, .unset, .unset, .unset, .unset, .unset, .unset, .unset, .unset, .unset, .unset, .unset, .unset, .unset, .unset, .unset, .unset, .unset, .unset] [])
      refine own_iconst X0 hx (hb hby at_17) (v := (0 : Int32)) (by decide) ?_
      rw [own_b0 hz] at hj312
      exact hj312
    · skip
      refine own_ifNo X0 hx (hb hby at_10) (XT.i0_eq_f hz) ?_
      show own_E p e below _ s₁ (mkF m 13 #[.val (.int i0), .val (.int i1), .val (.int i2), .val (.int i3), .val (.int (i0 &&& (3 : Int32))), .unset, .unset, .unset, .unset, .unset, .unset, .unset, .unset, .unset, .unset, .unset, .unset, .unset, .unset, .unset, .unset, .unset, .unset, .unset, .unset, .unset, .unset, .unset, .unset, .unset, .unset] [])
      refine own_iconst X0 hx (hb hby at_13) (v := (1 : Int32)) (by decide) ?_
      refine own_goto X0 hx (hb hby at_14) 18 (by decide) (by decide) ?_
      show own_E p e below _ s₁ (mkF m 18 #[.val (.int i0), .val (.int i1), .val (.int i2), .val (.int i3), .val (.int (i0 &&& (3 : Int32))), .unset, .unset, .unset, .unset, .unset, .unset, .unset, .unset, .unset, .unset, .unset, .unset, .unset, .unset, .unset, .unset, .unset, .unset, .unset, .unset, .unset, .unset, .unset, .unset, .unset, .unset] [(.int (1 : Int32))])
      rw [own_b1 hz] at hj312
      exact hj312
  generalize h_y0 : own_b ((XT.ushr i0 (2 : Int32)) &&& (1 : Int32)) = y0
  have t_y0 : y0 = 0 ∨ y0 = 1 := h_y0 ▸ own_b01 _
  show own_E p e below _ s₁ (mkF m 18 #[.val (.int i0), .val (.int i1), .val (.int i2), .val (.int i3), .val (.int (i0 &&& (3 : Int32))), .unset, .unset, .unset, .unset, .unset, .unset, .unset, .unset, .unset, .unset, .unset, .unset, .unset, .unset, .unset, .unset, .unset, .unset, .unset, .unset, .unset, .unset, .unset, .unset, .unset, .unset] [(.int y0)])
  refine own_istore X0 hx (hb hby at_18) (l' := #[.val (.int i0), .val (.int i1), .val (.int i2), .val (.int i3), .val (.int (i0 &&& (3 : Int32))), .val (.int y0), .unset, .unset, .unset, .unset, .unset, .unset, .unset, .unset, .unset, .unset, .unset, .unset, .unset, .unset, .unset, .unset, .unset, .unset, .unset, .unset, .unset, .unset, .unset, .unset, .unset]) rfl ?_
  refine own_iloadN X0 hx (hb hby at_20) rfl ?_
  refine own_iconst X0 hx (hb hby at_21) (v := (3 : Int32)) (by decide) ?_
  refine own_iushr X0 hx (hb hby at_22) (z := (XT.ushr i0 (3 : Int32))) rfl ?_
  refine own_iconst X0 hx (hb hby at_23) (v := (1 : Int32)) (by decide) ?_
  refine own_iand X0 hx (hb hby at_24) (z := ((XT.ushr i0 (3 : Int32)) &&& (1 : Int32))) rfl ?_
  suffices hj313 : own_E p e below (own_PW s Z own_EL (own_Q0 n0) room_1.cells room_1.slots) s₁ (mkF m 33 #[.val (.int i0), .val (.int i1), .val (.int i2), .val (.int i3), .val (.int (i0 &&& (3 : Int32))), .val (.int y0), .unset, .unset, .unset, .unset, .unset, .unset, .unset, .unset, .unset, .unset, .unset, .unset, .unset, .unset, .unset, .unset, .unset, .unset, .unset, .unset, .unset, .unset, .unset, .unset, .unset] [(.int (own_b ((XT.ushr i0 (3 : Int32)) &&& (1 : Int32))))]) from by
    by_cases hz : ((XT.ushr i0 (3 : Int32)) &&& (1 : Int32)) = 0
    · skip
      refine own_ifYes X0 hx (hb hby at_25) (XT.i0_eq_t hz) 32 (by decide) (by decide) ?_
      show own_E p e below _ s₁ (mkF m 32 #[.val (.int i0), .val (.int i1), .val (.int i2), .val (.int i3), .val (.int (i0 &&& (3 : Int32))), .val (.int y0), .unset, .unset, .unset, .unset, .unset, .unset, .unset, .unset, .unset, .unset, .unset, .unset, .unset, .unset, .unset, .unset, .unset, .unset, .unset, .unset, .unset, .unset, .unset, .unset, .unset] [])
      refine own_iconst X0 hx (hb hby at_32) (v := (0 : Int32)) (by decide) ?_
      rw [own_b0 hz] at hj313
      exact hj313
    · skip
      refine own_ifNo X0 hx (hb hby at_25) (XT.i0_eq_f hz) ?_
      show own_E p e below _ s₁ (mkF m 28 #[.val (.int i0), .val (.int i1), .val (.int i2), .val (.int i3), .val (.int (i0 &&& (3 : Int32))), .val (.int y0), .unset, .unset, .unset, .unset, .unset, .unset, .unset, .unset, .unset, .unset, .unset, .unset, .unset, .unset, .unset, .unset, .unset, .unset, .unset, .unset, .unset, .unset, .unset, .unset, .unset] [])
      refine own_iconst X0 hx (hb hby at_28) (v := (1 : Int32)) (by decide) ?_
      refine own_goto X0 hx (hb hby at_29) 33 (by decide) (by decide) ?_
      show own_E p e below _ s₁ (mkF m 33 #[.val (.int i0), .val (.int i1), .val (.int i2), .val (.int i3), .val (.int (i0 &&& (3 : Int32))), .val (.int y0), .unset, .unset, .unset, .unset, .unset, .unset, .unset, .unset, .unset, .unset, .unset, .unset, .unset, .unset, .unset, .unset, .unset, .unset, .unset, .unset, .unset, .unset, .unset, .unset, .unset] [(.int (1 : Int32))])
      rw [own_b1 hz] at hj313
      exact hj313
  generalize h_y1 : own_b ((XT.ushr i0 (3 : Int32)) &&& (1 : Int32)) = y1
  have t_y1 : y1 = 0 ∨ y1 = 1 := h_y1 ▸ own_b01 _
  show own_E p e below _ s₁ (mkF m 33 #[.val (.int i0), .val (.int i1), .val (.int i2), .val (.int i3), .val (.int (i0 &&& (3 : Int32))), .val (.int y0), .unset, .unset, .unset, .unset, .unset, .unset, .unset, .unset, .unset, .unset, .unset, .unset, .unset, .unset, .unset, .unset, .unset, .unset, .unset, .unset, .unset, .unset, .unset, .unset, .unset] [(.int y1)])
  refine own_istore X0 hx (hb hby at_33) (l' := #[.val (.int i0), .val (.int i1), .val (.int i2), .val (.int i3), .val (.int (i0 &&& (3 : Int32))), .val (.int y0), .val (.int y1), .unset, .unset, .unset, .unset, .unset, .unset, .unset, .unset, .unset, .unset, .unset, .unset, .unset, .unset, .unset, .unset, .unset, .unset, .unset, .unset, .unset, .unset, .unset, .unset]) rfl ?_
  refine own_iloadN X0 hx (hb hby at_35) rfl ?_
  refine own_iconst X0 hx (hb hby at_36) (v := (4 : Int32)) (by decide) ?_
  refine own_iushr X0 hx (hb hby at_37) (z := (XT.ushr i0 (4 : Int32))) rfl ?_
  refine own_iconst X0 hx (hb hby at_38) (v := (1 : Int32)) (by decide) ?_
  refine own_iand X0 hx (hb hby at_39) (z := ((XT.ushr i0 (4 : Int32)) &&& (1 : Int32))) rfl ?_
  suffices hj314 : own_E p e below (own_PW s Z own_EL (own_Q0 n0) room_1.cells room_1.slots) s₁ (mkF m 48 #[.val (.int i0), .val (.int i1), .val (.int i2), .val (.int i3), .val (.int (i0 &&& (3 : Int32))), .val (.int y0), .val (.int y1), .unset, .unset, .unset, .unset, .unset, .unset, .unset, .unset, .unset, .unset, .unset, .unset, .unset, .unset, .unset, .unset, .unset, .unset, .unset, .unset, .unset, .unset, .unset, .unset] [(.int (own_b ((XT.ushr i0 (4 : Int32)) &&& (1 : Int32))))]) from by
    by_cases hz : ((XT.ushr i0 (4 : Int32)) &&& (1 : Int32)) = 0
    · skip
      refine own_ifYes X0 hx (hb hby at_40) (XT.i0_eq_t hz) 47 (by decide) (by decide) ?_
      show own_E p e below _ s₁ (mkF m 47 #[.val (.int i0), .val (.int i1), .val (.int i2), .val (.int i3), .val (.int (i0 &&& (3 : Int32))), .val (.int y0), .val (.int y1), .unset, .unset, .unset, .unset, .unset, .unset, .unset, .unset, .unset, .unset, .unset, .unset, .unset, .unset, .unset, .unset, .unset, .unset, .unset, .unset, .unset, .unset, .unset, .unset] [])
      refine own_iconst X0 hx (hb hby at_47) (v := (0 : Int32)) (by decide) ?_
      rw [own_b0 hz] at hj314
      exact hj314
    · skip
      refine own_ifNo X0 hx (hb hby at_40) (XT.i0_eq_f hz) ?_
      show own_E p e below _ s₁ (mkF m 43 #[.val (.int i0), .val (.int i1), .val (.int i2), .val (.int i3), .val (.int (i0 &&& (3 : Int32))), .val (.int y0), .val (.int y1), .unset, .unset, .unset, .unset, .unset, .unset, .unset, .unset, .unset, .unset, .unset, .unset, .unset, .unset, .unset, .unset, .unset, .unset, .unset, .unset, .unset, .unset, .unset, .unset] [])
      refine own_iconst X0 hx (hb hby at_43) (v := (1 : Int32)) (by decide) ?_
      refine own_goto X0 hx (hb hby at_44) 48 (by decide) (by decide) ?_
      show own_E p e below _ s₁ (mkF m 48 #[.val (.int i0), .val (.int i1), .val (.int i2), .val (.int i3), .val (.int (i0 &&& (3 : Int32))), .val (.int y0), .val (.int y1), .unset, .unset, .unset, .unset, .unset, .unset, .unset, .unset, .unset, .unset, .unset, .unset, .unset, .unset, .unset, .unset, .unset, .unset, .unset, .unset, .unset, .unset, .unset, .unset] [(.int (1 : Int32))])
      rw [own_b1 hz] at hj314
      exact hj314
  generalize h_y2 : own_b ((XT.ushr i0 (4 : Int32)) &&& (1 : Int32)) = y2
  have t_y2 : y2 = 0 ∨ y2 = 1 := h_y2 ▸ own_b01 _
  show own_E p e below _ s₁ (mkF m 48 #[.val (.int i0), .val (.int i1), .val (.int i2), .val (.int i3), .val (.int (i0 &&& (3 : Int32))), .val (.int y0), .val (.int y1), .unset, .unset, .unset, .unset, .unset, .unset, .unset, .unset, .unset, .unset, .unset, .unset, .unset, .unset, .unset, .unset, .unset, .unset, .unset, .unset, .unset, .unset, .unset, .unset] [(.int y2)])
  refine own_istore X0 hx (hb hby at_48) (l' := #[.val (.int i0), .val (.int i1), .val (.int i2), .val (.int i3), .val (.int (i0 &&& (3 : Int32))), .val (.int y0), .val (.int y1), .val (.int y2), .unset, .unset, .unset, .unset, .unset, .unset, .unset, .unset, .unset, .unset, .unset, .unset, .unset, .unset, .unset, .unset, .unset, .unset, .unset, .unset, .unset, .unset, .unset]) rfl ?_
  refine own_iloadN X0 hx (hb hby at_50) rfl ?_
  refine own_iconst X0 hx (hb hby at_51) (v := (5 : Int32)) (by decide) ?_
  refine own_iushr X0 hx (hb hby at_52) (z := (XT.ushr i0 (5 : Int32))) rfl ?_
  refine own_iconst X0 hx (hb hby at_53) (v := (1 : Int32)) (by decide) ?_
  refine own_iand X0 hx (hb hby at_54) (z := ((XT.ushr i0 (5 : Int32)) &&& (1 : Int32))) rfl ?_
  suffices hj315 : own_E p e below (own_PW s Z own_EL (own_Q0 n0) room_1.cells room_1.slots) s₁ (mkF m 63 #[.val (.int i0), .val (.int i1), .val (.int i2), .val (.int i3), .val (.int (i0 &&& (3 : Int32))), .val (.int y0), .val (.int y1), .val (.int y2), .unset, .unset, .unset, .unset, .unset, .unset, .unset, .unset, .unset, .unset, .unset, .unset, .unset, .unset, .unset, .unset, .unset, .unset, .unset, .unset, .unset, .unset, .unset] [(.int (own_b ((XT.ushr i0 (5 : Int32)) &&& (1 : Int32))))]) from by
    by_cases hz : ((XT.ushr i0 (5 : Int32)) &&& (1 : Int32)) = 0
    · skip
      refine own_ifYes X0 hx (hb hby at_55) (XT.i0_eq_t hz) 62 (by decide) (by decide) ?_
      show own_E p e below _ s₁ (mkF m 62 #[.val (.int i0), .val (.int i1), .val (.int i2), .val (.int i3), .val (.int (i0 &&& (3 : Int32))), .val (.int y0), .val (.int y1), .val (.int y2), .unset, .unset, .unset, .unset, .unset, .unset, .unset, .unset, .unset, .unset, .unset, .unset, .unset, .unset, .unset, .unset, .unset, .unset, .unset, .unset, .unset, .unset, .unset] [])
      refine own_iconst X0 hx (hb hby at_62) (v := (0 : Int32)) (by decide) ?_
      rw [own_b0 hz] at hj315
      exact hj315
    · skip
      refine own_ifNo X0 hx (hb hby at_55) (XT.i0_eq_f hz) ?_
      show own_E p e below _ s₁ (mkF m 58 #[.val (.int i0), .val (.int i1), .val (.int i2), .val (.int i3), .val (.int (i0 &&& (3 : Int32))), .val (.int y0), .val (.int y1), .val (.int y2), .unset, .unset, .unset, .unset, .unset, .unset, .unset, .unset, .unset, .unset, .unset, .unset, .unset, .unset, .unset, .unset, .unset, .unset, .unset, .unset, .unset, .unset, .unset] [])
      refine own_iconst X0 hx (hb hby at_58) (v := (1 : Int32)) (by decide) ?_
      refine own_goto X0 hx (hb hby at_59) 63 (by decide) (by decide) ?_
      show own_E p e below _ s₁ (mkF m 63 #[.val (.int i0), .val (.int i1), .val (.int i2), .val (.int i3), .val (.int (i0 &&& (3 : Int32))), .val (.int y0), .val (.int y1), .val (.int y2), .unset, .unset, .unset, .unset, .unset, .unset, .unset, .unset, .unset, .unset, .unset, .unset, .unset, .unset, .unset, .unset, .unset, .unset, .unset, .unset, .unset, .unset, .unset] [(.int (1 : Int32))])
      rw [own_b1 hz] at hj315
      exact hj315
  generalize h_yq : own_b ((XT.ushr i0 (5 : Int32)) &&& (1 : Int32)) = yq
  have t_yq : yq = 0 ∨ yq = 1 := h_yq ▸ own_b01 _
  show own_E p e below _ s₁ (mkF m 63 #[.val (.int i0), .val (.int i1), .val (.int i2), .val (.int i3), .val (.int (i0 &&& (3 : Int32))), .val (.int y0), .val (.int y1), .val (.int y2), .unset, .unset, .unset, .unset, .unset, .unset, .unset, .unset, .unset, .unset, .unset, .unset, .unset, .unset, .unset, .unset, .unset, .unset, .unset, .unset, .unset, .unset, .unset] [(.int yq)])
  refine own_istore X0 hx (hb hby at_63) (l' := #[.val (.int i0), .val (.int i1), .val (.int i2), .val (.int i3), .val (.int (i0 &&& (3 : Int32))), .val (.int y0), .val (.int y1), .val (.int y2), .val (.int yq), .unset, .unset, .unset, .unset, .unset, .unset, .unset, .unset, .unset, .unset, .unset, .unset, .unset, .unset, .unset, .unset, .unset, .unset, .unset, .unset, .unset, .unset]) rfl ?_
  refine own_iloadN X0 hx (hb hby at_65) rfl ?_
  refine own_sipush X0 hx (hb hby at_66) (v := (255 : Int32)) (by decide) ?_
  refine own_iand X0 hx (hb hby at_69) (z := (i1 &&& (255 : Int32))) rfl ?_
  refine own_i2c X0 hx (hb hby at_70) (z := (own_c (i1 &&& (255 : Int32)))) rfl ?_
  generalize h_c0 : own_c (i1 &&& (255 : Int32)) = c0
  have u_c0 : ¬ (255 : Int32) < c0 := h_c0 ▸ (own_cb _).2
  show own_E p e below _ s₁ (mkF m 71 #[.val (.int i0), .val (.int i1), .val (.int i2), .val (.int i3), .val (.int (i0 &&& (3 : Int32))), .val (.int y0), .val (.int y1), .val (.int y2), .val (.int yq), .unset, .unset, .unset, .unset, .unset, .unset, .unset, .unset, .unset, .unset, .unset, .unset, .unset, .unset, .unset, .unset, .unset, .unset, .unset, .unset, .unset, .unset] [(.int c0)])
  refine own_istore X0 hx (hb hby at_71) (l' := #[.val (.int i0), .val (.int i1), .val (.int i2), .val (.int i3), .val (.int (i0 &&& (3 : Int32))), .val (.int y0), .val (.int y1), .val (.int y2), .val (.int yq), .val (.int c0), .unset, .unset, .unset, .unset, .unset, .unset, .unset, .unset, .unset, .unset, .unset, .unset, .unset, .unset, .unset, .unset, .unset, .unset, .unset, .unset, .unset]) rfl ?_
  refine own_iloadN X0 hx (hb hby at_73) rfl ?_
  refine own_bipush X0 hx (hb hby at_74) (v := (8 : Int32)) (by decide) ?_
  refine own_iushr X0 hx (hb hby at_76) (z := (XT.ushr i1 (8 : Int32))) rfl ?_
  refine own_sipush X0 hx (hb hby at_77) (v := (255 : Int32)) (by decide) ?_
  refine own_iand X0 hx (hb hby at_80) (z := ((XT.ushr i1 (8 : Int32)) &&& (255 : Int32))) rfl ?_
  refine own_i2c X0 hx (hb hby at_81) (z := (own_c ((XT.ushr i1 (8 : Int32)) &&& (255 : Int32)))) rfl ?_
  generalize h_c1 : own_c ((XT.ushr i1 (8 : Int32)) &&& (255 : Int32)) = c1
  have u_c1 : ¬ (255 : Int32) < c1 := h_c1 ▸ (own_cb _).2
  show own_E p e below _ s₁ (mkF m 82 #[.val (.int i0), .val (.int i1), .val (.int i2), .val (.int i3), .val (.int (i0 &&& (3 : Int32))), .val (.int y0), .val (.int y1), .val (.int y2), .val (.int yq), .val (.int c0), .unset, .unset, .unset, .unset, .unset, .unset, .unset, .unset, .unset, .unset, .unset, .unset, .unset, .unset, .unset, .unset, .unset, .unset, .unset, .unset, .unset] [(.int c1)])
  refine own_istore X0 hx (hb hby at_82) (l' := #[.val (.int i0), .val (.int i1), .val (.int i2), .val (.int i3), .val (.int (i0 &&& (3 : Int32))), .val (.int y0), .val (.int y1), .val (.int y2), .val (.int yq), .val (.int c0), .val (.int c1), .unset, .unset, .unset, .unset, .unset, .unset, .unset, .unset, .unset, .unset, .unset, .unset, .unset, .unset, .unset, .unset, .unset, .unset, .unset, .unset]) rfl ?_
  refine own_iloadN X0 hx (hb hby at_84) rfl ?_
  refine own_bipush X0 hx (hb hby at_85) (v := (16 : Int32)) (by decide) ?_
  refine own_iushr X0 hx (hb hby at_87) (z := (XT.ushr i1 (16 : Int32))) rfl ?_
  refine own_sipush X0 hx (hb hby at_88) (v := (255 : Int32)) (by decide) ?_
  refine own_iand X0 hx (hb hby at_91) (z := ((XT.ushr i1 (16 : Int32)) &&& (255 : Int32))) rfl ?_
  refine own_i2c X0 hx (hb hby at_92) (z := (own_c ((XT.ushr i1 (16 : Int32)) &&& (255 : Int32)))) rfl ?_
  generalize h_c2 : own_c ((XT.ushr i1 (16 : Int32)) &&& (255 : Int32)) = c2
  have u_c2 : ¬ (255 : Int32) < c2 := h_c2 ▸ (own_cb _).2
  show own_E p e below _ s₁ (mkF m 93 #[.val (.int i0), .val (.int i1), .val (.int i2), .val (.int i3), .val (.int (i0 &&& (3 : Int32))), .val (.int y0), .val (.int y1), .val (.int y2), .val (.int yq), .val (.int c0), .val (.int c1), .unset, .unset, .unset, .unset, .unset, .unset, .unset, .unset, .unset, .unset, .unset, .unset, .unset, .unset, .unset, .unset, .unset, .unset, .unset, .unset] [(.int c2)])
  refine own_istore X0 hx (hb hby at_93) (l' := #[.val (.int i0), .val (.int i1), .val (.int i2), .val (.int i3), .val (.int (i0 &&& (3 : Int32))), .val (.int y0), .val (.int y1), .val (.int y2), .val (.int yq), .val (.int c0), .val (.int c1), .val (.int c2), .unset, .unset, .unset, .unset, .unset, .unset, .unset, .unset, .unset, .unset, .unset, .unset, .unset, .unset, .unset, .unset, .unset, .unset, .unset]) rfl ?_
  refine own_iloadN X0 hx (hb hby at_95) rfl ?_
  refine own_sipush X0 hx (hb hby at_96) (v := (255 : Int32)) (by decide) ?_
  refine own_iand X0 hx (hb hby at_99) (z := (i2 &&& (255 : Int32))) rfl ?_
  refine own_i2c X0 hx (hb hby at_100) (z := (own_c (i2 &&& (255 : Int32)))) rfl ?_
  generalize h_cq : own_c (i2 &&& (255 : Int32)) = cq
  have u_cq : ¬ (255 : Int32) < cq := h_cq ▸ (own_cb _).2
  show own_E p e below _ s₁ (mkF m 101 #[.val (.int i0), .val (.int i1), .val (.int i2), .val (.int i3), .val (.int (i0 &&& (3 : Int32))), .val (.int y0), .val (.int y1), .val (.int y2), .val (.int yq), .val (.int c0), .val (.int c1), .val (.int c2), .unset, .unset, .unset, .unset, .unset, .unset, .unset, .unset, .unset, .unset, .unset, .unset, .unset, .unset, .unset, .unset, .unset, .unset, .unset] [(.int cq)])
  refine own_istore X0 hx (hb hby at_101) (l' := #[.val (.int i0), .val (.int i1), .val (.int i2), .val (.int i3), .val (.int (i0 &&& (3 : Int32))), .val (.int y0), .val (.int y1), .val (.int y2), .val (.int yq), .val (.int c0), .val (.int c1), .val (.int c2), .val (.int cq), .unset, .unset, .unset, .unset, .unset, .unset, .unset, .unset, .unset, .unset, .unset, .unset, .unset, .unset, .unset, .unset, .unset, .unset]) rfl ?_
  refine own_iload X0 hx (hb hby at_103) rfl ?_
  suffices hj316 : ∀ (T316 : State) (vm316 : Vm) (k316 : Nat) (L316 : List Loc) (h316 : Heap) (s0 : Addr), Stand p l e room_1 (s.setVm vm316) m #[(.int i0), (.int i1), (.int i2), (.int i3)] below meth c T316 L316 2 5 → T316.heap = h316 → s.Since vm316 k316 → k316 ≤ h316.size → Z.Warmed39 (s.setVm vm316).vm → (s.setVm vm316).vm.findClass "com/example/narrow_gate/narrowgate/TargetParameterPinLaw" = some m.cls → CHr Z own_EL s.vm h0 vm316 h316 → Fr n0 L316 → Keep h0 h316 [] → own_S Z h316 s0 y0 c0.toInt8.toInt32 → own_E p e below (own_PW s Z own_EL (own_Q0 n0) room_1.cells room_1.slots) T316 (mkF m 118 #[.val (.int i0), .val (.int i1), .val (.int i2), .val (.int i3), .val (.int (i0 &&& (3 : Int32))), .val (.int y0), .val (.int y1), .val (.int y2), .val (.int yq), .val (.int c0), .val (.int c1), .val (.int c2), .val (.int cq), .unset, .unset, .unset, .unset, .unset, .unset, .unset, .unset, .unset, .unset, .unset, .unset, .unset, .unset, .unset, .unset, .unset, .unset] [(.ref s0)]) from by
    by_cases hz : y0 = 0
    · skip
      refine own_ifYes X0 hx (hb hby at_105) (XT.i0_eq_t hz) 113 (by decide) (by decide) ?_
      show own_E p e below _ s₁ (mkF m 113 #[.val (.int i0), .val (.int i1), .val (.int i2), .val (.int i3), .val (.int (i0 &&& (3 : Int32))), .val (.int y0), .val (.int y1), .val (.int y2), .val (.int yq), .val (.int c0), .val (.int c1), .val (.int c2), .val (.int cq), .unset, .unset, .unset, .unset, .unset, .unset, .unset, .unset, .unset, .unset, .unset, .unset, .unset, .unset, .unset, .unset, .unset, .unset] [])
      refine own_iload X0 hx (hb hby at_113) rfl ?_
      obtain ⟨_, _, ⟨T317, L317, k317, n317⟩, -, X317, ⟨Lc317, hQ317, l317, y317, z317⟩, st317⟩ := Jvm.LawKit.callS X0 hx (y := (⟨"java/lang/String", "valueOf", "(C)Ljava/lang/String;"⟩ : MethodName)) hown (mvT hZ (own_w hw 0 rfl)) (mvT hZ (own_w hw 1 rfl)) (mvT hZ (own_w hw 2 rfl)) (mvT hZ (own_w hw 3 rfl)) (by decide) (backOf (W := 0) (own_rmVO l Z a0 hw [] c0 G1 h0 n0 (by omega) O0 SC P1 u_c0) hZ (own_w hw 3 rfl) (own_w hw 2 rfl) (by decide) (by decide)) (g := (mkF m 115 #[.val (.int i0), .val (.int i1), .val (.int i2), .val (.int i3), .val (.int (i0 &&& (3 : Int32))), .val (.int y0), .val (.int y1), .val (.int y2), .val (.int yq), .val (.int c0), .val (.int c1), .val (.int c2), .val (.int cq), .unset, .unset, .unset, .unset, .unset, .unset, .unset, .unset, .unset, .unset, .unset, .unset, .unset, .unset, .unset, .unset, .unset, .unset] [(.int c0)])) rfl (by rw [hml]; rfl) (argsL := [(.int c0)]) (rest := []) (lenOf own_pd19 rfl) rfl (by show 2 * 0 + _ ≤ _; exact Nat.le_of_eq rfl) (hb hby at_115) (fun _ _ => ⟨rfl, e0, Nat.le_of_ble_eq_true rfl, Nat.le_of_ble_eq_true rfl⟩)
      dsimp only [Pt.U, Pt.locs, Pt.cells, Pt.slots] at X317 l317 y317 z317 st317 hQ317
      subst l317 y317 z317
      obtain ⟨a317, rfl, M317, K317, F317⟩ := hQ317
      have N317 := Fr.app N0 M317
      refine own_go st317 ?_
      have C317 := C0.trans (CHr.keep K317 all0 C0.1)
      have z317 : h0.size ≤ T317.heap.size := K317.1
      show own_E p e below _ T317 (mkF m 118 #[.val (.int i0), .val (.int i1), .val (.int i2), .val (.int i3), .val (.int (i0 &&& (3 : Int32))), .val (.int y0), .val (.int y1), .val (.int y2), .val (.int yq), .val (.int c0), .val (.int c1), .val (.int c2), .val (.int cq), .unset, .unset, .unset, .unset, .unset, .unset, .unset, .unset, .unset, .unset, .unset, .unset, .unset, .unset, .unset, .unset, .unset, .unset] [(.ref a317)])
      exact hj316 _ _ _ _ _ _ (X317.mono (by decide) (by decide)) (rfl : T317.heap = T317.heap) hS (by omega) hZ hown C317 N317 K317 (by rw [hz]; exact F317)
    · skip
      refine own_ifNo X0 hx (hb hby at_105) (XT.i0_eq_f hz) ?_
      show own_E p e below _ s₁ (mkF m 108 #[.val (.int i0), .val (.int i1), .val (.int i2), .val (.int i3), .val (.int (i0 &&& (3 : Int32))), .val (.int y0), .val (.int y1), .val (.int y2), .val (.int yq), .val (.int c0), .val (.int c1), .val (.int c2), .val (.int cq), .unset, .unset, .unset, .unset, .unset, .unset, .unset, .unset, .unset, .unset, .unset, .unset, .unset, .unset, .unset, .unset, .unset, .unset] [])
      obtain ⟨a318, T318, h318, k318, b318, kc318, X318, e318, E318, hS, hk318, hZ, hown, A318, F318, G318, V318, ta318, tb318, D318, Lt318, Sf318, st318⟩ := ldcCH X0 hx hZ hown (own_w hw 127 rfl) wS e0 hS (by omega) hEL (by decide) C0.1 (vs := []) (z := 0) ⟨by decide, by decide +kernel⟩ (by decide) rfl (g := (mkF m 108 #[.val (.int i0), .val (.int i1), .val (.int i2), .val (.int i3), .val (.int (i0 &&& (3 : Int32))), .val (.int y0), .val (.int y1), .val (.int y2), .val (.int yq), .val (.int c0), .val (.int c1), .val (.int c2), .val (.int cq), .unset, .unset, .unset, .unset, .unset, .unset, .unset, .unset, .unset, .unset, .unset, .unset, .unset, .unset, .unset, .unset, .unset, .unset] [])) rfl (hb hby at_108) (n := 0) (by decide) (by decide) (by decide) (by decide)
      have z318 : h0.size ≤ h318.size := E318.1
      have C318 := C0.trans D318
      refine own_go st318 ?_
      have lt319 := own_lt (A318).lt
      have lt320 := own_lt (V318).lt
      show own_E p e below _ T318 (mkF m 110 #[.val (.int i0), .val (.int i1), .val (.int i2), .val (.int i3), .val (.int (i0 &&& (3 : Int32))), .val (.int y0), .val (.int y1), .val (.int y2), .val (.int yq), .val (.int c0), .val (.int c1), .val (.int c2), .val (.int cq), .unset, .unset, .unset, .unset, .unset, .unset, .unset, .unset, .unset, .unset, .unset, .unset, .unset, .unset, .unset, .unset, .unset, .unset] [(.ref a318)])
      refine own_goto X318 hx (hb hby at_110) 118 (by decide) (by decide) ?_
      show own_E p e below _ T318 (mkF m 118 #[.val (.int i0), .val (.int i1), .val (.int i2), .val (.int i3), .val (.int (i0 &&& (3 : Int32))), .val (.int y0), .val (.int y1), .val (.int y2), .val (.int yq), .val (.int c0), .val (.int c1), .val (.int c2), .val (.int cq), .unset, .unset, .unset, .unset, .unset, .unset, .unset, .unset, .unset, .unset, .unset, .unset, .unset, .unset, .unset, .unset, .unset, .unset] [(.ref a318)])
      exact hj316 _ _ _ _ _ _ (X318.mono (by decide) (by decide)) e318 hS (by omega) hZ hown C318 N0 ((Keep.refl _ _).ext E318) (own_Sem hz A318 F318 G318 V318)
  intro T316 vm316 k316 L316 h316 s0 X316 e316 hS hk316 hZ hown C316 N316 K316 F316
  have z316 : h0.size ≤ h316.size := K316.1
  show own_E p e below _ T316 (mkF m 118 #[.val (.int i0), .val (.int i1), .val (.int i2), .val (.int i3), .val (.int (i0 &&& (3 : Int32))), .val (.int y0), .val (.int y1), .val (.int y2), .val (.int yq), .val (.int c0), .val (.int c1), .val (.int c2), .val (.int cq), .unset, .unset, .unset, .unset, .unset, .unset, .unset, .unset, .unset, .unset, .unset, .unset, .unset, .unset, .unset, .unset, .unset, .unset] [(.ref s0)])
  refine own_astore X316 hx (hb hby at_118) rfl (l' := #[.val (.int i0), .val (.int i1), .val (.int i2), .val (.int i3), .val (.int (i0 &&& (3 : Int32))), .val (.int y0), .val (.int y1), .val (.int y2), .val (.int yq), .val (.int c0), .val (.int c1), .val (.int c2), .val (.int cq), .val (.ref s0), .unset, .unset, .unset, .unset, .unset, .unset, .unset, .unset, .unset, .unset, .unset, .unset, .unset, .unset, .unset, .unset, .unset]) rfl ?_
  refine own_iload X316 hx (hb hby at_120) rfl ?_
  suffices hj321 : ∀ (T321 : State) (vm321 : Vm) (k321 : Nat) (L321 : List Loc) (h321 : Heap) (s1 : Addr), Stand p l e room_1 (s.setVm vm321) m #[(.int i0), (.int i1), (.int i2), (.int i3)] below meth c T321 L321 4 10 → T321.heap = h321 → s.Since vm321 k321 → k321 ≤ h321.size → Z.Warmed39 (s.setVm vm321).vm → (s.setVm vm321).vm.findClass "com/example/narrow_gate/narrowgate/TargetParameterPinLaw" = some m.cls → CHr Z own_EL s.vm h0 vm321 h321 → Fr n0 L321 → Keep h316 h321 [] → own_S Z h321 s1 y1 c1.toInt8.toInt32 → own_E p e below (own_PW s Z own_EL (own_Q0 n0) room_1.cells room_1.slots) T321 (mkF m 135 #[.val (.int i0), .val (.int i1), .val (.int i2), .val (.int i3), .val (.int (i0 &&& (3 : Int32))), .val (.int y0), .val (.int y1), .val (.int y2), .val (.int yq), .val (.int c0), .val (.int c1), .val (.int c2), .val (.int cq), .val (.ref s0), .unset, .unset, .unset, .unset, .unset, .unset, .unset, .unset, .unset, .unset, .unset, .unset, .unset, .unset, .unset, .unset, .unset] [(.ref s1)]) from by
    by_cases hz : y1 = 0
    · skip
      refine own_ifYes X316 hx (hb hby at_122) (XT.i0_eq_t hz) 130 (by decide) (by decide) ?_
      show own_E p e below _ T316 (mkF m 130 #[.val (.int i0), .val (.int i1), .val (.int i2), .val (.int i3), .val (.int (i0 &&& (3 : Int32))), .val (.int y0), .val (.int y1), .val (.int y2), .val (.int yq), .val (.int c0), .val (.int c1), .val (.int c2), .val (.int cq), .val (.ref s0), .unset, .unset, .unset, .unset, .unset, .unset, .unset, .unset, .unset, .unset, .unset, .unset, .unset, .unset, .unset, .unset, .unset] [])
      refine own_iload X316 hx (hb hby at_130) rfl ?_
      obtain ⟨_, _, ⟨T322, L322, k322, n322⟩, -, X322, ⟨Lc322, hQ322, l322, y322, z322⟩, st322⟩ := Jvm.LawKit.callS X316 hx (y := (⟨"java/lang/String", "valueOf", "(C)Ljava/lang/String;"⟩ : MethodName)) hown (mvT hZ (own_w hw 0 rfl)) (mvT hZ (own_w hw 1 rfl)) (mvT hZ (own_w hw 2 rfl)) (mvT hZ (own_w hw 3 rfl)) (by decide) (backOf (W := 0) (own_rmVO l Z a0 hw [] c1 G1 h316 n0 (by omega) (O0.keep K316 all0) SC P1 u_c1) hZ (own_w hw 3 rfl) (own_w hw 2 rfl) (by decide) (by decide)) (g := (mkF m 132 #[.val (.int i0), .val (.int i1), .val (.int i2), .val (.int i3), .val (.int (i0 &&& (3 : Int32))), .val (.int y0), .val (.int y1), .val (.int y2), .val (.int yq), .val (.int c0), .val (.int c1), .val (.int c2), .val (.int cq), .val (.ref s0), .unset, .unset, .unset, .unset, .unset, .unset, .unset, .unset, .unset, .unset, .unset, .unset, .unset, .unset, .unset, .unset, .unset] [(.int c1)])) rfl (by rw [hml]; rfl) (argsL := [(.int c1)]) (rest := []) (lenOf own_pd19 rfl) rfl (by show 2 * 0 + _ ≤ _; exact Nat.le_of_eq rfl) (hb hby at_132) (fun _ _ => ⟨rfl, e316, Nat.le_of_ble_eq_true rfl, Nat.le_of_ble_eq_true rfl⟩)
      dsimp only [Pt.U, Pt.locs, Pt.cells, Pt.slots] at X322 l322 y322 z322 st322 hQ322
      subst l322 y322 z322
      obtain ⟨a322, rfl, M322, K322, F322⟩ := hQ322
      have N322 := Fr.app N316 M322
      refine own_go st322 ?_
      have C322 := C316.trans (CHr.keep K322 all0 C316.1)
      have z322 : h316.size ≤ T322.heap.size := K322.1
      show own_E p e below _ T322 (mkF m 135 #[.val (.int i0), .val (.int i1), .val (.int i2), .val (.int i3), .val (.int (i0 &&& (3 : Int32))), .val (.int y0), .val (.int y1), .val (.int y2), .val (.int yq), .val (.int c0), .val (.int c1), .val (.int c2), .val (.int cq), .val (.ref s0), .unset, .unset, .unset, .unset, .unset, .unset, .unset, .unset, .unset, .unset, .unset, .unset, .unset, .unset, .unset, .unset, .unset] [(.ref a322)])
      exact hj321 _ _ _ _ _ _ (X322.mono (by decide) (by decide)) (rfl : T322.heap = T322.heap) hS (by omega) hZ hown C322 N322 K322 (by rw [hz]; exact F322)
    · skip
      refine own_ifNo X316 hx (hb hby at_122) (XT.i0_eq_f hz) ?_
      show own_E p e below _ T316 (mkF m 125 #[.val (.int i0), .val (.int i1), .val (.int i2), .val (.int i3), .val (.int (i0 &&& (3 : Int32))), .val (.int y0), .val (.int y1), .val (.int y2), .val (.int yq), .val (.int c0), .val (.int c1), .val (.int c2), .val (.int cq), .val (.ref s0), .unset, .unset, .unset, .unset, .unset, .unset, .unset, .unset, .unset, .unset, .unset, .unset, .unset, .unset, .unset, .unset, .unset] [])
      obtain ⟨a323, T323, h323, k323, b323, kc323, X323, e323, E323, hS, hk323, hZ, hown, A323, F323, G323, V323, ta323, tb323, D323, Lt323, Sf323, st323⟩ := ldcCH X316 hx hZ hown (own_w hw 127 rfl) wS e316 hS (by omega) hEL (by decide) C316.1 (vs := []) (z := 0) ⟨by decide, by decide +kernel⟩ (by decide) rfl (g := (mkF m 125 #[.val (.int i0), .val (.int i1), .val (.int i2), .val (.int i3), .val (.int (i0 &&& (3 : Int32))), .val (.int y0), .val (.int y1), .val (.int y2), .val (.int yq), .val (.int c0), .val (.int c1), .val (.int c2), .val (.int cq), .val (.ref s0), .unset, .unset, .unset, .unset, .unset, .unset, .unset, .unset, .unset, .unset, .unset, .unset, .unset, .unset, .unset, .unset, .unset] [])) rfl (hb hby at_125) (n := 0) (by decide) (by decide) (by decide) (by decide)
      have z323 : h316.size ≤ h323.size := E323.1
      have C323 := C316.trans D323
      refine own_go st323 ?_
      have lt324 := own_lt (A323).lt
      have lt325 := own_lt (V323).lt
      show own_E p e below _ T323 (mkF m 127 #[.val (.int i0), .val (.int i1), .val (.int i2), .val (.int i3), .val (.int (i0 &&& (3 : Int32))), .val (.int y0), .val (.int y1), .val (.int y2), .val (.int yq), .val (.int c0), .val (.int c1), .val (.int c2), .val (.int cq), .val (.ref s0), .unset, .unset, .unset, .unset, .unset, .unset, .unset, .unset, .unset, .unset, .unset, .unset, .unset, .unset, .unset, .unset, .unset] [(.ref a323)])
      refine own_goto X323 hx (hb hby at_127) 135 (by decide) (by decide) ?_
      show own_E p e below _ T323 (mkF m 135 #[.val (.int i0), .val (.int i1), .val (.int i2), .val (.int i3), .val (.int (i0 &&& (3 : Int32))), .val (.int y0), .val (.int y1), .val (.int y2), .val (.int yq), .val (.int c0), .val (.int c1), .val (.int c2), .val (.int cq), .val (.ref s0), .unset, .unset, .unset, .unset, .unset, .unset, .unset, .unset, .unset, .unset, .unset, .unset, .unset, .unset, .unset, .unset, .unset] [(.ref a323)])
      exact hj321 _ _ _ _ _ _ (X323.mono (by decide) (by decide)) e323 hS (by omega) hZ hown C323 N316 ((Keep.refl _ _).ext E323) (own_Sem hz A323 F323 G323 V323)
  intro T321 vm321 k321 L321 h321 s1 X321 e321 hS hk321 hZ hown C321 N321 K321 F321
  have z321 : h316.size ≤ h321.size := K321.1
  show own_E p e below _ T321 (mkF m 135 #[.val (.int i0), .val (.int i1), .val (.int i2), .val (.int i3), .val (.int (i0 &&& (3 : Int32))), .val (.int y0), .val (.int y1), .val (.int y2), .val (.int yq), .val (.int c0), .val (.int c1), .val (.int c2), .val (.int cq), .val (.ref s0), .unset, .unset, .unset, .unset, .unset, .unset, .unset, .unset, .unset, .unset, .unset, .unset, .unset, .unset, .unset, .unset, .unset] [(.ref s1)])
  refine own_astore X321 hx (hb hby at_135) rfl (l' := #[.val (.int i0), .val (.int i1), .val (.int i2), .val (.int i3), .val (.int (i0 &&& (3 : Int32))), .val (.int y0), .val (.int y1), .val (.int y2), .val (.int yq), .val (.int c0), .val (.int c1), .val (.int c2), .val (.int cq), .val (.ref s0), .val (.ref s1), .unset, .unset, .unset, .unset, .unset, .unset, .unset, .unset, .unset, .unset, .unset, .unset, .unset, .unset, .unset, .unset]) rfl ?_
  refine own_iload X321 hx (hb hby at_137) rfl ?_
  suffices hj326 : ∀ (T326 : State) (vm326 : Vm) (k326 : Nat) (L326 : List Loc) (h326 : Heap) (s2 : Addr), Stand p l e room_1 (s.setVm vm326) m #[(.int i0), (.int i1), (.int i2), (.int i3)] below meth c T326 L326 6 15 → T326.heap = h326 → s.Since vm326 k326 → k326 ≤ h326.size → Z.Warmed39 (s.setVm vm326).vm → (s.setVm vm326).vm.findClass "com/example/narrow_gate/narrowgate/TargetParameterPinLaw" = some m.cls → CHr Z own_EL s.vm h0 vm326 h326 → Fr n0 L326 → Keep h321 h326 [] → own_S Z h326 s2 y2 c2.toInt8.toInt32 → own_E p e below (own_PW s Z own_EL (own_Q0 n0) room_1.cells room_1.slots) T326 (mkF m 152 #[.val (.int i0), .val (.int i1), .val (.int i2), .val (.int i3), .val (.int (i0 &&& (3 : Int32))), .val (.int y0), .val (.int y1), .val (.int y2), .val (.int yq), .val (.int c0), .val (.int c1), .val (.int c2), .val (.int cq), .val (.ref s0), .val (.ref s1), .unset, .unset, .unset, .unset, .unset, .unset, .unset, .unset, .unset, .unset, .unset, .unset, .unset, .unset, .unset, .unset] [(.ref s2)]) from by
    by_cases hz : y2 = 0
    · skip
      refine own_ifYes X321 hx (hb hby at_139) (XT.i0_eq_t hz) 147 (by decide) (by decide) ?_
      show own_E p e below _ T321 (mkF m 147 #[.val (.int i0), .val (.int i1), .val (.int i2), .val (.int i3), .val (.int (i0 &&& (3 : Int32))), .val (.int y0), .val (.int y1), .val (.int y2), .val (.int yq), .val (.int c0), .val (.int c1), .val (.int c2), .val (.int cq), .val (.ref s0), .val (.ref s1), .unset, .unset, .unset, .unset, .unset, .unset, .unset, .unset, .unset, .unset, .unset, .unset, .unset, .unset, .unset, .unset] [])
      refine own_iload X321 hx (hb hby at_147) rfl ?_
      obtain ⟨_, _, ⟨T327, L327, k327, n327⟩, -, X327, ⟨Lc327, hQ327, l327, y327, z327⟩, st327⟩ := Jvm.LawKit.callS X321 hx (y := (⟨"java/lang/String", "valueOf", "(C)Ljava/lang/String;"⟩ : MethodName)) hown (mvT hZ (own_w hw 0 rfl)) (mvT hZ (own_w hw 1 rfl)) (mvT hZ (own_w hw 2 rfl)) (mvT hZ (own_w hw 3 rfl)) (by decide) (backOf (W := 0) (own_rmVO l Z a0 hw [] c2 G1 h321 n0 (by omega) ((O0.keep K316 all0).keep K321 all0) SC P1 u_c2) hZ (own_w hw 3 rfl) (own_w hw 2 rfl) (by decide) (by decide)) (g := (mkF m 149 #[.val (.int i0), .val (.int i1), .val (.int i2), .val (.int i3), .val (.int (i0 &&& (3 : Int32))), .val (.int y0), .val (.int y1), .val (.int y2), .val (.int yq), .val (.int c0), .val (.int c1), .val (.int c2), .val (.int cq), .val (.ref s0), .val (.ref s1), .unset, .unset, .unset, .unset, .unset, .unset, .unset, .unset, .unset, .unset, .unset, .unset, .unset, .unset, .unset, .unset] [(.int c2)])) rfl (by rw [hml]; rfl) (argsL := [(.int c2)]) (rest := []) (lenOf own_pd19 rfl) rfl (by show 2 * 0 + _ ≤ _; exact Nat.le_of_eq rfl) (hb hby at_149) (fun _ _ => ⟨rfl, e321, Nat.le_of_ble_eq_true rfl, Nat.le_of_ble_eq_true rfl⟩)
      dsimp only [Pt.U, Pt.locs, Pt.cells, Pt.slots] at X327 l327 y327 z327 st327 hQ327
      subst l327 y327 z327
      obtain ⟨a327, rfl, M327, K327, F327⟩ := hQ327
      have N327 := Fr.app N321 M327
      refine own_go st327 ?_
      have C327 := C321.trans (CHr.keep K327 all0 C321.1)
      have z327 : h321.size ≤ T327.heap.size := K327.1
      show own_E p e below _ T327 (mkF m 152 #[.val (.int i0), .val (.int i1), .val (.int i2), .val (.int i3), .val (.int (i0 &&& (3 : Int32))), .val (.int y0), .val (.int y1), .val (.int y2), .val (.int yq), .val (.int c0), .val (.int c1), .val (.int c2), .val (.int cq), .val (.ref s0), .val (.ref s1), .unset, .unset, .unset, .unset, .unset, .unset, .unset, .unset, .unset, .unset, .unset, .unset, .unset, .unset, .unset, .unset] [(.ref a327)])
      exact hj326 _ _ _ _ _ _ (X327.mono (by decide) (by decide)) (rfl : T327.heap = T327.heap) hS (by omega) hZ hown C327 N327 K327 (by rw [hz]; exact F327)
    · skip
      refine own_ifNo X321 hx (hb hby at_139) (XT.i0_eq_f hz) ?_
      show own_E p e below _ T321 (mkF m 142 #[.val (.int i0), .val (.int i1), .val (.int i2), .val (.int i3), .val (.int (i0 &&& (3 : Int32))), .val (.int y0), .val (.int y1), .val (.int y2), .val (.int yq), .val (.int c0), .val (.int c1), .val (.int c2), .val (.int cq), .val (.ref s0), .val (.ref s1), .unset, .unset, .unset, .unset, .unset, .unset, .unset, .unset, .unset, .unset, .unset, .unset, .unset, .unset, .unset, .unset] [])
      obtain ⟨a328, T328, h328, k328, b328, kc328, X328, e328, E328, hS, hk328, hZ, hown, A328, F328, G328, V328, ta328, tb328, D328, Lt328, Sf328, st328⟩ := ldcCH X321 hx hZ hown (own_w hw 127 rfl) wS e321 hS (by omega) hEL (by decide) C321.1 (vs := []) (z := 0) ⟨by decide, by decide +kernel⟩ (by decide) rfl (g := (mkF m 142 #[.val (.int i0), .val (.int i1), .val (.int i2), .val (.int i3), .val (.int (i0 &&& (3 : Int32))), .val (.int y0), .val (.int y1), .val (.int y2), .val (.int yq), .val (.int c0), .val (.int c1), .val (.int c2), .val (.int cq), .val (.ref s0), .val (.ref s1), .unset, .unset, .unset, .unset, .unset, .unset, .unset, .unset, .unset, .unset, .unset, .unset, .unset, .unset, .unset, .unset] [])) rfl (hb hby at_142) (n := 0) (by decide) (by decide) (by decide) (by decide)
      have z328 : h321.size ≤ h328.size := E328.1
      have C328 := C321.trans D328
      refine own_go st328 ?_
      have lt329 := own_lt (A328).lt
      have lt330 := own_lt (V328).lt
      show own_E p e below _ T328 (mkF m 144 #[.val (.int i0), .val (.int i1), .val (.int i2), .val (.int i3), .val (.int (i0 &&& (3 : Int32))), .val (.int y0), .val (.int y1), .val (.int y2), .val (.int yq), .val (.int c0), .val (.int c1), .val (.int c2), .val (.int cq), .val (.ref s0), .val (.ref s1), .unset, .unset, .unset, .unset, .unset, .unset, .unset, .unset, .unset, .unset, .unset, .unset, .unset, .unset, .unset, .unset] [(.ref a328)])
      refine own_goto X328 hx (hb hby at_144) 152 (by decide) (by decide) ?_
      show own_E p e below _ T328 (mkF m 152 #[.val (.int i0), .val (.int i1), .val (.int i2), .val (.int i3), .val (.int (i0 &&& (3 : Int32))), .val (.int y0), .val (.int y1), .val (.int y2), .val (.int yq), .val (.int c0), .val (.int c1), .val (.int c2), .val (.int cq), .val (.ref s0), .val (.ref s1), .unset, .unset, .unset, .unset, .unset, .unset, .unset, .unset, .unset, .unset, .unset, .unset, .unset, .unset, .unset, .unset] [(.ref a328)])
      exact hj326 _ _ _ _ _ _ (X328.mono (by decide) (by decide)) e328 hS (by omega) hZ hown C328 N321 ((Keep.refl _ _).ext E328) (own_Sem hz A328 F328 G328 V328)
  intro T326 vm326 k326 L326 h326 s2 X326 e326 hS hk326 hZ hown C326 N326 K326 F326
  have z326 : h321.size ≤ h326.size := K326.1
  show own_E p e below _ T326 (mkF m 152 #[.val (.int i0), .val (.int i1), .val (.int i2), .val (.int i3), .val (.int (i0 &&& (3 : Int32))), .val (.int y0), .val (.int y1), .val (.int y2), .val (.int yq), .val (.int c0), .val (.int c1), .val (.int c2), .val (.int cq), .val (.ref s0), .val (.ref s1), .unset, .unset, .unset, .unset, .unset, .unset, .unset, .unset, .unset, .unset, .unset, .unset, .unset, .unset, .unset, .unset] [(.ref s2)])
  refine own_astore X326 hx (hb hby at_152) rfl (l' := #[.val (.int i0), .val (.int i1), .val (.int i2), .val (.int i3), .val (.int (i0 &&& (3 : Int32))), .val (.int y0), .val (.int y1), .val (.int y2), .val (.int yq), .val (.int c0), .val (.int c1), .val (.int c2), .val (.int cq), .val (.ref s0), .val (.ref s1), .val (.ref s2), .unset, .unset, .unset, .unset, .unset, .unset, .unset, .unset, .unset, .unset, .unset, .unset, .unset, .unset, .unset]) rfl ?_
  refine own_iload X326 hx (hb hby at_154) rfl ?_
  suffices hj331 : ∀ (T331 : State) (vm331 : Vm) (k331 : Nat) (L331 : List Loc) (h331 : Heap) (q0 : Addr), Stand p l e room_1 (s.setVm vm331) m #[(.int i0), (.int i1), (.int i2), (.int i3)] below meth c T331 L331 8 20 → T331.heap = h331 → s.Since vm331 k331 → k331 ≤ h331.size → Z.Warmed39 (s.setVm vm331).vm → (s.setVm vm331).vm.findClass "com/example/narrow_gate/narrowgate/TargetParameterPinLaw" = some m.cls → CHr Z own_EL s.vm h0 vm331 h331 → Fr n0 L331 → Keep h326 h331 [] → own_S Z h331 q0 yq cq.toInt8.toInt32 → own_E p e below (own_PW s Z own_EL (own_Q0 n0) room_1.cells room_1.slots) T331 (mkF m 169 #[.val (.int i0), .val (.int i1), .val (.int i2), .val (.int i3), .val (.int (i0 &&& (3 : Int32))), .val (.int y0), .val (.int y1), .val (.int y2), .val (.int yq), .val (.int c0), .val (.int c1), .val (.int c2), .val (.int cq), .val (.ref s0), .val (.ref s1), .val (.ref s2), .unset, .unset, .unset, .unset, .unset, .unset, .unset, .unset, .unset, .unset, .unset, .unset, .unset, .unset, .unset] [(.ref q0)]) from by
    by_cases hz : yq = 0
    · skip
      refine own_ifYes X326 hx (hb hby at_156) (XT.i0_eq_t hz) 164 (by decide) (by decide) ?_
      show own_E p e below _ T326 (mkF m 164 #[.val (.int i0), .val (.int i1), .val (.int i2), .val (.int i3), .val (.int (i0 &&& (3 : Int32))), .val (.int y0), .val (.int y1), .val (.int y2), .val (.int yq), .val (.int c0), .val (.int c1), .val (.int c2), .val (.int cq), .val (.ref s0), .val (.ref s1), .val (.ref s2), .unset, .unset, .unset, .unset, .unset, .unset, .unset, .unset, .unset, .unset, .unset, .unset, .unset, .unset, .unset] [])
      refine own_iload X326 hx (hb hby at_164) rfl ?_
      obtain ⟨_, _, ⟨T332, L332, k332, n332⟩, -, X332, ⟨Lc332, hQ332, l332, y332, z332⟩, st332⟩ := Jvm.LawKit.callS X326 hx (y := (⟨"java/lang/String", "valueOf", "(C)Ljava/lang/String;"⟩ : MethodName)) hown (mvT hZ (own_w hw 0 rfl)) (mvT hZ (own_w hw 1 rfl)) (mvT hZ (own_w hw 2 rfl)) (mvT hZ (own_w hw 3 rfl)) (by decide) (backOf (W := 0) (own_rmVO l Z a0 hw [] cq G1 h326 n0 (by omega) (((O0.keep K316 all0).keep K321 all0).keep K326 all0) SC P1 u_cq) hZ (own_w hw 3 rfl) (own_w hw 2 rfl) (by decide) (by decide)) (g := (mkF m 166 #[.val (.int i0), .val (.int i1), .val (.int i2), .val (.int i3), .val (.int (i0 &&& (3 : Int32))), .val (.int y0), .val (.int y1), .val (.int y2), .val (.int yq), .val (.int c0), .val (.int c1), .val (.int c2), .val (.int cq), .val (.ref s0), .val (.ref s1), .val (.ref s2), .unset, .unset, .unset, .unset, .unset, .unset, .unset, .unset, .unset, .unset, .unset, .unset, .unset, .unset, .unset] [(.int cq)])) rfl (by rw [hml]; rfl) (argsL := [(.int cq)]) (rest := []) (lenOf own_pd19 rfl) rfl (by show 2 * 0 + _ ≤ _; exact Nat.le_of_eq rfl) (hb hby at_166) (fun _ _ => ⟨rfl, e326, Nat.le_of_ble_eq_true rfl, Nat.le_of_ble_eq_true rfl⟩)
      dsimp only [Pt.U, Pt.locs, Pt.cells, Pt.slots] at X332 l332 y332 z332 st332 hQ332
      subst l332 y332 z332
      obtain ⟨a332, rfl, M332, K332, F332⟩ := hQ332
      have N332 := Fr.app N326 M332
      refine own_go st332 ?_
      have C332 := C326.trans (CHr.keep K332 all0 C326.1)
      have z332 : h326.size ≤ T332.heap.size := K332.1
      show own_E p e below _ T332 (mkF m 169 #[.val (.int i0), .val (.int i1), .val (.int i2), .val (.int i3), .val (.int (i0 &&& (3 : Int32))), .val (.int y0), .val (.int y1), .val (.int y2), .val (.int yq), .val (.int c0), .val (.int c1), .val (.int c2), .val (.int cq), .val (.ref s0), .val (.ref s1), .val (.ref s2), .unset, .unset, .unset, .unset, .unset, .unset, .unset, .unset, .unset, .unset, .unset, .unset, .unset, .unset, .unset] [(.ref a332)])
      exact hj331 _ _ _ _ _ _ (X332.mono (by decide) (by decide)) (rfl : T332.heap = T332.heap) hS (by omega) hZ hown C332 N332 K332 (by rw [hz]; exact F332)
    · skip
      refine own_ifNo X326 hx (hb hby at_156) (XT.i0_eq_f hz) ?_
      show own_E p e below _ T326 (mkF m 159 #[.val (.int i0), .val (.int i1), .val (.int i2), .val (.int i3), .val (.int (i0 &&& (3 : Int32))), .val (.int y0), .val (.int y1), .val (.int y2), .val (.int yq), .val (.int c0), .val (.int c1), .val (.int c2), .val (.int cq), .val (.ref s0), .val (.ref s1), .val (.ref s2), .unset, .unset, .unset, .unset, .unset, .unset, .unset, .unset, .unset, .unset, .unset, .unset, .unset, .unset, .unset] [])
      obtain ⟨a333, T333, h333, k333, b333, kc333, X333, e333, E333, hS, hk333, hZ, hown, A333, F333, G333, V333, ta333, tb333, D333, Lt333, Sf333, st333⟩ := ldcCH X326 hx hZ hown (own_w hw 127 rfl) wS e326 hS (by omega) hEL (by decide) C326.1 (vs := []) (z := 0) ⟨by decide, by decide +kernel⟩ (by decide) rfl (g := (mkF m 159 #[.val (.int i0), .val (.int i1), .val (.int i2), .val (.int i3), .val (.int (i0 &&& (3 : Int32))), .val (.int y0), .val (.int y1), .val (.int y2), .val (.int yq), .val (.int c0), .val (.int c1), .val (.int c2), .val (.int cq), .val (.ref s0), .val (.ref s1), .val (.ref s2), .unset, .unset, .unset, .unset, .unset, .unset, .unset, .unset, .unset, .unset, .unset, .unset, .unset, .unset, .unset] [])) rfl (hb hby at_159) (n := 0) (by decide) (by decide) (by decide) (by decide)
      have z333 : h326.size ≤ h333.size := E333.1
      have C333 := C326.trans D333
      refine own_go st333 ?_
      have lt334 := own_lt (A333).lt
      have lt335 := own_lt (V333).lt
      show own_E p e below _ T333 (mkF m 161 #[.val (.int i0), .val (.int i1), .val (.int i2), .val (.int i3), .val (.int (i0 &&& (3 : Int32))), .val (.int y0), .val (.int y1), .val (.int y2), .val (.int yq), .val (.int c0), .val (.int c1), .val (.int c2), .val (.int cq), .val (.ref s0), .val (.ref s1), .val (.ref s2), .unset, .unset, .unset, .unset, .unset, .unset, .unset, .unset, .unset, .unset, .unset, .unset, .unset, .unset, .unset] [(.ref a333)])
      refine own_goto X333 hx (hb hby at_161) 169 (by decide) (by decide) ?_
      show own_E p e below _ T333 (mkF m 169 #[.val (.int i0), .val (.int i1), .val (.int i2), .val (.int i3), .val (.int (i0 &&& (3 : Int32))), .val (.int y0), .val (.int y1), .val (.int y2), .val (.int yq), .val (.int c0), .val (.int c1), .val (.int c2), .val (.int cq), .val (.ref s0), .val (.ref s1), .val (.ref s2), .unset, .unset, .unset, .unset, .unset, .unset, .unset, .unset, .unset, .unset, .unset, .unset, .unset, .unset, .unset] [(.ref a333)])
      exact hj331 _ _ _ _ _ _ (X333.mono (by decide) (by decide)) e333 hS (by omega) hZ hown C333 N326 ((Keep.refl _ _).ext E333) (own_Sem hz A333 F333 G333 V333)
  intro T331 vm331 k331 L331 h331 q0 X331 e331 hS hk331 hZ hown C331 N331 K331 F331
  have z331 : h326.size ≤ h331.size := K331.1
  show own_E p e below _ T331 (mkF m 169 #[.val (.int i0), .val (.int i1), .val (.int i2), .val (.int i3), .val (.int (i0 &&& (3 : Int32))), .val (.int y0), .val (.int y1), .val (.int y2), .val (.int yq), .val (.int c0), .val (.int c1), .val (.int c2), .val (.int cq), .val (.ref s0), .val (.ref s1), .val (.ref s2), .unset, .unset, .unset, .unset, .unset, .unset, .unset, .unset, .unset, .unset, .unset, .unset, .unset, .unset, .unset] [(.ref q0)])
  refine own_astore X331 hx (hb hby at_169) rfl (l' := #[.val (.int i0), .val (.int i1), .val (.int i2), .val (.int i3), .val (.int (i0 &&& (3 : Int32))), .val (.int y0), .val (.int y1), .val (.int y2), .val (.int yq), .val (.int c0), .val (.int c1), .val (.int c2), .val (.int cq), .val (.ref s0), .val (.ref s1), .val (.ref s2), .val (.ref q0), .unset, .unset, .unset, .unset, .unset, .unset, .unset, .unset, .unset, .unset, .unset, .unset, .unset, .unset]) rfl ?_
  refine own_iloadN X331 hx (hb hby at_171) rfl ?_
  refine own_sipush X331 hx (hb hby at_172) (v := (255 : Int32)) (by decide) ?_
  refine own_iand X331 hx (hb hby at_175) (z := (i3 &&& (255 : Int32))) rfl ?_
  refine own_i2c X331 hx (hb hby at_176) (z := (own_c (i3 &&& (255 : Int32)))) rfl ?_
  generalize h_d0 : own_c (i3 &&& (255 : Int32)) = d0
  have u_d0 : ¬ (255 : Int32) < d0 := h_d0 ▸ (own_cb _).2
  show own_E p e below _ T331 (mkF m 177 #[.val (.int i0), .val (.int i1), .val (.int i2), .val (.int i3), .val (.int (i0 &&& (3 : Int32))), .val (.int y0), .val (.int y1), .val (.int y2), .val (.int yq), .val (.int c0), .val (.int c1), .val (.int c2), .val (.int cq), .val (.ref s0), .val (.ref s1), .val (.ref s2), .val (.ref q0), .unset, .unset, .unset, .unset, .unset, .unset, .unset, .unset, .unset, .unset, .unset, .unset, .unset, .unset] [(.int d0)])
  obtain ⟨_, _, ⟨T336, L336, k336, n336⟩, -, X336, ⟨Lc336, hQ336, l336, y336, z336⟩, st336⟩ := Jvm.LawKit.callS X331 hx (y := (⟨"java/lang/String", "valueOf", "(C)Ljava/lang/String;"⟩ : MethodName)) hown (mvT hZ (own_w hw 0 rfl)) (mvT hZ (own_w hw 1 rfl)) (mvT hZ (own_w hw 2 rfl)) (mvT hZ (own_w hw 3 rfl)) (by decide) (backOf (W := 0) (own_rmVO l Z a0 hw [] d0 G1 h331 n0 (by omega) ((((O0.keep K316 all0).keep K321 all0).keep K326 all0).keep K331 all0) SC P1 u_d0) hZ (own_w hw 3 rfl) (own_w hw 2 rfl) (by decide) (by decide)) (g := (mkF m 177 #[.val (.int i0), .val (.int i1), .val (.int i2), .val (.int i3), .val (.int (i0 &&& (3 : Int32))), .val (.int y0), .val (.int y1), .val (.int y2), .val (.int yq), .val (.int c0), .val (.int c1), .val (.int c2), .val (.int cq), .val (.ref s0), .val (.ref s1), .val (.ref s2), .val (.ref q0), .unset, .unset, .unset, .unset, .unset, .unset, .unset, .unset, .unset, .unset, .unset, .unset, .unset, .unset] [(.int d0)])) rfl (by rw [hml]; rfl) (argsL := [(.int d0)]) (rest := []) (lenOf own_pd19 rfl) rfl (by show 2 * 0 + _ ≤ _; exact Nat.le_of_eq rfl) (hb hby at_177) (fun _ _ => ⟨rfl, e331, Nat.le_of_ble_eq_true rfl, Nat.le_of_ble_eq_true rfl⟩)
  dsimp only [Pt.U, Pt.locs, Pt.cells, Pt.slots] at X336 l336 y336 z336 st336 hQ336
  subst l336 y336 z336
  obtain ⟨a336, rfl, M336, K336, F336⟩ := hQ336
  have N336 := Fr.app N331 M336
  refine own_go st336 ?_
  have C336 := C331.trans (CHr.keep K336 all0 C331.1)
  have z336 : h331.size ≤ T336.heap.size := K336.1
  show own_E p e below _ T336 (mkF m 180 #[.val (.int i0), .val (.int i1), .val (.int i2), .val (.int i3), .val (.int (i0 &&& (3 : Int32))), .val (.int y0), .val (.int y1), .val (.int y2), .val (.int yq), .val (.int c0), .val (.int c1), .val (.int c2), .val (.int cq), .val (.ref s0), .val (.ref s1), .val (.ref s2), .val (.ref q0), .unset, .unset, .unset, .unset, .unset, .unset, .unset, .unset, .unset, .unset, .unset, .unset, .unset, .unset] [(.ref a336)])
  refine own_astore X336 hx (hb hby at_180) rfl (l' := #[.val (.int i0), .val (.int i1), .val (.int i2), .val (.int i3), .val (.int (i0 &&& (3 : Int32))), .val (.int y0), .val (.int y1), .val (.int y2), .val (.int yq), .val (.int c0), .val (.int c1), .val (.int c2), .val (.int cq), .val (.ref s0), .val (.ref s1), .val (.ref s2), .val (.ref q0), .val (.ref a336), .unset, .unset, .unset, .unset, .unset, .unset, .unset, .unset, .unset, .unset, .unset, .unset, .unset]) rfl ?_
  refine own_iloadN X336 hx (hb hby at_182) rfl ?_
  refine own_bipush X336 hx (hb hby at_183) (v := (8 : Int32)) (by decide) ?_
  refine own_iushr X336 hx (hb hby at_185) (z := (XT.ushr i3 (8 : Int32))) rfl ?_
  refine own_sipush X336 hx (hb hby at_186) (v := (255 : Int32)) (by decide) ?_
  refine own_iand X336 hx (hb hby at_189) (z := ((XT.ushr i3 (8 : Int32)) &&& (255 : Int32))) rfl ?_
  refine own_i2c X336 hx (hb hby at_190) (z := (own_c ((XT.ushr i3 (8 : Int32)) &&& (255 : Int32)))) rfl ?_
  generalize h_d1 : own_c ((XT.ushr i3 (8 : Int32)) &&& (255 : Int32)) = d1
  have u_d1 : ¬ (255 : Int32) < d1 := h_d1 ▸ (own_cb _).2
  show own_E p e below _ T336 (mkF m 191 #[.val (.int i0), .val (.int i1), .val (.int i2), .val (.int i3), .val (.int (i0 &&& (3 : Int32))), .val (.int y0), .val (.int y1), .val (.int y2), .val (.int yq), .val (.int c0), .val (.int c1), .val (.int c2), .val (.int cq), .val (.ref s0), .val (.ref s1), .val (.ref s2), .val (.ref q0), .val (.ref a336), .unset, .unset, .unset, .unset, .unset, .unset, .unset, .unset, .unset, .unset, .unset, .unset, .unset] [(.int d1)])
  obtain ⟨_, _, ⟨T337, L337, k337, n337⟩, -, X337, ⟨Lc337, hQ337, l337, y337, z337⟩, st337⟩ := Jvm.LawKit.callS X336 hx (y := (⟨"java/lang/String", "valueOf", "(C)Ljava/lang/String;"⟩ : MethodName)) hown (mvT hZ (own_w hw 0 rfl)) (mvT hZ (own_w hw 1 rfl)) (mvT hZ (own_w hw 2 rfl)) (mvT hZ (own_w hw 3 rfl)) (by decide) (backOf (W := 0) (own_rmVO l Z a0 hw [] d1 G1 T336.heap n0 (by omega) (((((O0.keep K316 all0).keep K321 all0).keep K326 all0).keep K331 all0).keep K336 all0) SC P1 u_d1) hZ (own_w hw 3 rfl) (own_w hw 2 rfl) (by decide) (by decide)) (g := (mkF m 191 #[.val (.int i0), .val (.int i1), .val (.int i2), .val (.int i3), .val (.int (i0 &&& (3 : Int32))), .val (.int y0), .val (.int y1), .val (.int y2), .val (.int yq), .val (.int c0), .val (.int c1), .val (.int c2), .val (.int cq), .val (.ref s0), .val (.ref s1), .val (.ref s2), .val (.ref q0), .val (.ref a336), .unset, .unset, .unset, .unset, .unset, .unset, .unset, .unset, .unset, .unset, .unset, .unset, .unset] [(.int d1)])) rfl (by rw [hml]; rfl) (argsL := [(.int d1)]) (rest := []) (lenOf own_pd19 rfl) rfl (by show 2 * 0 + _ ≤ _; exact Nat.le_of_eq rfl) (hb hby at_191) (fun _ _ => ⟨rfl, (rfl : T336.heap = T336.heap), Nat.le_of_ble_eq_true rfl, Nat.le_of_ble_eq_true rfl⟩)
  dsimp only [Pt.U, Pt.locs, Pt.cells, Pt.slots] at X337 l337 y337 z337 st337 hQ337
  subst l337 y337 z337
  obtain ⟨a337, rfl, M337, K337, F337⟩ := hQ337
  have N337 := Fr.app N336 M337
  refine own_go st337 ?_
  have C337 := C336.trans (CHr.keep K337 all0 C336.1)
  have z337 : T336.heap.size ≤ T337.heap.size := K337.1
  show own_E p e below _ T337 (mkF m 194 #[.val (.int i0), .val (.int i1), .val (.int i2), .val (.int i3), .val (.int (i0 &&& (3 : Int32))), .val (.int y0), .val (.int y1), .val (.int y2), .val (.int yq), .val (.int c0), .val (.int c1), .val (.int c2), .val (.int cq), .val (.ref s0), .val (.ref s1), .val (.ref s2), .val (.ref q0), .val (.ref a336), .unset, .unset, .unset, .unset, .unset, .unset, .unset, .unset, .unset, .unset, .unset, .unset, .unset] [(.ref a337)])
  refine own_astore X337 hx (hb hby at_194) rfl (l' := #[.val (.int i0), .val (.int i1), .val (.int i2), .val (.int i3), .val (.int (i0 &&& (3 : Int32))), .val (.int y0), .val (.int y1), .val (.int y2), .val (.int yq), .val (.int c0), .val (.int c1), .val (.int c2), .val (.int cq), .val (.ref s0), .val (.ref s1), .val (.ref s2), .val (.ref q0), .val (.ref a336), .val (.ref a337), .unset, .unset, .unset, .unset, .unset, .unset, .unset, .unset, .unset, .unset, .unset, .unset]) rfl ?_
  refine own_iloadN X337 hx (hb hby at_196) rfl ?_
  refine own_bipush X337 hx (hb hby at_197) (v := (16 : Int32)) (by decide) ?_
  refine own_iushr X337 hx (hb hby at_199) (z := (XT.ushr i3 (16 : Int32))) rfl ?_
  refine own_sipush X337 hx (hb hby at_200) (v := (255 : Int32)) (by decide) ?_
  refine own_iand X337 hx (hb hby at_203) (z := ((XT.ushr i3 (16 : Int32)) &&& (255 : Int32))) rfl ?_
  refine own_i2c X337 hx (hb hby at_204) (z := (own_c ((XT.ushr i3 (16 : Int32)) &&& (255 : Int32)))) rfl ?_
  generalize h_d2 : own_c ((XT.ushr i3 (16 : Int32)) &&& (255 : Int32)) = d2
  have u_d2 : ¬ (255 : Int32) < d2 := h_d2 ▸ (own_cb _).2
  show own_E p e below _ T337 (mkF m 205 #[.val (.int i0), .val (.int i1), .val (.int i2), .val (.int i3), .val (.int (i0 &&& (3 : Int32))), .val (.int y0), .val (.int y1), .val (.int y2), .val (.int yq), .val (.int c0), .val (.int c1), .val (.int c2), .val (.int cq), .val (.ref s0), .val (.ref s1), .val (.ref s2), .val (.ref q0), .val (.ref a336), .val (.ref a337), .unset, .unset, .unset, .unset, .unset, .unset, .unset, .unset, .unset, .unset, .unset, .unset] [(.int d2)])
  obtain ⟨_, _, ⟨T338, L338, k338, n338⟩, -, X338, ⟨Lc338, hQ338, l338, y338, z338⟩, st338⟩ := Jvm.LawKit.callS X337 hx (y := (⟨"java/lang/String", "valueOf", "(C)Ljava/lang/String;"⟩ : MethodName)) hown (mvT hZ (own_w hw 0 rfl)) (mvT hZ (own_w hw 1 rfl)) (mvT hZ (own_w hw 2 rfl)) (mvT hZ (own_w hw 3 rfl)) (by decide) (backOf (W := 0) (own_rmVO l Z a0 hw [] d2 G1 T337.heap n0 (by omega) ((((((O0.keep K316 all0).keep K321 all0).keep K326 all0).keep K331 all0).keep K336 all0).keep K337 all0) SC P1 u_d2) hZ (own_w hw 3 rfl) (own_w hw 2 rfl) (by decide) (by decide)) (g := (mkF m 205 #[.val (.int i0), .val (.int i1), .val (.int i2), .val (.int i3), .val (.int (i0 &&& (3 : Int32))), .val (.int y0), .val (.int y1), .val (.int y2), .val (.int yq), .val (.int c0), .val (.int c1), .val (.int c2), .val (.int cq), .val (.ref s0), .val (.ref s1), .val (.ref s2), .val (.ref q0), .val (.ref a336), .val (.ref a337), .unset, .unset, .unset, .unset, .unset, .unset, .unset, .unset, .unset, .unset, .unset, .unset] [(.int d2)])) rfl (by rw [hml]; rfl) (argsL := [(.int d2)]) (rest := []) (lenOf own_pd19 rfl) rfl (by show 2 * 0 + _ ≤ _; exact Nat.le_of_eq rfl) (hb hby at_205) (fun _ _ => ⟨rfl, (rfl : T337.heap = T337.heap), Nat.le_of_ble_eq_true rfl, Nat.le_of_ble_eq_true rfl⟩)
  dsimp only [Pt.U, Pt.locs, Pt.cells, Pt.slots] at X338 l338 y338 z338 st338 hQ338
  subst l338 y338 z338
  obtain ⟨a338, rfl, M338, K338, F338⟩ := hQ338
  have N338 := Fr.app N337 M338
  refine own_go st338 ?_
  have C338 := C337.trans (CHr.keep K338 all0 C337.1)
  have z338 : T337.heap.size ≤ T338.heap.size := K338.1
  show own_E p e below _ T338 (mkF m 208 #[.val (.int i0), .val (.int i1), .val (.int i2), .val (.int i3), .val (.int (i0 &&& (3 : Int32))), .val (.int y0), .val (.int y1), .val (.int y2), .val (.int yq), .val (.int c0), .val (.int c1), .val (.int c2), .val (.int cq), .val (.ref s0), .val (.ref s1), .val (.ref s2), .val (.ref q0), .val (.ref a336), .val (.ref a337), .unset, .unset, .unset, .unset, .unset, .unset, .unset, .unset, .unset, .unset, .unset, .unset] [(.ref a338)])
  refine own_astore X338 hx (hb hby at_208) rfl (l' := #[.val (.int i0), .val (.int i1), .val (.int i2), .val (.int i3), .val (.int (i0 &&& (3 : Int32))), .val (.int y0), .val (.int y1), .val (.int y2), .val (.int yq), .val (.int c0), .val (.int c1), .val (.int c2), .val (.int cq), .val (.ref s0), .val (.ref s1), .val (.ref s2), .val (.ref q0), .val (.ref a336), .val (.ref a337), .val (.ref a338), .unset, .unset, .unset, .unset, .unset, .unset, .unset, .unset, .unset, .unset, .unset]) rfl ?_
  obtain ⟨T339, h339, X339, e339, E339, A339, D339, -, st339⟩ := newO X338 hx hZ hown (own_w hw 26 rfl) (own_w hw 27 rfl) (own_w hw 28 rfl) (rfl : T338.heap = T338.heap) (g := (mkF m 210 #[.val (.int i0), .val (.int i1), .val (.int i2), .val (.int i3), .val (.int (i0 &&& (3 : Int32))), .val (.int y0), .val (.int y1), .val (.int y2), .val (.int yq), .val (.int c0), .val (.int c1), .val (.int c2), .val (.int cq), .val (.ref s0), .val (.ref s1), .val (.ref s2), .val (.ref q0), .val (.ref a336), .val (.ref a337), .val (.ref a338), .unset, .unset, .unset, .unset, .unset, .unset, .unset, .unset, .unset, .unset, .unset] [])) rfl (hb hby at_210) (by decide) (by decide)
  obtain ⟨a339, g339⟩ : ∃ z, z = T338.heap.size := ⟨_, rfl⟩
  rw [← g339] at A339 D339 st339
  have z339 : T338.heap.size ≤ h339.size := E339.1
  have t339 : a339 < h339.size := A339.lt
  refine own_go st339 ?_
  have lt340 := own_lt (A339).lt
  have C339 := C338.trans (CHr.ext E339 C338.1)
  show own_E p e below _ T339 (mkF m 213 #[.val (.int i0), .val (.int i1), .val (.int i2), .val (.int i3), .val (.int (i0 &&& (3 : Int32))), .val (.int y0), .val (.int y1), .val (.int y2), .val (.int yq), .val (.int c0), .val (.int c1), .val (.int c2), .val (.int cq), .val (.ref s0), .val (.ref s1), .val (.ref s2), .val (.ref q0), .val (.ref a336), .val (.ref a337), .val (.ref a338), .unset, .unset, .unset, .unset, .unset, .unset, .unset, .unset, .unset, .unset, .unset] [(.ref a339)])
  refine own_dup X339 hx (hb hby at_213) rfl ?_
  refine own_aload X339 hx (hb hby at_214) rfl rfl ?_
  refine own_aload X339 hx (hb hby at_216) rfl rfl ?_
  refine own_aload X339 hx (hb hby at_218) rfl rfl ?_
  obtain ⟨_, _, ⟨T341, L341, k341, n341⟩, -, X341, ⟨Lc341, hQ341, l341, y341, z341⟩, st341⟩ := X339.specialBack hx (y := (⟨"com/example/narrow_gate/narrowgate/Target$Parameter", "<init>", "(Ljava/lang/String;Ljava/lang/String;Ljava/lang/String;)V"⟩ : MethodName)) rfl hown (mvT hZ (own_w hw 29 rfl)) (mvT hZ (own_w hw 30 rfl)) (mvT hZ (own_w hw 31 rfl)) (by decide) (backOf (W := 1) (own_rmPI l Z a0 hw [] a339 s0 a336 h339 n0 (by omega) (D339 (Or.inr (own_w hw 39 rfl)) (ty := (.object "java/lang/String")) (by decide)) (D339 (Or.inr (own_w hw 41 rfl)) (ty := (.object "java/lang/String")) (by decide)) (D339 (Or.inr (own_w hw 43 rfl)) (ty := (.object "java/lang/String")) (by decide)) A339 (by omega)) hZ (own_w hw 31 rfl) (own_w hw 28 rfl) (by decide) (by decide)) (g := (mkF m 220 #[.val (.int i0), .val (.int i1), .val (.int i2), .val (.int i3), .val (.int (i0 &&& (3 : Int32))), .val (.int y0), .val (.int y1), .val (.int y2), .val (.int yq), .val (.int c0), .val (.int c1), .val (.int c2), .val (.int cq), .val (.ref s0), .val (.ref s1), .val (.ref s2), .val (.ref q0), .val (.ref a336), .val (.ref a337), .val (.ref a338), .unset, .unset, .unset, .unset, .unset, .unset, .unset, .unset, .unset, .unset, .unset] [(.ref a336), (.ref a336), (.ref s0), (.ref a339), (.ref a339)])) rfl (by rw [hml]; rfl) (Steps.refl _) (a := a339) (argsL := [(.ref s0), (.ref a336), (.ref a336)]) (rest := [(.ref a339)]) (lenOf own_pd20 rfl) rfl (by show 2 * 0 + _ ≤ _; exact Nat.le_of_eq rfl) (hb hby at_220) (fun _ _ => ⟨rfl, e339, Nat.le_of_ble_eq_true rfl, Nat.le_of_ble_eq_true rfl⟩)
  dsimp only [Pt.U, Pt.locs, Pt.cells, Pt.slots] at X341 l341 y341 z341 st341 hQ341
  subst l341 y341 z341
  obtain ⟨rfl, M341, K341, F341, G341⟩ := hQ341
  have N341 := Fr.app N338 M341
  refine own_go (fun _ k => st341.trans k) ?_
  have C341 := C339.trans (CHr.keep K341 (allS (Safe.exa hZ.alike A339 (by decide) (by decide)) all0) C339.1)
  have z341 : h339.size ≤ T341.heap.size := K341.1
  show own_E p e below _ T341 (mkF m 223 #[.val (.int i0), .val (.int i1), .val (.int i2), .val (.int i3), .val (.int (i0 &&& (3 : Int32))), .val (.int y0), .val (.int y1), .val (.int y2), .val (.int yq), .val (.int c0), .val (.int c1), .val (.int c2), .val (.int cq), .val (.ref s0), .val (.ref s1), .val (.ref s2), .val (.ref q0), .val (.ref a336), .val (.ref a337), .val (.ref a338), .unset, .unset, .unset, .unset, .unset, .unset, .unset, .unset, .unset, .unset, .unset] [(.ref a339)])
  refine own_astore X341 hx (hb hby at_223) rfl (l' := #[.val (.int i0), .val (.int i1), .val (.int i2), .val (.int i3), .val (.int (i0 &&& (3 : Int32))), .val (.int y0), .val (.int y1), .val (.int y2), .val (.int yq), .val (.int c0), .val (.int c1), .val (.int c2), .val (.int cq), .val (.ref s0), .val (.ref s1), .val (.ref s2), .val (.ref q0), .val (.ref a336), .val (.ref a337), .val (.ref a338), .val (.ref a339), .unset, .unset, .unset, .unset, .unset, .unset, .unset, .unset, .unset, .unset]) rfl ?_
  obtain ⟨T342, h342, X342, e342, E342, A342, D342, -, st342⟩ := newO X341 hx hZ hown (own_w hw 26 rfl) (own_w hw 27 rfl) (own_w hw 28 rfl) (rfl : T341.heap = T341.heap) (g := (mkF m 225 #[.val (.int i0), .val (.int i1), .val (.int i2), .val (.int i3), .val (.int (i0 &&& (3 : Int32))), .val (.int y0), .val (.int y1), .val (.int y2), .val (.int yq), .val (.int c0), .val (.int c1), .val (.int c2), .val (.int cq), .val (.ref s0), .val (.ref s1), .val (.ref s2), .val (.ref q0), .val (.ref a336), .val (.ref a337), .val (.ref a338), .val (.ref a339), .unset, .unset, .unset, .unset, .unset, .unset, .unset, .unset, .unset, .unset] [])) rfl (hb hby at_225) (by decide) (by decide)
  obtain ⟨a342, g342⟩ : ∃ z, z = T341.heap.size := ⟨_, rfl⟩
  rw [← g342] at A342 D342 st342
  have z342 : T341.heap.size ≤ h342.size := E342.1
  have t342 : a342 < h342.size := A342.lt
  refine own_go st342 ?_
  have lt343 := own_lt (A342).lt
  have C342 := C341.trans (CHr.ext E342 C341.1)
  show own_E p e below _ T342 (mkF m 228 #[.val (.int i0), .val (.int i1), .val (.int i2), .val (.int i3), .val (.int (i0 &&& (3 : Int32))), .val (.int y0), .val (.int y1), .val (.int y2), .val (.int yq), .val (.int c0), .val (.int c1), .val (.int c2), .val (.int cq), .val (.ref s0), .val (.ref s1), .val (.ref s2), .val (.ref q0), .val (.ref a336), .val (.ref a337), .val (.ref a338), .val (.ref a339), .unset, .unset, .unset, .unset, .unset, .unset, .unset, .unset, .unset, .unset] [(.ref a342)])
  refine own_dup X342 hx (hb hby at_228) rfl ?_
  refine own_aload X342 hx (hb hby at_229) rfl rfl ?_
  refine own_aload X342 hx (hb hby at_231) rfl rfl ?_
  refine own_aload X342 hx (hb hby at_233) rfl rfl ?_
  obtain ⟨_, _, ⟨T344, L344, k344, n344⟩, -, X344, ⟨Lc344, hQ344, l344, y344, z344⟩, st344⟩ := X342.specialBack hx (y := (⟨"com/example/narrow_gate/narrowgate/Target$Parameter", "<init>", "(Ljava/lang/String;Ljava/lang/String;Ljava/lang/String;)V"⟩ : MethodName)) rfl hown (mvT hZ (own_w hw 29 rfl)) (mvT hZ (own_w hw 30 rfl)) (mvT hZ (own_w hw 31 rfl)) (by decide) (backOf (W := 1) (own_rmPI l Z a0 hw [] a342 s1 a337 h342 n0 (by omega) (D342 (Or.inr (own_w hw 39 rfl)) (ty := (.object "java/lang/String")) (by decide)) (D342 (Or.inr (own_w hw 41 rfl)) (ty := (.object "java/lang/String")) (by decide)) (D342 (Or.inr (own_w hw 43 rfl)) (ty := (.object "java/lang/String")) (by decide)) A342 (by omega)) hZ (own_w hw 31 rfl) (own_w hw 28 rfl) (by decide) (by decide)) (g := (mkF m 235 #[.val (.int i0), .val (.int i1), .val (.int i2), .val (.int i3), .val (.int (i0 &&& (3 : Int32))), .val (.int y0), .val (.int y1), .val (.int y2), .val (.int yq), .val (.int c0), .val (.int c1), .val (.int c2), .val (.int cq), .val (.ref s0), .val (.ref s1), .val (.ref s2), .val (.ref q0), .val (.ref a336), .val (.ref a337), .val (.ref a338), .val (.ref a339), .unset, .unset, .unset, .unset, .unset, .unset, .unset, .unset, .unset, .unset] [(.ref a337), (.ref a337), (.ref s1), (.ref a342), (.ref a342)])) rfl (by rw [hml]; rfl) (Steps.refl _) (a := a342) (argsL := [(.ref s1), (.ref a337), (.ref a337)]) (rest := [(.ref a342)]) (lenOf own_pd20 rfl) rfl (by show 2 * 0 + _ ≤ _; exact Nat.le_of_eq rfl) (hb hby at_235) (fun _ _ => ⟨rfl, e342, Nat.le_of_ble_eq_true rfl, Nat.le_of_ble_eq_true rfl⟩)
  dsimp only [Pt.U, Pt.locs, Pt.cells, Pt.slots] at X344 l344 y344 z344 st344 hQ344
  subst l344 y344 z344
  obtain ⟨rfl, M344, K344, F344, G344⟩ := hQ344
  have N344 := Fr.app N341 M344
  refine own_go (fun _ k => st344.trans k) ?_
  have C344 := C342.trans (CHr.keep K344 (allS (Safe.exa hZ.alike A342 (by decide) (by decide)) all0) C342.1)
  have z344 : h342.size ≤ T344.heap.size := K344.1
  show own_E p e below _ T344 (mkF m 238 #[.val (.int i0), .val (.int i1), .val (.int i2), .val (.int i3), .val (.int (i0 &&& (3 : Int32))), .val (.int y0), .val (.int y1), .val (.int y2), .val (.int yq), .val (.int c0), .val (.int c1), .val (.int c2), .val (.int cq), .val (.ref s0), .val (.ref s1), .val (.ref s2), .val (.ref q0), .val (.ref a336), .val (.ref a337), .val (.ref a338), .val (.ref a339), .unset, .unset, .unset, .unset, .unset, .unset, .unset, .unset, .unset, .unset] [(.ref a342)])
  refine own_astore X344 hx (hb hby at_238) rfl (l' := #[.val (.int i0), .val (.int i1), .val (.int i2), .val (.int i3), .val (.int (i0 &&& (3 : Int32))), .val (.int y0), .val (.int y1), .val (.int y2), .val (.int yq), .val (.int c0), .val (.int c1), .val (.int c2), .val (.int cq), .val (.ref s0), .val (.ref s1), .val (.ref s2), .val (.ref q0), .val (.ref a336), .val (.ref a337), .val (.ref a338), .val (.ref a339), .val (.ref a342), .unset, .unset, .unset, .unset, .unset, .unset, .unset, .unset, .unset]) rfl ?_
  obtain ⟨T345, h345, X345, e345, E345, A345, D345, -, st345⟩ := newO X344 hx hZ hown (own_w hw 26 rfl) (own_w hw 27 rfl) (own_w hw 28 rfl) (rfl : T344.heap = T344.heap) (g := (mkF m 240 #[.val (.int i0), .val (.int i1), .val (.int i2), .val (.int i3), .val (.int (i0 &&& (3 : Int32))), .val (.int y0), .val (.int y1), .val (.int y2), .val (.int yq), .val (.int c0), .val (.int c1), .val (.int c2), .val (.int cq), .val (.ref s0), .val (.ref s1), .val (.ref s2), .val (.ref q0), .val (.ref a336), .val (.ref a337), .val (.ref a338), .val (.ref a339), .val (.ref a342), .unset, .unset, .unset, .unset, .unset, .unset, .unset, .unset, .unset] [])) rfl (hb hby at_240) (by decide) (by decide)
  obtain ⟨a345, g345⟩ : ∃ z, z = T344.heap.size := ⟨_, rfl⟩
  rw [← g345] at A345 D345 st345
  have z345 : T344.heap.size ≤ h345.size := E345.1
  have t345 : a345 < h345.size := A345.lt
  refine own_go st345 ?_
  have lt346 := own_lt (A345).lt
  have C345 := C344.trans (CHr.ext E345 C344.1)
  show own_E p e below _ T345 (mkF m 243 #[.val (.int i0), .val (.int i1), .val (.int i2), .val (.int i3), .val (.int (i0 &&& (3 : Int32))), .val (.int y0), .val (.int y1), .val (.int y2), .val (.int yq), .val (.int c0), .val (.int c1), .val (.int c2), .val (.int cq), .val (.ref s0), .val (.ref s1), .val (.ref s2), .val (.ref q0), .val (.ref a336), .val (.ref a337), .val (.ref a338), .val (.ref a339), .val (.ref a342), .unset, .unset, .unset, .unset, .unset, .unset, .unset, .unset, .unset] [(.ref a345)])
  refine own_dup X345 hx (hb hby at_243) rfl ?_
  refine own_aload X345 hx (hb hby at_244) rfl rfl ?_
  refine own_aload X345 hx (hb hby at_246) rfl rfl ?_
  refine own_aload X345 hx (hb hby at_248) rfl rfl ?_
  obtain ⟨_, _, ⟨T347, L347, k347, n347⟩, -, X347, ⟨Lc347, hQ347, l347, y347, z347⟩, st347⟩ := X345.specialBack hx (y := (⟨"com/example/narrow_gate/narrowgate/Target$Parameter", "<init>", "(Ljava/lang/String;Ljava/lang/String;Ljava/lang/String;)V"⟩ : MethodName)) rfl hown (mvT hZ (own_w hw 29 rfl)) (mvT hZ (own_w hw 30 rfl)) (mvT hZ (own_w hw 31 rfl)) (by decide) (backOf (W := 1) (own_rmPI l Z a0 hw [] a345 s2 a338 h345 n0 (by omega) (D345 (Or.inr (own_w hw 39 rfl)) (ty := (.object "java/lang/String")) (by decide)) (D345 (Or.inr (own_w hw 41 rfl)) (ty := (.object "java/lang/String")) (by decide)) (D345 (Or.inr (own_w hw 43 rfl)) (ty := (.object "java/lang/String")) (by decide)) A345 (by omega)) hZ (own_w hw 31 rfl) (own_w hw 28 rfl) (by decide) (by decide)) (g := (mkF m 250 #[.val (.int i0), .val (.int i1), .val (.int i2), .val (.int i3), .val (.int (i0 &&& (3 : Int32))), .val (.int y0), .val (.int y1), .val (.int y2), .val (.int yq), .val (.int c0), .val (.int c1), .val (.int c2), .val (.int cq), .val (.ref s0), .val (.ref s1), .val (.ref s2), .val (.ref q0), .val (.ref a336), .val (.ref a337), .val (.ref a338), .val (.ref a339), .val (.ref a342), .unset, .unset, .unset, .unset, .unset, .unset, .unset, .unset, .unset] [(.ref a338), (.ref a338), (.ref s2), (.ref a345), (.ref a345)])) rfl (by rw [hml]; rfl) (Steps.refl _) (a := a345) (argsL := [(.ref s2), (.ref a338), (.ref a338)]) (rest := [(.ref a345)]) (lenOf own_pd20 rfl) rfl (by show 2 * 0 + _ ≤ _; exact Nat.le_of_eq rfl) (hb hby at_250) (fun _ _ => ⟨rfl, e345, Nat.le_of_ble_eq_true rfl, Nat.le_of_ble_eq_true rfl⟩)
  dsimp only [Pt.U, Pt.locs, Pt.cells, Pt.slots] at X347 l347 y347 z347 st347 hQ347
  subst l347 y347 z347
  obtain ⟨rfl, M347, K347, F347, G347⟩ := hQ347
  have N347 := Fr.app N344 M347
  refine own_go (fun _ k => st347.trans k) ?_
  have C347 := C345.trans (CHr.keep K347 (allS (Safe.exa hZ.alike A345 (by decide) (by decide)) all0) C345.1)
  have z347 : h345.size ≤ T347.heap.size := K347.1
  show own_E p e below _ T347 (mkF m 253 #[.val (.int i0), .val (.int i1), .val (.int i2), .val (.int i3), .val (.int (i0 &&& (3 : Int32))), .val (.int y0), .val (.int y1), .val (.int y2), .val (.int yq), .val (.int c0), .val (.int c1), .val (.int c2), .val (.int cq), .val (.ref s0), .val (.ref s1), .val (.ref s2), .val (.ref q0), .val (.ref a336), .val (.ref a337), .val (.ref a338), .val (.ref a339), .val (.ref a342), .unset, .unset, .unset, .unset, .unset, .unset, .unset, .unset, .unset] [(.ref a345)])
  refine own_astore X347 hx (hb hby at_253) rfl (l' := #[.val (.int i0), .val (.int i1), .val (.int i2), .val (.int i3), .val (.int (i0 &&& (3 : Int32))), .val (.int y0), .val (.int y1), .val (.int y2), .val (.int yq), .val (.int c0), .val (.int c1), .val (.int c2), .val (.int cq), .val (.ref s0), .val (.ref s1), .val (.ref s2), .val (.ref q0), .val (.ref a336), .val (.ref a337), .val (.ref a338), .val (.ref a339), .val (.ref a342), .val (.ref a345), .unset, .unset, .unset, .unset, .unset, .unset, .unset, .unset]) rfl ?_
  obtain ⟨T348, h348, X348, e348, E348, A348, D348, -, st348⟩ := newO X347 hx hZ hown (own_w hw 44 rfl) (own_w hw 45 rfl) (own_w hw 46 rfl) (rfl : T347.heap = T347.heap) (g := (mkF m 255 #[.val (.int i0), .val (.int i1), .val (.int i2), .val (.int i3), .val (.int (i0 &&& (3 : Int32))), .val (.int y0), .val (.int y1), .val (.int y2), .val (.int yq), .val (.int c0), .val (.int c1), .val (.int c2), .val (.int cq), .val (.ref s0), .val (.ref s1), .val (.ref s2), .val (.ref q0), .val (.ref a336), .val (.ref a337), .val (.ref a338), .val (.ref a339), .val (.ref a342), .val (.ref a345), .unset, .unset, .unset, .unset, .unset, .unset, .unset, .unset] [])) rfl (hb hby at_255) (by decide) (by decide)
  obtain ⟨a348, g348⟩ : ∃ z, z = T347.heap.size := ⟨_, rfl⟩
  rw [← g348] at A348 D348 st348
  have z348 : T347.heap.size ≤ h348.size := E348.1
  have t348 : a348 < h348.size := A348.lt
  refine own_go st348 ?_
  have lt349 := own_lt (A348).lt
  have C348 := C347.trans (CHr.ext E348 C347.1)
  show own_E p e below _ T348 (mkF m 258 #[.val (.int i0), .val (.int i1), .val (.int i2), .val (.int i3), .val (.int (i0 &&& (3 : Int32))), .val (.int y0), .val (.int y1), .val (.int y2), .val (.int yq), .val (.int c0), .val (.int c1), .val (.int c2), .val (.int cq), .val (.ref s0), .val (.ref s1), .val (.ref s2), .val (.ref q0), .val (.ref a336), .val (.ref a337), .val (.ref a338), .val (.ref a339), .val (.ref a342), .val (.ref a345), .unset, .unset, .unset, .unset, .unset, .unset, .unset, .unset] [(.ref a348)])
  refine own_dup X348 hx (hb hby at_258) rfl ?_
  obtain ⟨_, _, ⟨T350, L350, k350, n350⟩, -, X350, ⟨Lc350, hQ350, l350, y350, z350⟩, st350⟩ := X348.specialBack hx (y := (⟨"java/util/ArrayList", "<init>", "()V"⟩ : MethodName)) rfl hown (mvT hZ (own_w hw 47 rfl)) (mvT hZ (own_w hw 48 rfl)) (mvT hZ (own_w hw 49 rfl)) (by decide) (backOf (W := 1) (own_rmAI l Z a0 hw [] a348 wd h348 n0 (by omega) ((((((((((((((O0.keep K316 all0).keep K321 all0).keep K326 all0).keep K331 all0).keep K336 all0).keep K337 all0).keep K338 all0).ext E339).keep K341 (allS (by omega) all0)).ext E342).keep K344 (allS (by omega) all0)).ext E345).keep K347 (allS (by omega) all0)).ext E348) SD (D348 (Or.inl (own_w hw 67 rfl)) (ty := (.array (.object "java/lang/Object"))) (by decide)) (D348 (Or.inl (own_w hw 126 rfl)) (ty := .int) (by decide)) (D348 (Or.inl (own_w hw 64 rfl)) (ty := .int) (by decide)) A348 (by omega)) hZ (own_w hw 49 rfl) (own_w hw 46 rfl) (by decide) (by decide)) (g := (mkF m 259 #[.val (.int i0), .val (.int i1), .val (.int i2), .val (.int i3), .val (.int (i0 &&& (3 : Int32))), .val (.int y0), .val (.int y1), .val (.int y2), .val (.int yq), .val (.int c0), .val (.int c1), .val (.int c2), .val (.int cq), .val (.ref s0), .val (.ref s1), .val (.ref s2), .val (.ref q0), .val (.ref a336), .val (.ref a337), .val (.ref a338), .val (.ref a339), .val (.ref a342), .val (.ref a345), .unset, .unset, .unset, .unset, .unset, .unset, .unset, .unset] [(.ref a348), (.ref a348)])) rfl (by rw [hml]; rfl) (Steps.refl _) (a := a348) (argsL := []) (rest := [(.ref a348)]) (lenOf own_pd0 rfl) rfl (by show 2 * 0 + _ ≤ _; exact Nat.le_of_eq rfl) (hb hby at_259) (fun _ _ => ⟨rfl, e348, Nat.le_of_ble_eq_true rfl, Nat.le_of_ble_eq_true rfl⟩)
  dsimp only [Pt.U, Pt.locs, Pt.cells, Pt.slots] at X350 l350 y350 z350 st350 hQ350
  subst l350 y350 z350
  obtain ⟨rfl, M350, K350, F350, G350, J350⟩ := hQ350
  have N350 := Fr.app N347 M350
  refine own_go (fun _ k => st350.trans k) ?_
  have C350 := C348.trans (CHr.keep K350 (allS (Safe.exa hZ.alike A348 (by decide) (by decide)) all0) C348.1)
  have z350 : h348.size ≤ T350.heap.size := K350.1
  show own_E p e below _ T350 (mkF m 262 #[.val (.int i0), .val (.int i1), .val (.int i2), .val (.int i3), .val (.int (i0 &&& (3 : Int32))), .val (.int y0), .val (.int y1), .val (.int y2), .val (.int yq), .val (.int c0), .val (.int c1), .val (.int c2), .val (.int cq), .val (.ref s0), .val (.ref s1), .val (.ref s2), .val (.ref q0), .val (.ref a336), .val (.ref a337), .val (.ref a338), .val (.ref a339), .val (.ref a342), .val (.ref a345), .unset, .unset, .unset, .unset, .unset, .unset, .unset, .unset] [(.ref a348)])
  refine own_astore X350 hx (hb hby at_262) rfl (l' := #[.val (.int i0), .val (.int i1), .val (.int i2), .val (.int i3), .val (.int (i0 &&& (3 : Int32))), .val (.int y0), .val (.int y1), .val (.int y2), .val (.int yq), .val (.int c0), .val (.int c1), .val (.int c2), .val (.int cq), .val (.ref s0), .val (.ref s1), .val (.ref s2), .val (.ref q0), .val (.ref a336), .val (.ref a337), .val (.ref a338), .val (.ref a339), .val (.ref a342), .val (.ref a345), .val (.ref a348), .unset, .unset, .unset, .unset, .unset, .unset, .unset]) rfl ?_
  refine own_iload X350 hx (hb hby at_264) rfl ?_
  by_cases h0c : 0 < (i0 &&& (3 : Int32))
  · skip
    refine own_ifNo X350 hx (hb hby at_266) (XT.i0_le_f h0c) ?_
    show own_E p e below _ T350 (mkF m 269 #[.val (.int i0), .val (.int i1), .val (.int i2), .val (.int i3), .val (.int (i0 &&& (3 : Int32))), .val (.int y0), .val (.int y1), .val (.int y2), .val (.int yq), .val (.int c0), .val (.int c1), .val (.int c2), .val (.int cq), .val (.ref s0), .val (.ref s1), .val (.ref s2), .val (.ref q0), .val (.ref a336), .val (.ref a337), .val (.ref a338), .val (.ref a339), .val (.ref a342), .val (.ref a345), .val (.ref a348), .unset, .unset, .unset, .unset, .unset, .unset, .unset] [])
    refine own_aload X350 hx (hb hby at_269) rfl rfl ?_
    refine own_aload X350 hx (hb hby at_271) rfl rfl ?_
    obtain ⟨cq366, kq366, qa366, qb366, qc366⟩ := isOf hZ (rfl : T350.heap = T350.heap) (A348.keep K350)
    obtain ⟨_, _, ⟨T366, L366, k366, n366⟩, -, X366, ⟨Lc366, hQ366, l366, y366, z366⟩, st366⟩ := X350.interfaceBack hx (xi := (⟨"java/util/List", "add", "(Ljava/lang/Object;)Z"⟩ : MethodName)) (y := (⟨"java/util/ArrayList", "add", "(Ljava/lang/Object;)Z"⟩ : MethodName)) hown (mvT hZ (own_w hw 137 rfl)) (mvT hZ (own_w hw 138 rfl)) (mvT hZ (own_w hw 139 rfl)) (mvT hZ (own_w hw 140 rfl)) (mvT hZ (own_w hw 141 rfl)) (mvT hZ (own_w hw 142 rfl)) (mvT hZ (own_w hw 143 rfl)) (mvT hZ (own_w hw 96 rfl)) (by decide) (backOf (W := 0) (own_rmA0 l Z a0 hw [] a348 a339 wd cwd T350.heap n0 (by omega) (((((((((((((((O0.keep K316 all0).keep K321 all0).keep K326 all0).keep K331 all0).keep K336 all0).keep K337 all0).keep K338 all0).ext E339).keep K341 (allS (by omega) all0)).ext E342).keep K344 (allS (by omega) all0)).ext E345).keep K347 (allS (by omega) all0)).ext E348).keep K350 (allS (by omega) all0)) SD AW zw F350 G350 J350 (A348.keep K350) (by omega) (((((((A339.keep K341).ext E342).keep K344).ext E345).keep K347).ext E348).keep K350)) hZ (own_w hw 144 rfl) (own_w hw 46 rfl) (by decide) (by decide)) qa366 qb366 qc366 (g := (mkF m 273 #[.val (.int i0), .val (.int i1), .val (.int i2), .val (.int i3), .val (.int (i0 &&& (3 : Int32))), .val (.int y0), .val (.int y1), .val (.int y2), .val (.int yq), .val (.int c0), .val (.int c1), .val (.int c2), .val (.int cq), .val (.ref s0), .val (.ref s1), .val (.ref s2), .val (.ref q0), .val (.ref a336), .val (.ref a337), .val (.ref a338), .val (.ref a339), .val (.ref a342), .val (.ref a345), .val (.ref a348), .unset, .unset, .unset, .unset, .unset, .unset, .unset] [(.ref a339), (.ref a348)])) rfl (by rw [hml]; rfl) (Steps.refl _) (argsL := [(.ref a339)]) (rest := []) (lenOf own_pd17 rfl) rfl (by show 2 * 0 + _ ≤ _; exact Nat.le_of_eq rfl) (hb hby at_273) (fun _ _ => ⟨rfl, (rfl : T350.heap = T350.heap), Nat.le_of_ble_eq_true rfl, Nat.le_of_ble_eq_true rfl⟩)
    dsimp only [Pt.U, Pt.locs, Pt.cells, Pt.slots] at X366 l366 y366 z366 st366 hQ366
    subst l366 y366 z366
    obtain ⟨d366, kd366, rfl, M366, K366, gd366, F366, G366, J366, V366, O366⟩ := hQ366
    have N366 := Fr.app N350 M366
    refine own_go (fun _ k => st366.trans k) ?_
    have C366 := C350.trans (CHr.keep K366 (allS (Safe.exa hZ.alike (A348.keep K350) (by decide) (by decide)) all0) C350.1)
    have z366 : T350.heap.size ≤ T366.heap.size := K366.1
    show own_E p e below _ T366 (mkF m 278 #[.val (.int i0), .val (.int i1), .val (.int i2), .val (.int i3), .val (.int (i0 &&& (3 : Int32))), .val (.int y0), .val (.int y1), .val (.int y2), .val (.int yq), .val (.int c0), .val (.int c1), .val (.int c2), .val (.int cq), .val (.ref s0), .val (.ref s1), .val (.ref s2), .val (.ref q0), .val (.ref a336), .val (.ref a337), .val (.ref a338), .val (.ref a339), .val (.ref a342), .val (.ref a345), .val (.ref a348), .unset, .unset, .unset, .unset, .unset, .unset, .unset] [(.int (1 : Int32))])
    have lt367 := own_lt (V366).lt
    refine own_pop X366 hx (hb hby at_278) rfl ?_
    refine own_iload X366 hx (hb hby at_279) rfl ?_
    refine own_iconst X366 hx (hb hby at_281) (v := (1 : Int32)) (by decide) ?_
    by_cases h1c : (1 : Int32) < (i0 &&& (3 : Int32))
    · skip
      refine own_icmpNo X366 hx (hb hby at_282) (XT.ii_le_f h1c) ?_
      show own_E p e below _ T366 (mkF m 285 #[.val (.int i0), .val (.int i1), .val (.int i2), .val (.int i3), .val (.int (i0 &&& (3 : Int32))), .val (.int y0), .val (.int y1), .val (.int y2), .val (.int yq), .val (.int c0), .val (.int c1), .val (.int c2), .val (.int cq), .val (.ref s0), .val (.ref s1), .val (.ref s2), .val (.ref q0), .val (.ref a336), .val (.ref a337), .val (.ref a338), .val (.ref a339), .val (.ref a342), .val (.ref a345), .val (.ref a348), .unset, .unset, .unset, .unset, .unset, .unset, .unset] [])
      refine own_aload X366 hx (hb hby at_285) rfl rfl ?_
      refine own_aload X366 hx (hb hby at_287) rfl rfl ?_
      obtain ⟨cq388, kq388, qa388, qb388, qc388⟩ := isOf hZ (rfl : T366.heap = T366.heap) ((A348.keep K350).keep K366)
      obtain ⟨_, _, ⟨T388, L388, k388, n388⟩, -, X388, ⟨Lc388, hQ388, l388, y388, z388⟩, st388⟩ := X366.interfaceBack hx (xi := (⟨"java/util/List", "add", "(Ljava/lang/Object;)Z"⟩ : MethodName)) (y := (⟨"java/util/ArrayList", "add", "(Ljava/lang/Object;)Z"⟩ : MethodName)) hown (mvT hZ (own_w hw 137 rfl)) (mvT hZ (own_w hw 138 rfl)) (mvT hZ (own_w hw 139 rfl)) (mvT hZ (own_w hw 140 rfl)) (mvT hZ (own_w hw 141 rfl)) (mvT hZ (own_w hw 142 rfl)) (mvT hZ (own_w hw 143 rfl)) (mvT hZ (own_w hw 96 rfl)) (by decide) (backOf (W := 0) (own_rmA1 l Z a0 hw [] a348 d366 a339 a342 kd366 T366.heap n0 (by omega) F366 G366 J366 ((A348.keep K350).keep K366) V366 O366 ((((((A342.keep K344).ext E345).keep K347).ext E348).keep K350).keep K366) (by omega) (by omega) (own_ne (by omega))) hZ (own_w hw 144 rfl) (own_w hw 46 rfl) (by decide) (by decide)) qa388 qb388 qc388 (g := (mkF m 289 #[.val (.int i0), .val (.int i1), .val (.int i2), .val (.int i3), .val (.int (i0 &&& (3 : Int32))), .val (.int y0), .val (.int y1), .val (.int y2), .val (.int yq), .val (.int c0), .val (.int c1), .val (.int c2), .val (.int cq), .val (.ref s0), .val (.ref s1), .val (.ref s2), .val (.ref q0), .val (.ref a336), .val (.ref a337), .val (.ref a338), .val (.ref a339), .val (.ref a342), .val (.ref a345), .val (.ref a348), .unset, .unset, .unset, .unset, .unset, .unset, .unset] [(.ref a342), (.ref a348)])) rfl (by rw [hml]; rfl) (Steps.refl _) (argsL := [(.ref a342)]) (rest := []) (lenOf own_pd17 rfl) rfl (by show 2 * 0 + _ ≤ _; exact Nat.le_of_eq rfl) (hb hby at_289) (fun _ _ => ⟨rfl, (rfl : T366.heap = T366.heap), Nat.le_of_ble_eq_true rfl, Nat.le_of_ble_eq_true rfl⟩)
      dsimp only [Pt.U, Pt.locs, Pt.cells, Pt.slots] at X388 l388 y388 z388 st388 hQ388
      subst l388 y388 z388
      obtain ⟨rfl, M388, K388, F388, G388, J388, V388⟩ := hQ388
      have N388 := Fr.app N366 M388
      refine own_go (fun _ k => st388.trans k) ?_
      have C388 := C366.trans (CHr.keep K388 (allS (Safe.exa hZ.alike ((A348.keep K350).keep K366) (by decide) (by decide)) (allS (Safe.arr hZ.alike (V366).choose_spec.1 (by decide)) all0)) C366.1)
      have z388 : T366.heap.size ≤ T388.heap.size := K388.1
      show own_E p e below _ T388 (mkF m 294 #[.val (.int i0), .val (.int i1), .val (.int i2), .val (.int i3), .val (.int (i0 &&& (3 : Int32))), .val (.int y0), .val (.int y1), .val (.int y2), .val (.int yq), .val (.int c0), .val (.int c1), .val (.int c2), .val (.int cq), .val (.ref s0), .val (.ref s1), .val (.ref s2), .val (.ref q0), .val (.ref a336), .val (.ref a337), .val (.ref a338), .val (.ref a339), .val (.ref a342), .val (.ref a345), .val (.ref a348), .unset, .unset, .unset, .unset, .unset, .unset, .unset] [(.int (1 : Int32))])
      have lt389 := own_lt (V388).lt
      refine own_pop X388 hx (hb hby at_294) rfl ?_
      refine own_iload X388 hx (hb hby at_295) rfl ?_
      refine own_iconst X388 hx (hb hby at_297) (v := (2 : Int32)) (by decide) ?_
      by_cases h2c : (2 : Int32) < (i0 &&& (3 : Int32))
      · skip
        refine own_icmpNo X388 hx (hb hby at_298) (XT.ii_le_f h2c) ?_
        show own_E p e below _ T388 (mkF m 301 #[.val (.int i0), .val (.int i1), .val (.int i2), .val (.int i3), .val (.int (i0 &&& (3 : Int32))), .val (.int y0), .val (.int y1), .val (.int y2), .val (.int yq), .val (.int c0), .val (.int c1), .val (.int c2), .val (.int cq), .val (.ref s0), .val (.ref s1), .val (.ref s2), .val (.ref q0), .val (.ref a336), .val (.ref a337), .val (.ref a338), .val (.ref a339), .val (.ref a342), .val (.ref a345), .val (.ref a348), .unset, .unset, .unset, .unset, .unset, .unset, .unset] [])
        refine own_aload X388 hx (hb hby at_301) rfl rfl ?_
        refine own_aload X388 hx (hb hby at_303) rfl rfl ?_
        obtain ⟨cq415, kq415, qa415, qb415, qc415⟩ := isOf hZ (rfl : T388.heap = T388.heap) (((A348.keep K350).keep K366).keep K388)
        obtain ⟨_, _, ⟨T415, L415, k415, n415⟩, -, X415, ⟨Lc415, hQ415, l415, y415, z415⟩, st415⟩ := X388.interfaceBack hx (xi := (⟨"java/util/List", "add", "(Ljava/lang/Object;)Z"⟩ : MethodName)) (y := (⟨"java/util/ArrayList", "add", "(Ljava/lang/Object;)Z"⟩ : MethodName)) hown (mvT hZ (own_w hw 137 rfl)) (mvT hZ (own_w hw 138 rfl)) (mvT hZ (own_w hw 139 rfl)) (mvT hZ (own_w hw 140 rfl)) (mvT hZ (own_w hw 141 rfl)) (mvT hZ (own_w hw 142 rfl)) (mvT hZ (own_w hw 143 rfl)) (mvT hZ (own_w hw 96 rfl)) (by decide) (backOf (W := 0) (own_rmA2 l Z a0 hw [] a348 d366 a339 a342 a345 kd366 T388.heap n0 (by omega) F388 G388 J388 (((A348.keep K350).keep K366).keep K388) V388 O366 (((((A345.keep K347).ext E348).keep K350).keep K366).keep K388) (by omega) (by omega) (own_ne (by omega))) hZ (own_w hw 144 rfl) (own_w hw 46 rfl) (by decide) (by decide)) qa415 qb415 qc415 (g := (mkF m 305 #[.val (.int i0), .val (.int i1), .val (.int i2), .val (.int i3), .val (.int (i0 &&& (3 : Int32))), .val (.int y0), .val (.int y1), .val (.int y2), .val (.int yq), .val (.int c0), .val (.int c1), .val (.int c2), .val (.int cq), .val (.ref s0), .val (.ref s1), .val (.ref s2), .val (.ref q0), .val (.ref a336), .val (.ref a337), .val (.ref a338), .val (.ref a339), .val (.ref a342), .val (.ref a345), .val (.ref a348), .unset, .unset, .unset, .unset, .unset, .unset, .unset] [(.ref a345), (.ref a348)])) rfl (by rw [hml]; rfl) (Steps.refl _) (argsL := [(.ref a345)]) (rest := []) (lenOf own_pd17 rfl) rfl (by show 2 * 0 + _ ≤ _; exact Nat.le_of_eq rfl) (hb hby at_305) (fun _ _ => ⟨rfl, (rfl : T388.heap = T388.heap), Nat.le_of_ble_eq_true rfl, Nat.le_of_ble_eq_true rfl⟩)
        dsimp only [Pt.U, Pt.locs, Pt.cells, Pt.slots] at X415 l415 y415 z415 st415 hQ415
        subst l415 y415 z415
        obtain ⟨rfl, M415, K415, F415, G415, J415, V415⟩ := hQ415
        have N415 := Fr.app N388 M415
        refine own_go (fun _ k => st415.trans k) ?_
        have C415 := C388.trans (CHr.keep K415 (allS (Safe.exa hZ.alike (((A348.keep K350).keep K366).keep K388) (by decide) (by decide)) (allS (Safe.arr hZ.alike (V388).choose_spec.1 (by decide)) all0)) C388.1)
        have z415 : T388.heap.size ≤ T415.heap.size := K415.1
        show own_E p e below _ T415 (mkF m 310 #[.val (.int i0), .val (.int i1), .val (.int i2), .val (.int i3), .val (.int (i0 &&& (3 : Int32))), .val (.int y0), .val (.int y1), .val (.int y2), .val (.int yq), .val (.int c0), .val (.int c1), .val (.int c2), .val (.int cq), .val (.ref s0), .val (.ref s1), .val (.ref s2), .val (.ref q0), .val (.ref a336), .val (.ref a337), .val (.ref a338), .val (.ref a339), .val (.ref a342), .val (.ref a345), .val (.ref a348), .unset, .unset, .unset, .unset, .unset, .unset, .unset] [(.int (1 : Int32))])
        have lt416 := own_lt (V415).lt
        refine own_pop X415 hx (hb hby at_310) rfl ?_
        obtain ⟨T417, h417, X417, e417, E417, A417, D417, -, st417⟩ := newO X415 hx hZ hown (own_w hw 68 rfl) (own_w hw 69 rfl) (own_w hw 70 rfl) (rfl : T415.heap = T415.heap) (g := (mkF m 311 #[.val (.int i0), .val (.int i1), .val (.int i2), .val (.int i3), .val (.int (i0 &&& (3 : Int32))), .val (.int y0), .val (.int y1), .val (.int y2), .val (.int yq), .val (.int c0), .val (.int c1), .val (.int c2), .val (.int cq), .val (.ref s0), .val (.ref s1), .val (.ref s2), .val (.ref q0), .val (.ref a336), .val (.ref a337), .val (.ref a338), .val (.ref a339), .val (.ref a342), .val (.ref a345), .val (.ref a348), .unset, .unset, .unset, .unset, .unset, .unset, .unset] [])) rfl (hb hby at_311) (by decide) (by decide)
        obtain ⟨a417, g417⟩ : ∃ z, z = T415.heap.size := ⟨_, rfl⟩
        rw [← g417] at A417 D417 st417
        have z417 : T415.heap.size ≤ h417.size := E417.1
        have t417 : a417 < h417.size := A417.lt
        refine own_go st417 ?_
        have lt418 := own_lt (A417).lt
        have C417 := C415.trans (CHr.ext E417 C415.1)
        show own_E p e below _ T417 (mkF m 314 #[.val (.int i0), .val (.int i1), .val (.int i2), .val (.int i3), .val (.int (i0 &&& (3 : Int32))), .val (.int y0), .val (.int y1), .val (.int y2), .val (.int yq), .val (.int c0), .val (.int c1), .val (.int c2), .val (.int cq), .val (.ref s0), .val (.ref s1), .val (.ref s2), .val (.ref q0), .val (.ref a336), .val (.ref a337), .val (.ref a338), .val (.ref a339), .val (.ref a342), .val (.ref a345), .val (.ref a348), .unset, .unset, .unset, .unset, .unset, .unset, .unset] [(.ref a417)])
        refine own_dup X417 hx (hb hby at_314) rfl ?_
        obtain ⟨T419, h419, X419, e419, E419, A419, D419, -, st419⟩ := newO X417 hx hZ hown (own_w hw 44 rfl) (own_w hw 45 rfl) (own_w hw 46 rfl) e417 (g := (mkF m 315 #[.val (.int i0), .val (.int i1), .val (.int i2), .val (.int i3), .val (.int (i0 &&& (3 : Int32))), .val (.int y0), .val (.int y1), .val (.int y2), .val (.int yq), .val (.int c0), .val (.int c1), .val (.int c2), .val (.int cq), .val (.ref s0), .val (.ref s1), .val (.ref s2), .val (.ref q0), .val (.ref a336), .val (.ref a337), .val (.ref a338), .val (.ref a339), .val (.ref a342), .val (.ref a345), .val (.ref a348), .unset, .unset, .unset, .unset, .unset, .unset, .unset] [(.ref a417), (.ref a417)])) rfl (hb hby at_315) (by decide) (by decide)
        obtain ⟨a419, g419⟩ : ∃ z, z = h417.size := ⟨_, rfl⟩
        rw [← g419] at A419 D419 st419
        have z419 : h417.size ≤ h419.size := E419.1
        have t419 : a419 < h419.size := A419.lt
        refine own_go st419 ?_
        have lt420 := own_lt (A419).lt
        have C419 := C417.trans (CHr.ext E419 C417.1)
        show own_E p e below _ T419 (mkF m 318 #[.val (.int i0), .val (.int i1), .val (.int i2), .val (.int i3), .val (.int (i0 &&& (3 : Int32))), .val (.int y0), .val (.int y1), .val (.int y2), .val (.int yq), .val (.int c0), .val (.int c1), .val (.int c2), .val (.int cq), .val (.ref s0), .val (.ref s1), .val (.ref s2), .val (.ref q0), .val (.ref a336), .val (.ref a337), .val (.ref a338), .val (.ref a339), .val (.ref a342), .val (.ref a345), .val (.ref a348), .unset, .unset, .unset, .unset, .unset, .unset, .unset] [(.ref a419), (.ref a417), (.ref a417)])
        refine own_dup X419 hx (hb hby at_318) rfl ?_
        obtain ⟨_, _, ⟨T421, L421, k421, n421⟩, -, X421, ⟨Lc421, hQ421, l421, y421, z421⟩, st421⟩ := X419.specialBack hx (y := (⟨"java/util/ArrayList", "<init>", "()V"⟩ : MethodName)) rfl hown (mvT hZ (own_w hw 47 rfl)) (mvT hZ (own_w hw 48 rfl)) (mvT hZ (own_w hw 49 rfl)) (by decide) (backOf (W := 3) (own_rmAI l Z a0 hw [] a419 wd h419 n0 (by omega) ((((((((((((((((((((O0.keep K316 all0).keep K321 all0).keep K326 all0).keep K331 all0).keep K336 all0).keep K337 all0).keep K338 all0).ext E339).keep K341 (allS (by omega) all0)).ext E342).keep K344 (allS (by omega) all0)).ext E345).keep K347 (allS (by omega) all0)).ext E348).keep K350 (allS (by omega) all0)).keep K366 (allS (by omega) all0)).keep K388 (allS (by omega) (allS (by omega) all0))).keep K415 (allS (by omega) (allS (by omega) all0))).ext E417).ext E419) SD (D419 (Or.inl (own_w hw 67 rfl)) (ty := (.array (.object "java/lang/Object"))) (by decide)) (D419 (Or.inl (own_w hw 126 rfl)) (ty := .int) (by decide)) (D419 (Or.inl (own_w hw 64 rfl)) (ty := .int) (by decide)) A419 (by omega)) hZ (own_w hw 49 rfl) (own_w hw 46 rfl) (by decide) (by decide)) (g := (mkF m 319 #[.val (.int i0), .val (.int i1), .val (.int i2), .val (.int i3), .val (.int (i0 &&& (3 : Int32))), .val (.int y0), .val (.int y1), .val (.int y2), .val (.int yq), .val (.int c0), .val (.int c1), .val (.int c2), .val (.int cq), .val (.ref s0), .val (.ref s1), .val (.ref s2), .val (.ref q0), .val (.ref a336), .val (.ref a337), .val (.ref a338), .val (.ref a339), .val (.ref a342), .val (.ref a345), .val (.ref a348), .unset, .unset, .unset, .unset, .unset, .unset, .unset] [(.ref a419), (.ref a419), (.ref a417), (.ref a417)])) rfl (by rw [hml]; rfl) (Steps.refl _) (a := a419) (argsL := []) (rest := [(.ref a419), (.ref a417), (.ref a417)]) (lenOf own_pd0 rfl) rfl (by show 2 * 0 + _ ≤ _; exact Nat.le_of_eq rfl) (hb hby at_319) (fun _ _ => ⟨rfl, e419, Nat.le_of_ble_eq_true rfl, Nat.le_of_ble_eq_true rfl⟩)
        dsimp only [Pt.U, Pt.locs, Pt.cells, Pt.slots] at X421 l421 y421 z421 st421 hQ421
        subst l421 y421 z421
        obtain ⟨rfl, M421, K421, F421, G421, J421⟩ := hQ421
        have N421 := Fr.app N415 M421
        refine own_go (fun _ k => st421.trans k) ?_
        have C421 := C419.trans (CHr.keep K421 (allS (Safe.exa hZ.alike A419 (by decide) (by decide)) all0) C419.1)
        have z421 : h419.size ≤ T421.heap.size := K421.1
        show own_E p e below _ T421 (mkF m 322 #[.val (.int i0), .val (.int i1), .val (.int i2), .val (.int i3), .val (.int (i0 &&& (3 : Int32))), .val (.int y0), .val (.int y1), .val (.int y2), .val (.int yq), .val (.int c0), .val (.int c1), .val (.int c2), .val (.int cq), .val (.ref s0), .val (.ref s1), .val (.ref s2), .val (.ref q0), .val (.ref a336), .val (.ref a337), .val (.ref a338), .val (.ref a339), .val (.ref a342), .val (.ref a345), .val (.ref a348), .unset, .unset, .unset, .unset, .unset, .unset, .unset] [(.ref a419), (.ref a417), (.ref a417)])
        refine own_aload X421 hx (hb hby at_322) rfl rfl ?_
        obtain ⟨_, _, ⟨T422, L422, k422, n422⟩, -, X422, ⟨Lc422, hQ422, l422, y422, z422⟩, st422⟩ := X421.specialBack hx (y := (⟨"com/example/narrow_gate/narrowgate/Target", "<init>", "(Ljava/util/List;Ljava/util/List;)V"⟩ : MethodName)) rfl hown (mvT hZ (own_w hw 71 rfl)) (mvT hZ (own_w hw 72 rfl)) (mvT hZ (own_w hw 73 rfl)) (by decide) (backOf (W := 1) (own_rmGI l Z a0 hw [] a417 a419 a348 T421.heap n0 (by omega) (((D417 (Or.inr (own_w hw 76 rfl)) (ty := (.object "java/util/List")) (by decide)).ext E419).keep K421 (ninS (by first | assumption | exact Ne.symm (by assumption) | exact own_ne (by omega)) nin0)) (((D417 (Or.inr (own_w hw 78 rfl)) (ty := (.object "java/util/List")) (by decide)).ext E419).keep K421 (ninS (by first | assumption | exact Ne.symm (by assumption) | exact own_ne (by omega)) nin0)) ((A417.ext E419).keep K421) (by omega)) hZ (own_w hw 73 rfl) (own_w hw 70 rfl) (by decide) (by decide)) (g := (mkF m 324 #[.val (.int i0), .val (.int i1), .val (.int i2), .val (.int i3), .val (.int (i0 &&& (3 : Int32))), .val (.int y0), .val (.int y1), .val (.int y2), .val (.int yq), .val (.int c0), .val (.int c1), .val (.int c2), .val (.int cq), .val (.ref s0), .val (.ref s1), .val (.ref s2), .val (.ref q0), .val (.ref a336), .val (.ref a337), .val (.ref a338), .val (.ref a339), .val (.ref a342), .val (.ref a345), .val (.ref a348), .unset, .unset, .unset, .unset, .unset, .unset, .unset] [(.ref a348), (.ref a419), (.ref a417), (.ref a417)])) rfl (by rw [hml]; rfl) (Steps.refl _) (a := a417) (argsL := [(.ref a419), (.ref a348)]) (rest := [(.ref a417)]) (lenOf own_pd21 rfl) rfl (by show 2 * 0 + _ ≤ _; exact Nat.le_of_eq rfl) (hb hby at_324) (fun _ _ => ⟨rfl, (rfl : T421.heap = T421.heap), Nat.le_of_ble_eq_true rfl, Nat.le_of_ble_eq_true rfl⟩)
        dsimp only [Pt.U, Pt.locs, Pt.cells, Pt.slots] at X422 l422 y422 z422 st422 hQ422
        subst l422 y422 z422
        obtain ⟨rfl, M422, K422, F422⟩ := hQ422
        have N422 := Fr.app N421 M422
        refine own_go (fun _ k => st422.trans k) ?_
        have C422 := C421.trans (CHr.keep K422 (allS (Safe.exa hZ.alike ((A417.ext E419).keep K421) (by decide) (by decide)) all0) C421.1)
        have z422 : T421.heap.size ≤ T422.heap.size := K422.1
        show own_E p e below _ T422 (mkF m 327 #[.val (.int i0), .val (.int i1), .val (.int i2), .val (.int i3), .val (.int (i0 &&& (3 : Int32))), .val (.int y0), .val (.int y1), .val (.int y2), .val (.int yq), .val (.int c0), .val (.int c1), .val (.int c2), .val (.int cq), .val (.ref s0), .val (.ref s1), .val (.ref s2), .val (.ref q0), .val (.ref a336), .val (.ref a337), .val (.ref a338), .val (.ref a339), .val (.ref a342), .val (.ref a345), .val (.ref a348), .unset, .unset, .unset, .unset, .unset, .unset, .unset] [(.ref a417)])
        refine own_astore X422 hx (hb hby at_327) rfl (l' := #[.val (.int i0), .val (.int i1), .val (.int i2), .val (.int i3), .val (.int (i0 &&& (3 : Int32))), .val (.int y0), .val (.int y1), .val (.int y2), .val (.int yq), .val (.int c0), .val (.int c1), .val (.int c2), .val (.int cq), .val (.ref s0), .val (.ref s1), .val (.ref s2), .val (.ref q0), .val (.ref a336), .val (.ref a337), .val (.ref a338), .val (.ref a339), .val (.ref a342), .val (.ref a345), .val (.ref a348), .val (.ref a417), .unset, .unset, .unset, .unset, .unset, .unset]) rfl ?_
        refine own_aload X422 hx (hb hby at_329) rfl rfl ?_
        refine own_aload X422 hx (hb hby at_331) rfl rfl ?_
        obtain ⟨cq423, kq423, qa423, qb423, qc423⟩ := isOf hZ (rfl : T422.heap = T422.heap) (((A417.ext E419).keep K421).keep K422)
        obtain ⟨_, _, ⟨T423, L423, k423, n423⟩, -, X423, ⟨Lc423, hQ423, l423, y423, z423⟩, st423⟩ := X422.virtualBack hx (y := (⟨"com/example/narrow_gate/narrowgate/Target", "parameter", "(Ljava/lang/String;)Ljava/util/Optional;"⟩ : MethodName)) (z := (⟨"com/example/narrow_gate/narrowgate/Target", "parameter", "(Ljava/lang/String;)Ljava/util/Optional;"⟩ : MethodName)) hown (mvT hZ (own_w hw 79 rfl)) (mvT hZ (own_w hw 80 rfl)) (notFace_of_selects (args := #[]) (mvT hZ (own_w hw 82 rfl))) (mvT hZ (own_w hw 82 rfl)) (mvT hZ (own_w hw 81 rfl)) (by decide) (backOf (W := 0) (own_rmM3 l Z a0 hw [] a417 q0 a348 d366 we a339 s0 a336 a342 s1 a337 a345 s2 a338 kd366 yq (cq.toInt8.toInt32) G1 y0 (c0.toInt8.toInt32) y1 (c1.toInt8.toInt32) y2 (c2.toInt8.toInt32) T422.heap n0 (by omega) ((((((((((((((((((((((O0.keep K316 all0).keep K321 all0).keep K326 all0).keep K331 all0).keep K336 all0).keep K337 all0).keep K338 all0).ext E339).keep K341 (allS (by omega) all0)).ext E342).keep K344 (allS (by omega) all0)).ext E345).keep K347 (allS (by omega) all0)).ext E348).keep K350 (allS (by omega) all0)).keep K366 (allS (by omega) all0)).keep K388 (allS (by omega) (allS (by omega) all0))).keep K415 (allS (by omega) (allS (by omega) all0))).ext E417).ext E419).keep K421 (allS (by omega) all0)).keep K422 (allS (by omega) all0)) SC P1 SE EX EF F422 ((((F415.ext E417).ext E419).keep K421 (ninS (by first | assumption | exact Ne.symm (by assumption) | exact own_ne (by omega)) nin0)).keep K422 (ninS (by first | assumption | exact Ne.symm (by assumption) | exact own_ne (by omega)) nin0)) ((((G415.ext E417).ext E419).keep K421 (ninS (by first | assumption | exact Ne.symm (by assumption) | exact own_ne (by omega)) nin0)).keep K422 (ninS (by first | assumption | exact Ne.symm (by assumption) | exact own_ne (by omega)) nin0)) ((((J415.ext E417).ext E419).keep K421 (ninS (by first | assumption | exact Ne.symm (by assumption) | exact own_ne (by omega)) nin0)).keep K422 (ninS (by first | assumption | exact Ne.symm (by assumption) | exact own_ne (by omega)) nin0)) ((((((((A348.keep K350).keep K366).keep K388).keep K415).ext E417).ext E419).keep K421).keep K422) ((((V415.ext E417).ext E419).keep K421 (ninS (by first | assumption | exact Ne.symm (by assumption) | exact own_ne (by omega)) nin0)).keep K422 (ninS (by first | assumption | exact Ne.symm (by assumption) | exact own_ne (by omega)) nin0)) (own_Sk F331 (((((((((((((((((((Keep.refl _ _).trans K336 all0).trans K337 all0).trans K338 all0).ext E339).trans K341 (allS (Or.inr (by omega)) all0)).ext E342).trans K344 (allS (Or.inr (by omega)) all0)).ext E345).trans K347 (allS (Or.inr (by omega)) all0)).ext E348).trans K350 (allS (Or.inr (by omega)) all0)).trans K366 (allS (Or.inr (by omega)) all0)).trans K388 (allS (Or.inr (by omega)) (allS (Or.inr (by omega)) all0))).trans K415 (allS (Or.inr (by omega)) (allS (Or.inr (by omega)) all0))).ext E417).ext E419).trans K421 (allS (Or.inr (by omega)) all0)).trans K422 (allS (Or.inr (by omega)) all0))) t_yq ((((((((((((((A339.keep K341).ext E342).keep K344).ext E345).keep K347).ext E348).keep K350).keep K366).keep K388).keep K415).ext E417).ext E419).keep K421).keep K422) (F341.keep ((((((((((((((Keep.refl _ _).ext E342).trans K344 (allS (Or.inr (by omega)) all0)).ext E345).trans K347 (allS (Or.inr (by omega)) all0)).ext E348).trans K350 (allS (Or.inr (by omega)) all0)).trans K366 (allS (Or.inr (by omega)) all0)).trans K388 (allS (Or.inr (by omega)) (allS (Or.inr (by omega)) all0))).trans K415 (allS (Or.inr (by omega)) (allS (Or.inr (by omega)) all0))).ext E417).ext E419).trans K421 (allS (Or.inr (by omega)) all0)).trans K422 (allS (Or.inr (by omega)) all0)) nin0) (G341.keep ((((((((((((((Keep.refl _ _).ext E342).trans K344 (allS (Or.inr (by omega)) all0)).ext E345).trans K347 (allS (Or.inr (by omega)) all0)).ext E348).trans K350 (allS (Or.inr (by omega)) all0)).trans K366 (allS (Or.inr (by omega)) all0)).trans K388 (allS (Or.inr (by omega)) (allS (Or.inr (by omega)) all0))).trans K415 (allS (Or.inr (by omega)) (allS (Or.inr (by omega)) all0))).ext E417).ext E419).trans K421 (allS (Or.inr (by omega)) all0)).trans K422 (allS (Or.inr (by omega)) all0)) nin0) (own_Sk F316 ((((((((((((((((((((((Keep.refl _ _).trans K321 all0).trans K326 all0).trans K331 all0).trans K336 all0).trans K337 all0).trans K338 all0).ext E339).trans K341 (allS (Or.inr (by omega)) all0)).ext E342).trans K344 (allS (Or.inr (by omega)) all0)).ext E345).trans K347 (allS (Or.inr (by omega)) all0)).ext E348).trans K350 (allS (Or.inr (by omega)) all0)).trans K366 (allS (Or.inr (by omega)) all0)).trans K388 (allS (Or.inr (by omega)) (allS (Or.inr (by omega)) all0))).trans K415 (allS (Or.inr (by omega)) (allS (Or.inr (by omega)) all0))).ext E417).ext E419).trans K421 (allS (Or.inr (by omega)) all0)).trans K422 (allS (Or.inr (by omega)) all0))) t_y0 ((((((((((((A342.keep K344).ext E345).keep K347).ext E348).keep K350).keep K366).keep K388).keep K415).ext E417).ext E419).keep K421).keep K422) (F344.keep ((((((((((((Keep.refl _ _).ext E345).trans K347 (allS (Or.inr (by omega)) all0)).ext E348).trans K350 (allS (Or.inr (by omega)) all0)).trans K366 (allS (Or.inr (by omega)) all0)).trans K388 (allS (Or.inr (by omega)) (allS (Or.inr (by omega)) all0))).trans K415 (allS (Or.inr (by omega)) (allS (Or.inr (by omega)) all0))).ext E417).ext E419).trans K421 (allS (Or.inr (by omega)) all0)).trans K422 (allS (Or.inr (by omega)) all0)) nin0) (G344.keep ((((((((((((Keep.refl _ _).ext E345).trans K347 (allS (Or.inr (by omega)) all0)).ext E348).trans K350 (allS (Or.inr (by omega)) all0)).trans K366 (allS (Or.inr (by omega)) all0)).trans K388 (allS (Or.inr (by omega)) (allS (Or.inr (by omega)) all0))).trans K415 (allS (Or.inr (by omega)) (allS (Or.inr (by omega)) all0))).ext E417).ext E419).trans K421 (allS (Or.inr (by omega)) all0)).trans K422 (allS (Or.inr (by omega)) all0)) nin0) (own_Sk F321 (((((((((((((((((((((Keep.refl _ _).trans K326 all0).trans K331 all0).trans K336 all0).trans K337 all0).trans K338 all0).ext E339).trans K341 (allS (Or.inr (by omega)) all0)).ext E342).trans K344 (allS (Or.inr (by omega)) all0)).ext E345).trans K347 (allS (Or.inr (by omega)) all0)).ext E348).trans K350 (allS (Or.inr (by omega)) all0)).trans K366 (allS (Or.inr (by omega)) all0)).trans K388 (allS (Or.inr (by omega)) (allS (Or.inr (by omega)) all0))).trans K415 (allS (Or.inr (by omega)) (allS (Or.inr (by omega)) all0))).ext E417).ext E419).trans K421 (allS (Or.inr (by omega)) all0)).trans K422 (allS (Or.inr (by omega)) all0))) t_y1 ((((((((((A345.keep K347).ext E348).keep K350).keep K366).keep K388).keep K415).ext E417).ext E419).keep K421).keep K422) (F347.keep ((((((((((Keep.refl _ _).ext E348).trans K350 (allS (Or.inr (by omega)) all0)).trans K366 (allS (Or.inr (by omega)) all0)).trans K388 (allS (Or.inr (by omega)) (allS (Or.inr (by omega)) all0))).trans K415 (allS (Or.inr (by omega)) (allS (Or.inr (by omega)) all0))).ext E417).ext E419).trans K421 (allS (Or.inr (by omega)) all0)).trans K422 (allS (Or.inr (by omega)) all0)) nin0) (G347.keep ((((((((((Keep.refl _ _).ext E348).trans K350 (allS (Or.inr (by omega)) all0)).trans K366 (allS (Or.inr (by omega)) all0)).trans K388 (allS (Or.inr (by omega)) (allS (Or.inr (by omega)) all0))).trans K415 (allS (Or.inr (by omega)) (allS (Or.inr (by omega)) all0))).ext E417).ext E419).trans K421 (allS (Or.inr (by omega)) all0)).trans K422 (allS (Or.inr (by omega)) all0)) nin0) (own_Sk F326 ((((((((((((((((((((Keep.refl _ _).trans K331 all0).trans K336 all0).trans K337 all0).trans K338 all0).ext E339).trans K341 (allS (Or.inr (by omega)) all0)).ext E342).trans K344 (allS (Or.inr (by omega)) all0)).ext E345).trans K347 (allS (Or.inr (by omega)) all0)).ext E348).trans K350 (allS (Or.inr (by omega)) all0)).trans K366 (allS (Or.inr (by omega)) all0)).trans K388 (allS (Or.inr (by omega)) (allS (Or.inr (by omega)) all0))).trans K415 (allS (Or.inr (by omega)) (allS (Or.inr (by omega)) all0))).ext E417).ext E419).trans K421 (allS (Or.inr (by omega)) all0)).trans K422 (allS (Or.inr (by omega)) all0))) t_y2) hZ (own_w hw 83 rfl) (own_w hw 70 rfl) (by decide) (by decide)) qa423 qc423 (g := (mkF m 333 #[.val (.int i0), .val (.int i1), .val (.int i2), .val (.int i3), .val (.int (i0 &&& (3 : Int32))), .val (.int y0), .val (.int y1), .val (.int y2), .val (.int yq), .val (.int c0), .val (.int c1), .val (.int c2), .val (.int cq), .val (.ref s0), .val (.ref s1), .val (.ref s2), .val (.ref q0), .val (.ref a336), .val (.ref a337), .val (.ref a338), .val (.ref a339), .val (.ref a342), .val (.ref a345), .val (.ref a348), .val (.ref a417), .unset, .unset, .unset, .unset, .unset, .unset] [(.ref q0), (.ref a417)])) rfl (by rw [hml]; rfl) (Steps.refl _) (argsL := [(.ref q0)]) (rest := []) (lenOf own_pd22 rfl) rfl (by show 2 * 0 + _ ≤ _; exact Nat.le_of_eq rfl) (hb hby at_333) (fun _ _ => ⟨rfl, (rfl : T422.heap = T422.heap), Nat.le_of_ble_eq_true rfl, Nat.le_of_ble_eq_true rfl⟩)
        dsimp only [Pt.U, Pt.locs, Pt.cells, Pt.slots] at X423 l423 y423 z423 st423 hQ423
        subst l423 y423 z423
        obtain ⟨a423, rfl, M423, K423, A423, F423⟩ := hQ423
        have N423 := Fr.app N422 M423
        refine own_go (fun _ k => st423.trans k) ?_
        have C423 := C422.trans (CHr.keep K423 all0 C422.1)
        have z423 : T422.heap.size ≤ T423.heap.size := K423.1
        show own_E p e below _ T423 (mkF m 336 #[.val (.int i0), .val (.int i1), .val (.int i2), .val (.int i3), .val (.int (i0 &&& (3 : Int32))), .val (.int y0), .val (.int y1), .val (.int y2), .val (.int yq), .val (.int c0), .val (.int c1), .val (.int c2), .val (.int cq), .val (.ref s0), .val (.ref s1), .val (.ref s2), .val (.ref q0), .val (.ref a336), .val (.ref a337), .val (.ref a338), .val (.ref a339), .val (.ref a342), .val (.ref a345), .val (.ref a348), .val (.ref a417), .unset, .unset, .unset, .unset, .unset, .unset] [(.ref a423)])
        have lt424 := own_lt (A423).lt
        refine own_astore X423 hx (hb hby at_336) rfl (l' := #[.val (.int i0), .val (.int i1), .val (.int i2), .val (.int i3), .val (.int (i0 &&& (3 : Int32))), .val (.int y0), .val (.int y1), .val (.int y2), .val (.int yq), .val (.int c0), .val (.int c1), .val (.int c2), .val (.int cq), .val (.ref s0), .val (.ref s1), .val (.ref s2), .val (.ref q0), .val (.ref a336), .val (.ref a337), .val (.ref a338), .val (.ref a339), .val (.ref a342), .val (.ref a345), .val (.ref a348), .val (.ref a417), .val (.ref a423), .unset, .unset, .unset, .unset, .unset]) rfl ?_
        refine own_iload X423 hx (hb hby at_338) rfl ?_
        refine own_iload X423 hx (hb hby at_340) rfl ?_
        suffices hj425 : own_E p e below (own_PW s Z own_EL (own_Q0 n0) room_1.cells room_1.slots) T423 (mkF m 362 #[.val (.int i0), .val (.int i1), .val (.int i2), .val (.int i3), .val (.int (i0 &&& (3 : Int32))), .val (.int y0), .val (.int y1), .val (.int y2), .val (.int yq), .val (.int c0), .val (.int c1), .val (.int c2), .val (.int cq), .val (.ref s0), .val (.ref s1), .val (.ref s2), .val (.ref q0), .val (.ref a336), .val (.ref a337), .val (.ref a338), .val (.ref a339), .val (.ref a342), .val (.ref a345), .val (.ref a348), .val (.ref a417), .val (.ref a423), .unset, .unset, .unset, .unset, .unset] [(.int (own_m y0 yq c0 cq))]) from by
          by_cases ha : y0 = yq
          · skip
            refine own_icmpNo X423 hx (hb hby at_342) (XT.ii_ne_f ha) ?_
            show own_E p e below _ T423 (mkF m 345 #[.val (.int i0), .val (.int i1), .val (.int i2), .val (.int i3), .val (.int (i0 &&& (3 : Int32))), .val (.int y0), .val (.int y1), .val (.int y2), .val (.int yq), .val (.int c0), .val (.int c1), .val (.int c2), .val (.int cq), .val (.ref s0), .val (.ref s1), .val (.ref s2), .val (.ref q0), .val (.ref a336), .val (.ref a337), .val (.ref a338), .val (.ref a339), .val (.ref a342), .val (.ref a345), .val (.ref a348), .val (.ref a417), .val (.ref a423), .unset, .unset, .unset, .unset, .unset] [])
            refine own_iload X423 hx (hb hby at_345) rfl ?_
            by_cases hb2 : y0 = 0
            · skip
              refine own_ifNo X423 hx (hb hby at_347) (XT.i0_ne_f hb2) ?_
              show own_E p e below _ T423 (mkF m 350 #[.val (.int i0), .val (.int i1), .val (.int i2), .val (.int i3), .val (.int (i0 &&& (3 : Int32))), .val (.int y0), .val (.int y1), .val (.int y2), .val (.int yq), .val (.int c0), .val (.int c1), .val (.int c2), .val (.int cq), .val (.ref s0), .val (.ref s1), .val (.ref s2), .val (.ref q0), .val (.ref a336), .val (.ref a337), .val (.ref a338), .val (.ref a339), .val (.ref a342), .val (.ref a345), .val (.ref a348), .val (.ref a417), .val (.ref a423), .unset, .unset, .unset, .unset, .unset] [])
              refine own_iload X423 hx (hb hby at_350) rfl ?_
              refine own_iload X423 hx (hb hby at_352) rfl ?_
              by_cases hc2 : c0 = cq
              · skip
                refine own_icmpNo X423 hx (hb hby at_354) (XT.ii_ne_f hc2) ?_
                show own_E p e below _ T423 (mkF m 357 #[.val (.int i0), .val (.int i1), .val (.int i2), .val (.int i3), .val (.int (i0 &&& (3 : Int32))), .val (.int y0), .val (.int y1), .val (.int y2), .val (.int yq), .val (.int c0), .val (.int c1), .val (.int c2), .val (.int cq), .val (.ref s0), .val (.ref s1), .val (.ref s2), .val (.ref q0), .val (.ref a336), .val (.ref a337), .val (.ref a338), .val (.ref a339), .val (.ref a342), .val (.ref a345), .val (.ref a348), .val (.ref a417), .val (.ref a423), .unset, .unset, .unset, .unset, .unset] [])
                refine own_iconst X423 hx (hb hby at_357) (v := (1 : Int32)) (by decide) ?_
                refine own_goto X423 hx (hb hby at_358) 362 (by decide) (by decide) ?_
                show own_E p e below _ T423 (mkF m 362 #[.val (.int i0), .val (.int i1), .val (.int i2), .val (.int i3), .val (.int (i0 &&& (3 : Int32))), .val (.int y0), .val (.int y1), .val (.int y2), .val (.int yq), .val (.int c0), .val (.int c1), .val (.int c2), .val (.int cq), .val (.ref s0), .val (.ref s1), .val (.ref s2), .val (.ref q0), .val (.ref a336), .val (.ref a337), .val (.ref a338), .val (.ref a339), .val (.ref a342), .val (.ref a345), .val (.ref a348), .val (.ref a417), .val (.ref a423), .unset, .unset, .unset, .unset, .unset] [(.int (1 : Int32))])
                rw [(by rw [own_m, if_pos ha, if_pos hb2, if_pos hc2] : own_m y0 yq c0 cq = (1 : Int32))] at hj425
                exact hj425
              · skip
                refine own_icmpYes X423 hx (hb hby at_354) (XT.ii_ne_t hc2) 361 (by decide) (by decide) ?_
                show own_E p e below _ T423 (mkF m 361 #[.val (.int i0), .val (.int i1), .val (.int i2), .val (.int i3), .val (.int (i0 &&& (3 : Int32))), .val (.int y0), .val (.int y1), .val (.int y2), .val (.int yq), .val (.int c0), .val (.int c1), .val (.int c2), .val (.int cq), .val (.ref s0), .val (.ref s1), .val (.ref s2), .val (.ref q0), .val (.ref a336), .val (.ref a337), .val (.ref a338), .val (.ref a339), .val (.ref a342), .val (.ref a345), .val (.ref a348), .val (.ref a417), .val (.ref a423), .unset, .unset, .unset, .unset, .unset] [])
                refine own_iconst X423 hx (hb hby at_361) (v := (0 : Int32)) (by decide) ?_
                rw [(by rw [own_m, if_pos ha, if_pos hb2, if_neg hc2] : own_m y0 yq c0 cq = (0 : Int32))] at hj425
                exact hj425
            · skip
              refine own_ifYes X423 hx (hb hby at_347) (XT.i0_ne_t hb2) 357 (by decide) (by decide) ?_
              show own_E p e below _ T423 (mkF m 357 #[.val (.int i0), .val (.int i1), .val (.int i2), .val (.int i3), .val (.int (i0 &&& (3 : Int32))), .val (.int y0), .val (.int y1), .val (.int y2), .val (.int yq), .val (.int c0), .val (.int c1), .val (.int c2), .val (.int cq), .val (.ref s0), .val (.ref s1), .val (.ref s2), .val (.ref q0), .val (.ref a336), .val (.ref a337), .val (.ref a338), .val (.ref a339), .val (.ref a342), .val (.ref a345), .val (.ref a348), .val (.ref a417), .val (.ref a423), .unset, .unset, .unset, .unset, .unset] [])
              refine own_iconst X423 hx (hb hby at_357) (v := (1 : Int32)) (by decide) ?_
              refine own_goto X423 hx (hb hby at_358) 362 (by decide) (by decide) ?_
              show own_E p e below _ T423 (mkF m 362 #[.val (.int i0), .val (.int i1), .val (.int i2), .val (.int i3), .val (.int (i0 &&& (3 : Int32))), .val (.int y0), .val (.int y1), .val (.int y2), .val (.int yq), .val (.int c0), .val (.int c1), .val (.int c2), .val (.int cq), .val (.ref s0), .val (.ref s1), .val (.ref s2), .val (.ref q0), .val (.ref a336), .val (.ref a337), .val (.ref a338), .val (.ref a339), .val (.ref a342), .val (.ref a345), .val (.ref a348), .val (.ref a417), .val (.ref a423), .unset, .unset, .unset, .unset, .unset] [(.int (1 : Int32))])
              rw [(by rw [own_m, if_pos ha, if_neg hb2] : own_m y0 yq c0 cq = (1 : Int32))] at hj425
              exact hj425
          · skip
            refine own_icmpYes X423 hx (hb hby at_342) (XT.ii_ne_t ha) 361 (by decide) (by decide) ?_
            show own_E p e below _ T423 (mkF m 361 #[.val (.int i0), .val (.int i1), .val (.int i2), .val (.int i3), .val (.int (i0 &&& (3 : Int32))), .val (.int y0), .val (.int y1), .val (.int y2), .val (.int yq), .val (.int c0), .val (.int c1), .val (.int c2), .val (.int cq), .val (.ref s0), .val (.ref s1), .val (.ref s2), .val (.ref q0), .val (.ref a336), .val (.ref a337), .val (.ref a338), .val (.ref a339), .val (.ref a342), .val (.ref a345), .val (.ref a348), .val (.ref a417), .val (.ref a423), .unset, .unset, .unset, .unset, .unset] [])
            refine own_iconst X423 hx (hb hby at_361) (v := (0 : Int32)) (by decide) ?_
            rw [(by rw [own_m, if_neg ha] : own_m y0 yq c0 cq = (0 : Int32))] at hj425
            exact hj425
        have rel0 : own_seq y0 (c0.toInt8.toInt32) yq (cq.toInt8.toInt32) = own_m y0 yq c0 cq := by rw [← h_c0, ← h_cq]; exact own_rel _ _ _ _ t_y0 t_yq
        generalize h_m0 : own_m y0 yq c0 cq = m0 at rel0 ⊢
        show own_E p e below _ T423 (mkF m 362 #[.val (.int i0), .val (.int i1), .val (.int i2), .val (.int i3), .val (.int (i0 &&& (3 : Int32))), .val (.int y0), .val (.int y1), .val (.int y2), .val (.int yq), .val (.int c0), .val (.int c1), .val (.int c2), .val (.int cq), .val (.ref s0), .val (.ref s1), .val (.ref s2), .val (.ref q0), .val (.ref a336), .val (.ref a337), .val (.ref a338), .val (.ref a339), .val (.ref a342), .val (.ref a345), .val (.ref a348), .val (.ref a417), .val (.ref a423), .unset, .unset, .unset, .unset, .unset] [(.int m0)])
        refine own_istore X423 hx (hb hby at_362) (l' := #[.val (.int i0), .val (.int i1), .val (.int i2), .val (.int i3), .val (.int (i0 &&& (3 : Int32))), .val (.int y0), .val (.int y1), .val (.int y2), .val (.int yq), .val (.int c0), .val (.int c1), .val (.int c2), .val (.int cq), .val (.ref s0), .val (.ref s1), .val (.ref s2), .val (.ref q0), .val (.ref a336), .val (.ref a337), .val (.ref a338), .val (.ref a339), .val (.ref a342), .val (.ref a345), .val (.ref a348), .val (.ref a417), .val (.ref a423), .val (.int m0), .unset, .unset, .unset, .unset]) rfl ?_
        refine own_iload X423 hx (hb hby at_364) rfl ?_
        refine own_iload X423 hx (hb hby at_366) rfl ?_
        suffices hj426 : own_E p e below (own_PW s Z own_EL (own_Q0 n0) room_1.cells room_1.slots) T423 (mkF m 388 #[.val (.int i0), .val (.int i1), .val (.int i2), .val (.int i3), .val (.int (i0 &&& (3 : Int32))), .val (.int y0), .val (.int y1), .val (.int y2), .val (.int yq), .val (.int c0), .val (.int c1), .val (.int c2), .val (.int cq), .val (.ref s0), .val (.ref s1), .val (.ref s2), .val (.ref q0), .val (.ref a336), .val (.ref a337), .val (.ref a338), .val (.ref a339), .val (.ref a342), .val (.ref a345), .val (.ref a348), .val (.ref a417), .val (.ref a423), .val (.int m0), .unset, .unset, .unset, .unset] [(.int (own_m y1 yq c1 cq))]) from by
          by_cases ha : y1 = yq
          · skip
            refine own_icmpNo X423 hx (hb hby at_368) (XT.ii_ne_f ha) ?_
            show own_E p e below _ T423 (mkF m 371 #[.val (.int i0), .val (.int i1), .val (.int i2), .val (.int i3), .val (.int (i0 &&& (3 : Int32))), .val (.int y0), .val (.int y1), .val (.int y2), .val (.int yq), .val (.int c0), .val (.int c1), .val (.int c2), .val (.int cq), .val (.ref s0), .val (.ref s1), .val (.ref s2), .val (.ref q0), .val (.ref a336), .val (.ref a337), .val (.ref a338), .val (.ref a339), .val (.ref a342), .val (.ref a345), .val (.ref a348), .val (.ref a417), .val (.ref a423), .val (.int m0), .unset, .unset, .unset, .unset] [])
            refine own_iload X423 hx (hb hby at_371) rfl ?_
            by_cases hb2 : y1 = 0
            · skip
              refine own_ifNo X423 hx (hb hby at_373) (XT.i0_ne_f hb2) ?_
              show own_E p e below _ T423 (mkF m 376 #[.val (.int i0), .val (.int i1), .val (.int i2), .val (.int i3), .val (.int (i0 &&& (3 : Int32))), .val (.int y0), .val (.int y1), .val (.int y2), .val (.int yq), .val (.int c0), .val (.int c1), .val (.int c2), .val (.int cq), .val (.ref s0), .val (.ref s1), .val (.ref s2), .val (.ref q0), .val (.ref a336), .val (.ref a337), .val (.ref a338), .val (.ref a339), .val (.ref a342), .val (.ref a345), .val (.ref a348), .val (.ref a417), .val (.ref a423), .val (.int m0), .unset, .unset, .unset, .unset] [])
              refine own_iload X423 hx (hb hby at_376) rfl ?_
              refine own_iload X423 hx (hb hby at_378) rfl ?_
              by_cases hc2 : c1 = cq
              · skip
                refine own_icmpNo X423 hx (hb hby at_380) (XT.ii_ne_f hc2) ?_
                show own_E p e below _ T423 (mkF m 383 #[.val (.int i0), .val (.int i1), .val (.int i2), .val (.int i3), .val (.int (i0 &&& (3 : Int32))), .val (.int y0), .val (.int y1), .val (.int y2), .val (.int yq), .val (.int c0), .val (.int c1), .val (.int c2), .val (.int cq), .val (.ref s0), .val (.ref s1), .val (.ref s2), .val (.ref q0), .val (.ref a336), .val (.ref a337), .val (.ref a338), .val (.ref a339), .val (.ref a342), .val (.ref a345), .val (.ref a348), .val (.ref a417), .val (.ref a423), .val (.int m0), .unset, .unset, .unset, .unset] [])
                refine own_iconst X423 hx (hb hby at_383) (v := (1 : Int32)) (by decide) ?_
                refine own_goto X423 hx (hb hby at_384) 388 (by decide) (by decide) ?_
                show own_E p e below _ T423 (mkF m 388 #[.val (.int i0), .val (.int i1), .val (.int i2), .val (.int i3), .val (.int (i0 &&& (3 : Int32))), .val (.int y0), .val (.int y1), .val (.int y2), .val (.int yq), .val (.int c0), .val (.int c1), .val (.int c2), .val (.int cq), .val (.ref s0), .val (.ref s1), .val (.ref s2), .val (.ref q0), .val (.ref a336), .val (.ref a337), .val (.ref a338), .val (.ref a339), .val (.ref a342), .val (.ref a345), .val (.ref a348), .val (.ref a417), .val (.ref a423), .val (.int m0), .unset, .unset, .unset, .unset] [(.int (1 : Int32))])
                rw [(by rw [own_m, if_pos ha, if_pos hb2, if_pos hc2] : own_m y1 yq c1 cq = (1 : Int32))] at hj426
                exact hj426
              · skip
                refine own_icmpYes X423 hx (hb hby at_380) (XT.ii_ne_t hc2) 387 (by decide) (by decide) ?_
                show own_E p e below _ T423 (mkF m 387 #[.val (.int i0), .val (.int i1), .val (.int i2), .val (.int i3), .val (.int (i0 &&& (3 : Int32))), .val (.int y0), .val (.int y1), .val (.int y2), .val (.int yq), .val (.int c0), .val (.int c1), .val (.int c2), .val (.int cq), .val (.ref s0), .val (.ref s1), .val (.ref s2), .val (.ref q0), .val (.ref a336), .val (.ref a337), .val (.ref a338), .val (.ref a339), .val (.ref a342), .val (.ref a345), .val (.ref a348), .val (.ref a417), .val (.ref a423), .val (.int m0), .unset, .unset, .unset, .unset] [])
                refine own_iconst X423 hx (hb hby at_387) (v := (0 : Int32)) (by decide) ?_
                rw [(by rw [own_m, if_pos ha, if_pos hb2, if_neg hc2] : own_m y1 yq c1 cq = (0 : Int32))] at hj426
                exact hj426
            · skip
              refine own_ifYes X423 hx (hb hby at_373) (XT.i0_ne_t hb2) 383 (by decide) (by decide) ?_
              show own_E p e below _ T423 (mkF m 383 #[.val (.int i0), .val (.int i1), .val (.int i2), .val (.int i3), .val (.int (i0 &&& (3 : Int32))), .val (.int y0), .val (.int y1), .val (.int y2), .val (.int yq), .val (.int c0), .val (.int c1), .val (.int c2), .val (.int cq), .val (.ref s0), .val (.ref s1), .val (.ref s2), .val (.ref q0), .val (.ref a336), .val (.ref a337), .val (.ref a338), .val (.ref a339), .val (.ref a342), .val (.ref a345), .val (.ref a348), .val (.ref a417), .val (.ref a423), .val (.int m0), .unset, .unset, .unset, .unset] [])
              refine own_iconst X423 hx (hb hby at_383) (v := (1 : Int32)) (by decide) ?_
              refine own_goto X423 hx (hb hby at_384) 388 (by decide) (by decide) ?_
              show own_E p e below _ T423 (mkF m 388 #[.val (.int i0), .val (.int i1), .val (.int i2), .val (.int i3), .val (.int (i0 &&& (3 : Int32))), .val (.int y0), .val (.int y1), .val (.int y2), .val (.int yq), .val (.int c0), .val (.int c1), .val (.int c2), .val (.int cq), .val (.ref s0), .val (.ref s1), .val (.ref s2), .val (.ref q0), .val (.ref a336), .val (.ref a337), .val (.ref a338), .val (.ref a339), .val (.ref a342), .val (.ref a345), .val (.ref a348), .val (.ref a417), .val (.ref a423), .val (.int m0), .unset, .unset, .unset, .unset] [(.int (1 : Int32))])
              rw [(by rw [own_m, if_pos ha, if_neg hb2] : own_m y1 yq c1 cq = (1 : Int32))] at hj426
              exact hj426
          · skip
            refine own_icmpYes X423 hx (hb hby at_368) (XT.ii_ne_t ha) 387 (by decide) (by decide) ?_
            show own_E p e below _ T423 (mkF m 387 #[.val (.int i0), .val (.int i1), .val (.int i2), .val (.int i3), .val (.int (i0 &&& (3 : Int32))), .val (.int y0), .val (.int y1), .val (.int y2), .val (.int yq), .val (.int c0), .val (.int c1), .val (.int c2), .val (.int cq), .val (.ref s0), .val (.ref s1), .val (.ref s2), .val (.ref q0), .val (.ref a336), .val (.ref a337), .val (.ref a338), .val (.ref a339), .val (.ref a342), .val (.ref a345), .val (.ref a348), .val (.ref a417), .val (.ref a423), .val (.int m0), .unset, .unset, .unset, .unset] [])
            refine own_iconst X423 hx (hb hby at_387) (v := (0 : Int32)) (by decide) ?_
            rw [(by rw [own_m, if_neg ha] : own_m y1 yq c1 cq = (0 : Int32))] at hj426
            exact hj426
        have rel1 : own_seq y1 (c1.toInt8.toInt32) yq (cq.toInt8.toInt32) = own_m y1 yq c1 cq := by rw [← h_c1, ← h_cq]; exact own_rel _ _ _ _ t_y1 t_yq
        generalize h_m1 : own_m y1 yq c1 cq = m1 at rel1 ⊢
        show own_E p e below _ T423 (mkF m 388 #[.val (.int i0), .val (.int i1), .val (.int i2), .val (.int i3), .val (.int (i0 &&& (3 : Int32))), .val (.int y0), .val (.int y1), .val (.int y2), .val (.int yq), .val (.int c0), .val (.int c1), .val (.int c2), .val (.int cq), .val (.ref s0), .val (.ref s1), .val (.ref s2), .val (.ref q0), .val (.ref a336), .val (.ref a337), .val (.ref a338), .val (.ref a339), .val (.ref a342), .val (.ref a345), .val (.ref a348), .val (.ref a417), .val (.ref a423), .val (.int m0), .unset, .unset, .unset, .unset] [(.int m1)])
        refine own_istore X423 hx (hb hby at_388) (l' := #[.val (.int i0), .val (.int i1), .val (.int i2), .val (.int i3), .val (.int (i0 &&& (3 : Int32))), .val (.int y0), .val (.int y1), .val (.int y2), .val (.int yq), .val (.int c0), .val (.int c1), .val (.int c2), .val (.int cq), .val (.ref s0), .val (.ref s1), .val (.ref s2), .val (.ref q0), .val (.ref a336), .val (.ref a337), .val (.ref a338), .val (.ref a339), .val (.ref a342), .val (.ref a345), .val (.ref a348), .val (.ref a417), .val (.ref a423), .val (.int m0), .val (.int m1), .unset, .unset, .unset]) rfl ?_
        refine own_iload X423 hx (hb hby at_390) rfl ?_
        refine own_iload X423 hx (hb hby at_392) rfl ?_
        suffices hj427 : own_E p e below (own_PW s Z own_EL (own_Q0 n0) room_1.cells room_1.slots) T423 (mkF m 414 #[.val (.int i0), .val (.int i1), .val (.int i2), .val (.int i3), .val (.int (i0 &&& (3 : Int32))), .val (.int y0), .val (.int y1), .val (.int y2), .val (.int yq), .val (.int c0), .val (.int c1), .val (.int c2), .val (.int cq), .val (.ref s0), .val (.ref s1), .val (.ref s2), .val (.ref q0), .val (.ref a336), .val (.ref a337), .val (.ref a338), .val (.ref a339), .val (.ref a342), .val (.ref a345), .val (.ref a348), .val (.ref a417), .val (.ref a423), .val (.int m0), .val (.int m1), .unset, .unset, .unset] [(.int (own_m y2 yq c2 cq))]) from by
          by_cases ha : y2 = yq
          · skip
            refine own_icmpNo X423 hx (hb hby at_394) (XT.ii_ne_f ha) ?_
            show own_E p e below _ T423 (mkF m 397 #[.val (.int i0), .val (.int i1), .val (.int i2), .val (.int i3), .val (.int (i0 &&& (3 : Int32))), .val (.int y0), .val (.int y1), .val (.int y2), .val (.int yq), .val (.int c0), .val (.int c1), .val (.int c2), .val (.int cq), .val (.ref s0), .val (.ref s1), .val (.ref s2), .val (.ref q0), .val (.ref a336), .val (.ref a337), .val (.ref a338), .val (.ref a339), .val (.ref a342), .val (.ref a345), .val (.ref a348), .val (.ref a417), .val (.ref a423), .val (.int m0), .val (.int m1), .unset, .unset, .unset] [])
            refine own_iload X423 hx (hb hby at_397) rfl ?_
            by_cases hb2 : y2 = 0
            · skip
              refine own_ifNo X423 hx (hb hby at_399) (XT.i0_ne_f hb2) ?_
              show own_E p e below _ T423 (mkF m 402 #[.val (.int i0), .val (.int i1), .val (.int i2), .val (.int i3), .val (.int (i0 &&& (3 : Int32))), .val (.int y0), .val (.int y1), .val (.int y2), .val (.int yq), .val (.int c0), .val (.int c1), .val (.int c2), .val (.int cq), .val (.ref s0), .val (.ref s1), .val (.ref s2), .val (.ref q0), .val (.ref a336), .val (.ref a337), .val (.ref a338), .val (.ref a339), .val (.ref a342), .val (.ref a345), .val (.ref a348), .val (.ref a417), .val (.ref a423), .val (.int m0), .val (.int m1), .unset, .unset, .unset] [])
              refine own_iload X423 hx (hb hby at_402) rfl ?_
              refine own_iload X423 hx (hb hby at_404) rfl ?_
              by_cases hc2 : c2 = cq
              · skip
                refine own_icmpNo X423 hx (hb hby at_406) (XT.ii_ne_f hc2) ?_
                show own_E p e below _ T423 (mkF m 409 #[.val (.int i0), .val (.int i1), .val (.int i2), .val (.int i3), .val (.int (i0 &&& (3 : Int32))), .val (.int y0), .val (.int y1), .val (.int y2), .val (.int yq), .val (.int c0), .val (.int c1), .val (.int c2), .val (.int cq), .val (.ref s0), .val (.ref s1), .val (.ref s2), .val (.ref q0), .val (.ref a336), .val (.ref a337), .val (.ref a338), .val (.ref a339), .val (.ref a342), .val (.ref a345), .val (.ref a348), .val (.ref a417), .val (.ref a423), .val (.int m0), .val (.int m1), .unset, .unset, .unset] [])
                refine own_iconst X423 hx (hb hby at_409) (v := (1 : Int32)) (by decide) ?_
                refine own_goto X423 hx (hb hby at_410) 414 (by decide) (by decide) ?_
                show own_E p e below _ T423 (mkF m 414 #[.val (.int i0), .val (.int i1), .val (.int i2), .val (.int i3), .val (.int (i0 &&& (3 : Int32))), .val (.int y0), .val (.int y1), .val (.int y2), .val (.int yq), .val (.int c0), .val (.int c1), .val (.int c2), .val (.int cq), .val (.ref s0), .val (.ref s1), .val (.ref s2), .val (.ref q0), .val (.ref a336), .val (.ref a337), .val (.ref a338), .val (.ref a339), .val (.ref a342), .val (.ref a345), .val (.ref a348), .val (.ref a417), .val (.ref a423), .val (.int m0), .val (.int m1), .unset, .unset, .unset] [(.int (1 : Int32))])
                rw [(by rw [own_m, if_pos ha, if_pos hb2, if_pos hc2] : own_m y2 yq c2 cq = (1 : Int32))] at hj427
                exact hj427
              · skip
                refine own_icmpYes X423 hx (hb hby at_406) (XT.ii_ne_t hc2) 413 (by decide) (by decide) ?_
                show own_E p e below _ T423 (mkF m 413 #[.val (.int i0), .val (.int i1), .val (.int i2), .val (.int i3), .val (.int (i0 &&& (3 : Int32))), .val (.int y0), .val (.int y1), .val (.int y2), .val (.int yq), .val (.int c0), .val (.int c1), .val (.int c2), .val (.int cq), .val (.ref s0), .val (.ref s1), .val (.ref s2), .val (.ref q0), .val (.ref a336), .val (.ref a337), .val (.ref a338), .val (.ref a339), .val (.ref a342), .val (.ref a345), .val (.ref a348), .val (.ref a417), .val (.ref a423), .val (.int m0), .val (.int m1), .unset, .unset, .unset] [])
                refine own_iconst X423 hx (hb hby at_413) (v := (0 : Int32)) (by decide) ?_
                rw [(by rw [own_m, if_pos ha, if_pos hb2, if_neg hc2] : own_m y2 yq c2 cq = (0 : Int32))] at hj427
                exact hj427
            · skip
              refine own_ifYes X423 hx (hb hby at_399) (XT.i0_ne_t hb2) 409 (by decide) (by decide) ?_
              show own_E p e below _ T423 (mkF m 409 #[.val (.int i0), .val (.int i1), .val (.int i2), .val (.int i3), .val (.int (i0 &&& (3 : Int32))), .val (.int y0), .val (.int y1), .val (.int y2), .val (.int yq), .val (.int c0), .val (.int c1), .val (.int c2), .val (.int cq), .val (.ref s0), .val (.ref s1), .val (.ref s2), .val (.ref q0), .val (.ref a336), .val (.ref a337), .val (.ref a338), .val (.ref a339), .val (.ref a342), .val (.ref a345), .val (.ref a348), .val (.ref a417), .val (.ref a423), .val (.int m0), .val (.int m1), .unset, .unset, .unset] [])
              refine own_iconst X423 hx (hb hby at_409) (v := (1 : Int32)) (by decide) ?_
              refine own_goto X423 hx (hb hby at_410) 414 (by decide) (by decide) ?_
              show own_E p e below _ T423 (mkF m 414 #[.val (.int i0), .val (.int i1), .val (.int i2), .val (.int i3), .val (.int (i0 &&& (3 : Int32))), .val (.int y0), .val (.int y1), .val (.int y2), .val (.int yq), .val (.int c0), .val (.int c1), .val (.int c2), .val (.int cq), .val (.ref s0), .val (.ref s1), .val (.ref s2), .val (.ref q0), .val (.ref a336), .val (.ref a337), .val (.ref a338), .val (.ref a339), .val (.ref a342), .val (.ref a345), .val (.ref a348), .val (.ref a417), .val (.ref a423), .val (.int m0), .val (.int m1), .unset, .unset, .unset] [(.int (1 : Int32))])
              rw [(by rw [own_m, if_pos ha, if_neg hb2] : own_m y2 yq c2 cq = (1 : Int32))] at hj427
              exact hj427
          · skip
            refine own_icmpYes X423 hx (hb hby at_394) (XT.ii_ne_t ha) 413 (by decide) (by decide) ?_
            show own_E p e below _ T423 (mkF m 413 #[.val (.int i0), .val (.int i1), .val (.int i2), .val (.int i3), .val (.int (i0 &&& (3 : Int32))), .val (.int y0), .val (.int y1), .val (.int y2), .val (.int yq), .val (.int c0), .val (.int c1), .val (.int c2), .val (.int cq), .val (.ref s0), .val (.ref s1), .val (.ref s2), .val (.ref q0), .val (.ref a336), .val (.ref a337), .val (.ref a338), .val (.ref a339), .val (.ref a342), .val (.ref a345), .val (.ref a348), .val (.ref a417), .val (.ref a423), .val (.int m0), .val (.int m1), .unset, .unset, .unset] [])
            refine own_iconst X423 hx (hb hby at_413) (v := (0 : Int32)) (by decide) ?_
            rw [(by rw [own_m, if_neg ha] : own_m y2 yq c2 cq = (0 : Int32))] at hj427
            exact hj427
        have rel2 : own_seq y2 (c2.toInt8.toInt32) yq (cq.toInt8.toInt32) = own_m y2 yq c2 cq := by rw [← h_c2, ← h_cq]; exact own_rel _ _ _ _ t_y2 t_yq
        generalize h_m2 : own_m y2 yq c2 cq = m2 at rel2 ⊢
        show own_E p e below _ T423 (mkF m 414 #[.val (.int i0), .val (.int i1), .val (.int i2), .val (.int i3), .val (.int (i0 &&& (3 : Int32))), .val (.int y0), .val (.int y1), .val (.int y2), .val (.int yq), .val (.int c0), .val (.int c1), .val (.int c2), .val (.int cq), .val (.ref s0), .val (.ref s1), .val (.ref s2), .val (.ref q0), .val (.ref a336), .val (.ref a337), .val (.ref a338), .val (.ref a339), .val (.ref a342), .val (.ref a345), .val (.ref a348), .val (.ref a417), .val (.ref a423), .val (.int m0), .val (.int m1), .unset, .unset, .unset] [(.int m2)])
        refine own_istore X423 hx (hb hby at_414) (l' := #[.val (.int i0), .val (.int i1), .val (.int i2), .val (.int i3), .val (.int (i0 &&& (3 : Int32))), .val (.int y0), .val (.int y1), .val (.int y2), .val (.int yq), .val (.int c0), .val (.int c1), .val (.int c2), .val (.int cq), .val (.ref s0), .val (.ref s1), .val (.ref s2), .val (.ref q0), .val (.ref a336), .val (.ref a337), .val (.ref a338), .val (.ref a339), .val (.ref a342), .val (.ref a345), .val (.ref a348), .val (.ref a417), .val (.ref a423), .val (.int m0), .val (.int m1), .val (.int m2), .unset, .unset]) rfl ?_
        refine own_iload X423 hx (hb hby at_416) rfl ?_
        refine own_iconst X423 hx (hb hby at_418) (v := (2 : Int32)) (by decide) ?_
        refine own_icmpNo X423 hx (hb hby at_419) (XT.ii_le_f h2c) ?_
        show own_E p e below _ T423 (mkF m 422 #[.val (.int i0), .val (.int i1), .val (.int i2), .val (.int i3), .val (.int (i0 &&& (3 : Int32))), .val (.int y0), .val (.int y1), .val (.int y2), .val (.int yq), .val (.int c0), .val (.int c1), .val (.int c2), .val (.int cq), .val (.ref s0), .val (.ref s1), .val (.ref s2), .val (.ref q0), .val (.ref a336), .val (.ref a337), .val (.ref a338), .val (.ref a339), .val (.ref a342), .val (.ref a345), .val (.ref a348), .val (.ref a417), .val (.ref a423), .val (.int m0), .val (.int m1), .val (.int m2), .unset, .unset] [])
        refine own_iload X423 hx (hb hby at_422) rfl ?_
        by_cases hm2 : m2 = 0
        · skip
          refine own_ifYes X423 hx (hb hby at_424) (XT.i0_eq_t hm2) 437 (by decide) (by decide) ?_
          show own_E p e below _ T423 (mkF m 437 #[.val (.int i0), .val (.int i1), .val (.int i2), .val (.int i3), .val (.int (i0 &&& (3 : Int32))), .val (.int y0), .val (.int y1), .val (.int y2), .val (.int yq), .val (.int c0), .val (.int c1), .val (.int c2), .val (.int cq), .val (.ref s0), .val (.ref s1), .val (.ref s2), .val (.ref q0), .val (.ref a336), .val (.ref a337), .val (.ref a338), .val (.ref a339), .val (.ref a342), .val (.ref a345), .val (.ref a348), .val (.ref a417), .val (.ref a423), .val (.int m0), .val (.int m1), .val (.int m2), .unset, .unset] [])
          refine own_iload X423 hx (hb hby at_437) rfl ?_
          refine own_iconst X423 hx (hb hby at_439) (v := (1 : Int32)) (by decide) ?_
          refine own_icmpNo X423 hx (hb hby at_440) (XT.ii_le_f h1c) ?_
          show own_E p e below _ T423 (mkF m 443 #[.val (.int i0), .val (.int i1), .val (.int i2), .val (.int i3), .val (.int (i0 &&& (3 : Int32))), .val (.int y0), .val (.int y1), .val (.int y2), .val (.int yq), .val (.int c0), .val (.int c1), .val (.int c2), .val (.int cq), .val (.ref s0), .val (.ref s1), .val (.ref s2), .val (.ref q0), .val (.ref a336), .val (.ref a337), .val (.ref a338), .val (.ref a339), .val (.ref a342), .val (.ref a345), .val (.ref a348), .val (.ref a417), .val (.ref a423), .val (.int m0), .val (.int m1), .val (.int m2), .unset, .unset] [])
          refine own_iload X423 hx (hb hby at_443) rfl ?_
          by_cases hm1 : m1 = 0
          · skip
            refine own_ifYes X423 hx (hb hby at_445) (XT.i0_eq_t hm1) 458 (by decide) (by decide) ?_
            show own_E p e below _ T423 (mkF m 458 #[.val (.int i0), .val (.int i1), .val (.int i2), .val (.int i3), .val (.int (i0 &&& (3 : Int32))), .val (.int y0), .val (.int y1), .val (.int y2), .val (.int yq), .val (.int c0), .val (.int c1), .val (.int c2), .val (.int cq), .val (.ref s0), .val (.ref s1), .val (.ref s2), .val (.ref q0), .val (.ref a336), .val (.ref a337), .val (.ref a338), .val (.ref a339), .val (.ref a342), .val (.ref a345), .val (.ref a348), .val (.ref a417), .val (.ref a423), .val (.int m0), .val (.int m1), .val (.int m2), .unset, .unset] [])
            refine own_iload X423 hx (hb hby at_458) rfl ?_
            refine own_ifNo X423 hx (hb hby at_460) (XT.i0_le_f h0c) ?_
            show own_E p e below _ T423 (mkF m 463 #[.val (.int i0), .val (.int i1), .val (.int i2), .val (.int i3), .val (.int (i0 &&& (3 : Int32))), .val (.int y0), .val (.int y1), .val (.int y2), .val (.int yq), .val (.int c0), .val (.int c1), .val (.int c2), .val (.int cq), .val (.ref s0), .val (.ref s1), .val (.ref s2), .val (.ref q0), .val (.ref a336), .val (.ref a337), .val (.ref a338), .val (.ref a339), .val (.ref a342), .val (.ref a345), .val (.ref a348), .val (.ref a417), .val (.ref a423), .val (.int m0), .val (.int m1), .val (.int m2), .unset, .unset] [])
            refine own_iload X423 hx (hb hby at_463) rfl ?_
            by_cases hm0 : m0 = 0
            · skip
              refine own_ifYes X423 hx (hb hby at_465) (XT.i0_eq_t hm0) 478 (by decide) (by decide) ?_
              show own_E p e below _ T423 (mkF m 478 #[.val (.int i0), .val (.int i1), .val (.int i2), .val (.int i3), .val (.int (i0 &&& (3 : Int32))), .val (.int y0), .val (.int y1), .val (.int y2), .val (.int yq), .val (.int c0), .val (.int c1), .val (.int c2), .val (.int cq), .val (.ref s0), .val (.ref s1), .val (.ref s2), .val (.ref q0), .val (.ref a336), .val (.ref a337), .val (.ref a338), .val (.ref a339), .val (.ref a342), .val (.ref a345), .val (.ref a348), .val (.ref a417), .val (.ref a423), .val (.int m0), .val (.int m1), .val (.int m2), .unset, .unset] [])
              refine own_iconst X423 hx (hb hby at_478) (v := (0 : Int32)) (by decide) ?_
              refine own_istore X423 hx (hb hby at_479) (l' := #[.val (.int i0), .val (.int i1), .val (.int i2), .val (.int i3), .val (.int (i0 &&& (3 : Int32))), .val (.int y0), .val (.int y1), .val (.int y2), .val (.int yq), .val (.int c0), .val (.int c1), .val (.int c2), .val (.int cq), .val (.ref s0), .val (.ref s1), .val (.ref s2), .val (.ref q0), .val (.ref a336), .val (.ref a337), .val (.ref a338), .val (.ref a339), .val (.ref a342), .val (.ref a345), .val (.ref a348), .val (.ref a417), .val (.ref a423), .val (.int m0), .val (.int m1), .val (.int m2), .val (.int (0 : Int32)), .unset]) rfl ?_
              obtain ⟨a443, T443, h443, k443, b443, kc443, X443, e443, E443, hS, hk443, hZ, hown, A443, F443, G443, V443, ta443, tb443, D443, Lt443, Sf443, st443⟩ := ldcCH X423 hx hZ hown (own_w hw 127 rfl) wS (rfl : T423.heap = T423.heap) hS (by omega) hEL (by decide) C423.1 (vs := []) (z := 0) ⟨by decide, by decide +kernel⟩ (by decide) rfl (g := (mkF m 481 #[.val (.int i0), .val (.int i1), .val (.int i2), .val (.int i3), .val (.int (i0 &&& (3 : Int32))), .val (.int y0), .val (.int y1), .val (.int y2), .val (.int yq), .val (.int c0), .val (.int c1), .val (.int c2), .val (.int cq), .val (.ref s0), .val (.ref s1), .val (.ref s2), .val (.ref q0), .val (.ref a336), .val (.ref a337), .val (.ref a338), .val (.ref a339), .val (.ref a342), .val (.ref a345), .val (.ref a348), .val (.ref a417), .val (.ref a423), .val (.int m0), .val (.int m1), .val (.int m2), .val (.int (0 : Int32)), .unset] [])) rfl (hb hby at_481) (n := 0) (by decide) (by decide) (by decide) (by decide)
              have z443 : T423.heap.size ≤ h443.size := E443.1
              have C443 := C423.trans D443
              refine own_go st443 ?_
              have lt444 := own_lt (A443).lt
              have lt445 := own_lt (V443).lt
              show own_E p e below _ T443 (mkF m 483 #[.val (.int i0), .val (.int i1), .val (.int i2), .val (.int i3), .val (.int (i0 &&& (3 : Int32))), .val (.int y0), .val (.int y1), .val (.int y2), .val (.int yq), .val (.int c0), .val (.int c1), .val (.int c2), .val (.int cq), .val (.ref s0), .val (.ref s1), .val (.ref s2), .val (.ref q0), .val (.ref a336), .val (.ref a337), .val (.ref a338), .val (.ref a339), .val (.ref a342), .val (.ref a345), .val (.ref a348), .val (.ref a417), .val (.ref a423), .val (.int m0), .val (.int m1), .val (.int m2), .val (.int (0 : Int32)), .unset] [(.ref a443)])
              refine own_astore X443 hx (hb hby at_483) rfl (l' := #[.val (.int i0), .val (.int i1), .val (.int i2), .val (.int i3), .val (.int (i0 &&& (3 : Int32))), .val (.int y0), .val (.int y1), .val (.int y2), .val (.int yq), .val (.int c0), .val (.int c1), .val (.int c2), .val (.int cq), .val (.ref s0), .val (.ref s1), .val (.ref s2), .val (.ref q0), .val (.ref a336), .val (.ref a337), .val (.ref a338), .val (.ref a339), .val (.ref a342), .val (.ref a345), .val (.ref a348), .val (.ref a417), .val (.ref a423), .val (.int m0), .val (.int m1), .val (.int m2), .val (.int (0 : Int32)), .val (.ref a443)]) rfl ?_
              refine own_iload X443 hx (hb hby at_485) rfl ?_
              refine own_ifNo X443 hx (hb hby at_487) (by decide +kernel) ?_
              show own_E p e below _ T443 (mkF m 490 #[.val (.int i0), .val (.int i1), .val (.int i2), .val (.int i3), .val (.int (i0 &&& (3 : Int32))), .val (.int y0), .val (.int y1), .val (.int y2), .val (.int yq), .val (.int c0), .val (.int c1), .val (.int c2), .val (.int cq), .val (.ref s0), .val (.ref s1), .val (.ref s2), .val (.ref q0), .val (.ref a336), .val (.ref a337), .val (.ref a338), .val (.ref a339), .val (.ref a342), .val (.ref a345), .val (.ref a348), .val (.ref a417), .val (.ref a423), .val (.int m0), .val (.int m1), .val (.int m2), .val (.int (0 : Int32)), .val (.ref a443)] [])
              refine own_aload X443 hx (hb hby at_490) rfl rfl ?_
              have FR : Fld Z h443 a423 "java/util/Optional" "value" "Ljava/lang/Object;" .null := by have q := (F423.ext E443); rw [own_pick0 (rel2 ▸ hm2), own_pick0 (rel1 ▸ hm1), own_pick0 (rel0 ▸ hm0)] at q; exact q
              obtain ⟨cq446, kq446, qa446, qb446, qc446⟩ := isOf hZ e443 (A423.ext E443)
              obtain ⟨_, _, ⟨T446, L446, k446, n446⟩, -, X446, ⟨Lc446, hQ446, l446, y446, z446⟩, st446⟩ := X443.virtualBack hx (y := (⟨"java/util/Optional", "isPresent", "()Z"⟩ : MethodName)) (z := (⟨"java/util/Optional", "isPresent", "()Z"⟩ : MethodName)) hown (mvT hZ (own_w hw 130 rfl)) (mvT hZ (own_w hw 131 rfl)) (notFace_of_selects (args := #[]) (mvT hZ (own_w hw 133 rfl))) (mvT hZ (own_w hw 133 rfl)) (mvT hZ (own_w hw 132 rfl)) (by decide) (backOf (W := 0) (own_rmP0 l Z a0 hw [] a423 h443 n0 (by omega) FR) hZ (own_w hw 134 rfl) (own_w hw 86 rfl) (by decide) (by decide)) qa446 qc446 (g := (mkF m 492 #[.val (.int i0), .val (.int i1), .val (.int i2), .val (.int i3), .val (.int (i0 &&& (3 : Int32))), .val (.int y0), .val (.int y1), .val (.int y2), .val (.int yq), .val (.int c0), .val (.int c1), .val (.int c2), .val (.int cq), .val (.ref s0), .val (.ref s1), .val (.ref s2), .val (.ref q0), .val (.ref a336), .val (.ref a337), .val (.ref a338), .val (.ref a339), .val (.ref a342), .val (.ref a345), .val (.ref a348), .val (.ref a417), .val (.ref a423), .val (.int m0), .val (.int m1), .val (.int m2), .val (.int (0 : Int32)), .val (.ref a443)] [(.ref a423)])) rfl (by rw [hml]; rfl) (Steps.refl _) (argsL := []) (rest := []) (lenOf own_pd14 rfl) rfl (by show 2 * 0 + _ ≤ _; exact Nat.le_of_eq rfl) (hb hby at_492) (fun _ _ => ⟨rfl, e443, Nat.le_of_ble_eq_true rfl, Nat.le_of_ble_eq_true rfl⟩)
              dsimp only [Pt.U, Pt.locs, Pt.cells, Pt.slots] at X446 l446 y446 z446 st446 hQ446
              subst l446 y446 z446
              obtain ⟨rfl, M446, e446⟩ := hQ446
              have N446 := Fr.app N423 M446
              refine own_go (fun _ k => st446.trans k) ?_
              show own_E p e below _ T446 (mkF m 495 #[.val (.int i0), .val (.int i1), .val (.int i2), .val (.int i3), .val (.int (i0 &&& (3 : Int32))), .val (.int y0), .val (.int y1), .val (.int y2), .val (.int yq), .val (.int c0), .val (.int c1), .val (.int c2), .val (.int cq), .val (.ref s0), .val (.ref s1), .val (.ref s2), .val (.ref q0), .val (.ref a336), .val (.ref a337), .val (.ref a338), .val (.ref a339), .val (.ref a342), .val (.ref a345), .val (.ref a348), .val (.ref a417), .val (.ref a423), .val (.int m0), .val (.int m1), .val (.int m2), .val (.int (0 : Int32)), .val (.ref a443)] [(.int (0 : Int32))])
              refine own_ifNo X446 hx (hb hby at_495) (by decide +kernel) ?_
              show own_E p e below _ T446 (mkF m 498 #[.val (.int i0), .val (.int i1), .val (.int i2), .val (.int i3), .val (.int (i0 &&& (3 : Int32))), .val (.int y0), .val (.int y1), .val (.int y2), .val (.int yq), .val (.int c0), .val (.int c1), .val (.int c2), .val (.int cq), .val (.ref s0), .val (.ref s1), .val (.ref s2), .val (.ref q0), .val (.ref a336), .val (.ref a337), .val (.ref a338), .val (.ref a339), .val (.ref a342), .val (.ref a345), .val (.ref a348), .val (.ref a417), .val (.ref a423), .val (.int m0), .val (.int m1), .val (.int m2), .val (.int (0 : Int32)), .val (.ref a443)] [])
              refine own_iconst X446 hx (hb hby at_498) (v := (1 : Int32)) (by decide) ?_
              refine own_goto X446 hx (hb hby at_499) 503 (by decide) (by decide) ?_
              show own_E p e below _ T446 (mkF m 503 #[.val (.int i0), .val (.int i1), .val (.int i2), .val (.int i3), .val (.int (i0 &&& (3 : Int32))), .val (.int y0), .val (.int y1), .val (.int y2), .val (.int yq), .val (.int c0), .val (.int c1), .val (.int c2), .val (.int cq), .val (.ref s0), .val (.ref s1), .val (.ref s2), .val (.ref q0), .val (.ref a336), .val (.ref a337), .val (.ref a338), .val (.ref a339), .val (.ref a342), .val (.ref a345), .val (.ref a348), .val (.ref a417), .val (.ref a423), .val (.int m0), .val (.int m1), .val (.int m2), .val (.int (0 : Int32)), .val (.ref a443)] [(.int (1 : Int32))])
              refine own_retNW X446 hx hS (by rw [e446]; omega) hZ hEL hh (by rw [e446]; exact C443) (t := .boolean) Bd.returns (by simp) hlk (hb hby at_503) (z' := (1 : Int32)) (by decide) (by decide) (by decide) ?_
              rw [e446]
              exact ⟨rfl, N446⟩
            · skip
              refine own_ifNo X423 hx (hb hby at_465) (XT.i0_eq_f hm0) ?_
              show own_E p e below _ T423 (mkF m 468 #[.val (.int i0), .val (.int i1), .val (.int i2), .val (.int i3), .val (.int (i0 &&& (3 : Int32))), .val (.int y0), .val (.int y1), .val (.int y2), .val (.int yq), .val (.int c0), .val (.int c1), .val (.int c2), .val (.int cq), .val (.ref s0), .val (.ref s1), .val (.ref s2), .val (.ref q0), .val (.ref a336), .val (.ref a337), .val (.ref a338), .val (.ref a339), .val (.ref a342), .val (.ref a345), .val (.ref a348), .val (.ref a417), .val (.ref a423), .val (.int m0), .val (.int m1), .val (.int m2), .unset, .unset] [])
              refine own_iconst X423 hx (hb hby at_468) (v := (1 : Int32)) (by decide) ?_
              refine own_istore X423 hx (hb hby at_469) (l' := #[.val (.int i0), .val (.int i1), .val (.int i2), .val (.int i3), .val (.int (i0 &&& (3 : Int32))), .val (.int y0), .val (.int y1), .val (.int y2), .val (.int yq), .val (.int c0), .val (.int c1), .val (.int c2), .val (.int cq), .val (.ref s0), .val (.ref s1), .val (.ref s2), .val (.ref q0), .val (.ref a336), .val (.ref a337), .val (.ref a338), .val (.ref a339), .val (.ref a342), .val (.ref a345), .val (.ref a348), .val (.ref a417), .val (.ref a423), .val (.int m0), .val (.int m1), .val (.int m2), .val (.int (1 : Int32)), .unset]) rfl ?_
              refine own_aload X423 hx (hb hby at_471) rfl rfl ?_
              refine own_astore X423 hx (hb hby at_473) rfl (l' := #[.val (.int i0), .val (.int i1), .val (.int i2), .val (.int i3), .val (.int (i0 &&& (3 : Int32))), .val (.int y0), .val (.int y1), .val (.int y2), .val (.int yq), .val (.int c0), .val (.int c1), .val (.int c2), .val (.int cq), .val (.ref s0), .val (.ref s1), .val (.ref s2), .val (.ref q0), .val (.ref a336), .val (.ref a337), .val (.ref a338), .val (.ref a339), .val (.ref a342), .val (.ref a345), .val (.ref a348), .val (.ref a417), .val (.ref a423), .val (.int m0), .val (.int m1), .val (.int m2), .val (.int (1 : Int32)), .val (.ref a336)]) rfl ?_
              refine own_goto X423 hx (hb hby at_475) 485 (by decide) (by decide) ?_
              show own_E p e below _ T423 (mkF m 485 #[.val (.int i0), .val (.int i1), .val (.int i2), .val (.int i3), .val (.int (i0 &&& (3 : Int32))), .val (.int y0), .val (.int y1), .val (.int y2), .val (.int yq), .val (.int c0), .val (.int c1), .val (.int c2), .val (.int cq), .val (.ref s0), .val (.ref s1), .val (.ref s2), .val (.ref q0), .val (.ref a336), .val (.ref a337), .val (.ref a338), .val (.ref a339), .val (.ref a342), .val (.ref a345), .val (.ref a348), .val (.ref a417), .val (.ref a423), .val (.int m0), .val (.int m1), .val (.int m2), .val (.int (1 : Int32)), .val (.ref a336)] [])
              refine own_iload X423 hx (hb hby at_485) rfl ?_
              refine own_ifYes X423 hx (hb hby at_487) (by decide +kernel) 504 (by decide) (by decide) ?_
              show own_E p e below _ T423 (mkF m 504 #[.val (.int i0), .val (.int i1), .val (.int i2), .val (.int i3), .val (.int (i0 &&& (3 : Int32))), .val (.int y0), .val (.int y1), .val (.int y2), .val (.int yq), .val (.int c0), .val (.int c1), .val (.int c2), .val (.int cq), .val (.ref s0), .val (.ref s1), .val (.ref s2), .val (.ref q0), .val (.ref a336), .val (.ref a337), .val (.ref a338), .val (.ref a339), .val (.ref a342), .val (.ref a345), .val (.ref a348), .val (.ref a417), .val (.ref a423), .val (.int m0), .val (.int m1), .val (.int m2), .val (.int (1 : Int32)), .val (.ref a336)] [])
              refine own_aload X423 hx (hb hby at_504) rfl rfl ?_
              have FR : Fld Z T423.heap a423 "java/util/Optional" "value" "Ljava/lang/Object;" (.ref a336) := by have q := F423; rw [own_pick0 (rel2 ▸ hm2), own_pick0 (rel1 ▸ hm1), own_pick1 (rel0 ▸ hm0)] at q; exact q
              obtain ⟨cq438, kq438, qa438, qb438, qc438⟩ := isOf hZ (rfl : T423.heap = T423.heap) A423
              obtain ⟨_, _, ⟨T438, L438, k438, n438⟩, -, X438, ⟨Lc438, hQ438, l438, y438, z438⟩, st438⟩ := X423.virtualBack hx (y := (⟨"java/util/Optional", "isPresent", "()Z"⟩ : MethodName)) (z := (⟨"java/util/Optional", "isPresent", "()Z"⟩ : MethodName)) hown (mvT hZ (own_w hw 130 rfl)) (mvT hZ (own_w hw 131 rfl)) (notFace_of_selects (args := #[]) (mvT hZ (own_w hw 133 rfl))) (mvT hZ (own_w hw 133 rfl)) (mvT hZ (own_w hw 132 rfl)) (by decide) (backOf (W := 0) (own_rmP1 l Z a0 hw [] a423 a336 T423.heap n0 (by omega) FR) hZ (own_w hw 134 rfl) (own_w hw 86 rfl) (by decide) (by decide)) qa438 qc438 (g := (mkF m 506 #[.val (.int i0), .val (.int i1), .val (.int i2), .val (.int i3), .val (.int (i0 &&& (3 : Int32))), .val (.int y0), .val (.int y1), .val (.int y2), .val (.int yq), .val (.int c0), .val (.int c1), .val (.int c2), .val (.int cq), .val (.ref s0), .val (.ref s1), .val (.ref s2), .val (.ref q0), .val (.ref a336), .val (.ref a337), .val (.ref a338), .val (.ref a339), .val (.ref a342), .val (.ref a345), .val (.ref a348), .val (.ref a417), .val (.ref a423), .val (.int m0), .val (.int m1), .val (.int m2), .val (.int (1 : Int32)), .val (.ref a336)] [(.ref a423)])) rfl (by rw [hml]; rfl) (Steps.refl _) (argsL := []) (rest := []) (lenOf own_pd14 rfl) rfl (by show 2 * 0 + _ ≤ _; exact Nat.le_of_eq rfl) (hb hby at_506) (fun _ _ => ⟨rfl, (rfl : T423.heap = T423.heap), Nat.le_of_ble_eq_true rfl, Nat.le_of_ble_eq_true rfl⟩)
              dsimp only [Pt.U, Pt.locs, Pt.cells, Pt.slots] at X438 l438 y438 z438 st438 hQ438
              subst l438 y438 z438
              obtain ⟨rfl, M438, e438⟩ := hQ438
              have N438 := Fr.app N423 M438
              refine own_go (fun _ k => st438.trans k) ?_
              show own_E p e below _ T438 (mkF m 509 #[.val (.int i0), .val (.int i1), .val (.int i2), .val (.int i3), .val (.int (i0 &&& (3 : Int32))), .val (.int y0), .val (.int y1), .val (.int y2), .val (.int yq), .val (.int c0), .val (.int c1), .val (.int c2), .val (.int cq), .val (.ref s0), .val (.ref s1), .val (.ref s2), .val (.ref q0), .val (.ref a336), .val (.ref a337), .val (.ref a338), .val (.ref a339), .val (.ref a342), .val (.ref a345), .val (.ref a348), .val (.ref a417), .val (.ref a423), .val (.int m0), .val (.int m1), .val (.int m2), .val (.int (1 : Int32)), .val (.ref a336)] [(.int (1 : Int32))])
              refine own_ifNo X438 hx (hb hby at_509) (by decide +kernel) ?_
              show own_E p e below _ T438 (mkF m 512 #[.val (.int i0), .val (.int i1), .val (.int i2), .val (.int i3), .val (.int (i0 &&& (3 : Int32))), .val (.int y0), .val (.int y1), .val (.int y2), .val (.int yq), .val (.int c0), .val (.int c1), .val (.int c2), .val (.int cq), .val (.ref s0), .val (.ref s1), .val (.ref s2), .val (.ref q0), .val (.ref a336), .val (.ref a337), .val (.ref a338), .val (.ref a339), .val (.ref a342), .val (.ref a345), .val (.ref a348), .val (.ref a417), .val (.ref a423), .val (.int m0), .val (.int m1), .val (.int m2), .val (.int (1 : Int32)), .val (.ref a336)] [])
              refine own_aload X438 hx (hb hby at_512) rfl rfl ?_
              obtain ⟨cq439, kq439, qa439, qb439, qc439⟩ := isOf hZ e438 A423
              obtain ⟨_, _, ⟨T439, L439, k439, n439⟩, -, X439, ⟨Lc439, hQ439, l439, y439, z439⟩, st439⟩ := X438.virtualBack hx (y := (⟨"java/util/Optional", "get", "()Ljava/lang/Object;"⟩ : MethodName)) (z := (⟨"java/util/Optional", "get", "()Ljava/lang/Object;"⟩ : MethodName)) hown (mvT hZ (own_w hw 217 rfl)) (mvT hZ (own_w hw 218 rfl)) (notFace_of_selects (args := #[]) (mvT hZ (own_w hw 220 rfl))) (mvT hZ (own_w hw 220 rfl)) (mvT hZ (own_w hw 219 rfl)) (by decide) (backOf (W := 0) (own_rmOG l Z a0 hw [] a423 a336 T423.heap n0 (by omega) FR) hZ (own_w hw 221 rfl) (own_w hw 86 rfl) (by decide) (by decide)) qa439 qc439 (g := (mkF m 514 #[.val (.int i0), .val (.int i1), .val (.int i2), .val (.int i3), .val (.int (i0 &&& (3 : Int32))), .val (.int y0), .val (.int y1), .val (.int y2), .val (.int yq), .val (.int c0), .val (.int c1), .val (.int c2), .val (.int cq), .val (.ref s0), .val (.ref s1), .val (.ref s2), .val (.ref q0), .val (.ref a336), .val (.ref a337), .val (.ref a338), .val (.ref a339), .val (.ref a342), .val (.ref a345), .val (.ref a348), .val (.ref a417), .val (.ref a423), .val (.int m0), .val (.int m1), .val (.int m2), .val (.int (1 : Int32)), .val (.ref a336)] [(.ref a423)])) rfl (by rw [hml]; rfl) (Steps.refl _) (argsL := []) (rest := []) (lenOf own_pd15 rfl) rfl (by show 2 * 0 + _ ≤ _; exact Nat.le_of_eq rfl) (hb hby at_514) (fun _ _ => ⟨rfl, e438, Nat.le_of_ble_eq_true rfl, Nat.le_of_ble_eq_true rfl⟩)
              dsimp only [Pt.U, Pt.locs, Pt.cells, Pt.slots] at X439 l439 y439 z439 st439 hQ439
              subst l439 y439 z439
              obtain ⟨rfl, M439, e439⟩ := hQ439
              have N439 := Fr.app N438 M439
              refine own_go (fun _ k => st439.trans k) ?_
              show own_E p e below _ T439 (mkF m 517 #[.val (.int i0), .val (.int i1), .val (.int i2), .val (.int i3), .val (.int (i0 &&& (3 : Int32))), .val (.int y0), .val (.int y1), .val (.int y2), .val (.int yq), .val (.int c0), .val (.int c1), .val (.int c2), .val (.int cq), .val (.ref s0), .val (.ref s1), .val (.ref s2), .val (.ref q0), .val (.ref a336), .val (.ref a337), .val (.ref a338), .val (.ref a339), .val (.ref a342), .val (.ref a345), .val (.ref a348), .val (.ref a417), .val (.ref a423), .val (.int m0), .val (.int m1), .val (.int m2), .val (.int (1 : Int32)), .val (.ref a336)] [(.ref a336)])
              have lt440 := own_lt ((own_Sx (own_Sk F336 (((((((((((((((((((Keep.refl _ _).trans K337 all0).trans K338 all0).ext E339).trans K341 (allS (Or.inr (by omega)) all0)).ext E342).trans K344 (allS (Or.inr (by omega)) all0)).ext E345).trans K347 (allS (Or.inr (by omega)) all0)).ext E348).trans K350 (allS (Or.inr (by omega)) all0)).trans K366 (allS (Or.inr (by omega)) all0)).trans K388 (allS (Or.inr (by omega)) (allS (Or.inr (by omega)) all0))).trans K415 (allS (Or.inr (by omega)) (allS (Or.inr (by omega)) all0))).ext E417).ext E419).trans K421 (allS (Or.inr (by omega)) all0)).trans K422 (allS (Or.inr (by omega)) all0)).trans K423 all0)))).lt
              obtain ⟨T441, X441, e441, st441⟩ := castY X439 hx hZ hown (own_w hw 222 rfl) e439 (Ins.self (own_Sx (own_Sk F336 (((((((((((((((((((Keep.refl _ _).trans K337 all0).trans K338 all0).ext E339).trans K341 (allS (Or.inr (by omega)) all0)).ext E342).trans K344 (allS (Or.inr (by omega)) all0)).ext E345).trans K347 (allS (Or.inr (by omega)) all0)).ext E348).trans K350 (allS (Or.inr (by omega)) all0)).trans K366 (allS (Or.inr (by omega)) all0)).trans K388 (allS (Or.inr (by omega)) (allS (Or.inr (by omega)) all0))).trans K415 (allS (Or.inr (by omega)) (allS (Or.inr (by omega)) all0))).ext E417).ext E419).trans K421 (allS (Or.inr (by omega)) all0)).trans K422 (allS (Or.inr (by omega)) all0)).trans K423 all0)))) (g := (mkF m 517 #[.val (.int i0), .val (.int i1), .val (.int i2), .val (.int i3), .val (.int (i0 &&& (3 : Int32))), .val (.int y0), .val (.int y1), .val (.int y2), .val (.int yq), .val (.int c0), .val (.int c1), .val (.int c2), .val (.int cq), .val (.ref s0), .val (.ref s1), .val (.ref s2), .val (.ref q0), .val (.ref a336), .val (.ref a337), .val (.ref a338), .val (.ref a339), .val (.ref a342), .val (.ref a345), .val (.ref a348), .val (.ref a417), .val (.ref a423), .val (.int m0), .val (.int m1), .val (.int m2), .val (.int (1 : Int32)), .val (.ref a336)] [(.ref a336)])) rfl rfl (hb hby at_517)
              refine own_go st441 ?_
              show own_E p e below _ T441 (mkF m 520 #[.val (.int i0), .val (.int i1), .val (.int i2), .val (.int i3), .val (.int (i0 &&& (3 : Int32))), .val (.int y0), .val (.int y1), .val (.int y2), .val (.int yq), .val (.int c0), .val (.int c1), .val (.int c2), .val (.int cq), .val (.ref s0), .val (.ref s1), .val (.ref s2), .val (.ref q0), .val (.ref a336), .val (.ref a337), .val (.ref a338), .val (.ref a339), .val (.ref a342), .val (.ref a345), .val (.ref a348), .val (.ref a417), .val (.ref a423), .val (.int m0), .val (.int m1), .val (.int m2), .val (.int (1 : Int32)), .val (.ref a336)] [(.ref a336)])
              refine own_aload X441 hx (hb hby at_520) rfl rfl ?_
              obtain ⟨cq442, kq442, qa442, qb442, qc442⟩ := isOf hZ e441 (own_Sx (own_Sk F336 (((((((((((((((((((Keep.refl _ _).trans K337 all0).trans K338 all0).ext E339).trans K341 (allS (Or.inr (by omega)) all0)).ext E342).trans K344 (allS (Or.inr (by omega)) all0)).ext E345).trans K347 (allS (Or.inr (by omega)) all0)).ext E348).trans K350 (allS (Or.inr (by omega)) all0)).trans K366 (allS (Or.inr (by omega)) all0)).trans K388 (allS (Or.inr (by omega)) (allS (Or.inr (by omega)) all0))).trans K415 (allS (Or.inr (by omega)) (allS (Or.inr (by omega)) all0))).ext E417).ext E419).trans K421 (allS (Or.inr (by omega)) all0)).trans K422 (allS (Or.inr (by omega)) all0)).trans K423 all0)))
              obtain ⟨_, _, ⟨T442, L442, k442, n442⟩, -, X442, ⟨Lc442, hQ442, l442, y442, z442⟩, st442⟩ := X441.virtualBack hx (y := (⟨"java/lang/String", "equals", "(Ljava/lang/Object;)Z"⟩ : MethodName)) (z := (⟨"java/lang/String", "equals", "(Ljava/lang/Object;)Z"⟩ : MethodName)) hown (mvT hZ (own_w hw 223 rfl)) (mvT hZ (own_w hw 191 rfl)) (notFace_of_selects (args := #[]) (mvT hZ (own_w hw 193 rfl))) (mvT hZ (own_w hw 193 rfl)) (mvT hZ (own_w hw 192 rfl)) (by decide) (backOf (W := 0) (own_rmEQ l Z a0 hw [] a336 a336 0 d0.toInt8.toInt32 0 d0.toInt8.toInt32 G1 T423.heap n0 (by omega) (((((((((((((((((((((((O0.keep K316 all0).keep K321 all0).keep K326 all0).keep K331 all0).keep K336 all0).keep K337 all0).keep K338 all0).ext E339).keep K341 (allS (by omega) all0)).ext E342).keep K344 (allS (by omega) all0)).ext E345).keep K347 (allS (by omega) all0)).ext E348).keep K350 (allS (by omega) all0)).keep K366 (allS (by omega) all0)).keep K388 (allS (by omega) (allS (by omega) all0))).keep K415 (allS (by omega) (allS (by omega) all0))).ext E417).ext E419).keep K421 (allS (by omega) all0)).keep K422 (allS (by omega) all0)).keep K423 all0) SC P1 (own_Sk F336 (((((((((((((((((((Keep.refl _ _).trans K337 all0).trans K338 all0).ext E339).trans K341 (allS (Or.inr (by omega)) all0)).ext E342).trans K344 (allS (Or.inr (by omega)) all0)).ext E345).trans K347 (allS (Or.inr (by omega)) all0)).ext E348).trans K350 (allS (Or.inr (by omega)) all0)).trans K366 (allS (Or.inr (by omega)) all0)).trans K388 (allS (Or.inr (by omega)) (allS (Or.inr (by omega)) all0))).trans K415 (allS (Or.inr (by omega)) (allS (Or.inr (by omega)) all0))).ext E417).ext E419).trans K421 (allS (Or.inr (by omega)) all0)).trans K422 (allS (Or.inr (by omega)) all0)).trans K423 all0)) (own_Sk F336 (((((((((((((((((((Keep.refl _ _).trans K337 all0).trans K338 all0).ext E339).trans K341 (allS (Or.inr (by omega)) all0)).ext E342).trans K344 (allS (Or.inr (by omega)) all0)).ext E345).trans K347 (allS (Or.inr (by omega)) all0)).ext E348).trans K350 (allS (Or.inr (by omega)) all0)).trans K366 (allS (Or.inr (by omega)) all0)).trans K388 (allS (Or.inr (by omega)) (allS (Or.inr (by omega)) all0))).trans K415 (allS (Or.inr (by omega)) (allS (Or.inr (by omega)) all0))).ext E417).ext E419).trans K421 (allS (Or.inr (by omega)) all0)).trans K422 (allS (Or.inr (by omega)) all0)).trans K423 all0)) (Or.inl rfl) (Or.inl rfl)) hZ (own_w hw 194 rfl) (own_w hw 2 rfl) (by decide) (by decide)) qa442 qc442 (g := (mkF m 522 #[.val (.int i0), .val (.int i1), .val (.int i2), .val (.int i3), .val (.int (i0 &&& (3 : Int32))), .val (.int y0), .val (.int y1), .val (.int y2), .val (.int yq), .val (.int c0), .val (.int c1), .val (.int c2), .val (.int cq), .val (.ref s0), .val (.ref s1), .val (.ref s2), .val (.ref q0), .val (.ref a336), .val (.ref a337), .val (.ref a338), .val (.ref a339), .val (.ref a342), .val (.ref a345), .val (.ref a348), .val (.ref a417), .val (.ref a423), .val (.int m0), .val (.int m1), .val (.int m2), .val (.int (1 : Int32)), .val (.ref a336)] [(.ref a336), (.ref a336)])) rfl (by rw [hml]; rfl) (Steps.refl _) (argsL := [(.ref a336)]) (rest := []) (lenOf own_pd17 rfl) rfl (by show 2 * 0 + _ ≤ _; exact Nat.le_of_eq rfl) (hb hby at_522) (fun _ _ => ⟨rfl, e441, Nat.le_of_ble_eq_true rfl, Nat.le_of_ble_eq_true rfl⟩)
              dsimp only [Pt.U, Pt.locs, Pt.cells, Pt.slots] at X442 l442 y442 z442 st442 hQ442
              subst l442 y442 z442
              obtain ⟨rfl, M442, e442⟩ := hQ442
              have N442 := Fr.app N439 M442
              refine own_go (fun _ k => st442.trans k) ?_
              show own_E p e below _ T442 (mkF m 525 #[.val (.int i0), .val (.int i1), .val (.int i2), .val (.int i3), .val (.int (i0 &&& (3 : Int32))), .val (.int y0), .val (.int y1), .val (.int y2), .val (.int yq), .val (.int c0), .val (.int c1), .val (.int c2), .val (.int cq), .val (.ref s0), .val (.ref s1), .val (.ref s2), .val (.ref q0), .val (.ref a336), .val (.ref a337), .val (.ref a338), .val (.ref a339), .val (.ref a342), .val (.ref a345), .val (.ref a348), .val (.ref a417), .val (.ref a423), .val (.int m0), .val (.int m1), .val (.int m2), .val (.int (1 : Int32)), .val (.ref a336)] [(.int (own_seq 0 d0.toInt8.toInt32 0 d0.toInt8.toInt32))])
              refine own_ifNo X442 hx (hb hby at_525) (XT.i0_eq_f (by simp [own_seq])) ?_
              show own_E p e below _ T442 (mkF m 528 #[.val (.int i0), .val (.int i1), .val (.int i2), .val (.int i3), .val (.int (i0 &&& (3 : Int32))), .val (.int y0), .val (.int y1), .val (.int y2), .val (.int yq), .val (.int c0), .val (.int c1), .val (.int c2), .val (.int cq), .val (.ref s0), .val (.ref s1), .val (.ref s2), .val (.ref q0), .val (.ref a336), .val (.ref a337), .val (.ref a338), .val (.ref a339), .val (.ref a342), .val (.ref a345), .val (.ref a348), .val (.ref a417), .val (.ref a423), .val (.int m0), .val (.int m1), .val (.int m2), .val (.int (1 : Int32)), .val (.ref a336)] [])
              refine own_iconst X442 hx (hb hby at_528) (v := (1 : Int32)) (by decide) ?_
              refine own_goto X442 hx (hb hby at_529) 533 (by decide) (by decide) ?_
              show own_E p e below _ T442 (mkF m 533 #[.val (.int i0), .val (.int i1), .val (.int i2), .val (.int i3), .val (.int (i0 &&& (3 : Int32))), .val (.int y0), .val (.int y1), .val (.int y2), .val (.int yq), .val (.int c0), .val (.int c1), .val (.int c2), .val (.int cq), .val (.ref s0), .val (.ref s1), .val (.ref s2), .val (.ref q0), .val (.ref a336), .val (.ref a337), .val (.ref a338), .val (.ref a339), .val (.ref a342), .val (.ref a345), .val (.ref a348), .val (.ref a417), .val (.ref a423), .val (.int m0), .val (.int m1), .val (.int m2), .val (.int (1 : Int32)), .val (.ref a336)] [(.int (1 : Int32))])
              refine own_retNW X442 hx hS (by rw [e442]; omega) hZ hEL hh (by rw [e442]; exact C423) (t := .boolean) Bd.returns (by simp) hlk (hb hby at_533) (z' := (1 : Int32)) (by decide) (by decide) (by decide) ?_
              rw [e442]
              exact ⟨rfl, N442⟩
          · skip
            refine own_ifNo X423 hx (hb hby at_445) (XT.i0_eq_f hm1) ?_
            show own_E p e below _ T423 (mkF m 448 #[.val (.int i0), .val (.int i1), .val (.int i2), .val (.int i3), .val (.int (i0 &&& (3 : Int32))), .val (.int y0), .val (.int y1), .val (.int y2), .val (.int yq), .val (.int c0), .val (.int c1), .val (.int c2), .val (.int cq), .val (.ref s0), .val (.ref s1), .val (.ref s2), .val (.ref q0), .val (.ref a336), .val (.ref a337), .val (.ref a338), .val (.ref a339), .val (.ref a342), .val (.ref a345), .val (.ref a348), .val (.ref a417), .val (.ref a423), .val (.int m0), .val (.int m1), .val (.int m2), .unset, .unset] [])
            refine own_iconst X423 hx (hb hby at_448) (v := (1 : Int32)) (by decide) ?_
            refine own_istore X423 hx (hb hby at_449) (l' := #[.val (.int i0), .val (.int i1), .val (.int i2), .val (.int i3), .val (.int (i0 &&& (3 : Int32))), .val (.int y0), .val (.int y1), .val (.int y2), .val (.int yq), .val (.int c0), .val (.int c1), .val (.int c2), .val (.int cq), .val (.ref s0), .val (.ref s1), .val (.ref s2), .val (.ref q0), .val (.ref a336), .val (.ref a337), .val (.ref a338), .val (.ref a339), .val (.ref a342), .val (.ref a345), .val (.ref a348), .val (.ref a417), .val (.ref a423), .val (.int m0), .val (.int m1), .val (.int m2), .val (.int (1 : Int32)), .unset]) rfl ?_
            refine own_aload X423 hx (hb hby at_451) rfl rfl ?_
            refine own_astore X423 hx (hb hby at_453) rfl (l' := #[.val (.int i0), .val (.int i1), .val (.int i2), .val (.int i3), .val (.int (i0 &&& (3 : Int32))), .val (.int y0), .val (.int y1), .val (.int y2), .val (.int yq), .val (.int c0), .val (.int c1), .val (.int c2), .val (.int cq), .val (.ref s0), .val (.ref s1), .val (.ref s2), .val (.ref q0), .val (.ref a336), .val (.ref a337), .val (.ref a338), .val (.ref a339), .val (.ref a342), .val (.ref a345), .val (.ref a348), .val (.ref a417), .val (.ref a423), .val (.int m0), .val (.int m1), .val (.int m2), .val (.int (1 : Int32)), .val (.ref a337)]) rfl ?_
            refine own_goto X423 hx (hb hby at_455) 485 (by decide) (by decide) ?_
            show own_E p e below _ T423 (mkF m 485 #[.val (.int i0), .val (.int i1), .val (.int i2), .val (.int i3), .val (.int (i0 &&& (3 : Int32))), .val (.int y0), .val (.int y1), .val (.int y2), .val (.int yq), .val (.int c0), .val (.int c1), .val (.int c2), .val (.int cq), .val (.ref s0), .val (.ref s1), .val (.ref s2), .val (.ref q0), .val (.ref a336), .val (.ref a337), .val (.ref a338), .val (.ref a339), .val (.ref a342), .val (.ref a345), .val (.ref a348), .val (.ref a417), .val (.ref a423), .val (.int m0), .val (.int m1), .val (.int m2), .val (.int (1 : Int32)), .val (.ref a337)] [])
            refine own_iload X423 hx (hb hby at_485) rfl ?_
            refine own_ifYes X423 hx (hb hby at_487) (by decide +kernel) 504 (by decide) (by decide) ?_
            show own_E p e below _ T423 (mkF m 504 #[.val (.int i0), .val (.int i1), .val (.int i2), .val (.int i3), .val (.int (i0 &&& (3 : Int32))), .val (.int y0), .val (.int y1), .val (.int y2), .val (.int yq), .val (.int c0), .val (.int c1), .val (.int c2), .val (.int cq), .val (.ref s0), .val (.ref s1), .val (.ref s2), .val (.ref q0), .val (.ref a336), .val (.ref a337), .val (.ref a338), .val (.ref a339), .val (.ref a342), .val (.ref a345), .val (.ref a348), .val (.ref a417), .val (.ref a423), .val (.int m0), .val (.int m1), .val (.int m2), .val (.int (1 : Int32)), .val (.ref a337)] [])
            refine own_aload X423 hx (hb hby at_504) rfl rfl ?_
            have FR : Fld Z T423.heap a423 "java/util/Optional" "value" "Ljava/lang/Object;" (.ref a337) := by have q := F423; rw [own_pick0 (rel2 ▸ hm2), own_pick1 (rel1 ▸ hm1)] at q; exact q
            obtain ⟨cq433, kq433, qa433, qb433, qc433⟩ := isOf hZ (rfl : T423.heap = T423.heap) A423
            obtain ⟨_, _, ⟨T433, L433, k433, n433⟩, -, X433, ⟨Lc433, hQ433, l433, y433, z433⟩, st433⟩ := X423.virtualBack hx (y := (⟨"java/util/Optional", "isPresent", "()Z"⟩ : MethodName)) (z := (⟨"java/util/Optional", "isPresent", "()Z"⟩ : MethodName)) hown (mvT hZ (own_w hw 130 rfl)) (mvT hZ (own_w hw 131 rfl)) (notFace_of_selects (args := #[]) (mvT hZ (own_w hw 133 rfl))) (mvT hZ (own_w hw 133 rfl)) (mvT hZ (own_w hw 132 rfl)) (by decide) (backOf (W := 0) (own_rmP1 l Z a0 hw [] a423 a337 T423.heap n0 (by omega) FR) hZ (own_w hw 134 rfl) (own_w hw 86 rfl) (by decide) (by decide)) qa433 qc433 (g := (mkF m 506 #[.val (.int i0), .val (.int i1), .val (.int i2), .val (.int i3), .val (.int (i0 &&& (3 : Int32))), .val (.int y0), .val (.int y1), .val (.int y2), .val (.int yq), .val (.int c0), .val (.int c1), .val (.int c2), .val (.int cq), .val (.ref s0), .val (.ref s1), .val (.ref s2), .val (.ref q0), .val (.ref a336), .val (.ref a337), .val (.ref a338), .val (.ref a339), .val (.ref a342), .val (.ref a345), .val (.ref a348), .val (.ref a417), .val (.ref a423), .val (.int m0), .val (.int m1), .val (.int m2), .val (.int (1 : Int32)), .val (.ref a337)] [(.ref a423)])) rfl (by rw [hml]; rfl) (Steps.refl _) (argsL := []) (rest := []) (lenOf own_pd14 rfl) rfl (by show 2 * 0 + _ ≤ _; exact Nat.le_of_eq rfl) (hb hby at_506) (fun _ _ => ⟨rfl, (rfl : T423.heap = T423.heap), Nat.le_of_ble_eq_true rfl, Nat.le_of_ble_eq_true rfl⟩)
            dsimp only [Pt.U, Pt.locs, Pt.cells, Pt.slots] at X433 l433 y433 z433 st433 hQ433
            subst l433 y433 z433
            obtain ⟨rfl, M433, e433⟩ := hQ433
            have N433 := Fr.app N423 M433
            refine own_go (fun _ k => st433.trans k) ?_
            show own_E p e below _ T433 (mkF m 509 #[.val (.int i0), .val (.int i1), .val (.int i2), .val (.int i3), .val (.int (i0 &&& (3 : Int32))), .val (.int y0), .val (.int y1), .val (.int y2), .val (.int yq), .val (.int c0), .val (.int c1), .val (.int c2), .val (.int cq), .val (.ref s0), .val (.ref s1), .val (.ref s2), .val (.ref q0), .val (.ref a336), .val (.ref a337), .val (.ref a338), .val (.ref a339), .val (.ref a342), .val (.ref a345), .val (.ref a348), .val (.ref a417), .val (.ref a423), .val (.int m0), .val (.int m1), .val (.int m2), .val (.int (1 : Int32)), .val (.ref a337)] [(.int (1 : Int32))])
            refine own_ifNo X433 hx (hb hby at_509) (by decide +kernel) ?_
            show own_E p e below _ T433 (mkF m 512 #[.val (.int i0), .val (.int i1), .val (.int i2), .val (.int i3), .val (.int (i0 &&& (3 : Int32))), .val (.int y0), .val (.int y1), .val (.int y2), .val (.int yq), .val (.int c0), .val (.int c1), .val (.int c2), .val (.int cq), .val (.ref s0), .val (.ref s1), .val (.ref s2), .val (.ref q0), .val (.ref a336), .val (.ref a337), .val (.ref a338), .val (.ref a339), .val (.ref a342), .val (.ref a345), .val (.ref a348), .val (.ref a417), .val (.ref a423), .val (.int m0), .val (.int m1), .val (.int m2), .val (.int (1 : Int32)), .val (.ref a337)] [])
            refine own_aload X433 hx (hb hby at_512) rfl rfl ?_
            obtain ⟨cq434, kq434, qa434, qb434, qc434⟩ := isOf hZ e433 A423
            obtain ⟨_, _, ⟨T434, L434, k434, n434⟩, -, X434, ⟨Lc434, hQ434, l434, y434, z434⟩, st434⟩ := X433.virtualBack hx (y := (⟨"java/util/Optional", "get", "()Ljava/lang/Object;"⟩ : MethodName)) (z := (⟨"java/util/Optional", "get", "()Ljava/lang/Object;"⟩ : MethodName)) hown (mvT hZ (own_w hw 217 rfl)) (mvT hZ (own_w hw 218 rfl)) (notFace_of_selects (args := #[]) (mvT hZ (own_w hw 220 rfl))) (mvT hZ (own_w hw 220 rfl)) (mvT hZ (own_w hw 219 rfl)) (by decide) (backOf (W := 0) (own_rmOG l Z a0 hw [] a423 a337 T423.heap n0 (by omega) FR) hZ (own_w hw 221 rfl) (own_w hw 86 rfl) (by decide) (by decide)) qa434 qc434 (g := (mkF m 514 #[.val (.int i0), .val (.int i1), .val (.int i2), .val (.int i3), .val (.int (i0 &&& (3 : Int32))), .val (.int y0), .val (.int y1), .val (.int y2), .val (.int yq), .val (.int c0), .val (.int c1), .val (.int c2), .val (.int cq), .val (.ref s0), .val (.ref s1), .val (.ref s2), .val (.ref q0), .val (.ref a336), .val (.ref a337), .val (.ref a338), .val (.ref a339), .val (.ref a342), .val (.ref a345), .val (.ref a348), .val (.ref a417), .val (.ref a423), .val (.int m0), .val (.int m1), .val (.int m2), .val (.int (1 : Int32)), .val (.ref a337)] [(.ref a423)])) rfl (by rw [hml]; rfl) (Steps.refl _) (argsL := []) (rest := []) (lenOf own_pd15 rfl) rfl (by show 2 * 0 + _ ≤ _; exact Nat.le_of_eq rfl) (hb hby at_514) (fun _ _ => ⟨rfl, e433, Nat.le_of_ble_eq_true rfl, Nat.le_of_ble_eq_true rfl⟩)
            dsimp only [Pt.U, Pt.locs, Pt.cells, Pt.slots] at X434 l434 y434 z434 st434 hQ434
            subst l434 y434 z434
            obtain ⟨rfl, M434, e434⟩ := hQ434
            have N434 := Fr.app N433 M434
            refine own_go (fun _ k => st434.trans k) ?_
            show own_E p e below _ T434 (mkF m 517 #[.val (.int i0), .val (.int i1), .val (.int i2), .val (.int i3), .val (.int (i0 &&& (3 : Int32))), .val (.int y0), .val (.int y1), .val (.int y2), .val (.int yq), .val (.int c0), .val (.int c1), .val (.int c2), .val (.int cq), .val (.ref s0), .val (.ref s1), .val (.ref s2), .val (.ref q0), .val (.ref a336), .val (.ref a337), .val (.ref a338), .val (.ref a339), .val (.ref a342), .val (.ref a345), .val (.ref a348), .val (.ref a417), .val (.ref a423), .val (.int m0), .val (.int m1), .val (.int m2), .val (.int (1 : Int32)), .val (.ref a337)] [(.ref a337)])
            have lt435 := own_lt ((own_Sx (own_Sk F337 ((((((((((((((((((Keep.refl _ _).trans K338 all0).ext E339).trans K341 (allS (Or.inr (by omega)) all0)).ext E342).trans K344 (allS (Or.inr (by omega)) all0)).ext E345).trans K347 (allS (Or.inr (by omega)) all0)).ext E348).trans K350 (allS (Or.inr (by omega)) all0)).trans K366 (allS (Or.inr (by omega)) all0)).trans K388 (allS (Or.inr (by omega)) (allS (Or.inr (by omega)) all0))).trans K415 (allS (Or.inr (by omega)) (allS (Or.inr (by omega)) all0))).ext E417).ext E419).trans K421 (allS (Or.inr (by omega)) all0)).trans K422 (allS (Or.inr (by omega)) all0)).trans K423 all0)))).lt
            obtain ⟨T436, X436, e436, st436⟩ := castY X434 hx hZ hown (own_w hw 222 rfl) e434 (Ins.self (own_Sx (own_Sk F337 ((((((((((((((((((Keep.refl _ _).trans K338 all0).ext E339).trans K341 (allS (Or.inr (by omega)) all0)).ext E342).trans K344 (allS (Or.inr (by omega)) all0)).ext E345).trans K347 (allS (Or.inr (by omega)) all0)).ext E348).trans K350 (allS (Or.inr (by omega)) all0)).trans K366 (allS (Or.inr (by omega)) all0)).trans K388 (allS (Or.inr (by omega)) (allS (Or.inr (by omega)) all0))).trans K415 (allS (Or.inr (by omega)) (allS (Or.inr (by omega)) all0))).ext E417).ext E419).trans K421 (allS (Or.inr (by omega)) all0)).trans K422 (allS (Or.inr (by omega)) all0)).trans K423 all0)))) (g := (mkF m 517 #[.val (.int i0), .val (.int i1), .val (.int i2), .val (.int i3), .val (.int (i0 &&& (3 : Int32))), .val (.int y0), .val (.int y1), .val (.int y2), .val (.int yq), .val (.int c0), .val (.int c1), .val (.int c2), .val (.int cq), .val (.ref s0), .val (.ref s1), .val (.ref s2), .val (.ref q0), .val (.ref a336), .val (.ref a337), .val (.ref a338), .val (.ref a339), .val (.ref a342), .val (.ref a345), .val (.ref a348), .val (.ref a417), .val (.ref a423), .val (.int m0), .val (.int m1), .val (.int m2), .val (.int (1 : Int32)), .val (.ref a337)] [(.ref a337)])) rfl rfl (hb hby at_517)
            refine own_go st436 ?_
            show own_E p e below _ T436 (mkF m 520 #[.val (.int i0), .val (.int i1), .val (.int i2), .val (.int i3), .val (.int (i0 &&& (3 : Int32))), .val (.int y0), .val (.int y1), .val (.int y2), .val (.int yq), .val (.int c0), .val (.int c1), .val (.int c2), .val (.int cq), .val (.ref s0), .val (.ref s1), .val (.ref s2), .val (.ref q0), .val (.ref a336), .val (.ref a337), .val (.ref a338), .val (.ref a339), .val (.ref a342), .val (.ref a345), .val (.ref a348), .val (.ref a417), .val (.ref a423), .val (.int m0), .val (.int m1), .val (.int m2), .val (.int (1 : Int32)), .val (.ref a337)] [(.ref a337)])
            refine own_aload X436 hx (hb hby at_520) rfl rfl ?_
            obtain ⟨cq437, kq437, qa437, qb437, qc437⟩ := isOf hZ e436 (own_Sx (own_Sk F337 ((((((((((((((((((Keep.refl _ _).trans K338 all0).ext E339).trans K341 (allS (Or.inr (by omega)) all0)).ext E342).trans K344 (allS (Or.inr (by omega)) all0)).ext E345).trans K347 (allS (Or.inr (by omega)) all0)).ext E348).trans K350 (allS (Or.inr (by omega)) all0)).trans K366 (allS (Or.inr (by omega)) all0)).trans K388 (allS (Or.inr (by omega)) (allS (Or.inr (by omega)) all0))).trans K415 (allS (Or.inr (by omega)) (allS (Or.inr (by omega)) all0))).ext E417).ext E419).trans K421 (allS (Or.inr (by omega)) all0)).trans K422 (allS (Or.inr (by omega)) all0)).trans K423 all0)))
            obtain ⟨_, _, ⟨T437, L437, k437, n437⟩, -, X437, ⟨Lc437, hQ437, l437, y437, z437⟩, st437⟩ := X436.virtualBack hx (y := (⟨"java/lang/String", "equals", "(Ljava/lang/Object;)Z"⟩ : MethodName)) (z := (⟨"java/lang/String", "equals", "(Ljava/lang/Object;)Z"⟩ : MethodName)) hown (mvT hZ (own_w hw 223 rfl)) (mvT hZ (own_w hw 191 rfl)) (notFace_of_selects (args := #[]) (mvT hZ (own_w hw 193 rfl))) (mvT hZ (own_w hw 193 rfl)) (mvT hZ (own_w hw 192 rfl)) (by decide) (backOf (W := 0) (own_rmEQ l Z a0 hw [] a337 a337 0 d1.toInt8.toInt32 0 d1.toInt8.toInt32 G1 T423.heap n0 (by omega) (((((((((((((((((((((((O0.keep K316 all0).keep K321 all0).keep K326 all0).keep K331 all0).keep K336 all0).keep K337 all0).keep K338 all0).ext E339).keep K341 (allS (by omega) all0)).ext E342).keep K344 (allS (by omega) all0)).ext E345).keep K347 (allS (by omega) all0)).ext E348).keep K350 (allS (by omega) all0)).keep K366 (allS (by omega) all0)).keep K388 (allS (by omega) (allS (by omega) all0))).keep K415 (allS (by omega) (allS (by omega) all0))).ext E417).ext E419).keep K421 (allS (by omega) all0)).keep K422 (allS (by omega) all0)).keep K423 all0) SC P1 (own_Sk F337 ((((((((((((((((((Keep.refl _ _).trans K338 all0).ext E339).trans K341 (allS (Or.inr (by omega)) all0)).ext E342).trans K344 (allS (Or.inr (by omega)) all0)).ext E345).trans K347 (allS (Or.inr (by omega)) all0)).ext E348).trans K350 (allS (Or.inr (by omega)) all0)).trans K366 (allS (Or.inr (by omega)) all0)).trans K388 (allS (Or.inr (by omega)) (allS (Or.inr (by omega)) all0))).trans K415 (allS (Or.inr (by omega)) (allS (Or.inr (by omega)) all0))).ext E417).ext E419).trans K421 (allS (Or.inr (by omega)) all0)).trans K422 (allS (Or.inr (by omega)) all0)).trans K423 all0)) (own_Sk F337 ((((((((((((((((((Keep.refl _ _).trans K338 all0).ext E339).trans K341 (allS (Or.inr (by omega)) all0)).ext E342).trans K344 (allS (Or.inr (by omega)) all0)).ext E345).trans K347 (allS (Or.inr (by omega)) all0)).ext E348).trans K350 (allS (Or.inr (by omega)) all0)).trans K366 (allS (Or.inr (by omega)) all0)).trans K388 (allS (Or.inr (by omega)) (allS (Or.inr (by omega)) all0))).trans K415 (allS (Or.inr (by omega)) (allS (Or.inr (by omega)) all0))).ext E417).ext E419).trans K421 (allS (Or.inr (by omega)) all0)).trans K422 (allS (Or.inr (by omega)) all0)).trans K423 all0)) (Or.inl rfl) (Or.inl rfl)) hZ (own_w hw 194 rfl) (own_w hw 2 rfl) (by decide) (by decide)) qa437 qc437 (g := (mkF m 522 #[.val (.int i0), .val (.int i1), .val (.int i2), .val (.int i3), .val (.int (i0 &&& (3 : Int32))), .val (.int y0), .val (.int y1), .val (.int y2), .val (.int yq), .val (.int c0), .val (.int c1), .val (.int c2), .val (.int cq), .val (.ref s0), .val (.ref s1), .val (.ref s2), .val (.ref q0), .val (.ref a336), .val (.ref a337), .val (.ref a338), .val (.ref a339), .val (.ref a342), .val (.ref a345), .val (.ref a348), .val (.ref a417), .val (.ref a423), .val (.int m0), .val (.int m1), .val (.int m2), .val (.int (1 : Int32)), .val (.ref a337)] [(.ref a337), (.ref a337)])) rfl (by rw [hml]; rfl) (Steps.refl _) (argsL := [(.ref a337)]) (rest := []) (lenOf own_pd17 rfl) rfl (by show 2 * 0 + _ ≤ _; exact Nat.le_of_eq rfl) (hb hby at_522) (fun _ _ => ⟨rfl, e436, Nat.le_of_ble_eq_true rfl, Nat.le_of_ble_eq_true rfl⟩)
            dsimp only [Pt.U, Pt.locs, Pt.cells, Pt.slots] at X437 l437 y437 z437 st437 hQ437
            subst l437 y437 z437
            obtain ⟨rfl, M437, e437⟩ := hQ437
            have N437 := Fr.app N434 M437
            refine own_go (fun _ k => st437.trans k) ?_
            show own_E p e below _ T437 (mkF m 525 #[.val (.int i0), .val (.int i1), .val (.int i2), .val (.int i3), .val (.int (i0 &&& (3 : Int32))), .val (.int y0), .val (.int y1), .val (.int y2), .val (.int yq), .val (.int c0), .val (.int c1), .val (.int c2), .val (.int cq), .val (.ref s0), .val (.ref s1), .val (.ref s2), .val (.ref q0), .val (.ref a336), .val (.ref a337), .val (.ref a338), .val (.ref a339), .val (.ref a342), .val (.ref a345), .val (.ref a348), .val (.ref a417), .val (.ref a423), .val (.int m0), .val (.int m1), .val (.int m2), .val (.int (1 : Int32)), .val (.ref a337)] [(.int (own_seq 0 d1.toInt8.toInt32 0 d1.toInt8.toInt32))])
            refine own_ifNo X437 hx (hb hby at_525) (XT.i0_eq_f (by simp [own_seq])) ?_
            show own_E p e below _ T437 (mkF m 528 #[.val (.int i0), .val (.int i1), .val (.int i2), .val (.int i3), .val (.int (i0 &&& (3 : Int32))), .val (.int y0), .val (.int y1), .val (.int y2), .val (.int yq), .val (.int c0), .val (.int c1), .val (.int c2), .val (.int cq), .val (.ref s0), .val (.ref s1), .val (.ref s2), .val (.ref q0), .val (.ref a336), .val (.ref a337), .val (.ref a338), .val (.ref a339), .val (.ref a342), .val (.ref a345), .val (.ref a348), .val (.ref a417), .val (.ref a423), .val (.int m0), .val (.int m1), .val (.int m2), .val (.int (1 : Int32)), .val (.ref a337)] [])
            refine own_iconst X437 hx (hb hby at_528) (v := (1 : Int32)) (by decide) ?_
            refine own_goto X437 hx (hb hby at_529) 533 (by decide) (by decide) ?_
            show own_E p e below _ T437 (mkF m 533 #[.val (.int i0), .val (.int i1), .val (.int i2), .val (.int i3), .val (.int (i0 &&& (3 : Int32))), .val (.int y0), .val (.int y1), .val (.int y2), .val (.int yq), .val (.int c0), .val (.int c1), .val (.int c2), .val (.int cq), .val (.ref s0), .val (.ref s1), .val (.ref s2), .val (.ref q0), .val (.ref a336), .val (.ref a337), .val (.ref a338), .val (.ref a339), .val (.ref a342), .val (.ref a345), .val (.ref a348), .val (.ref a417), .val (.ref a423), .val (.int m0), .val (.int m1), .val (.int m2), .val (.int (1 : Int32)), .val (.ref a337)] [(.int (1 : Int32))])
            refine own_retNW X437 hx hS (by rw [e437]; omega) hZ hEL hh (by rw [e437]; exact C423) (t := .boolean) Bd.returns (by simp) hlk (hb hby at_533) (z' := (1 : Int32)) (by decide) (by decide) (by decide) ?_
            rw [e437]
            exact ⟨rfl, N437⟩
        · skip
          refine own_ifNo X423 hx (hb hby at_424) (XT.i0_eq_f hm2) ?_
          show own_E p e below _ T423 (mkF m 427 #[.val (.int i0), .val (.int i1), .val (.int i2), .val (.int i3), .val (.int (i0 &&& (3 : Int32))), .val (.int y0), .val (.int y1), .val (.int y2), .val (.int yq), .val (.int c0), .val (.int c1), .val (.int c2), .val (.int cq), .val (.ref s0), .val (.ref s1), .val (.ref s2), .val (.ref q0), .val (.ref a336), .val (.ref a337), .val (.ref a338), .val (.ref a339), .val (.ref a342), .val (.ref a345), .val (.ref a348), .val (.ref a417), .val (.ref a423), .val (.int m0), .val (.int m1), .val (.int m2), .unset, .unset] [])
          refine own_iconst X423 hx (hb hby at_427) (v := (1 : Int32)) (by decide) ?_
          refine own_istore X423 hx (hb hby at_428) (l' := #[.val (.int i0), .val (.int i1), .val (.int i2), .val (.int i3), .val (.int (i0 &&& (3 : Int32))), .val (.int y0), .val (.int y1), .val (.int y2), .val (.int yq), .val (.int c0), .val (.int c1), .val (.int c2), .val (.int cq), .val (.ref s0), .val (.ref s1), .val (.ref s2), .val (.ref q0), .val (.ref a336), .val (.ref a337), .val (.ref a338), .val (.ref a339), .val (.ref a342), .val (.ref a345), .val (.ref a348), .val (.ref a417), .val (.ref a423), .val (.int m0), .val (.int m1), .val (.int m2), .val (.int (1 : Int32)), .unset]) rfl ?_
          refine own_aload X423 hx (hb hby at_430) rfl rfl ?_
          refine own_astore X423 hx (hb hby at_432) rfl (l' := #[.val (.int i0), .val (.int i1), .val (.int i2), .val (.int i3), .val (.int (i0 &&& (3 : Int32))), .val (.int y0), .val (.int y1), .val (.int y2), .val (.int yq), .val (.int c0), .val (.int c1), .val (.int c2), .val (.int cq), .val (.ref s0), .val (.ref s1), .val (.ref s2), .val (.ref q0), .val (.ref a336), .val (.ref a337), .val (.ref a338), .val (.ref a339), .val (.ref a342), .val (.ref a345), .val (.ref a348), .val (.ref a417), .val (.ref a423), .val (.int m0), .val (.int m1), .val (.int m2), .val (.int (1 : Int32)), .val (.ref a338)]) rfl ?_
          refine own_goto X423 hx (hb hby at_434) 485 (by decide) (by decide) ?_
          show own_E p e below _ T423 (mkF m 485 #[.val (.int i0), .val (.int i1), .val (.int i2), .val (.int i3), .val (.int (i0 &&& (3 : Int32))), .val (.int y0), .val (.int y1), .val (.int y2), .val (.int yq), .val (.int c0), .val (.int c1), .val (.int c2), .val (.int cq), .val (.ref s0), .val (.ref s1), .val (.ref s2), .val (.ref q0), .val (.ref a336), .val (.ref a337), .val (.ref a338), .val (.ref a339), .val (.ref a342), .val (.ref a345), .val (.ref a348), .val (.ref a417), .val (.ref a423), .val (.int m0), .val (.int m1), .val (.int m2), .val (.int (1 : Int32)), .val (.ref a338)] [])
          refine own_iload X423 hx (hb hby at_485) rfl ?_
          refine own_ifYes X423 hx (hb hby at_487) (by decide +kernel) 504 (by decide) (by decide) ?_
          show own_E p e below _ T423 (mkF m 504 #[.val (.int i0), .val (.int i1), .val (.int i2), .val (.int i3), .val (.int (i0 &&& (3 : Int32))), .val (.int y0), .val (.int y1), .val (.int y2), .val (.int yq), .val (.int c0), .val (.int c1), .val (.int c2), .val (.int cq), .val (.ref s0), .val (.ref s1), .val (.ref s2), .val (.ref q0), .val (.ref a336), .val (.ref a337), .val (.ref a338), .val (.ref a339), .val (.ref a342), .val (.ref a345), .val (.ref a348), .val (.ref a417), .val (.ref a423), .val (.int m0), .val (.int m1), .val (.int m2), .val (.int (1 : Int32)), .val (.ref a338)] [])
          refine own_aload X423 hx (hb hby at_504) rfl rfl ?_
          have FR : Fld Z T423.heap a423 "java/util/Optional" "value" "Ljava/lang/Object;" (.ref a338) := by have q := F423; rw [own_pick1 (rel2 ▸ hm2)] at q; exact q
          obtain ⟨cq428, kq428, qa428, qb428, qc428⟩ := isOf hZ (rfl : T423.heap = T423.heap) A423
          obtain ⟨_, _, ⟨T428, L428, k428, n428⟩, -, X428, ⟨Lc428, hQ428, l428, y428, z428⟩, st428⟩ := X423.virtualBack hx (y := (⟨"java/util/Optional", "isPresent", "()Z"⟩ : MethodName)) (z := (⟨"java/util/Optional", "isPresent", "()Z"⟩ : MethodName)) hown (mvT hZ (own_w hw 130 rfl)) (mvT hZ (own_w hw 131 rfl)) (notFace_of_selects (args := #[]) (mvT hZ (own_w hw 133 rfl))) (mvT hZ (own_w hw 133 rfl)) (mvT hZ (own_w hw 132 rfl)) (by decide) (backOf (W := 0) (own_rmP1 l Z a0 hw [] a423 a338 T423.heap n0 (by omega) FR) hZ (own_w hw 134 rfl) (own_w hw 86 rfl) (by decide) (by decide)) qa428 qc428 (g := (mkF m 506 #[.val (.int i0), .val (.int i1), .val (.int i2), .val (.int i3), .val (.int (i0 &&& (3 : Int32))), .val (.int y0), .val (.int y1), .val (.int y2), .val (.int yq), .val (.int c0), .val (.int c1), .val (.int c2), .val (.int cq), .val (.ref s0), .val (.ref s1), .val (.ref s2), .val (.ref q0), .val (.ref a336), .val (.ref a337), .val (.ref a338), .val (.ref a339), .val (.ref a342), .val (.ref a345), .val (.ref a348), .val (.ref a417), .val (.ref a423), .val (.int m0), .val (.int m1), .val (.int m2), .val (.int (1 : Int32)), .val (.ref a338)] [(.ref a423)])) rfl (by rw [hml]; rfl) (Steps.refl _) (argsL := []) (rest := []) (lenOf own_pd14 rfl) rfl (by show 2 * 0 + _ ≤ _; exact Nat.le_of_eq rfl) (hb hby at_506) (fun _ _ => ⟨rfl, (rfl : T423.heap = T423.heap), Nat.le_of_ble_eq_true rfl, Nat.le_of_ble_eq_true rfl⟩)
          dsimp only [Pt.U, Pt.locs, Pt.cells, Pt.slots] at X428 l428 y428 z428 st428 hQ428
          subst l428 y428 z428
          obtain ⟨rfl, M428, e428⟩ := hQ428
          have N428 := Fr.app N423 M428
          refine own_go (fun _ k => st428.trans k) ?_
          show own_E p e below _ T428 (mkF m 509 #[.val (.int i0), .val (.int i1), .val (.int i2), .val (.int i3), .val (.int (i0 &&& (3 : Int32))), .val (.int y0), .val (.int y1), .val (.int y2), .val (.int yq), .val (.int c0), .val (.int c1), .val (.int c2), .val (.int cq), .val (.ref s0), .val (.ref s1), .val (.ref s2), .val (.ref q0), .val (.ref a336), .val (.ref a337), .val (.ref a338), .val (.ref a339), .val (.ref a342), .val (.ref a345), .val (.ref a348), .val (.ref a417), .val (.ref a423), .val (.int m0), .val (.int m1), .val (.int m2), .val (.int (1 : Int32)), .val (.ref a338)] [(.int (1 : Int32))])
          refine own_ifNo X428 hx (hb hby at_509) (by decide +kernel) ?_
          show own_E p e below _ T428 (mkF m 512 #[.val (.int i0), .val (.int i1), .val (.int i2), .val (.int i3), .val (.int (i0 &&& (3 : Int32))), .val (.int y0), .val (.int y1), .val (.int y2), .val (.int yq), .val (.int c0), .val (.int c1), .val (.int c2), .val (.int cq), .val (.ref s0), .val (.ref s1), .val (.ref s2), .val (.ref q0), .val (.ref a336), .val (.ref a337), .val (.ref a338), .val (.ref a339), .val (.ref a342), .val (.ref a345), .val (.ref a348), .val (.ref a417), .val (.ref a423), .val (.int m0), .val (.int m1), .val (.int m2), .val (.int (1 : Int32)), .val (.ref a338)] [])
          refine own_aload X428 hx (hb hby at_512) rfl rfl ?_
          obtain ⟨cq429, kq429, qa429, qb429, qc429⟩ := isOf hZ e428 A423
          obtain ⟨_, _, ⟨T429, L429, k429, n429⟩, -, X429, ⟨Lc429, hQ429, l429, y429, z429⟩, st429⟩ := X428.virtualBack hx (y := (⟨"java/util/Optional", "get", "()Ljava/lang/Object;"⟩ : MethodName)) (z := (⟨"java/util/Optional", "get", "()Ljava/lang/Object;"⟩ : MethodName)) hown (mvT hZ (own_w hw 217 rfl)) (mvT hZ (own_w hw 218 rfl)) (notFace_of_selects (args := #[]) (mvT hZ (own_w hw 220 rfl))) (mvT hZ (own_w hw 220 rfl)) (mvT hZ (own_w hw 219 rfl)) (by decide) (backOf (W := 0) (own_rmOG l Z a0 hw [] a423 a338 T423.heap n0 (by omega) FR) hZ (own_w hw 221 rfl) (own_w hw 86 rfl) (by decide) (by decide)) qa429 qc429 (g := (mkF m 514 #[.val (.int i0), .val (.int i1), .val (.int i2), .val (.int i3), .val (.int (i0 &&& (3 : Int32))), .val (.int y0), .val (.int y1), .val (.int y2), .val (.int yq), .val (.int c0), .val (.int c1), .val (.int c2), .val (.int cq), .val (.ref s0), .val (.ref s1), .val (.ref s2), .val (.ref q0), .val (.ref a336), .val (.ref a337), .val (.ref a338), .val (.ref a339), .val (.ref a342), .val (.ref a345), .val (.ref a348), .val (.ref a417), .val (.ref a423), .val (.int m0), .val (.int m1), .val (.int m2), .val (.int (1 : Int32)), .val (.ref a338)] [(.ref a423)])) rfl (by rw [hml]; rfl) (Steps.refl _) (argsL := []) (rest := []) (lenOf own_pd15 rfl) rfl (by show 2 * 0 + _ ≤ _; exact Nat.le_of_eq rfl) (hb hby at_514) (fun _ _ => ⟨rfl, e428, Nat.le_of_ble_eq_true rfl, Nat.le_of_ble_eq_true rfl⟩)
          dsimp only [Pt.U, Pt.locs, Pt.cells, Pt.slots] at X429 l429 y429 z429 st429 hQ429
          subst l429 y429 z429
          obtain ⟨rfl, M429, e429⟩ := hQ429
          have N429 := Fr.app N428 M429
          refine own_go (fun _ k => st429.trans k) ?_
          show own_E p e below _ T429 (mkF m 517 #[.val (.int i0), .val (.int i1), .val (.int i2), .val (.int i3), .val (.int (i0 &&& (3 : Int32))), .val (.int y0), .val (.int y1), .val (.int y2), .val (.int yq), .val (.int c0), .val (.int c1), .val (.int c2), .val (.int cq), .val (.ref s0), .val (.ref s1), .val (.ref s2), .val (.ref q0), .val (.ref a336), .val (.ref a337), .val (.ref a338), .val (.ref a339), .val (.ref a342), .val (.ref a345), .val (.ref a348), .val (.ref a417), .val (.ref a423), .val (.int m0), .val (.int m1), .val (.int m2), .val (.int (1 : Int32)), .val (.ref a338)] [(.ref a338)])
          have lt430 := own_lt ((own_Sx (own_Sk F338 (((((((((((((((((Keep.refl _ _).ext E339).trans K341 (allS (Or.inr (by omega)) all0)).ext E342).trans K344 (allS (Or.inr (by omega)) all0)).ext E345).trans K347 (allS (Or.inr (by omega)) all0)).ext E348).trans K350 (allS (Or.inr (by omega)) all0)).trans K366 (allS (Or.inr (by omega)) all0)).trans K388 (allS (Or.inr (by omega)) (allS (Or.inr (by omega)) all0))).trans K415 (allS (Or.inr (by omega)) (allS (Or.inr (by omega)) all0))).ext E417).ext E419).trans K421 (allS (Or.inr (by omega)) all0)).trans K422 (allS (Or.inr (by omega)) all0)).trans K423 all0)))).lt
          obtain ⟨T431, X431, e431, st431⟩ := castY X429 hx hZ hown (own_w hw 222 rfl) e429 (Ins.self (own_Sx (own_Sk F338 (((((((((((((((((Keep.refl _ _).ext E339).trans K341 (allS (Or.inr (by omega)) all0)).ext E342).trans K344 (allS (Or.inr (by omega)) all0)).ext E345).trans K347 (allS (Or.inr (by omega)) all0)).ext E348).trans K350 (allS (Or.inr (by omega)) all0)).trans K366 (allS (Or.inr (by omega)) all0)).trans K388 (allS (Or.inr (by omega)) (allS (Or.inr (by omega)) all0))).trans K415 (allS (Or.inr (by omega)) (allS (Or.inr (by omega)) all0))).ext E417).ext E419).trans K421 (allS (Or.inr (by omega)) all0)).trans K422 (allS (Or.inr (by omega)) all0)).trans K423 all0)))) (g := (mkF m 517 #[.val (.int i0), .val (.int i1), .val (.int i2), .val (.int i3), .val (.int (i0 &&& (3 : Int32))), .val (.int y0), .val (.int y1), .val (.int y2), .val (.int yq), .val (.int c0), .val (.int c1), .val (.int c2), .val (.int cq), .val (.ref s0), .val (.ref s1), .val (.ref s2), .val (.ref q0), .val (.ref a336), .val (.ref a337), .val (.ref a338), .val (.ref a339), .val (.ref a342), .val (.ref a345), .val (.ref a348), .val (.ref a417), .val (.ref a423), .val (.int m0), .val (.int m1), .val (.int m2), .val (.int (1 : Int32)), .val (.ref a338)] [(.ref a338)])) rfl rfl (hb hby at_517)
          refine own_go st431 ?_
          show own_E p e below _ T431 (mkF m 520 #[.val (.int i0), .val (.int i1), .val (.int i2), .val (.int i3), .val (.int (i0 &&& (3 : Int32))), .val (.int y0), .val (.int y1), .val (.int y2), .val (.int yq), .val (.int c0), .val (.int c1), .val (.int c2), .val (.int cq), .val (.ref s0), .val (.ref s1), .val (.ref s2), .val (.ref q0), .val (.ref a336), .val (.ref a337), .val (.ref a338), .val (.ref a339), .val (.ref a342), .val (.ref a345), .val (.ref a348), .val (.ref a417), .val (.ref a423), .val (.int m0), .val (.int m1), .val (.int m2), .val (.int (1 : Int32)), .val (.ref a338)] [(.ref a338)])
          refine own_aload X431 hx (hb hby at_520) rfl rfl ?_
          obtain ⟨cq432, kq432, qa432, qb432, qc432⟩ := isOf hZ e431 (own_Sx (own_Sk F338 (((((((((((((((((Keep.refl _ _).ext E339).trans K341 (allS (Or.inr (by omega)) all0)).ext E342).trans K344 (allS (Or.inr (by omega)) all0)).ext E345).trans K347 (allS (Or.inr (by omega)) all0)).ext E348).trans K350 (allS (Or.inr (by omega)) all0)).trans K366 (allS (Or.inr (by omega)) all0)).trans K388 (allS (Or.inr (by omega)) (allS (Or.inr (by omega)) all0))).trans K415 (allS (Or.inr (by omega)) (allS (Or.inr (by omega)) all0))).ext E417).ext E419).trans K421 (allS (Or.inr (by omega)) all0)).trans K422 (allS (Or.inr (by omega)) all0)).trans K423 all0)))
          obtain ⟨_, _, ⟨T432, L432, k432, n432⟩, -, X432, ⟨Lc432, hQ432, l432, y432, z432⟩, st432⟩ := X431.virtualBack hx (y := (⟨"java/lang/String", "equals", "(Ljava/lang/Object;)Z"⟩ : MethodName)) (z := (⟨"java/lang/String", "equals", "(Ljava/lang/Object;)Z"⟩ : MethodName)) hown (mvT hZ (own_w hw 223 rfl)) (mvT hZ (own_w hw 191 rfl)) (notFace_of_selects (args := #[]) (mvT hZ (own_w hw 193 rfl))) (mvT hZ (own_w hw 193 rfl)) (mvT hZ (own_w hw 192 rfl)) (by decide) (backOf (W := 0) (own_rmEQ l Z a0 hw [] a338 a338 0 d2.toInt8.toInt32 0 d2.toInt8.toInt32 G1 T423.heap n0 (by omega) (((((((((((((((((((((((O0.keep K316 all0).keep K321 all0).keep K326 all0).keep K331 all0).keep K336 all0).keep K337 all0).keep K338 all0).ext E339).keep K341 (allS (by omega) all0)).ext E342).keep K344 (allS (by omega) all0)).ext E345).keep K347 (allS (by omega) all0)).ext E348).keep K350 (allS (by omega) all0)).keep K366 (allS (by omega) all0)).keep K388 (allS (by omega) (allS (by omega) all0))).keep K415 (allS (by omega) (allS (by omega) all0))).ext E417).ext E419).keep K421 (allS (by omega) all0)).keep K422 (allS (by omega) all0)).keep K423 all0) SC P1 (own_Sk F338 (((((((((((((((((Keep.refl _ _).ext E339).trans K341 (allS (Or.inr (by omega)) all0)).ext E342).trans K344 (allS (Or.inr (by omega)) all0)).ext E345).trans K347 (allS (Or.inr (by omega)) all0)).ext E348).trans K350 (allS (Or.inr (by omega)) all0)).trans K366 (allS (Or.inr (by omega)) all0)).trans K388 (allS (Or.inr (by omega)) (allS (Or.inr (by omega)) all0))).trans K415 (allS (Or.inr (by omega)) (allS (Or.inr (by omega)) all0))).ext E417).ext E419).trans K421 (allS (Or.inr (by omega)) all0)).trans K422 (allS (Or.inr (by omega)) all0)).trans K423 all0)) (own_Sk F338 (((((((((((((((((Keep.refl _ _).ext E339).trans K341 (allS (Or.inr (by omega)) all0)).ext E342).trans K344 (allS (Or.inr (by omega)) all0)).ext E345).trans K347 (allS (Or.inr (by omega)) all0)).ext E348).trans K350 (allS (Or.inr (by omega)) all0)).trans K366 (allS (Or.inr (by omega)) all0)).trans K388 (allS (Or.inr (by omega)) (allS (Or.inr (by omega)) all0))).trans K415 (allS (Or.inr (by omega)) (allS (Or.inr (by omega)) all0))).ext E417).ext E419).trans K421 (allS (Or.inr (by omega)) all0)).trans K422 (allS (Or.inr (by omega)) all0)).trans K423 all0)) (Or.inl rfl) (Or.inl rfl)) hZ (own_w hw 194 rfl) (own_w hw 2 rfl) (by decide) (by decide)) qa432 qc432 (g := (mkF m 522 #[.val (.int i0), .val (.int i1), .val (.int i2), .val (.int i3), .val (.int (i0 &&& (3 : Int32))), .val (.int y0), .val (.int y1), .val (.int y2), .val (.int yq), .val (.int c0), .val (.int c1), .val (.int c2), .val (.int cq), .val (.ref s0), .val (.ref s1), .val (.ref s2), .val (.ref q0), .val (.ref a336), .val (.ref a337), .val (.ref a338), .val (.ref a339), .val (.ref a342), .val (.ref a345), .val (.ref a348), .val (.ref a417), .val (.ref a423), .val (.int m0), .val (.int m1), .val (.int m2), .val (.int (1 : Int32)), .val (.ref a338)] [(.ref a338), (.ref a338)])) rfl (by rw [hml]; rfl) (Steps.refl _) (argsL := [(.ref a338)]) (rest := []) (lenOf own_pd17 rfl) rfl (by show 2 * 0 + _ ≤ _; exact Nat.le_of_eq rfl) (hb hby at_522) (fun _ _ => ⟨rfl, e431, Nat.le_of_ble_eq_true rfl, Nat.le_of_ble_eq_true rfl⟩)
          dsimp only [Pt.U, Pt.locs, Pt.cells, Pt.slots] at X432 l432 y432 z432 st432 hQ432
          subst l432 y432 z432
          obtain ⟨rfl, M432, e432⟩ := hQ432
          have N432 := Fr.app N429 M432
          refine own_go (fun _ k => st432.trans k) ?_
          show own_E p e below _ T432 (mkF m 525 #[.val (.int i0), .val (.int i1), .val (.int i2), .val (.int i3), .val (.int (i0 &&& (3 : Int32))), .val (.int y0), .val (.int y1), .val (.int y2), .val (.int yq), .val (.int c0), .val (.int c1), .val (.int c2), .val (.int cq), .val (.ref s0), .val (.ref s1), .val (.ref s2), .val (.ref q0), .val (.ref a336), .val (.ref a337), .val (.ref a338), .val (.ref a339), .val (.ref a342), .val (.ref a345), .val (.ref a348), .val (.ref a417), .val (.ref a423), .val (.int m0), .val (.int m1), .val (.int m2), .val (.int (1 : Int32)), .val (.ref a338)] [(.int (own_seq 0 d2.toInt8.toInt32 0 d2.toInt8.toInt32))])
          refine own_ifNo X432 hx (hb hby at_525) (XT.i0_eq_f (by simp [own_seq])) ?_
          show own_E p e below _ T432 (mkF m 528 #[.val (.int i0), .val (.int i1), .val (.int i2), .val (.int i3), .val (.int (i0 &&& (3 : Int32))), .val (.int y0), .val (.int y1), .val (.int y2), .val (.int yq), .val (.int c0), .val (.int c1), .val (.int c2), .val (.int cq), .val (.ref s0), .val (.ref s1), .val (.ref s2), .val (.ref q0), .val (.ref a336), .val (.ref a337), .val (.ref a338), .val (.ref a339), .val (.ref a342), .val (.ref a345), .val (.ref a348), .val (.ref a417), .val (.ref a423), .val (.int m0), .val (.int m1), .val (.int m2), .val (.int (1 : Int32)), .val (.ref a338)] [])
          refine own_iconst X432 hx (hb hby at_528) (v := (1 : Int32)) (by decide) ?_
          refine own_goto X432 hx (hb hby at_529) 533 (by decide) (by decide) ?_
          show own_E p e below _ T432 (mkF m 533 #[.val (.int i0), .val (.int i1), .val (.int i2), .val (.int i3), .val (.int (i0 &&& (3 : Int32))), .val (.int y0), .val (.int y1), .val (.int y2), .val (.int yq), .val (.int c0), .val (.int c1), .val (.int c2), .val (.int cq), .val (.ref s0), .val (.ref s1), .val (.ref s2), .val (.ref q0), .val (.ref a336), .val (.ref a337), .val (.ref a338), .val (.ref a339), .val (.ref a342), .val (.ref a345), .val (.ref a348), .val (.ref a417), .val (.ref a423), .val (.int m0), .val (.int m1), .val (.int m2), .val (.int (1 : Int32)), .val (.ref a338)] [(.int (1 : Int32))])
          refine own_retNW X432 hx hS (by rw [e432]; omega) hZ hEL hh (by rw [e432]; exact C423) (t := .boolean) Bd.returns (by simp) hlk (hb hby at_533) (z' := (1 : Int32)) (by decide) (by decide) (by decide) ?_
          rw [e432]
          exact ⟨rfl, N432⟩
      · skip
        refine own_icmpYes X388 hx (hb hby at_298) (XT.ii_le_t h2c) 311 (by decide) (by decide) ?_
        show own_E p e below _ T388 (mkF m 311 #[.val (.int i0), .val (.int i1), .val (.int i2), .val (.int i3), .val (.int (i0 &&& (3 : Int32))), .val (.int y0), .val (.int y1), .val (.int y2), .val (.int yq), .val (.int c0), .val (.int c1), .val (.int c2), .val (.int cq), .val (.ref s0), .val (.ref s1), .val (.ref s2), .val (.ref q0), .val (.ref a336), .val (.ref a337), .val (.ref a338), .val (.ref a339), .val (.ref a342), .val (.ref a345), .val (.ref a348), .unset, .unset, .unset, .unset, .unset, .unset, .unset] [])
        obtain ⟨T390, h390, X390, e390, E390, A390, D390, -, st390⟩ := newO X388 hx hZ hown (own_w hw 68 rfl) (own_w hw 69 rfl) (own_w hw 70 rfl) (rfl : T388.heap = T388.heap) (g := (mkF m 311 #[.val (.int i0), .val (.int i1), .val (.int i2), .val (.int i3), .val (.int (i0 &&& (3 : Int32))), .val (.int y0), .val (.int y1), .val (.int y2), .val (.int yq), .val (.int c0), .val (.int c1), .val (.int c2), .val (.int cq), .val (.ref s0), .val (.ref s1), .val (.ref s2), .val (.ref q0), .val (.ref a336), .val (.ref a337), .val (.ref a338), .val (.ref a339), .val (.ref a342), .val (.ref a345), .val (.ref a348), .unset, .unset, .unset, .unset, .unset, .unset, .unset] [])) rfl (hb hby at_311) (by decide) (by decide)
        obtain ⟨a390, g390⟩ : ∃ z, z = T388.heap.size := ⟨_, rfl⟩
        rw [← g390] at A390 D390 st390
        have z390 : T388.heap.size ≤ h390.size := E390.1
        have t390 : a390 < h390.size := A390.lt
        refine own_go st390 ?_
        have lt391 := own_lt (A390).lt
        have C390 := C388.trans (CHr.ext E390 C388.1)
        show own_E p e below _ T390 (mkF m 314 #[.val (.int i0), .val (.int i1), .val (.int i2), .val (.int i3), .val (.int (i0 &&& (3 : Int32))), .val (.int y0), .val (.int y1), .val (.int y2), .val (.int yq), .val (.int c0), .val (.int c1), .val (.int c2), .val (.int cq), .val (.ref s0), .val (.ref s1), .val (.ref s2), .val (.ref q0), .val (.ref a336), .val (.ref a337), .val (.ref a338), .val (.ref a339), .val (.ref a342), .val (.ref a345), .val (.ref a348), .unset, .unset, .unset, .unset, .unset, .unset, .unset] [(.ref a390)])
        refine own_dup X390 hx (hb hby at_314) rfl ?_
        obtain ⟨T392, h392, X392, e392, E392, A392, D392, -, st392⟩ := newO X390 hx hZ hown (own_w hw 44 rfl) (own_w hw 45 rfl) (own_w hw 46 rfl) e390 (g := (mkF m 315 #[.val (.int i0), .val (.int i1), .val (.int i2), .val (.int i3), .val (.int (i0 &&& (3 : Int32))), .val (.int y0), .val (.int y1), .val (.int y2), .val (.int yq), .val (.int c0), .val (.int c1), .val (.int c2), .val (.int cq), .val (.ref s0), .val (.ref s1), .val (.ref s2), .val (.ref q0), .val (.ref a336), .val (.ref a337), .val (.ref a338), .val (.ref a339), .val (.ref a342), .val (.ref a345), .val (.ref a348), .unset, .unset, .unset, .unset, .unset, .unset, .unset] [(.ref a390), (.ref a390)])) rfl (hb hby at_315) (by decide) (by decide)
        obtain ⟨a392, g392⟩ : ∃ z, z = h390.size := ⟨_, rfl⟩
        rw [← g392] at A392 D392 st392
        have z392 : h390.size ≤ h392.size := E392.1
        have t392 : a392 < h392.size := A392.lt
        refine own_go st392 ?_
        have lt393 := own_lt (A392).lt
        have C392 := C390.trans (CHr.ext E392 C390.1)
        show own_E p e below _ T392 (mkF m 318 #[.val (.int i0), .val (.int i1), .val (.int i2), .val (.int i3), .val (.int (i0 &&& (3 : Int32))), .val (.int y0), .val (.int y1), .val (.int y2), .val (.int yq), .val (.int c0), .val (.int c1), .val (.int c2), .val (.int cq), .val (.ref s0), .val (.ref s1), .val (.ref s2), .val (.ref q0), .val (.ref a336), .val (.ref a337), .val (.ref a338), .val (.ref a339), .val (.ref a342), .val (.ref a345), .val (.ref a348), .unset, .unset, .unset, .unset, .unset, .unset, .unset] [(.ref a392), (.ref a390), (.ref a390)])
        refine own_dup X392 hx (hb hby at_318) rfl ?_
        obtain ⟨_, _, ⟨T394, L394, k394, n394⟩, -, X394, ⟨Lc394, hQ394, l394, y394, z394⟩, st394⟩ := X392.specialBack hx (y := (⟨"java/util/ArrayList", "<init>", "()V"⟩ : MethodName)) rfl hown (mvT hZ (own_w hw 47 rfl)) (mvT hZ (own_w hw 48 rfl)) (mvT hZ (own_w hw 49 rfl)) (by decide) (backOf (W := 3) (own_rmAI l Z a0 hw [] a392 wd h392 n0 (by omega) (((((((((((((((((((O0.keep K316 all0).keep K321 all0).keep K326 all0).keep K331 all0).keep K336 all0).keep K337 all0).keep K338 all0).ext E339).keep K341 (allS (by omega) all0)).ext E342).keep K344 (allS (by omega) all0)).ext E345).keep K347 (allS (by omega) all0)).ext E348).keep K350 (allS (by omega) all0)).keep K366 (allS (by omega) all0)).keep K388 (allS (by omega) (allS (by omega) all0))).ext E390).ext E392) SD (D392 (Or.inl (own_w hw 67 rfl)) (ty := (.array (.object "java/lang/Object"))) (by decide)) (D392 (Or.inl (own_w hw 126 rfl)) (ty := .int) (by decide)) (D392 (Or.inl (own_w hw 64 rfl)) (ty := .int) (by decide)) A392 (by omega)) hZ (own_w hw 49 rfl) (own_w hw 46 rfl) (by decide) (by decide)) (g := (mkF m 319 #[.val (.int i0), .val (.int i1), .val (.int i2), .val (.int i3), .val (.int (i0 &&& (3 : Int32))), .val (.int y0), .val (.int y1), .val (.int y2), .val (.int yq), .val (.int c0), .val (.int c1), .val (.int c2), .val (.int cq), .val (.ref s0), .val (.ref s1), .val (.ref s2), .val (.ref q0), .val (.ref a336), .val (.ref a337), .val (.ref a338), .val (.ref a339), .val (.ref a342), .val (.ref a345), .val (.ref a348), .unset, .unset, .unset, .unset, .unset, .unset, .unset] [(.ref a392), (.ref a392), (.ref a390), (.ref a390)])) rfl (by rw [hml]; rfl) (Steps.refl _) (a := a392) (argsL := []) (rest := [(.ref a392), (.ref a390), (.ref a390)]) (lenOf own_pd0 rfl) rfl (by show 2 * 0 + _ ≤ _; exact Nat.le_of_eq rfl) (hb hby at_319) (fun _ _ => ⟨rfl, e392, Nat.le_of_ble_eq_true rfl, Nat.le_of_ble_eq_true rfl⟩)
        dsimp only [Pt.U, Pt.locs, Pt.cells, Pt.slots] at X394 l394 y394 z394 st394 hQ394
        subst l394 y394 z394
        obtain ⟨rfl, M394, K394, F394, G394, J394⟩ := hQ394
        have N394 := Fr.app N388 M394
        refine own_go (fun _ k => st394.trans k) ?_
        have C394 := C392.trans (CHr.keep K394 (allS (Safe.exa hZ.alike A392 (by decide) (by decide)) all0) C392.1)
        have z394 : h392.size ≤ T394.heap.size := K394.1
        show own_E p e below _ T394 (mkF m 322 #[.val (.int i0), .val (.int i1), .val (.int i2), .val (.int i3), .val (.int (i0 &&& (3 : Int32))), .val (.int y0), .val (.int y1), .val (.int y2), .val (.int yq), .val (.int c0), .val (.int c1), .val (.int c2), .val (.int cq), .val (.ref s0), .val (.ref s1), .val (.ref s2), .val (.ref q0), .val (.ref a336), .val (.ref a337), .val (.ref a338), .val (.ref a339), .val (.ref a342), .val (.ref a345), .val (.ref a348), .unset, .unset, .unset, .unset, .unset, .unset, .unset] [(.ref a392), (.ref a390), (.ref a390)])
        refine own_aload X394 hx (hb hby at_322) rfl rfl ?_
        obtain ⟨_, _, ⟨T395, L395, k395, n395⟩, -, X395, ⟨Lc395, hQ395, l395, y395, z395⟩, st395⟩ := X394.specialBack hx (y := (⟨"com/example/narrow_gate/narrowgate/Target", "<init>", "(Ljava/util/List;Ljava/util/List;)V"⟩ : MethodName)) rfl hown (mvT hZ (own_w hw 71 rfl)) (mvT hZ (own_w hw 72 rfl)) (mvT hZ (own_w hw 73 rfl)) (by decide) (backOf (W := 1) (own_rmGI l Z a0 hw [] a390 a392 a348 T394.heap n0 (by omega) (((D390 (Or.inr (own_w hw 76 rfl)) (ty := (.object "java/util/List")) (by decide)).ext E392).keep K394 (ninS (by first | assumption | exact Ne.symm (by assumption) | exact own_ne (by omega)) nin0)) (((D390 (Or.inr (own_w hw 78 rfl)) (ty := (.object "java/util/List")) (by decide)).ext E392).keep K394 (ninS (by first | assumption | exact Ne.symm (by assumption) | exact own_ne (by omega)) nin0)) ((A390.ext E392).keep K394) (by omega)) hZ (own_w hw 73 rfl) (own_w hw 70 rfl) (by decide) (by decide)) (g := (mkF m 324 #[.val (.int i0), .val (.int i1), .val (.int i2), .val (.int i3), .val (.int (i0 &&& (3 : Int32))), .val (.int y0), .val (.int y1), .val (.int y2), .val (.int yq), .val (.int c0), .val (.int c1), .val (.int c2), .val (.int cq), .val (.ref s0), .val (.ref s1), .val (.ref s2), .val (.ref q0), .val (.ref a336), .val (.ref a337), .val (.ref a338), .val (.ref a339), .val (.ref a342), .val (.ref a345), .val (.ref a348), .unset, .unset, .unset, .unset, .unset, .unset, .unset] [(.ref a348), (.ref a392), (.ref a390), (.ref a390)])) rfl (by rw [hml]; rfl) (Steps.refl _) (a := a390) (argsL := [(.ref a392), (.ref a348)]) (rest := [(.ref a390)]) (lenOf own_pd21 rfl) rfl (by show 2 * 0 + _ ≤ _; exact Nat.le_of_eq rfl) (hb hby at_324) (fun _ _ => ⟨rfl, (rfl : T394.heap = T394.heap), Nat.le_of_ble_eq_true rfl, Nat.le_of_ble_eq_true rfl⟩)
        dsimp only [Pt.U, Pt.locs, Pt.cells, Pt.slots] at X395 l395 y395 z395 st395 hQ395
        subst l395 y395 z395
        obtain ⟨rfl, M395, K395, F395⟩ := hQ395
        have N395 := Fr.app N394 M395
        refine own_go (fun _ k => st395.trans k) ?_
        have C395 := C394.trans (CHr.keep K395 (allS (Safe.exa hZ.alike ((A390.ext E392).keep K394) (by decide) (by decide)) all0) C394.1)
        have z395 : T394.heap.size ≤ T395.heap.size := K395.1
        show own_E p e below _ T395 (mkF m 327 #[.val (.int i0), .val (.int i1), .val (.int i2), .val (.int i3), .val (.int (i0 &&& (3 : Int32))), .val (.int y0), .val (.int y1), .val (.int y2), .val (.int yq), .val (.int c0), .val (.int c1), .val (.int c2), .val (.int cq), .val (.ref s0), .val (.ref s1), .val (.ref s2), .val (.ref q0), .val (.ref a336), .val (.ref a337), .val (.ref a338), .val (.ref a339), .val (.ref a342), .val (.ref a345), .val (.ref a348), .unset, .unset, .unset, .unset, .unset, .unset, .unset] [(.ref a390)])
        refine own_astore X395 hx (hb hby at_327) rfl (l' := #[.val (.int i0), .val (.int i1), .val (.int i2), .val (.int i3), .val (.int (i0 &&& (3 : Int32))), .val (.int y0), .val (.int y1), .val (.int y2), .val (.int yq), .val (.int c0), .val (.int c1), .val (.int c2), .val (.int cq), .val (.ref s0), .val (.ref s1), .val (.ref s2), .val (.ref q0), .val (.ref a336), .val (.ref a337), .val (.ref a338), .val (.ref a339), .val (.ref a342), .val (.ref a345), .val (.ref a348), .val (.ref a390), .unset, .unset, .unset, .unset, .unset, .unset]) rfl ?_
        refine own_aload X395 hx (hb hby at_329) rfl rfl ?_
        refine own_aload X395 hx (hb hby at_331) rfl rfl ?_
        obtain ⟨cq396, kq396, qa396, qb396, qc396⟩ := isOf hZ (rfl : T395.heap = T395.heap) (((A390.ext E392).keep K394).keep K395)
        obtain ⟨_, _, ⟨T396, L396, k396, n396⟩, -, X396, ⟨Lc396, hQ396, l396, y396, z396⟩, st396⟩ := X395.virtualBack hx (y := (⟨"com/example/narrow_gate/narrowgate/Target", "parameter", "(Ljava/lang/String;)Ljava/util/Optional;"⟩ : MethodName)) (z := (⟨"com/example/narrow_gate/narrowgate/Target", "parameter", "(Ljava/lang/String;)Ljava/util/Optional;"⟩ : MethodName)) hown (mvT hZ (own_w hw 79 rfl)) (mvT hZ (own_w hw 80 rfl)) (notFace_of_selects (args := #[]) (mvT hZ (own_w hw 82 rfl))) (mvT hZ (own_w hw 82 rfl)) (mvT hZ (own_w hw 81 rfl)) (by decide) (backOf (W := 0) (own_rmM2 l Z a0 hw [] a390 q0 a348 d366 we a339 s0 a336 a342 s1 a337 kd366 yq (cq.toInt8.toInt32) G1 y0 (c0.toInt8.toInt32) y1 (c1.toInt8.toInt32) T395.heap n0 (by omega) (((((((((((((((((((((O0.keep K316 all0).keep K321 all0).keep K326 all0).keep K331 all0).keep K336 all0).keep K337 all0).keep K338 all0).ext E339).keep K341 (allS (by omega) all0)).ext E342).keep K344 (allS (by omega) all0)).ext E345).keep K347 (allS (by omega) all0)).ext E348).keep K350 (allS (by omega) all0)).keep K366 (allS (by omega) all0)).keep K388 (allS (by omega) (allS (by omega) all0))).ext E390).ext E392).keep K394 (allS (by omega) all0)).keep K395 (allS (by omega) all0)) SC P1 SE EX EF F395 ((((F388.ext E390).ext E392).keep K394 (ninS (by first | assumption | exact Ne.symm (by assumption) | exact own_ne (by omega)) nin0)).keep K395 (ninS (by first | assumption | exact Ne.symm (by assumption) | exact own_ne (by omega)) nin0)) ((((G388.ext E390).ext E392).keep K394 (ninS (by first | assumption | exact Ne.symm (by assumption) | exact own_ne (by omega)) nin0)).keep K395 (ninS (by first | assumption | exact Ne.symm (by assumption) | exact own_ne (by omega)) nin0)) ((((J388.ext E390).ext E392).keep K394 (ninS (by first | assumption | exact Ne.symm (by assumption) | exact own_ne (by omega)) nin0)).keep K395 (ninS (by first | assumption | exact Ne.symm (by assumption) | exact own_ne (by omega)) nin0)) (((((((A348.keep K350).keep K366).keep K388).ext E390).ext E392).keep K394).keep K395) ((((V388.ext E390).ext E392).keep K394 (ninS (by first | assumption | exact Ne.symm (by assumption) | exact own_ne (by omega)) nin0)).keep K395 (ninS (by first | assumption | exact Ne.symm (by assumption) | exact own_ne (by omega)) nin0)) (own_Sk F331 ((((((((((((((((((Keep.refl _ _).trans K336 all0).trans K337 all0).trans K338 all0).ext E339).trans K341 (allS (Or.inr (by omega)) all0)).ext E342).trans K344 (allS (Or.inr (by omega)) all0)).ext E345).trans K347 (allS (Or.inr (by omega)) all0)).ext E348).trans K350 (allS (Or.inr (by omega)) all0)).trans K366 (allS (Or.inr (by omega)) all0)).trans K388 (allS (Or.inr (by omega)) (allS (Or.inr (by omega)) all0))).ext E390).ext E392).trans K394 (allS (Or.inr (by omega)) all0)).trans K395 (allS (Or.inr (by omega)) all0))) t_yq (((((((((((((A339.keep K341).ext E342).keep K344).ext E345).keep K347).ext E348).keep K350).keep K366).keep K388).ext E390).ext E392).keep K394).keep K395) (F341.keep (((((((((((((Keep.refl _ _).ext E342).trans K344 (allS (Or.inr (by omega)) all0)).ext E345).trans K347 (allS (Or.inr (by omega)) all0)).ext E348).trans K350 (allS (Or.inr (by omega)) all0)).trans K366 (allS (Or.inr (by omega)) all0)).trans K388 (allS (Or.inr (by omega)) (allS (Or.inr (by omega)) all0))).ext E390).ext E392).trans K394 (allS (Or.inr (by omega)) all0)).trans K395 (allS (Or.inr (by omega)) all0)) nin0) (G341.keep (((((((((((((Keep.refl _ _).ext E342).trans K344 (allS (Or.inr (by omega)) all0)).ext E345).trans K347 (allS (Or.inr (by omega)) all0)).ext E348).trans K350 (allS (Or.inr (by omega)) all0)).trans K366 (allS (Or.inr (by omega)) all0)).trans K388 (allS (Or.inr (by omega)) (allS (Or.inr (by omega)) all0))).ext E390).ext E392).trans K394 (allS (Or.inr (by omega)) all0)).trans K395 (allS (Or.inr (by omega)) all0)) nin0) (own_Sk F316 (((((((((((((((((((((Keep.refl _ _).trans K321 all0).trans K326 all0).trans K331 all0).trans K336 all0).trans K337 all0).trans K338 all0).ext E339).trans K341 (allS (Or.inr (by omega)) all0)).ext E342).trans K344 (allS (Or.inr (by omega)) all0)).ext E345).trans K347 (allS (Or.inr (by omega)) all0)).ext E348).trans K350 (allS (Or.inr (by omega)) all0)).trans K366 (allS (Or.inr (by omega)) all0)).trans K388 (allS (Or.inr (by omega)) (allS (Or.inr (by omega)) all0))).ext E390).ext E392).trans K394 (allS (Or.inr (by omega)) all0)).trans K395 (allS (Or.inr (by omega)) all0))) t_y0 (((((((((((A342.keep K344).ext E345).keep K347).ext E348).keep K350).keep K366).keep K388).ext E390).ext E392).keep K394).keep K395) (F344.keep (((((((((((Keep.refl _ _).ext E345).trans K347 (allS (Or.inr (by omega)) all0)).ext E348).trans K350 (allS (Or.inr (by omega)) all0)).trans K366 (allS (Or.inr (by omega)) all0)).trans K388 (allS (Or.inr (by omega)) (allS (Or.inr (by omega)) all0))).ext E390).ext E392).trans K394 (allS (Or.inr (by omega)) all0)).trans K395 (allS (Or.inr (by omega)) all0)) nin0) (G344.keep (((((((((((Keep.refl _ _).ext E345).trans K347 (allS (Or.inr (by omega)) all0)).ext E348).trans K350 (allS (Or.inr (by omega)) all0)).trans K366 (allS (Or.inr (by omega)) all0)).trans K388 (allS (Or.inr (by omega)) (allS (Or.inr (by omega)) all0))).ext E390).ext E392).trans K394 (allS (Or.inr (by omega)) all0)).trans K395 (allS (Or.inr (by omega)) all0)) nin0) (own_Sk F321 ((((((((((((((((((((Keep.refl _ _).trans K326 all0).trans K331 all0).trans K336 all0).trans K337 all0).trans K338 all0).ext E339).trans K341 (allS (Or.inr (by omega)) all0)).ext E342).trans K344 (allS (Or.inr (by omega)) all0)).ext E345).trans K347 (allS (Or.inr (by omega)) all0)).ext E348).trans K350 (allS (Or.inr (by omega)) all0)).trans K366 (allS (Or.inr (by omega)) all0)).trans K388 (allS (Or.inr (by omega)) (allS (Or.inr (by omega)) all0))).ext E390).ext E392).trans K394 (allS (Or.inr (by omega)) all0)).trans K395 (allS (Or.inr (by omega)) all0))) t_y1) hZ (own_w hw 83 rfl) (own_w hw 70 rfl) (by decide) (by decide)) qa396 qc396 (g := (mkF m 333 #[.val (.int i0), .val (.int i1), .val (.int i2), .val (.int i3), .val (.int (i0 &&& (3 : Int32))), .val (.int y0), .val (.int y1), .val (.int y2), .val (.int yq), .val (.int c0), .val (.int c1), .val (.int c2), .val (.int cq), .val (.ref s0), .val (.ref s1), .val (.ref s2), .val (.ref q0), .val (.ref a336), .val (.ref a337), .val (.ref a338), .val (.ref a339), .val (.ref a342), .val (.ref a345), .val (.ref a348), .val (.ref a390), .unset, .unset, .unset, .unset, .unset, .unset] [(.ref q0), (.ref a390)])) rfl (by rw [hml]; rfl) (Steps.refl _) (argsL := [(.ref q0)]) (rest := []) (lenOf own_pd22 rfl) rfl (by show 2 * 0 + _ ≤ _; exact Nat.le_of_eq rfl) (hb hby at_333) (fun _ _ => ⟨rfl, (rfl : T395.heap = T395.heap), Nat.le_of_ble_eq_true rfl, Nat.le_of_ble_eq_true rfl⟩)
        dsimp only [Pt.U, Pt.locs, Pt.cells, Pt.slots] at X396 l396 y396 z396 st396 hQ396
        subst l396 y396 z396
        obtain ⟨a396, rfl, M396, K396, A396, F396⟩ := hQ396
        have N396 := Fr.app N395 M396
        refine own_go (fun _ k => st396.trans k) ?_
        have C396 := C395.trans (CHr.keep K396 all0 C395.1)
        have z396 : T395.heap.size ≤ T396.heap.size := K396.1
        show own_E p e below _ T396 (mkF m 336 #[.val (.int i0), .val (.int i1), .val (.int i2), .val (.int i3), .val (.int (i0 &&& (3 : Int32))), .val (.int y0), .val (.int y1), .val (.int y2), .val (.int yq), .val (.int c0), .val (.int c1), .val (.int c2), .val (.int cq), .val (.ref s0), .val (.ref s1), .val (.ref s2), .val (.ref q0), .val (.ref a336), .val (.ref a337), .val (.ref a338), .val (.ref a339), .val (.ref a342), .val (.ref a345), .val (.ref a348), .val (.ref a390), .unset, .unset, .unset, .unset, .unset, .unset] [(.ref a396)])
        have lt397 := own_lt (A396).lt
        refine own_astore X396 hx (hb hby at_336) rfl (l' := #[.val (.int i0), .val (.int i1), .val (.int i2), .val (.int i3), .val (.int (i0 &&& (3 : Int32))), .val (.int y0), .val (.int y1), .val (.int y2), .val (.int yq), .val (.int c0), .val (.int c1), .val (.int c2), .val (.int cq), .val (.ref s0), .val (.ref s1), .val (.ref s2), .val (.ref q0), .val (.ref a336), .val (.ref a337), .val (.ref a338), .val (.ref a339), .val (.ref a342), .val (.ref a345), .val (.ref a348), .val (.ref a390), .val (.ref a396), .unset, .unset, .unset, .unset, .unset]) rfl ?_
        refine own_iload X396 hx (hb hby at_338) rfl ?_
        refine own_iload X396 hx (hb hby at_340) rfl ?_
        suffices hj398 : own_E p e below (own_PW s Z own_EL (own_Q0 n0) room_1.cells room_1.slots) T396 (mkF m 362 #[.val (.int i0), .val (.int i1), .val (.int i2), .val (.int i3), .val (.int (i0 &&& (3 : Int32))), .val (.int y0), .val (.int y1), .val (.int y2), .val (.int yq), .val (.int c0), .val (.int c1), .val (.int c2), .val (.int cq), .val (.ref s0), .val (.ref s1), .val (.ref s2), .val (.ref q0), .val (.ref a336), .val (.ref a337), .val (.ref a338), .val (.ref a339), .val (.ref a342), .val (.ref a345), .val (.ref a348), .val (.ref a390), .val (.ref a396), .unset, .unset, .unset, .unset, .unset] [(.int (own_m y0 yq c0 cq))]) from by
          by_cases ha : y0 = yq
          · skip
            refine own_icmpNo X396 hx (hb hby at_342) (XT.ii_ne_f ha) ?_
            show own_E p e below _ T396 (mkF m 345 #[.val (.int i0), .val (.int i1), .val (.int i2), .val (.int i3), .val (.int (i0 &&& (3 : Int32))), .val (.int y0), .val (.int y1), .val (.int y2), .val (.int yq), .val (.int c0), .val (.int c1), .val (.int c2), .val (.int cq), .val (.ref s0), .val (.ref s1), .val (.ref s2), .val (.ref q0), .val (.ref a336), .val (.ref a337), .val (.ref a338), .val (.ref a339), .val (.ref a342), .val (.ref a345), .val (.ref a348), .val (.ref a390), .val (.ref a396), .unset, .unset, .unset, .unset, .unset] [])
            refine own_iload X396 hx (hb hby at_345) rfl ?_
            by_cases hb2 : y0 = 0
            · skip
              refine own_ifNo X396 hx (hb hby at_347) (XT.i0_ne_f hb2) ?_
              show own_E p e below _ T396 (mkF m 350 #[.val (.int i0), .val (.int i1), .val (.int i2), .val (.int i3), .val (.int (i0 &&& (3 : Int32))), .val (.int y0), .val (.int y1), .val (.int y2), .val (.int yq), .val (.int c0), .val (.int c1), .val (.int c2), .val (.int cq), .val (.ref s0), .val (.ref s1), .val (.ref s2), .val (.ref q0), .val (.ref a336), .val (.ref a337), .val (.ref a338), .val (.ref a339), .val (.ref a342), .val (.ref a345), .val (.ref a348), .val (.ref a390), .val (.ref a396), .unset, .unset, .unset, .unset, .unset] [])
              refine own_iload X396 hx (hb hby at_350) rfl ?_
              refine own_iload X396 hx (hb hby at_352) rfl ?_
              by_cases hc2 : c0 = cq
              · skip
                refine own_icmpNo X396 hx (hb hby at_354) (XT.ii_ne_f hc2) ?_
                show own_E p e below _ T396 (mkF m 357 #[.val (.int i0), .val (.int i1), .val (.int i2), .val (.int i3), .val (.int (i0 &&& (3 : Int32))), .val (.int y0), .val (.int y1), .val (.int y2), .val (.int yq), .val (.int c0), .val (.int c1), .val (.int c2), .val (.int cq), .val (.ref s0), .val (.ref s1), .val (.ref s2), .val (.ref q0), .val (.ref a336), .val (.ref a337), .val (.ref a338), .val (.ref a339), .val (.ref a342), .val (.ref a345), .val (.ref a348), .val (.ref a390), .val (.ref a396), .unset, .unset, .unset, .unset, .unset] [])
                refine own_iconst X396 hx (hb hby at_357) (v := (1 : Int32)) (by decide) ?_
                refine own_goto X396 hx (hb hby at_358) 362 (by decide) (by decide) ?_
                show own_E p e below _ T396 (mkF m 362 #[.val (.int i0), .val (.int i1), .val (.int i2), .val (.int i3), .val (.int (i0 &&& (3 : Int32))), .val (.int y0), .val (.int y1), .val (.int y2), .val (.int yq), .val (.int c0), .val (.int c1), .val (.int c2), .val (.int cq), .val (.ref s0), .val (.ref s1), .val (.ref s2), .val (.ref q0), .val (.ref a336), .val (.ref a337), .val (.ref a338), .val (.ref a339), .val (.ref a342), .val (.ref a345), .val (.ref a348), .val (.ref a390), .val (.ref a396), .unset, .unset, .unset, .unset, .unset] [(.int (1 : Int32))])
                rw [(by rw [own_m, if_pos ha, if_pos hb2, if_pos hc2] : own_m y0 yq c0 cq = (1 : Int32))] at hj398
                exact hj398
              · skip
                refine own_icmpYes X396 hx (hb hby at_354) (XT.ii_ne_t hc2) 361 (by decide) (by decide) ?_
                show own_E p e below _ T396 (mkF m 361 #[.val (.int i0), .val (.int i1), .val (.int i2), .val (.int i3), .val (.int (i0 &&& (3 : Int32))), .val (.int y0), .val (.int y1), .val (.int y2), .val (.int yq), .val (.int c0), .val (.int c1), .val (.int c2), .val (.int cq), .val (.ref s0), .val (.ref s1), .val (.ref s2), .val (.ref q0), .val (.ref a336), .val (.ref a337), .val (.ref a338), .val (.ref a339), .val (.ref a342), .val (.ref a345), .val (.ref a348), .val (.ref a390), .val (.ref a396), .unset, .unset, .unset, .unset, .unset] [])
                refine own_iconst X396 hx (hb hby at_361) (v := (0 : Int32)) (by decide) ?_
                rw [(by rw [own_m, if_pos ha, if_pos hb2, if_neg hc2] : own_m y0 yq c0 cq = (0 : Int32))] at hj398
                exact hj398
            · skip
              refine own_ifYes X396 hx (hb hby at_347) (XT.i0_ne_t hb2) 357 (by decide) (by decide) ?_
              show own_E p e below _ T396 (mkF m 357 #[.val (.int i0), .val (.int i1), .val (.int i2), .val (.int i3), .val (.int (i0 &&& (3 : Int32))), .val (.int y0), .val (.int y1), .val (.int y2), .val (.int yq), .val (.int c0), .val (.int c1), .val (.int c2), .val (.int cq), .val (.ref s0), .val (.ref s1), .val (.ref s2), .val (.ref q0), .val (.ref a336), .val (.ref a337), .val (.ref a338), .val (.ref a339), .val (.ref a342), .val (.ref a345), .val (.ref a348), .val (.ref a390), .val (.ref a396), .unset, .unset, .unset, .unset, .unset] [])
              refine own_iconst X396 hx (hb hby at_357) (v := (1 : Int32)) (by decide) ?_
              refine own_goto X396 hx (hb hby at_358) 362 (by decide) (by decide) ?_
              show own_E p e below _ T396 (mkF m 362 #[.val (.int i0), .val (.int i1), .val (.int i2), .val (.int i3), .val (.int (i0 &&& (3 : Int32))), .val (.int y0), .val (.int y1), .val (.int y2), .val (.int yq), .val (.int c0), .val (.int c1), .val (.int c2), .val (.int cq), .val (.ref s0), .val (.ref s1), .val (.ref s2), .val (.ref q0), .val (.ref a336), .val (.ref a337), .val (.ref a338), .val (.ref a339), .val (.ref a342), .val (.ref a345), .val (.ref a348), .val (.ref a390), .val (.ref a396), .unset, .unset, .unset, .unset, .unset] [(.int (1 : Int32))])
              rw [(by rw [own_m, if_pos ha, if_neg hb2] : own_m y0 yq c0 cq = (1 : Int32))] at hj398
              exact hj398
          · skip
            refine own_icmpYes X396 hx (hb hby at_342) (XT.ii_ne_t ha) 361 (by decide) (by decide) ?_
            show own_E p e below _ T396 (mkF m 361 #[.val (.int i0), .val (.int i1), .val (.int i2), .val (.int i3), .val (.int (i0 &&& (3 : Int32))), .val (.int y0), .val (.int y1), .val (.int y2), .val (.int yq), .val (.int c0), .val (.int c1), .val (.int c2), .val (.int cq), .val (.ref s0), .val (.ref s1), .val (.ref s2), .val (.ref q0), .val (.ref a336), .val (.ref a337), .val (.ref a338), .val (.ref a339), .val (.ref a342), .val (.ref a345), .val (.ref a348), .val (.ref a390), .val (.ref a396), .unset, .unset, .unset, .unset, .unset] [])
            refine own_iconst X396 hx (hb hby at_361) (v := (0 : Int32)) (by decide) ?_
            rw [(by rw [own_m, if_neg ha] : own_m y0 yq c0 cq = (0 : Int32))] at hj398
            exact hj398
        have rel0 : own_seq y0 (c0.toInt8.toInt32) yq (cq.toInt8.toInt32) = own_m y0 yq c0 cq := by rw [← h_c0, ← h_cq]; exact own_rel _ _ _ _ t_y0 t_yq
        generalize h_m0 : own_m y0 yq c0 cq = m0 at rel0 ⊢
        show own_E p e below _ T396 (mkF m 362 #[.val (.int i0), .val (.int i1), .val (.int i2), .val (.int i3), .val (.int (i0 &&& (3 : Int32))), .val (.int y0), .val (.int y1), .val (.int y2), .val (.int yq), .val (.int c0), .val (.int c1), .val (.int c2), .val (.int cq), .val (.ref s0), .val (.ref s1), .val (.ref s2), .val (.ref q0), .val (.ref a336), .val (.ref a337), .val (.ref a338), .val (.ref a339), .val (.ref a342), .val (.ref a345), .val (.ref a348), .val (.ref a390), .val (.ref a396), .unset, .unset, .unset, .unset, .unset] [(.int m0)])
        refine own_istore X396 hx (hb hby at_362) (l' := #[.val (.int i0), .val (.int i1), .val (.int i2), .val (.int i3), .val (.int (i0 &&& (3 : Int32))), .val (.int y0), .val (.int y1), .val (.int y2), .val (.int yq), .val (.int c0), .val (.int c1), .val (.int c2), .val (.int cq), .val (.ref s0), .val (.ref s1), .val (.ref s2), .val (.ref q0), .val (.ref a336), .val (.ref a337), .val (.ref a338), .val (.ref a339), .val (.ref a342), .val (.ref a345), .val (.ref a348), .val (.ref a390), .val (.ref a396), .val (.int m0), .unset, .unset, .unset, .unset]) rfl ?_
        refine own_iload X396 hx (hb hby at_364) rfl ?_
        refine own_iload X396 hx (hb hby at_366) rfl ?_
        suffices hj399 : own_E p e below (own_PW s Z own_EL (own_Q0 n0) room_1.cells room_1.slots) T396 (mkF m 388 #[.val (.int i0), .val (.int i1), .val (.int i2), .val (.int i3), .val (.int (i0 &&& (3 : Int32))), .val (.int y0), .val (.int y1), .val (.int y2), .val (.int yq), .val (.int c0), .val (.int c1), .val (.int c2), .val (.int cq), .val (.ref s0), .val (.ref s1), .val (.ref s2), .val (.ref q0), .val (.ref a336), .val (.ref a337), .val (.ref a338), .val (.ref a339), .val (.ref a342), .val (.ref a345), .val (.ref a348), .val (.ref a390), .val (.ref a396), .val (.int m0), .unset, .unset, .unset, .unset] [(.int (own_m y1 yq c1 cq))]) from by
          by_cases ha : y1 = yq
          · skip
            refine own_icmpNo X396 hx (hb hby at_368) (XT.ii_ne_f ha) ?_
            show own_E p e below _ T396 (mkF m 371 #[.val (.int i0), .val (.int i1), .val (.int i2), .val (.int i3), .val (.int (i0 &&& (3 : Int32))), .val (.int y0), .val (.int y1), .val (.int y2), .val (.int yq), .val (.int c0), .val (.int c1), .val (.int c2), .val (.int cq), .val (.ref s0), .val (.ref s1), .val (.ref s2), .val (.ref q0), .val (.ref a336), .val (.ref a337), .val (.ref a338), .val (.ref a339), .val (.ref a342), .val (.ref a345), .val (.ref a348), .val (.ref a390), .val (.ref a396), .val (.int m0), .unset, .unset, .unset, .unset] [])
            refine own_iload X396 hx (hb hby at_371) rfl ?_
            by_cases hb2 : y1 = 0
            · skip
              refine own_ifNo X396 hx (hb hby at_373) (XT.i0_ne_f hb2) ?_
              show own_E p e below _ T396 (mkF m 376 #[.val (.int i0), .val (.int i1), .val (.int i2), .val (.int i3), .val (.int (i0 &&& (3 : Int32))), .val (.int y0), .val (.int y1), .val (.int y2), .val (.int yq), .val (.int c0), .val (.int c1), .val (.int c2), .val (.int cq), .val (.ref s0), .val (.ref s1), .val (.ref s2), .val (.ref q0), .val (.ref a336), .val (.ref a337), .val (.ref a338), .val (.ref a339), .val (.ref a342), .val (.ref a345), .val (.ref a348), .val (.ref a390), .val (.ref a396), .val (.int m0), .unset, .unset, .unset, .unset] [])
              refine own_iload X396 hx (hb hby at_376) rfl ?_
              refine own_iload X396 hx (hb hby at_378) rfl ?_
              by_cases hc2 : c1 = cq
              · skip
                refine own_icmpNo X396 hx (hb hby at_380) (XT.ii_ne_f hc2) ?_
                show own_E p e below _ T396 (mkF m 383 #[.val (.int i0), .val (.int i1), .val (.int i2), .val (.int i3), .val (.int (i0 &&& (3 : Int32))), .val (.int y0), .val (.int y1), .val (.int y2), .val (.int yq), .val (.int c0), .val (.int c1), .val (.int c2), .val (.int cq), .val (.ref s0), .val (.ref s1), .val (.ref s2), .val (.ref q0), .val (.ref a336), .val (.ref a337), .val (.ref a338), .val (.ref a339), .val (.ref a342), .val (.ref a345), .val (.ref a348), .val (.ref a390), .val (.ref a396), .val (.int m0), .unset, .unset, .unset, .unset] [])
                refine own_iconst X396 hx (hb hby at_383) (v := (1 : Int32)) (by decide) ?_
                refine own_goto X396 hx (hb hby at_384) 388 (by decide) (by decide) ?_
                show own_E p e below _ T396 (mkF m 388 #[.val (.int i0), .val (.int i1), .val (.int i2), .val (.int i3), .val (.int (i0 &&& (3 : Int32))), .val (.int y0), .val (.int y1), .val (.int y2), .val (.int yq), .val (.int c0), .val (.int c1), .val (.int c2), .val (.int cq), .val (.ref s0), .val (.ref s1), .val (.ref s2), .val (.ref q0), .val (.ref a336), .val (.ref a337), .val (.ref a338), .val (.ref a339), .val (.ref a342), .val (.ref a345), .val (.ref a348), .val (.ref a390), .val (.ref a396), .val (.int m0), .unset, .unset, .unset, .unset] [(.int (1 : Int32))])
                rw [(by rw [own_m, if_pos ha, if_pos hb2, if_pos hc2] : own_m y1 yq c1 cq = (1 : Int32))] at hj399
                exact hj399
              · skip
                refine own_icmpYes X396 hx (hb hby at_380) (XT.ii_ne_t hc2) 387 (by decide) (by decide) ?_
                show own_E p e below _ T396 (mkF m 387 #[.val (.int i0), .val (.int i1), .val (.int i2), .val (.int i3), .val (.int (i0 &&& (3 : Int32))), .val (.int y0), .val (.int y1), .val (.int y2), .val (.int yq), .val (.int c0), .val (.int c1), .val (.int c2), .val (.int cq), .val (.ref s0), .val (.ref s1), .val (.ref s2), .val (.ref q0), .val (.ref a336), .val (.ref a337), .val (.ref a338), .val (.ref a339), .val (.ref a342), .val (.ref a345), .val (.ref a348), .val (.ref a390), .val (.ref a396), .val (.int m0), .unset, .unset, .unset, .unset] [])
                refine own_iconst X396 hx (hb hby at_387) (v := (0 : Int32)) (by decide) ?_
                rw [(by rw [own_m, if_pos ha, if_pos hb2, if_neg hc2] : own_m y1 yq c1 cq = (0 : Int32))] at hj399
                exact hj399
            · skip
              refine own_ifYes X396 hx (hb hby at_373) (XT.i0_ne_t hb2) 383 (by decide) (by decide) ?_
              show own_E p e below _ T396 (mkF m 383 #[.val (.int i0), .val (.int i1), .val (.int i2), .val (.int i3), .val (.int (i0 &&& (3 : Int32))), .val (.int y0), .val (.int y1), .val (.int y2), .val (.int yq), .val (.int c0), .val (.int c1), .val (.int c2), .val (.int cq), .val (.ref s0), .val (.ref s1), .val (.ref s2), .val (.ref q0), .val (.ref a336), .val (.ref a337), .val (.ref a338), .val (.ref a339), .val (.ref a342), .val (.ref a345), .val (.ref a348), .val (.ref a390), .val (.ref a396), .val (.int m0), .unset, .unset, .unset, .unset] [])
              refine own_iconst X396 hx (hb hby at_383) (v := (1 : Int32)) (by decide) ?_
              refine own_goto X396 hx (hb hby at_384) 388 (by decide) (by decide) ?_
              show own_E p e below _ T396 (mkF m 388 #[.val (.int i0), .val (.int i1), .val (.int i2), .val (.int i3), .val (.int (i0 &&& (3 : Int32))), .val (.int y0), .val (.int y1), .val (.int y2), .val (.int yq), .val (.int c0), .val (.int c1), .val (.int c2), .val (.int cq), .val (.ref s0), .val (.ref s1), .val (.ref s2), .val (.ref q0), .val (.ref a336), .val (.ref a337), .val (.ref a338), .val (.ref a339), .val (.ref a342), .val (.ref a345), .val (.ref a348), .val (.ref a390), .val (.ref a396), .val (.int m0), .unset, .unset, .unset, .unset] [(.int (1 : Int32))])
              rw [(by rw [own_m, if_pos ha, if_neg hb2] : own_m y1 yq c1 cq = (1 : Int32))] at hj399
              exact hj399
          · skip
            refine own_icmpYes X396 hx (hb hby at_368) (XT.ii_ne_t ha) 387 (by decide) (by decide) ?_
            show own_E p e below _ T396 (mkF m 387 #[.val (.int i0), .val (.int i1), .val (.int i2), .val (.int i3), .val (.int (i0 &&& (3 : Int32))), .val (.int y0), .val (.int y1), .val (.int y2), .val (.int yq), .val (.int c0), .val (.int c1), .val (.int c2), .val (.int cq), .val (.ref s0), .val (.ref s1), .val (.ref s2), .val (.ref q0), .val (.ref a336), .val (.ref a337), .val (.ref a338), .val (.ref a339), .val (.ref a342), .val (.ref a345), .val (.ref a348), .val (.ref a390), .val (.ref a396), .val (.int m0), .unset, .unset, .unset, .unset] [])
            refine own_iconst X396 hx (hb hby at_387) (v := (0 : Int32)) (by decide) ?_
            rw [(by rw [own_m, if_neg ha] : own_m y1 yq c1 cq = (0 : Int32))] at hj399
            exact hj399
        have rel1 : own_seq y1 (c1.toInt8.toInt32) yq (cq.toInt8.toInt32) = own_m y1 yq c1 cq := by rw [← h_c1, ← h_cq]; exact own_rel _ _ _ _ t_y1 t_yq
        generalize h_m1 : own_m y1 yq c1 cq = m1 at rel1 ⊢
        show own_E p e below _ T396 (mkF m 388 #[.val (.int i0), .val (.int i1), .val (.int i2), .val (.int i3), .val (.int (i0 &&& (3 : Int32))), .val (.int y0), .val (.int y1), .val (.int y2), .val (.int yq), .val (.int c0), .val (.int c1), .val (.int c2), .val (.int cq), .val (.ref s0), .val (.ref s1), .val (.ref s2), .val (.ref q0), .val (.ref a336), .val (.ref a337), .val (.ref a338), .val (.ref a339), .val (.ref a342), .val (.ref a345), .val (.ref a348), .val (.ref a390), .val (.ref a396), .val (.int m0), .unset, .unset, .unset, .unset] [(.int m1)])
        refine own_istore X396 hx (hb hby at_388) (l' := #[.val (.int i0), .val (.int i1), .val (.int i2), .val (.int i3), .val (.int (i0 &&& (3 : Int32))), .val (.int y0), .val (.int y1), .val (.int y2), .val (.int yq), .val (.int c0), .val (.int c1), .val (.int c2), .val (.int cq), .val (.ref s0), .val (.ref s1), .val (.ref s2), .val (.ref q0), .val (.ref a336), .val (.ref a337), .val (.ref a338), .val (.ref a339), .val (.ref a342), .val (.ref a345), .val (.ref a348), .val (.ref a390), .val (.ref a396), .val (.int m0), .val (.int m1), .unset, .unset, .unset]) rfl ?_
        refine own_iload X396 hx (hb hby at_390) rfl ?_
        refine own_iload X396 hx (hb hby at_392) rfl ?_
        suffices hj400 : own_E p e below (own_PW s Z own_EL (own_Q0 n0) room_1.cells room_1.slots) T396 (mkF m 414 #[.val (.int i0), .val (.int i1), .val (.int i2), .val (.int i3), .val (.int (i0 &&& (3 : Int32))), .val (.int y0), .val (.int y1), .val (.int y2), .val (.int yq), .val (.int c0), .val (.int c1), .val (.int c2), .val (.int cq), .val (.ref s0), .val (.ref s1), .val (.ref s2), .val (.ref q0), .val (.ref a336), .val (.ref a337), .val (.ref a338), .val (.ref a339), .val (.ref a342), .val (.ref a345), .val (.ref a348), .val (.ref a390), .val (.ref a396), .val (.int m0), .val (.int m1), .unset, .unset, .unset] [(.int (own_m y2 yq c2 cq))]) from by
          by_cases ha : y2 = yq
          · skip
            refine own_icmpNo X396 hx (hb hby at_394) (XT.ii_ne_f ha) ?_
            show own_E p e below _ T396 (mkF m 397 #[.val (.int i0), .val (.int i1), .val (.int i2), .val (.int i3), .val (.int (i0 &&& (3 : Int32))), .val (.int y0), .val (.int y1), .val (.int y2), .val (.int yq), .val (.int c0), .val (.int c1), .val (.int c2), .val (.int cq), .val (.ref s0), .val (.ref s1), .val (.ref s2), .val (.ref q0), .val (.ref a336), .val (.ref a337), .val (.ref a338), .val (.ref a339), .val (.ref a342), .val (.ref a345), .val (.ref a348), .val (.ref a390), .val (.ref a396), .val (.int m0), .val (.int m1), .unset, .unset, .unset] [])
            refine own_iload X396 hx (hb hby at_397) rfl ?_
            by_cases hb2 : y2 = 0
            · skip
              refine own_ifNo X396 hx (hb hby at_399) (XT.i0_ne_f hb2) ?_
              show own_E p e below _ T396 (mkF m 402 #[.val (.int i0), .val (.int i1), .val (.int i2), .val (.int i3), .val (.int (i0 &&& (3 : Int32))), .val (.int y0), .val (.int y1), .val (.int y2), .val (.int yq), .val (.int c0), .val (.int c1), .val (.int c2), .val (.int cq), .val (.ref s0), .val (.ref s1), .val (.ref s2), .val (.ref q0), .val (.ref a336), .val (.ref a337), .val (.ref a338), .val (.ref a339), .val (.ref a342), .val (.ref a345), .val (.ref a348), .val (.ref a390), .val (.ref a396), .val (.int m0), .val (.int m1), .unset, .unset, .unset] [])
              refine own_iload X396 hx (hb hby at_402) rfl ?_
              refine own_iload X396 hx (hb hby at_404) rfl ?_
              by_cases hc2 : c2 = cq
              · skip
                refine own_icmpNo X396 hx (hb hby at_406) (XT.ii_ne_f hc2) ?_
                show own_E p e below _ T396 (mkF m 409 #[.val (.int i0), .val (.int i1), .val (.int i2), .val (.int i3), .val (.int (i0 &&& (3 : Int32))), .val (.int y0), .val (.int y1), .val (.int y2), .val (.int yq), .val (.int c0), .val (.int c1), .val (.int c2), .val (.int cq), .val (.ref s0), .val (.ref s1), .val (.ref s2), .val (.ref q0), .val (.ref a336), .val (.ref a337), .val (.ref a338), .val (.ref a339), .val (.ref a342), .val (.ref a345), .val (.ref a348), .val (.ref a390), .val (.ref a396), .val (.int m0), .val (.int m1), .unset, .unset, .unset] [])
                refine own_iconst X396 hx (hb hby at_409) (v := (1 : Int32)) (by decide) ?_
                refine own_goto X396 hx (hb hby at_410) 414 (by decide) (by decide) ?_
                show own_E p e below _ T396 (mkF m 414 #[.val (.int i0), .val (.int i1), .val (.int i2), .val (.int i3), .val (.int (i0 &&& (3 : Int32))), .val (.int y0), .val (.int y1), .val (.int y2), .val (.int yq), .val (.int c0), .val (.int c1), .val (.int c2), .val (.int cq), .val (.ref s0), .val (.ref s1), .val (.ref s2), .val (.ref q0), .val (.ref a336), .val (.ref a337), .val (.ref a338), .val (.ref a339), .val (.ref a342), .val (.ref a345), .val (.ref a348), .val (.ref a390), .val (.ref a396), .val (.int m0), .val (.int m1), .unset, .unset, .unset] [(.int (1 : Int32))])
                rw [(by rw [own_m, if_pos ha, if_pos hb2, if_pos hc2] : own_m y2 yq c2 cq = (1 : Int32))] at hj400
                exact hj400
              · skip
                refine own_icmpYes X396 hx (hb hby at_406) (XT.ii_ne_t hc2) 413 (by decide) (by decide) ?_
                show own_E p e below _ T396 (mkF m 413 #[.val (.int i0), .val (.int i1), .val (.int i2), .val (.int i3), .val (.int (i0 &&& (3 : Int32))), .val (.int y0), .val (.int y1), .val (.int y2), .val (.int yq), .val (.int c0), .val (.int c1), .val (.int c2), .val (.int cq), .val (.ref s0), .val (.ref s1), .val (.ref s2), .val (.ref q0), .val (.ref a336), .val (.ref a337), .val (.ref a338), .val (.ref a339), .val (.ref a342), .val (.ref a345), .val (.ref a348), .val (.ref a390), .val (.ref a396), .val (.int m0), .val (.int m1), .unset, .unset, .unset] [])
                refine own_iconst X396 hx (hb hby at_413) (v := (0 : Int32)) (by decide) ?_
                rw [(by rw [own_m, if_pos ha, if_pos hb2, if_neg hc2] : own_m y2 yq c2 cq = (0 : Int32))] at hj400
                exact hj400
            · skip
              refine own_ifYes X396 hx (hb hby at_399) (XT.i0_ne_t hb2) 409 (by decide) (by decide) ?_
              show own_E p e below _ T396 (mkF m 409 #[.val (.int i0), .val (.int i1), .val (.int i2), .val (.int i3), .val (.int (i0 &&& (3 : Int32))), .val (.int y0), .val (.int y1), .val (.int y2), .val (.int yq), .val (.int c0), .val (.int c1), .val (.int c2), .val (.int cq), .val (.ref s0), .val (.ref s1), .val (.ref s2), .val (.ref q0), .val (.ref a336), .val (.ref a337), .val (.ref a338), .val (.ref a339), .val (.ref a342), .val (.ref a345), .val (.ref a348), .val (.ref a390), .val (.ref a396), .val (.int m0), .val (.int m1), .unset, .unset, .unset] [])
              refine own_iconst X396 hx (hb hby at_409) (v := (1 : Int32)) (by decide) ?_
              refine own_goto X396 hx (hb hby at_410) 414 (by decide) (by decide) ?_
              show own_E p e below _ T396 (mkF m 414 #[.val (.int i0), .val (.int i1), .val (.int i2), .val (.int i3), .val (.int (i0 &&& (3 : Int32))), .val (.int y0), .val (.int y1), .val (.int y2), .val (.int yq), .val (.int c0), .val (.int c1), .val (.int c2), .val (.int cq), .val (.ref s0), .val (.ref s1), .val (.ref s2), .val (.ref q0), .val (.ref a336), .val (.ref a337), .val (.ref a338), .val (.ref a339), .val (.ref a342), .val (.ref a345), .val (.ref a348), .val (.ref a390), .val (.ref a396), .val (.int m0), .val (.int m1), .unset, .unset, .unset] [(.int (1 : Int32))])
              rw [(by rw [own_m, if_pos ha, if_neg hb2] : own_m y2 yq c2 cq = (1 : Int32))] at hj400
              exact hj400
          · skip
            refine own_icmpYes X396 hx (hb hby at_394) (XT.ii_ne_t ha) 413 (by decide) (by decide) ?_
            show own_E p e below _ T396 (mkF m 413 #[.val (.int i0), .val (.int i1), .val (.int i2), .val (.int i3), .val (.int (i0 &&& (3 : Int32))), .val (.int y0), .val (.int y1), .val (.int y2), .val (.int yq), .val (.int c0), .val (.int c1), .val (.int c2), .val (.int cq), .val (.ref s0), .val (.ref s1), .val (.ref s2), .val (.ref q0), .val (.ref a336), .val (.ref a337), .val (.ref a338), .val (.ref a339), .val (.ref a342), .val (.ref a345), .val (.ref a348), .val (.ref a390), .val (.ref a396), .val (.int m0), .val (.int m1), .unset, .unset, .unset] [])
            refine own_iconst X396 hx (hb hby at_413) (v := (0 : Int32)) (by decide) ?_
            rw [(by rw [own_m, if_neg ha] : own_m y2 yq c2 cq = (0 : Int32))] at hj400
            exact hj400
        have rel2 : own_seq y2 (c2.toInt8.toInt32) yq (cq.toInt8.toInt32) = own_m y2 yq c2 cq := by rw [← h_c2, ← h_cq]; exact own_rel _ _ _ _ t_y2 t_yq
        generalize h_m2 : own_m y2 yq c2 cq = m2 at rel2 ⊢
        show own_E p e below _ T396 (mkF m 414 #[.val (.int i0), .val (.int i1), .val (.int i2), .val (.int i3), .val (.int (i0 &&& (3 : Int32))), .val (.int y0), .val (.int y1), .val (.int y2), .val (.int yq), .val (.int c0), .val (.int c1), .val (.int c2), .val (.int cq), .val (.ref s0), .val (.ref s1), .val (.ref s2), .val (.ref q0), .val (.ref a336), .val (.ref a337), .val (.ref a338), .val (.ref a339), .val (.ref a342), .val (.ref a345), .val (.ref a348), .val (.ref a390), .val (.ref a396), .val (.int m0), .val (.int m1), .unset, .unset, .unset] [(.int m2)])
        refine own_istore X396 hx (hb hby at_414) (l' := #[.val (.int i0), .val (.int i1), .val (.int i2), .val (.int i3), .val (.int (i0 &&& (3 : Int32))), .val (.int y0), .val (.int y1), .val (.int y2), .val (.int yq), .val (.int c0), .val (.int c1), .val (.int c2), .val (.int cq), .val (.ref s0), .val (.ref s1), .val (.ref s2), .val (.ref q0), .val (.ref a336), .val (.ref a337), .val (.ref a338), .val (.ref a339), .val (.ref a342), .val (.ref a345), .val (.ref a348), .val (.ref a390), .val (.ref a396), .val (.int m0), .val (.int m1), .val (.int m2), .unset, .unset]) rfl ?_
        refine own_iload X396 hx (hb hby at_416) rfl ?_
        refine own_iconst X396 hx (hb hby at_418) (v := (2 : Int32)) (by decide) ?_
        refine own_icmpYes X396 hx (hb hby at_419) (XT.ii_le_t h2c) 437 (by decide) (by decide) ?_
        show own_E p e below _ T396 (mkF m 437 #[.val (.int i0), .val (.int i1), .val (.int i2), .val (.int i3), .val (.int (i0 &&& (3 : Int32))), .val (.int y0), .val (.int y1), .val (.int y2), .val (.int yq), .val (.int c0), .val (.int c1), .val (.int c2), .val (.int cq), .val (.ref s0), .val (.ref s1), .val (.ref s2), .val (.ref q0), .val (.ref a336), .val (.ref a337), .val (.ref a338), .val (.ref a339), .val (.ref a342), .val (.ref a345), .val (.ref a348), .val (.ref a390), .val (.ref a396), .val (.int m0), .val (.int m1), .val (.int m2), .unset, .unset] [])
        refine own_iload X396 hx (hb hby at_437) rfl ?_
        refine own_iconst X396 hx (hb hby at_439) (v := (1 : Int32)) (by decide) ?_
        refine own_icmpNo X396 hx (hb hby at_440) (XT.ii_le_f h1c) ?_
        show own_E p e below _ T396 (mkF m 443 #[.val (.int i0), .val (.int i1), .val (.int i2), .val (.int i3), .val (.int (i0 &&& (3 : Int32))), .val (.int y0), .val (.int y1), .val (.int y2), .val (.int yq), .val (.int c0), .val (.int c1), .val (.int c2), .val (.int cq), .val (.ref s0), .val (.ref s1), .val (.ref s2), .val (.ref q0), .val (.ref a336), .val (.ref a337), .val (.ref a338), .val (.ref a339), .val (.ref a342), .val (.ref a345), .val (.ref a348), .val (.ref a390), .val (.ref a396), .val (.int m0), .val (.int m1), .val (.int m2), .unset, .unset] [])
        refine own_iload X396 hx (hb hby at_443) rfl ?_
        by_cases hm1 : m1 = 0
        · skip
          refine own_ifYes X396 hx (hb hby at_445) (XT.i0_eq_t hm1) 458 (by decide) (by decide) ?_
          show own_E p e below _ T396 (mkF m 458 #[.val (.int i0), .val (.int i1), .val (.int i2), .val (.int i3), .val (.int (i0 &&& (3 : Int32))), .val (.int y0), .val (.int y1), .val (.int y2), .val (.int yq), .val (.int c0), .val (.int c1), .val (.int c2), .val (.int cq), .val (.ref s0), .val (.ref s1), .val (.ref s2), .val (.ref q0), .val (.ref a336), .val (.ref a337), .val (.ref a338), .val (.ref a339), .val (.ref a342), .val (.ref a345), .val (.ref a348), .val (.ref a390), .val (.ref a396), .val (.int m0), .val (.int m1), .val (.int m2), .unset, .unset] [])
          refine own_iload X396 hx (hb hby at_458) rfl ?_
          refine own_ifNo X396 hx (hb hby at_460) (XT.i0_le_f h0c) ?_
          show own_E p e below _ T396 (mkF m 463 #[.val (.int i0), .val (.int i1), .val (.int i2), .val (.int i3), .val (.int (i0 &&& (3 : Int32))), .val (.int y0), .val (.int y1), .val (.int y2), .val (.int yq), .val (.int c0), .val (.int c1), .val (.int c2), .val (.int cq), .val (.ref s0), .val (.ref s1), .val (.ref s2), .val (.ref q0), .val (.ref a336), .val (.ref a337), .val (.ref a338), .val (.ref a339), .val (.ref a342), .val (.ref a345), .val (.ref a348), .val (.ref a390), .val (.ref a396), .val (.int m0), .val (.int m1), .val (.int m2), .unset, .unset] [])
          refine own_iload X396 hx (hb hby at_463) rfl ?_
          by_cases hm0 : m0 = 0
          · skip
            refine own_ifYes X396 hx (hb hby at_465) (XT.i0_eq_t hm0) 478 (by decide) (by decide) ?_
            show own_E p e below _ T396 (mkF m 478 #[.val (.int i0), .val (.int i1), .val (.int i2), .val (.int i3), .val (.int (i0 &&& (3 : Int32))), .val (.int y0), .val (.int y1), .val (.int y2), .val (.int yq), .val (.int c0), .val (.int c1), .val (.int c2), .val (.int cq), .val (.ref s0), .val (.ref s1), .val (.ref s2), .val (.ref q0), .val (.ref a336), .val (.ref a337), .val (.ref a338), .val (.ref a339), .val (.ref a342), .val (.ref a345), .val (.ref a348), .val (.ref a390), .val (.ref a396), .val (.int m0), .val (.int m1), .val (.int m2), .unset, .unset] [])
            refine own_iconst X396 hx (hb hby at_478) (v := (0 : Int32)) (by decide) ?_
            refine own_istore X396 hx (hb hby at_479) (l' := #[.val (.int i0), .val (.int i1), .val (.int i2), .val (.int i3), .val (.int (i0 &&& (3 : Int32))), .val (.int y0), .val (.int y1), .val (.int y2), .val (.int yq), .val (.int c0), .val (.int c1), .val (.int c2), .val (.int cq), .val (.ref s0), .val (.ref s1), .val (.ref s2), .val (.ref q0), .val (.ref a336), .val (.ref a337), .val (.ref a338), .val (.ref a339), .val (.ref a342), .val (.ref a345), .val (.ref a348), .val (.ref a390), .val (.ref a396), .val (.int m0), .val (.int m1), .val (.int m2), .val (.int (0 : Int32)), .unset]) rfl ?_
            obtain ⟨a411, T411, h411, k411, b411, kc411, X411, e411, E411, hS, hk411, hZ, hown, A411, F411, G411, V411, ta411, tb411, D411, Lt411, Sf411, st411⟩ := ldcCH X396 hx hZ hown (own_w hw 127 rfl) wS (rfl : T396.heap = T396.heap) hS (by omega) hEL (by decide) C396.1 (vs := []) (z := 0) ⟨by decide, by decide +kernel⟩ (by decide) rfl (g := (mkF m 481 #[.val (.int i0), .val (.int i1), .val (.int i2), .val (.int i3), .val (.int (i0 &&& (3 : Int32))), .val (.int y0), .val (.int y1), .val (.int y2), .val (.int yq), .val (.int c0), .val (.int c1), .val (.int c2), .val (.int cq), .val (.ref s0), .val (.ref s1), .val (.ref s2), .val (.ref q0), .val (.ref a336), .val (.ref a337), .val (.ref a338), .val (.ref a339), .val (.ref a342), .val (.ref a345), .val (.ref a348), .val (.ref a390), .val (.ref a396), .val (.int m0), .val (.int m1), .val (.int m2), .val (.int (0 : Int32)), .unset] [])) rfl (hb hby at_481) (n := 0) (by decide) (by decide) (by decide) (by decide)
            have z411 : T396.heap.size ≤ h411.size := E411.1
            have C411 := C396.trans D411
            refine own_go st411 ?_
            have lt412 := own_lt (A411).lt
            have lt413 := own_lt (V411).lt
            show own_E p e below _ T411 (mkF m 483 #[.val (.int i0), .val (.int i1), .val (.int i2), .val (.int i3), .val (.int (i0 &&& (3 : Int32))), .val (.int y0), .val (.int y1), .val (.int y2), .val (.int yq), .val (.int c0), .val (.int c1), .val (.int c2), .val (.int cq), .val (.ref s0), .val (.ref s1), .val (.ref s2), .val (.ref q0), .val (.ref a336), .val (.ref a337), .val (.ref a338), .val (.ref a339), .val (.ref a342), .val (.ref a345), .val (.ref a348), .val (.ref a390), .val (.ref a396), .val (.int m0), .val (.int m1), .val (.int m2), .val (.int (0 : Int32)), .unset] [(.ref a411)])
            refine own_astore X411 hx (hb hby at_483) rfl (l' := #[.val (.int i0), .val (.int i1), .val (.int i2), .val (.int i3), .val (.int (i0 &&& (3 : Int32))), .val (.int y0), .val (.int y1), .val (.int y2), .val (.int yq), .val (.int c0), .val (.int c1), .val (.int c2), .val (.int cq), .val (.ref s0), .val (.ref s1), .val (.ref s2), .val (.ref q0), .val (.ref a336), .val (.ref a337), .val (.ref a338), .val (.ref a339), .val (.ref a342), .val (.ref a345), .val (.ref a348), .val (.ref a390), .val (.ref a396), .val (.int m0), .val (.int m1), .val (.int m2), .val (.int (0 : Int32)), .val (.ref a411)]) rfl ?_
            refine own_iload X411 hx (hb hby at_485) rfl ?_
            refine own_ifNo X411 hx (hb hby at_487) (by decide +kernel) ?_
            show own_E p e below _ T411 (mkF m 490 #[.val (.int i0), .val (.int i1), .val (.int i2), .val (.int i3), .val (.int (i0 &&& (3 : Int32))), .val (.int y0), .val (.int y1), .val (.int y2), .val (.int yq), .val (.int c0), .val (.int c1), .val (.int c2), .val (.int cq), .val (.ref s0), .val (.ref s1), .val (.ref s2), .val (.ref q0), .val (.ref a336), .val (.ref a337), .val (.ref a338), .val (.ref a339), .val (.ref a342), .val (.ref a345), .val (.ref a348), .val (.ref a390), .val (.ref a396), .val (.int m0), .val (.int m1), .val (.int m2), .val (.int (0 : Int32)), .val (.ref a411)] [])
            refine own_aload X411 hx (hb hby at_490) rfl rfl ?_
            have FR : Fld Z h411 a396 "java/util/Optional" "value" "Ljava/lang/Object;" .null := by have q := (F396.ext E411); rw [own_pick0 (rel1 ▸ hm1), own_pick0 (rel0 ▸ hm0)] at q; exact q
            obtain ⟨cq414, kq414, qa414, qb414, qc414⟩ := isOf hZ e411 (A396.ext E411)
            obtain ⟨_, _, ⟨T414, L414, k414, n414⟩, -, X414, ⟨Lc414, hQ414, l414, y414, z414⟩, st414⟩ := X411.virtualBack hx (y := (⟨"java/util/Optional", "isPresent", "()Z"⟩ : MethodName)) (z := (⟨"java/util/Optional", "isPresent", "()Z"⟩ : MethodName)) hown (mvT hZ (own_w hw 130 rfl)) (mvT hZ (own_w hw 131 rfl)) (notFace_of_selects (args := #[]) (mvT hZ (own_w hw 133 rfl))) (mvT hZ (own_w hw 133 rfl)) (mvT hZ (own_w hw 132 rfl)) (by decide) (backOf (W := 0) (own_rmP0 l Z a0 hw [] a396 h411 n0 (by omega) FR) hZ (own_w hw 134 rfl) (own_w hw 86 rfl) (by decide) (by decide)) qa414 qc414 (g := (mkF m 492 #[.val (.int i0), .val (.int i1), .val (.int i2), .val (.int i3), .val (.int (i0 &&& (3 : Int32))), .val (.int y0), .val (.int y1), .val (.int y2), .val (.int yq), .val (.int c0), .val (.int c1), .val (.int c2), .val (.int cq), .val (.ref s0), .val (.ref s1), .val (.ref s2), .val (.ref q0), .val (.ref a336), .val (.ref a337), .val (.ref a338), .val (.ref a339), .val (.ref a342), .val (.ref a345), .val (.ref a348), .val (.ref a390), .val (.ref a396), .val (.int m0), .val (.int m1), .val (.int m2), .val (.int (0 : Int32)), .val (.ref a411)] [(.ref a396)])) rfl (by rw [hml]; rfl) (Steps.refl _) (argsL := []) (rest := []) (lenOf own_pd14 rfl) rfl (by show 2 * 0 + _ ≤ _; exact Nat.le_of_eq rfl) (hb hby at_492) (fun _ _ => ⟨rfl, e411, Nat.le_of_ble_eq_true rfl, Nat.le_of_ble_eq_true rfl⟩)
            dsimp only [Pt.U, Pt.locs, Pt.cells, Pt.slots] at X414 l414 y414 z414 st414 hQ414
            subst l414 y414 z414
            obtain ⟨rfl, M414, e414⟩ := hQ414
            have N414 := Fr.app N396 M414
            refine own_go (fun _ k => st414.trans k) ?_
            show own_E p e below _ T414 (mkF m 495 #[.val (.int i0), .val (.int i1), .val (.int i2), .val (.int i3), .val (.int (i0 &&& (3 : Int32))), .val (.int y0), .val (.int y1), .val (.int y2), .val (.int yq), .val (.int c0), .val (.int c1), .val (.int c2), .val (.int cq), .val (.ref s0), .val (.ref s1), .val (.ref s2), .val (.ref q0), .val (.ref a336), .val (.ref a337), .val (.ref a338), .val (.ref a339), .val (.ref a342), .val (.ref a345), .val (.ref a348), .val (.ref a390), .val (.ref a396), .val (.int m0), .val (.int m1), .val (.int m2), .val (.int (0 : Int32)), .val (.ref a411)] [(.int (0 : Int32))])
            refine own_ifNo X414 hx (hb hby at_495) (by decide +kernel) ?_
            show own_E p e below _ T414 (mkF m 498 #[.val (.int i0), .val (.int i1), .val (.int i2), .val (.int i3), .val (.int (i0 &&& (3 : Int32))), .val (.int y0), .val (.int y1), .val (.int y2), .val (.int yq), .val (.int c0), .val (.int c1), .val (.int c2), .val (.int cq), .val (.ref s0), .val (.ref s1), .val (.ref s2), .val (.ref q0), .val (.ref a336), .val (.ref a337), .val (.ref a338), .val (.ref a339), .val (.ref a342), .val (.ref a345), .val (.ref a348), .val (.ref a390), .val (.ref a396), .val (.int m0), .val (.int m1), .val (.int m2), .val (.int (0 : Int32)), .val (.ref a411)] [])
            refine own_iconst X414 hx (hb hby at_498) (v := (1 : Int32)) (by decide) ?_
            refine own_goto X414 hx (hb hby at_499) 503 (by decide) (by decide) ?_
            show own_E p e below _ T414 (mkF m 503 #[.val (.int i0), .val (.int i1), .val (.int i2), .val (.int i3), .val (.int (i0 &&& (3 : Int32))), .val (.int y0), .val (.int y1), .val (.int y2), .val (.int yq), .val (.int c0), .val (.int c1), .val (.int c2), .val (.int cq), .val (.ref s0), .val (.ref s1), .val (.ref s2), .val (.ref q0), .val (.ref a336), .val (.ref a337), .val (.ref a338), .val (.ref a339), .val (.ref a342), .val (.ref a345), .val (.ref a348), .val (.ref a390), .val (.ref a396), .val (.int m0), .val (.int m1), .val (.int m2), .val (.int (0 : Int32)), .val (.ref a411)] [(.int (1 : Int32))])
            refine own_retNW X414 hx hS (by rw [e414]; omega) hZ hEL hh (by rw [e414]; exact C411) (t := .boolean) Bd.returns (by simp) hlk (hb hby at_503) (z' := (1 : Int32)) (by decide) (by decide) (by decide) ?_
            rw [e414]
            exact ⟨rfl, N414⟩
          · skip
            refine own_ifNo X396 hx (hb hby at_465) (XT.i0_eq_f hm0) ?_
            show own_E p e below _ T396 (mkF m 468 #[.val (.int i0), .val (.int i1), .val (.int i2), .val (.int i3), .val (.int (i0 &&& (3 : Int32))), .val (.int y0), .val (.int y1), .val (.int y2), .val (.int yq), .val (.int c0), .val (.int c1), .val (.int c2), .val (.int cq), .val (.ref s0), .val (.ref s1), .val (.ref s2), .val (.ref q0), .val (.ref a336), .val (.ref a337), .val (.ref a338), .val (.ref a339), .val (.ref a342), .val (.ref a345), .val (.ref a348), .val (.ref a390), .val (.ref a396), .val (.int m0), .val (.int m1), .val (.int m2), .unset, .unset] [])
            refine own_iconst X396 hx (hb hby at_468) (v := (1 : Int32)) (by decide) ?_
            refine own_istore X396 hx (hb hby at_469) (l' := #[.val (.int i0), .val (.int i1), .val (.int i2), .val (.int i3), .val (.int (i0 &&& (3 : Int32))), .val (.int y0), .val (.int y1), .val (.int y2), .val (.int yq), .val (.int c0), .val (.int c1), .val (.int c2), .val (.int cq), .val (.ref s0), .val (.ref s1), .val (.ref s2), .val (.ref q0), .val (.ref a336), .val (.ref a337), .val (.ref a338), .val (.ref a339), .val (.ref a342), .val (.ref a345), .val (.ref a348), .val (.ref a390), .val (.ref a396), .val (.int m0), .val (.int m1), .val (.int m2), .val (.int (1 : Int32)), .unset]) rfl ?_
            refine own_aload X396 hx (hb hby at_471) rfl rfl ?_
            refine own_astore X396 hx (hb hby at_473) rfl (l' := #[.val (.int i0), .val (.int i1), .val (.int i2), .val (.int i3), .val (.int (i0 &&& (3 : Int32))), .val (.int y0), .val (.int y1), .val (.int y2), .val (.int yq), .val (.int c0), .val (.int c1), .val (.int c2), .val (.int cq), .val (.ref s0), .val (.ref s1), .val (.ref s2), .val (.ref q0), .val (.ref a336), .val (.ref a337), .val (.ref a338), .val (.ref a339), .val (.ref a342), .val (.ref a345), .val (.ref a348), .val (.ref a390), .val (.ref a396), .val (.int m0), .val (.int m1), .val (.int m2), .val (.int (1 : Int32)), .val (.ref a336)]) rfl ?_
            refine own_goto X396 hx (hb hby at_475) 485 (by decide) (by decide) ?_
            show own_E p e below _ T396 (mkF m 485 #[.val (.int i0), .val (.int i1), .val (.int i2), .val (.int i3), .val (.int (i0 &&& (3 : Int32))), .val (.int y0), .val (.int y1), .val (.int y2), .val (.int yq), .val (.int c0), .val (.int c1), .val (.int c2), .val (.int cq), .val (.ref s0), .val (.ref s1), .val (.ref s2), .val (.ref q0), .val (.ref a336), .val (.ref a337), .val (.ref a338), .val (.ref a339), .val (.ref a342), .val (.ref a345), .val (.ref a348), .val (.ref a390), .val (.ref a396), .val (.int m0), .val (.int m1), .val (.int m2), .val (.int (1 : Int32)), .val (.ref a336)] [])
            refine own_iload X396 hx (hb hby at_485) rfl ?_
            refine own_ifYes X396 hx (hb hby at_487) (by decide +kernel) 504 (by decide) (by decide) ?_
            show own_E p e below _ T396 (mkF m 504 #[.val (.int i0), .val (.int i1), .val (.int i2), .val (.int i3), .val (.int (i0 &&& (3 : Int32))), .val (.int y0), .val (.int y1), .val (.int y2), .val (.int yq), .val (.int c0), .val (.int c1), .val (.int c2), .val (.int cq), .val (.ref s0), .val (.ref s1), .val (.ref s2), .val (.ref q0), .val (.ref a336), .val (.ref a337), .val (.ref a338), .val (.ref a339), .val (.ref a342), .val (.ref a345), .val (.ref a348), .val (.ref a390), .val (.ref a396), .val (.int m0), .val (.int m1), .val (.int m2), .val (.int (1 : Int32)), .val (.ref a336)] [])
            refine own_aload X396 hx (hb hby at_504) rfl rfl ?_
            have FR : Fld Z T396.heap a396 "java/util/Optional" "value" "Ljava/lang/Object;" (.ref a336) := by have q := F396; rw [own_pick0 (rel1 ▸ hm1), own_pick1 (rel0 ▸ hm0)] at q; exact q
            obtain ⟨cq406, kq406, qa406, qb406, qc406⟩ := isOf hZ (rfl : T396.heap = T396.heap) A396
            obtain ⟨_, _, ⟨T406, L406, k406, n406⟩, -, X406, ⟨Lc406, hQ406, l406, y406, z406⟩, st406⟩ := X396.virtualBack hx (y := (⟨"java/util/Optional", "isPresent", "()Z"⟩ : MethodName)) (z := (⟨"java/util/Optional", "isPresent", "()Z"⟩ : MethodName)) hown (mvT hZ (own_w hw 130 rfl)) (mvT hZ (own_w hw 131 rfl)) (notFace_of_selects (args := #[]) (mvT hZ (own_w hw 133 rfl))) (mvT hZ (own_w hw 133 rfl)) (mvT hZ (own_w hw 132 rfl)) (by decide) (backOf (W := 0) (own_rmP1 l Z a0 hw [] a396 a336 T396.heap n0 (by omega) FR) hZ (own_w hw 134 rfl) (own_w hw 86 rfl) (by decide) (by decide)) qa406 qc406 (g := (mkF m 506 #[.val (.int i0), .val (.int i1), .val (.int i2), .val (.int i3), .val (.int (i0 &&& (3 : Int32))), .val (.int y0), .val (.int y1), .val (.int y2), .val (.int yq), .val (.int c0), .val (.int c1), .val (.int c2), .val (.int cq), .val (.ref s0), .val (.ref s1), .val (.ref s2), .val (.ref q0), .val (.ref a336), .val (.ref a337), .val (.ref a338), .val (.ref a339), .val (.ref a342), .val (.ref a345), .val (.ref a348), .val (.ref a390), .val (.ref a396), .val (.int m0), .val (.int m1), .val (.int m2), .val (.int (1 : Int32)), .val (.ref a336)] [(.ref a396)])) rfl (by rw [hml]; rfl) (Steps.refl _) (argsL := []) (rest := []) (lenOf own_pd14 rfl) rfl (by show 2 * 0 + _ ≤ _; exact Nat.le_of_eq rfl) (hb hby at_506) (fun _ _ => ⟨rfl, (rfl : T396.heap = T396.heap), Nat.le_of_ble_eq_true rfl, Nat.le_of_ble_eq_true rfl⟩)
            dsimp only [Pt.U, Pt.locs, Pt.cells, Pt.slots] at X406 l406 y406 z406 st406 hQ406
            subst l406 y406 z406
            obtain ⟨rfl, M406, e406⟩ := hQ406
            have N406 := Fr.app N396 M406
            refine own_go (fun _ k => st406.trans k) ?_
            show own_E p e below _ T406 (mkF m 509 #[.val (.int i0), .val (.int i1), .val (.int i2), .val (.int i3), .val (.int (i0 &&& (3 : Int32))), .val (.int y0), .val (.int y1), .val (.int y2), .val (.int yq), .val (.int c0), .val (.int c1), .val (.int c2), .val (.int cq), .val (.ref s0), .val (.ref s1), .val (.ref s2), .val (.ref q0), .val (.ref a336), .val (.ref a337), .val (.ref a338), .val (.ref a339), .val (.ref a342), .val (.ref a345), .val (.ref a348), .val (.ref a390), .val (.ref a396), .val (.int m0), .val (.int m1), .val (.int m2), .val (.int (1 : Int32)), .val (.ref a336)] [(.int (1 : Int32))])
            refine own_ifNo X406 hx (hb hby at_509) (by decide +kernel) ?_
            show own_E p e below _ T406 (mkF m 512 #[.val (.int i0), .val (.int i1), .val (.int i2), .val (.int i3), .val (.int (i0 &&& (3 : Int32))), .val (.int y0), .val (.int y1), .val (.int y2), .val (.int yq), .val (.int c0), .val (.int c1), .val (.int c2), .val (.int cq), .val (.ref s0), .val (.ref s1), .val (.ref s2), .val (.ref q0), .val (.ref a336), .val (.ref a337), .val (.ref a338), .val (.ref a339), .val (.ref a342), .val (.ref a345), .val (.ref a348), .val (.ref a390), .val (.ref a396), .val (.int m0), .val (.int m1), .val (.int m2), .val (.int (1 : Int32)), .val (.ref a336)] [])
            refine own_aload X406 hx (hb hby at_512) rfl rfl ?_
            obtain ⟨cq407, kq407, qa407, qb407, qc407⟩ := isOf hZ e406 A396
            obtain ⟨_, _, ⟨T407, L407, k407, n407⟩, -, X407, ⟨Lc407, hQ407, l407, y407, z407⟩, st407⟩ := X406.virtualBack hx (y := (⟨"java/util/Optional", "get", "()Ljava/lang/Object;"⟩ : MethodName)) (z := (⟨"java/util/Optional", "get", "()Ljava/lang/Object;"⟩ : MethodName)) hown (mvT hZ (own_w hw 217 rfl)) (mvT hZ (own_w hw 218 rfl)) (notFace_of_selects (args := #[]) (mvT hZ (own_w hw 220 rfl))) (mvT hZ (own_w hw 220 rfl)) (mvT hZ (own_w hw 219 rfl)) (by decide) (backOf (W := 0) (own_rmOG l Z a0 hw [] a396 a336 T396.heap n0 (by omega) FR) hZ (own_w hw 221 rfl) (own_w hw 86 rfl) (by decide) (by decide)) qa407 qc407 (g := (mkF m 514 #[.val (.int i0), .val (.int i1), .val (.int i2), .val (.int i3), .val (.int (i0 &&& (3 : Int32))), .val (.int y0), .val (.int y1), .val (.int y2), .val (.int yq), .val (.int c0), .val (.int c1), .val (.int c2), .val (.int cq), .val (.ref s0), .val (.ref s1), .val (.ref s2), .val (.ref q0), .val (.ref a336), .val (.ref a337), .val (.ref a338), .val (.ref a339), .val (.ref a342), .val (.ref a345), .val (.ref a348), .val (.ref a390), .val (.ref a396), .val (.int m0), .val (.int m1), .val (.int m2), .val (.int (1 : Int32)), .val (.ref a336)] [(.ref a396)])) rfl (by rw [hml]; rfl) (Steps.refl _) (argsL := []) (rest := []) (lenOf own_pd15 rfl) rfl (by show 2 * 0 + _ ≤ _; exact Nat.le_of_eq rfl) (hb hby at_514) (fun _ _ => ⟨rfl, e406, Nat.le_of_ble_eq_true rfl, Nat.le_of_ble_eq_true rfl⟩)
            dsimp only [Pt.U, Pt.locs, Pt.cells, Pt.slots] at X407 l407 y407 z407 st407 hQ407
            subst l407 y407 z407
            obtain ⟨rfl, M407, e407⟩ := hQ407
            have N407 := Fr.app N406 M407
            refine own_go (fun _ k => st407.trans k) ?_
            show own_E p e below _ T407 (mkF m 517 #[.val (.int i0), .val (.int i1), .val (.int i2), .val (.int i3), .val (.int (i0 &&& (3 : Int32))), .val (.int y0), .val (.int y1), .val (.int y2), .val (.int yq), .val (.int c0), .val (.int c1), .val (.int c2), .val (.int cq), .val (.ref s0), .val (.ref s1), .val (.ref s2), .val (.ref q0), .val (.ref a336), .val (.ref a337), .val (.ref a338), .val (.ref a339), .val (.ref a342), .val (.ref a345), .val (.ref a348), .val (.ref a390), .val (.ref a396), .val (.int m0), .val (.int m1), .val (.int m2), .val (.int (1 : Int32)), .val (.ref a336)] [(.ref a336)])
            have lt408 := own_lt ((own_Sx (own_Sk F336 ((((((((((((((((((Keep.refl _ _).trans K337 all0).trans K338 all0).ext E339).trans K341 (allS (Or.inr (by omega)) all0)).ext E342).trans K344 (allS (Or.inr (by omega)) all0)).ext E345).trans K347 (allS (Or.inr (by omega)) all0)).ext E348).trans K350 (allS (Or.inr (by omega)) all0)).trans K366 (allS (Or.inr (by omega)) all0)).trans K388 (allS (Or.inr (by omega)) (allS (Or.inr (by omega)) all0))).ext E390).ext E392).trans K394 (allS (Or.inr (by omega)) all0)).trans K395 (allS (Or.inr (by omega)) all0)).trans K396 all0)))).lt
            obtain ⟨T409, X409, e409, st409⟩ := castY X407 hx hZ hown (own_w hw 222 rfl) e407 (Ins.self (own_Sx (own_Sk F336 ((((((((((((((((((Keep.refl _ _).trans K337 all0).trans K338 all0).ext E339).trans K341 (allS (Or.inr (by omega)) all0)).ext E342).trans K344 (allS (Or.inr (by omega)) all0)).ext E345).trans K347 (allS (Or.inr (by omega)) all0)).ext E348).trans K350 (allS (Or.inr (by omega)) all0)).trans K366 (allS (Or.inr (by omega)) all0)).trans K388 (allS (Or.inr (by omega)) (allS (Or.inr (by omega)) all0))).ext E390).ext E392).trans K394 (allS (Or.inr (by omega)) all0)).trans K395 (allS (Or.inr (by omega)) all0)).trans K396 all0)))) (g := (mkF m 517 #[.val (.int i0), .val (.int i1), .val (.int i2), .val (.int i3), .val (.int (i0 &&& (3 : Int32))), .val (.int y0), .val (.int y1), .val (.int y2), .val (.int yq), .val (.int c0), .val (.int c1), .val (.int c2), .val (.int cq), .val (.ref s0), .val (.ref s1), .val (.ref s2), .val (.ref q0), .val (.ref a336), .val (.ref a337), .val (.ref a338), .val (.ref a339), .val (.ref a342), .val (.ref a345), .val (.ref a348), .val (.ref a390), .val (.ref a396), .val (.int m0), .val (.int m1), .val (.int m2), .val (.int (1 : Int32)), .val (.ref a336)] [(.ref a336)])) rfl rfl (hb hby at_517)
            refine own_go st409 ?_
            show own_E p e below _ T409 (mkF m 520 #[.val (.int i0), .val (.int i1), .val (.int i2), .val (.int i3), .val (.int (i0 &&& (3 : Int32))), .val (.int y0), .val (.int y1), .val (.int y2), .val (.int yq), .val (.int c0), .val (.int c1), .val (.int c2), .val (.int cq), .val (.ref s0), .val (.ref s1), .val (.ref s2), .val (.ref q0), .val (.ref a336), .val (.ref a337), .val (.ref a338), .val (.ref a339), .val (.ref a342), .val (.ref a345), .val (.ref a348), .val (.ref a390), .val (.ref a396), .val (.int m0), .val (.int m1), .val (.int m2), .val (.int (1 : Int32)), .val (.ref a336)] [(.ref a336)])
            refine own_aload X409 hx (hb hby at_520) rfl rfl ?_
            obtain ⟨cq410, kq410, qa410, qb410, qc410⟩ := isOf hZ e409 (own_Sx (own_Sk F336 ((((((((((((((((((Keep.refl _ _).trans K337 all0).trans K338 all0).ext E339).trans K341 (allS (Or.inr (by omega)) all0)).ext E342).trans K344 (allS (Or.inr (by omega)) all0)).ext E345).trans K347 (allS (Or.inr (by omega)) all0)).ext E348).trans K350 (allS (Or.inr (by omega)) all0)).trans K366 (allS (Or.inr (by omega)) all0)).trans K388 (allS (Or.inr (by omega)) (allS (Or.inr (by omega)) all0))).ext E390).ext E392).trans K394 (allS (Or.inr (by omega)) all0)).trans K395 (allS (Or.inr (by omega)) all0)).trans K396 all0)))
            obtain ⟨_, _, ⟨T410, L410, k410, n410⟩, -, X410, ⟨Lc410, hQ410, l410, y410, z410⟩, st410⟩ := X409.virtualBack hx (y := (⟨"java/lang/String", "equals", "(Ljava/lang/Object;)Z"⟩ : MethodName)) (z := (⟨"java/lang/String", "equals", "(Ljava/lang/Object;)Z"⟩ : MethodName)) hown (mvT hZ (own_w hw 223 rfl)) (mvT hZ (own_w hw 191 rfl)) (notFace_of_selects (args := #[]) (mvT hZ (own_w hw 193 rfl))) (mvT hZ (own_w hw 193 rfl)) (mvT hZ (own_w hw 192 rfl)) (by decide) (backOf (W := 0) (own_rmEQ l Z a0 hw [] a336 a336 0 d0.toInt8.toInt32 0 d0.toInt8.toInt32 G1 T396.heap n0 (by omega) ((((((((((((((((((((((O0.keep K316 all0).keep K321 all0).keep K326 all0).keep K331 all0).keep K336 all0).keep K337 all0).keep K338 all0).ext E339).keep K341 (allS (by omega) all0)).ext E342).keep K344 (allS (by omega) all0)).ext E345).keep K347 (allS (by omega) all0)).ext E348).keep K350 (allS (by omega) all0)).keep K366 (allS (by omega) all0)).keep K388 (allS (by omega) (allS (by omega) all0))).ext E390).ext E392).keep K394 (allS (by omega) all0)).keep K395 (allS (by omega) all0)).keep K396 all0) SC P1 (own_Sk F336 ((((((((((((((((((Keep.refl _ _).trans K337 all0).trans K338 all0).ext E339).trans K341 (allS (Or.inr (by omega)) all0)).ext E342).trans K344 (allS (Or.inr (by omega)) all0)).ext E345).trans K347 (allS (Or.inr (by omega)) all0)).ext E348).trans K350 (allS (Or.inr (by omega)) all0)).trans K366 (allS (Or.inr (by omega)) all0)).trans K388 (allS (Or.inr (by omega)) (allS (Or.inr (by omega)) all0))).ext E390).ext E392).trans K394 (allS (Or.inr (by omega)) all0)).trans K395 (allS (Or.inr (by omega)) all0)).trans K396 all0)) (own_Sk F336 ((((((((((((((((((Keep.refl _ _).trans K337 all0).trans K338 all0).ext E339).trans K341 (allS (Or.inr (by omega)) all0)).ext E342).trans K344 (allS (Or.inr (by omega)) all0)).ext E345).trans K347 (allS (Or.inr (by omega)) all0)).ext E348).trans K350 (allS (Or.inr (by omega)) all0)).trans K366 (allS (Or.inr (by omega)) all0)).trans K388 (allS (Or.inr (by omega)) (allS (Or.inr (by omega)) all0))).ext E390).ext E392).trans K394 (allS (Or.inr (by omega)) all0)).trans K395 (allS (Or.inr (by omega)) all0)).trans K396 all0)) (Or.inl rfl) (Or.inl rfl)) hZ (own_w hw 194 rfl) (own_w hw 2 rfl) (by decide) (by decide)) qa410 qc410 (g := (mkF m 522 #[.val (.int i0), .val (.int i1), .val (.int i2), .val (.int i3), .val (.int (i0 &&& (3 : Int32))), .val (.int y0), .val (.int y1), .val (.int y2), .val (.int yq), .val (.int c0), .val (.int c1), .val (.int c2), .val (.int cq), .val (.ref s0), .val (.ref s1), .val (.ref s2), .val (.ref q0), .val (.ref a336), .val (.ref a337), .val (.ref a338), .val (.ref a339), .val (.ref a342), .val (.ref a345), .val (.ref a348), .val (.ref a390), .val (.ref a396), .val (.int m0), .val (.int m1), .val (.int m2), .val (.int (1 : Int32)), .val (.ref a336)] [(.ref a336), (.ref a336)])) rfl (by rw [hml]; rfl) (Steps.refl _) (argsL := [(.ref a336)]) (rest := []) (lenOf own_pd17 rfl) rfl (by show 2 * 0 + _ ≤ _; exact Nat.le_of_eq rfl) (hb hby at_522) (fun _ _ => ⟨rfl, e409, Nat.le_of_ble_eq_true rfl, Nat.le_of_ble_eq_true rfl⟩)
            dsimp only [Pt.U, Pt.locs, Pt.cells, Pt.slots] at X410 l410 y410 z410 st410 hQ410
            subst l410 y410 z410
            obtain ⟨rfl, M410, e410⟩ := hQ410
            have N410 := Fr.app N407 M410
            refine own_go (fun _ k => st410.trans k) ?_
            show own_E p e below _ T410 (mkF m 525 #[.val (.int i0), .val (.int i1), .val (.int i2), .val (.int i3), .val (.int (i0 &&& (3 : Int32))), .val (.int y0), .val (.int y1), .val (.int y2), .val (.int yq), .val (.int c0), .val (.int c1), .val (.int c2), .val (.int cq), .val (.ref s0), .val (.ref s1), .val (.ref s2), .val (.ref q0), .val (.ref a336), .val (.ref a337), .val (.ref a338), .val (.ref a339), .val (.ref a342), .val (.ref a345), .val (.ref a348), .val (.ref a390), .val (.ref a396), .val (.int m0), .val (.int m1), .val (.int m2), .val (.int (1 : Int32)), .val (.ref a336)] [(.int (own_seq 0 d0.toInt8.toInt32 0 d0.toInt8.toInt32))])
            refine own_ifNo X410 hx (hb hby at_525) (XT.i0_eq_f (by simp [own_seq])) ?_
            show own_E p e below _ T410 (mkF m 528 #[.val (.int i0), .val (.int i1), .val (.int i2), .val (.int i3), .val (.int (i0 &&& (3 : Int32))), .val (.int y0), .val (.int y1), .val (.int y2), .val (.int yq), .val (.int c0), .val (.int c1), .val (.int c2), .val (.int cq), .val (.ref s0), .val (.ref s1), .val (.ref s2), .val (.ref q0), .val (.ref a336), .val (.ref a337), .val (.ref a338), .val (.ref a339), .val (.ref a342), .val (.ref a345), .val (.ref a348), .val (.ref a390), .val (.ref a396), .val (.int m0), .val (.int m1), .val (.int m2), .val (.int (1 : Int32)), .val (.ref a336)] [])
            refine own_iconst X410 hx (hb hby at_528) (v := (1 : Int32)) (by decide) ?_
            refine own_goto X410 hx (hb hby at_529) 533 (by decide) (by decide) ?_
            show own_E p e below _ T410 (mkF m 533 #[.val (.int i0), .val (.int i1), .val (.int i2), .val (.int i3), .val (.int (i0 &&& (3 : Int32))), .val (.int y0), .val (.int y1), .val (.int y2), .val (.int yq), .val (.int c0), .val (.int c1), .val (.int c2), .val (.int cq), .val (.ref s0), .val (.ref s1), .val (.ref s2), .val (.ref q0), .val (.ref a336), .val (.ref a337), .val (.ref a338), .val (.ref a339), .val (.ref a342), .val (.ref a345), .val (.ref a348), .val (.ref a390), .val (.ref a396), .val (.int m0), .val (.int m1), .val (.int m2), .val (.int (1 : Int32)), .val (.ref a336)] [(.int (1 : Int32))])
            refine own_retNW X410 hx hS (by rw [e410]; omega) hZ hEL hh (by rw [e410]; exact C396) (t := .boolean) Bd.returns (by simp) hlk (hb hby at_533) (z' := (1 : Int32)) (by decide) (by decide) (by decide) ?_
            rw [e410]
            exact ⟨rfl, N410⟩
        · skip
          refine own_ifNo X396 hx (hb hby at_445) (XT.i0_eq_f hm1) ?_
          show own_E p e below _ T396 (mkF m 448 #[.val (.int i0), .val (.int i1), .val (.int i2), .val (.int i3), .val (.int (i0 &&& (3 : Int32))), .val (.int y0), .val (.int y1), .val (.int y2), .val (.int yq), .val (.int c0), .val (.int c1), .val (.int c2), .val (.int cq), .val (.ref s0), .val (.ref s1), .val (.ref s2), .val (.ref q0), .val (.ref a336), .val (.ref a337), .val (.ref a338), .val (.ref a339), .val (.ref a342), .val (.ref a345), .val (.ref a348), .val (.ref a390), .val (.ref a396), .val (.int m0), .val (.int m1), .val (.int m2), .unset, .unset] [])
          refine own_iconst X396 hx (hb hby at_448) (v := (1 : Int32)) (by decide) ?_
          refine own_istore X396 hx (hb hby at_449) (l' := #[.val (.int i0), .val (.int i1), .val (.int i2), .val (.int i3), .val (.int (i0 &&& (3 : Int32))), .val (.int y0), .val (.int y1), .val (.int y2), .val (.int yq), .val (.int c0), .val (.int c1), .val (.int c2), .val (.int cq), .val (.ref s0), .val (.ref s1), .val (.ref s2), .val (.ref q0), .val (.ref a336), .val (.ref a337), .val (.ref a338), .val (.ref a339), .val (.ref a342), .val (.ref a345), .val (.ref a348), .val (.ref a390), .val (.ref a396), .val (.int m0), .val (.int m1), .val (.int m2), .val (.int (1 : Int32)), .unset]) rfl ?_
          refine own_aload X396 hx (hb hby at_451) rfl rfl ?_
          refine own_astore X396 hx (hb hby at_453) rfl (l' := #[.val (.int i0), .val (.int i1), .val (.int i2), .val (.int i3), .val (.int (i0 &&& (3 : Int32))), .val (.int y0), .val (.int y1), .val (.int y2), .val (.int yq), .val (.int c0), .val (.int c1), .val (.int c2), .val (.int cq), .val (.ref s0), .val (.ref s1), .val (.ref s2), .val (.ref q0), .val (.ref a336), .val (.ref a337), .val (.ref a338), .val (.ref a339), .val (.ref a342), .val (.ref a345), .val (.ref a348), .val (.ref a390), .val (.ref a396), .val (.int m0), .val (.int m1), .val (.int m2), .val (.int (1 : Int32)), .val (.ref a337)]) rfl ?_
          refine own_goto X396 hx (hb hby at_455) 485 (by decide) (by decide) ?_
          show own_E p e below _ T396 (mkF m 485 #[.val (.int i0), .val (.int i1), .val (.int i2), .val (.int i3), .val (.int (i0 &&& (3 : Int32))), .val (.int y0), .val (.int y1), .val (.int y2), .val (.int yq), .val (.int c0), .val (.int c1), .val (.int c2), .val (.int cq), .val (.ref s0), .val (.ref s1), .val (.ref s2), .val (.ref q0), .val (.ref a336), .val (.ref a337), .val (.ref a338), .val (.ref a339), .val (.ref a342), .val (.ref a345), .val (.ref a348), .val (.ref a390), .val (.ref a396), .val (.int m0), .val (.int m1), .val (.int m2), .val (.int (1 : Int32)), .val (.ref a337)] [])
          refine own_iload X396 hx (hb hby at_485) rfl ?_
          refine own_ifYes X396 hx (hb hby at_487) (by decide +kernel) 504 (by decide) (by decide) ?_
          show own_E p e below _ T396 (mkF m 504 #[.val (.int i0), .val (.int i1), .val (.int i2), .val (.int i3), .val (.int (i0 &&& (3 : Int32))), .val (.int y0), .val (.int y1), .val (.int y2), .val (.int yq), .val (.int c0), .val (.int c1), .val (.int c2), .val (.int cq), .val (.ref s0), .val (.ref s1), .val (.ref s2), .val (.ref q0), .val (.ref a336), .val (.ref a337), .val (.ref a338), .val (.ref a339), .val (.ref a342), .val (.ref a345), .val (.ref a348), .val (.ref a390), .val (.ref a396), .val (.int m0), .val (.int m1), .val (.int m2), .val (.int (1 : Int32)), .val (.ref a337)] [])
          refine own_aload X396 hx (hb hby at_504) rfl rfl ?_
          have FR : Fld Z T396.heap a396 "java/util/Optional" "value" "Ljava/lang/Object;" (.ref a337) := by have q := F396; rw [own_pick1 (rel1 ▸ hm1)] at q; exact q
          obtain ⟨cq401, kq401, qa401, qb401, qc401⟩ := isOf hZ (rfl : T396.heap = T396.heap) A396
          obtain ⟨_, _, ⟨T401, L401, k401, n401⟩, -, X401, ⟨Lc401, hQ401, l401, y401, z401⟩, st401⟩ := X396.virtualBack hx (y := (⟨"java/util/Optional", "isPresent", "()Z"⟩ : MethodName)) (z := (⟨"java/util/Optional", "isPresent", "()Z"⟩ : MethodName)) hown (mvT hZ (own_w hw 130 rfl)) (mvT hZ (own_w hw 131 rfl)) (notFace_of_selects (args := #[]) (mvT hZ (own_w hw 133 rfl))) (mvT hZ (own_w hw 133 rfl)) (mvT hZ (own_w hw 132 rfl)) (by decide) (backOf (W := 0) (own_rmP1 l Z a0 hw [] a396 a337 T396.heap n0 (by omega) FR) hZ (own_w hw 134 rfl) (own_w hw 86 rfl) (by decide) (by decide)) qa401 qc401 (g := (mkF m 506 #[.val (.int i0), .val (.int i1), .val (.int i2), .val (.int i3), .val (.int (i0 &&& (3 : Int32))), .val (.int y0), .val (.int y1), .val (.int y2), .val (.int yq), .val (.int c0), .val (.int c1), .val (.int c2), .val (.int cq), .val (.ref s0), .val (.ref s1), .val (.ref s2), .val (.ref q0), .val (.ref a336), .val (.ref a337), .val (.ref a338), .val (.ref a339), .val (.ref a342), .val (.ref a345), .val (.ref a348), .val (.ref a390), .val (.ref a396), .val (.int m0), .val (.int m1), .val (.int m2), .val (.int (1 : Int32)), .val (.ref a337)] [(.ref a396)])) rfl (by rw [hml]; rfl) (Steps.refl _) (argsL := []) (rest := []) (lenOf own_pd14 rfl) rfl (by show 2 * 0 + _ ≤ _; exact Nat.le_of_eq rfl) (hb hby at_506) (fun _ _ => ⟨rfl, (rfl : T396.heap = T396.heap), Nat.le_of_ble_eq_true rfl, Nat.le_of_ble_eq_true rfl⟩)
          dsimp only [Pt.U, Pt.locs, Pt.cells, Pt.slots] at X401 l401 y401 z401 st401 hQ401
          subst l401 y401 z401
          obtain ⟨rfl, M401, e401⟩ := hQ401
          have N401 := Fr.app N396 M401
          refine own_go (fun _ k => st401.trans k) ?_
          show own_E p e below _ T401 (mkF m 509 #[.val (.int i0), .val (.int i1), .val (.int i2), .val (.int i3), .val (.int (i0 &&& (3 : Int32))), .val (.int y0), .val (.int y1), .val (.int y2), .val (.int yq), .val (.int c0), .val (.int c1), .val (.int c2), .val (.int cq), .val (.ref s0), .val (.ref s1), .val (.ref s2), .val (.ref q0), .val (.ref a336), .val (.ref a337), .val (.ref a338), .val (.ref a339), .val (.ref a342), .val (.ref a345), .val (.ref a348), .val (.ref a390), .val (.ref a396), .val (.int m0), .val (.int m1), .val (.int m2), .val (.int (1 : Int32)), .val (.ref a337)] [(.int (1 : Int32))])
          refine own_ifNo X401 hx (hb hby at_509) (by decide +kernel) ?_
          show own_E p e below _ T401 (mkF m 512 #[.val (.int i0), .val (.int i1), .val (.int i2), .val (.int i3), .val (.int (i0 &&& (3 : Int32))), .val (.int y0), .val (.int y1), .val (.int y2), .val (.int yq), .val (.int c0), .val (.int c1), .val (.int c2), .val (.int cq), .val (.ref s0), .val (.ref s1), .val (.ref s2), .val (.ref q0), .val (.ref a336), .val (.ref a337), .val (.ref a338), .val (.ref a339), .val (.ref a342), .val (.ref a345), .val (.ref a348), .val (.ref a390), .val (.ref a396), .val (.int m0), .val (.int m1), .val (.int m2), .val (.int (1 : Int32)), .val (.ref a337)] [])
          refine own_aload X401 hx (hb hby at_512) rfl rfl ?_
          obtain ⟨cq402, kq402, qa402, qb402, qc402⟩ := isOf hZ e401 A396
          obtain ⟨_, _, ⟨T402, L402, k402, n402⟩, -, X402, ⟨Lc402, hQ402, l402, y402, z402⟩, st402⟩ := X401.virtualBack hx (y := (⟨"java/util/Optional", "get", "()Ljava/lang/Object;"⟩ : MethodName)) (z := (⟨"java/util/Optional", "get", "()Ljava/lang/Object;"⟩ : MethodName)) hown (mvT hZ (own_w hw 217 rfl)) (mvT hZ (own_w hw 218 rfl)) (notFace_of_selects (args := #[]) (mvT hZ (own_w hw 220 rfl))) (mvT hZ (own_w hw 220 rfl)) (mvT hZ (own_w hw 219 rfl)) (by decide) (backOf (W := 0) (own_rmOG l Z a0 hw [] a396 a337 T396.heap n0 (by omega) FR) hZ (own_w hw 221 rfl) (own_w hw 86 rfl) (by decide) (by decide)) qa402 qc402 (g := (mkF m 514 #[.val (.int i0), .val (.int i1), .val (.int i2), .val (.int i3), .val (.int (i0 &&& (3 : Int32))), .val (.int y0), .val (.int y1), .val (.int y2), .val (.int yq), .val (.int c0), .val (.int c1), .val (.int c2), .val (.int cq), .val (.ref s0), .val (.ref s1), .val (.ref s2), .val (.ref q0), .val (.ref a336), .val (.ref a337), .val (.ref a338), .val (.ref a339), .val (.ref a342), .val (.ref a345), .val (.ref a348), .val (.ref a390), .val (.ref a396), .val (.int m0), .val (.int m1), .val (.int m2), .val (.int (1 : Int32)), .val (.ref a337)] [(.ref a396)])) rfl (by rw [hml]; rfl) (Steps.refl _) (argsL := []) (rest := []) (lenOf own_pd15 rfl) rfl (by show 2 * 0 + _ ≤ _; exact Nat.le_of_eq rfl) (hb hby at_514) (fun _ _ => ⟨rfl, e401, Nat.le_of_ble_eq_true rfl, Nat.le_of_ble_eq_true rfl⟩)
          dsimp only [Pt.U, Pt.locs, Pt.cells, Pt.slots] at X402 l402 y402 z402 st402 hQ402
          subst l402 y402 z402
          obtain ⟨rfl, M402, e402⟩ := hQ402
          have N402 := Fr.app N401 M402
          refine own_go (fun _ k => st402.trans k) ?_
          show own_E p e below _ T402 (mkF m 517 #[.val (.int i0), .val (.int i1), .val (.int i2), .val (.int i3), .val (.int (i0 &&& (3 : Int32))), .val (.int y0), .val (.int y1), .val (.int y2), .val (.int yq), .val (.int c0), .val (.int c1), .val (.int c2), .val (.int cq), .val (.ref s0), .val (.ref s1), .val (.ref s2), .val (.ref q0), .val (.ref a336), .val (.ref a337), .val (.ref a338), .val (.ref a339), .val (.ref a342), .val (.ref a345), .val (.ref a348), .val (.ref a390), .val (.ref a396), .val (.int m0), .val (.int m1), .val (.int m2), .val (.int (1 : Int32)), .val (.ref a337)] [(.ref a337)])
          have lt403 := own_lt ((own_Sx (own_Sk F337 (((((((((((((((((Keep.refl _ _).trans K338 all0).ext E339).trans K341 (allS (Or.inr (by omega)) all0)).ext E342).trans K344 (allS (Or.inr (by omega)) all0)).ext E345).trans K347 (allS (Or.inr (by omega)) all0)).ext E348).trans K350 (allS (Or.inr (by omega)) all0)).trans K366 (allS (Or.inr (by omega)) all0)).trans K388 (allS (Or.inr (by omega)) (allS (Or.inr (by omega)) all0))).ext E390).ext E392).trans K394 (allS (Or.inr (by omega)) all0)).trans K395 (allS (Or.inr (by omega)) all0)).trans K396 all0)))).lt
          obtain ⟨T404, X404, e404, st404⟩ := castY X402 hx hZ hown (own_w hw 222 rfl) e402 (Ins.self (own_Sx (own_Sk F337 (((((((((((((((((Keep.refl _ _).trans K338 all0).ext E339).trans K341 (allS (Or.inr (by omega)) all0)).ext E342).trans K344 (allS (Or.inr (by omega)) all0)).ext E345).trans K347 (allS (Or.inr (by omega)) all0)).ext E348).trans K350 (allS (Or.inr (by omega)) all0)).trans K366 (allS (Or.inr (by omega)) all0)).trans K388 (allS (Or.inr (by omega)) (allS (Or.inr (by omega)) all0))).ext E390).ext E392).trans K394 (allS (Or.inr (by omega)) all0)).trans K395 (allS (Or.inr (by omega)) all0)).trans K396 all0)))) (g := (mkF m 517 #[.val (.int i0), .val (.int i1), .val (.int i2), .val (.int i3), .val (.int (i0 &&& (3 : Int32))), .val (.int y0), .val (.int y1), .val (.int y2), .val (.int yq), .val (.int c0), .val (.int c1), .val (.int c2), .val (.int cq), .val (.ref s0), .val (.ref s1), .val (.ref s2), .val (.ref q0), .val (.ref a336), .val (.ref a337), .val (.ref a338), .val (.ref a339), .val (.ref a342), .val (.ref a345), .val (.ref a348), .val (.ref a390), .val (.ref a396), .val (.int m0), .val (.int m1), .val (.int m2), .val (.int (1 : Int32)), .val (.ref a337)] [(.ref a337)])) rfl rfl (hb hby at_517)
          refine own_go st404 ?_
          show own_E p e below _ T404 (mkF m 520 #[.val (.int i0), .val (.int i1), .val (.int i2), .val (.int i3), .val (.int (i0 &&& (3 : Int32))), .val (.int y0), .val (.int y1), .val (.int y2), .val (.int yq), .val (.int c0), .val (.int c1), .val (.int c2), .val (.int cq), .val (.ref s0), .val (.ref s1), .val (.ref s2), .val (.ref q0), .val (.ref a336), .val (.ref a337), .val (.ref a338), .val (.ref a339), .val (.ref a342), .val (.ref a345), .val (.ref a348), .val (.ref a390), .val (.ref a396), .val (.int m0), .val (.int m1), .val (.int m2), .val (.int (1 : Int32)), .val (.ref a337)] [(.ref a337)])
          refine own_aload X404 hx (hb hby at_520) rfl rfl ?_
          obtain ⟨cq405, kq405, qa405, qb405, qc405⟩ := isOf hZ e404 (own_Sx (own_Sk F337 (((((((((((((((((Keep.refl _ _).trans K338 all0).ext E339).trans K341 (allS (Or.inr (by omega)) all0)).ext E342).trans K344 (allS (Or.inr (by omega)) all0)).ext E345).trans K347 (allS (Or.inr (by omega)) all0)).ext E348).trans K350 (allS (Or.inr (by omega)) all0)).trans K366 (allS (Or.inr (by omega)) all0)).trans K388 (allS (Or.inr (by omega)) (allS (Or.inr (by omega)) all0))).ext E390).ext E392).trans K394 (allS (Or.inr (by omega)) all0)).trans K395 (allS (Or.inr (by omega)) all0)).trans K396 all0)))
          obtain ⟨_, _, ⟨T405, L405, k405, n405⟩, -, X405, ⟨Lc405, hQ405, l405, y405, z405⟩, st405⟩ := X404.virtualBack hx (y := (⟨"java/lang/String", "equals", "(Ljava/lang/Object;)Z"⟩ : MethodName)) (z := (⟨"java/lang/String", "equals", "(Ljava/lang/Object;)Z"⟩ : MethodName)) hown (mvT hZ (own_w hw 223 rfl)) (mvT hZ (own_w hw 191 rfl)) (notFace_of_selects (args := #[]) (mvT hZ (own_w hw 193 rfl))) (mvT hZ (own_w hw 193 rfl)) (mvT hZ (own_w hw 192 rfl)) (by decide) (backOf (W := 0) (own_rmEQ l Z a0 hw [] a337 a337 0 d1.toInt8.toInt32 0 d1.toInt8.toInt32 G1 T396.heap n0 (by omega) ((((((((((((((((((((((O0.keep K316 all0).keep K321 all0).keep K326 all0).keep K331 all0).keep K336 all0).keep K337 all0).keep K338 all0).ext E339).keep K341 (allS (by omega) all0)).ext E342).keep K344 (allS (by omega) all0)).ext E345).keep K347 (allS (by omega) all0)).ext E348).keep K350 (allS (by omega) all0)).keep K366 (allS (by omega) all0)).keep K388 (allS (by omega) (allS (by omega) all0))).ext E390).ext E392).keep K394 (allS (by omega) all0)).keep K395 (allS (by omega) all0)).keep K396 all0) SC P1 (own_Sk F337 (((((((((((((((((Keep.refl _ _).trans K338 all0).ext E339).trans K341 (allS (Or.inr (by omega)) all0)).ext E342).trans K344 (allS (Or.inr (by omega)) all0)).ext E345).trans K347 (allS (Or.inr (by omega)) all0)).ext E348).trans K350 (allS (Or.inr (by omega)) all0)).trans K366 (allS (Or.inr (by omega)) all0)).trans K388 (allS (Or.inr (by omega)) (allS (Or.inr (by omega)) all0))).ext E390).ext E392).trans K394 (allS (Or.inr (by omega)) all0)).trans K395 (allS (Or.inr (by omega)) all0)).trans K396 all0)) (own_Sk F337 (((((((((((((((((Keep.refl _ _).trans K338 all0).ext E339).trans K341 (allS (Or.inr (by omega)) all0)).ext E342).trans K344 (allS (Or.inr (by omega)) all0)).ext E345).trans K347 (allS (Or.inr (by omega)) all0)).ext E348).trans K350 (allS (Or.inr (by omega)) all0)).trans K366 (allS (Or.inr (by omega)) all0)).trans K388 (allS (Or.inr (by omega)) (allS (Or.inr (by omega)) all0))).ext E390).ext E392).trans K394 (allS (Or.inr (by omega)) all0)).trans K395 (allS (Or.inr (by omega)) all0)).trans K396 all0)) (Or.inl rfl) (Or.inl rfl)) hZ (own_w hw 194 rfl) (own_w hw 2 rfl) (by decide) (by decide)) qa405 qc405 (g := (mkF m 522 #[.val (.int i0), .val (.int i1), .val (.int i2), .val (.int i3), .val (.int (i0 &&& (3 : Int32))), .val (.int y0), .val (.int y1), .val (.int y2), .val (.int yq), .val (.int c0), .val (.int c1), .val (.int c2), .val (.int cq), .val (.ref s0), .val (.ref s1), .val (.ref s2), .val (.ref q0), .val (.ref a336), .val (.ref a337), .val (.ref a338), .val (.ref a339), .val (.ref a342), .val (.ref a345), .val (.ref a348), .val (.ref a390), .val (.ref a396), .val (.int m0), .val (.int m1), .val (.int m2), .val (.int (1 : Int32)), .val (.ref a337)] [(.ref a337), (.ref a337)])) rfl (by rw [hml]; rfl) (Steps.refl _) (argsL := [(.ref a337)]) (rest := []) (lenOf own_pd17 rfl) rfl (by show 2 * 0 + _ ≤ _; exact Nat.le_of_eq rfl) (hb hby at_522) (fun _ _ => ⟨rfl, e404, Nat.le_of_ble_eq_true rfl, Nat.le_of_ble_eq_true rfl⟩)
          dsimp only [Pt.U, Pt.locs, Pt.cells, Pt.slots] at X405 l405 y405 z405 st405 hQ405
          subst l405 y405 z405
          obtain ⟨rfl, M405, e405⟩ := hQ405
          have N405 := Fr.app N402 M405
          refine own_go (fun _ k => st405.trans k) ?_
          show own_E p e below _ T405 (mkF m 525 #[.val (.int i0), .val (.int i1), .val (.int i2), .val (.int i3), .val (.int (i0 &&& (3 : Int32))), .val (.int y0), .val (.int y1), .val (.int y2), .val (.int yq), .val (.int c0), .val (.int c1), .val (.int c2), .val (.int cq), .val (.ref s0), .val (.ref s1), .val (.ref s2), .val (.ref q0), .val (.ref a336), .val (.ref a337), .val (.ref a338), .val (.ref a339), .val (.ref a342), .val (.ref a345), .val (.ref a348), .val (.ref a390), .val (.ref a396), .val (.int m0), .val (.int m1), .val (.int m2), .val (.int (1 : Int32)), .val (.ref a337)] [(.int (own_seq 0 d1.toInt8.toInt32 0 d1.toInt8.toInt32))])
          refine own_ifNo X405 hx (hb hby at_525) (XT.i0_eq_f (by simp [own_seq])) ?_
          show own_E p e below _ T405 (mkF m 528 #[.val (.int i0), .val (.int i1), .val (.int i2), .val (.int i3), .val (.int (i0 &&& (3 : Int32))), .val (.int y0), .val (.int y1), .val (.int y2), .val (.int yq), .val (.int c0), .val (.int c1), .val (.int c2), .val (.int cq), .val (.ref s0), .val (.ref s1), .val (.ref s2), .val (.ref q0), .val (.ref a336), .val (.ref a337), .val (.ref a338), .val (.ref a339), .val (.ref a342), .val (.ref a345), .val (.ref a348), .val (.ref a390), .val (.ref a396), .val (.int m0), .val (.int m1), .val (.int m2), .val (.int (1 : Int32)), .val (.ref a337)] [])
          refine own_iconst X405 hx (hb hby at_528) (v := (1 : Int32)) (by decide) ?_
          refine own_goto X405 hx (hb hby at_529) 533 (by decide) (by decide) ?_
          show own_E p e below _ T405 (mkF m 533 #[.val (.int i0), .val (.int i1), .val (.int i2), .val (.int i3), .val (.int (i0 &&& (3 : Int32))), .val (.int y0), .val (.int y1), .val (.int y2), .val (.int yq), .val (.int c0), .val (.int c1), .val (.int c2), .val (.int cq), .val (.ref s0), .val (.ref s1), .val (.ref s2), .val (.ref q0), .val (.ref a336), .val (.ref a337), .val (.ref a338), .val (.ref a339), .val (.ref a342), .val (.ref a345), .val (.ref a348), .val (.ref a390), .val (.ref a396), .val (.int m0), .val (.int m1), .val (.int m2), .val (.int (1 : Int32)), .val (.ref a337)] [(.int (1 : Int32))])
          refine own_retNW X405 hx hS (by rw [e405]; omega) hZ hEL hh (by rw [e405]; exact C396) (t := .boolean) Bd.returns (by simp) hlk (hb hby at_533) (z' := (1 : Int32)) (by decide) (by decide) (by decide) ?_
          rw [e405]
          exact ⟨rfl, N405⟩
    · skip
      refine own_icmpYes X366 hx (hb hby at_282) (XT.ii_le_t h1c) 295 (by decide) (by decide) ?_
      show own_E p e below _ T366 (mkF m 295 #[.val (.int i0), .val (.int i1), .val (.int i2), .val (.int i3), .val (.int (i0 &&& (3 : Int32))), .val (.int y0), .val (.int y1), .val (.int y2), .val (.int yq), .val (.int c0), .val (.int c1), .val (.int c2), .val (.int cq), .val (.ref s0), .val (.ref s1), .val (.ref s2), .val (.ref q0), .val (.ref a336), .val (.ref a337), .val (.ref a338), .val (.ref a339), .val (.ref a342), .val (.ref a345), .val (.ref a348), .unset, .unset, .unset, .unset, .unset, .unset, .unset] [])
      refine own_iload X366 hx (hb hby at_295) rfl ?_
      refine own_iconst X366 hx (hb hby at_297) (v := (2 : Int32)) (by decide) ?_
      refine own_icmpYes X366 hx (hb hby at_298) (XT.ii_le_t (fun q => h1c (Int32.lt_trans (by decide : (1 : Int32) < 2) q))) 311 (by decide) (by decide) ?_
      show own_E p e below _ T366 (mkF m 311 #[.val (.int i0), .val (.int i1), .val (.int i2), .val (.int i3), .val (.int (i0 &&& (3 : Int32))), .val (.int y0), .val (.int y1), .val (.int y2), .val (.int yq), .val (.int c0), .val (.int c1), .val (.int c2), .val (.int cq), .val (.ref s0), .val (.ref s1), .val (.ref s2), .val (.ref q0), .val (.ref a336), .val (.ref a337), .val (.ref a338), .val (.ref a339), .val (.ref a342), .val (.ref a345), .val (.ref a348), .unset, .unset, .unset, .unset, .unset, .unset, .unset] [])
      obtain ⟨T368, h368, X368, e368, E368, A368, D368, -, st368⟩ := newO X366 hx hZ hown (own_w hw 68 rfl) (own_w hw 69 rfl) (own_w hw 70 rfl) (rfl : T366.heap = T366.heap) (g := (mkF m 311 #[.val (.int i0), .val (.int i1), .val (.int i2), .val (.int i3), .val (.int (i0 &&& (3 : Int32))), .val (.int y0), .val (.int y1), .val (.int y2), .val (.int yq), .val (.int c0), .val (.int c1), .val (.int c2), .val (.int cq), .val (.ref s0), .val (.ref s1), .val (.ref s2), .val (.ref q0), .val (.ref a336), .val (.ref a337), .val (.ref a338), .val (.ref a339), .val (.ref a342), .val (.ref a345), .val (.ref a348), .unset, .unset, .unset, .unset, .unset, .unset, .unset] [])) rfl (hb hby at_311) (by decide) (by decide)
      obtain ⟨a368, g368⟩ : ∃ z, z = T366.heap.size := ⟨_, rfl⟩
      rw [← g368] at A368 D368 st368
      have z368 : T366.heap.size ≤ h368.size := E368.1
      have t368 : a368 < h368.size := A368.lt
      refine own_go st368 ?_
      have lt369 := own_lt (A368).lt
      have C368 := C366.trans (CHr.ext E368 C366.1)
      show own_E p e below _ T368 (mkF m 314 #[.val (.int i0), .val (.int i1), .val (.int i2), .val (.int i3), .val (.int (i0 &&& (3 : Int32))), .val (.int y0), .val (.int y1), .val (.int y2), .val (.int yq), .val (.int c0), .val (.int c1), .val (.int c2), .val (.int cq), .val (.ref s0), .val (.ref s1), .val (.ref s2), .val (.ref q0), .val (.ref a336), .val (.ref a337), .val (.ref a338), .val (.ref a339), .val (.ref a342), .val (.ref a345), .val (.ref a348), .unset, .unset, .unset, .unset, .unset, .unset, .unset] [(.ref a368)])
      refine own_dup X368 hx (hb hby at_314) rfl ?_
      obtain ⟨T370, h370, X370, e370, E370, A370, D370, -, st370⟩ := newO X368 hx hZ hown (own_w hw 44 rfl) (own_w hw 45 rfl) (own_w hw 46 rfl) e368 (g := (mkF m 315 #[.val (.int i0), .val (.int i1), .val (.int i2), .val (.int i3), .val (.int (i0 &&& (3 : Int32))), .val (.int y0), .val (.int y1), .val (.int y2), .val (.int yq), .val (.int c0), .val (.int c1), .val (.int c2), .val (.int cq), .val (.ref s0), .val (.ref s1), .val (.ref s2), .val (.ref q0), .val (.ref a336), .val (.ref a337), .val (.ref a338), .val (.ref a339), .val (.ref a342), .val (.ref a345), .val (.ref a348), .unset, .unset, .unset, .unset, .unset, .unset, .unset] [(.ref a368), (.ref a368)])) rfl (hb hby at_315) (by decide) (by decide)
      obtain ⟨a370, g370⟩ : ∃ z, z = h368.size := ⟨_, rfl⟩
      rw [← g370] at A370 D370 st370
      have z370 : h368.size ≤ h370.size := E370.1
      have t370 : a370 < h370.size := A370.lt
      refine own_go st370 ?_
      have lt371 := own_lt (A370).lt
      have C370 := C368.trans (CHr.ext E370 C368.1)
      show own_E p e below _ T370 (mkF m 318 #[.val (.int i0), .val (.int i1), .val (.int i2), .val (.int i3), .val (.int (i0 &&& (3 : Int32))), .val (.int y0), .val (.int y1), .val (.int y2), .val (.int yq), .val (.int c0), .val (.int c1), .val (.int c2), .val (.int cq), .val (.ref s0), .val (.ref s1), .val (.ref s2), .val (.ref q0), .val (.ref a336), .val (.ref a337), .val (.ref a338), .val (.ref a339), .val (.ref a342), .val (.ref a345), .val (.ref a348), .unset, .unset, .unset, .unset, .unset, .unset, .unset] [(.ref a370), (.ref a368), (.ref a368)])
      refine own_dup X370 hx (hb hby at_318) rfl ?_
      obtain ⟨_, _, ⟨T372, L372, k372, n372⟩, -, X372, ⟨Lc372, hQ372, l372, y372, z372⟩, st372⟩ := X370.specialBack hx (y := (⟨"java/util/ArrayList", "<init>", "()V"⟩ : MethodName)) rfl hown (mvT hZ (own_w hw 47 rfl)) (mvT hZ (own_w hw 48 rfl)) (mvT hZ (own_w hw 49 rfl)) (by decide) (backOf (W := 3) (own_rmAI l Z a0 hw [] a370 wd h370 n0 (by omega) ((((((((((((((((((O0.keep K316 all0).keep K321 all0).keep K326 all0).keep K331 all0).keep K336 all0).keep K337 all0).keep K338 all0).ext E339).keep K341 (allS (by omega) all0)).ext E342).keep K344 (allS (by omega) all0)).ext E345).keep K347 (allS (by omega) all0)).ext E348).keep K350 (allS (by omega) all0)).keep K366 (allS (by omega) all0)).ext E368).ext E370) SD (D370 (Or.inl (own_w hw 67 rfl)) (ty := (.array (.object "java/lang/Object"))) (by decide)) (D370 (Or.inl (own_w hw 126 rfl)) (ty := .int) (by decide)) (D370 (Or.inl (own_w hw 64 rfl)) (ty := .int) (by decide)) A370 (by omega)) hZ (own_w hw 49 rfl) (own_w hw 46 rfl) (by decide) (by decide)) (g := (mkF m 319 #[.val (.int i0), .val (.int i1), .val (.int i2), .val (.int i3), .val (.int (i0 &&& (3 : Int32))), .val (.int y0), .val (.int y1), .val (.int y2), .val (.int yq), .val (.int c0), .val (.int c1), .val (.int c2), .val (.int cq), .val (.ref s0), .val (.ref s1), .val (.ref s2), .val (.ref q0), .val (.ref a336), .val (.ref a337), .val (.ref a338), .val (.ref a339), .val (.ref a342), .val (.ref a345), .val (.ref a348), .unset, .unset, .unset, .unset, .unset, .unset, .unset] [(.ref a370), (.ref a370), (.ref a368), (.ref a368)])) rfl (by rw [hml]; rfl) (Steps.refl _) (a := a370) (argsL := []) (rest := [(.ref a370), (.ref a368), (.ref a368)]) (lenOf own_pd0 rfl) rfl (by show 2 * 0 + _ ≤ _; exact Nat.le_of_eq rfl) (hb hby at_319) (fun _ _ => ⟨rfl, e370, Nat.le_of_ble_eq_true rfl, Nat.le_of_ble_eq_true rfl⟩)
      dsimp only [Pt.U, Pt.locs, Pt.cells, Pt.slots] at X372 l372 y372 z372 st372 hQ372
      subst l372 y372 z372
      obtain ⟨rfl, M372, K372, F372, G372, J372⟩ := hQ372
      have N372 := Fr.app N366 M372
      refine own_go (fun _ k => st372.trans k) ?_
      have C372 := C370.trans (CHr.keep K372 (allS (Safe.exa hZ.alike A370 (by decide) (by decide)) all0) C370.1)
      have z372 : h370.size ≤ T372.heap.size := K372.1
      show own_E p e below _ T372 (mkF m 322 #[.val (.int i0), .val (.int i1), .val (.int i2), .val (.int i3), .val (.int (i0 &&& (3 : Int32))), .val (.int y0), .val (.int y1), .val (.int y2), .val (.int yq), .val (.int c0), .val (.int c1), .val (.int c2), .val (.int cq), .val (.ref s0), .val (.ref s1), .val (.ref s2), .val (.ref q0), .val (.ref a336), .val (.ref a337), .val (.ref a338), .val (.ref a339), .val (.ref a342), .val (.ref a345), .val (.ref a348), .unset, .unset, .unset, .unset, .unset, .unset, .unset] [(.ref a370), (.ref a368), (.ref a368)])
      refine own_aload X372 hx (hb hby at_322) rfl rfl ?_
      obtain ⟨_, _, ⟨T373, L373, k373, n373⟩, -, X373, ⟨Lc373, hQ373, l373, y373, z373⟩, st373⟩ := X372.specialBack hx (y := (⟨"com/example/narrow_gate/narrowgate/Target", "<init>", "(Ljava/util/List;Ljava/util/List;)V"⟩ : MethodName)) rfl hown (mvT hZ (own_w hw 71 rfl)) (mvT hZ (own_w hw 72 rfl)) (mvT hZ (own_w hw 73 rfl)) (by decide) (backOf (W := 1) (own_rmGI l Z a0 hw [] a368 a370 a348 T372.heap n0 (by omega) (((D368 (Or.inr (own_w hw 76 rfl)) (ty := (.object "java/util/List")) (by decide)).ext E370).keep K372 (ninS (by first | assumption | exact Ne.symm (by assumption) | exact own_ne (by omega)) nin0)) (((D368 (Or.inr (own_w hw 78 rfl)) (ty := (.object "java/util/List")) (by decide)).ext E370).keep K372 (ninS (by first | assumption | exact Ne.symm (by assumption) | exact own_ne (by omega)) nin0)) ((A368.ext E370).keep K372) (by omega)) hZ (own_w hw 73 rfl) (own_w hw 70 rfl) (by decide) (by decide)) (g := (mkF m 324 #[.val (.int i0), .val (.int i1), .val (.int i2), .val (.int i3), .val (.int (i0 &&& (3 : Int32))), .val (.int y0), .val (.int y1), .val (.int y2), .val (.int yq), .val (.int c0), .val (.int c1), .val (.int c2), .val (.int cq), .val (.ref s0), .val (.ref s1), .val (.ref s2), .val (.ref q0), .val (.ref a336), .val (.ref a337), .val (.ref a338), .val (.ref a339), .val (.ref a342), .val (.ref a345), .val (.ref a348), .unset, .unset, .unset, .unset, .unset, .unset, .unset] [(.ref a348), (.ref a370), (.ref a368), (.ref a368)])) rfl (by rw [hml]; rfl) (Steps.refl _) (a := a368) (argsL := [(.ref a370), (.ref a348)]) (rest := [(.ref a368)]) (lenOf own_pd21 rfl) rfl (by show 2 * 0 + _ ≤ _; exact Nat.le_of_eq rfl) (hb hby at_324) (fun _ _ => ⟨rfl, (rfl : T372.heap = T372.heap), Nat.le_of_ble_eq_true rfl, Nat.le_of_ble_eq_true rfl⟩)
      dsimp only [Pt.U, Pt.locs, Pt.cells, Pt.slots] at X373 l373 y373 z373 st373 hQ373
      subst l373 y373 z373
      obtain ⟨rfl, M373, K373, F373⟩ := hQ373
      have N373 := Fr.app N372 M373
      refine own_go (fun _ k => st373.trans k) ?_
      have C373 := C372.trans (CHr.keep K373 (allS (Safe.exa hZ.alike ((A368.ext E370).keep K372) (by decide) (by decide)) all0) C372.1)
      have z373 : T372.heap.size ≤ T373.heap.size := K373.1
      show own_E p e below _ T373 (mkF m 327 #[.val (.int i0), .val (.int i1), .val (.int i2), .val (.int i3), .val (.int (i0 &&& (3 : Int32))), .val (.int y0), .val (.int y1), .val (.int y2), .val (.int yq), .val (.int c0), .val (.int c1), .val (.int c2), .val (.int cq), .val (.ref s0), .val (.ref s1), .val (.ref s2), .val (.ref q0), .val (.ref a336), .val (.ref a337), .val (.ref a338), .val (.ref a339), .val (.ref a342), .val (.ref a345), .val (.ref a348), .unset, .unset, .unset, .unset, .unset, .unset, .unset] [(.ref a368)])
      refine own_astore X373 hx (hb hby at_327) rfl (l' := #[.val (.int i0), .val (.int i1), .val (.int i2), .val (.int i3), .val (.int (i0 &&& (3 : Int32))), .val (.int y0), .val (.int y1), .val (.int y2), .val (.int yq), .val (.int c0), .val (.int c1), .val (.int c2), .val (.int cq), .val (.ref s0), .val (.ref s1), .val (.ref s2), .val (.ref q0), .val (.ref a336), .val (.ref a337), .val (.ref a338), .val (.ref a339), .val (.ref a342), .val (.ref a345), .val (.ref a348), .val (.ref a368), .unset, .unset, .unset, .unset, .unset, .unset]) rfl ?_
      refine own_aload X373 hx (hb hby at_329) rfl rfl ?_
      refine own_aload X373 hx (hb hby at_331) rfl rfl ?_
      obtain ⟨cq374, kq374, qa374, qb374, qc374⟩ := isOf hZ (rfl : T373.heap = T373.heap) (((A368.ext E370).keep K372).keep K373)
      obtain ⟨_, _, ⟨T374, L374, k374, n374⟩, -, X374, ⟨Lc374, hQ374, l374, y374, z374⟩, st374⟩ := X373.virtualBack hx (y := (⟨"com/example/narrow_gate/narrowgate/Target", "parameter", "(Ljava/lang/String;)Ljava/util/Optional;"⟩ : MethodName)) (z := (⟨"com/example/narrow_gate/narrowgate/Target", "parameter", "(Ljava/lang/String;)Ljava/util/Optional;"⟩ : MethodName)) hown (mvT hZ (own_w hw 79 rfl)) (mvT hZ (own_w hw 80 rfl)) (notFace_of_selects (args := #[]) (mvT hZ (own_w hw 82 rfl))) (mvT hZ (own_w hw 82 rfl)) (mvT hZ (own_w hw 81 rfl)) (by decide) (backOf (W := 0) (own_rmM1 l Z a0 hw [] a368 q0 a348 d366 we a339 s0 a336 kd366 yq (cq.toInt8.toInt32) G1 y0 (c0.toInt8.toInt32) T373.heap n0 (by omega) ((((((((((((((((((((O0.keep K316 all0).keep K321 all0).keep K326 all0).keep K331 all0).keep K336 all0).keep K337 all0).keep K338 all0).ext E339).keep K341 (allS (by omega) all0)).ext E342).keep K344 (allS (by omega) all0)).ext E345).keep K347 (allS (by omega) all0)).ext E348).keep K350 (allS (by omega) all0)).keep K366 (allS (by omega) all0)).ext E368).ext E370).keep K372 (allS (by omega) all0)).keep K373 (allS (by omega) all0)) SC P1 SE EX EF F373 ((((F366.ext E368).ext E370).keep K372 (ninS (by first | assumption | exact Ne.symm (by assumption) | exact own_ne (by omega)) nin0)).keep K373 (ninS (by first | assumption | exact Ne.symm (by assumption) | exact own_ne (by omega)) nin0)) ((((G366.ext E368).ext E370).keep K372 (ninS (by first | assumption | exact Ne.symm (by assumption) | exact own_ne (by omega)) nin0)).keep K373 (ninS (by first | assumption | exact Ne.symm (by assumption) | exact own_ne (by omega)) nin0)) ((((J366.ext E368).ext E370).keep K372 (ninS (by first | assumption | exact Ne.symm (by assumption) | exact own_ne (by omega)) nin0)).keep K373 (ninS (by first | assumption | exact Ne.symm (by assumption) | exact own_ne (by omega)) nin0)) ((((((A348.keep K350).keep K366).ext E368).ext E370).keep K372).keep K373) ((((V366.ext E368).ext E370).keep K372 (ninS (by first | assumption | exact Ne.symm (by assumption) | exact own_ne (by omega)) nin0)).keep K373 (ninS (by first | assumption | exact Ne.symm (by assumption) | exact own_ne (by omega)) nin0)) (own_Sk F331 (((((((((((((((((Keep.refl _ _).trans K336 all0).trans K337 all0).trans K338 all0).ext E339).trans K341 (allS (Or.inr (by omega)) all0)).ext E342).trans K344 (allS (Or.inr (by omega)) all0)).ext E345).trans K347 (allS (Or.inr (by omega)) all0)).ext E348).trans K350 (allS (Or.inr (by omega)) all0)).trans K366 (allS (Or.inr (by omega)) all0)).ext E368).ext E370).trans K372 (allS (Or.inr (by omega)) all0)).trans K373 (allS (Or.inr (by omega)) all0))) t_yq ((((((((((((A339.keep K341).ext E342).keep K344).ext E345).keep K347).ext E348).keep K350).keep K366).ext E368).ext E370).keep K372).keep K373) (F341.keep ((((((((((((Keep.refl _ _).ext E342).trans K344 (allS (Or.inr (by omega)) all0)).ext E345).trans K347 (allS (Or.inr (by omega)) all0)).ext E348).trans K350 (allS (Or.inr (by omega)) all0)).trans K366 (allS (Or.inr (by omega)) all0)).ext E368).ext E370).trans K372 (allS (Or.inr (by omega)) all0)).trans K373 (allS (Or.inr (by omega)) all0)) nin0) (G341.keep ((((((((((((Keep.refl _ _).ext E342).trans K344 (allS (Or.inr (by omega)) all0)).ext E345).trans K347 (allS (Or.inr (by omega)) all0)).ext E348).trans K350 (allS (Or.inr (by omega)) all0)).trans K366 (allS (Or.inr (by omega)) all0)).ext E368).ext E370).trans K372 (allS (Or.inr (by omega)) all0)).trans K373 (allS (Or.inr (by omega)) all0)) nin0) (own_Sk F316 ((((((((((((((((((((Keep.refl _ _).trans K321 all0).trans K326 all0).trans K331 all0).trans K336 all0).trans K337 all0).trans K338 all0).ext E339).trans K341 (allS (Or.inr (by omega)) all0)).ext E342).trans K344 (allS (Or.inr (by omega)) all0)).ext E345).trans K347 (allS (Or.inr (by omega)) all0)).ext E348).trans K350 (allS (Or.inr (by omega)) all0)).trans K366 (allS (Or.inr (by omega)) all0)).ext E368).ext E370).trans K372 (allS (Or.inr (by omega)) all0)).trans K373 (allS (Or.inr (by omega)) all0))) t_y0) hZ (own_w hw 83 rfl) (own_w hw 70 rfl) (by decide) (by decide)) qa374 qc374 (g := (mkF m 333 #[.val (.int i0), .val (.int i1), .val (.int i2), .val (.int i3), .val (.int (i0 &&& (3 : Int32))), .val (.int y0), .val (.int y1), .val (.int y2), .val (.int yq), .val (.int c0), .val (.int c1), .val (.int c2), .val (.int cq), .val (.ref s0), .val (.ref s1), .val (.ref s2), .val (.ref q0), .val (.ref a336), .val (.ref a337), .val (.ref a338), .val (.ref a339), .val (.ref a342), .val (.ref a345), .val (.ref a348), .val (.ref a368), .unset, .unset, .unset, .unset, .unset, .unset] [(.ref q0), (.ref a368)])) rfl (by rw [hml]; rfl) (Steps.refl _) (argsL := [(.ref q0)]) (rest := []) (lenOf own_pd22 rfl) rfl (by show 2 * 0 + _ ≤ _; exact Nat.le_of_eq rfl) (hb hby at_333) (fun _ _ => ⟨rfl, (rfl : T373.heap = T373.heap), Nat.le_of_ble_eq_true rfl, Nat.le_of_ble_eq_true rfl⟩)
      dsimp only [Pt.U, Pt.locs, Pt.cells, Pt.slots] at X374 l374 y374 z374 st374 hQ374
      subst l374 y374 z374
      obtain ⟨a374, rfl, M374, K374, A374, F374⟩ := hQ374
      have N374 := Fr.app N373 M374
      refine own_go (fun _ k => st374.trans k) ?_
      have C374 := C373.trans (CHr.keep K374 all0 C373.1)
      have z374 : T373.heap.size ≤ T374.heap.size := K374.1
      show own_E p e below _ T374 (mkF m 336 #[.val (.int i0), .val (.int i1), .val (.int i2), .val (.int i3), .val (.int (i0 &&& (3 : Int32))), .val (.int y0), .val (.int y1), .val (.int y2), .val (.int yq), .val (.int c0), .val (.int c1), .val (.int c2), .val (.int cq), .val (.ref s0), .val (.ref s1), .val (.ref s2), .val (.ref q0), .val (.ref a336), .val (.ref a337), .val (.ref a338), .val (.ref a339), .val (.ref a342), .val (.ref a345), .val (.ref a348), .val (.ref a368), .unset, .unset, .unset, .unset, .unset, .unset] [(.ref a374)])
      have lt375 := own_lt (A374).lt
      refine own_astore X374 hx (hb hby at_336) rfl (l' := #[.val (.int i0), .val (.int i1), .val (.int i2), .val (.int i3), .val (.int (i0 &&& (3 : Int32))), .val (.int y0), .val (.int y1), .val (.int y2), .val (.int yq), .val (.int c0), .val (.int c1), .val (.int c2), .val (.int cq), .val (.ref s0), .val (.ref s1), .val (.ref s2), .val (.ref q0), .val (.ref a336), .val (.ref a337), .val (.ref a338), .val (.ref a339), .val (.ref a342), .val (.ref a345), .val (.ref a348), .val (.ref a368), .val (.ref a374), .unset, .unset, .unset, .unset, .unset]) rfl ?_
      refine own_iload X374 hx (hb hby at_338) rfl ?_
      refine own_iload X374 hx (hb hby at_340) rfl ?_
      suffices hj376 : own_E p e below (own_PW s Z own_EL (own_Q0 n0) room_1.cells room_1.slots) T374 (mkF m 362 #[.val (.int i0), .val (.int i1), .val (.int i2), .val (.int i3), .val (.int (i0 &&& (3 : Int32))), .val (.int y0), .val (.int y1), .val (.int y2), .val (.int yq), .val (.int c0), .val (.int c1), .val (.int c2), .val (.int cq), .val (.ref s0), .val (.ref s1), .val (.ref s2), .val (.ref q0), .val (.ref a336), .val (.ref a337), .val (.ref a338), .val (.ref a339), .val (.ref a342), .val (.ref a345), .val (.ref a348), .val (.ref a368), .val (.ref a374), .unset, .unset, .unset, .unset, .unset] [(.int (own_m y0 yq c0 cq))]) from by
        by_cases ha : y0 = yq
        · skip
          refine own_icmpNo X374 hx (hb hby at_342) (XT.ii_ne_f ha) ?_
          show own_E p e below _ T374 (mkF m 345 #[.val (.int i0), .val (.int i1), .val (.int i2), .val (.int i3), .val (.int (i0 &&& (3 : Int32))), .val (.int y0), .val (.int y1), .val (.int y2), .val (.int yq), .val (.int c0), .val (.int c1), .val (.int c2), .val (.int cq), .val (.ref s0), .val (.ref s1), .val (.ref s2), .val (.ref q0), .val (.ref a336), .val (.ref a337), .val (.ref a338), .val (.ref a339), .val (.ref a342), .val (.ref a345), .val (.ref a348), .val (.ref a368), .val (.ref a374), .unset, .unset, .unset, .unset, .unset] [])
          refine own_iload X374 hx (hb hby at_345) rfl ?_
          by_cases hb2 : y0 = 0
          · skip
            refine own_ifNo X374 hx (hb hby at_347) (XT.i0_ne_f hb2) ?_
            show own_E p e below _ T374 (mkF m 350 #[.val (.int i0), .val (.int i1), .val (.int i2), .val (.int i3), .val (.int (i0 &&& (3 : Int32))), .val (.int y0), .val (.int y1), .val (.int y2), .val (.int yq), .val (.int c0), .val (.int c1), .val (.int c2), .val (.int cq), .val (.ref s0), .val (.ref s1), .val (.ref s2), .val (.ref q0), .val (.ref a336), .val (.ref a337), .val (.ref a338), .val (.ref a339), .val (.ref a342), .val (.ref a345), .val (.ref a348), .val (.ref a368), .val (.ref a374), .unset, .unset, .unset, .unset, .unset] [])
            refine own_iload X374 hx (hb hby at_350) rfl ?_
            refine own_iload X374 hx (hb hby at_352) rfl ?_
            by_cases hc2 : c0 = cq
            · skip
              refine own_icmpNo X374 hx (hb hby at_354) (XT.ii_ne_f hc2) ?_
              show own_E p e below _ T374 (mkF m 357 #[.val (.int i0), .val (.int i1), .val (.int i2), .val (.int i3), .val (.int (i0 &&& (3 : Int32))), .val (.int y0), .val (.int y1), .val (.int y2), .val (.int yq), .val (.int c0), .val (.int c1), .val (.int c2), .val (.int cq), .val (.ref s0), .val (.ref s1), .val (.ref s2), .val (.ref q0), .val (.ref a336), .val (.ref a337), .val (.ref a338), .val (.ref a339), .val (.ref a342), .val (.ref a345), .val (.ref a348), .val (.ref a368), .val (.ref a374), .unset, .unset, .unset, .unset, .unset] [])
              refine own_iconst X374 hx (hb hby at_357) (v := (1 : Int32)) (by decide) ?_
              refine own_goto X374 hx (hb hby at_358) 362 (by decide) (by decide) ?_
              show own_E p e below _ T374 (mkF m 362 #[.val (.int i0), .val (.int i1), .val (.int i2), .val (.int i3), .val (.int (i0 &&& (3 : Int32))), .val (.int y0), .val (.int y1), .val (.int y2), .val (.int yq), .val (.int c0), .val (.int c1), .val (.int c2), .val (.int cq), .val (.ref s0), .val (.ref s1), .val (.ref s2), .val (.ref q0), .val (.ref a336), .val (.ref a337), .val (.ref a338), .val (.ref a339), .val (.ref a342), .val (.ref a345), .val (.ref a348), .val (.ref a368), .val (.ref a374), .unset, .unset, .unset, .unset, .unset] [(.int (1 : Int32))])
              rw [(by rw [own_m, if_pos ha, if_pos hb2, if_pos hc2] : own_m y0 yq c0 cq = (1 : Int32))] at hj376
              exact hj376
            · skip
              refine own_icmpYes X374 hx (hb hby at_354) (XT.ii_ne_t hc2) 361 (by decide) (by decide) ?_
              show own_E p e below _ T374 (mkF m 361 #[.val (.int i0), .val (.int i1), .val (.int i2), .val (.int i3), .val (.int (i0 &&& (3 : Int32))), .val (.int y0), .val (.int y1), .val (.int y2), .val (.int yq), .val (.int c0), .val (.int c1), .val (.int c2), .val (.int cq), .val (.ref s0), .val (.ref s1), .val (.ref s2), .val (.ref q0), .val (.ref a336), .val (.ref a337), .val (.ref a338), .val (.ref a339), .val (.ref a342), .val (.ref a345), .val (.ref a348), .val (.ref a368), .val (.ref a374), .unset, .unset, .unset, .unset, .unset] [])
              refine own_iconst X374 hx (hb hby at_361) (v := (0 : Int32)) (by decide) ?_
              rw [(by rw [own_m, if_pos ha, if_pos hb2, if_neg hc2] : own_m y0 yq c0 cq = (0 : Int32))] at hj376
              exact hj376
          · skip
            refine own_ifYes X374 hx (hb hby at_347) (XT.i0_ne_t hb2) 357 (by decide) (by decide) ?_
            show own_E p e below _ T374 (mkF m 357 #[.val (.int i0), .val (.int i1), .val (.int i2), .val (.int i3), .val (.int (i0 &&& (3 : Int32))), .val (.int y0), .val (.int y1), .val (.int y2), .val (.int yq), .val (.int c0), .val (.int c1), .val (.int c2), .val (.int cq), .val (.ref s0), .val (.ref s1), .val (.ref s2), .val (.ref q0), .val (.ref a336), .val (.ref a337), .val (.ref a338), .val (.ref a339), .val (.ref a342), .val (.ref a345), .val (.ref a348), .val (.ref a368), .val (.ref a374), .unset, .unset, .unset, .unset, .unset] [])
            refine own_iconst X374 hx (hb hby at_357) (v := (1 : Int32)) (by decide) ?_
            refine own_goto X374 hx (hb hby at_358) 362 (by decide) (by decide) ?_
            show own_E p e below _ T374 (mkF m 362 #[.val (.int i0), .val (.int i1), .val (.int i2), .val (.int i3), .val (.int (i0 &&& (3 : Int32))), .val (.int y0), .val (.int y1), .val (.int y2), .val (.int yq), .val (.int c0), .val (.int c1), .val (.int c2), .val (.int cq), .val (.ref s0), .val (.ref s1), .val (.ref s2), .val (.ref q0), .val (.ref a336), .val (.ref a337), .val (.ref a338), .val (.ref a339), .val (.ref a342), .val (.ref a345), .val (.ref a348), .val (.ref a368), .val (.ref a374), .unset, .unset, .unset, .unset, .unset] [(.int (1 : Int32))])
            rw [(by rw [own_m, if_pos ha, if_neg hb2] : own_m y0 yq c0 cq = (1 : Int32))] at hj376
            exact hj376
        · skip
          refine own_icmpYes X374 hx (hb hby at_342) (XT.ii_ne_t ha) 361 (by decide) (by decide) ?_
          show own_E p e below _ T374 (mkF m 361 #[.val (.int i0), .val (.int i1), .val (.int i2), .val (.int i3), .val (.int (i0 &&& (3 : Int32))), .val (.int y0), .val (.int y1), .val (.int y2), .val (.int yq), .val (.int c0), .val (.int c1), .val (.int c2), .val (.int cq), .val (.ref s0), .val (.ref s1), .val (.ref s2), .val (.ref q0), .val (.ref a336), .val (.ref a337), .val (.ref a338), .val (.ref a339), .val (.ref a342), .val (.ref a345), .val (.ref a348), .val (.ref a368), .val (.ref a374), .unset, .unset, .unset, .unset, .unset] [])
          refine own_iconst X374 hx (hb hby at_361) (v := (0 : Int32)) (by decide) ?_
          rw [(by rw [own_m, if_neg ha] : own_m y0 yq c0 cq = (0 : Int32))] at hj376
          exact hj376
      have rel0 : own_seq y0 (c0.toInt8.toInt32) yq (cq.toInt8.toInt32) = own_m y0 yq c0 cq := by rw [← h_c0, ← h_cq]; exact own_rel _ _ _ _ t_y0 t_yq
      generalize h_m0 : own_m y0 yq c0 cq = m0 at rel0 ⊢
      show own_E p e below _ T374 (mkF m 362 #[.val (.int i0), .val (.int i1), .val (.int i2), .val (.int i3), .val (.int (i0 &&& (3 : Int32))), .val (.int y0), .val (.int y1), .val (.int y2), .val (.int yq), .val (.int c0), .val (.int c1), .val (.int c2), .val (.int cq), .val (.ref s0), .val (.ref s1), .val (.ref s2), .val (.ref q0), .val (.ref a336), .val (.ref a337), .val (.ref a338), .val (.ref a339), .val (.ref a342), .val (.ref a345), .val (.ref a348), .val (.ref a368), .val (.ref a374), .unset, .unset, .unset, .unset, .unset] [(.int m0)])
      refine own_istore X374 hx (hb hby at_362) (l' := #[.val (.int i0), .val (.int i1), .val (.int i2), .val (.int i3), .val (.int (i0 &&& (3 : Int32))), .val (.int y0), .val (.int y1), .val (.int y2), .val (.int yq), .val (.int c0), .val (.int c1), .val (.int c2), .val (.int cq), .val (.ref s0), .val (.ref s1), .val (.ref s2), .val (.ref q0), .val (.ref a336), .val (.ref a337), .val (.ref a338), .val (.ref a339), .val (.ref a342), .val (.ref a345), .val (.ref a348), .val (.ref a368), .val (.ref a374), .val (.int m0), .unset, .unset, .unset, .unset]) rfl ?_
      refine own_iload X374 hx (hb hby at_364) rfl ?_
      refine own_iload X374 hx (hb hby at_366) rfl ?_
      suffices hj377 : own_E p e below (own_PW s Z own_EL (own_Q0 n0) room_1.cells room_1.slots) T374 (mkF m 388 #[.val (.int i0), .val (.int i1), .val (.int i2), .val (.int i3), .val (.int (i0 &&& (3 : Int32))), .val (.int y0), .val (.int y1), .val (.int y2), .val (.int yq), .val (.int c0), .val (.int c1), .val (.int c2), .val (.int cq), .val (.ref s0), .val (.ref s1), .val (.ref s2), .val (.ref q0), .val (.ref a336), .val (.ref a337), .val (.ref a338), .val (.ref a339), .val (.ref a342), .val (.ref a345), .val (.ref a348), .val (.ref a368), .val (.ref a374), .val (.int m0), .unset, .unset, .unset, .unset] [(.int (own_m y1 yq c1 cq))]) from by
        by_cases ha : y1 = yq
        · skip
          refine own_icmpNo X374 hx (hb hby at_368) (XT.ii_ne_f ha) ?_
          show own_E p e below _ T374 (mkF m 371 #[.val (.int i0), .val (.int i1), .val (.int i2), .val (.int i3), .val (.int (i0 &&& (3 : Int32))), .val (.int y0), .val (.int y1), .val (.int y2), .val (.int yq), .val (.int c0), .val (.int c1), .val (.int c2), .val (.int cq), .val (.ref s0), .val (.ref s1), .val (.ref s2), .val (.ref q0), .val (.ref a336), .val (.ref a337), .val (.ref a338), .val (.ref a339), .val (.ref a342), .val (.ref a345), .val (.ref a348), .val (.ref a368), .val (.ref a374), .val (.int m0), .unset, .unset, .unset, .unset] [])
          refine own_iload X374 hx (hb hby at_371) rfl ?_
          by_cases hb2 : y1 = 0
          · skip
            refine own_ifNo X374 hx (hb hby at_373) (XT.i0_ne_f hb2) ?_
            show own_E p e below _ T374 (mkF m 376 #[.val (.int i0), .val (.int i1), .val (.int i2), .val (.int i3), .val (.int (i0 &&& (3 : Int32))), .val (.int y0), .val (.int y1), .val (.int y2), .val (.int yq), .val (.int c0), .val (.int c1), .val (.int c2), .val (.int cq), .val (.ref s0), .val (.ref s1), .val (.ref s2), .val (.ref q0), .val (.ref a336), .val (.ref a337), .val (.ref a338), .val (.ref a339), .val (.ref a342), .val (.ref a345), .val (.ref a348), .val (.ref a368), .val (.ref a374), .val (.int m0), .unset, .unset, .unset, .unset] [])
            refine own_iload X374 hx (hb hby at_376) rfl ?_
            refine own_iload X374 hx (hb hby at_378) rfl ?_
            by_cases hc2 : c1 = cq
            · skip
              refine own_icmpNo X374 hx (hb hby at_380) (XT.ii_ne_f hc2) ?_
              show own_E p e below _ T374 (mkF m 383 #[.val (.int i0), .val (.int i1), .val (.int i2), .val (.int i3), .val (.int (i0 &&& (3 : Int32))), .val (.int y0), .val (.int y1), .val (.int y2), .val (.int yq), .val (.int c0), .val (.int c1), .val (.int c2), .val (.int cq), .val (.ref s0), .val (.ref s1), .val (.ref s2), .val (.ref q0), .val (.ref a336), .val (.ref a337), .val (.ref a338), .val (.ref a339), .val (.ref a342), .val (.ref a345), .val (.ref a348), .val (.ref a368), .val (.ref a374), .val (.int m0), .unset, .unset, .unset, .unset] [])
              refine own_iconst X374 hx (hb hby at_383) (v := (1 : Int32)) (by decide) ?_
              refine own_goto X374 hx (hb hby at_384) 388 (by decide) (by decide) ?_
              show own_E p e below _ T374 (mkF m 388 #[.val (.int i0), .val (.int i1), .val (.int i2), .val (.int i3), .val (.int (i0 &&& (3 : Int32))), .val (.int y0), .val (.int y1), .val (.int y2), .val (.int yq), .val (.int c0), .val (.int c1), .val (.int c2), .val (.int cq), .val (.ref s0), .val (.ref s1), .val (.ref s2), .val (.ref q0), .val (.ref a336), .val (.ref a337), .val (.ref a338), .val (.ref a339), .val (.ref a342), .val (.ref a345), .val (.ref a348), .val (.ref a368), .val (.ref a374), .val (.int m0), .unset, .unset, .unset, .unset] [(.int (1 : Int32))])
              rw [(by rw [own_m, if_pos ha, if_pos hb2, if_pos hc2] : own_m y1 yq c1 cq = (1 : Int32))] at hj377
              exact hj377
            · skip
              refine own_icmpYes X374 hx (hb hby at_380) (XT.ii_ne_t hc2) 387 (by decide) (by decide) ?_
              show own_E p e below _ T374 (mkF m 387 #[.val (.int i0), .val (.int i1), .val (.int i2), .val (.int i3), .val (.int (i0 &&& (3 : Int32))), .val (.int y0), .val (.int y1), .val (.int y2), .val (.int yq), .val (.int c0), .val (.int c1), .val (.int c2), .val (.int cq), .val (.ref s0), .val (.ref s1), .val (.ref s2), .val (.ref q0), .val (.ref a336), .val (.ref a337), .val (.ref a338), .val (.ref a339), .val (.ref a342), .val (.ref a345), .val (.ref a348), .val (.ref a368), .val (.ref a374), .val (.int m0), .unset, .unset, .unset, .unset] [])
              refine own_iconst X374 hx (hb hby at_387) (v := (0 : Int32)) (by decide) ?_
              rw [(by rw [own_m, if_pos ha, if_pos hb2, if_neg hc2] : own_m y1 yq c1 cq = (0 : Int32))] at hj377
              exact hj377
          · skip
            refine own_ifYes X374 hx (hb hby at_373) (XT.i0_ne_t hb2) 383 (by decide) (by decide) ?_
            show own_E p e below _ T374 (mkF m 383 #[.val (.int i0), .val (.int i1), .val (.int i2), .val (.int i3), .val (.int (i0 &&& (3 : Int32))), .val (.int y0), .val (.int y1), .val (.int y2), .val (.int yq), .val (.int c0), .val (.int c1), .val (.int c2), .val (.int cq), .val (.ref s0), .val (.ref s1), .val (.ref s2), .val (.ref q0), .val (.ref a336), .val (.ref a337), .val (.ref a338), .val (.ref a339), .val (.ref a342), .val (.ref a345), .val (.ref a348), .val (.ref a368), .val (.ref a374), .val (.int m0), .unset, .unset, .unset, .unset] [])
            refine own_iconst X374 hx (hb hby at_383) (v := (1 : Int32)) (by decide) ?_
            refine own_goto X374 hx (hb hby at_384) 388 (by decide) (by decide) ?_
            show own_E p e below _ T374 (mkF m 388 #[.val (.int i0), .val (.int i1), .val (.int i2), .val (.int i3), .val (.int (i0 &&& (3 : Int32))), .val (.int y0), .val (.int y1), .val (.int y2), .val (.int yq), .val (.int c0), .val (.int c1), .val (.int c2), .val (.int cq), .val (.ref s0), .val (.ref s1), .val (.ref s2), .val (.ref q0), .val (.ref a336), .val (.ref a337), .val (.ref a338), .val (.ref a339), .val (.ref a342), .val (.ref a345), .val (.ref a348), .val (.ref a368), .val (.ref a374), .val (.int m0), .unset, .unset, .unset, .unset] [(.int (1 : Int32))])
            rw [(by rw [own_m, if_pos ha, if_neg hb2] : own_m y1 yq c1 cq = (1 : Int32))] at hj377
            exact hj377
        · skip
          refine own_icmpYes X374 hx (hb hby at_368) (XT.ii_ne_t ha) 387 (by decide) (by decide) ?_
          show own_E p e below _ T374 (mkF m 387 #[.val (.int i0), .val (.int i1), .val (.int i2), .val (.int i3), .val (.int (i0 &&& (3 : Int32))), .val (.int y0), .val (.int y1), .val (.int y2), .val (.int yq), .val (.int c0), .val (.int c1), .val (.int c2), .val (.int cq), .val (.ref s0), .val (.ref s1), .val (.ref s2), .val (.ref q0), .val (.ref a336), .val (.ref a337), .val (.ref a338), .val (.ref a339), .val (.ref a342), .val (.ref a345), .val (.ref a348), .val (.ref a368), .val (.ref a374), .val (.int m0), .unset, .unset, .unset, .unset] [])
          refine own_iconst X374 hx (hb hby at_387) (v := (0 : Int32)) (by decide) ?_
          rw [(by rw [own_m, if_neg ha] : own_m y1 yq c1 cq = (0 : Int32))] at hj377
          exact hj377
      have rel1 : own_seq y1 (c1.toInt8.toInt32) yq (cq.toInt8.toInt32) = own_m y1 yq c1 cq := by rw [← h_c1, ← h_cq]; exact own_rel _ _ _ _ t_y1 t_yq
      generalize h_m1 : own_m y1 yq c1 cq = m1 at rel1 ⊢
      show own_E p e below _ T374 (mkF m 388 #[.val (.int i0), .val (.int i1), .val (.int i2), .val (.int i3), .val (.int (i0 &&& (3 : Int32))), .val (.int y0), .val (.int y1), .val (.int y2), .val (.int yq), .val (.int c0), .val (.int c1), .val (.int c2), .val (.int cq), .val (.ref s0), .val (.ref s1), .val (.ref s2), .val (.ref q0), .val (.ref a336), .val (.ref a337), .val (.ref a338), .val (.ref a339), .val (.ref a342), .val (.ref a345), .val (.ref a348), .val (.ref a368), .val (.ref a374), .val (.int m0), .unset, .unset, .unset, .unset] [(.int m1)])
      refine own_istore X374 hx (hb hby at_388) (l' := #[.val (.int i0), .val (.int i1), .val (.int i2), .val (.int i3), .val (.int (i0 &&& (3 : Int32))), .val (.int y0), .val (.int y1), .val (.int y2), .val (.int yq), .val (.int c0), .val (.int c1), .val (.int c2), .val (.int cq), .val (.ref s0), .val (.ref s1), .val (.ref s2), .val (.ref q0), .val (.ref a336), .val (.ref a337), .val (.ref a338), .val (.ref a339), .val (.ref a342), .val (.ref a345), .val (.ref a348), .val (.ref a368), .val (.ref a374), .val (.int m0), .val (.int m1), .unset, .unset, .unset]) rfl ?_
      refine own_iload X374 hx (hb hby at_390) rfl ?_
      refine own_iload X374 hx (hb hby at_392) rfl ?_
      suffices hj378 : own_E p e below (own_PW s Z own_EL (own_Q0 n0) room_1.cells room_1.slots) T374 (mkF m 414 #[.val (.int i0), .val (.int i1), .val (.int i2), .val (.int i3), .val (.int (i0 &&& (3 : Int32))), .val (.int y0), .val (.int y1), .val (.int y2), .val (.int yq), .val (.int c0), .val (.int c1), .val (.int c2), .val (.int cq), .val (.ref s0), .val (.ref s1), .val (.ref s2), .val (.ref q0), .val (.ref a336), .val (.ref a337), .val (.ref a338), .val (.ref a339), .val (.ref a342), .val (.ref a345), .val (.ref a348), .val (.ref a368), .val (.ref a374), .val (.int m0), .val (.int m1), .unset, .unset, .unset] [(.int (own_m y2 yq c2 cq))]) from by
        by_cases ha : y2 = yq
        · skip
          refine own_icmpNo X374 hx (hb hby at_394) (XT.ii_ne_f ha) ?_
          show own_E p e below _ T374 (mkF m 397 #[.val (.int i0), .val (.int i1), .val (.int i2), .val (.int i3), .val (.int (i0 &&& (3 : Int32))), .val (.int y0), .val (.int y1), .val (.int y2), .val (.int yq), .val (.int c0), .val (.int c1), .val (.int c2), .val (.int cq), .val (.ref s0), .val (.ref s1), .val (.ref s2), .val (.ref q0), .val (.ref a336), .val (.ref a337), .val (.ref a338), .val (.ref a339), .val (.ref a342), .val (.ref a345), .val (.ref a348), .val (.ref a368), .val (.ref a374), .val (.int m0), .val (.int m1), .unset, .unset, .unset] [])
          refine own_iload X374 hx (hb hby at_397) rfl ?_
          by_cases hb2 : y2 = 0
          · skip
            refine own_ifNo X374 hx (hb hby at_399) (XT.i0_ne_f hb2) ?_
            show own_E p e below _ T374 (mkF m 402 #[.val (.int i0), .val (.int i1), .val (.int i2), .val (.int i3), .val (.int (i0 &&& (3 : Int32))), .val (.int y0), .val (.int y1), .val (.int y2), .val (.int yq), .val (.int c0), .val (.int c1), .val (.int c2), .val (.int cq), .val (.ref s0), .val (.ref s1), .val (.ref s2), .val (.ref q0), .val (.ref a336), .val (.ref a337), .val (.ref a338), .val (.ref a339), .val (.ref a342), .val (.ref a345), .val (.ref a348), .val (.ref a368), .val (.ref a374), .val (.int m0), .val (.int m1), .unset, .unset, .unset] [])
            refine own_iload X374 hx (hb hby at_402) rfl ?_
            refine own_iload X374 hx (hb hby at_404) rfl ?_
            by_cases hc2 : c2 = cq
            · skip
              refine own_icmpNo X374 hx (hb hby at_406) (XT.ii_ne_f hc2) ?_
              show own_E p e below _ T374 (mkF m 409 #[.val (.int i0), .val (.int i1), .val (.int i2), .val (.int i3), .val (.int (i0 &&& (3 : Int32))), .val (.int y0), .val (.int y1), .val (.int y2), .val (.int yq), .val (.int c0), .val (.int c1), .val (.int c2), .val (.int cq), .val (.ref s0), .val (.ref s1), .val (.ref s2), .val (.ref q0), .val (.ref a336), .val (.ref a337), .val (.ref a338), .val (.ref a339), .val (.ref a342), .val (.ref a345), .val (.ref a348), .val (.ref a368), .val (.ref a374), .val (.int m0), .val (.int m1), .unset, .unset, .unset] [])
              refine own_iconst X374 hx (hb hby at_409) (v := (1 : Int32)) (by decide) ?_
              refine own_goto X374 hx (hb hby at_410) 414 (by decide) (by decide) ?_
              show own_E p e below _ T374 (mkF m 414 #[.val (.int i0), .val (.int i1), .val (.int i2), .val (.int i3), .val (.int (i0 &&& (3 : Int32))), .val (.int y0), .val (.int y1), .val (.int y2), .val (.int yq), .val (.int c0), .val (.int c1), .val (.int c2), .val (.int cq), .val (.ref s0), .val (.ref s1), .val (.ref s2), .val (.ref q0), .val (.ref a336), .val (.ref a337), .val (.ref a338), .val (.ref a339), .val (.ref a342), .val (.ref a345), .val (.ref a348), .val (.ref a368), .val (.ref a374), .val (.int m0), .val (.int m1), .unset, .unset, .unset] [(.int (1 : Int32))])
              rw [(by rw [own_m, if_pos ha, if_pos hb2, if_pos hc2] : own_m y2 yq c2 cq = (1 : Int32))] at hj378
              exact hj378
            · skip
              refine own_icmpYes X374 hx (hb hby at_406) (XT.ii_ne_t hc2) 413 (by decide) (by decide) ?_
              show own_E p e below _ T374 (mkF m 413 #[.val (.int i0), .val (.int i1), .val (.int i2), .val (.int i3), .val (.int (i0 &&& (3 : Int32))), .val (.int y0), .val (.int y1), .val (.int y2), .val (.int yq), .val (.int c0), .val (.int c1), .val (.int c2), .val (.int cq), .val (.ref s0), .val (.ref s1), .val (.ref s2), .val (.ref q0), .val (.ref a336), .val (.ref a337), .val (.ref a338), .val (.ref a339), .val (.ref a342), .val (.ref a345), .val (.ref a348), .val (.ref a368), .val (.ref a374), .val (.int m0), .val (.int m1), .unset, .unset, .unset] [])
              refine own_iconst X374 hx (hb hby at_413) (v := (0 : Int32)) (by decide) ?_
              rw [(by rw [own_m, if_pos ha, if_pos hb2, if_neg hc2] : own_m y2 yq c2 cq = (0 : Int32))] at hj378
              exact hj378
          · skip
            refine own_ifYes X374 hx (hb hby at_399) (XT.i0_ne_t hb2) 409 (by decide) (by decide) ?_
            show own_E p e below _ T374 (mkF m 409 #[.val (.int i0), .val (.int i1), .val (.int i2), .val (.int i3), .val (.int (i0 &&& (3 : Int32))), .val (.int y0), .val (.int y1), .val (.int y2), .val (.int yq), .val (.int c0), .val (.int c1), .val (.int c2), .val (.int cq), .val (.ref s0), .val (.ref s1), .val (.ref s2), .val (.ref q0), .val (.ref a336), .val (.ref a337), .val (.ref a338), .val (.ref a339), .val (.ref a342), .val (.ref a345), .val (.ref a348), .val (.ref a368), .val (.ref a374), .val (.int m0), .val (.int m1), .unset, .unset, .unset] [])
            refine own_iconst X374 hx (hb hby at_409) (v := (1 : Int32)) (by decide) ?_
            refine own_goto X374 hx (hb hby at_410) 414 (by decide) (by decide) ?_
            show own_E p e below _ T374 (mkF m 414 #[.val (.int i0), .val (.int i1), .val (.int i2), .val (.int i3), .val (.int (i0 &&& (3 : Int32))), .val (.int y0), .val (.int y1), .val (.int y2), .val (.int yq), .val (.int c0), .val (.int c1), .val (.int c2), .val (.int cq), .val (.ref s0), .val (.ref s1), .val (.ref s2), .val (.ref q0), .val (.ref a336), .val (.ref a337), .val (.ref a338), .val (.ref a339), .val (.ref a342), .val (.ref a345), .val (.ref a348), .val (.ref a368), .val (.ref a374), .val (.int m0), .val (.int m1), .unset, .unset, .unset] [(.int (1 : Int32))])
            rw [(by rw [own_m, if_pos ha, if_neg hb2] : own_m y2 yq c2 cq = (1 : Int32))] at hj378
            exact hj378
        · skip
          refine own_icmpYes X374 hx (hb hby at_394) (XT.ii_ne_t ha) 413 (by decide) (by decide) ?_
          show own_E p e below _ T374 (mkF m 413 #[.val (.int i0), .val (.int i1), .val (.int i2), .val (.int i3), .val (.int (i0 &&& (3 : Int32))), .val (.int y0), .val (.int y1), .val (.int y2), .val (.int yq), .val (.int c0), .val (.int c1), .val (.int c2), .val (.int cq), .val (.ref s0), .val (.ref s1), .val (.ref s2), .val (.ref q0), .val (.ref a336), .val (.ref a337), .val (.ref a338), .val (.ref a339), .val (.ref a342), .val (.ref a345), .val (.ref a348), .val (.ref a368), .val (.ref a374), .val (.int m0), .val (.int m1), .unset, .unset, .unset] [])
          refine own_iconst X374 hx (hb hby at_413) (v := (0 : Int32)) (by decide) ?_
          rw [(by rw [own_m, if_neg ha] : own_m y2 yq c2 cq = (0 : Int32))] at hj378
          exact hj378
      have rel2 : own_seq y2 (c2.toInt8.toInt32) yq (cq.toInt8.toInt32) = own_m y2 yq c2 cq := by rw [← h_c2, ← h_cq]; exact own_rel _ _ _ _ t_y2 t_yq
      generalize h_m2 : own_m y2 yq c2 cq = m2 at rel2 ⊢
      show own_E p e below _ T374 (mkF m 414 #[.val (.int i0), .val (.int i1), .val (.int i2), .val (.int i3), .val (.int (i0 &&& (3 : Int32))), .val (.int y0), .val (.int y1), .val (.int y2), .val (.int yq), .val (.int c0), .val (.int c1), .val (.int c2), .val (.int cq), .val (.ref s0), .val (.ref s1), .val (.ref s2), .val (.ref q0), .val (.ref a336), .val (.ref a337), .val (.ref a338), .val (.ref a339), .val (.ref a342), .val (.ref a345), .val (.ref a348), .val (.ref a368), .val (.ref a374), .val (.int m0), .val (.int m1), .unset, .unset, .unset] [(.int m2)])
      refine own_istore X374 hx (hb hby at_414) (l' := #[.val (.int i0), .val (.int i1), .val (.int i2), .val (.int i3), .val (.int (i0 &&& (3 : Int32))), .val (.int y0), .val (.int y1), .val (.int y2), .val (.int yq), .val (.int c0), .val (.int c1), .val (.int c2), .val (.int cq), .val (.ref s0), .val (.ref s1), .val (.ref s2), .val (.ref q0), .val (.ref a336), .val (.ref a337), .val (.ref a338), .val (.ref a339), .val (.ref a342), .val (.ref a345), .val (.ref a348), .val (.ref a368), .val (.ref a374), .val (.int m0), .val (.int m1), .val (.int m2), .unset, .unset]) rfl ?_
      refine own_iload X374 hx (hb hby at_416) rfl ?_
      refine own_iconst X374 hx (hb hby at_418) (v := (2 : Int32)) (by decide) ?_
      refine own_icmpYes X374 hx (hb hby at_419) (XT.ii_le_t (fun q => h1c (Int32.lt_trans (by decide : (1 : Int32) < 2) q))) 437 (by decide) (by decide) ?_
      show own_E p e below _ T374 (mkF m 437 #[.val (.int i0), .val (.int i1), .val (.int i2), .val (.int i3), .val (.int (i0 &&& (3 : Int32))), .val (.int y0), .val (.int y1), .val (.int y2), .val (.int yq), .val (.int c0), .val (.int c1), .val (.int c2), .val (.int cq), .val (.ref s0), .val (.ref s1), .val (.ref s2), .val (.ref q0), .val (.ref a336), .val (.ref a337), .val (.ref a338), .val (.ref a339), .val (.ref a342), .val (.ref a345), .val (.ref a348), .val (.ref a368), .val (.ref a374), .val (.int m0), .val (.int m1), .val (.int m2), .unset, .unset] [])
      refine own_iload X374 hx (hb hby at_437) rfl ?_
      refine own_iconst X374 hx (hb hby at_439) (v := (1 : Int32)) (by decide) ?_
      refine own_icmpYes X374 hx (hb hby at_440) (XT.ii_le_t h1c) 458 (by decide) (by decide) ?_
      show own_E p e below _ T374 (mkF m 458 #[.val (.int i0), .val (.int i1), .val (.int i2), .val (.int i3), .val (.int (i0 &&& (3 : Int32))), .val (.int y0), .val (.int y1), .val (.int y2), .val (.int yq), .val (.int c0), .val (.int c1), .val (.int c2), .val (.int cq), .val (.ref s0), .val (.ref s1), .val (.ref s2), .val (.ref q0), .val (.ref a336), .val (.ref a337), .val (.ref a338), .val (.ref a339), .val (.ref a342), .val (.ref a345), .val (.ref a348), .val (.ref a368), .val (.ref a374), .val (.int m0), .val (.int m1), .val (.int m2), .unset, .unset] [])
      refine own_iload X374 hx (hb hby at_458) rfl ?_
      refine own_ifNo X374 hx (hb hby at_460) (XT.i0_le_f h0c) ?_
      show own_E p e below _ T374 (mkF m 463 #[.val (.int i0), .val (.int i1), .val (.int i2), .val (.int i3), .val (.int (i0 &&& (3 : Int32))), .val (.int y0), .val (.int y1), .val (.int y2), .val (.int yq), .val (.int c0), .val (.int c1), .val (.int c2), .val (.int cq), .val (.ref s0), .val (.ref s1), .val (.ref s2), .val (.ref q0), .val (.ref a336), .val (.ref a337), .val (.ref a338), .val (.ref a339), .val (.ref a342), .val (.ref a345), .val (.ref a348), .val (.ref a368), .val (.ref a374), .val (.int m0), .val (.int m1), .val (.int m2), .unset, .unset] [])
      refine own_iload X374 hx (hb hby at_463) rfl ?_
      by_cases hm0 : m0 = 0
      · skip
        refine own_ifYes X374 hx (hb hby at_465) (XT.i0_eq_t hm0) 478 (by decide) (by decide) ?_
        show own_E p e below _ T374 (mkF m 478 #[.val (.int i0), .val (.int i1), .val (.int i2), .val (.int i3), .val (.int (i0 &&& (3 : Int32))), .val (.int y0), .val (.int y1), .val (.int y2), .val (.int yq), .val (.int c0), .val (.int c1), .val (.int c2), .val (.int cq), .val (.ref s0), .val (.ref s1), .val (.ref s2), .val (.ref q0), .val (.ref a336), .val (.ref a337), .val (.ref a338), .val (.ref a339), .val (.ref a342), .val (.ref a345), .val (.ref a348), .val (.ref a368), .val (.ref a374), .val (.int m0), .val (.int m1), .val (.int m2), .unset, .unset] [])
        refine own_iconst X374 hx (hb hby at_478) (v := (0 : Int32)) (by decide) ?_
        refine own_istore X374 hx (hb hby at_479) (l' := #[.val (.int i0), .val (.int i1), .val (.int i2), .val (.int i3), .val (.int (i0 &&& (3 : Int32))), .val (.int y0), .val (.int y1), .val (.int y2), .val (.int yq), .val (.int c0), .val (.int c1), .val (.int c2), .val (.int cq), .val (.ref s0), .val (.ref s1), .val (.ref s2), .val (.ref q0), .val (.ref a336), .val (.ref a337), .val (.ref a338), .val (.ref a339), .val (.ref a342), .val (.ref a345), .val (.ref a348), .val (.ref a368), .val (.ref a374), .val (.int m0), .val (.int m1), .val (.int m2), .val (.int (0 : Int32)), .unset]) rfl ?_
        obtain ⟨a384, T384, h384, k384, b384, kc384, X384, e384, E384, hS, hk384, hZ, hown, A384, F384, G384, V384, ta384, tb384, D384, Lt384, Sf384, st384⟩ := ldcCH X374 hx hZ hown (own_w hw 127 rfl) wS (rfl : T374.heap = T374.heap) hS (by omega) hEL (by decide) C374.1 (vs := []) (z := 0) ⟨by decide, by decide +kernel⟩ (by decide) rfl (g := (mkF m 481 #[.val (.int i0), .val (.int i1), .val (.int i2), .val (.int i3), .val (.int (i0 &&& (3 : Int32))), .val (.int y0), .val (.int y1), .val (.int y2), .val (.int yq), .val (.int c0), .val (.int c1), .val (.int c2), .val (.int cq), .val (.ref s0), .val (.ref s1), .val (.ref s2), .val (.ref q0), .val (.ref a336), .val (.ref a337), .val (.ref a338), .val (.ref a339), .val (.ref a342), .val (.ref a345), .val (.ref a348), .val (.ref a368), .val (.ref a374), .val (.int m0), .val (.int m1), .val (.int m2), .val (.int (0 : Int32)), .unset] [])) rfl (hb hby at_481) (n := 0) (by decide) (by decide) (by decide) (by decide)
        have z384 : T374.heap.size ≤ h384.size := E384.1
        have C384 := C374.trans D384
        refine own_go st384 ?_
        have lt385 := own_lt (A384).lt
        have lt386 := own_lt (V384).lt
        show own_E p e below _ T384 (mkF m 483 #[.val (.int i0), .val (.int i1), .val (.int i2), .val (.int i3), .val (.int (i0 &&& (3 : Int32))), .val (.int y0), .val (.int y1), .val (.int y2), .val (.int yq), .val (.int c0), .val (.int c1), .val (.int c2), .val (.int cq), .val (.ref s0), .val (.ref s1), .val (.ref s2), .val (.ref q0), .val (.ref a336), .val (.ref a337), .val (.ref a338), .val (.ref a339), .val (.ref a342), .val (.ref a345), .val (.ref a348), .val (.ref a368), .val (.ref a374), .val (.int m0), .val (.int m1), .val (.int m2), .val (.int (0 : Int32)), .unset] [(.ref a384)])
        refine own_astore X384 hx (hb hby at_483) rfl (l' := #[.val (.int i0), .val (.int i1), .val (.int i2), .val (.int i3), .val (.int (i0 &&& (3 : Int32))), .val (.int y0), .val (.int y1), .val (.int y2), .val (.int yq), .val (.int c0), .val (.int c1), .val (.int c2), .val (.int cq), .val (.ref s0), .val (.ref s1), .val (.ref s2), .val (.ref q0), .val (.ref a336), .val (.ref a337), .val (.ref a338), .val (.ref a339), .val (.ref a342), .val (.ref a345), .val (.ref a348), .val (.ref a368), .val (.ref a374), .val (.int m0), .val (.int m1), .val (.int m2), .val (.int (0 : Int32)), .val (.ref a384)]) rfl ?_
        refine own_iload X384 hx (hb hby at_485) rfl ?_
        refine own_ifNo X384 hx (hb hby at_487) (by decide +kernel) ?_
        show own_E p e below _ T384 (mkF m 490 #[.val (.int i0), .val (.int i1), .val (.int i2), .val (.int i3), .val (.int (i0 &&& (3 : Int32))), .val (.int y0), .val (.int y1), .val (.int y2), .val (.int yq), .val (.int c0), .val (.int c1), .val (.int c2), .val (.int cq), .val (.ref s0), .val (.ref s1), .val (.ref s2), .val (.ref q0), .val (.ref a336), .val (.ref a337), .val (.ref a338), .val (.ref a339), .val (.ref a342), .val (.ref a345), .val (.ref a348), .val (.ref a368), .val (.ref a374), .val (.int m0), .val (.int m1), .val (.int m2), .val (.int (0 : Int32)), .val (.ref a384)] [])
        refine own_aload X384 hx (hb hby at_490) rfl rfl ?_
        have FR : Fld Z h384 a374 "java/util/Optional" "value" "Ljava/lang/Object;" .null := by have q := (F374.ext E384); rw [own_pick0 (rel0 ▸ hm0)] at q; exact q
        obtain ⟨cq387, kq387, qa387, qb387, qc387⟩ := isOf hZ e384 (A374.ext E384)
        obtain ⟨_, _, ⟨T387, L387, k387, n387⟩, -, X387, ⟨Lc387, hQ387, l387, y387, z387⟩, st387⟩ := X384.virtualBack hx (y := (⟨"java/util/Optional", "isPresent", "()Z"⟩ : MethodName)) (z := (⟨"java/util/Optional", "isPresent", "()Z"⟩ : MethodName)) hown (mvT hZ (own_w hw 130 rfl)) (mvT hZ (own_w hw 131 rfl)) (notFace_of_selects (args := #[]) (mvT hZ (own_w hw 133 rfl))) (mvT hZ (own_w hw 133 rfl)) (mvT hZ (own_w hw 132 rfl)) (by decide) (backOf (W := 0) (own_rmP0 l Z a0 hw [] a374 h384 n0 (by omega) FR) hZ (own_w hw 134 rfl) (own_w hw 86 rfl) (by decide) (by decide)) qa387 qc387 (g := (mkF m 492 #[.val (.int i0), .val (.int i1), .val (.int i2), .val (.int i3), .val (.int (i0 &&& (3 : Int32))), .val (.int y0), .val (.int y1), .val (.int y2), .val (.int yq), .val (.int c0), .val (.int c1), .val (.int c2), .val (.int cq), .val (.ref s0), .val (.ref s1), .val (.ref s2), .val (.ref q0), .val (.ref a336), .val (.ref a337), .val (.ref a338), .val (.ref a339), .val (.ref a342), .val (.ref a345), .val (.ref a348), .val (.ref a368), .val (.ref a374), .val (.int m0), .val (.int m1), .val (.int m2), .val (.int (0 : Int32)), .val (.ref a384)] [(.ref a374)])) rfl (by rw [hml]; rfl) (Steps.refl _) (argsL := []) (rest := []) (lenOf own_pd14 rfl) rfl (by show 2 * 0 + _ ≤ _; exact Nat.le_of_eq rfl) (hb hby at_492) (fun _ _ => ⟨rfl, e384, Nat.le_of_ble_eq_true rfl, Nat.le_of_ble_eq_true rfl⟩)
        dsimp only [Pt.U, Pt.locs, Pt.cells, Pt.slots] at X387 l387 y387 z387 st387 hQ387
        subst l387 y387 z387
        obtain ⟨rfl, M387, e387⟩ := hQ387
        have N387 := Fr.app N374 M387
        refine own_go (fun _ k => st387.trans k) ?_
        show own_E p e below _ T387 (mkF m 495 #[.val (.int i0), .val (.int i1), .val (.int i2), .val (.int i3), .val (.int (i0 &&& (3 : Int32))), .val (.int y0), .val (.int y1), .val (.int y2), .val (.int yq), .val (.int c0), .val (.int c1), .val (.int c2), .val (.int cq), .val (.ref s0), .val (.ref s1), .val (.ref s2), .val (.ref q0), .val (.ref a336), .val (.ref a337), .val (.ref a338), .val (.ref a339), .val (.ref a342), .val (.ref a345), .val (.ref a348), .val (.ref a368), .val (.ref a374), .val (.int m0), .val (.int m1), .val (.int m2), .val (.int (0 : Int32)), .val (.ref a384)] [(.int (0 : Int32))])
        refine own_ifNo X387 hx (hb hby at_495) (by decide +kernel) ?_
        show own_E p e below _ T387 (mkF m 498 #[.val (.int i0), .val (.int i1), .val (.int i2), .val (.int i3), .val (.int (i0 &&& (3 : Int32))), .val (.int y0), .val (.int y1), .val (.int y2), .val (.int yq), .val (.int c0), .val (.int c1), .val (.int c2), .val (.int cq), .val (.ref s0), .val (.ref s1), .val (.ref s2), .val (.ref q0), .val (.ref a336), .val (.ref a337), .val (.ref a338), .val (.ref a339), .val (.ref a342), .val (.ref a345), .val (.ref a348), .val (.ref a368), .val (.ref a374), .val (.int m0), .val (.int m1), .val (.int m2), .val (.int (0 : Int32)), .val (.ref a384)] [])
        refine own_iconst X387 hx (hb hby at_498) (v := (1 : Int32)) (by decide) ?_
        refine own_goto X387 hx (hb hby at_499) 503 (by decide) (by decide) ?_
        show own_E p e below _ T387 (mkF m 503 #[.val (.int i0), .val (.int i1), .val (.int i2), .val (.int i3), .val (.int (i0 &&& (3 : Int32))), .val (.int y0), .val (.int y1), .val (.int y2), .val (.int yq), .val (.int c0), .val (.int c1), .val (.int c2), .val (.int cq), .val (.ref s0), .val (.ref s1), .val (.ref s2), .val (.ref q0), .val (.ref a336), .val (.ref a337), .val (.ref a338), .val (.ref a339), .val (.ref a342), .val (.ref a345), .val (.ref a348), .val (.ref a368), .val (.ref a374), .val (.int m0), .val (.int m1), .val (.int m2), .val (.int (0 : Int32)), .val (.ref a384)] [(.int (1 : Int32))])
        refine own_retNW X387 hx hS (by rw [e387]; omega) hZ hEL hh (by rw [e387]; exact C384) (t := .boolean) Bd.returns (by simp) hlk (hb hby at_503) (z' := (1 : Int32)) (by decide) (by decide) (by decide) ?_
        rw [e387]
        exact ⟨rfl, N387⟩
      · skip
        refine own_ifNo X374 hx (hb hby at_465) (XT.i0_eq_f hm0) ?_
        show own_E p e below _ T374 (mkF m 468 #[.val (.int i0), .val (.int i1), .val (.int i2), .val (.int i3), .val (.int (i0 &&& (3 : Int32))), .val (.int y0), .val (.int y1), .val (.int y2), .val (.int yq), .val (.int c0), .val (.int c1), .val (.int c2), .val (.int cq), .val (.ref s0), .val (.ref s1), .val (.ref s2), .val (.ref q0), .val (.ref a336), .val (.ref a337), .val (.ref a338), .val (.ref a339), .val (.ref a342), .val (.ref a345), .val (.ref a348), .val (.ref a368), .val (.ref a374), .val (.int m0), .val (.int m1), .val (.int m2), .unset, .unset] [])
        refine own_iconst X374 hx (hb hby at_468) (v := (1 : Int32)) (by decide) ?_
        refine own_istore X374 hx (hb hby at_469) (l' := #[.val (.int i0), .val (.int i1), .val (.int i2), .val (.int i3), .val (.int (i0 &&& (3 : Int32))), .val (.int y0), .val (.int y1), .val (.int y2), .val (.int yq), .val (.int c0), .val (.int c1), .val (.int c2), .val (.int cq), .val (.ref s0), .val (.ref s1), .val (.ref s2), .val (.ref q0), .val (.ref a336), .val (.ref a337), .val (.ref a338), .val (.ref a339), .val (.ref a342), .val (.ref a345), .val (.ref a348), .val (.ref a368), .val (.ref a374), .val (.int m0), .val (.int m1), .val (.int m2), .val (.int (1 : Int32)), .unset]) rfl ?_
        refine own_aload X374 hx (hb hby at_471) rfl rfl ?_
        refine own_astore X374 hx (hb hby at_473) rfl (l' := #[.val (.int i0), .val (.int i1), .val (.int i2), .val (.int i3), .val (.int (i0 &&& (3 : Int32))), .val (.int y0), .val (.int y1), .val (.int y2), .val (.int yq), .val (.int c0), .val (.int c1), .val (.int c2), .val (.int cq), .val (.ref s0), .val (.ref s1), .val (.ref s2), .val (.ref q0), .val (.ref a336), .val (.ref a337), .val (.ref a338), .val (.ref a339), .val (.ref a342), .val (.ref a345), .val (.ref a348), .val (.ref a368), .val (.ref a374), .val (.int m0), .val (.int m1), .val (.int m2), .val (.int (1 : Int32)), .val (.ref a336)]) rfl ?_
        refine own_goto X374 hx (hb hby at_475) 485 (by decide) (by decide) ?_
        show own_E p e below _ T374 (mkF m 485 #[.val (.int i0), .val (.int i1), .val (.int i2), .val (.int i3), .val (.int (i0 &&& (3 : Int32))), .val (.int y0), .val (.int y1), .val (.int y2), .val (.int yq), .val (.int c0), .val (.int c1), .val (.int c2), .val (.int cq), .val (.ref s0), .val (.ref s1), .val (.ref s2), .val (.ref q0), .val (.ref a336), .val (.ref a337), .val (.ref a338), .val (.ref a339), .val (.ref a342), .val (.ref a345), .val (.ref a348), .val (.ref a368), .val (.ref a374), .val (.int m0), .val (.int m1), .val (.int m2), .val (.int (1 : Int32)), .val (.ref a336)] [])
        refine own_iload X374 hx (hb hby at_485) rfl ?_
        refine own_ifYes X374 hx (hb hby at_487) (by decide +kernel) 504 (by decide) (by decide) ?_
        show own_E p e below _ T374 (mkF m 504 #[.val (.int i0), .val (.int i1), .val (.int i2), .val (.int i3), .val (.int (i0 &&& (3 : Int32))), .val (.int y0), .val (.int y1), .val (.int y2), .val (.int yq), .val (.int c0), .val (.int c1), .val (.int c2), .val (.int cq), .val (.ref s0), .val (.ref s1), .val (.ref s2), .val (.ref q0), .val (.ref a336), .val (.ref a337), .val (.ref a338), .val (.ref a339), .val (.ref a342), .val (.ref a345), .val (.ref a348), .val (.ref a368), .val (.ref a374), .val (.int m0), .val (.int m1), .val (.int m2), .val (.int (1 : Int32)), .val (.ref a336)] [])
        refine own_aload X374 hx (hb hby at_504) rfl rfl ?_
        have FR : Fld Z T374.heap a374 "java/util/Optional" "value" "Ljava/lang/Object;" (.ref a336) := by have q := F374; rw [own_pick1 (rel0 ▸ hm0)] at q; exact q
        obtain ⟨cq379, kq379, qa379, qb379, qc379⟩ := isOf hZ (rfl : T374.heap = T374.heap) A374
        obtain ⟨_, _, ⟨T379, L379, k379, n379⟩, -, X379, ⟨Lc379, hQ379, l379, y379, z379⟩, st379⟩ := X374.virtualBack hx (y := (⟨"java/util/Optional", "isPresent", "()Z"⟩ : MethodName)) (z := (⟨"java/util/Optional", "isPresent", "()Z"⟩ : MethodName)) hown (mvT hZ (own_w hw 130 rfl)) (mvT hZ (own_w hw 131 rfl)) (notFace_of_selects (args := #[]) (mvT hZ (own_w hw 133 rfl))) (mvT hZ (own_w hw 133 rfl)) (mvT hZ (own_w hw 132 rfl)) (by decide) (backOf (W := 0) (own_rmP1 l Z a0 hw [] a374 a336 T374.heap n0 (by omega) FR) hZ (own_w hw 134 rfl) (own_w hw 86 rfl) (by decide) (by decide)) qa379 qc379 (g := (mkF m 506 #[.val (.int i0), .val (.int i1), .val (.int i2), .val (.int i3), .val (.int (i0 &&& (3 : Int32))), .val (.int y0), .val (.int y1), .val (.int y2), .val (.int yq), .val (.int c0), .val (.int c1), .val (.int c2), .val (.int cq), .val (.ref s0), .val (.ref s1), .val (.ref s2), .val (.ref q0), .val (.ref a336), .val (.ref a337), .val (.ref a338), .val (.ref a339), .val (.ref a342), .val (.ref a345), .val (.ref a348), .val (.ref a368), .val (.ref a374), .val (.int m0), .val (.int m1), .val (.int m2), .val (.int (1 : Int32)), .val (.ref a336)] [(.ref a374)])) rfl (by rw [hml]; rfl) (Steps.refl _) (argsL := []) (rest := []) (lenOf own_pd14 rfl) rfl (by show 2 * 0 + _ ≤ _; exact Nat.le_of_eq rfl) (hb hby at_506) (fun _ _ => ⟨rfl, (rfl : T374.heap = T374.heap), Nat.le_of_ble_eq_true rfl, Nat.le_of_ble_eq_true rfl⟩)
        dsimp only [Pt.U, Pt.locs, Pt.cells, Pt.slots] at X379 l379 y379 z379 st379 hQ379
        subst l379 y379 z379
        obtain ⟨rfl, M379, e379⟩ := hQ379
        have N379 := Fr.app N374 M379
        refine own_go (fun _ k => st379.trans k) ?_
        show own_E p e below _ T379 (mkF m 509 #[.val (.int i0), .val (.int i1), .val (.int i2), .val (.int i3), .val (.int (i0 &&& (3 : Int32))), .val (.int y0), .val (.int y1), .val (.int y2), .val (.int yq), .val (.int c0), .val (.int c1), .val (.int c2), .val (.int cq), .val (.ref s0), .val (.ref s1), .val (.ref s2), .val (.ref q0), .val (.ref a336), .val (.ref a337), .val (.ref a338), .val (.ref a339), .val (.ref a342), .val (.ref a345), .val (.ref a348), .val (.ref a368), .val (.ref a374), .val (.int m0), .val (.int m1), .val (.int m2), .val (.int (1 : Int32)), .val (.ref a336)] [(.int (1 : Int32))])
        refine own_ifNo X379 hx (hb hby at_509) (by decide +kernel) ?_
        show own_E p e below _ T379 (mkF m 512 #[.val (.int i0), .val (.int i1), .val (.int i2), .val (.int i3), .val (.int (i0 &&& (3 : Int32))), .val (.int y0), .val (.int y1), .val (.int y2), .val (.int yq), .val (.int c0), .val (.int c1), .val (.int c2), .val (.int cq), .val (.ref s0), .val (.ref s1), .val (.ref s2), .val (.ref q0), .val (.ref a336), .val (.ref a337), .val (.ref a338), .val (.ref a339), .val (.ref a342), .val (.ref a345), .val (.ref a348), .val (.ref a368), .val (.ref a374), .val (.int m0), .val (.int m1), .val (.int m2), .val (.int (1 : Int32)), .val (.ref a336)] [])
        refine own_aload X379 hx (hb hby at_512) rfl rfl ?_
        obtain ⟨cq380, kq380, qa380, qb380, qc380⟩ := isOf hZ e379 A374
        obtain ⟨_, _, ⟨T380, L380, k380, n380⟩, -, X380, ⟨Lc380, hQ380, l380, y380, z380⟩, st380⟩ := X379.virtualBack hx (y := (⟨"java/util/Optional", "get", "()Ljava/lang/Object;"⟩ : MethodName)) (z := (⟨"java/util/Optional", "get", "()Ljava/lang/Object;"⟩ : MethodName)) hown (mvT hZ (own_w hw 217 rfl)) (mvT hZ (own_w hw 218 rfl)) (notFace_of_selects (args := #[]) (mvT hZ (own_w hw 220 rfl))) (mvT hZ (own_w hw 220 rfl)) (mvT hZ (own_w hw 219 rfl)) (by decide) (backOf (W := 0) (own_rmOG l Z a0 hw [] a374 a336 T374.heap n0 (by omega) FR) hZ (own_w hw 221 rfl) (own_w hw 86 rfl) (by decide) (by decide)) qa380 qc380 (g := (mkF m 514 #[.val (.int i0), .val (.int i1), .val (.int i2), .val (.int i3), .val (.int (i0 &&& (3 : Int32))), .val (.int y0), .val (.int y1), .val (.int y2), .val (.int yq), .val (.int c0), .val (.int c1), .val (.int c2), .val (.int cq), .val (.ref s0), .val (.ref s1), .val (.ref s2), .val (.ref q0), .val (.ref a336), .val (.ref a337), .val (.ref a338), .val (.ref a339), .val (.ref a342), .val (.ref a345), .val (.ref a348), .val (.ref a368), .val (.ref a374), .val (.int m0), .val (.int m1), .val (.int m2), .val (.int (1 : Int32)), .val (.ref a336)] [(.ref a374)])) rfl (by rw [hml]; rfl) (Steps.refl _) (argsL := []) (rest := []) (lenOf own_pd15 rfl) rfl (by show 2 * 0 + _ ≤ _; exact Nat.le_of_eq rfl) (hb hby at_514) (fun _ _ => ⟨rfl, e379, Nat.le_of_ble_eq_true rfl, Nat.le_of_ble_eq_true rfl⟩)
        dsimp only [Pt.U, Pt.locs, Pt.cells, Pt.slots] at X380 l380 y380 z380 st380 hQ380
        subst l380 y380 z380
        obtain ⟨rfl, M380, e380⟩ := hQ380
        have N380 := Fr.app N379 M380
        refine own_go (fun _ k => st380.trans k) ?_
        show own_E p e below _ T380 (mkF m 517 #[.val (.int i0), .val (.int i1), .val (.int i2), .val (.int i3), .val (.int (i0 &&& (3 : Int32))), .val (.int y0), .val (.int y1), .val (.int y2), .val (.int yq), .val (.int c0), .val (.int c1), .val (.int c2), .val (.int cq), .val (.ref s0), .val (.ref s1), .val (.ref s2), .val (.ref q0), .val (.ref a336), .val (.ref a337), .val (.ref a338), .val (.ref a339), .val (.ref a342), .val (.ref a345), .val (.ref a348), .val (.ref a368), .val (.ref a374), .val (.int m0), .val (.int m1), .val (.int m2), .val (.int (1 : Int32)), .val (.ref a336)] [(.ref a336)])
        have lt381 := own_lt ((own_Sx (own_Sk F336 (((((((((((((((((Keep.refl _ _).trans K337 all0).trans K338 all0).ext E339).trans K341 (allS (Or.inr (by omega)) all0)).ext E342).trans K344 (allS (Or.inr (by omega)) all0)).ext E345).trans K347 (allS (Or.inr (by omega)) all0)).ext E348).trans K350 (allS (Or.inr (by omega)) all0)).trans K366 (allS (Or.inr (by omega)) all0)).ext E368).ext E370).trans K372 (allS (Or.inr (by omega)) all0)).trans K373 (allS (Or.inr (by omega)) all0)).trans K374 all0)))).lt
        obtain ⟨T382, X382, e382, st382⟩ := castY X380 hx hZ hown (own_w hw 222 rfl) e380 (Ins.self (own_Sx (own_Sk F336 (((((((((((((((((Keep.refl _ _).trans K337 all0).trans K338 all0).ext E339).trans K341 (allS (Or.inr (by omega)) all0)).ext E342).trans K344 (allS (Or.inr (by omega)) all0)).ext E345).trans K347 (allS (Or.inr (by omega)) all0)).ext E348).trans K350 (allS (Or.inr (by omega)) all0)).trans K366 (allS (Or.inr (by omega)) all0)).ext E368).ext E370).trans K372 (allS (Or.inr (by omega)) all0)).trans K373 (allS (Or.inr (by omega)) all0)).trans K374 all0)))) (g := (mkF m 517 #[.val (.int i0), .val (.int i1), .val (.int i2), .val (.int i3), .val (.int (i0 &&& (3 : Int32))), .val (.int y0), .val (.int y1), .val (.int y2), .val (.int yq), .val (.int c0), .val (.int c1), .val (.int c2), .val (.int cq), .val (.ref s0), .val (.ref s1), .val (.ref s2), .val (.ref q0), .val (.ref a336), .val (.ref a337), .val (.ref a338), .val (.ref a339), .val (.ref a342), .val (.ref a345), .val (.ref a348), .val (.ref a368), .val (.ref a374), .val (.int m0), .val (.int m1), .val (.int m2), .val (.int (1 : Int32)), .val (.ref a336)] [(.ref a336)])) rfl rfl (hb hby at_517)
        refine own_go st382 ?_
        show own_E p e below _ T382 (mkF m 520 #[.val (.int i0), .val (.int i1), .val (.int i2), .val (.int i3), .val (.int (i0 &&& (3 : Int32))), .val (.int y0), .val (.int y1), .val (.int y2), .val (.int yq), .val (.int c0), .val (.int c1), .val (.int c2), .val (.int cq), .val (.ref s0), .val (.ref s1), .val (.ref s2), .val (.ref q0), .val (.ref a336), .val (.ref a337), .val (.ref a338), .val (.ref a339), .val (.ref a342), .val (.ref a345), .val (.ref a348), .val (.ref a368), .val (.ref a374), .val (.int m0), .val (.int m1), .val (.int m2), .val (.int (1 : Int32)), .val (.ref a336)] [(.ref a336)])
        refine own_aload X382 hx (hb hby at_520) rfl rfl ?_
        obtain ⟨cq383, kq383, qa383, qb383, qc383⟩ := isOf hZ e382 (own_Sx (own_Sk F336 (((((((((((((((((Keep.refl _ _).trans K337 all0).trans K338 all0).ext E339).trans K341 (allS (Or.inr (by omega)) all0)).ext E342).trans K344 (allS (Or.inr (by omega)) all0)).ext E345).trans K347 (allS (Or.inr (by omega)) all0)).ext E348).trans K350 (allS (Or.inr (by omega)) all0)).trans K366 (allS (Or.inr (by omega)) all0)).ext E368).ext E370).trans K372 (allS (Or.inr (by omega)) all0)).trans K373 (allS (Or.inr (by omega)) all0)).trans K374 all0)))
        obtain ⟨_, _, ⟨T383, L383, k383, n383⟩, -, X383, ⟨Lc383, hQ383, l383, y383, z383⟩, st383⟩ := X382.virtualBack hx (y := (⟨"java/lang/String", "equals", "(Ljava/lang/Object;)Z"⟩ : MethodName)) (z := (⟨"java/lang/String", "equals", "(Ljava/lang/Object;)Z"⟩ : MethodName)) hown (mvT hZ (own_w hw 223 rfl)) (mvT hZ (own_w hw 191 rfl)) (notFace_of_selects (args := #[]) (mvT hZ (own_w hw 193 rfl))) (mvT hZ (own_w hw 193 rfl)) (mvT hZ (own_w hw 192 rfl)) (by decide) (backOf (W := 0) (own_rmEQ l Z a0 hw [] a336 a336 0 d0.toInt8.toInt32 0 d0.toInt8.toInt32 G1 T374.heap n0 (by omega) (((((((((((((((((((((O0.keep K316 all0).keep K321 all0).keep K326 all0).keep K331 all0).keep K336 all0).keep K337 all0).keep K338 all0).ext E339).keep K341 (allS (by omega) all0)).ext E342).keep K344 (allS (by omega) all0)).ext E345).keep K347 (allS (by omega) all0)).ext E348).keep K350 (allS (by omega) all0)).keep K366 (allS (by omega) all0)).ext E368).ext E370).keep K372 (allS (by omega) all0)).keep K373 (allS (by omega) all0)).keep K374 all0) SC P1 (own_Sk F336 (((((((((((((((((Keep.refl _ _).trans K337 all0).trans K338 all0).ext E339).trans K341 (allS (Or.inr (by omega)) all0)).ext E342).trans K344 (allS (Or.inr (by omega)) all0)).ext E345).trans K347 (allS (Or.inr (by omega)) all0)).ext E348).trans K350 (allS (Or.inr (by omega)) all0)).trans K366 (allS (Or.inr (by omega)) all0)).ext E368).ext E370).trans K372 (allS (Or.inr (by omega)) all0)).trans K373 (allS (Or.inr (by omega)) all0)).trans K374 all0)) (own_Sk F336 (((((((((((((((((Keep.refl _ _).trans K337 all0).trans K338 all0).ext E339).trans K341 (allS (Or.inr (by omega)) all0)).ext E342).trans K344 (allS (Or.inr (by omega)) all0)).ext E345).trans K347 (allS (Or.inr (by omega)) all0)).ext E348).trans K350 (allS (Or.inr (by omega)) all0)).trans K366 (allS (Or.inr (by omega)) all0)).ext E368).ext E370).trans K372 (allS (Or.inr (by omega)) all0)).trans K373 (allS (Or.inr (by omega)) all0)).trans K374 all0)) (Or.inl rfl) (Or.inl rfl)) hZ (own_w hw 194 rfl) (own_w hw 2 rfl) (by decide) (by decide)) qa383 qc383 (g := (mkF m 522 #[.val (.int i0), .val (.int i1), .val (.int i2), .val (.int i3), .val (.int (i0 &&& (3 : Int32))), .val (.int y0), .val (.int y1), .val (.int y2), .val (.int yq), .val (.int c0), .val (.int c1), .val (.int c2), .val (.int cq), .val (.ref s0), .val (.ref s1), .val (.ref s2), .val (.ref q0), .val (.ref a336), .val (.ref a337), .val (.ref a338), .val (.ref a339), .val (.ref a342), .val (.ref a345), .val (.ref a348), .val (.ref a368), .val (.ref a374), .val (.int m0), .val (.int m1), .val (.int m2), .val (.int (1 : Int32)), .val (.ref a336)] [(.ref a336), (.ref a336)])) rfl (by rw [hml]; rfl) (Steps.refl _) (argsL := [(.ref a336)]) (rest := []) (lenOf own_pd17 rfl) rfl (by show 2 * 0 + _ ≤ _; exact Nat.le_of_eq rfl) (hb hby at_522) (fun _ _ => ⟨rfl, e382, Nat.le_of_ble_eq_true rfl, Nat.le_of_ble_eq_true rfl⟩)
        dsimp only [Pt.U, Pt.locs, Pt.cells, Pt.slots] at X383 l383 y383 z383 st383 hQ383
        subst l383 y383 z383
        obtain ⟨rfl, M383, e383⟩ := hQ383
        have N383 := Fr.app N380 M383
        refine own_go (fun _ k => st383.trans k) ?_
        show own_E p e below _ T383 (mkF m 525 #[.val (.int i0), .val (.int i1), .val (.int i2), .val (.int i3), .val (.int (i0 &&& (3 : Int32))), .val (.int y0), .val (.int y1), .val (.int y2), .val (.int yq), .val (.int c0), .val (.int c1), .val (.int c2), .val (.int cq), .val (.ref s0), .val (.ref s1), .val (.ref s2), .val (.ref q0), .val (.ref a336), .val (.ref a337), .val (.ref a338), .val (.ref a339), .val (.ref a342), .val (.ref a345), .val (.ref a348), .val (.ref a368), .val (.ref a374), .val (.int m0), .val (.int m1), .val (.int m2), .val (.int (1 : Int32)), .val (.ref a336)] [(.int (own_seq 0 d0.toInt8.toInt32 0 d0.toInt8.toInt32))])
        refine own_ifNo X383 hx (hb hby at_525) (XT.i0_eq_f (by simp [own_seq])) ?_
        show own_E p e below _ T383 (mkF m 528 #[.val (.int i0), .val (.int i1), .val (.int i2), .val (.int i3), .val (.int (i0 &&& (3 : Int32))), .val (.int y0), .val (.int y1), .val (.int y2), .val (.int yq), .val (.int c0), .val (.int c1), .val (.int c2), .val (.int cq), .val (.ref s0), .val (.ref s1), .val (.ref s2), .val (.ref q0), .val (.ref a336), .val (.ref a337), .val (.ref a338), .val (.ref a339), .val (.ref a342), .val (.ref a345), .val (.ref a348), .val (.ref a368), .val (.ref a374), .val (.int m0), .val (.int m1), .val (.int m2), .val (.int (1 : Int32)), .val (.ref a336)] [])
        refine own_iconst X383 hx (hb hby at_528) (v := (1 : Int32)) (by decide) ?_
        refine own_goto X383 hx (hb hby at_529) 533 (by decide) (by decide) ?_
        show own_E p e below _ T383 (mkF m 533 #[.val (.int i0), .val (.int i1), .val (.int i2), .val (.int i3), .val (.int (i0 &&& (3 : Int32))), .val (.int y0), .val (.int y1), .val (.int y2), .val (.int yq), .val (.int c0), .val (.int c1), .val (.int c2), .val (.int cq), .val (.ref s0), .val (.ref s1), .val (.ref s2), .val (.ref q0), .val (.ref a336), .val (.ref a337), .val (.ref a338), .val (.ref a339), .val (.ref a342), .val (.ref a345), .val (.ref a348), .val (.ref a368), .val (.ref a374), .val (.int m0), .val (.int m1), .val (.int m2), .val (.int (1 : Int32)), .val (.ref a336)] [(.int (1 : Int32))])
        refine own_retNW X383 hx hS (by rw [e383]; omega) hZ hEL hh (by rw [e383]; exact C374) (t := .boolean) Bd.returns (by simp) hlk (hb hby at_533) (z' := (1 : Int32)) (by decide) (by decide) (by decide) ?_
        rw [e383]
        exact ⟨rfl, N383⟩
  · skip
    refine own_ifYes X350 hx (hb hby at_266) (XT.i0_le_t h0c) 279 (by decide) (by decide) ?_
    show own_E p e below _ T350 (mkF m 279 #[.val (.int i0), .val (.int i1), .val (.int i2), .val (.int i3), .val (.int (i0 &&& (3 : Int32))), .val (.int y0), .val (.int y1), .val (.int y2), .val (.int yq), .val (.int c0), .val (.int c1), .val (.int c2), .val (.int cq), .val (.ref s0), .val (.ref s1), .val (.ref s2), .val (.ref q0), .val (.ref a336), .val (.ref a337), .val (.ref a338), .val (.ref a339), .val (.ref a342), .val (.ref a345), .val (.ref a348), .unset, .unset, .unset, .unset, .unset, .unset, .unset] [])
    refine own_iload X350 hx (hb hby at_279) rfl ?_
    refine own_iconst X350 hx (hb hby at_281) (v := (1 : Int32)) (by decide) ?_
    refine own_icmpYes X350 hx (hb hby at_282) (XT.ii_le_t (fun q => h0c (Int32.lt_trans (by decide : (0 : Int32) < 1) q))) 295 (by decide) (by decide) ?_
    show own_E p e below _ T350 (mkF m 295 #[.val (.int i0), .val (.int i1), .val (.int i2), .val (.int i3), .val (.int (i0 &&& (3 : Int32))), .val (.int y0), .val (.int y1), .val (.int y2), .val (.int yq), .val (.int c0), .val (.int c1), .val (.int c2), .val (.int cq), .val (.ref s0), .val (.ref s1), .val (.ref s2), .val (.ref q0), .val (.ref a336), .val (.ref a337), .val (.ref a338), .val (.ref a339), .val (.ref a342), .val (.ref a345), .val (.ref a348), .unset, .unset, .unset, .unset, .unset, .unset, .unset] [])
    refine own_iload X350 hx (hb hby at_295) rfl ?_
    refine own_iconst X350 hx (hb hby at_297) (v := (2 : Int32)) (by decide) ?_
    refine own_icmpYes X350 hx (hb hby at_298) (XT.ii_le_t (fun q => h0c (Int32.lt_trans (by decide : (0 : Int32) < 2) q))) 311 (by decide) (by decide) ?_
    show own_E p e below _ T350 (mkF m 311 #[.val (.int i0), .val (.int i1), .val (.int i2), .val (.int i3), .val (.int (i0 &&& (3 : Int32))), .val (.int y0), .val (.int y1), .val (.int y2), .val (.int yq), .val (.int c0), .val (.int c1), .val (.int c2), .val (.int cq), .val (.ref s0), .val (.ref s1), .val (.ref s2), .val (.ref q0), .val (.ref a336), .val (.ref a337), .val (.ref a338), .val (.ref a339), .val (.ref a342), .val (.ref a345), .val (.ref a348), .unset, .unset, .unset, .unset, .unset, .unset, .unset] [])
    obtain ⟨T351, h351, X351, e351, E351, A351, D351, -, st351⟩ := newO X350 hx hZ hown (own_w hw 68 rfl) (own_w hw 69 rfl) (own_w hw 70 rfl) (rfl : T350.heap = T350.heap) (g := (mkF m 311 #[.val (.int i0), .val (.int i1), .val (.int i2), .val (.int i3), .val (.int (i0 &&& (3 : Int32))), .val (.int y0), .val (.int y1), .val (.int y2), .val (.int yq), .val (.int c0), .val (.int c1), .val (.int c2), .val (.int cq), .val (.ref s0), .val (.ref s1), .val (.ref s2), .val (.ref q0), .val (.ref a336), .val (.ref a337), .val (.ref a338), .val (.ref a339), .val (.ref a342), .val (.ref a345), .val (.ref a348), .unset, .unset, .unset, .unset, .unset, .unset, .unset] [])) rfl (hb hby at_311) (by decide) (by decide)
    obtain ⟨a351, g351⟩ : ∃ z, z = T350.heap.size := ⟨_, rfl⟩
    rw [← g351] at A351 D351 st351
    have z351 : T350.heap.size ≤ h351.size := E351.1
    have t351 : a351 < h351.size := A351.lt
    refine own_go st351 ?_
    have lt352 := own_lt (A351).lt
    have C351 := C350.trans (CHr.ext E351 C350.1)
    show own_E p e below _ T351 (mkF m 314 #[.val (.int i0), .val (.int i1), .val (.int i2), .val (.int i3), .val (.int (i0 &&& (3 : Int32))), .val (.int y0), .val (.int y1), .val (.int y2), .val (.int yq), .val (.int c0), .val (.int c1), .val (.int c2), .val (.int cq), .val (.ref s0), .val (.ref s1), .val (.ref s2), .val (.ref q0), .val (.ref a336), .val (.ref a337), .val (.ref a338), .val (.ref a339), .val (.ref a342), .val (.ref a345), .val (.ref a348), .unset, .unset, .unset, .unset, .unset, .unset, .unset] [(.ref a351)])
    refine own_dup X351 hx (hb hby at_314) rfl ?_
    obtain ⟨T353, h353, X353, e353, E353, A353, D353, -, st353⟩ := newO X351 hx hZ hown (own_w hw 44 rfl) (own_w hw 45 rfl) (own_w hw 46 rfl) e351 (g := (mkF m 315 #[.val (.int i0), .val (.int i1), .val (.int i2), .val (.int i3), .val (.int (i0 &&& (3 : Int32))), .val (.int y0), .val (.int y1), .val (.int y2), .val (.int yq), .val (.int c0), .val (.int c1), .val (.int c2), .val (.int cq), .val (.ref s0), .val (.ref s1), .val (.ref s2), .val (.ref q0), .val (.ref a336), .val (.ref a337), .val (.ref a338), .val (.ref a339), .val (.ref a342), .val (.ref a345), .val (.ref a348), .unset, .unset, .unset, .unset, .unset, .unset, .unset] [(.ref a351), (.ref a351)])) rfl (hb hby at_315) (by decide) (by decide)
    obtain ⟨a353, g353⟩ : ∃ z, z = h351.size := ⟨_, rfl⟩
    rw [← g353] at A353 D353 st353
    have z353 : h351.size ≤ h353.size := E353.1
    have t353 : a353 < h353.size := A353.lt
    refine own_go st353 ?_
    have lt354 := own_lt (A353).lt
    have C353 := C351.trans (CHr.ext E353 C351.1)
    show own_E p e below _ T353 (mkF m 318 #[.val (.int i0), .val (.int i1), .val (.int i2), .val (.int i3), .val (.int (i0 &&& (3 : Int32))), .val (.int y0), .val (.int y1), .val (.int y2), .val (.int yq), .val (.int c0), .val (.int c1), .val (.int c2), .val (.int cq), .val (.ref s0), .val (.ref s1), .val (.ref s2), .val (.ref q0), .val (.ref a336), .val (.ref a337), .val (.ref a338), .val (.ref a339), .val (.ref a342), .val (.ref a345), .val (.ref a348), .unset, .unset, .unset, .unset, .unset, .unset, .unset] [(.ref a353), (.ref a351), (.ref a351)])
    refine own_dup X353 hx (hb hby at_318) rfl ?_
    obtain ⟨_, _, ⟨T355, L355, k355, n355⟩, -, X355, ⟨Lc355, hQ355, l355, y355, z355⟩, st355⟩ := X353.specialBack hx (y := (⟨"java/util/ArrayList", "<init>", "()V"⟩ : MethodName)) rfl hown (mvT hZ (own_w hw 47 rfl)) (mvT hZ (own_w hw 48 rfl)) (mvT hZ (own_w hw 49 rfl)) (by decide) (backOf (W := 3) (own_rmAI l Z a0 hw [] a353 wd h353 n0 (by omega) (((((((((((((((((O0.keep K316 all0).keep K321 all0).keep K326 all0).keep K331 all0).keep K336 all0).keep K337 all0).keep K338 all0).ext E339).keep K341 (allS (by omega) all0)).ext E342).keep K344 (allS (by omega) all0)).ext E345).keep K347 (allS (by omega) all0)).ext E348).keep K350 (allS (by omega) all0)).ext E351).ext E353) SD (D353 (Or.inl (own_w hw 67 rfl)) (ty := (.array (.object "java/lang/Object"))) (by decide)) (D353 (Or.inl (own_w hw 126 rfl)) (ty := .int) (by decide)) (D353 (Or.inl (own_w hw 64 rfl)) (ty := .int) (by decide)) A353 (by omega)) hZ (own_w hw 49 rfl) (own_w hw 46 rfl) (by decide) (by decide)) (g := (mkF m 319 #[.val (.int i0), .val (.int i1), .val (.int i2), .val (.int i3), .val (.int (i0 &&& (3 : Int32))), .val (.int y0), .val (.int y1), .val (.int y2), .val (.int yq), .val (.int c0), .val (.int c1), .val (.int c2), .val (.int cq), .val (.ref s0), .val (.ref s1), .val (.ref s2), .val (.ref q0), .val (.ref a336), .val (.ref a337), .val (.ref a338), .val (.ref a339), .val (.ref a342), .val (.ref a345), .val (.ref a348), .unset, .unset, .unset, .unset, .unset, .unset, .unset] [(.ref a353), (.ref a353), (.ref a351), (.ref a351)])) rfl (by rw [hml]; rfl) (Steps.refl _) (a := a353) (argsL := []) (rest := [(.ref a353), (.ref a351), (.ref a351)]) (lenOf own_pd0 rfl) rfl (by show 2 * 0 + _ ≤ _; exact Nat.le_of_eq rfl) (hb hby at_319) (fun _ _ => ⟨rfl, e353, Nat.le_of_ble_eq_true rfl, Nat.le_of_ble_eq_true rfl⟩)
    dsimp only [Pt.U, Pt.locs, Pt.cells, Pt.slots] at X355 l355 y355 z355 st355 hQ355
    subst l355 y355 z355
    obtain ⟨rfl, M355, K355, F355, G355, J355⟩ := hQ355
    have N355 := Fr.app N350 M355
    refine own_go (fun _ k => st355.trans k) ?_
    have C355 := C353.trans (CHr.keep K355 (allS (Safe.exa hZ.alike A353 (by decide) (by decide)) all0) C353.1)
    have z355 : h353.size ≤ T355.heap.size := K355.1
    show own_E p e below _ T355 (mkF m 322 #[.val (.int i0), .val (.int i1), .val (.int i2), .val (.int i3), .val (.int (i0 &&& (3 : Int32))), .val (.int y0), .val (.int y1), .val (.int y2), .val (.int yq), .val (.int c0), .val (.int c1), .val (.int c2), .val (.int cq), .val (.ref s0), .val (.ref s1), .val (.ref s2), .val (.ref q0), .val (.ref a336), .val (.ref a337), .val (.ref a338), .val (.ref a339), .val (.ref a342), .val (.ref a345), .val (.ref a348), .unset, .unset, .unset, .unset, .unset, .unset, .unset] [(.ref a353), (.ref a351), (.ref a351)])
    refine own_aload X355 hx (hb hby at_322) rfl rfl ?_
    obtain ⟨_, _, ⟨T356, L356, k356, n356⟩, -, X356, ⟨Lc356, hQ356, l356, y356, z356⟩, st356⟩ := X355.specialBack hx (y := (⟨"com/example/narrow_gate/narrowgate/Target", "<init>", "(Ljava/util/List;Ljava/util/List;)V"⟩ : MethodName)) rfl hown (mvT hZ (own_w hw 71 rfl)) (mvT hZ (own_w hw 72 rfl)) (mvT hZ (own_w hw 73 rfl)) (by decide) (backOf (W := 1) (own_rmGI l Z a0 hw [] a351 a353 a348 T355.heap n0 (by omega) (((D351 (Or.inr (own_w hw 76 rfl)) (ty := (.object "java/util/List")) (by decide)).ext E353).keep K355 (ninS (by first | assumption | exact Ne.symm (by assumption) | exact own_ne (by omega)) nin0)) (((D351 (Or.inr (own_w hw 78 rfl)) (ty := (.object "java/util/List")) (by decide)).ext E353).keep K355 (ninS (by first | assumption | exact Ne.symm (by assumption) | exact own_ne (by omega)) nin0)) ((A351.ext E353).keep K355) (by omega)) hZ (own_w hw 73 rfl) (own_w hw 70 rfl) (by decide) (by decide)) (g := (mkF m 324 #[.val (.int i0), .val (.int i1), .val (.int i2), .val (.int i3), .val (.int (i0 &&& (3 : Int32))), .val (.int y0), .val (.int y1), .val (.int y2), .val (.int yq), .val (.int c0), .val (.int c1), .val (.int c2), .val (.int cq), .val (.ref s0), .val (.ref s1), .val (.ref s2), .val (.ref q0), .val (.ref a336), .val (.ref a337), .val (.ref a338), .val (.ref a339), .val (.ref a342), .val (.ref a345), .val (.ref a348), .unset, .unset, .unset, .unset, .unset, .unset, .unset] [(.ref a348), (.ref a353), (.ref a351), (.ref a351)])) rfl (by rw [hml]; rfl) (Steps.refl _) (a := a351) (argsL := [(.ref a353), (.ref a348)]) (rest := [(.ref a351)]) (lenOf own_pd21 rfl) rfl (by show 2 * 0 + _ ≤ _; exact Nat.le_of_eq rfl) (hb hby at_324) (fun _ _ => ⟨rfl, (rfl : T355.heap = T355.heap), Nat.le_of_ble_eq_true rfl, Nat.le_of_ble_eq_true rfl⟩)
    dsimp only [Pt.U, Pt.locs, Pt.cells, Pt.slots] at X356 l356 y356 z356 st356 hQ356
    subst l356 y356 z356
    obtain ⟨rfl, M356, K356, F356⟩ := hQ356
    have N356 := Fr.app N355 M356
    refine own_go (fun _ k => st356.trans k) ?_
    have C356 := C355.trans (CHr.keep K356 (allS (Safe.exa hZ.alike ((A351.ext E353).keep K355) (by decide) (by decide)) all0) C355.1)
    have z356 : T355.heap.size ≤ T356.heap.size := K356.1
    show own_E p e below _ T356 (mkF m 327 #[.val (.int i0), .val (.int i1), .val (.int i2), .val (.int i3), .val (.int (i0 &&& (3 : Int32))), .val (.int y0), .val (.int y1), .val (.int y2), .val (.int yq), .val (.int c0), .val (.int c1), .val (.int c2), .val (.int cq), .val (.ref s0), .val (.ref s1), .val (.ref s2), .val (.ref q0), .val (.ref a336), .val (.ref a337), .val (.ref a338), .val (.ref a339), .val (.ref a342), .val (.ref a345), .val (.ref a348), .unset, .unset, .unset, .unset, .unset, .unset, .unset] [(.ref a351)])
    refine own_astore X356 hx (hb hby at_327) rfl (l' := #[.val (.int i0), .val (.int i1), .val (.int i2), .val (.int i3), .val (.int (i0 &&& (3 : Int32))), .val (.int y0), .val (.int y1), .val (.int y2), .val (.int yq), .val (.int c0), .val (.int c1), .val (.int c2), .val (.int cq), .val (.ref s0), .val (.ref s1), .val (.ref s2), .val (.ref q0), .val (.ref a336), .val (.ref a337), .val (.ref a338), .val (.ref a339), .val (.ref a342), .val (.ref a345), .val (.ref a348), .val (.ref a351), .unset, .unset, .unset, .unset, .unset, .unset]) rfl ?_
    refine own_aload X356 hx (hb hby at_329) rfl rfl ?_
    refine own_aload X356 hx (hb hby at_331) rfl rfl ?_
    obtain ⟨cq357, kq357, qa357, qb357, qc357⟩ := isOf hZ (rfl : T356.heap = T356.heap) (((A351.ext E353).keep K355).keep K356)
    obtain ⟨_, _, ⟨T357, L357, k357, n357⟩, -, X357, ⟨Lc357, hQ357, l357, y357, z357⟩, st357⟩ := X356.virtualBack hx (y := (⟨"com/example/narrow_gate/narrowgate/Target", "parameter", "(Ljava/lang/String;)Ljava/util/Optional;"⟩ : MethodName)) (z := (⟨"com/example/narrow_gate/narrowgate/Target", "parameter", "(Ljava/lang/String;)Ljava/util/Optional;"⟩ : MethodName)) hown (mvT hZ (own_w hw 79 rfl)) (mvT hZ (own_w hw 80 rfl)) (notFace_of_selects (args := #[]) (mvT hZ (own_w hw 82 rfl))) (mvT hZ (own_w hw 82 rfl)) (mvT hZ (own_w hw 81 rfl)) (by decide) (backOf (W := 0) (own_rmM0 l Z a0 hw [] a351 q0 a348 wd we  0 yq (cq.toInt8.toInt32) G1  T356.heap n0 (by omega) (((((((((((((((((((O0.keep K316 all0).keep K321 all0).keep K326 all0).keep K331 all0).keep K336 all0).keep K337 all0).keep K338 all0).ext E339).keep K341 (allS (by omega) all0)).ext E342).keep K344 (allS (by omega) all0)).ext E345).keep K347 (allS (by omega) all0)).ext E348).keep K350 (allS (by omega) all0)).ext E351).ext E353).keep K355 (allS (by omega) all0)).keep K356 (allS (by omega) all0)) SC P1 SE EX EF F356 ((((F350.ext E351).ext E353).keep K355 (ninS (by first | assumption | exact Ne.symm (by assumption) | exact own_ne (by omega)) nin0)).keep K356 (ninS (by first | assumption | exact Ne.symm (by assumption) | exact own_ne (by omega)) nin0)) ((((G350.ext E351).ext E353).keep K355 (ninS (by first | assumption | exact Ne.symm (by assumption) | exact own_ne (by omega)) nin0)).keep K356 (ninS (by first | assumption | exact Ne.symm (by assumption) | exact own_ne (by omega)) nin0)) ((((J350.ext E351).ext E353).keep K355 (ninS (by first | assumption | exact Ne.symm (by assumption) | exact own_ne (by omega)) nin0)).keep K356 (ninS (by first | assumption | exact Ne.symm (by assumption) | exact own_ne (by omega)) nin0)) (((((A348.keep K350).ext E351).ext E353).keep K355).keep K356) (own_Sk F331 ((((((((((((((((Keep.refl _ _).trans K336 all0).trans K337 all0).trans K338 all0).ext E339).trans K341 (allS (Or.inr (by omega)) all0)).ext E342).trans K344 (allS (Or.inr (by omega)) all0)).ext E345).trans K347 (allS (Or.inr (by omega)) all0)).ext E348).trans K350 (allS (Or.inr (by omega)) all0)).ext E351).ext E353).trans K355 (allS (Or.inr (by omega)) all0)).trans K356 (allS (Or.inr (by omega)) all0))) t_yq ) hZ (own_w hw 83 rfl) (own_w hw 70 rfl) (by decide) (by decide)) qa357 qc357 (g := (mkF m 333 #[.val (.int i0), .val (.int i1), .val (.int i2), .val (.int i3), .val (.int (i0 &&& (3 : Int32))), .val (.int y0), .val (.int y1), .val (.int y2), .val (.int yq), .val (.int c0), .val (.int c1), .val (.int c2), .val (.int cq), .val (.ref s0), .val (.ref s1), .val (.ref s2), .val (.ref q0), .val (.ref a336), .val (.ref a337), .val (.ref a338), .val (.ref a339), .val (.ref a342), .val (.ref a345), .val (.ref a348), .val (.ref a351), .unset, .unset, .unset, .unset, .unset, .unset] [(.ref q0), (.ref a351)])) rfl (by rw [hml]; rfl) (Steps.refl _) (argsL := [(.ref q0)]) (rest := []) (lenOf own_pd22 rfl) rfl (by show 2 * 0 + _ ≤ _; exact Nat.le_of_eq rfl) (hb hby at_333) (fun _ _ => ⟨rfl, (rfl : T356.heap = T356.heap), Nat.le_of_ble_eq_true rfl, Nat.le_of_ble_eq_true rfl⟩)
    dsimp only [Pt.U, Pt.locs, Pt.cells, Pt.slots] at X357 l357 y357 z357 st357 hQ357
    subst l357 y357 z357
    obtain ⟨a357, rfl, M357, K357, A357, F357⟩ := hQ357
    have N357 := Fr.app N356 M357
    refine own_go (fun _ k => st357.trans k) ?_
    have C357 := C356.trans (CHr.keep K357 all0 C356.1)
    have z357 : T356.heap.size ≤ T357.heap.size := K357.1
    show own_E p e below _ T357 (mkF m 336 #[.val (.int i0), .val (.int i1), .val (.int i2), .val (.int i3), .val (.int (i0 &&& (3 : Int32))), .val (.int y0), .val (.int y1), .val (.int y2), .val (.int yq), .val (.int c0), .val (.int c1), .val (.int c2), .val (.int cq), .val (.ref s0), .val (.ref s1), .val (.ref s2), .val (.ref q0), .val (.ref a336), .val (.ref a337), .val (.ref a338), .val (.ref a339), .val (.ref a342), .val (.ref a345), .val (.ref a348), .val (.ref a351), .unset, .unset, .unset, .unset, .unset, .unset] [(.ref a357)])
    have lt358 := own_lt (A357).lt
    refine own_astore X357 hx (hb hby at_336) rfl (l' := #[.val (.int i0), .val (.int i1), .val (.int i2), .val (.int i3), .val (.int (i0 &&& (3 : Int32))), .val (.int y0), .val (.int y1), .val (.int y2), .val (.int yq), .val (.int c0), .val (.int c1), .val (.int c2), .val (.int cq), .val (.ref s0), .val (.ref s1), .val (.ref s2), .val (.ref q0), .val (.ref a336), .val (.ref a337), .val (.ref a338), .val (.ref a339), .val (.ref a342), .val (.ref a345), .val (.ref a348), .val (.ref a351), .val (.ref a357), .unset, .unset, .unset, .unset, .unset]) rfl ?_
    refine own_iload X357 hx (hb hby at_338) rfl ?_
    refine own_iload X357 hx (hb hby at_340) rfl ?_
    suffices hj359 : own_E p e below (own_PW s Z own_EL (own_Q0 n0) room_1.cells room_1.slots) T357 (mkF m 362 #[.val (.int i0), .val (.int i1), .val (.int i2), .val (.int i3), .val (.int (i0 &&& (3 : Int32))), .val (.int y0), .val (.int y1), .val (.int y2), .val (.int yq), .val (.int c0), .val (.int c1), .val (.int c2), .val (.int cq), .val (.ref s0), .val (.ref s1), .val (.ref s2), .val (.ref q0), .val (.ref a336), .val (.ref a337), .val (.ref a338), .val (.ref a339), .val (.ref a342), .val (.ref a345), .val (.ref a348), .val (.ref a351), .val (.ref a357), .unset, .unset, .unset, .unset, .unset] [(.int (own_m y0 yq c0 cq))]) from by
      by_cases ha : y0 = yq
      · skip
        refine own_icmpNo X357 hx (hb hby at_342) (XT.ii_ne_f ha) ?_
        show own_E p e below _ T357 (mkF m 345 #[.val (.int i0), .val (.int i1), .val (.int i2), .val (.int i3), .val (.int (i0 &&& (3 : Int32))), .val (.int y0), .val (.int y1), .val (.int y2), .val (.int yq), .val (.int c0), .val (.int c1), .val (.int c2), .val (.int cq), .val (.ref s0), .val (.ref s1), .val (.ref s2), .val (.ref q0), .val (.ref a336), .val (.ref a337), .val (.ref a338), .val (.ref a339), .val (.ref a342), .val (.ref a345), .val (.ref a348), .val (.ref a351), .val (.ref a357), .unset, .unset, .unset, .unset, .unset] [])
        refine own_iload X357 hx (hb hby at_345) rfl ?_
        by_cases hb2 : y0 = 0
        · skip
          refine own_ifNo X357 hx (hb hby at_347) (XT.i0_ne_f hb2) ?_
          show own_E p e below _ T357 (mkF m 350 #[.val (.int i0), .val (.int i1), .val (.int i2), .val (.int i3), .val (.int (i0 &&& (3 : Int32))), .val (.int y0), .val (.int y1), .val (.int y2), .val (.int yq), .val (.int c0), .val (.int c1), .val (.int c2), .val (.int cq), .val (.ref s0), .val (.ref s1), .val (.ref s2), .val (.ref q0), .val (.ref a336), .val (.ref a337), .val (.ref a338), .val (.ref a339), .val (.ref a342), .val (.ref a345), .val (.ref a348), .val (.ref a351), .val (.ref a357), .unset, .unset, .unset, .unset, .unset] [])
          refine own_iload X357 hx (hb hby at_350) rfl ?_
          refine own_iload X357 hx (hb hby at_352) rfl ?_
          by_cases hc2 : c0 = cq
          · skip
            refine own_icmpNo X357 hx (hb hby at_354) (XT.ii_ne_f hc2) ?_
            show own_E p e below _ T357 (mkF m 357 #[.val (.int i0), .val (.int i1), .val (.int i2), .val (.int i3), .val (.int (i0 &&& (3 : Int32))), .val (.int y0), .val (.int y1), .val (.int y2), .val (.int yq), .val (.int c0), .val (.int c1), .val (.int c2), .val (.int cq), .val (.ref s0), .val (.ref s1), .val (.ref s2), .val (.ref q0), .val (.ref a336), .val (.ref a337), .val (.ref a338), .val (.ref a339), .val (.ref a342), .val (.ref a345), .val (.ref a348), .val (.ref a351), .val (.ref a357), .unset, .unset, .unset, .unset, .unset] [])
            refine own_iconst X357 hx (hb hby at_357) (v := (1 : Int32)) (by decide) ?_
            refine own_goto X357 hx (hb hby at_358) 362 (by decide) (by decide) ?_
            show own_E p e below _ T357 (mkF m 362 #[.val (.int i0), .val (.int i1), .val (.int i2), .val (.int i3), .val (.int (i0 &&& (3 : Int32))), .val (.int y0), .val (.int y1), .val (.int y2), .val (.int yq), .val (.int c0), .val (.int c1), .val (.int c2), .val (.int cq), .val (.ref s0), .val (.ref s1), .val (.ref s2), .val (.ref q0), .val (.ref a336), .val (.ref a337), .val (.ref a338), .val (.ref a339), .val (.ref a342), .val (.ref a345), .val (.ref a348), .val (.ref a351), .val (.ref a357), .unset, .unset, .unset, .unset, .unset] [(.int (1 : Int32))])
            rw [(by rw [own_m, if_pos ha, if_pos hb2, if_pos hc2] : own_m y0 yq c0 cq = (1 : Int32))] at hj359
            exact hj359
          · skip
            refine own_icmpYes X357 hx (hb hby at_354) (XT.ii_ne_t hc2) 361 (by decide) (by decide) ?_
            show own_E p e below _ T357 (mkF m 361 #[.val (.int i0), .val (.int i1), .val (.int i2), .val (.int i3), .val (.int (i0 &&& (3 : Int32))), .val (.int y0), .val (.int y1), .val (.int y2), .val (.int yq), .val (.int c0), .val (.int c1), .val (.int c2), .val (.int cq), .val (.ref s0), .val (.ref s1), .val (.ref s2), .val (.ref q0), .val (.ref a336), .val (.ref a337), .val (.ref a338), .val (.ref a339), .val (.ref a342), .val (.ref a345), .val (.ref a348), .val (.ref a351), .val (.ref a357), .unset, .unset, .unset, .unset, .unset] [])
            refine own_iconst X357 hx (hb hby at_361) (v := (0 : Int32)) (by decide) ?_
            rw [(by rw [own_m, if_pos ha, if_pos hb2, if_neg hc2] : own_m y0 yq c0 cq = (0 : Int32))] at hj359
            exact hj359
        · skip
          refine own_ifYes X357 hx (hb hby at_347) (XT.i0_ne_t hb2) 357 (by decide) (by decide) ?_
          show own_E p e below _ T357 (mkF m 357 #[.val (.int i0), .val (.int i1), .val (.int i2), .val (.int i3), .val (.int (i0 &&& (3 : Int32))), .val (.int y0), .val (.int y1), .val (.int y2), .val (.int yq), .val (.int c0), .val (.int c1), .val (.int c2), .val (.int cq), .val (.ref s0), .val (.ref s1), .val (.ref s2), .val (.ref q0), .val (.ref a336), .val (.ref a337), .val (.ref a338), .val (.ref a339), .val (.ref a342), .val (.ref a345), .val (.ref a348), .val (.ref a351), .val (.ref a357), .unset, .unset, .unset, .unset, .unset] [])
          refine own_iconst X357 hx (hb hby at_357) (v := (1 : Int32)) (by decide) ?_
          refine own_goto X357 hx (hb hby at_358) 362 (by decide) (by decide) ?_
          show own_E p e below _ T357 (mkF m 362 #[.val (.int i0), .val (.int i1), .val (.int i2), .val (.int i3), .val (.int (i0 &&& (3 : Int32))), .val (.int y0), .val (.int y1), .val (.int y2), .val (.int yq), .val (.int c0), .val (.int c1), .val (.int c2), .val (.int cq), .val (.ref s0), .val (.ref s1), .val (.ref s2), .val (.ref q0), .val (.ref a336), .val (.ref a337), .val (.ref a338), .val (.ref a339), .val (.ref a342), .val (.ref a345), .val (.ref a348), .val (.ref a351), .val (.ref a357), .unset, .unset, .unset, .unset, .unset] [(.int (1 : Int32))])
          rw [(by rw [own_m, if_pos ha, if_neg hb2] : own_m y0 yq c0 cq = (1 : Int32))] at hj359
          exact hj359
      · skip
        refine own_icmpYes X357 hx (hb hby at_342) (XT.ii_ne_t ha) 361 (by decide) (by decide) ?_
        show own_E p e below _ T357 (mkF m 361 #[.val (.int i0), .val (.int i1), .val (.int i2), .val (.int i3), .val (.int (i0 &&& (3 : Int32))), .val (.int y0), .val (.int y1), .val (.int y2), .val (.int yq), .val (.int c0), .val (.int c1), .val (.int c2), .val (.int cq), .val (.ref s0), .val (.ref s1), .val (.ref s2), .val (.ref q0), .val (.ref a336), .val (.ref a337), .val (.ref a338), .val (.ref a339), .val (.ref a342), .val (.ref a345), .val (.ref a348), .val (.ref a351), .val (.ref a357), .unset, .unset, .unset, .unset, .unset] [])
        refine own_iconst X357 hx (hb hby at_361) (v := (0 : Int32)) (by decide) ?_
        rw [(by rw [own_m, if_neg ha] : own_m y0 yq c0 cq = (0 : Int32))] at hj359
        exact hj359
    have rel0 : own_seq y0 (c0.toInt8.toInt32) yq (cq.toInt8.toInt32) = own_m y0 yq c0 cq := by rw [← h_c0, ← h_cq]; exact own_rel _ _ _ _ t_y0 t_yq
    generalize h_m0 : own_m y0 yq c0 cq = m0 at rel0 ⊢
    show own_E p e below _ T357 (mkF m 362 #[.val (.int i0), .val (.int i1), .val (.int i2), .val (.int i3), .val (.int (i0 &&& (3 : Int32))), .val (.int y0), .val (.int y1), .val (.int y2), .val (.int yq), .val (.int c0), .val (.int c1), .val (.int c2), .val (.int cq), .val (.ref s0), .val (.ref s1), .val (.ref s2), .val (.ref q0), .val (.ref a336), .val (.ref a337), .val (.ref a338), .val (.ref a339), .val (.ref a342), .val (.ref a345), .val (.ref a348), .val (.ref a351), .val (.ref a357), .unset, .unset, .unset, .unset, .unset] [(.int m0)])
    refine own_istore X357 hx (hb hby at_362) (l' := #[.val (.int i0), .val (.int i1), .val (.int i2), .val (.int i3), .val (.int (i0 &&& (3 : Int32))), .val (.int y0), .val (.int y1), .val (.int y2), .val (.int yq), .val (.int c0), .val (.int c1), .val (.int c2), .val (.int cq), .val (.ref s0), .val (.ref s1), .val (.ref s2), .val (.ref q0), .val (.ref a336), .val (.ref a337), .val (.ref a338), .val (.ref a339), .val (.ref a342), .val (.ref a345), .val (.ref a348), .val (.ref a351), .val (.ref a357), .val (.int m0), .unset, .unset, .unset, .unset]) rfl ?_
    refine own_iload X357 hx (hb hby at_364) rfl ?_
    refine own_iload X357 hx (hb hby at_366) rfl ?_
    suffices hj360 : own_E p e below (own_PW s Z own_EL (own_Q0 n0) room_1.cells room_1.slots) T357 (mkF m 388 #[.val (.int i0), .val (.int i1), .val (.int i2), .val (.int i3), .val (.int (i0 &&& (3 : Int32))), .val (.int y0), .val (.int y1), .val (.int y2), .val (.int yq), .val (.int c0), .val (.int c1), .val (.int c2), .val (.int cq), .val (.ref s0), .val (.ref s1), .val (.ref s2), .val (.ref q0), .val (.ref a336), .val (.ref a337), .val (.ref a338), .val (.ref a339), .val (.ref a342), .val (.ref a345), .val (.ref a348), .val (.ref a351), .val (.ref a357), .val (.int m0), .unset, .unset, .unset, .unset] [(.int (own_m y1 yq c1 cq))]) from by
      by_cases ha : y1 = yq
      · skip
        refine own_icmpNo X357 hx (hb hby at_368) (XT.ii_ne_f ha) ?_
        show own_E p e below _ T357 (mkF m 371 #[.val (.int i0), .val (.int i1), .val (.int i2), .val (.int i3), .val (.int (i0 &&& (3 : Int32))), .val (.int y0), .val (.int y1), .val (.int y2), .val (.int yq), .val (.int c0), .val (.int c1), .val (.int c2), .val (.int cq), .val (.ref s0), .val (.ref s1), .val (.ref s2), .val (.ref q0), .val (.ref a336), .val (.ref a337), .val (.ref a338), .val (.ref a339), .val (.ref a342), .val (.ref a345), .val (.ref a348), .val (.ref a351), .val (.ref a357), .val (.int m0), .unset, .unset, .unset, .unset] [])
        refine own_iload X357 hx (hb hby at_371) rfl ?_
        by_cases hb2 : y1 = 0
        · skip
          refine own_ifNo X357 hx (hb hby at_373) (XT.i0_ne_f hb2) ?_
          show own_E p e below _ T357 (mkF m 376 #[.val (.int i0), .val (.int i1), .val (.int i2), .val (.int i3), .val (.int (i0 &&& (3 : Int32))), .val (.int y0), .val (.int y1), .val (.int y2), .val (.int yq), .val (.int c0), .val (.int c1), .val (.int c2), .val (.int cq), .val (.ref s0), .val (.ref s1), .val (.ref s2), .val (.ref q0), .val (.ref a336), .val (.ref a337), .val (.ref a338), .val (.ref a339), .val (.ref a342), .val (.ref a345), .val (.ref a348), .val (.ref a351), .val (.ref a357), .val (.int m0), .unset, .unset, .unset, .unset] [])
          refine own_iload X357 hx (hb hby at_376) rfl ?_
          refine own_iload X357 hx (hb hby at_378) rfl ?_
          by_cases hc2 : c1 = cq
          · skip
            refine own_icmpNo X357 hx (hb hby at_380) (XT.ii_ne_f hc2) ?_
            show own_E p e below _ T357 (mkF m 383 #[.val (.int i0), .val (.int i1), .val (.int i2), .val (.int i3), .val (.int (i0 &&& (3 : Int32))), .val (.int y0), .val (.int y1), .val (.int y2), .val (.int yq), .val (.int c0), .val (.int c1), .val (.int c2), .val (.int cq), .val (.ref s0), .val (.ref s1), .val (.ref s2), .val (.ref q0), .val (.ref a336), .val (.ref a337), .val (.ref a338), .val (.ref a339), .val (.ref a342), .val (.ref a345), .val (.ref a348), .val (.ref a351), .val (.ref a357), .val (.int m0), .unset, .unset, .unset, .unset] [])
            refine own_iconst X357 hx (hb hby at_383) (v := (1 : Int32)) (by decide) ?_
            refine own_goto X357 hx (hb hby at_384) 388 (by decide) (by decide) ?_
            show own_E p e below _ T357 (mkF m 388 #[.val (.int i0), .val (.int i1), .val (.int i2), .val (.int i3), .val (.int (i0 &&& (3 : Int32))), .val (.int y0), .val (.int y1), .val (.int y2), .val (.int yq), .val (.int c0), .val (.int c1), .val (.int c2), .val (.int cq), .val (.ref s0), .val (.ref s1), .val (.ref s2), .val (.ref q0), .val (.ref a336), .val (.ref a337), .val (.ref a338), .val (.ref a339), .val (.ref a342), .val (.ref a345), .val (.ref a348), .val (.ref a351), .val (.ref a357), .val (.int m0), .unset, .unset, .unset, .unset] [(.int (1 : Int32))])
            rw [(by rw [own_m, if_pos ha, if_pos hb2, if_pos hc2] : own_m y1 yq c1 cq = (1 : Int32))] at hj360
            exact hj360
          · skip
            refine own_icmpYes X357 hx (hb hby at_380) (XT.ii_ne_t hc2) 387 (by decide) (by decide) ?_
            show own_E p e below _ T357 (mkF m 387 #[.val (.int i0), .val (.int i1), .val (.int i2), .val (.int i3), .val (.int (i0 &&& (3 : Int32))), .val (.int y0), .val (.int y1), .val (.int y2), .val (.int yq), .val (.int c0), .val (.int c1), .val (.int c2), .val (.int cq), .val (.ref s0), .val (.ref s1), .val (.ref s2), .val (.ref q0), .val (.ref a336), .val (.ref a337), .val (.ref a338), .val (.ref a339), .val (.ref a342), .val (.ref a345), .val (.ref a348), .val (.ref a351), .val (.ref a357), .val (.int m0), .unset, .unset, .unset, .unset] [])
            refine own_iconst X357 hx (hb hby at_387) (v := (0 : Int32)) (by decide) ?_
            rw [(by rw [own_m, if_pos ha, if_pos hb2, if_neg hc2] : own_m y1 yq c1 cq = (0 : Int32))] at hj360
            exact hj360
        · skip
          refine own_ifYes X357 hx (hb hby at_373) (XT.i0_ne_t hb2) 383 (by decide) (by decide) ?_
          show own_E p e below _ T357 (mkF m 383 #[.val (.int i0), .val (.int i1), .val (.int i2), .val (.int i3), .val (.int (i0 &&& (3 : Int32))), .val (.int y0), .val (.int y1), .val (.int y2), .val (.int yq), .val (.int c0), .val (.int c1), .val (.int c2), .val (.int cq), .val (.ref s0), .val (.ref s1), .val (.ref s2), .val (.ref q0), .val (.ref a336), .val (.ref a337), .val (.ref a338), .val (.ref a339), .val (.ref a342), .val (.ref a345), .val (.ref a348), .val (.ref a351), .val (.ref a357), .val (.int m0), .unset, .unset, .unset, .unset] [])
          refine own_iconst X357 hx (hb hby at_383) (v := (1 : Int32)) (by decide) ?_
          refine own_goto X357 hx (hb hby at_384) 388 (by decide) (by decide) ?_
          show own_E p e below _ T357 (mkF m 388 #[.val (.int i0), .val (.int i1), .val (.int i2), .val (.int i3), .val (.int (i0 &&& (3 : Int32))), .val (.int y0), .val (.int y1), .val (.int y2), .val (.int yq), .val (.int c0), .val (.int c1), .val (.int c2), .val (.int cq), .val (.ref s0), .val (.ref s1), .val (.ref s2), .val (.ref q0), .val (.ref a336), .val (.ref a337), .val (.ref a338), .val (.ref a339), .val (.ref a342), .val (.ref a345), .val (.ref a348), .val (.ref a351), .val (.ref a357), .val (.int m0), .unset, .unset, .unset, .unset] [(.int (1 : Int32))])
          rw [(by rw [own_m, if_pos ha, if_neg hb2] : own_m y1 yq c1 cq = (1 : Int32))] at hj360
          exact hj360
      · skip
        refine own_icmpYes X357 hx (hb hby at_368) (XT.ii_ne_t ha) 387 (by decide) (by decide) ?_
        show own_E p e below _ T357 (mkF m 387 #[.val (.int i0), .val (.int i1), .val (.int i2), .val (.int i3), .val (.int (i0 &&& (3 : Int32))), .val (.int y0), .val (.int y1), .val (.int y2), .val (.int yq), .val (.int c0), .val (.int c1), .val (.int c2), .val (.int cq), .val (.ref s0), .val (.ref s1), .val (.ref s2), .val (.ref q0), .val (.ref a336), .val (.ref a337), .val (.ref a338), .val (.ref a339), .val (.ref a342), .val (.ref a345), .val (.ref a348), .val (.ref a351), .val (.ref a357), .val (.int m0), .unset, .unset, .unset, .unset] [])
        refine own_iconst X357 hx (hb hby at_387) (v := (0 : Int32)) (by decide) ?_
        rw [(by rw [own_m, if_neg ha] : own_m y1 yq c1 cq = (0 : Int32))] at hj360
        exact hj360
    have rel1 : own_seq y1 (c1.toInt8.toInt32) yq (cq.toInt8.toInt32) = own_m y1 yq c1 cq := by rw [← h_c1, ← h_cq]; exact own_rel _ _ _ _ t_y1 t_yq
    generalize h_m1 : own_m y1 yq c1 cq = m1 at rel1 ⊢
    show own_E p e below _ T357 (mkF m 388 #[.val (.int i0), .val (.int i1), .val (.int i2), .val (.int i3), .val (.int (i0 &&& (3 : Int32))), .val (.int y0), .val (.int y1), .val (.int y2), .val (.int yq), .val (.int c0), .val (.int c1), .val (.int c2), .val (.int cq), .val (.ref s0), .val (.ref s1), .val (.ref s2), .val (.ref q0), .val (.ref a336), .val (.ref a337), .val (.ref a338), .val (.ref a339), .val (.ref a342), .val (.ref a345), .val (.ref a348), .val (.ref a351), .val (.ref a357), .val (.int m0), .unset, .unset, .unset, .unset] [(.int m1)])
    refine own_istore X357 hx (hb hby at_388) (l' := #[.val (.int i0), .val (.int i1), .val (.int i2), .val (.int i3), .val (.int (i0 &&& (3 : Int32))), .val (.int y0), .val (.int y1), .val (.int y2), .val (.int yq), .val (.int c0), .val (.int c1), .val (.int c2), .val (.int cq), .val (.ref s0), .val (.ref s1), .val (.ref s2), .val (.ref q0), .val (.ref a336), .val (.ref a337), .val (.ref a338), .val (.ref a339), .val (.ref a342), .val (.ref a345), .val (.ref a348), .val (.ref a351), .val (.ref a357), .val (.int m0), .val (.int m1), .unset, .unset, .unset]) rfl ?_
    refine own_iload X357 hx (hb hby at_390) rfl ?_
    refine own_iload X357 hx (hb hby at_392) rfl ?_
    suffices hj361 : own_E p e below (own_PW s Z own_EL (own_Q0 n0) room_1.cells room_1.slots) T357 (mkF m 414 #[.val (.int i0), .val (.int i1), .val (.int i2), .val (.int i3), .val (.int (i0 &&& (3 : Int32))), .val (.int y0), .val (.int y1), .val (.int y2), .val (.int yq), .val (.int c0), .val (.int c1), .val (.int c2), .val (.int cq), .val (.ref s0), .val (.ref s1), .val (.ref s2), .val (.ref q0), .val (.ref a336), .val (.ref a337), .val (.ref a338), .val (.ref a339), .val (.ref a342), .val (.ref a345), .val (.ref a348), .val (.ref a351), .val (.ref a357), .val (.int m0), .val (.int m1), .unset, .unset, .unset] [(.int (own_m y2 yq c2 cq))]) from by
      by_cases ha : y2 = yq
      · skip
        refine own_icmpNo X357 hx (hb hby at_394) (XT.ii_ne_f ha) ?_
        show own_E p e below _ T357 (mkF m 397 #[.val (.int i0), .val (.int i1), .val (.int i2), .val (.int i3), .val (.int (i0 &&& (3 : Int32))), .val (.int y0), .val (.int y1), .val (.int y2), .val (.int yq), .val (.int c0), .val (.int c1), .val (.int c2), .val (.int cq), .val (.ref s0), .val (.ref s1), .val (.ref s2), .val (.ref q0), .val (.ref a336), .val (.ref a337), .val (.ref a338), .val (.ref a339), .val (.ref a342), .val (.ref a345), .val (.ref a348), .val (.ref a351), .val (.ref a357), .val (.int m0), .val (.int m1), .unset, .unset, .unset] [])
        refine own_iload X357 hx (hb hby at_397) rfl ?_
        by_cases hb2 : y2 = 0
        · skip
          refine own_ifNo X357 hx (hb hby at_399) (XT.i0_ne_f hb2) ?_
          show own_E p e below _ T357 (mkF m 402 #[.val (.int i0), .val (.int i1), .val (.int i2), .val (.int i3), .val (.int (i0 &&& (3 : Int32))), .val (.int y0), .val (.int y1), .val (.int y2), .val (.int yq), .val (.int c0), .val (.int c1), .val (.int c2), .val (.int cq), .val (.ref s0), .val (.ref s1), .val (.ref s2), .val (.ref q0), .val (.ref a336), .val (.ref a337), .val (.ref a338), .val (.ref a339), .val (.ref a342), .val (.ref a345), .val (.ref a348), .val (.ref a351), .val (.ref a357), .val (.int m0), .val (.int m1), .unset, .unset, .unset] [])
          refine own_iload X357 hx (hb hby at_402) rfl ?_
          refine own_iload X357 hx (hb hby at_404) rfl ?_
          by_cases hc2 : c2 = cq
          · skip
            refine own_icmpNo X357 hx (hb hby at_406) (XT.ii_ne_f hc2) ?_
            show own_E p e below _ T357 (mkF m 409 #[.val (.int i0), .val (.int i1), .val (.int i2), .val (.int i3), .val (.int (i0 &&& (3 : Int32))), .val (.int y0), .val (.int y1), .val (.int y2), .val (.int yq), .val (.int c0), .val (.int c1), .val (.int c2), .val (.int cq), .val (.ref s0), .val (.ref s1), .val (.ref s2), .val (.ref q0), .val (.ref a336), .val (.ref a337), .val (.ref a338), .val (.ref a339), .val (.ref a342), .val (.ref a345), .val (.ref a348), .val (.ref a351), .val (.ref a357), .val (.int m0), .val (.int m1), .unset, .unset, .unset] [])
            refine own_iconst X357 hx (hb hby at_409) (v := (1 : Int32)) (by decide) ?_
            refine own_goto X357 hx (hb hby at_410) 414 (by decide) (by decide) ?_
            show own_E p e below _ T357 (mkF m 414 #[.val (.int i0), .val (.int i1), .val (.int i2), .val (.int i3), .val (.int (i0 &&& (3 : Int32))), .val (.int y0), .val (.int y1), .val (.int y2), .val (.int yq), .val (.int c0), .val (.int c1), .val (.int c2), .val (.int cq), .val (.ref s0), .val (.ref s1), .val (.ref s2), .val (.ref q0), .val (.ref a336), .val (.ref a337), .val (.ref a338), .val (.ref a339), .val (.ref a342), .val (.ref a345), .val (.ref a348), .val (.ref a351), .val (.ref a357), .val (.int m0), .val (.int m1), .unset, .unset, .unset] [(.int (1 : Int32))])
            rw [(by rw [own_m, if_pos ha, if_pos hb2, if_pos hc2] : own_m y2 yq c2 cq = (1 : Int32))] at hj361
            exact hj361
          · skip
            refine own_icmpYes X357 hx (hb hby at_406) (XT.ii_ne_t hc2) 413 (by decide) (by decide) ?_
            show own_E p e below _ T357 (mkF m 413 #[.val (.int i0), .val (.int i1), .val (.int i2), .val (.int i3), .val (.int (i0 &&& (3 : Int32))), .val (.int y0), .val (.int y1), .val (.int y2), .val (.int yq), .val (.int c0), .val (.int c1), .val (.int c2), .val (.int cq), .val (.ref s0), .val (.ref s1), .val (.ref s2), .val (.ref q0), .val (.ref a336), .val (.ref a337), .val (.ref a338), .val (.ref a339), .val (.ref a342), .val (.ref a345), .val (.ref a348), .val (.ref a351), .val (.ref a357), .val (.int m0), .val (.int m1), .unset, .unset, .unset] [])
            refine own_iconst X357 hx (hb hby at_413) (v := (0 : Int32)) (by decide) ?_
            rw [(by rw [own_m, if_pos ha, if_pos hb2, if_neg hc2] : own_m y2 yq c2 cq = (0 : Int32))] at hj361
            exact hj361
        · skip
          refine own_ifYes X357 hx (hb hby at_399) (XT.i0_ne_t hb2) 409 (by decide) (by decide) ?_
          show own_E p e below _ T357 (mkF m 409 #[.val (.int i0), .val (.int i1), .val (.int i2), .val (.int i3), .val (.int (i0 &&& (3 : Int32))), .val (.int y0), .val (.int y1), .val (.int y2), .val (.int yq), .val (.int c0), .val (.int c1), .val (.int c2), .val (.int cq), .val (.ref s0), .val (.ref s1), .val (.ref s2), .val (.ref q0), .val (.ref a336), .val (.ref a337), .val (.ref a338), .val (.ref a339), .val (.ref a342), .val (.ref a345), .val (.ref a348), .val (.ref a351), .val (.ref a357), .val (.int m0), .val (.int m1), .unset, .unset, .unset] [])
          refine own_iconst X357 hx (hb hby at_409) (v := (1 : Int32)) (by decide) ?_
          refine own_goto X357 hx (hb hby at_410) 414 (by decide) (by decide) ?_
          show own_E p e below _ T357 (mkF m 414 #[.val (.int i0), .val (.int i1), .val (.int i2), .val (.int i3), .val (.int (i0 &&& (3 : Int32))), .val (.int y0), .val (.int y1), .val (.int y2), .val (.int yq), .val (.int c0), .val (.int c1), .val (.int c2), .val (.int cq), .val (.ref s0), .val (.ref s1), .val (.ref s2), .val (.ref q0), .val (.ref a336), .val (.ref a337), .val (.ref a338), .val (.ref a339), .val (.ref a342), .val (.ref a345), .val (.ref a348), .val (.ref a351), .val (.ref a357), .val (.int m0), .val (.int m1), .unset, .unset, .unset] [(.int (1 : Int32))])
          rw [(by rw [own_m, if_pos ha, if_neg hb2] : own_m y2 yq c2 cq = (1 : Int32))] at hj361
          exact hj361
      · skip
        refine own_icmpYes X357 hx (hb hby at_394) (XT.ii_ne_t ha) 413 (by decide) (by decide) ?_
        show own_E p e below _ T357 (mkF m 413 #[.val (.int i0), .val (.int i1), .val (.int i2), .val (.int i3), .val (.int (i0 &&& (3 : Int32))), .val (.int y0), .val (.int y1), .val (.int y2), .val (.int yq), .val (.int c0), .val (.int c1), .val (.int c2), .val (.int cq), .val (.ref s0), .val (.ref s1), .val (.ref s2), .val (.ref q0), .val (.ref a336), .val (.ref a337), .val (.ref a338), .val (.ref a339), .val (.ref a342), .val (.ref a345), .val (.ref a348), .val (.ref a351), .val (.ref a357), .val (.int m0), .val (.int m1), .unset, .unset, .unset] [])
        refine own_iconst X357 hx (hb hby at_413) (v := (0 : Int32)) (by decide) ?_
        rw [(by rw [own_m, if_neg ha] : own_m y2 yq c2 cq = (0 : Int32))] at hj361
        exact hj361
    have rel2 : own_seq y2 (c2.toInt8.toInt32) yq (cq.toInt8.toInt32) = own_m y2 yq c2 cq := by rw [← h_c2, ← h_cq]; exact own_rel _ _ _ _ t_y2 t_yq
    generalize h_m2 : own_m y2 yq c2 cq = m2 at rel2 ⊢
    show own_E p e below _ T357 (mkF m 414 #[.val (.int i0), .val (.int i1), .val (.int i2), .val (.int i3), .val (.int (i0 &&& (3 : Int32))), .val (.int y0), .val (.int y1), .val (.int y2), .val (.int yq), .val (.int c0), .val (.int c1), .val (.int c2), .val (.int cq), .val (.ref s0), .val (.ref s1), .val (.ref s2), .val (.ref q0), .val (.ref a336), .val (.ref a337), .val (.ref a338), .val (.ref a339), .val (.ref a342), .val (.ref a345), .val (.ref a348), .val (.ref a351), .val (.ref a357), .val (.int m0), .val (.int m1), .unset, .unset, .unset] [(.int m2)])
    refine own_istore X357 hx (hb hby at_414) (l' := #[.val (.int i0), .val (.int i1), .val (.int i2), .val (.int i3), .val (.int (i0 &&& (3 : Int32))), .val (.int y0), .val (.int y1), .val (.int y2), .val (.int yq), .val (.int c0), .val (.int c1), .val (.int c2), .val (.int cq), .val (.ref s0), .val (.ref s1), .val (.ref s2), .val (.ref q0), .val (.ref a336), .val (.ref a337), .val (.ref a338), .val (.ref a339), .val (.ref a342), .val (.ref a345), .val (.ref a348), .val (.ref a351), .val (.ref a357), .val (.int m0), .val (.int m1), .val (.int m2), .unset, .unset]) rfl ?_
    refine own_iload X357 hx (hb hby at_416) rfl ?_
    refine own_iconst X357 hx (hb hby at_418) (v := (2 : Int32)) (by decide) ?_
    refine own_icmpYes X357 hx (hb hby at_419) (XT.ii_le_t (fun q => h0c (Int32.lt_trans (by decide : (0 : Int32) < 2) q))) 437 (by decide) (by decide) ?_
    show own_E p e below _ T357 (mkF m 437 #[.val (.int i0), .val (.int i1), .val (.int i2), .val (.int i3), .val (.int (i0 &&& (3 : Int32))), .val (.int y0), .val (.int y1), .val (.int y2), .val (.int yq), .val (.int c0), .val (.int c1), .val (.int c2), .val (.int cq), .val (.ref s0), .val (.ref s1), .val (.ref s2), .val (.ref q0), .val (.ref a336), .val (.ref a337), .val (.ref a338), .val (.ref a339), .val (.ref a342), .val (.ref a345), .val (.ref a348), .val (.ref a351), .val (.ref a357), .val (.int m0), .val (.int m1), .val (.int m2), .unset, .unset] [])
    refine own_iload X357 hx (hb hby at_437) rfl ?_
    refine own_iconst X357 hx (hb hby at_439) (v := (1 : Int32)) (by decide) ?_
    refine own_icmpYes X357 hx (hb hby at_440) (XT.ii_le_t (fun q => h0c (Int32.lt_trans (by decide : (0 : Int32) < 1) q))) 458 (by decide) (by decide) ?_
    show own_E p e below _ T357 (mkF m 458 #[.val (.int i0), .val (.int i1), .val (.int i2), .val (.int i3), .val (.int (i0 &&& (3 : Int32))), .val (.int y0), .val (.int y1), .val (.int y2), .val (.int yq), .val (.int c0), .val (.int c1), .val (.int c2), .val (.int cq), .val (.ref s0), .val (.ref s1), .val (.ref s2), .val (.ref q0), .val (.ref a336), .val (.ref a337), .val (.ref a338), .val (.ref a339), .val (.ref a342), .val (.ref a345), .val (.ref a348), .val (.ref a351), .val (.ref a357), .val (.int m0), .val (.int m1), .val (.int m2), .unset, .unset] [])
    refine own_iload X357 hx (hb hby at_458) rfl ?_
    refine own_ifYes X357 hx (hb hby at_460) (XT.i0_le_t h0c) 478 (by decide) (by decide) ?_
    show own_E p e below _ T357 (mkF m 478 #[.val (.int i0), .val (.int i1), .val (.int i2), .val (.int i3), .val (.int (i0 &&& (3 : Int32))), .val (.int y0), .val (.int y1), .val (.int y2), .val (.int yq), .val (.int c0), .val (.int c1), .val (.int c2), .val (.int cq), .val (.ref s0), .val (.ref s1), .val (.ref s2), .val (.ref q0), .val (.ref a336), .val (.ref a337), .val (.ref a338), .val (.ref a339), .val (.ref a342), .val (.ref a345), .val (.ref a348), .val (.ref a351), .val (.ref a357), .val (.int m0), .val (.int m1), .val (.int m2), .unset, .unset] [])
    refine own_iconst X357 hx (hb hby at_478) (v := (0 : Int32)) (by decide) ?_
    refine own_istore X357 hx (hb hby at_479) (l' := #[.val (.int i0), .val (.int i1), .val (.int i2), .val (.int i3), .val (.int (i0 &&& (3 : Int32))), .val (.int y0), .val (.int y1), .val (.int y2), .val (.int yq), .val (.int c0), .val (.int c1), .val (.int c2), .val (.int cq), .val (.ref s0), .val (.ref s1), .val (.ref s2), .val (.ref q0), .val (.ref a336), .val (.ref a337), .val (.ref a338), .val (.ref a339), .val (.ref a342), .val (.ref a345), .val (.ref a348), .val (.ref a351), .val (.ref a357), .val (.int m0), .val (.int m1), .val (.int m2), .val (.int (0 : Int32)), .unset]) rfl ?_
    obtain ⟨a362, T362, h362, k362, b362, kc362, X362, e362, E362, hS, hk362, hZ, hown, A362, F362, G362, V362, ta362, tb362, D362, Lt362, Sf362, st362⟩ := ldcCH X357 hx hZ hown (own_w hw 127 rfl) wS (rfl : T357.heap = T357.heap) hS (by omega) hEL (by decide) C357.1 (vs := []) (z := 0) ⟨by decide, by decide +kernel⟩ (by decide) rfl (g := (mkF m 481 #[.val (.int i0), .val (.int i1), .val (.int i2), .val (.int i3), .val (.int (i0 &&& (3 : Int32))), .val (.int y0), .val (.int y1), .val (.int y2), .val (.int yq), .val (.int c0), .val (.int c1), .val (.int c2), .val (.int cq), .val (.ref s0), .val (.ref s1), .val (.ref s2), .val (.ref q0), .val (.ref a336), .val (.ref a337), .val (.ref a338), .val (.ref a339), .val (.ref a342), .val (.ref a345), .val (.ref a348), .val (.ref a351), .val (.ref a357), .val (.int m0), .val (.int m1), .val (.int m2), .val (.int (0 : Int32)), .unset] [])) rfl (hb hby at_481) (n := 0) (by decide) (by decide) (by decide) (by decide)
    have z362 : T357.heap.size ≤ h362.size := E362.1
    have C362 := C357.trans D362
    refine own_go st362 ?_
    have lt363 := own_lt (A362).lt
    have lt364 := own_lt (V362).lt
    show own_E p e below _ T362 (mkF m 483 #[.val (.int i0), .val (.int i1), .val (.int i2), .val (.int i3), .val (.int (i0 &&& (3 : Int32))), .val (.int y0), .val (.int y1), .val (.int y2), .val (.int yq), .val (.int c0), .val (.int c1), .val (.int c2), .val (.int cq), .val (.ref s0), .val (.ref s1), .val (.ref s2), .val (.ref q0), .val (.ref a336), .val (.ref a337), .val (.ref a338), .val (.ref a339), .val (.ref a342), .val (.ref a345), .val (.ref a348), .val (.ref a351), .val (.ref a357), .val (.int m0), .val (.int m1), .val (.int m2), .val (.int (0 : Int32)), .unset] [(.ref a362)])
    refine own_astore X362 hx (hb hby at_483) rfl (l' := #[.val (.int i0), .val (.int i1), .val (.int i2), .val (.int i3), .val (.int (i0 &&& (3 : Int32))), .val (.int y0), .val (.int y1), .val (.int y2), .val (.int yq), .val (.int c0), .val (.int c1), .val (.int c2), .val (.int cq), .val (.ref s0), .val (.ref s1), .val (.ref s2), .val (.ref q0), .val (.ref a336), .val (.ref a337), .val (.ref a338), .val (.ref a339), .val (.ref a342), .val (.ref a345), .val (.ref a348), .val (.ref a351), .val (.ref a357), .val (.int m0), .val (.int m1), .val (.int m2), .val (.int (0 : Int32)), .val (.ref a362)]) rfl ?_
    refine own_iload X362 hx (hb hby at_485) rfl ?_
    refine own_ifNo X362 hx (hb hby at_487) (by decide +kernel) ?_
    show own_E p e below _ T362 (mkF m 490 #[.val (.int i0), .val (.int i1), .val (.int i2), .val (.int i3), .val (.int (i0 &&& (3 : Int32))), .val (.int y0), .val (.int y1), .val (.int y2), .val (.int yq), .val (.int c0), .val (.int c1), .val (.int c2), .val (.int cq), .val (.ref s0), .val (.ref s1), .val (.ref s2), .val (.ref q0), .val (.ref a336), .val (.ref a337), .val (.ref a338), .val (.ref a339), .val (.ref a342), .val (.ref a345), .val (.ref a348), .val (.ref a351), .val (.ref a357), .val (.int m0), .val (.int m1), .val (.int m2), .val (.int (0 : Int32)), .val (.ref a362)] [])
    refine own_aload X362 hx (hb hby at_490) rfl rfl ?_
    have FR : Fld Z h362 a357 "java/util/Optional" "value" "Ljava/lang/Object;" .null := (F357.ext E362)
    obtain ⟨cq365, kq365, qa365, qb365, qc365⟩ := isOf hZ e362 (A357.ext E362)
    obtain ⟨_, _, ⟨T365, L365, k365, n365⟩, -, X365, ⟨Lc365, hQ365, l365, y365, z365⟩, st365⟩ := X362.virtualBack hx (y := (⟨"java/util/Optional", "isPresent", "()Z"⟩ : MethodName)) (z := (⟨"java/util/Optional", "isPresent", "()Z"⟩ : MethodName)) hown (mvT hZ (own_w hw 130 rfl)) (mvT hZ (own_w hw 131 rfl)) (notFace_of_selects (args := #[]) (mvT hZ (own_w hw 133 rfl))) (mvT hZ (own_w hw 133 rfl)) (mvT hZ (own_w hw 132 rfl)) (by decide) (backOf (W := 0) (own_rmP0 l Z a0 hw [] a357 h362 n0 (by omega) FR) hZ (own_w hw 134 rfl) (own_w hw 86 rfl) (by decide) (by decide)) qa365 qc365 (g := (mkF m 492 #[.val (.int i0), .val (.int i1), .val (.int i2), .val (.int i3), .val (.int (i0 &&& (3 : Int32))), .val (.int y0), .val (.int y1), .val (.int y2), .val (.int yq), .val (.int c0), .val (.int c1), .val (.int c2), .val (.int cq), .val (.ref s0), .val (.ref s1), .val (.ref s2), .val (.ref q0), .val (.ref a336), .val (.ref a337), .val (.ref a338), .val (.ref a339), .val (.ref a342), .val (.ref a345), .val (.ref a348), .val (.ref a351), .val (.ref a357), .val (.int m0), .val (.int m1), .val (.int m2), .val (.int (0 : Int32)), .val (.ref a362)] [(.ref a357)])) rfl (by rw [hml]; rfl) (Steps.refl _) (argsL := []) (rest := []) (lenOf own_pd14 rfl) rfl (by show 2 * 0 + _ ≤ _; exact Nat.le_of_eq rfl) (hb hby at_492) (fun _ _ => ⟨rfl, e362, Nat.le_of_ble_eq_true rfl, Nat.le_of_ble_eq_true rfl⟩)
    dsimp only [Pt.U, Pt.locs, Pt.cells, Pt.slots] at X365 l365 y365 z365 st365 hQ365
    subst l365 y365 z365
    obtain ⟨rfl, M365, e365⟩ := hQ365
    have N365 := Fr.app N357 M365
    refine own_go (fun _ k => st365.trans k) ?_
    show own_E p e below _ T365 (mkF m 495 #[.val (.int i0), .val (.int i1), .val (.int i2), .val (.int i3), .val (.int (i0 &&& (3 : Int32))), .val (.int y0), .val (.int y1), .val (.int y2), .val (.int yq), .val (.int c0), .val (.int c1), .val (.int c2), .val (.int cq), .val (.ref s0), .val (.ref s1), .val (.ref s2), .val (.ref q0), .val (.ref a336), .val (.ref a337), .val (.ref a338), .val (.ref a339), .val (.ref a342), .val (.ref a345), .val (.ref a348), .val (.ref a351), .val (.ref a357), .val (.int m0), .val (.int m1), .val (.int m2), .val (.int (0 : Int32)), .val (.ref a362)] [(.int (0 : Int32))])
    refine own_ifNo X365 hx (hb hby at_495) (by decide +kernel) ?_
    show own_E p e below _ T365 (mkF m 498 #[.val (.int i0), .val (.int i1), .val (.int i2), .val (.int i3), .val (.int (i0 &&& (3 : Int32))), .val (.int y0), .val (.int y1), .val (.int y2), .val (.int yq), .val (.int c0), .val (.int c1), .val (.int c2), .val (.int cq), .val (.ref s0), .val (.ref s1), .val (.ref s2), .val (.ref q0), .val (.ref a336), .val (.ref a337), .val (.ref a338), .val (.ref a339), .val (.ref a342), .val (.ref a345), .val (.ref a348), .val (.ref a351), .val (.ref a357), .val (.int m0), .val (.int m1), .val (.int m2), .val (.int (0 : Int32)), .val (.ref a362)] [])
    refine own_iconst X365 hx (hb hby at_498) (v := (1 : Int32)) (by decide) ?_
    refine own_goto X365 hx (hb hby at_499) 503 (by decide) (by decide) ?_
    show own_E p e below _ T365 (mkF m 503 #[.val (.int i0), .val (.int i1), .val (.int i2), .val (.int i3), .val (.int (i0 &&& (3 : Int32))), .val (.int y0), .val (.int y1), .val (.int y2), .val (.int yq), .val (.int c0), .val (.int c1), .val (.int c2), .val (.int cq), .val (.ref s0), .val (.ref s1), .val (.ref s2), .val (.ref q0), .val (.ref a336), .val (.ref a337), .val (.ref a338), .val (.ref a339), .val (.ref a342), .val (.ref a345), .val (.ref a348), .val (.ref a351), .val (.ref a357), .val (.int m0), .val (.int m1), .val (.int m2), .val (.int (0 : Int32)), .val (.ref a362)] [(.int (1 : Int32))])
    refine own_retNW X365 hx hS (by rw [e365]; omega) hZ hEL hh (by rw [e365]; exact C362) (t := .boolean) Bd.returns (by simp) hlk (hb hby at_503) (z' := (1 : Int32)) (by decide) (by decide) (by decide) ?_
    rw [e365]
    exact ⟨rfl, N365⟩

theorem own_alen0 {args : Array Value} {s : State} {t : Term} {a : Addr} {cl : Cell} {v : Int32} (ht : t.eval args s none [] s = some (.ref a)) (ha : s.arrayAt? a = some cl) (h : (Jvm.Cond.eq (.length t) (.int v)).value args s none s [] = some true) (hv : 0 ≤ v.toInt) : cl.slots.size = v.toInt.toNat := by
  by_cases hl : cl.slots.size < 2 ^ 31
  · have e := len_f ht ha hl
    have q := gotT (Cond.eq_ints e (Term.int_eval v)) h
    have z := len_toInt hl
    rw [q] at z
    omega
  · simp [Cond.value, Term.eval, ht, ha, hl] at h
set_option maxRecDepth 65536 in
set_option maxHeartbeats 40000000 in
theorem comes_1 {Post : Tables → Env → Array Value → State → Outcome → State → Prop} (hpost : ∀ tb e args s v u, (limb_1_1.after args s (.returned v) u = true ∧ limb_1_2.after args s (.returned v) u = true ∧ True) → ReturnedEndW s (.returned v) u (Jvm.fieldLocs frame_1_writes args s ++ Jvm.arrayLocs frame_1_arrays args s ++ Jvm.staticLocs frame_1_statics s) 64 1280 → Post tb e args s (.returned v) u) :
    ArmFor flags0 classFile x code maxLocals ret World_1 tables_1 room_1 Calls_1 rest_1 Pre_1 Post := by
  intro l hfl _ _ p e ha hc hk s m args below hf hA hF happ hP
  obtain ⟨hcalls, hrest, hpre⟩ := hP
  obtain ⟨-, -, -, hnamed, -, -, -, hat⟩ := (Spec.applies_iff hf).mp happ
  obtain ⟨hg, hn⟩ := and_e (Cond.before_iff.mp (show (Jvm.Cond.and given_1 narrow_1).before args s = true from hpre))
  obtain ⟨hg1, hg2⟩ := and_e hg
  obtain ⟨w0, w1, w2, w3, rfl⟩ : ∃ w0 w1 w2 w3 : Value, args = #[w0, w1, w2, w3] := by
    have hs : args.size = 4 := by simpa [Cond.value, given_1] using hg1
    obtain ⟨L⟩ := args
    match L, hs with
    | [w0, w1, w2, w3], _ => exact ⟨w0, w1, w2, w3, rfl⟩
  have hw := fun d (hd : d ∈ tables_1) => atoms_spec (ws := Jvm.Cond.code x code maxLocals ret :: tables_1) hat d (List.mem_cons_of_mem _ hd)
  have hfit : Fit s := fun {y c} hc i hi => by
    obtain ⟨ha, rfl⟩ := Array.getElem?_eq_some_iff.mp hc
    have q := List.all_eq_true.mp ((Array.all_eq_true_iff_forall_mem.mp hF) _ (Array.getElem_mem ha)) i (List.mem_range.mpr hi)
    simpa [Array.getElem?_eq_getElem hi] using q
  obtain ⟨hk0, hr0⟩ := and_e hg2
  obtain ⟨i0, e0⟩ := is_v hk0
  obtain rfl : w0 = (.int i0) := Option.some.inj e0
  obtain ⟨hk1, hr1⟩ := and_e hr0
  obtain ⟨i1, e1⟩ := is_v hk1
  obtain rfl : w1 = (.int i1) := Option.some.inj e1
  obtain ⟨hk2, hr2⟩ := and_e hr1
  obtain ⟨i2, e2⟩ := is_v hk2
  obtain rfl : w2 = (.int i2) := Option.some.inj e2
  obtain ⟨i3, e3⟩ := is_v hr2
  obtain rfl : w3 = (.int i3) := Option.some.inj e3
  obtain ⟨hsets, hown0⟩ := atoms_of _ (rest_1_c_eq ▸ (show rest_1_c.before _ s = true from hrest))
  obtain ⟨G1, eG⟩ := is_v (Cond.before_iff.mp (hsets _ (List.mem_of_getElem? (i := 1) rfl)))
  have SC : Sta s s.heap "java/lang/String" "COMPACT_STRINGS" "Z" (.int G1) := Sta.start eG (Or.inl (hsets _ (List.mem_of_getElem? (i := 0) rfl)))
  have P1 : ¬ G1 = 0 := gotF (Cond.eq_ints eG (Term.int_eval (0))) (not_v (Cond.before_iff.mp (hsets _ (List.mem_of_getElem? (i := 2) rfl))))
  have c15 := (Cond.before_iff.mp (hsets _ (List.mem_of_getElem? (i := 15) rfl)))
  have c17 := (Cond.before_iff.mp (hsets _ (List.mem_of_getElem? (i := 17) rfl)))
  have c20 := (Cond.before_iff.mp (hsets _ (List.mem_of_getElem? (i := 20) rfl)))
  have c21 := (Cond.before_iff.mp (hsets _ (List.mem_of_getElem? (i := 21) rfl)))
  obtain ⟨wd, ew⟩ := arr_v c15
  obtain ⟨cwd, AW⟩ := Arr.start ew c15
  have SD : Sta s s.heap "java/util/ArrayList" "DEFAULTCAPACITY_EMPTY_ELEMENTDATA" "[Ljava/lang/Object;" (.ref wd) := Sta.start ew (Or.inr ⟨(own_w hw 46 rfl), (hsets _ (List.mem_of_getElem? (i := 11) rfl))⟩)
  have zw : cwd.slots.size = 0 := own_alen0 (v := 0) ew (Arr.fin (Vm.Alike.refl _) AW) c17 (by decide)
  obtain ⟨we, ee⟩ := exa_v c20
  have EX := Exa.start ee c20
  have SE : Sta s s.heap "java/util/Optional" "EMPTY" "Ljava/util/Optional;" (.ref we) := Sta.start ee (Or.inl (hsets _ (List.mem_of_getElem? (i := 19) rfl)))
  have EF : Fld s s.heap we "java/util/Optional" "value" "Ljava/lang/Object;" .null := Fld.start (by rw [← fld_at ee]; exact null_v c21)
  have HC : CHv s own_EL s.vm s.heap := CHv.start (a0 := #[.int i0, .int i1, .int i2, .int i3]) (own_EW hw) (fun p hp => hcalls.1 p hp) (hsets _ (List.mem_of_getElem? (i := 2) rfl)) (own_w hw 14 rfl) (own_w hw 10 rfl)
  obtain ⟨n, o, h1, h2, h3, _, L, rfl, ⟨rfl, N⟩, _, hq⟩ := own_rm0 l s _ hw tables_1 i0 i1 i2 i3 G1 wd we cwd s.heap s.heap.size (Nat.le_refl _) (Old.start s) SC P1 SD AW zw SE EX EF p e ha hc hk s m _ below hf ((Spec.applies_iff_loose hf).mp happ).1 ⟨rfl, State.Warmed39.refl s, rfl, HC⟩ trivial
  refine ⟨n, _, h1, h2, h3, hpost _ _ _ _ _ _ ⟨Cond.after_iff.mpr rfl, Cond.after_iff.mpr (eq_i res_at (Term.int_eval (1)) rfl), trivial⟩ ⟨hq.1, hq.2.1, hq.2.2.1, (hq.2.2.2.sift fun y hy => Or.inr (N y hy)).mono (by decide) (by decide)⟩⟩
theorem main_1_1 : Claimed_1_1 := comes_1 fun _ _ _ _ _ _ h hF => ⟨h.1, hF⟩
theorem main_1_2 : Claimed_1_2 := comes_1 fun _ _ _ _ _ _ h hF => ⟨h.2.1, hF⟩
end Jvm.Pilot.@@N@@
namespace Jvm.Pilot.@@N@@
open Jvm Jvm.ClassFile Sem Op Lib Jvm.Free Jvm.Stand Jvm.Pilot.@@N@@.Jvm.D
/-! MADE BY PROGRAM (witnessworld.py) out of the Statement's table words and the real class files: 33 classes; the members and pool entries that the words name. The judged class is class 1, her method 1. -/
namespace start1
open Jvm.ClassFile
def u (s : String) : CpInfo := .utf8 (stringToUtf16 s)
/-- a pool by its gaps: so many unusable entries, then the entry; so many at the end -/
def gap : Nat → List CpInfo → List CpInfo
  | 0, r => r
  | n + 1, r => .unusable :: gap n r
def poolList (es : List (Nat × CpInfo)) (last : Nat) : List CpInfo := es.foldr (fun e r => gap e.1 (e.2 :: r)) (gap last [])
def pool (es : List (Nat × CpInfo)) (last : Nat) : Array CpInfo := ⟨poolList es last⟩
def fileOf (pool : Array CpInfo) (this : Nat) (attrs : Array Attribute := #[]) (ms : Array MethodInfo := #[]) (fl : Nat := 33) (sup : Nat := 0) (ifs : Array Nat := #[]) (fds : Array FieldInfo := #[]) : ClassFile where
  minorVersion := 0
  majorVersion := 65
  constantPool := pool
  accessFlags := fl
  thisClass := this
  superClass := sup
  interfaces := ifs
  fields := fds
  methods := ms
  attributes := attrs
def plain (name : String) (sup : Option ClassId) : Class where
  name := name
  kind := .ordinary
  loader := none
  accessFlags := 33
  super := sup
  interfaces := #[]
  cf := none
  fields := #[]
  methods := #[]
  instanceTypes := #[]
  staticTypes := #[]
  resolved := #[]
  callSites := []
  init := .initialized
  statics := none
  mirror := none

def pool0 : Array CpInfo := pool [(5, u "<init>"), (0, u "()V"), (1, .class_ 10), (1, u "java/lang/Object")] 113

def k0c0 : Code := { maxStack := 0, maxLocals := 1, code := object_method_1_code, exceptionTable := #[], attributes := #[] }
def k0m0 : Method := { name := "<init>", desc := "()V", sig := { parameters := [], returnType := none }, accessFlags := 1, code := some k0c0 }
/-- java/lang/Object -/
def k0 : Class := { plain "java/lang/Object" none with
  accessFlags := 33
  interfaces := #[]
  cf := some (fileOf pool0 8 #[] #[{ accessFlags := 1, nameIndex := 5, descriptorIndex := 6, attributes := #[] }] 33 0 #[] #[])
  fields := #[]
  methods := #[k0m0]
  instanceTypes := #[]
  staticTypes := #[]
  resolved := Array.replicate 124 none
  statics := none }

def pool1 : Array CpInfo := pool [(2, .class_ 4), (0, .nameAndType 5 6), (0, u "java/lang/Object"), (0, u "<init>"), (0, u "()V"), (0, .string 8), (0, u ""), (0, .methodref 10 11), (0, .class_ 12), (0, .nameAndType 13 14), (0, u "java/lang/String"), (0, u "valueOf"), (0, u "(C)Ljava/lang/String;"), (0, .class_ 16), (0, u "com/example/narrow_gate/narrowgate/Target$Parameter"), (0, .methodref 15 18), (0, .nameAndType 5 19), (0, u "(Ljava/lang/String;Ljava/lang/String;Ljava/lang/String;)V"), (0, .class_ 21), (0, u "java/util/ArrayList"), (0, .methodref 20 3), (0, .interfaceMethodref 24 25), (0, .class_ 26), (0, .nameAndType 27 28), (0, u "java/util/List"), (0, u "add"), (0, u "(Ljava/lang/Object;)Z"), (0, .class_ 30), (0, u "com/example/narrow_gate/narrowgate/Target"), (0, .methodref 29 32), (0, .nameAndType 5 33), (0, u "(Ljava/util/List;Ljava/util/List;)V"), (0, .methodref 29 35), (0, .nameAndType 36 37), (0, u "parameter"), (0, u "(Ljava/lang/String;)Ljava/util/Optional;"), (0, .methodref 39 40), (0, .class_ 41), (0, .nameAndType 42 43), (0, u "java/util/Optional"), (0, u "isPresent"), (0, u "()Z"), (0, .methodref 39 45), (0, .nameAndType 46 47), (0, u "get"), (0, u "()Ljava/lang/Object;"), (0, .methodref 10 49), (0, .nameAndType 50 28), (0, u "equals"), (0, .class_ 52), (0, u "com/example/narrow_gate/narrowgate/TargetParameterPinLaw"), (2, u "law"), (0, u "(IIII)Z")] 5

def k1m0 : Method := { name := "<init>", desc := "()V", sig := { parameters := [], returnType := none }, accessFlags := 1, code := none }
def k1c1 : Code := { maxStack := 5, maxLocals := 31, code := code, exceptionTable := #[], attributes := #[] }
def k1m1 : Method := { name := "law", desc := "(IIII)Z", sig := { parameters := [.int, .int, .int, .int], returnType := some .boolean }, accessFlags := 9, code := some k1c1 }
/-- com/example/narrow_gate/narrowgate/TargetParameterPinLaw -/
def k1 : Class := { plain "com/example/narrow_gate/narrowgate/TargetParameterPinLaw" (some 0) with
  accessFlags := 49
  interfaces := #[]
  cf := some (fileOf pool1 51 #[] #[{ accessFlags := 1, nameIndex := 5, descriptorIndex := 6, attributes := #[] }, { accessFlags := 9, nameIndex := 55, descriptorIndex := 56, attributes := #[] }] 49 2 #[] #[])
  fields := #[]
  methods := #[k1m0, k1m1]
  instanceTypes := #[]
  staticTypes := #[]
  resolved := Array.replicate 62 none
  statics := none }

def pool2 : Array CpInfo := pool [(1, .class_ 2), (0, u "java/io/Serializable"), (0, .class_ 4), (0, u "java/lang/Object")] 2

/-- java/io/Serializable -/
def k2 : Class := { plain "java/io/Serializable" (some 0) with
  accessFlags := 1537
  interfaces := #[]
  cf := some (fileOf pool2 1 #[] #[] 1537 3 #[] #[])
  fields := #[]
  methods := #[]
  instanceTypes := #[]
  staticTypes := #[]
  resolved := Array.replicate 7 none
  statics := none }

def pool3 : Array CpInfo := pool [(1, .class_ 2), (0, u "java/lang/Comparable"), (0, .class_ 4), (0, u "java/lang/Object")] 7

/-- java/lang/Comparable -/
def k3 : Class := { plain "java/lang/Comparable" (some 0) with
  accessFlags := 1537
  interfaces := #[]
  cf := some (fileOf pool3 1 #[] #[] 1537 3 #[] #[])
  fields := #[]
  methods := #[]
  instanceTypes := #[]
  staticTypes := #[]
  resolved := Array.replicate 12 none
  statics := none }

def pool4 : Array CpInfo := pool [(2, .class_ 4), (1, u "java/lang/CharSequence"), (42, .class_ 48), (0, u "java/lang/CharSequence$1CodePointIterator"), (10, .class_ 60), (0, u "java/lang/CharSequence$1CharIterator"), (5, .class_ 67), (0, u "java/lang/Object")] 63

/-- java/lang/CharSequence -/
def k4 : Class := { plain "java/lang/CharSequence" (some 0) with
  accessFlags := 1537
  interfaces := #[]
  cf := some (fileOf pool4 2 #[.nestMembers #[47, 59]] #[] 1537 66 #[] #[])
  fields := #[]
  methods := #[]
  instanceTypes := #[]
  staticTypes := #[]
  resolved := Array.replicate 131 none
  statics := none }

def pool5 : Array CpInfo := pool [(1, .class_ 2), (0, u "java/lang/constant/Constable"), (0, .class_ 4), (0, u "java/lang/Object")] 6

/-- java/lang/constant/Constable -/
def k5 : Class := { plain "java/lang/constant/Constable" (some 0) with
  accessFlags := 1537
  interfaces := #[]
  cf := some (fileOf pool5 1 #[] #[] 1537 3 #[] #[])
  fields := #[]
  methods := #[]
  instanceTypes := #[]
  staticTypes := #[]
  resolved := Array.replicate 11 none
  statics := none }

def pool6 : Array CpInfo := pool [(1, .class_ 2), (0, u "java/lang/constant/ConstantDesc"), (0, .class_ 4), (0, u "java/lang/Object")] 32

/-- java/lang/constant/ConstantDesc -/
def k6 : Class := { plain "java/lang/constant/ConstantDesc" (some 0) with
  accessFlags := 1537
  interfaces := #[]
  cf := some (fileOf pool6 1 #[] #[] 1537 3 #[] #[])
  fields := #[]
  methods := #[]
  instanceTypes := #[]
  staticTypes := #[]
  resolved := Array.replicate 37 none
  statics := none }

def pool7 : Array CpInfo := pool [(1, .methodref 2 3), (0, .class_ 4), (0, .nameAndType 5 6), (0, u "java/lang/Object"), (0, u "<init>"), (0, u "()V"), (2, .fieldref 10 11), (0, .class_ 12), (0, .nameAndType 13 14), (0, u "java/lang/String"), (0, u "value"), (0, u "[B"), (0, .fieldref 10 16), (0, .nameAndType 17 18), (0, u "coder"), (0, u "B"), (2, u "hash"), (0, u "I"), (2, u "hashIsZero"), (0, u "Z"), (11, .fieldref 10 39), (0, .nameAndType 40 26), (0, u "COMPACT_STRINGS"), (12, u "toBytes"), (53, .class_ 109), (1, u "java/lang/StringLatin1"), (99, .methodref 10 210), (0, .nameAndType 5 211), (0, u "([BB)V"), (157, u "(C)Z"), (171, .methodref 107 542), (0, .nameAndType 543 544), (0, u "equals"), (0, u "([B[B)Z"), (28, u "(Ljava/lang/Object;)Z"), (1, .class_ 576), (0, u "java/lang/CharSequence"), (22, u "CASE_INSENSITIVE_ORDER"), (0, u "Ljava/util/Comparator;"), (181, u "valueOf"), (0, u "(C)Ljava/lang/String;"), (231, .methodref 107 1016), (0, .nameAndType 1017 369), (0, u "canEncode"), (0, .methodref 107 1019), (0, .nameAndType 53 1020), (0, u "(C)[B"), (80, u "serialPersistentFields"), (0, u "[Ljava/io/ObjectStreamField;"), (0, .class_ 1104), (0, u "java/lang/String$CaseInsensitiveComparator"), (1, .class_ 1107), (0, u "java/io/Serializable"), (0, .class_ 1109), (0, u "java/lang/Comparable"), (0, .class_ 1111), (0, u "java/lang/constant/Constable"), (0, .class_ 1113), (0, u "java/lang/constant/ConstantDesc"), (2, u "serialVersionUID"), (0, u "J"), (3, u "REPL"), (0, u "C"), (2, u "LATIN1"), (1, u "UTF16")] 323

def k7m0 : Method := { name := "<init>", desc := "()V", sig := { parameters := [], returnType := none }, accessFlags := 1, code := none }
def k7c1 : Code := { maxStack := 2, maxLocals := 3, code := jdk_42_method_66_code, exceptionTable := #[], attributes := #[] }
def k7m1 : Method := { name := "equals", desc := "(Ljava/lang/Object;)Z", sig := { parameters := [(.object "java/lang/Object")], returnType := some .boolean }, accessFlags := 1, code := some k7c1 }
def k7c2 : Code := { maxStack := 4, maxLocals := 1, code := jdk_42_method_139_code, exceptionTable := #[], attributes := #[] }
def k7m2 : Method := { name := "valueOf", desc := "(C)Ljava/lang/String;", sig := { parameters := [.char], returnType := some (.object "java/lang/String") }, accessFlags := 9, code := some k7c2 }
def k7c3 : Code := { maxStack := 2, maxLocals := 3, code := jdk_42_method_151_code, exceptionTable := #[], attributes := #[] }
def k7m3 : Method := { name := "<init>", desc := "([BB)V", sig := { parameters := [(.array .byte), .byte], returnType := none }, accessFlags := 0, code := some k7c3 }
/-- java/lang/String -/
def k7 : Class := { plain "java/lang/String" (some 0) with
  accessFlags := 49
  interfaces := #[2, 3, 4, 5, 6]
  cf := some (fileOf pool7 10 #[.nestMembers #[1103]] #[{ accessFlags := 1, nameIndex := 5, descriptorIndex := 6, attributes := #[] }, { accessFlags := 1, nameIndex := 543, descriptorIndex := 573, attributes := #[] }, { accessFlags := 9, nameIndex := 782, descriptorIndex := 783, attributes := #[] }, { accessFlags := 0, nameIndex := 5, descriptorIndex := 211, attributes := #[] }] 49 2 #[1106, 1108, 575, 1110, 1112] #[{ accessFlags := 18, nameIndex := 13, descriptorIndex := 14, attributes := #[] }, { accessFlags := 18, nameIndex := 17, descriptorIndex := 18, attributes := #[] }, { accessFlags := 2, nameIndex := 21, descriptorIndex := 22, attributes := #[] }, { accessFlags := 2, nameIndex := 25, descriptorIndex := 26, attributes := #[] }, { accessFlags := 26, nameIndex := 1116, descriptorIndex := 1117, attributes := #[] }, { accessFlags := 24, nameIndex := 40, descriptorIndex := 26, attributes := #[] }, { accessFlags := 26, nameIndex := 1101, descriptorIndex := 1102, attributes := #[] }, { accessFlags := 26, nameIndex := 1121, descriptorIndex := 1122, attributes := #[] }, { accessFlags := 25, nameIndex := 599, descriptorIndex := 600, attributes := #[] }, { accessFlags := 24, nameIndex := 1125, descriptorIndex := 18, attributes := #[] }, { accessFlags := 24, nameIndex := 1127, descriptorIndex := 18, attributes := #[] }])
  fields := #[{ name := "value", type := (.array .byte), accessFlags := 18, slot := 0, constantValue := 0 }, { name := "coder", type := .byte, accessFlags := 18, slot := 1, constantValue := 0 }, { name := "hash", type := .int, accessFlags := 2, slot := 2, constantValue := 0 }, { name := "hashIsZero", type := .boolean, accessFlags := 2, slot := 3, constantValue := 0 }, { name := "serialVersionUID", type := .long, accessFlags := 26, slot := 0, constantValue := 0 }, { name := "COMPACT_STRINGS", type := .boolean, accessFlags := 24, slot := 1, constantValue := 0 }, { name := "serialPersistentFields", type := (.array (.object "java/io/ObjectStreamField")), accessFlags := 26, slot := 2, constantValue := 0 }, { name := "REPL", type := .char, accessFlags := 26, slot := 3, constantValue := 0 }, { name := "CASE_INSENSITIVE_ORDER", type := (.object "java/util/Comparator"), accessFlags := 25, slot := 4, constantValue := 0 }, { name := "LATIN1", type := .byte, accessFlags := 24, slot := 5, constantValue := 0 }, { name := "UTF16", type := .byte, accessFlags := 24, slot := 6, constantValue := 0 }]
  methods := #[k7m0, k7m1, k7m2, k7m3]
  instanceTypes := #[(.array .byte), .byte, .int, .boolean]
  staticTypes := #[.long, .boolean, (.array (.object "java/io/ObjectStreamField")), .char, (.object "java/util/Comparator"), .byte, .byte]
  resolved := Array.replicate 1451 none
  statics := some 0 }

def pool8 : Array CpInfo := pool [(4, .class_ 6), (1, u "java/lang/Object"), (0, u "<init>"), (0, u "()V"), (5, .class_ 16), (1, u "java/lang/StringLatin1"), (73, u "canEncode"), (14, u "(C)Z"), (15, u "$assertionsDisabled"), (0, u "Z"), (98, .class_ 223), (1, u "java/lang/StringLatin1$LinesSpliterator"), (57, u "equals"), (0, u "([B[B)Z"), (97, u "toBytes"), (1, u "(C)[B"), (7, .class_ 391), (0, u "java/lang/StringLatin1$CharsSpliterator")] 3

def k8m0 : Method := { name := "<init>", desc := "()V", sig := { parameters := [], returnType := none }, accessFlags := 0, code := none }
def k8c1 : Code := { maxStack := 2, maxLocals := 1, code := jdk_43_method_3_code, exceptionTable := #[], attributes := #[] }
def k8m1 : Method := { name := "canEncode", desc := "(C)Z", sig := { parameters := [.char], returnType := some .boolean }, accessFlags := 9, code := some k8c1 }
def k8c2 : Code := { maxStack := 3, maxLocals := 3, code := jdk_43_method_13_code, exceptionTable := #[], attributes := #[] }
def k8m2 : Method := { name := "equals", desc := "([B[B)Z", sig := { parameters := [(.array .byte), (.array .byte)], returnType := some .boolean }, accessFlags := 9, code := some k8c2 }
def k8c3 : Code := { maxStack := 4, maxLocals := 1, code := jdk_43_method_46_code, exceptionTable := #[], attributes := #[] }
def k8m3 : Method := { name := "toBytes", desc := "(C)[B", sig := { parameters := [.char], returnType := some (.array .byte) }, accessFlags := 9, code := some k8c3 }
/-- java/lang/StringLatin1 -/
def k8 : Class := { plain "java/lang/StringLatin1" (some 0) with
  accessFlags := 48
  interfaces := #[]
  cf := some (fileOf pool8 14 #[.nestMembers #[390, 221]] #[{ accessFlags := 0, nameIndex := 7, descriptorIndex := 8, attributes := #[] }, { accessFlags := 9, nameIndex := 90, descriptorIndex := 105, attributes := #[] }, { accessFlags := 9, nameIndex := 281, descriptorIndex := 282, attributes := #[] }, { accessFlags := 9, nameIndex := 380, descriptorIndex := 382, attributes := #[] }] 48 4 #[] #[{ accessFlags := 4120, nameIndex := 121, descriptorIndex := 122, attributes := #[] }])
  fields := #[{ name := "$assertionsDisabled", type := .boolean, accessFlags := 4120, slot := 0, constantValue := 0 }]
  methods := #[k8m0, k8m1, k8m2, k8m3]
  instanceTypes := #[]
  staticTypes := #[.boolean]
  resolved := Array.replicate 395 none
  statics := none }

def pool9 : Array CpInfo := pool [(1, .methodref 2 3), (0, .class_ 4), (0, .nameAndType 5 6), (0, u "java/lang/Object"), (0, u "<init>"), (0, u "()V"), (0, .class_ 8), (0, u "java/lang/Record")] 13

def k9c0 : Code := { maxStack := 1, maxLocals := 1, code := jdk_30_method_1_code, exceptionTable := #[], attributes := #[] }
def k9m0 : Method := { name := "<init>", desc := "()V", sig := { parameters := [], returnType := none }, accessFlags := 4, code := some k9c0 }
/-- java/lang/Record -/
def k9 : Class := { plain "java/lang/Record" (some 0) with
  accessFlags := 1057
  interfaces := #[]
  cf := some (fileOf pool9 7 #[] #[{ accessFlags := 4, nameIndex := 5, descriptorIndex := 6, attributes := #[] }] 1057 2 #[] #[])
  fields := #[]
  methods := #[k9m0]
  instanceTypes := #[]
  staticTypes := #[]
  resolved := Array.replicate 22 none
  statics := none }

def pool10 : Array CpInfo := pool [(1, .methodref 2 3), (0, .class_ 4), (0, .nameAndType 5 6), (0, u "java/lang/Record"), (0, u "<init>"), (0, u "()V"), (0, .fieldref 8 9), (0, .class_ 10), (0, .nameAndType 11 12), (0, u "com/example/narrow_gate/narrowgate/Target$Parameter"), (0, u "name"), (0, u "Ljava/lang/String;"), (0, .fieldref 8 14), (0, .nameAndType 15 12), (0, u "value"), (0, .fieldref 8 17), (0, .nameAndType 18 12), (0, u "text"), (12, u "(Ljava/lang/String;Ljava/lang/String;Ljava/lang/String;)V"), (3, u "()Ljava/lang/String;"), (5, .class_ 42), (0, u "com/example/narrow_gate/narrowgate/Target")] 21

def k10c0 : Code := { maxStack := 2, maxLocals := 4, code := prog_6_method_1_code, exceptionTable := #[], attributes := #[] }
def k10m0 : Method := { name := "<init>", desc := "(Ljava/lang/String;Ljava/lang/String;Ljava/lang/String;)V", sig := { parameters := [(.object "java/lang/String"), (.object "java/lang/String"), (.object "java/lang/String")], returnType := none }, accessFlags := 0, code := some k10c0 }
def k10c1 : Code := { maxStack := 1, maxLocals := 1, code := prog_6_method_5_code, exceptionTable := #[], attributes := #[] }
def k10m1 : Method := { name := "name", desc := "()Ljava/lang/String;", sig := { parameters := [], returnType := some (.object "java/lang/String") }, accessFlags := 1, code := some k10c1 }
def k10c2 : Code := { maxStack := 1, maxLocals := 1, code := prog_6_method_6_code, exceptionTable := #[], attributes := #[] }
def k10m2 : Method := { name := "value", desc := "()Ljava/lang/String;", sig := { parameters := [], returnType := some (.object "java/lang/String") }, accessFlags := 1, code := some k10c2 }
/-- com/example/narrow_gate/narrowgate/Target$Parameter -/
def k10 : Class := { plain "com/example/narrow_gate/narrowgate/Target$Parameter" (some 9) with
  accessFlags := 48
  interfaces := #[]
  cf := some (fileOf pool10 8 #[.nestHost 41] #[{ accessFlags := 0, nameIndex := 5, descriptorIndex := 31, attributes := #[] }, { accessFlags := 1, nameIndex := 11, descriptorIndex := 35, attributes := #[] }, { accessFlags := 1, nameIndex := 15, descriptorIndex := 35, attributes := #[] }] 48 2 #[] #[{ accessFlags := 18, nameIndex := 11, descriptorIndex := 12, attributes := #[] }, { accessFlags := 18, nameIndex := 15, descriptorIndex := 12, attributes := #[] }, { accessFlags := 18, nameIndex := 18, descriptorIndex := 12, attributes := #[] }])
  fields := #[{ name := "name", type := (.object "java/lang/String"), accessFlags := 18, slot := 0, constantValue := 0 }, { name := "value", type := (.object "java/lang/String"), accessFlags := 18, slot := 1, constantValue := 0 }, { name := "text", type := (.object "java/lang/String"), accessFlags := 18, slot := 2, constantValue := 0 }]
  methods := #[k10m0, k10m1, k10m2]
  instanceTypes := #[(.object "java/lang/String"), (.object "java/lang/String"), (.object "java/lang/String")]
  staticTypes := #[]
  resolved := Array.replicate 64 none
  statics := none }

def pool11 : Array CpInfo := pool [(8, .class_ 10), (1, u "java/lang/Iterable"), (24, .class_ 36), (0, u "java/lang/Object")] 25

/-- java/lang/Iterable -/
def k11 : Class := { plain "java/lang/Iterable" (some 0) with
  accessFlags := 1537
  interfaces := #[]
  cf := some (fileOf pool11 8 #[] #[] 1537 35 #[] #[])
  fields := #[]
  methods := #[]
  instanceTypes := #[]
  staticTypes := #[]
  resolved := Array.replicate 62 none
  statics := none }

def pool12 : Array CpInfo := pool [(10, .class_ 12), (1, u "java/util/Collection"), (47, .class_ 61), (0, u "java/lang/Object"), (0, .class_ 63), (0, u "java/lang/Iterable")] 51

/-- java/util/Collection -/
def k12 : Class := { plain "java/util/Collection" (some 0) with
  accessFlags := 1537
  interfaces := #[11]
  cf := some (fileOf pool12 10 #[] #[] 1537 60 #[62] #[])
  fields := #[]
  methods := #[]
  instanceTypes := #[]
  staticTypes := #[]
  resolved := Array.replicate 115 none
  statics := none }

def pool13 : Array CpInfo := pool [(1, .methodref 2 3), (0, .class_ 4), (0, .nameAndType 5 6), (0, u "java/lang/Object"), (0, u "<init>"), (0, u "()V"), (1, .class_ 10), (1, u "java/util/AbstractCollection"), (66, .class_ 78), (0, u "java/util/Collection")] 81

def k13c0 : Code := { maxStack := 1, maxLocals := 1, code := jdk_22_method_1_code, exceptionTable := #[], attributes := #[] }
def k13m0 : Method := { name := "<init>", desc := "()V", sig := { parameters := [], returnType := none }, accessFlags := 4, code := some k13c0 }
/-- java/util/AbstractCollection -/
def k13 : Class := { plain "java/util/AbstractCollection" (some 0) with
  accessFlags := 1057
  interfaces := #[12]
  cf := some (fileOf pool13 8 #[] #[{ accessFlags := 4, nameIndex := 5, descriptorIndex := 6, attributes := #[] }] 1057 2 #[77] #[])
  fields := #[]
  methods := #[k13m0]
  instanceTypes := #[]
  staticTypes := #[]
  resolved := Array.replicate 160 none
  statics := none }

def pool14 : Array CpInfo := pool [(8, .class_ 10), (1, u "java/util/SequencedCollection"), (15, .class_ 27), (0, u "java/lang/Object"), (0, .class_ 29), (0, u "java/util/Collection")] 27

/-- java/util/SequencedCollection -/
def k14 : Class := { plain "java/util/SequencedCollection" (some 0) with
  accessFlags := 1537
  interfaces := #[12]
  cf := some (fileOf pool14 8 #[] #[] 1537 26 #[28] #[])
  fields := #[]
  methods := #[]
  instanceTypes := #[]
  staticTypes := #[]
  resolved := Array.replicate 57 none
  statics := none }

def pool15 : Array CpInfo := pool [(8, .class_ 10), (1, u "java/util/List"), (49, u "add"), (3, u "(Ljava/lang/Object;)Z"), (38, .class_ 104), (0, u "java/lang/Object"), (15, .class_ 121), (0, u "java/util/SequencedCollection"), (1, u "iterator"), (0, u "()Ljava/util/Iterator;")] 126

def k15m0 : Method := { name := "iterator", desc := "()Ljava/util/Iterator;", sig := { parameters := [], returnType := some (.object "java/util/Iterator") }, accessFlags := 1025, code := none }
def k15m1 : Method := { name := "add", desc := "(Ljava/lang/Object;)Z", sig := { parameters := [(.object "java/lang/Object")], returnType := some .boolean }, accessFlags := 1025, code := none }
/-- java/util/List -/
def k15 : Class := { plain "java/util/List" (some 0) with
  accessFlags := 1537
  interfaces := #[14]
  cf := some (fileOf pool15 8 #[] #[{ accessFlags := 1025, nameIndex := 123, descriptorIndex := 124, attributes := #[] }, { accessFlags := 1025, nameIndex := 60, descriptorIndex := 64, attributes := #[] }] 1537 103 #[120] #[])
  fields := #[]
  methods := #[k15m0, k15m1]
  instanceTypes := #[]
  staticTypes := #[]
  resolved := Array.replicate 251 none
  statics := none }

def pool16 : Array CpInfo := pool [(1, .methodref 2 3), (0, .class_ 4), (0, .nameAndType 5 6), (0, u "java/util/AbstractCollection"), (0, u "<init>"), (0, u "()V"), (0, .fieldref 8 9), (0, .class_ 10), (0, .nameAndType 11 12), (0, u "java/util/AbstractList"), (0, u "modCount"), (0, u "I"), (64, .class_ 78), (0, u "java/util/AbstractList$Itr"), (3, .class_ 83), (0, u "java/util/AbstractList$ListItr"), (9, .class_ 94), (0, u "java/util/AbstractList$RandomAccessSubList"), (3, .class_ 99), (0, u "java/util/AbstractList$SubList"), (33, .class_ 134), (0, u "java/util/List"), (73, .class_ 209), (0, u "java/util/AbstractList$SubList$1"), (0, .class_ 211), (0, u "java/util/AbstractList$RandomAccessSpliterator")] 6

def k16c0 : Code := { maxStack := 2, maxLocals := 1, code := jdk_39_method_1_code, exceptionTable := #[], attributes := #[] }
def k16m0 : Method := { name := "<init>", desc := "()V", sig := { parameters := [], returnType := none }, accessFlags := 4, code := some k16c0 }
/-- java/util/AbstractList -/
def k16 : Class := { plain "java/util/AbstractList" (some 13) with
  accessFlags := 1057
  interfaces := #[15]
  cf := some (fileOf pool16 8 #[.nestMembers #[93, 98, 208, 210, 82, 77]] #[{ accessFlags := 4, nameIndex := 5, descriptorIndex := 6, attributes := #[] }] 1057 2 #[133] #[{ accessFlags := 132, nameIndex := 11, descriptorIndex := 12, attributes := #[] }])
  fields := #[{ name := "modCount", type := .int, accessFlags := 132, slot := 0, constantValue := 0 }]
  methods := #[k16m0]
  instanceTypes := #[.int]
  staticTypes := #[]
  resolved := Array.replicate 218 none
  statics := none }

def pool17 : Array CpInfo := pool [(1, .class_ 2), (0, u "java/util/RandomAccess"), (0, .class_ 4), (0, u "java/lang/Object")] 2

/-- java/util/RandomAccess -/
def k17 : Class := { plain "java/util/RandomAccess" (some 0) with
  accessFlags := 1537
  interfaces := #[]
  cf := some (fileOf pool17 1 #[] #[] 1537 3 #[] #[])
  fields := #[]
  methods := #[]
  instanceTypes := #[]
  staticTypes := #[]
  resolved := Array.replicate 7 none
  statics := none }

def pool18 : Array CpInfo := pool [(1, .class_ 2), (0, u "java/lang/Cloneable"), (0, .class_ 4), (0, u "java/lang/Object")] 2

/-- java/lang/Cloneable -/
def k18 : Class := { plain "java/lang/Cloneable" (some 0) with
  accessFlags := 1537
  interfaces := #[]
  cf := some (fileOf pool18 1 #[] #[] 1537 3 #[] #[])
  fields := #[]
  methods := #[]
  instanceTypes := #[]
  staticTypes := #[]
  resolved := Array.replicate 7 none
  statics := none }

def pool19 : Array CpInfo := pool [(1, .methodref 2 3), (0, .class_ 4), (0, .nameAndType 5 6), (0, u "java/util/AbstractList"), (0, u "<init>"), (0, u "()V"), (0, .class_ 8), (0, u "java/lang/Object"), (0, .fieldref 10 11), (0, .class_ 12), (0, .nameAndType 13 14), (0, u "java/util/ArrayList"), (0, u "elementData"), (0, u "[Ljava/lang/Object;"), (2, u "EMPTY_ELEMENTDATA"), (21, .fieldref 10 40), (0, .nameAndType 41 14), (0, u "DEFAULTCAPACITY_EMPTY_ELEMENTDATA"), (5, u "()[Ljava/lang/Object;"), (0, .fieldref 10 49), (0, .nameAndType 50 51), (0, u "size"), (0, u "I"), (11, .fieldref 10 64), (0, .nameAndType 65 51), (0, u "modCount"), (3, .methodref 10 70), (0, .nameAndType 71 72), (0, u "grow"), (0, u "(I)[Ljava/lang/Object;"), (6, .methodref 80 81), (0, .class_ 82), (0, .nameAndType 83 84), (0, u "java/lang/Math"), (0, u "max"), (0, u "(II)I"), (11, u "(Ljava/lang/Object;)Z"), (32, .methodref 10 130), (0, .nameAndType 71 47), (0, .methodref 10 132), (0, .nameAndType 133 134), (0, u "add"), (0, u "(Ljava/lang/Object;[Ljava/lang/Object;I)V"), (13, .class_ 149), (0, u "java/util/List"), (16, u "iterator"), (0, u "()Ljava/util/Iterator;"), (94, .class_ 263), (0, u "java/util/ArrayList$ListItr"), (3, .class_ 268), (0, u "java/util/ArrayList$Itr"), (0, .methodref 267 270), (0, .nameAndType 5 271), (0, u "(Ljava/util/ArrayList;)V"), (4, .class_ 277), (0, u "java/util/ArrayList$SubList"), (12, .class_ 291), (0, u "java/util/ArrayList$ArrayListSpliterator"), (37, .class_ 330), (0, u "java/util/RandomAccess"), (0, .class_ 332), (0, u "java/lang/Cloneable"), (0, .class_ 334), (0, u "java/io/Serializable"), (0, u "serialVersionUID"), (0, u "J"), (3, u "DEFAULT_CAPACITY"), (159, .class_ 501), (0, u "java/util/ArrayList$SubList$2"), (0, .class_ 503), (0, u "java/util/ArrayList$SubList$1")] 5

def k19c0 : Code := { maxStack := 2, maxLocals := 1, code := jdk_38_method_2_code, exceptionTable := #[], attributes := #[] }
def k19m0 : Method := { name := "<init>", desc := "()V", sig := { parameters := [], returnType := none }, accessFlags := 1, code := some k19c0 }
def k19c1 : Code := { maxStack := 4, maxLocals := 4, code := jdk_38_method_6_code, exceptionTable := #[], attributes := #[] }
def k19m1 : Method := { name := "grow", desc := "(I)[Ljava/lang/Object;", sig := { parameters := [.int], returnType := some (.array (.object "java/lang/Object")) }, accessFlags := 2, code := some k19c1 }
def k19c2 : Code := { maxStack := 3, maxLocals := 1, code := jdk_38_method_7_code, exceptionTable := #[], attributes := #[] }
def k19m2 : Method := { name := "grow", desc := "()[Ljava/lang/Object;", sig := { parameters := [], returnType := some (.array (.object "java/lang/Object")) }, accessFlags := 2, code := some k19c2 }
def k19c3 : Code := { maxStack := 3, maxLocals := 4, code := jdk_38_method_24_code, exceptionTable := #[], attributes := #[] }
def k19m3 : Method := { name := "add", desc := "(Ljava/lang/Object;[Ljava/lang/Object;I)V", sig := { parameters := [(.object "java/lang/Object"), (.array (.object "java/lang/Object")), .int], returnType := none }, accessFlags := 2, code := some k19c3 }
def k19c4 : Code := { maxStack := 4, maxLocals := 2, code := jdk_38_method_25_code, exceptionTable := #[], attributes := #[] }
def k19m4 : Method := { name := "add", desc := "(Ljava/lang/Object;)Z", sig := { parameters := [(.object "java/lang/Object")], returnType := some .boolean }, accessFlags := 1, code := some k19c4 }
def k19c5 : Code := { maxStack := 3, maxLocals := 1, code := jdk_38_method_55_code, exceptionTable := #[], attributes := #[] }
def k19m5 : Method := { name := "iterator", desc := "()Ljava/util/Iterator;", sig := { parameters := [], returnType := some (.object "java/util/Iterator") }, accessFlags := 1, code := some k19c5 }
/-- java/util/ArrayList -/
def k19 : Class := { plain "java/util/ArrayList" (some 16) with
  accessFlags := 33
  interfaces := #[15, 17, 18, 2]
  cf := some (fileOf pool19 10 #[.nestMembers #[290, 276, 500, 502, 262, 267]] #[{ accessFlags := 1, nameIndex := 5, descriptorIndex := 6, attributes := #[] }, { accessFlags := 2, nameIndex := 71, descriptorIndex := 72, attributes := #[] }, { accessFlags := 2, nameIndex := 71, descriptorIndex := 47, attributes := #[] }, { accessFlags := 2, nameIndex := 133, descriptorIndex := 134, attributes := #[] }, { accessFlags := 1, nameIndex := 133, descriptorIndex := 96, attributes := #[] }, { accessFlags := 1, nameIndex := 166, descriptorIndex := 167, attributes := #[] }] 33 2 #[148, 329, 331, 333] #[{ accessFlags := 26, nameIndex := 335, descriptorIndex := 336, attributes := #[] }, { accessFlags := 26, nameIndex := 340, descriptorIndex := 51, attributes := #[] }, { accessFlags := 26, nameIndex := 17, descriptorIndex := 14, attributes := #[] }, { accessFlags := 26, nameIndex := 41, descriptorIndex := 14, attributes := #[] }, { accessFlags := 128, nameIndex := 13, descriptorIndex := 14, attributes := #[] }, { accessFlags := 2, nameIndex := 50, descriptorIndex := 51, attributes := #[] }])
  fields := #[{ name := "serialVersionUID", type := .long, accessFlags := 26, slot := 0, constantValue := 0 }, { name := "DEFAULT_CAPACITY", type := .int, accessFlags := 26, slot := 1, constantValue := 0 }, { name := "EMPTY_ELEMENTDATA", type := (.array (.object "java/lang/Object")), accessFlags := 26, slot := 2, constantValue := 0 }, { name := "DEFAULTCAPACITY_EMPTY_ELEMENTDATA", type := (.array (.object "java/lang/Object")), accessFlags := 26, slot := 3, constantValue := 0 }, { name := "elementData", type := (.array (.object "java/lang/Object")), accessFlags := 128, slot := 1, constantValue := 0 }, { name := "size", type := .int, accessFlags := 2, slot := 2, constantValue := 0 }]
  methods := #[k19m0, k19m1, k19m2, k19m3, k19m4, k19m5]
  instanceTypes := #[.int, (.array (.object "java/lang/Object")), .int]
  staticTypes := #[.long, .int, (.array (.object "java/lang/Object")), (.array (.object "java/lang/Object"))]
  resolved := Array.replicate 509 none
  statics := some 1 }

def pool20 : Array CpInfo := pool [(1, .methodref 2 3), (0, .class_ 4), (0, .nameAndType 5 6), (0, u "java/lang/Record"), (0, u "<init>"), (0, u "()V"), (0, .fieldref 8 9), (0, .class_ 10), (0, .nameAndType 11 12), (0, u "com/example/narrow_gate/narrowgate/Target"), (0, u "segments"), (0, u "Ljava/util/List;"), (0, .fieldref 8 14), (0, .nameAndType 15 12), (0, u "parameters"), (1, .class_ 19), (1, u "java/lang/String"), (31, .class_ 53), (1, u "java/util/List"), (1, u "(Ljava/lang/Object;)Z"), (10, u "()Z"), (0, .class_ 68), (0, u "com/example/narrow_gate/narrowgate/Target$Parameter"), (9, u "(Ljava/util/List;Ljava/util/List;)V"), (0, .methodref 80 81), (0, .class_ 82), (0, .nameAndType 83 84), (0, u "java/util/Optional"), (0, u "empty"), (0, u "()Ljava/util/Optional;"), (0, .interfaceMethodref 51 86), (0, .nameAndType 87 88), (0, u "iterator"), (0, u "()Ljava/util/Iterator;"), (0, .interfaceMethodref 90 91), (0, .class_ 92), (0, .nameAndType 93 66), (0, u "java/util/Iterator"), (0, u "hasNext"), (0, .interfaceMethodref 90 95), (0, .nameAndType 96 97), (0, u "next"), (0, u "()Ljava/lang/Object;"), (0, .methodref 67 99), (0, .nameAndType 100 101), (0, u "name"), (0, u "()Ljava/lang/String;"), (0, .methodref 17 103), (0, .nameAndType 104 55), (0, u "equals"), (0, .methodref 67 106), (0, .nameAndType 107 101), (0, u "value"), (0, .methodref 80 109), (0, .nameAndType 110 111), (0, u "of"), (0, u "(Ljava/lang/Object;)Ljava/util/Optional;"), (145, u "parameter"), (0, u "(Ljava/lang/String;)Ljava/util/Optional;")] 41

def k20c0 : Code := { maxStack := 2, maxLocals := 3, code := prog_5_method_1_code, exceptionTable := #[], attributes := #[] }
def k20m0 : Method := { name := "<init>", desc := "(Ljava/util/List;Ljava/util/List;)V", sig := { parameters := [(.object "java/util/List"), (.object "java/util/List")], returnType := none }, accessFlags := 0, code := some k20c0 }
def k20c1 : Code := { maxStack := 2, maxLocals := 5, code := prog_5_method_3_code, exceptionTable := #[], attributes := #[] }
def k20m1 : Method := { name := "parameter", desc := "(Ljava/lang/String;)Ljava/util/Optional;", sig := { parameters := [(.object "java/lang/String")], returnType := some (.object "java/util/Optional") }, accessFlags := 0, code := some k20c1 }
/-- com/example/narrow_gate/narrowgate/Target -/
def k20 : Class := { plain "com/example/narrow_gate/narrowgate/Target" (some 9) with
  accessFlags := 48
  interfaces := #[]
  cf := some (fileOf pool20 8 #[.nestMembers #[67]] #[{ accessFlags := 0, nameIndex := 5, descriptorIndex := 78, attributes := #[] }, { accessFlags := 0, nameIndex := 257, descriptorIndex := 258, attributes := #[] }] 48 2 #[] #[{ accessFlags := 18, nameIndex := 11, descriptorIndex := 12, attributes := #[] }, { accessFlags := 18, nameIndex := 15, descriptorIndex := 12, attributes := #[] }])
  fields := #[{ name := "segments", type := (.object "java/util/List"), accessFlags := 18, slot := 0, constantValue := 0 }, { name := "parameters", type := (.object "java/util/List"), accessFlags := 18, slot := 1, constantValue := 0 }]
  methods := #[k20m0, k20m1]
  instanceTypes := #[(.object "java/util/List"), (.object "java/util/List")]
  staticTypes := #[]
  resolved := Array.replicate 300 none
  statics := none }

def pool21 : Array CpInfo := pool [(1, .fieldref 2 3), (0, .class_ 4), (0, .nameAndType 5 6), (0, u "java/util/Optional"), (0, u "EMPTY"), (0, u "Ljava/util/Optional;"), (0, .methodref 8 9), (0, .class_ 10), (0, .nameAndType 11 12), (0, u "java/lang/Object"), (0, u "<init>"), (0, u "()V"), (0, .fieldref 2 14), (0, .nameAndType 15 16), (0, u "value"), (0, u "Ljava/lang/Object;"), (0, .methodref 18 19), (0, .class_ 20), (0, .nameAndType 21 22), (0, u "java/util/Objects"), (0, u "requireNonNull"), (0, u "(Ljava/lang/Object;)Ljava/lang/Object;"), (0, .methodref 2 24), (0, .nameAndType 11 25), (0, u "(Ljava/lang/Object;)V"), (20, u "()Z"), (8, u "empty"), (0, u "()Ljava/util/Optional;"), (8, u "(Ljava/lang/Object;)Ljava/util/Optional;"), (2, u "isPresent"), (4, u "get"), (0, u "()Ljava/lang/Object;"), (7, u "of")] 104

def k21c0 : Code := { maxStack := 1, maxLocals := 1, code := jdk_32_method_1_code, exceptionTable := #[], attributes := #[] }
def k21m0 : Method := { name := "empty", desc := "()Ljava/util/Optional;", sig := { parameters := [], returnType := some (.object "java/util/Optional") }, accessFlags := 9, code := some k21c0 }
def k21c1 : Code := { maxStack := 2, maxLocals := 2, code := jdk_32_method_2_code, exceptionTable := #[], attributes := #[] }
def k21m1 : Method := { name := "<init>", desc := "(Ljava/lang/Object;)V", sig := { parameters := [(.object "java/lang/Object")], returnType := none }, accessFlags := 2, code := some k21c1 }
def k21c2 : Code := { maxStack := 3, maxLocals := 1, code := jdk_32_method_3_code, exceptionTable := #[], attributes := #[] }
def k21m2 : Method := { name := "of", desc := "(Ljava/lang/Object;)Ljava/util/Optional;", sig := { parameters := [(.object "java/lang/Object")], returnType := some (.object "java/util/Optional") }, accessFlags := 9, code := some k21c2 }
def k21c3 : Code := { maxStack := 3, maxLocals := 1, code := jdk_32_method_5_code, exceptionTable := #[], attributes := #[] }
def k21m3 : Method := { name := "get", desc := "()Ljava/lang/Object;", sig := { parameters := [], returnType := some (.object "java/lang/Object") }, accessFlags := 1, code := some k21c3 }
def k21c4 : Code := { maxStack := 1, maxLocals := 1, code := jdk_32_method_6_code, exceptionTable := #[], attributes := #[] }
def k21m4 : Method := { name := "isPresent", desc := "()Z", sig := { parameters := [], returnType := some .boolean }, accessFlags := 1, code := some k21c4 }
/-- java/util/Optional -/
def k21 : Class := { plain "java/util/Optional" (some 0) with
  accessFlags := 49
  interfaces := #[]
  cf := some (fileOf pool21 2 #[] #[{ accessFlags := 9, nameIndex := 55, descriptorIndex := 56, attributes := #[] }, { accessFlags := 2, nameIndex := 11, descriptorIndex := 25, attributes := #[] }, { accessFlags := 9, nameIndex := 82, descriptorIndex := 65, attributes := #[] }, { accessFlags := 1, nameIndex := 73, descriptorIndex := 74, attributes := #[] }, { accessFlags := 1, nameIndex := 68, descriptorIndex := 46, attributes := #[] }] 49 8 #[] #[{ accessFlags := 26, nameIndex := 5, descriptorIndex := 6, attributes := #[] }, { accessFlags := 18, nameIndex := 15, descriptorIndex := 16, attributes := #[] }])
  fields := #[{ name := "EMPTY", type := (.object "java/util/Optional"), accessFlags := 26, slot := 0, constantValue := 0 }, { name := "value", type := (.object "java/lang/Object"), accessFlags := 18, slot := 0, constantValue := 0 }]
  methods := #[k21m0, k21m1, k21m2, k21m3, k21m4]
  instanceTypes := #[(.object "java/lang/Object")]
  staticTypes := #[(.object "java/util/Optional")]
  resolved := Array.replicate 187 none
  statics := some 2 }

def pool22 : Array CpInfo := pool [(16, .class_ 18), (1, u "java/util/Iterator"), (0, u "hasNext"), (0, u "()Z"), (2, u "next"), (0, u "()Ljava/lang/Object;"), (6, .class_ 32), (0, u "java/lang/Object")] 20

def k22m0 : Method := { name := "hasNext", desc := "()Z", sig := { parameters := [], returnType := some .boolean }, accessFlags := 1025, code := none }
def k22m1 : Method := { name := "next", desc := "()Ljava/lang/Object;", sig := { parameters := [], returnType := some (.object "java/lang/Object") }, accessFlags := 1025, code := none }
/-- java/util/Iterator -/
def k22 : Class := { plain "java/util/Iterator" (some 0) with
  accessFlags := 1537
  interfaces := #[]
  cf := some (fileOf pool22 16 #[] #[{ accessFlags := 1025, nameIndex := 19, descriptorIndex := 20, attributes := #[] }, { accessFlags := 1025, nameIndex := 23, descriptorIndex := 24, attributes := #[] }] 1537 31 #[] #[])
  fields := #[]
  methods := #[k22m0, k22m1]
  instanceTypes := #[]
  staticTypes := #[]
  resolved := Array.replicate 53 none
  statics := none }

def pool23 : Array CpInfo := pool [(1, .fieldref 2 3), (0, .class_ 4), (0, .nameAndType 5 6), (0, u "java/util/ArrayList$Itr"), (0, u "this$0"), (0, u "Ljava/util/ArrayList;"), (0, .methodref 8 9), (0, .class_ 10), (0, .nameAndType 11 12), (0, u "java/lang/Object"), (0, u "<init>"), (0, u "()V"), (0, .fieldref 2 14), (0, .nameAndType 15 16), (0, u "lastRet"), (0, u "I"), (0, .fieldref 18 19), (0, .class_ 20), (0, .nameAndType 21 16), (0, u "java/util/ArrayList"), (0, u "modCount"), (0, .fieldref 2 23), (0, .nameAndType 24 16), (0, u "expectedModCount"), (0, .fieldref 2 26), (0, .nameAndType 27 16), (0, u "cursor"), (0, .fieldref 18 29), (0, .nameAndType 30 16), (0, u "size"), (0, .methodref 2 32), (0, .nameAndType 33 12), (0, u "checkForComodification"), (3, .fieldref 18 38), (0, .nameAndType 39 40), (0, u "elementData"), (0, u "[Ljava/lang/Object;"), (28, .class_ 70), (0, u "java/util/Iterator"), (0, u "(Ljava/util/ArrayList;)V"), (8, u "hasNext"), (0, u "()Z"), (1, u "next"), (0, u "()Ljava/lang/Object;")] 19

def k23c0 : Code := { maxStack := 2, maxLocals := 2, code := jdk_49_method_1_code, exceptionTable := #[], attributes := #[] }
def k23m0 : Method := { name := "<init>", desc := "(Ljava/util/ArrayList;)V", sig := { parameters := [(.object "java/util/ArrayList")], returnType := none }, accessFlags := 0, code := some k23c0 }
def k23c1 : Code := { maxStack := 2, maxLocals := 1, code := jdk_49_method_2_code, exceptionTable := #[], attributes := #[] }
def k23m1 : Method := { name := "hasNext", desc := "()Z", sig := { parameters := [], returnType := some .boolean }, accessFlags := 1, code := some k23c1 }
def k23c2 : Code := { maxStack := 4, maxLocals := 3, code := jdk_49_method_3_code, exceptionTable := #[], attributes := #[] }
def k23m2 : Method := { name := "next", desc := "()Ljava/lang/Object;", sig := { parameters := [], returnType := some (.object "java/lang/Object") }, accessFlags := 1, code := some k23c2 }
def k23c3 : Code := { maxStack := 2, maxLocals := 1, code := jdk_49_method_6_code, exceptionTable := #[], attributes := #[] }
def k23m3 : Method := { name := "checkForComodification", desc := "()V", sig := { parameters := [], returnType := none }, accessFlags := 16, code := some k23c3 }
/-- java/util/ArrayList$Itr -/
def k23 : Class := { plain "java/util/ArrayList$Itr" (some 0) with
  accessFlags := 32
  interfaces := #[22]
  cf := some (fileOf pool23 2 #[.nestHost 18] #[{ accessFlags := 0, nameIndex := 11, descriptorIndex := 71, attributes := #[] }, { accessFlags := 1, nameIndex := 80, descriptorIndex := 81, attributes := #[] }, { accessFlags := 1, nameIndex := 83, descriptorIndex := 84, attributes := #[] }, { accessFlags := 16, nameIndex := 33, descriptorIndex := 12, attributes := #[] }] 32 8 #[69] #[{ accessFlags := 0, nameIndex := 27, descriptorIndex := 16, attributes := #[] }, { accessFlags := 0, nameIndex := 15, descriptorIndex := 16, attributes := #[] }, { accessFlags := 0, nameIndex := 24, descriptorIndex := 16, attributes := #[] }, { accessFlags := 4112, nameIndex := 5, descriptorIndex := 6, attributes := #[] }])
  fields := #[{ name := "cursor", type := .int, accessFlags := 0, slot := 0, constantValue := 0 }, { name := "lastRet", type := .int, accessFlags := 0, slot := 1, constantValue := 0 }, { name := "expectedModCount", type := .int, accessFlags := 0, slot := 2, constantValue := 0 }, { name := "this$0", type := (.object "java/util/ArrayList"), accessFlags := 4112, slot := 3, constantValue := 0 }]
  methods := #[k23m0, k23m1, k23m2, k23m3]
  instanceTypes := #[.int, .int, .int, (.object "java/util/ArrayList")]
  staticTypes := #[]
  resolved := Array.replicate 104 none
  statics := none }

def pool24 : Array CpInfo := pool [(1, .class_ 2), (0, u "java/lang/Math"), (1, .class_ 6), (1, u "java/lang/Object"), (0, u "<init>"), (0, u "()V"), (89, .class_ 100), (1, u "java/lang/Math$RandomNumberGeneratorHolder"), (71, u "negativeZeroFloatBits"), (0, u "J"), (2, u "negativeZeroDoubleBits"), (21, u "max"), (46, u "$assertionsDisabled"), (0, u "Z"), (88, u "(II)I"), (2, u "twoToTheDoubleScaleDown"), (0, u "D"), (4, u "twoToTheDoubleScaleUp"), (9, u "E"), (3, u "PI"), (2, u "TAU"), (2, u "DEGREES_TO_RADIANS"), (0, u "RADIANS_TO_DEGREES")] 94

def k24m0 : Method := { name := "<init>", desc := "()V", sig := { parameters := [], returnType := none }, accessFlags := 2, code := none }
def k24c1 : Code := { maxStack := 2, maxLocals := 2, code := jdk_29_method_65_code, exceptionTable := #[], attributes := #[] }
def k24m1 : Method := { name := "max", desc := "(II)I", sig := { parameters := [.int, .int], returnType := some .int }, accessFlags := 9, code := some k24c1 }
/-- java/lang/Math -/
def k24 : Class := { plain "java/lang/Math" (some 0) with
  accessFlags := 49
  interfaces := #[]
  cf := some (fileOf pool24 1 #[.nestMembers #[98]] #[{ accessFlags := 2, nameIndex := 7, descriptorIndex := 8, attributes := #[] }, { accessFlags := 9, nameIndex := 198, descriptorIndex := 335, attributes := #[] }] 49 4 #[] #[{ accessFlags := 25, nameIndex := 354, descriptorIndex := 339, attributes := #[] }, { accessFlags := 25, nameIndex := 358, descriptorIndex := 339, attributes := #[] }, { accessFlags := 25, nameIndex := 361, descriptorIndex := 339, attributes := #[] }, { accessFlags := 26, nameIndex := 364, descriptorIndex := 339, attributes := #[] }, { accessFlags := 26, nameIndex := 365, descriptorIndex := 339, attributes := #[] }, { accessFlags := 26, nameIndex := 172, descriptorIndex := 173, attributes := #[] }, { accessFlags := 26, nameIndex := 176, descriptorIndex := 173, attributes := #[] }, { accessFlags := 8, nameIndex := 344, descriptorIndex := 339, attributes := #[] }, { accessFlags := 8, nameIndex := 338, descriptorIndex := 339, attributes := #[] }, { accessFlags := 4120, nameIndex := 245, descriptorIndex := 246, attributes := #[] }])
  fields := #[{ name := "E", type := .double, accessFlags := 25, slot := 0, constantValue := 0 }, { name := "PI", type := .double, accessFlags := 25, slot := 1, constantValue := 0 }, { name := "TAU", type := .double, accessFlags := 25, slot := 2, constantValue := 0 }, { name := "DEGREES_TO_RADIANS", type := .double, accessFlags := 26, slot := 3, constantValue := 0 }, { name := "RADIANS_TO_DEGREES", type := .double, accessFlags := 26, slot := 4, constantValue := 0 }, { name := "negativeZeroFloatBits", type := .long, accessFlags := 26, slot := 5, constantValue := 0 }, { name := "negativeZeroDoubleBits", type := .long, accessFlags := 26, slot := 6, constantValue := 0 }, { name := "twoToTheDoubleScaleUp", type := .double, accessFlags := 8, slot := 7, constantValue := 0 }, { name := "twoToTheDoubleScaleDown", type := .double, accessFlags := 8, slot := 8, constantValue := 0 }, { name := "$assertionsDisabled", type := .boolean, accessFlags := 4120, slot := 9, constantValue := 0 }]
  methods := #[k24m0, k24m1]
  instanceTypes := #[]
  staticTypes := #[.double, .double, .double, .double, .double, .long, .long, .double, .double, .boolean]
  resolved := Array.replicate 460 none
  statics := none }

def pool25 : Array CpInfo := pool [(2, .class_ 4), (1, u "java/lang/Object"), (0, u "<init>"), (0, u "()V"), (35, .class_ 44), (1, u "java/util/Objects"), (0, u "requireNonNull"), (0, u "(Ljava/lang/Object;)Ljava/lang/Object;")] 137

def k25m0 : Method := { name := "<init>", desc := "()V", sig := { parameters := [], returnType := none }, accessFlags := 2, code := none }
def k25c1 : Code := { maxStack := 2, maxLocals := 1, code := jdk_31_method_10_code, exceptionTable := #[], attributes := #[] }
def k25m1 : Method := { name := "requireNonNull", desc := "(Ljava/lang/Object;)Ljava/lang/Object;", sig := { parameters := [(.object "java/lang/Object")], returnType := some (.object "java/lang/Object") }, accessFlags := 9, code := some k25c1 }
/-- java/util/Objects -/
def k25 : Class := { plain "java/util/Objects" (some 0) with
  accessFlags := 49
  interfaces := #[]
  cf := some (fileOf pool25 42 #[] #[{ accessFlags := 2, nameIndex := 5, descriptorIndex := 6, attributes := #[] }, { accessFlags := 9, nameIndex := 45, descriptorIndex := 46, attributes := #[] }] 49 2 #[] #[])
  fields := #[]
  methods := #[k25m0, k25m1]
  instanceTypes := #[]
  staticTypes := #[]
  resolved := Array.replicate 184 none
  statics := none }

def pool26 : Array CpInfo := pool [(2, .class_ 4), (1, u "java/lang/Object"), (0, u "<init>"), (0, u "()V"), (17, .class_ 26), (1, u "jdk/internal/util/Preconditions"), (28, .class_ 56), (0, u "jdk/internal/util/Preconditions$4"), (57, .class_ 115), (0, u "jdk/internal/util/Preconditions$1"), (7, u "SIOOBE_FORMATTER"), (0, u "Ljava/util/function/BiFunction;"), (0, .class_ 126), (0, u "jdk/internal/util/Preconditions$2"), (3, u "AIOOBE_FORMATTER"), (0, .class_ 132), (0, u "jdk/internal/util/Preconditions$3"), (3, u "IOOBE_FORMATTER")] 57

def k26m0 : Method := { name := "<init>", desc := "()V", sig := { parameters := [], returnType := none }, accessFlags := 1, code := none }
/-- jdk/internal/util/Preconditions -/
def k26 : Class := { plain "jdk/internal/util/Preconditions" (some 0) with
  accessFlags := 33
  interfaces := #[]
  cf := some (fileOf pool26 24 #[.nestMembers #[55, 131, 125, 114]] #[{ accessFlags := 1, nameIndex := 5, descriptorIndex := 6, attributes := #[] }] 33 2 #[] #[{ accessFlags := 25, nameIndex := 123, descriptorIndex := 124, attributes := #[] }, { accessFlags := 25, nameIndex := 130, descriptorIndex := 124, attributes := #[] }, { accessFlags := 25, nameIndex := 136, descriptorIndex := 124, attributes := #[] }])
  fields := #[{ name := "SIOOBE_FORMATTER", type := (.object "java/util/function/BiFunction"), accessFlags := 25, slot := 0, constantValue := 0 }, { name := "AIOOBE_FORMATTER", type := (.object "java/util/function/BiFunction"), accessFlags := 25, slot := 1, constantValue := 0 }, { name := "IOOBE_FORMATTER", type := (.object "java/util/function/BiFunction"), accessFlags := 25, slot := 2, constantValue := 0 }]
  methods := #[k26m0]
  instanceTypes := #[]
  staticTypes := #[(.object "java/util/function/BiFunction"), (.object "java/util/function/BiFunction"), (.object "java/util/function/BiFunction")]
  resolved := Array.replicate 194 none
  statics := some 3 }

def pool27 : Array CpInfo := pool [(9, u "<init>"), (6, .class_ 18), (1, u "java/lang/Object"), (0, u "()V"), (1, .class_ 23), (1, u "jdk/internal/util/ArraysSupport"), (0, u "LOG2_ARRAY_LONG_INDEX_SCALE"), (0, u "I"), (2, u "U"), (0, u "Ljdk/internal/misc/Unsafe;"), (8, u "BIG_ENDIAN"), (0, u "Z"), (8, u "LOG2_BYTE_BIT_SIZE"), (4, u "LOG2_ARRAY_INT_INDEX_SCALE"), (54, u "JLA"), (0, u "Ljdk/internal/access/JavaLangAccess;"), (11, u "LOG2_ARRAY_BOOLEAN_INDEX_SCALE"), (9, u "LOG2_ARRAY_BYTE_INDEX_SCALE"), (5, u "LOG2_ARRAY_CHAR_INDEX_SCALE"), (5, u "LOG2_ARRAY_SHORT_INDEX_SCALE"), (18, u "LOG2_ARRAY_FLOAT_INDEX_SCALE"), (24, u "LOG2_ARRAY_DOUBLE_INDEX_SCALE"), (89, u "T_BOOLEAN"), (2, u "T_CHAR"), (1, u "T_FLOAT"), (1, u "T_DOUBLE"), (1, u "T_BYTE"), (1, u "T_SHORT"), (1, u "T_INT"), (1, u "T_LONG"), (1, u "SOFT_MAX_ARRAY_LENGTH")] 83

def k27m0 : Method := { name := "<init>", desc := "()V", sig := { parameters := [], returnType := none }, accessFlags := 2, code := none }
/-- jdk/internal/util/ArraysSupport -/
def k27 : Class := { plain "jdk/internal/util/ArraysSupport" (some 0) with
  accessFlags := 33
  interfaces := #[]
  cf := some (fileOf pool27 21 #[] #[{ accessFlags := 2, nameIndex := 9, descriptorIndex := 19, attributes := #[] }] 33 16 #[] #[{ accessFlags := 24, nameIndex := 28, descriptorIndex := 29, attributes := #[] }, { accessFlags := 26, nameIndex := 38, descriptorIndex := 39, attributes := #[] }, { accessFlags := 25, nameIndex := 121, descriptorIndex := 25, attributes := #[] }, { accessFlags := 25, nameIndex := 131, descriptorIndex := 25, attributes := #[] }, { accessFlags := 25, nameIndex := 137, descriptorIndex := 25, attributes := #[] }, { accessFlags := 25, nameIndex := 143, descriptorIndex := 25, attributes := #[] }, { accessFlags := 25, nameIndex := 53, descriptorIndex := 25, attributes := #[] }, { accessFlags := 25, nameIndex := 24, descriptorIndex := 25, attributes := #[] }, { accessFlags := 25, nameIndex := 162, descriptorIndex := 25, attributes := #[] }, { accessFlags := 25, nameIndex := 187, descriptorIndex := 25, attributes := #[] }, { accessFlags := 26, nameIndex := 48, descriptorIndex := 25, attributes := #[] }, { accessFlags := 25, nameIndex := 277, descriptorIndex := 25, attributes := #[] }, { accessFlags := 25, nameIndex := 280, descriptorIndex := 25, attributes := #[] }, { accessFlags := 25, nameIndex := 282, descriptorIndex := 25, attributes := #[] }, { accessFlags := 25, nameIndex := 284, descriptorIndex := 25, attributes := #[] }, { accessFlags := 25, nameIndex := 286, descriptorIndex := 25, attributes := #[] }, { accessFlags := 25, nameIndex := 288, descriptorIndex := 25, attributes := #[] }, { accessFlags := 25, nameIndex := 290, descriptorIndex := 25, attributes := #[] }, { accessFlags := 25, nameIndex := 292, descriptorIndex := 25, attributes := #[] }, { accessFlags := 26, nameIndex := 108, descriptorIndex := 109, attributes := #[] }, { accessFlags := 25, nameIndex := 294, descriptorIndex := 25, attributes := #[] }])
  fields := #[{ name := "U", type := (.object "jdk/internal/misc/Unsafe"), accessFlags := 24, slot := 0, constantValue := 0 }, { name := "BIG_ENDIAN", type := .boolean, accessFlags := 26, slot := 1, constantValue := 0 }, { name := "LOG2_ARRAY_BOOLEAN_INDEX_SCALE", type := .int, accessFlags := 25, slot := 2, constantValue := 0 }, { name := "LOG2_ARRAY_BYTE_INDEX_SCALE", type := .int, accessFlags := 25, slot := 3, constantValue := 0 }, { name := "LOG2_ARRAY_CHAR_INDEX_SCALE", type := .int, accessFlags := 25, slot := 4, constantValue := 0 }, { name := "LOG2_ARRAY_SHORT_INDEX_SCALE", type := .int, accessFlags := 25, slot := 5, constantValue := 0 }, { name := "LOG2_ARRAY_INT_INDEX_SCALE", type := .int, accessFlags := 25, slot := 6, constantValue := 0 }, { name := "LOG2_ARRAY_LONG_INDEX_SCALE", type := .int, accessFlags := 25, slot := 7, constantValue := 0 }, { name := "LOG2_ARRAY_FLOAT_INDEX_SCALE", type := .int, accessFlags := 25, slot := 8, constantValue := 0 }, { name := "LOG2_ARRAY_DOUBLE_INDEX_SCALE", type := .int, accessFlags := 25, slot := 9, constantValue := 0 }, { name := "LOG2_BYTE_BIT_SIZE", type := .int, accessFlags := 26, slot := 10, constantValue := 0 }, { name := "T_BOOLEAN", type := .int, accessFlags := 25, slot := 11, constantValue := 0 }, { name := "T_CHAR", type := .int, accessFlags := 25, slot := 12, constantValue := 0 }, { name := "T_FLOAT", type := .int, accessFlags := 25, slot := 13, constantValue := 0 }, { name := "T_DOUBLE", type := .int, accessFlags := 25, slot := 14, constantValue := 0 }, { name := "T_BYTE", type := .int, accessFlags := 25, slot := 15, constantValue := 0 }, { name := "T_SHORT", type := .int, accessFlags := 25, slot := 16, constantValue := 0 }, { name := "T_INT", type := .int, accessFlags := 25, slot := 17, constantValue := 0 }, { name := "T_LONG", type := .int, accessFlags := 25, slot := 18, constantValue := 0 }, { name := "JLA", type := (.object "jdk/internal/access/JavaLangAccess"), accessFlags := 26, slot := 19, constantValue := 0 }, { name := "SOFT_MAX_ARRAY_LENGTH", type := .int, accessFlags := 25, slot := 20, constantValue := 0 }]
  methods := #[k27m0]
  instanceTypes := #[]
  staticTypes := #[(.object "jdk/internal/misc/Unsafe"), .boolean, .int, .int, .int, .int, .int, .int, .int, .int, .int, .int, .int, .int, .int, .int, .int, .int, .int, (.object "jdk/internal/access/JavaLangAccess"), .int]
  resolved := Array.replicate 378 none
  statics := none }

/-- the primitive byte -/
def k28 : Class := { plain "byte" none with kind := .primitive 'B', accessFlags := 0x411 }
/-- [B -/
def k29 : Class := { plain "[B" (some 0) with kind := .array 28 .byte, interfaces := #[18, 2], accessFlags := 1041 }

/-- the primitive int -/
def k30 : Class := { plain "int" none with kind := .primitive 'I', accessFlags := 0x411 }
/-- [I -/
def k31 : Class := { plain "[I" (some 0) with kind := .array 30 .int, interfaces := #[18, 2], accessFlags := 1041 }

/-- [Ljava/lang/Object; -/
def k32 : Class := { plain "[Ljava/lang/Object;" (some 0) with kind := .array 0 (.object "java/lang/Object"), interfaces := #[18, 2], accessFlags := 1041 }

def heap : Heap := #[{ cls := 7, slots := #[.long 0, .int 1, .null, .int 0, .null, .int 0, .int 0], vm := .statics 7 },
  { cls := 19, slots := #[.long 0, .int 0, .ref 4, .ref 5], vm := .statics 19 },
  { cls := 21, slots := #[.ref 6], vm := .statics 21 },
  { cls := 26, slots := #[.null, .null, .null], vm := .statics 26 },
  { cls := 32, slots := #[], vm := .none },
  { cls := 32, slots := #[], vm := .none },
  { cls := 21, slots := #[.null], vm := .none }]
def classes : Array Class := #[k0, k1, k2, k3, k4, k5, k6, k7, k8, k9, k10, k11, k12, k13, k14, k15, k16, k17, k18, k19, k20, k21, k22, k23, k24, k25, k26, k27, k28, k29, k30, k31, k32]
def interned : List (Array UInt16 × Addr) := []
def slotsUsed : Nat := 16
def theMethod : MethodId := ⟨1, 1⟩
def args0 : Array Value := #[.int 5, .int 7, .int 5, .int 7]
def aboutOver (below : List Frame) : State where
  vm := { classes := classes, interned := interned.toArray }
  heap := heap
  slotsUsed := slotsUsed
  threads := #[{ frames := .invoking theMethod args0 :: below }]
def below0 : List Frame := [.native { method := ⟨0, 0⟩, args := #[] }]
def about1 : State := aboutOver below0
def p0 : Program := .bare "" "" ""
def e0 : Env := launch0.env 0 0 0
theorem w_frames : about1.frames = Frame.invoking theMethod args0 :: below0 := rfl
set_option maxRecDepth 65536 in
theorem w_args : argsFit about1.vm theMethod args0 = true := by decide +kernel
set_option maxRecDepth 65536 in
theorem w_heap : heapFits about1 = true := by decide +kernel
set_option maxRecDepth 65536 in
theorem w_runnable : about1.curStatus? = some .runnable := by decide +kernel
set_option maxRecDepth 65536 in
theorem w_alone : about1.alone = true := by decide +kernel
set_option maxRecDepth 65536 in
theorem w_named : about1.methodNamed? x = some theMethod := by decide +kernel
set_option maxRecDepth 65536 in
theorem w_hears : about1.hears theMethod below0 = true := by decide +kernel
set_option maxRecDepth 65536 in
theorem w_ripe : about1.ripe theMethod args0 below0 = true := by decide +kernel
theorem w_running : about1.status = .running := rfl
set_option maxRecDepth 65536 in
theorem w_room : about1.hasRoom e0.platform room_1 = true :=
  launch0.hasRoom_least _ room_1 (by decide +kernel) (by decide +kernel) (by decide +kernel) (by decide +kernel) (by decide +kernel) (by decide +kernel)
theorem allAtoms_all (ts : List Jvm.Cond) (a : Array Jvm.Value) (st : Jvm.State) : (allAtoms ts).before a st = ts.all (fun c => c.before a st) := by
  induction ts with
  | nil => rfl
  | cons c t ih =>
    show (Jvm.Cond.and c (allAtoms t)).before a st = _
    rw [Jvm.Cond.before_and, ih, List.all_cons]
def words1 : List Jvm.Cond := Jvm.Cond.code x code maxLocals ret :: tables_1
/-- a 'code' word, met by the world's own term for the bytes: nothing is compared byte by byte -/
theorem code_word {y : MethodName} {bytes : ByteArray} {mx : Nat} {rt : Option FieldType} {a : Array Value} {s : State} {m : MethodId} {meth : Method} {c : Code} (h1 : s.methodNamed? y = some m) (h2 : s.vm.method? m = some meth) (h3 : meth.code = some c) (h4 : c.code = bytes)
    (h5 : (c.maxLocals == mx && c.exceptionTable.isEmpty && decide (c.maxStack ≤ mostOperands) && decide (meth.sig.returnType = rt) && !meth.locks && decide (parseMethodDescriptor y.desc = some meth.sig)) = true) : (Jvm.Cond.code y bytes mx rt).before a s = true := by
  simp only [Bool.and_eq_true, beq_iff_eq, Bool.not_eq_true', decide_eq_true_eq] at h5
  obtain ⟨⟨⟨⟨⟨g1, g2⟩, g3⟩, g4⟩, g5⟩, g6⟩ := h5
  simp [Cond.before, Cond.holds, Cond.value, h1, h2, h3, h4, g1, g2, g3, g4, g5, g6]
def isCode : Jvm.Cond → Bool
  | .code _ _ _ _ => true
  | _ => false
theorem all_split {L : List Jvm.Cond} {P : Jvm.Cond → Bool} (h1 : L.all (fun c => isCode c || P c) = true) (h2 : ∀ c ∈ L.filter isCode, P c = true) : L.all P = true := by
  refine List.all_eq_true.mpr fun c hc => ?_
  have h := List.all_eq_true.mp h1 c hc
  rcases Bool.eq_false_or_eq_true (isCode c) with hi | hi
  · exact h2 c (List.mem_filter.mpr ⟨hc, hi⟩)
  · simpa [hi] using h
set_option maxRecDepth 65536 in
theorem w_c0 : (Jvm.Cond.code x code maxLocals ret).before args0 about1 = true := code_word (m := ⟨1, 1⟩) (meth := k1m1) (c := k1c1) (by decide +kernel) rfl rfl rfl (by decide +kernel)
set_option maxRecDepth 65536 in
theorem w_c1 : (Jvm.Cond.code ({ cls := "java/lang/String", name := "valueOf", desc := "(C)Ljava/lang/String;" } : Jvm.MethodName) jdk_42_method_139_code (1 : Nat) (Option.some (Jvm.ClassFile.FieldType.object "java/lang/String"))).before args0 about1 = true := code_word (m := ⟨7, 2⟩) (meth := k7m2) (c := k7c2) (by decide +kernel) rfl rfl rfl (by decide +kernel)
set_option maxRecDepth 65536 in
theorem w_c2 : (Jvm.Cond.code ({ cls := "java/lang/StringLatin1", name := "canEncode", desc := "(C)Z" } : Jvm.MethodName) jdk_43_method_3_code (1 : Nat) (Option.some Jvm.ClassFile.FieldType.boolean)).before args0 about1 = true := code_word (m := ⟨8, 1⟩) (meth := k8m1) (c := k8c1) (by decide +kernel) rfl rfl rfl (by decide +kernel)
set_option maxRecDepth 65536 in
theorem w_c3 : (Jvm.Cond.code ({ cls := "java/lang/StringLatin1", name := "toBytes", desc := "(C)[B" } : Jvm.MethodName) jdk_43_method_46_code (1 : Nat) (Option.some (Jvm.ClassFile.FieldType.array Jvm.ClassFile.FieldType.byte))).before args0 about1 = true := code_word (m := ⟨8, 3⟩) (meth := k8m3) (c := k8c3) (by decide +kernel) rfl rfl rfl (by decide +kernel)
set_option maxRecDepth 65536 in
theorem w_c4 : (Jvm.Cond.code ({ cls := "java/lang/String", name := "<init>", desc := "([BB)V" } : Jvm.MethodName) jdk_42_method_151_code (3 : Nat) (Option.none : Option Jvm.ClassFile.FieldType)).before args0 about1 = true := code_word (m := ⟨7, 3⟩) (meth := k7m3) (c := k7c3) (by decide +kernel) rfl rfl rfl (by decide +kernel)
set_option maxRecDepth 65536 in
theorem w_c5 : (Jvm.Cond.code ({ cls := "java/lang/Object", name := "<init>", desc := "()V" } : Jvm.MethodName) object_method_1_code (1 : Nat) (Option.none : Option Jvm.ClassFile.FieldType)).before args0 about1 = true := code_word (m := ⟨0, 0⟩) (meth := k0m0) (c := k0c0) (by decide +kernel) rfl rfl rfl (by decide +kernel)
set_option maxRecDepth 65536 in
theorem w_c6 : (Jvm.Cond.code ({ cls := "com/example/narrow_gate/narrowgate/Target$Parameter", name := "<init>", desc := "(Ljava/lang/String;Ljava/lang/String;Ljava/lang/String;)V" } : Jvm.MethodName) prog_6_method_1_code (4 : Nat) (Option.none : Option Jvm.ClassFile.FieldType)).before args0 about1 = true := code_word (m := ⟨10, 0⟩) (meth := k10m0) (c := k10c0) (by decide +kernel) rfl rfl rfl (by decide +kernel)
set_option maxRecDepth 65536 in
theorem w_c7 : (Jvm.Cond.code ({ cls := "java/lang/Record", name := "<init>", desc := "()V" } : Jvm.MethodName) jdk_30_method_1_code (1 : Nat) (Option.none : Option Jvm.ClassFile.FieldType)).before args0 about1 = true := code_word (m := ⟨9, 0⟩) (meth := k9m0) (c := k9c0) (by decide +kernel) rfl rfl rfl (by decide +kernel)
set_option maxRecDepth 65536 in
theorem w_c8 : (Jvm.Cond.code ({ cls := "java/util/ArrayList", name := "<init>", desc := "()V" } : Jvm.MethodName) jdk_38_method_2_code (1 : Nat) (Option.none : Option Jvm.ClassFile.FieldType)).before args0 about1 = true := code_word (m := ⟨19, 0⟩) (meth := k19m0) (c := k19c0) (by decide +kernel) rfl rfl rfl (by decide +kernel)
set_option maxRecDepth 65536 in
theorem w_c9 : (Jvm.Cond.code ({ cls := "java/util/AbstractList", name := "<init>", desc := "()V" } : Jvm.MethodName) jdk_39_method_1_code (1 : Nat) (Option.none : Option Jvm.ClassFile.FieldType)).before args0 about1 = true := code_word (m := ⟨16, 0⟩) (meth := k16m0) (c := k16c0) (by decide +kernel) rfl rfl rfl (by decide +kernel)
set_option maxRecDepth 65536 in
theorem w_c10 : (Jvm.Cond.code ({ cls := "java/util/AbstractCollection", name := "<init>", desc := "()V" } : Jvm.MethodName) jdk_22_method_1_code (1 : Nat) (Option.none : Option Jvm.ClassFile.FieldType)).before args0 about1 = true := code_word (m := ⟨13, 0⟩) (meth := k13m0) (c := k13c0) (by decide +kernel) rfl rfl rfl (by decide +kernel)
set_option maxRecDepth 65536 in
theorem w_c11 : (Jvm.Cond.code ({ cls := "com/example/narrow_gate/narrowgate/Target", name := "<init>", desc := "(Ljava/util/List;Ljava/util/List;)V" } : Jvm.MethodName) prog_5_method_1_code (3 : Nat) (Option.none : Option Jvm.ClassFile.FieldType)).before args0 about1 = true := code_word (m := ⟨20, 0⟩) (meth := k20m0) (c := k20c0) (by decide +kernel) rfl rfl rfl (by decide +kernel)
set_option maxRecDepth 65536 in
theorem w_c12 : (Jvm.Cond.code ({ cls := "com/example/narrow_gate/narrowgate/Target", name := "parameter", desc := "(Ljava/lang/String;)Ljava/util/Optional;" } : Jvm.MethodName) prog_5_method_3_code (5 : Nat) (Option.some (Jvm.ClassFile.FieldType.object "java/util/Optional"))).before args0 about1 = true := code_word (m := ⟨20, 1⟩) (meth := k20m1) (c := k20c1) (by decide +kernel) rfl rfl rfl (by decide +kernel)
set_option maxRecDepth 65536 in
theorem w_c13 : (Jvm.Cond.code ({ cls := "java/util/Optional", name := "empty", desc := "()Ljava/util/Optional;" } : Jvm.MethodName) jdk_32_method_1_code (1 : Nat) (Option.some (Jvm.ClassFile.FieldType.object "java/util/Optional"))).before args0 about1 = true := code_word (m := ⟨21, 0⟩) (meth := k21m0) (c := k21c0) (by decide +kernel) rfl rfl rfl (by decide +kernel)
set_option maxRecDepth 65536 in
theorem w_c14 : (Jvm.Cond.code ({ cls := "java/util/ArrayList", name := "iterator", desc := "()Ljava/util/Iterator;" } : Jvm.MethodName) jdk_38_method_55_code (1 : Nat) (Option.some (Jvm.ClassFile.FieldType.object "java/util/Iterator"))).before args0 about1 = true := code_word (m := ⟨19, 5⟩) (meth := k19m5) (c := k19c5) (by decide +kernel) rfl rfl rfl (by decide +kernel)
set_option maxRecDepth 65536 in
theorem w_c15 : (Jvm.Cond.code ({ cls := "java/util/ArrayList$Itr", name := "<init>", desc := "(Ljava/util/ArrayList;)V" } : Jvm.MethodName) jdk_49_method_1_code (2 : Nat) (Option.none : Option Jvm.ClassFile.FieldType)).before args0 about1 = true := code_word (m := ⟨23, 0⟩) (meth := k23m0) (c := k23c0) (by decide +kernel) rfl rfl rfl (by decide +kernel)
set_option maxRecDepth 65536 in
theorem w_c16 : (Jvm.Cond.code ({ cls := "java/util/ArrayList$Itr", name := "hasNext", desc := "()Z" } : Jvm.MethodName) jdk_49_method_2_code (1 : Nat) (Option.some Jvm.ClassFile.FieldType.boolean)).before args0 about1 = true := code_word (m := ⟨23, 1⟩) (meth := k23m1) (c := k23c1) (by decide +kernel) rfl rfl rfl (by decide +kernel)
set_option maxRecDepth 65536 in
theorem w_c17 : (Jvm.Cond.code ({ cls := "java/util/Optional", name := "isPresent", desc := "()Z" } : Jvm.MethodName) jdk_32_method_6_code (1 : Nat) (Option.some Jvm.ClassFile.FieldType.boolean)).before args0 about1 = true := code_word (m := ⟨21, 4⟩) (meth := k21m4) (c := k21c4) (by decide +kernel) rfl rfl rfl (by decide +kernel)
set_option maxRecDepth 65536 in
theorem w_c18 : (Jvm.Cond.code ({ cls := "java/util/ArrayList", name := "add", desc := "(Ljava/lang/Object;)Z" } : Jvm.MethodName) jdk_38_method_25_code (2 : Nat) (Option.some Jvm.ClassFile.FieldType.boolean)).before args0 about1 = true := code_word (m := ⟨19, 4⟩) (meth := k19m4) (c := k19c4) (by decide +kernel) rfl rfl rfl (by decide +kernel)
set_option maxRecDepth 65536 in
theorem w_c19 : (Jvm.Cond.code ({ cls := "java/util/ArrayList", name := "add", desc := "(Ljava/lang/Object;[Ljava/lang/Object;I)V" } : Jvm.MethodName) jdk_38_method_24_code (4 : Nat) (Option.none : Option Jvm.ClassFile.FieldType)).before args0 about1 = true := code_word (m := ⟨19, 3⟩) (meth := k19m3) (c := k19c3) (by decide +kernel) rfl rfl rfl (by decide +kernel)
set_option maxRecDepth 65536 in
theorem w_c20 : (Jvm.Cond.code ({ cls := "java/util/ArrayList", name := "grow", desc := "()[Ljava/lang/Object;" } : Jvm.MethodName) jdk_38_method_7_code (1 : Nat) (Option.some (Jvm.ClassFile.FieldType.array (Jvm.ClassFile.FieldType.object "java/lang/Object")))).before args0 about1 = true := code_word (m := ⟨19, 2⟩) (meth := k19m2) (c := k19c2) (by decide +kernel) rfl rfl rfl (by decide +kernel)
set_option maxRecDepth 65536 in
theorem w_c21 : (Jvm.Cond.code ({ cls := "java/util/ArrayList", name := "grow", desc := "(I)[Ljava/lang/Object;" } : Jvm.MethodName) jdk_38_method_6_code (4 : Nat) (Option.some (Jvm.ClassFile.FieldType.array (Jvm.ClassFile.FieldType.object "java/lang/Object")))).before args0 about1 = true := code_word (m := ⟨19, 1⟩) (meth := k19m1) (c := k19c1) (by decide +kernel) rfl rfl rfl (by decide +kernel)
set_option maxRecDepth 65536 in
theorem w_c22 : (Jvm.Cond.code ({ cls := "java/lang/Math", name := "max", desc := "(II)I" } : Jvm.MethodName) jdk_29_method_65_code (2 : Nat) (Option.some Jvm.ClassFile.FieldType.int)).before args0 about1 = true := code_word (m := ⟨24, 1⟩) (meth := k24m1) (c := k24c1) (by decide +kernel) rfl rfl rfl (by decide +kernel)
set_option maxRecDepth 65536 in
theorem w_c23 : (Jvm.Cond.code ({ cls := "java/util/ArrayList$Itr", name := "next", desc := "()Ljava/lang/Object;" } : Jvm.MethodName) jdk_49_method_3_code (3 : Nat) (Option.some (Jvm.ClassFile.FieldType.object "java/lang/Object"))).before args0 about1 = true := code_word (m := ⟨23, 2⟩) (meth := k23m2) (c := k23c2) (by decide +kernel) rfl rfl rfl (by decide +kernel)
set_option maxRecDepth 65536 in
theorem w_c24 : (Jvm.Cond.code ({ cls := "java/util/ArrayList$Itr", name := "checkForComodification", desc := "()V" } : Jvm.MethodName) jdk_49_method_6_code (1 : Nat) (Option.none : Option Jvm.ClassFile.FieldType)).before args0 about1 = true := code_word (m := ⟨23, 3⟩) (meth := k23m3) (c := k23c3) (by decide +kernel) rfl rfl rfl (by decide +kernel)
set_option maxRecDepth 65536 in
theorem w_c25 : (Jvm.Cond.code ({ cls := "com/example/narrow_gate/narrowgate/Target$Parameter", name := "name", desc := "()Ljava/lang/String;" } : Jvm.MethodName) prog_6_method_5_code (1 : Nat) (Option.some (Jvm.ClassFile.FieldType.object "java/lang/String"))).before args0 about1 = true := code_word (m := ⟨10, 1⟩) (meth := k10m1) (c := k10c1) (by decide +kernel) rfl rfl rfl (by decide +kernel)
set_option maxRecDepth 65536 in
theorem w_c26 : (Jvm.Cond.code ({ cls := "java/lang/String", name := "equals", desc := "(Ljava/lang/Object;)Z" } : Jvm.MethodName) jdk_42_method_66_code (3 : Nat) (Option.some Jvm.ClassFile.FieldType.boolean)).before args0 about1 = true := code_word (m := ⟨7, 1⟩) (meth := k7m1) (c := k7c1) (by decide +kernel) rfl rfl rfl (by decide +kernel)
set_option maxRecDepth 65536 in
theorem w_c27 : (Jvm.Cond.code ({ cls := "java/lang/StringLatin1", name := "equals", desc := "([B[B)Z" } : Jvm.MethodName) jdk_43_method_13_code (3 : Nat) (Option.some Jvm.ClassFile.FieldType.boolean)).before args0 about1 = true := code_word (m := ⟨8, 2⟩) (meth := k8m2) (c := k8c2) (by decide +kernel) rfl rfl rfl (by decide +kernel)
set_option maxRecDepth 65536 in
theorem w_c28 : (Jvm.Cond.code ({ cls := "com/example/narrow_gate/narrowgate/Target$Parameter", name := "value", desc := "()Ljava/lang/String;" } : Jvm.MethodName) prog_6_method_6_code (1 : Nat) (Option.some (Jvm.ClassFile.FieldType.object "java/lang/String"))).before args0 about1 = true := code_word (m := ⟨10, 2⟩) (meth := k10m2) (c := k10c2) (by decide +kernel) rfl rfl rfl (by decide +kernel)
set_option maxRecDepth 65536 in
theorem w_c29 : (Jvm.Cond.code ({ cls := "java/util/Optional", name := "of", desc := "(Ljava/lang/Object;)Ljava/util/Optional;" } : Jvm.MethodName) jdk_32_method_3_code (1 : Nat) (Option.some (Jvm.ClassFile.FieldType.object "java/util/Optional"))).before args0 about1 = true := code_word (m := ⟨21, 2⟩) (meth := k21m2) (c := k21c2) (by decide +kernel) rfl rfl rfl (by decide +kernel)
set_option maxRecDepth 65536 in
theorem w_c30 : (Jvm.Cond.code ({ cls := "java/util/Objects", name := "requireNonNull", desc := "(Ljava/lang/Object;)Ljava/lang/Object;" } : Jvm.MethodName) jdk_31_method_10_code (1 : Nat) (Option.some (Jvm.ClassFile.FieldType.object "java/lang/Object"))).before args0 about1 = true := code_word (m := ⟨25, 1⟩) (meth := k25m1) (c := k25c1) (by decide +kernel) rfl rfl rfl (by decide +kernel)
set_option maxRecDepth 65536 in
theorem w_c31 : (Jvm.Cond.code ({ cls := "java/util/Optional", name := "<init>", desc := "(Ljava/lang/Object;)V" } : Jvm.MethodName) jdk_32_method_2_code (2 : Nat) (Option.none : Option Jvm.ClassFile.FieldType)).before args0 about1 = true := code_word (m := ⟨21, 1⟩) (meth := k21m1) (c := k21c1) (by decide +kernel) rfl rfl rfl (by decide +kernel)
set_option maxRecDepth 65536 in
theorem w_c32 : (Jvm.Cond.code ({ cls := "java/util/Optional", name := "get", desc := "()Ljava/lang/Object;" } : Jvm.MethodName) jdk_32_method_5_code (1 : Nat) (Option.some (Jvm.ClassFile.FieldType.object "java/lang/Object"))).before args0 about1 = true := code_word (m := ⟨21, 3⟩) (meth := k21m3) (c := k21c3) (by decide +kernel) rfl rfl rfl (by decide +kernel)
def codes1 : List Jvm.Cond := [Jvm.Cond.code x code maxLocals ret, Jvm.Cond.code ({ cls := "java/lang/String", name := "valueOf", desc := "(C)Ljava/lang/String;" } : Jvm.MethodName) jdk_42_method_139_code (1 : Nat) (Option.some (Jvm.ClassFile.FieldType.object "java/lang/String")), Jvm.Cond.code ({ cls := "java/lang/StringLatin1", name := "canEncode", desc := "(C)Z" } : Jvm.MethodName) jdk_43_method_3_code (1 : Nat) (Option.some Jvm.ClassFile.FieldType.boolean), Jvm.Cond.code ({ cls := "java/lang/StringLatin1", name := "toBytes", desc := "(C)[B" } : Jvm.MethodName) jdk_43_method_46_code (1 : Nat) (Option.some (Jvm.ClassFile.FieldType.array Jvm.ClassFile.FieldType.byte)), Jvm.Cond.code ({ cls := "java/lang/String", name := "<init>", desc := "([BB)V" } : Jvm.MethodName) jdk_42_method_151_code (3 : Nat) (Option.none : Option Jvm.ClassFile.FieldType), Jvm.Cond.code ({ cls := "java/lang/Object", name := "<init>", desc := "()V" } : Jvm.MethodName) object_method_1_code (1 : Nat) (Option.none : Option Jvm.ClassFile.FieldType), Jvm.Cond.code ({ cls := "com/example/narrow_gate/narrowgate/Target$Parameter", name := "<init>", desc := "(Ljava/lang/String;Ljava/lang/String;Ljava/lang/String;)V" } : Jvm.MethodName) prog_6_method_1_code (4 : Nat) (Option.none : Option Jvm.ClassFile.FieldType), Jvm.Cond.code ({ cls := "java/lang/Record", name := "<init>", desc := "()V" } : Jvm.MethodName) jdk_30_method_1_code (1 : Nat) (Option.none : Option Jvm.ClassFile.FieldType), Jvm.Cond.code ({ cls := "java/util/ArrayList", name := "<init>", desc := "()V" } : Jvm.MethodName) jdk_38_method_2_code (1 : Nat) (Option.none : Option Jvm.ClassFile.FieldType), Jvm.Cond.code ({ cls := "java/util/AbstractList", name := "<init>", desc := "()V" } : Jvm.MethodName) jdk_39_method_1_code (1 : Nat) (Option.none : Option Jvm.ClassFile.FieldType), Jvm.Cond.code ({ cls := "java/util/AbstractCollection", name := "<init>", desc := "()V" } : Jvm.MethodName) jdk_22_method_1_code (1 : Nat) (Option.none : Option Jvm.ClassFile.FieldType), Jvm.Cond.code ({ cls := "com/example/narrow_gate/narrowgate/Target", name := "<init>", desc := "(Ljava/util/List;Ljava/util/List;)V" } : Jvm.MethodName) prog_5_method_1_code (3 : Nat) (Option.none : Option Jvm.ClassFile.FieldType), Jvm.Cond.code ({ cls := "com/example/narrow_gate/narrowgate/Target", name := "parameter", desc := "(Ljava/lang/String;)Ljava/util/Optional;" } : Jvm.MethodName) prog_5_method_3_code (5 : Nat) (Option.some (Jvm.ClassFile.FieldType.object "java/util/Optional")), Jvm.Cond.code ({ cls := "java/util/Optional", name := "empty", desc := "()Ljava/util/Optional;" } : Jvm.MethodName) jdk_32_method_1_code (1 : Nat) (Option.some (Jvm.ClassFile.FieldType.object "java/util/Optional")), Jvm.Cond.code ({ cls := "java/util/ArrayList", name := "iterator", desc := "()Ljava/util/Iterator;" } : Jvm.MethodName) jdk_38_method_55_code (1 : Nat) (Option.some (Jvm.ClassFile.FieldType.object "java/util/Iterator")), Jvm.Cond.code ({ cls := "java/util/ArrayList$Itr", name := "<init>", desc := "(Ljava/util/ArrayList;)V" } : Jvm.MethodName) jdk_49_method_1_code (2 : Nat) (Option.none : Option Jvm.ClassFile.FieldType), Jvm.Cond.code ({ cls := "java/util/ArrayList$Itr", name := "hasNext", desc := "()Z" } : Jvm.MethodName) jdk_49_method_2_code (1 : Nat) (Option.some Jvm.ClassFile.FieldType.boolean), Jvm.Cond.code ({ cls := "java/util/Optional", name := "isPresent", desc := "()Z" } : Jvm.MethodName) jdk_32_method_6_code (1 : Nat) (Option.some Jvm.ClassFile.FieldType.boolean), Jvm.Cond.code ({ cls := "java/util/ArrayList", name := "add", desc := "(Ljava/lang/Object;)Z" } : Jvm.MethodName) jdk_38_method_25_code (2 : Nat) (Option.some Jvm.ClassFile.FieldType.boolean), Jvm.Cond.code ({ cls := "java/util/ArrayList", name := "add", desc := "(Ljava/lang/Object;[Ljava/lang/Object;I)V" } : Jvm.MethodName) jdk_38_method_24_code (4 : Nat) (Option.none : Option Jvm.ClassFile.FieldType), Jvm.Cond.code ({ cls := "java/util/ArrayList", name := "grow", desc := "()[Ljava/lang/Object;" } : Jvm.MethodName) jdk_38_method_7_code (1 : Nat) (Option.some (Jvm.ClassFile.FieldType.array (Jvm.ClassFile.FieldType.object "java/lang/Object"))), Jvm.Cond.code ({ cls := "java/util/ArrayList", name := "grow", desc := "(I)[Ljava/lang/Object;" } : Jvm.MethodName) jdk_38_method_6_code (4 : Nat) (Option.some (Jvm.ClassFile.FieldType.array (Jvm.ClassFile.FieldType.object "java/lang/Object"))), Jvm.Cond.code ({ cls := "java/lang/Math", name := "max", desc := "(II)I" } : Jvm.MethodName) jdk_29_method_65_code (2 : Nat) (Option.some Jvm.ClassFile.FieldType.int), Jvm.Cond.code ({ cls := "java/util/ArrayList$Itr", name := "next", desc := "()Ljava/lang/Object;" } : Jvm.MethodName) jdk_49_method_3_code (3 : Nat) (Option.some (Jvm.ClassFile.FieldType.object "java/lang/Object")), Jvm.Cond.code ({ cls := "java/util/ArrayList$Itr", name := "checkForComodification", desc := "()V" } : Jvm.MethodName) jdk_49_method_6_code (1 : Nat) (Option.none : Option Jvm.ClassFile.FieldType), Jvm.Cond.code ({ cls := "com/example/narrow_gate/narrowgate/Target$Parameter", name := "name", desc := "()Ljava/lang/String;" } : Jvm.MethodName) prog_6_method_5_code (1 : Nat) (Option.some (Jvm.ClassFile.FieldType.object "java/lang/String")), Jvm.Cond.code ({ cls := "java/lang/String", name := "equals", desc := "(Ljava/lang/Object;)Z" } : Jvm.MethodName) jdk_42_method_66_code (3 : Nat) (Option.some Jvm.ClassFile.FieldType.boolean), Jvm.Cond.code ({ cls := "java/lang/StringLatin1", name := "equals", desc := "([B[B)Z" } : Jvm.MethodName) jdk_43_method_13_code (3 : Nat) (Option.some Jvm.ClassFile.FieldType.boolean), Jvm.Cond.code ({ cls := "com/example/narrow_gate/narrowgate/Target$Parameter", name := "value", desc := "()Ljava/lang/String;" } : Jvm.MethodName) prog_6_method_6_code (1 : Nat) (Option.some (Jvm.ClassFile.FieldType.object "java/lang/String")), Jvm.Cond.code ({ cls := "java/util/Optional", name := "of", desc := "(Ljava/lang/Object;)Ljava/util/Optional;" } : Jvm.MethodName) jdk_32_method_3_code (1 : Nat) (Option.some (Jvm.ClassFile.FieldType.object "java/util/Optional")), Jvm.Cond.code ({ cls := "java/util/Objects", name := "requireNonNull", desc := "(Ljava/lang/Object;)Ljava/lang/Object;" } : Jvm.MethodName) jdk_31_method_10_code (1 : Nat) (Option.some (Jvm.ClassFile.FieldType.object "java/lang/Object")), Jvm.Cond.code ({ cls := "java/util/Optional", name := "<init>", desc := "(Ljava/lang/Object;)V" } : Jvm.MethodName) jdk_32_method_2_code (2 : Nat) (Option.none : Option Jvm.ClassFile.FieldType), Jvm.Cond.code ({ cls := "java/util/Optional", name := "get", desc := "()Ljava/lang/Object;" } : Jvm.MethodName) jdk_32_method_5_code (1 : Nat) (Option.some (Jvm.ClassFile.FieldType.object "java/lang/Object"))]
set_option maxRecDepth 65536 in
theorem codes_eq : words1.filter isCode = codes1 := rfl
theorem w_codes : ∀ c ∈ words1.filter isCode, c.before args0 about1 = true := by
  rw [codes_eq]
  intro c hc
  simp only [codes1, List.mem_cons, List.not_mem_nil, or_false] at hc
  rcases hc with rfl | rfl | rfl | rfl | rfl | rfl | rfl | rfl | rfl | rfl | rfl | rfl | rfl | rfl | rfl | rfl | rfl | rfl | rfl | rfl | rfl | rfl | rfl | rfl | rfl | rfl | rfl | rfl | rfl | rfl | rfl | rfl | rfl
  · exact w_c0
  · exact w_c1
  · exact w_c2
  · exact w_c3
  · exact w_c4
  · exact w_c5
  · exact w_c6
  · exact w_c7
  · exact w_c8
  · exact w_c9
  · exact w_c10
  · exact w_c11
  · exact w_c12
  · exact w_c13
  · exact w_c14
  · exact w_c15
  · exact w_c16
  · exact w_c17
  · exact w_c18
  · exact w_c19
  · exact w_c20
  · exact w_c21
  · exact w_c22
  · exact w_c23
  · exact w_c24
  · exact w_c25
  · exact w_c26
  · exact w_c27
  · exact w_c28
  · exact w_c29
  · exact w_c30
  · exact w_c31
  · exact w_c32
set_option maxRecDepth 65536 in
theorem w_t1 : (words1.take 24).all (fun c => isCode c || c.before args0 about1) = true := by decide +kernel
set_option maxRecDepth 65536 in
theorem w_t2 : ((words1.drop 24).take 24).all (fun c => isCode c || c.before args0 about1) = true := by decide +kernel
set_option maxRecDepth 65536 in
theorem w_t3 : (((words1.drop 24).drop 24).take 24).all (fun c => isCode c || c.before args0 about1) = true := by decide +kernel
set_option maxRecDepth 65536 in
theorem w_t4 : ((((words1.drop 24).drop 24).drop 24).take 24).all (fun c => isCode c || c.before args0 about1) = true := by decide +kernel
set_option maxRecDepth 65536 in
theorem w_t5 : (((((words1.drop 24).drop 24).drop 24).drop 24).take 24).all (fun c => isCode c || c.before args0 about1) = true := by decide +kernel
set_option maxRecDepth 65536 in
theorem w_t6 : ((((((words1.drop 24).drop 24).drop 24).drop 24).drop 24).take 24).all (fun c => isCode c || c.before args0 about1) = true := by decide +kernel
set_option maxRecDepth 65536 in
theorem w_t7 : (((((((words1.drop 24).drop 24).drop 24).drop 24).drop 24).drop 24).take 24).all (fun c => isCode c || c.before args0 about1) = true := by decide +kernel
set_option maxRecDepth 65536 in
theorem w_t8 : ((((((((words1.drop 24).drop 24).drop 24).drop 24).drop 24).drop 24).drop 24).take 24).all (fun c => isCode c || c.before args0 about1) = true := by decide +kernel
set_option maxRecDepth 65536 in
theorem w_t9 : (((((((((words1.drop 24).drop 24).drop 24).drop 24).drop 24).drop 24).drop 24).drop 24).take 24).all (fun c => isCode c || c.before args0 about1) = true := by decide +kernel
set_option maxRecDepth 65536 in
theorem w_t10 : (((((((((words1.drop 24).drop 24).drop 24).drop 24).drop 24).drop 24).drop 24).drop 24).drop 24).all (fun c => isCode c || c.before args0 about1) = true := by decide +kernel
theorem w_tables : (allAtoms (Jvm.Cond.code x code maxLocals ret :: tables_1)).before args0 about1 = true := by
  rw [allAtoms_all]
  show words1.all (fun c => c.before args0 about1) = true
  refine all_split ?_ w_codes
  rw [← List.take_append_drop 24 words1, List.all_append, w_t1, ← List.take_append_drop 24 (words1.drop 24), List.all_append, w_t2, ← List.take_append_drop 24 ((words1.drop 24).drop 24), List.all_append, w_t3, ← List.take_append_drop 24 (((words1.drop 24).drop 24).drop 24), List.all_append, w_t4, ← List.take_append_drop 24 ((((words1.drop 24).drop 24).drop 24).drop 24), List.all_append, w_t5, ← List.take_append_drop 24 (((((words1.drop 24).drop 24).drop 24).drop 24).drop 24), List.all_append, w_t6, ← List.take_append_drop 24 ((((((words1.drop 24).drop 24).drop 24).drop 24).drop 24).drop 24), List.all_append, w_t7, ← List.take_append_drop 24 (((((((words1.drop 24).drop 24).drop 24).drop 24).drop 24).drop 24).drop 24), List.all_append, w_t8, ← List.take_append_drop 24 ((((((((words1.drop 24).drop 24).drop 24).drop 24).drop 24).drop 24).drop 24).drop 24), List.all_append, w_t9, w_t10]
  rfl
set_option maxRecDepth 65536 in
theorem w_rest : rest_1_c.before args0 about1 = true := by decide +kernel
set_option maxRecDepth 65536 in
theorem w_case : (Jvm.Cond.and given_1 narrow_1).before args0 about1 = true := by decide +kernel
set_option maxRecDepth 65536 in
theorem w_consts : constsHeld consts_1 about1 := Jvm.Lit.constsHeldB_iff.mp (by decide +kernel)
theorem w_applies : (headSpec (Jvm.Cond.code x code maxLocals ret :: tables_1) room_1).applies x e0.platform about1 = true :=
  (Spec.applies_iff w_frames).mpr ⟨w_running, w_runnable, w_alone, w_named, w_hears, w_ripe, w_room, w_tables⟩
theorem atStart : AtStart classFile x code maxLocals ret World_1 tables_1 room_1 Calls_1 rest_1 Pre_1 launch0 p0 e0 about1 theMethod args0 below0 :=
  ⟨lists_1, trivial, launch0.admits_env _ _ _, launch0.least_env, fairChoices_fair.cas, fairChoices_fair.clock, w_frames, w_args, w_heap, w_applies, ⟨w_consts, trivial⟩, w_rest, w_case⟩
end start1
theorem witness_1 : WitnessClaimed_1 := ⟨start1.p0, start1.e0, start1.about1, start1.theMethod, start1.args0, start1.below0, start1.atStart⟩
end Jvm.Pilot.@@N@@
