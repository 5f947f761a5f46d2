import JvmDerived
import JvmDerived.Pilot.@@N@@Statement
import JvmDerived.Pilot.@@N@@Code
set_option linter.unusedVariables false
set_option linter.unusedSimpArgs false
namespace Jvm.Pilot.@@N@@
open Jvm Jvm.ClassFile Sem Op Lib Jvm.Free Jvm.Stand Jvm.LawKit Jvm.RoadKit Bundle Jvm.Pilot.@@N@@.Jvm.D
section OwnWalk
variable {p : Program} {l : Launch} {e : Env} {R : Room} {s : State} {m : MethodId} {args : Array Value} {below : List Frame} {meth : Method} {c : Code} {T T' : State} {locs : List Loc} {cells slots : Nat} {P : Outcome → State → Prop} {pc : Nat} {ls : Array Slot} {st : List Value}
/-- from the frame g at T the method ends, and P holds of its end -/
def own_E (p : Program) (e : Env) (below : List Frame) (P : Outcome → State → Prop) (T : State) (g : JFrame) : Prop := ∃ s₂ o, Steps p.tables e below (T.setTop g) s₂ ∧ s₂.status = .running ∧ Ended s₂ below o ∧ P o s₂
theorem own_go {g g' : JFrame} (h : ∀ t, Steps p.tables e below (T'.setTop g') t → Steps p.tables e below (T.setTop g) t) (k : own_E p e below P T' g') : own_E p e below P T g := by
  obtain ⟨s₂, o, h1, h2⟩ := k; exact ⟨s₂, o, h _ h1, h2⟩
theorem own_cast {g g' : JFrame} (q : g = g') (k : own_E p e below P T g') : own_E p e below P T g := q ▸ k
/-- what a contract's end says -/
def own_P (s : State) (Q : Option Value → Heap → List Loc → Prop) (cm sm : Nat) (o : Outcome) (t : State) : Prop := ∃ v L, o = .returned v ∧ Q v t.heap L ∧ FrameEnd s o t L cm sm
theorem own_iloadN (X : Stand p l e R s m args below meth c T locs cells slots) (hx : p.tables.exec = Jvm.exec) {k : Fin 4} {v : Int32} (hd : decode c.code pc = .ok (.iload_n k, 1)) (hl : ls[k.val]? = some (.val (.int v))) (h : own_E p e below P T (mkF m (pc + 1) ls (.int v :: st))) : own_E p e below P T (mkF m pc ls (st)) := own_go (fun _ k => XS.iloadN X.here hx rfl hd hl k) h
theorem own_iload (X : Stand p l e R s m args below meth c T locs cells slots) (hx : p.tables.exec = Jvm.exec) {k : Nat} {v : Int32} (hd : decode c.code pc = .ok (.iload k, 2)) (hl : ls[k]? = some (.val (.int v))) (h : own_E p e below P T (mkF m (pc + 2) ls (.int v :: st))) : own_E p e below P T (mkF m pc ls (st)) := own_go (fun _ k => XS.iload X.here hx rfl hd hl k) h
theorem own_lloadN (X : Stand p l e R s m args below meth c T locs cells slots) (hx : p.tables.exec = Jvm.exec) {k : Fin 4} {v : Int64} (hd : decode c.code pc = .ok (.lload_n k, 1)) (hl : ls[k.val]? = some (.val (.long v))) (h : own_E p e below P T (mkF m (pc + 1) ls (.long v :: st))) : own_E p e below P T (mkF m pc ls (st)) := own_go (fun _ k => XT.lloadN X.here hx rfl hd hl k) h
theorem own_lload (X : Stand p l e R s m args below meth c T locs cells slots) (hx : p.tables.exec = Jvm.exec) {k : Nat} {v : Int64} (hd : decode c.code pc = .ok (.lload k, 2)) (hl : ls[k]? = some (.val (.long v))) (h : own_E p e below P T (mkF m (pc + 2) ls (.long v :: st))) : own_E p e below P T (mkF m pc ls (st)) := own_go (fun _ k => XT.lload X.here hx rfl hd hl k) h
theorem own_aloadN (X : Stand p l e R s m args below meth c T locs cells slots) (hx : p.tables.exec = Jvm.exec) {k : Fin 4} {v : Value} (hd : decode c.code pc = .ok (.aload_n k, 1)) (hl : ls[k.val]? = some (.val v)) (hv : v.isRef = true) (h : own_E p e below P T (mkF m (pc + 1) ls (v :: st))) : own_E p e below P T (mkF m pc ls (st)) := own_go (fun _ k => XS.aloadN X.here hx rfl hd hl hv k) h
theorem own_aload (X : Stand p l e R s m args below meth c T locs cells slots) (hx : p.tables.exec = Jvm.exec) {k : Nat} {v : Value} (hd : decode c.code pc = .ok (.aload k, 2)) (hl : ls[k]? = some (.val v)) (hv : v.isRef = true) (h : own_E p e below P T (mkF m (pc + 2) ls (v :: st))) : own_E p e below P T (mkF m pc ls (st)) := own_go (fun _ k => XS.aload X.here hx rfl hd hl hv k) h
theorem own_istoreN (X : Stand p l e R s m args below meth c T locs cells slots) (hx : p.tables.exec = Jvm.exec) {k : Fin 4} {v : Int32} {l' : Array Slot} (hd : decode c.code pc = .ok (.istore_n k, 1)) (hl : storeLocals ls k.val (.int v) = some l') (h : own_E p e below P T (mkF m (pc + 1) l' (st))) : own_E p e below P T (mkF m pc ls (.int v :: st)) := own_go (fun _ k => XS.istoreN X.here hx rfl hd rfl hl k) h
theorem own_istore (X : Stand p l e R s m args below meth c T locs cells slots) (hx : p.tables.exec = Jvm.exec) {k : Nat} {v : Int32} {l' : Array Slot} (hd : decode c.code pc = .ok (.istore k, 2)) (hl : storeLocals ls k (.int v) = some l') (h : own_E p e below P T (mkF m (pc + 2) l' (st))) : own_E p e below P T (mkF m pc ls (.int v :: st)) := own_go (fun _ k => XS.istore X.here hx rfl hd rfl hl k) h
theorem own_lstoreN (X : Stand p l e R s m args below meth c T locs cells slots) (hx : p.tables.exec = Jvm.exec) {k : Fin 4} {v : Int64} {l' : Array Slot} (hd : decode c.code pc = .ok (.lstore_n k, 1)) (hl : storeLocals ls k.val (.long v) = some l') (h : own_E p e below P T (mkF m (pc + 1) l' (st))) : own_E p e below P T (mkF m pc ls (.long v :: st)) := own_go (fun _ k => XT.lstoreN X.here hx rfl hd rfl hl k) h
theorem own_lstore (X : Stand p l e R s m args below meth c T locs cells slots) (hx : p.tables.exec = Jvm.exec) {k : Nat} {v : Int64} {l' : Array Slot} (hd : decode c.code pc = .ok (.lstore k, 2)) (hl : storeLocals ls k (.long v) = some l') (h : own_E p e below P T (mkF m (pc + 2) l' (st))) : own_E p e below P T (mkF m pc ls (.long v :: st)) := own_go (fun _ k => XT.lstore X.here hx rfl hd rfl hl k) h
theorem own_astoreN (X : Stand p l e R s m args below meth c T locs cells slots) (hx : p.tables.exec = Jvm.exec) {k : Fin 4} {v : Value} {l' : Array Slot} (hd : decode c.code pc = .ok (.astore_n k, 1)) (hv : v.isRef = true) (hl : storeLocals ls k.val v = some l') (h : own_E p e below P T (mkF m (pc + 1) l' (st))) : own_E p e below P T (mkF m pc ls (v :: st)) := own_go (fun _ k => XS.astoreN X.here hx rfl hd rfl hv hl k) h
theorem own_astore (X : Stand p l e R s m args below meth c T locs cells slots) (hx : p.tables.exec = Jvm.exec) {k : Nat} {v : Value} {l' : Array Slot} (hd : decode c.code pc = .ok (.astore k, 2)) (hv : v.isRef = true) (hl : storeLocals ls k v = some l') (h : own_E p e below P T (mkF m (pc + 2) l' (st))) : own_E p e below P T (mkF m pc ls (v :: st)) := own_go (fun _ k => XS.astore X.here hx rfl hd rfl hv hl k) h
theorem own_iconst (X : Stand p l e R s m args below meth c T locs cells slots) (hx : p.tables.exec = Jvm.exec) {i : Int} {v : Int32} (hd : decode c.code pc = .ok (.iconst i, 1)) (hv : Int32.ofInt i = v) (h : own_E p e below P T (mkF m (pc + 1) ls (.int v :: st))) : own_E p e below P T (mkF m pc ls (st)) := by subst hv; exact own_go (fun _ k => XS.iconst X.here hx rfl hd k) h
theorem own_bipush (X : Stand p l e R s m args below meth c T locs cells slots) (hx : p.tables.exec = Jvm.exec) {i : Int} {v : Int32} (hd : decode c.code pc = .ok (.bipush i, 2)) (hv : (Int8.ofInt i).toInt32 = v) (h : own_E p e below P T (mkF m (pc + 2) ls (.int v :: st))) : own_E p e below P T (mkF m pc ls (st)) := by subst hv; exact own_go (fun _ k => XS.bipush X.here hx rfl hd k) h
theorem own_sipush (X : Stand p l e R s m args below meth c T locs cells slots) (hx : p.tables.exec = Jvm.exec) {i : Int} {v : Int32} (hd : decode c.code pc = .ok (.sipush i, 3)) (hv : (Int16.ofInt i).toInt32 = v) (h : own_E p e below P T (mkF m (pc + 3) ls (.int v :: st))) : own_E p e below P T (mkF m pc ls (st)) := by subst hv; exact own_go (fun _ k => XS.sipush X.here hx rfl hd k) h
theorem own_lconst (X : Stand p l e R s m args below meth c T locs cells slots) (hx : p.tables.exec = Jvm.exec) {i : Fin 2} {v : Int64} (hd : decode c.code pc = .ok (.lconst i, 1)) (hv : Int64.ofNat i = v) (h : own_E p e below P T (mkF m (pc + 1) ls (.long v :: st))) : own_E p e below P T (mkF m pc ls (st)) := by subst hv; exact own_go (fun _ k => XT.lconst X.here hx rfl hd k) h
theorem own_aconstNull (X : Stand p l e R s m args below meth c T locs cells slots) (hx : p.tables.exec = Jvm.exec)  (hd : decode c.code pc = .ok (.aconst_null, 1)) (h : own_E p e below P T (mkF m (pc + 1) ls (.null :: st))) : own_E p e below P T (mkF m pc ls (st)) := own_go (fun _ k => XS.aconstNull X.here hx rfl hd k) h
theorem own_iadd (X : Stand p l e R s m args below meth c T locs cells slots) (hx : p.tables.exec = Jvm.exec) {x y z : Int32} (hd : decode c.code pc = .ok (.iadd, 1)) (hv : x + y = z) (h : own_E p e below P T (mkF m (pc + 1) ls (.int z :: st))) : own_E p e below P T (mkF m pc ls (.int y :: .int x :: st)) := by subst hv; exact own_go (fun _ k => XS.iadd X.here hx rfl hd rfl k) h
theorem own_isub (X : Stand p l e R s m args below meth c T locs cells slots) (hx : p.tables.exec = Jvm.exec) {x y z : Int32} (hd : decode c.code pc = .ok (.isub, 1)) (hv : x - y = z) (h : own_E p e below P T (mkF m (pc + 1) ls (.int z :: st))) : own_E p e below P T (mkF m pc ls (.int y :: .int x :: st)) := by subst hv; exact own_go (fun _ k => XS.isub X.here hx rfl hd rfl k) h
theorem own_imul (X : Stand p l e R s m args below meth c T locs cells slots) (hx : p.tables.exec = Jvm.exec) {x y z : Int32} (hd : decode c.code pc = .ok (.imul, 1)) (hv : x * y = z) (h : own_E p e below P T (mkF m (pc + 1) ls (.int z :: st))) : own_E p e below P T (mkF m pc ls (.int y :: .int x :: st)) := by subst hv; exact own_go (fun _ k => XS.imul X.here hx rfl hd rfl k) h
theorem own_iand (X : Stand p l e R s m args below meth c T locs cells slots) (hx : p.tables.exec = Jvm.exec) {x y z : Int32} (hd : decode c.code pc = .ok (.iand, 1)) (hv : x &&& y = z) (h : own_E p e below P T (mkF m (pc + 1) ls (.int z :: st))) : own_E p e below P T (mkF m pc ls (.int y :: .int x :: st)) := by subst hv; exact own_go (fun _ k => XS.iand X.here hx rfl hd rfl k) h
theorem own_ior (X : Stand p l e R s m args below meth c T locs cells slots) (hx : p.tables.exec = Jvm.exec) {x y z : Int32} (hd : decode c.code pc = .ok (.ior, 1)) (hv : x ||| y = z) (h : own_E p e below P T (mkF m (pc + 1) ls (.int z :: st))) : own_E p e below P T (mkF m pc ls (.int y :: .int x :: st)) := by subst hv; exact own_go (fun _ k => XT.ior X.here hx rfl hd rfl k) h
theorem own_ishr (X : Stand p l e R s m args below meth c T locs cells slots) (hx : p.tables.exec = Jvm.exec) {x y z : Int32} (hd : decode c.code pc = .ok (.ishr, 1)) (hv : x >>> (y &&& 31) = z) (h : own_E p e below P T (mkF m (pc + 1) ls (.int z :: st))) : own_E p e below P T (mkF m pc ls (.int y :: .int x :: st)) := by subst hv; exact own_go (fun _ k => XT.ishr X.here hx rfl hd rfl k) h
theorem own_iushr (X : Stand p l e R s m args below meth c T locs cells slots) (hx : p.tables.exec = Jvm.exec) {x y z : Int32} (hd : decode c.code pc = .ok (.iushr, 1)) (hv : Jvm.Free.XT.ushr x y = z) (h : own_E p e below P T (mkF m (pc + 1) ls (.int z :: st))) : own_E p e below P T (mkF m pc ls (.int y :: .int x :: st)) := by subst hv; exact own_go (fun _ k => XT.iushr X.here hx rfl hd rfl k) h
theorem own_ladd (X : Stand p l e R s m args below meth c T locs cells slots) (hx : p.tables.exec = Jvm.exec) {x y z : Int64} (hd : decode c.code pc = .ok (.ladd, 1)) (hv : x + y = z) (h : own_E p e below P T (mkF m (pc + 1) ls (.long z :: st))) : own_E p e below P T (mkF m pc ls (.long y :: .long x :: st)) := by subst hv; exact own_go (fun _ k => XT.ladd X.here hx rfl hd rfl k) h
theorem own_lsub (X : Stand p l e R s m args below meth c T locs cells slots) (hx : p.tables.exec = Jvm.exec) {x y z : Int64} (hd : decode c.code pc = .ok (.lsub, 1)) (hv : x - y = z) (h : own_E p e below P T (mkF m (pc + 1) ls (.long z :: st))) : own_E p e below P T (mkF m pc ls (.long y :: .long x :: st)) := by subst hv; exact own_go (fun _ k => XT.lsub X.here hx rfl hd rfl k) h
theorem own_lmul (X : Stand p l e R s m args below meth c T locs cells slots) (hx : p.tables.exec = Jvm.exec) {x y z : Int64} (hd : decode c.code pc = .ok (.lmul, 1)) (hv : x * y = z) (h : own_E p e below P T (mkF m (pc + 1) ls (.long z :: st))) : own_E p e below P T (mkF m pc ls (.long y :: .long x :: st)) := by subst hv; exact own_go (fun _ k => XT.lmul X.here hx rfl hd rfl k) h
theorem own_land (X : Stand p l e R s m args below meth c T locs cells slots) (hx : p.tables.exec = Jvm.exec) {x y z : Int64} (hd : decode c.code pc = .ok (.land, 1)) (hv : x &&& y = z) (h : own_E p e below P T (mkF m (pc + 1) ls (.long z :: st))) : own_E p e below P T (mkF m pc ls (.long y :: .long x :: st)) := by subst hv; exact own_go (fun _ k => XT.land X.here hx rfl hd rfl k) h
theorem own_ldiv (X : Stand p l e R s m args below meth c T locs cells slots) (hx : p.tables.exec = Jvm.exec) {x y z : Int64} (hd : decode c.code pc = .ok (.ldiv, 1)) (hy : y ≠ 0) (hv : x / y = z) (h : own_E p e below P T (mkF m (pc + 1) ls (.long z :: st))) : own_E p e below P T (mkF m pc ls (.long y :: .long x :: st)) := by subst hv; exact own_go (fun _ k => XT.ldiv X.here hx rfl hd rfl hy k) h
theorem own_lushr (X : Stand p l e R s m args below meth c T locs cells slots) (hx : p.tables.exec = Jvm.exec) {x z : Int64} {y : Int32} (hd : decode c.code pc = .ok (.lushr, 1)) (hv : Jvm.Free.XT.ushrL x y = z) (h : own_E p e below P T (mkF m (pc + 1) ls (.long z :: st))) : own_E p e below P T (mkF m pc ls (.int y :: .long x :: st)) := by subst hv; exact own_go (fun _ k => XT.lushr X.here hx rfl hd rfl k) h
theorem own_lcmp (X : Stand p l e R s m args below meth c T locs cells slots) (hx : p.tables.exec = Jvm.exec) {x y : Int64} {z : Int32} (hd : decode c.code pc = .ok (.lcmp, 1)) (hv : Jvm.Free.XT.cmpL x y = z) (h : own_E p e below P T (mkF m (pc + 1) ls (.int z :: st))) : own_E p e below P T (mkF m pc ls (.long y :: .long x :: st)) := by subst hv; exact own_go (fun _ k => XT.lcmp X.here hx rfl hd rfl k) h
theorem own_i2l (X : Stand p l e R s m args below meth c T locs cells slots) (hx : p.tables.exec = Jvm.exec) {x : Int32} {z : Int64} (hd : decode c.code pc = .ok (.i2l, 1)) (hv : x.toInt64 = z) (h : own_E p e below P T (mkF m (pc + 1) ls (.long z :: st))) : own_E p e below P T (mkF m pc ls (.int x :: st)) := by subst hv; exact own_go (fun _ k => XT.i2l X.here hx rfl hd rfl k) h
theorem own_l2i (X : Stand p l e R s m args below meth c T locs cells slots) (hx : p.tables.exec = Jvm.exec) {x : Int64} {z : Int32} (hd : decode c.code pc = .ok (.l2i, 1)) (hv : x.toInt32 = z) (h : own_E p e below P T (mkF m (pc + 1) ls (.int z :: st))) : own_E p e below P T (mkF m pc ls (.long x :: st)) := by subst hv; exact own_go (fun _ k => XT.l2i X.here hx rfl hd rfl k) h
theorem own_i2c (X : Stand p l e R s m args below meth c T locs cells slots) (hx : p.tables.exec = Jvm.exec) {x z : Int32} (hd : decode c.code pc = .ok (.i2c, 1)) (hv : x.toUInt32.toUInt16.toUInt32.toInt32 = z) (h : own_E p e below P T (mkF m (pc + 1) ls (.int z :: st))) : own_E p e below P T (mkF m pc ls (.int x :: st)) := by subst hv; exact own_go (fun _ k => XT.i2c X.here hx rfl hd rfl k) h
theorem own_i2b (X : Stand p l e R s m args below meth c T locs cells slots) (hx : p.tables.exec = Jvm.exec) {x z : Int32} (hd : decode c.code pc = .ok (.i2b, 1)) (hv : x.toInt8.toInt32 = z) (h : own_E p e below P T (mkF m (pc + 1) ls (.int z :: st))) : own_E p e below P T (mkF m pc ls (.int x :: st)) := by subst hv; exact own_go (fun _ k => XT.i2b X.here hx rfl hd rfl k) h
theorem own_iinc (X : Stand p l e R s m args below meth c T locs cells slots) (hx : p.tables.exec = Jvm.exec) {k : Nat} {i : Int} {x z : Int32} {l' : Array Slot} (hd : decode c.code pc = .ok (.iinc k i, 3)) (hl : ls[k]? = some (.val (.int x))) (hv : x + Int32.ofInt i = z) (hl' : storeLocals ls k (.int z) = some l') (h : own_E p e below P T (mkF m (pc + 3) l' (st))) : own_E p e below P T (mkF m pc ls (st)) := by subst hv; exact own_go (fun _ k => XS.iinc X.here hx rfl hd hl hl' k) h
theorem own_dup (X : Stand p l e R s m args below meth c T locs cells slots) (hx : p.tables.exec = Jvm.exec) {v : Value} (hd : decode c.code pc = .ok (.dup, 1)) (hv : v.category = 1) (h : own_E p e below P T (mkF m (pc + 1) ls (v :: v :: st))) : own_E p e below P T (mkF m pc ls (v :: st)) := own_go (fun _ k => XS.dup X.here hx rfl hd rfl hv k) h
theorem own_pop (X : Stand p l e R s m args below meth c T locs cells slots) (hx : p.tables.exec = Jvm.exec) {v : Value} (hd : decode c.code pc = .ok (.pop, 1)) (hv : v.category = 1) (h : own_E p e below P T (mkF m (pc + 1) ls (st))) : own_E p e below P T (mkF m pc ls (v :: st)) := own_go (fun _ k => XT.pop X.here hx rfl hd rfl hv k) h
theorem own_dupX1 (X : Stand p l e R s m args below meth c T locs cells slots) (hx : p.tables.exec = Jvm.exec) {v w : Value} (hd : decode c.code pc = .ok (.dup_x1, 1)) (hv : v.category = 1) (hw : w.category = 1) (h : own_E p e below P T (mkF m (pc + 1) ls (v :: w :: v :: st))) : own_E p e below P T (mkF m pc ls (v :: w :: st)) := own_go (fun _ k => XT.dupX1 X.here hx rfl hd rfl hv hw k) h
theorem own_goto (X : Stand p l e R s m args below meth c T locs cells slots) (hx : p.tables.exec = Jvm.exec)  {o : Int} (hd : decode c.code pc = .ok (.goto o, 3)) (pc' : Nat) (ho : 0 ≤ (pc : Int) + o) (hp : ((pc : Int) + o).toNat = pc') (h : own_E p e below P T (mkF m pc' ls st)) : own_E p e below P T (mkF m pc ls (st)) := own_go (fun _ k => XS.goto X.here hx rfl rfl hd ho hp k) h
theorem own_ifYes (X : Stand p l e R s m args below meth c T locs cells slots) (hx : p.tables.exec = Jvm.exec) {cd : ClassFile.Cond} {x : Int32} {o : Int} (hd : decode c.code pc = .ok (.ifCond cd o, 3)) (hc : ifCond.holds cd x = true) (pc' : Nat) (ho : 0 ≤ (pc : Int) + o) (hp : ((pc : Int) + o).toNat = pc') (h : own_E p e below P T (mkF m pc' ls st)) : own_E p e below P T (mkF m pc ls (.int x :: st)) := own_go (fun _ k => XS.ifYes X.here hx rfl rfl hd rfl hc ho hp k) h
theorem own_ifNo (X : Stand p l e R s m args below meth c T locs cells slots) (hx : p.tables.exec = Jvm.exec) {cd : ClassFile.Cond} {x : Int32} {o : Int} (hd : decode c.code pc = .ok (.ifCond cd o, 3)) (hc : ifCond.holds cd x = false) (h : own_E p e below P T (mkF m (pc + 3) ls st)) : own_E p e below P T (mkF m pc ls (.int x :: st)) := own_go (fun _ k => XS.ifNo X.here hx rfl hd rfl hc k) h
theorem own_icmpYes (X : Stand p l e R s m args below meth c T locs cells slots) (hx : p.tables.exec = Jvm.exec) {cd : ClassFile.Cond} {x y : Int32} {o : Int} (hd : decode c.code pc = .ok (.if_icmp cd o, 3)) (hc : if_icmp.holds cd x y = true) (pc' : Nat) (ho : 0 ≤ (pc : Int) + o) (hp : ((pc : Int) + o).toNat = pc') (h : own_E p e below P T (mkF m pc' ls st)) : own_E p e below P T (mkF m pc ls (.int y :: .int x :: st)) := own_go (fun _ k => XS.icmpYes X.here hx rfl rfl hd rfl hc ho hp k) h
theorem own_icmpNo (X : Stand p l e R s m args below meth c T locs cells slots) (hx : p.tables.exec = Jvm.exec) {cd : ClassFile.Cond} {x y : Int32} {o : Int} (hd : decode c.code pc = .ok (.if_icmp cd o, 3)) (hc : if_icmp.holds cd x y = false) (h : own_E p e below P T (mkF m (pc + 3) ls st)) : own_E p e below P T (mkF m pc ls (.int y :: .int x :: st)) := own_go (fun _ k => XS.icmpNo X.here hx rfl hd rfl hc k) h
theorem own_acmpYes (X : Stand p l e R s m args below meth c T locs cells slots) (hx : p.tables.exec = Jvm.exec) {cd : ACond} {x y : Value} {o : Int} (hd : decode c.code pc = .ok (.if_acmp cd o, 3)) (h1 : x.isRef = true) (h2 : y.isRef = true) (hc : Jvm.Free.XT.acmp cd x y = true) (pc' : Nat) (ho : 0 ≤ (pc : Int) + o) (hp : ((pc : Int) + o).toNat = pc') (h : own_E p e below P T (mkF m pc' ls st)) : own_E p e below P T (mkF m pc ls (y :: x :: st)) := own_go (fun _ k => Jvm.RoadKit.acmp X hx rfl h1 h2 (same := decide (x = y)) rfl hd rfl rfl ho (by rw [hp]; cases cd <;> simp_all [acV, Jvm.Free.XT.acmp]) k) h
theorem own_acmpNo (X : Stand p l e R s m args below meth c T locs cells slots) (hx : p.tables.exec = Jvm.exec) {cd : ACond} {x y : Value} {o : Int} (hd : decode c.code pc = .ok (.if_acmp cd o, 3)) (h1 : x.isRef = true) (h2 : y.isRef = true) (ho : 0 ≤ (pc : Int) + o) (hc : Jvm.Free.XT.acmp cd x y = false) (h : own_E p e below P T (mkF m (pc + 3) ls st)) : own_E p e below P T (mkF m pc ls (y :: x :: st)) := own_go (fun _ k => Jvm.RoadKit.acmp X hx rfl h1 h2 (same := decide (x = y)) rfl hd rfl rfl ho (by cases cd <;> simp_all [acV, Jvm.Free.XT.acmp]) k) h
theorem own_nullYes (X : Stand p l e R s m args below meth c T locs cells slots) (hx : p.tables.exec = Jvm.exec)  {o : Int} (hd : decode c.code pc = .ok (.ifnull o, 3)) (pc' : Nat) (ho : 0 ≤ (pc : Int) + o) (hp : ((pc : Int) + o).toNat = pc') (h : own_E p e below P T (mkF m pc' ls st)) : own_E p e below P T (mkF m pc ls (.null :: st)) := own_go (fun _ k => XS.ifnullYes X.here hx rfl rfl hd rfl ho hp k) h
theorem own_nullNo (X : Stand p l e R s m args below meth c T locs cells slots) (hx : p.tables.exec = Jvm.exec) {b : Addr} {o : Int} (hd : decode c.code pc = .ok (.ifnull o, 3)) (h : own_E p e below P T (mkF m (pc + 3) ls st)) : own_E p e below P T (mkF m pc ls (.ref b :: st)) := own_go (fun _ k => XS.ifnullNo X.here hx rfl hd rfl k) h
theorem own_nonnullYes (X : Stand p l e R s m args below meth c T locs cells slots) (hx : p.tables.exec = Jvm.exec) {b : Addr} {o : Int} (hd : decode c.code pc = .ok (.ifnonnull o, 3)) (pc' : Nat) (ho : 0 ≤ (pc : Int) + o) (hp : ((pc : Int) + o).toNat = pc') (h : own_E p e below P T (mkF m pc' ls st)) : own_E p e below P T (mkF m pc ls (.ref b :: st)) := own_go (fun _ k => XT.ifnonnullYes X.here hx rfl rfl hd rfl ho hp k) h
theorem own_nonnullNo (X : Stand p l e R s m args below meth c T locs cells slots) (hx : p.tables.exec = Jvm.exec)  {o : Int} (hd : decode c.code pc = .ok (.ifnonnull o, 3)) (h : own_E p e below P T (mkF m (pc + 3) ls st)) : own_E p e below P T (mkF m pc ls (.null :: st)) := own_go (fun _ k => XT.ifnonnullNo X.here hx rfl hd rfl k) h
theorem own_alen (X : Stand p l e R s m args below meth c T locs cells slots) (hx : p.tables.exec = Jvm.exec) {Z : State} (hZ : Z.Warmed39 s.vm) {h : Heap} (eT : T.heap = h) {a : Addr} {cl : Cell} {ty : FieldType} (A : Arr Z h a cl ty) {z : Int32} (hz : cl.slots.size.toInt32 = z) (hd : decode c.code pc = .ok (.arraylength, 1)) (k : own_E p e below P T (mkF m (pc + 1) ls (.int z :: st))) : own_E p e below P T (mkF m pc ls (.ref a :: st)) := by
  subst hz
  exact own_go (fun _ k => X.arraylength hx (by rw [eT]; exact A.1) (State.isArrayOf_alike hZ.alike A.2.1) (g := mkF m pc ls (.ref a :: st)) rfl rfl hd _ k) k
theorem own_baload (X : Stand p l e R s m args below meth c T locs cells slots) (hx : p.tables.exec = Jvm.exec) {Z : State} (hZ : Z.Warmed39 s.vm) {h : Heap} (eT : T.heap = h) {a : Addr} {cl : Cell} (A : Arr Z h a cl .byte) {j : Int32} {v : Value} (hin : ¬ (j < 0 ∨ cl.slots.size ≤ j.toNatClampNeg)) (hv : cl.slots[j.toNatClampNeg]? = some v) (hd : decode c.code pc = .ok (.baload, 1)) (k : own_E p e below P T (mkF m (pc + 1) ls (v :: st))) : own_E p e below P T (mkF m pc ls (.int j :: .ref a :: st)) :=
  own_go (fun _ k => X.baloadBytes hx (by rw [eT]; exact A.1) (State.isArrayOf_alike hZ.alike A.2.1) A.2.2 hin hv (g := mkF m pc ls (.int j :: .ref a :: st)) rfl rfl hd _ k) k
theorem own_zaload (X : Stand p l e R s m args below meth c T locs cells slots) (hx : p.tables.exec = Jvm.exec) {Z : State} (hZ : Z.Warmed39 s.vm) {h : Heap} (eT : T.heap = h) {a : Addr} {cl : Cell} (A : Arr Z h a cl .boolean) {j : Int32} {v : Value} (hin : ¬ (j < 0 ∨ cl.slots.size ≤ j.toNatClampNeg)) (hv : cl.slots[j.toNatClampNeg]? = some v) (hd : decode c.code pc = .ok (.baload, 1)) (k : own_E p e below P T (mkF m (pc + 1) ls (v :: st))) : own_E p e below P T (mkF m pc ls (.int j :: .ref a :: st)) :=
  own_go (fun _ k => X.baloadBooleans hx (by rw [eT]; exact A.1) (State.isArrayOf_alike hZ.alike A.2.1) A.2.2 hin hv (g := mkF m pc ls (.int j :: .ref a :: st)) rfl rfl hd _ k) k
theorem own_iaload (X : Stand p l e R s m args below meth c T locs cells slots) (hx : p.tables.exec = Jvm.exec) {Z : State} (hZ : Z.Warmed39 s.vm) {h : Heap} (eT : T.heap = h) {a : Addr} {cl : Cell} (A : Arr Z h a cl .int) {j : Int32} {v : Value} (hin : ¬ (j < 0 ∨ cl.slots.size ≤ j.toNatClampNeg)) (hv : cl.slots[j.toNatClampNeg]? = some v) (hd : decode c.code pc = .ok (.iaload, 1)) (k : own_E p e below P T (mkF m (pc + 1) ls (v :: st))) : own_E p e below P T (mkF m pc ls (.int j :: .ref a :: st)) :=
  own_go (fun _ k => X.iaload hx (by rw [eT]; exact A.1) (State.isArrayOf_alike hZ.alike A.2.1) A.2.2 hin hv (g := mkF m pc ls (.int j :: .ref a :: st)) rfl rfl hd _ k) k
theorem own_aaload (X : Stand p l e R s m args below meth c T locs cells slots) (hx : p.tables.exec = Jvm.exec) {Z : State} (hZ : Z.Warmed39 s.vm) {h : Heap} (eT : T.heap = h) {a : Addr} {cl : Cell} {ty : FieldType} (A : Arr Z h a cl ty) (hty : ty.isReference = true) {j : Int32} {v : Value} (hin : ¬ (j < 0 ∨ cl.slots.size ≤ j.toNatClampNeg)) (hv : cl.slots[j.toNatClampNeg]? = some v) (hd : decode c.code pc = .ok (.aaload, 1)) (k : own_E p e below P T (mkF m (pc + 1) ls (v :: st))) : own_E p e below P T (mkF m pc ls (.int j :: .ref a :: st)) :=
  own_go (fun _ k => X.aaload hx (by rw [eT]; exact A.1) (State.isArrayOf_alike hZ.alike A.2.1) hty A.2.2 hin hv (g := mkF m pc ls (.int j :: .ref a :: st)) rfl rfl hd _ k) k
theorem own_retN (X : Stand p l e R s m args below meth c T locs cells slots) (hx : p.tables.exec = Jvm.exec) {z z' : Int32} {t : FieldType} {Q : Option Value → Heap → List Loc → Prop} {cm sm : Nat} (hret : meth.sig.returnType = some t) (ht : t = .boolean ∨ t = .byte ∨ t = .char ∨ t = .short) (hlk : meth.locks = false) (hd : decode c.code pc = .ok (.ireturn, 1)) (hz : nar t z = z') (hc : cells ≤ cm) (hs : slots ≤ sm) (hQ : Q (some (.int z')) T.heap locs) : own_E p e below (own_P s Q cm sm) T (mkF m pc ls (.int z :: st)) := by
  subst hz
  obtain ⟨fs, hr, hrun, hended, hW, hsame⟩ := X.leave (v := some (.int (nar t z))) (fun h => by rw [hret] at h; cases h) hlk
  exact ⟨_, _, retN X hx hret ht hd hr, hrun, hended, _, _, rfl, hQ, ⟨_, rfl⟩, hW, hsame.mono hc hs⟩
theorem own_retO (X : Stand p l e R s m args below meth c T locs cells slots) (hx : p.tables.exec = Jvm.exec) {w : Value} {t : FieldType} {i : Instr} {Q : Option Value → Heap → List Loc → Prop} {cm sm : Nat} (hret : meth.sig.returnType = some t) (hlk : meth.locks = false) (hn : narrow t w = w)
    (hi : (i = .ireturn ∧ (t = .int ∨ t = .boolean ∨ t = .byte ∨ t = .char ∨ t = .short) ∧ ∃ z, w = .int z) ∨ (i = .lreturn ∧ t = .long ∧ ∃ z, w = .long z) ∨ (i = .dreturn ∧ t = .double ∧ ∃ z, w = .double z) ∨ (i = .freturn ∧ t = .float ∧ ∃ z, w = .float z) ∨ (i = .areturn ∧ t.isReference = true ∧ w.isRef = true))
    (hd : decode c.code pc = .ok (i, 1)) (hc : cells ≤ cm) (hs : slots ≤ sm) (hQ : Q (some w) T.heap locs) : own_E p e below (own_P s Q cm sm) T (mkF m pc ls (w :: st)) := by
  obtain ⟨fs, hr, hrun, hended, hW, hsame⟩ := X.leave (v := some w) (fun h => by rw [hret] at h; cases h) hlk
  exact ⟨_, _, Jvm.RoadKit.retOut X hx hret hn hi hd hr, hrun, hended, _, _, rfl, hQ, ⟨_, rfl⟩, hW, hsame.mono hc hs⟩
theorem own_retI (X : Stand p l e R s m args below meth c T locs cells slots) (hx : p.tables.exec = Jvm.exec) {z : Int32} {Q : Option Value → Heap → List Loc → Prop} {cm sm : Nat} (hret : meth.sig.returnType = some .int) (hlk : meth.locks = false) (hd : decode c.code pc = .ok (.ireturn, 1)) (hc : cells ≤ cm) (hs : slots ≤ sm) (hQ : Q (some (.int z)) T.heap locs) : own_E p e below (own_P s Q cm sm) T (mkF m pc ls (.int z :: st)) := own_retO X hx hret hlk rfl (Or.inl ⟨rfl, Or.inl rfl, _, rfl⟩) hd hc hs hQ
theorem own_retL (X : Stand p l e R s m args below meth c T locs cells slots) (hx : p.tables.exec = Jvm.exec) {z : Int64} {Q : Option Value → Heap → List Loc → Prop} {cm sm : Nat} (hret : meth.sig.returnType = some .long) (hlk : meth.locks = false) (hd : decode c.code pc = .ok (.lreturn, 1)) (hc : cells ≤ cm) (hs : slots ≤ sm) (hQ : Q (some (.long z)) T.heap locs) : own_E p e below (own_P s Q cm sm) T (mkF m pc ls (.long z :: st)) := own_retO X hx hret hlk rfl (Or.inr (Or.inl ⟨rfl, rfl, _, rfl⟩)) hd hc hs hQ
theorem own_retA (X : Stand p l e R s m args below meth c T locs cells slots) (hx : p.tables.exec = Jvm.exec) {w : Value} {t : FieldType} {Q : Option Value → Heap → List Loc → Prop} {cm sm : Nat} (hret : meth.sig.returnType = some t) (ht : t.isReference = true) (hw : w.isRef = true) (hlk : meth.locks = false) (hd : decode c.code pc = .ok (.areturn, 1)) (hc : cells ≤ cm) (hs : slots ≤ sm) (hQ : Q (some w) T.heap locs) : own_E p e below (own_P s Q cm sm) T (mkF m pc ls (w :: st)) := own_retO X hx hret hlk (by rcases ref_cases hw with rfl | ⟨a, rfl⟩ <;> cases t <;> rfl) (Or.inr (Or.inr (Or.inr (Or.inr ⟨rfl, ht, hw⟩)))) hd hc hs hQ
theorem own_retV (X : Stand p l e R s m args below meth c T locs cells slots) (hx : p.tables.exec = Jvm.exec) {Q : Option Value → Heap → List Loc → Prop} {cm sm : Nat} (hret : meth.sig.returnType = none) (hlk : meth.locks = false) (hd : decode c.code pc = .ok (.return_, 1)) (hc : cells ≤ cm) (hs : slots ≤ sm) (hQ : Q none T.heap locs) : own_E p e below (own_P s Q cm sm) T (mkF m pc ls []) := by
  obtain ⟨fs, hr, hrun, hended, hW, hsame⟩ := X.leave (v := none) (fun _ => rfl) hlk
  exact ⟨_, _, X.returnOut hx hret hd hr, hrun, hended, _, _, rfl, hQ, ⟨_, rfl⟩, hW, hsame.mono hc hs⟩
theorem own_nar {v : Value} {C : String} (r : v.isRef = true) : narrow (.object C) v = v := by rcases ref_cases r with rfl | ⟨a, rfl⟩ <;> rfl
theorem own_fit {v : Value} {C : String} (r : v.isRef = true) : fits (.object C) v = true := by rcases ref_cases r with rfl | ⟨a, rfl⟩ <;> rfl
end OwnWalk
def own_QV (h0 : Heap) (n0 : Nat) (v : Option Value) (h : Heap) (L : List Loc) : Prop := v = none ∧ Fr n0 L ∧ h = h0
def own_Q (r : Value) (h0 : Heap) (n0 : Nat) (v : Option Value) (h : Heap) (L : List Loc) : Prop := v = some r ∧ Fr n0 L ∧ h = h0
theorem own_pn0 : plainName "java/lang/Number" = true := by first | (simp [plainName, overriddenIn]; done) | decide +kernel
theorem own_ef1 (m : MethodId) (x0 : Addr) : entryFrame m #[(.ref x0)] 1 = mkF m 0 #[.val (.ref x0)] [] := by first | (simp [entryFrame, mkF, argsToLocals, Value.category]; done) | rfl
theorem own_d_jdk_18_method_1_code_0 : decode jdk_18_method_1_code 0 = .ok (.aload_n 0, 1) := by decide +kernel
theorem own_d_jdk_18_method_1_code_1 : decode jdk_18_method_1_code 1 = .ok (.invokespecial 1, 3) := by decide +kernel
theorem own_d_jdk_18_method_1_code_4 : decode jdk_18_method_1_code 4 = .ok (.return_, 1) := by decide +kernel
set_option maxRecDepth 65536 in
set_option maxHeartbeats 40000000 in
theorem own_rmN (l : Launch) (Z : State) (a0 : Array Value) (hw : ∀ d ∈ tables_1, d.before a0 Z = true) (ws : List Jvm.Cond) (a1 : Addr) (h0 : Heap) (n0 : Nat) (Z0 : n0 ≤ h0.size)  :
    MetFree l (⟨"java/lang/Number", "<init>", "()V"⟩ : MethodName) (head1 (Jvm.Cond.code (⟨"java/lang/Number", "<init>", "()V"⟩ : MethodName) jdk_18_method_1_code 1 none :: ws) ({ frames := 1, cells := 0, slots := 0, locals := 12 } : Room)) (fun a U => a = #[(.ref a1)] ∧ Z.Warmed39 U.vm ∧ U.heap = h0) (fun _ _ _ _ _ => True) (fun _ U o U' => ∃ v L, o = .returned v ∧ own_QV h0 n0 v U'.heap L ∧ FrameEnd U o U' L ({ frames := 1, cells := 0, slots := 0, locals := 12 } : Room).cells ({ frames := 1, cells := 0, slots := 0, locals := 12 } : Room).slots) := by
  refine MetFree.of_bodySF (plainFor_of_name own_pn0) hisR ?_
  intro p e s m args below meth c s₁ Bd hml0 hP hK
  obtain ⟨rfl, hZ, hh⟩ := hP
  have hx := Bd.exec
  have hby := Bd.bytes
  have hlk : meth.locks = false := Bd.notSynchronized
  have hml : c.maxLocals = 1 := hml0
  have hown : s.vm.findClass "java/lang/Number" = some m.cls := findClass_of_methodNamed Bd.named
  have hnm := (name_of_methodNamed Bd.named Bd.method).1
  have X0 : Stand p l e ({ frames := 1, cells := 0, slots := 0, locals := 12 } : Room) s m #[(.ref a1)] below meth c s₁ [] 0 0 := Stand.of_body Bd
  have e0 : s₁.heap = h0 := by rw [← hh, Bd.state]; rfl
  have N0 := Fr.nil n0
  show own_E p e below (own_P s (own_QV h0 n0) ({ frames := 1, cells := 0, slots := 0, locals := 12 } : Room).cells ({ frames := 1, cells := 0, slots := 0, locals := 12 } : Room).slots) s₁ (entryFrame m #[(.ref a1)] 1)
  refine own_cast (own_ef1 m a1) ?_
  show own_E p e below _ s₁ (mkF m 0 #[.val (.ref a1)] [])
  refine own_aloadN X0 hx (hb hby own_d_jdk_18_method_1_code_0) rfl rfl ?_
  show own_E p e below _ s₁ (mkF m 1 #[.val (.ref a1)] [(.ref a1)])
  obtain ⟨T1, X1, e1, st1⟩ := initO X0 hx hZ hown (hw _ (List.mem_of_getElem? (i := 167) rfl)) (hw _ (List.mem_of_getElem? (i := 43) rfl)) (hw _ (List.mem_of_getElem? (i := 44) rfl)) e0 (g := (mkF m 1 #[.val (.ref a1)] [(.ref a1)])) rfl (by rw [hml]; rfl) rfl (hb hby own_d_jdk_18_method_1_code_1) (by decide) (W := 0) (by show 2 * 0 + _ ≤ _; exact Nat.le_of_eq rfl) (by decide)
  refine own_go st1 ?_
  show own_E p e below _ T1 (mkF m 4 #[.val (.ref a1)] [])
  refine own_retV X1 hx Bd.returns hlk (hb hby own_d_jdk_18_method_1_code_4) (by decide) (by decide) ?_
  rw [e1]
  exact ⟨rfl, N0, rfl⟩

theorem own_pn1 : plainName "java/util/AbstractCollection" = true := by first | (simp [plainName, overriddenIn]; done) | decide +kernel
theorem own_ef2 (m : MethodId) (x0 : Addr) : entryFrame m #[(.ref x0)] 1 = mkF m 0 #[.val (.ref x0)] [] := by first | (simp [entryFrame, mkF, argsToLocals, Value.category]; done) | rfl
theorem own_d_jdk_22_method_1_code_0 : decode jdk_22_method_1_code 0 = .ok (.aload_n 0, 1) := by decide +kernel
theorem own_d_jdk_22_method_1_code_1 : decode jdk_22_method_1_code 1 = .ok (.invokespecial 1, 3) := by decide +kernel
theorem own_d_jdk_22_method_1_code_4 : decode jdk_22_method_1_code 4 = .ok (.return_, 1) := by decide +kernel
set_option maxRecDepth 65536 in
set_option maxHeartbeats 40000000 in
theorem own_rmAC (l : Launch) (Z : State) (a0 : Array Value) (hw : ∀ d ∈ tables_1, d.before a0 Z = true) (ws : List Jvm.Cond) (a1 : Addr) (h0 : Heap) (n0 : Nat) (Z0 : n0 ≤ h0.size)  :
    MetFree l (⟨"java/util/AbstractCollection", "<init>", "()V"⟩ : MethodName) (head1 (Jvm.Cond.code (⟨"java/util/AbstractCollection", "<init>", "()V"⟩ : MethodName) jdk_22_method_1_code 1 none :: ws) ({ frames := 1, cells := 0, slots := 0, locals := 12 } : Room)) (fun a U => a = #[(.ref a1)] ∧ Z.Warmed39 U.vm ∧ U.heap = h0) (fun _ _ _ _ _ => True) (fun _ U o U' => ∃ v L, o = .returned v ∧ own_QV h0 n0 v U'.heap L ∧ FrameEnd U o U' L ({ frames := 1, cells := 0, slots := 0, locals := 12 } : Room).cells ({ frames := 1, cells := 0, slots := 0, locals := 12 } : Room).slots) := by
  refine MetFree.of_bodySF (plainFor_of_name own_pn1) hisR ?_
  intro p e s m args below meth c s₁ Bd hml0 hP hK
  obtain ⟨rfl, hZ, hh⟩ := hP
  have hx := Bd.exec
  have hby := Bd.bytes
  have hlk : meth.locks = false := Bd.notSynchronized
  have hml : c.maxLocals = 1 := hml0
  have hown : s.vm.findClass "java/util/AbstractCollection" = some m.cls := findClass_of_methodNamed Bd.named
  have hnm := (name_of_methodNamed Bd.named Bd.method).1
  have X0 : Stand p l e ({ frames := 1, cells := 0, slots := 0, locals := 12 } : Room) s m #[(.ref a1)] below meth c s₁ [] 0 0 := Stand.of_body Bd
  have e0 : s₁.heap = h0 := by rw [← hh, Bd.state]; rfl
  have N0 := Fr.nil n0
  show own_E p e below (own_P s (own_QV h0 n0) ({ frames := 1, cells := 0, slots := 0, locals := 12 } : Room).cells ({ frames := 1, cells := 0, slots := 0, locals := 12 } : Room).slots) s₁ (entryFrame m #[(.ref a1)] 1)
  refine own_cast (own_ef2 m a1) ?_
  show own_E p e below _ s₁ (mkF m 0 #[.val (.ref a1)] [])
  refine own_aloadN X0 hx (hb hby own_d_jdk_22_method_1_code_0) rfl rfl ?_
  show own_E p e below _ s₁ (mkF m 1 #[.val (.ref a1)] [(.ref a1)])
  obtain ⟨T2, X2, e2, st2⟩ := initO X0 hx hZ hown (hw _ (List.mem_of_getElem? (i := 42) rfl)) (hw _ (List.mem_of_getElem? (i := 43) rfl)) (hw _ (List.mem_of_getElem? (i := 44) rfl)) e0 (g := (mkF m 1 #[.val (.ref a1)] [(.ref a1)])) rfl (by rw [hml]; rfl) rfl (hb hby own_d_jdk_22_method_1_code_1) (by decide) (W := 0) (by show 2 * 0 + _ ≤ _; exact Nat.le_of_eq rfl) (by decide)
  refine own_go st2 ?_
  show own_E p e below _ T2 (mkF m 4 #[.val (.ref a1)] [])
  refine own_retV X2 hx Bd.returns hlk (hb hby own_d_jdk_22_method_1_code_4) (by decide) (by decide) ?_
  rw [e2]
  exact ⟨rfl, N0, rfl⟩

theorem own_pn2 : plainName "java/util/ImmutableCollections$AbstractImmutableCollection" = true := by first | (simp [plainName, overriddenIn]; done) | decide +kernel
theorem own_ef3 (m : MethodId) (x0 : Addr) : entryFrame m #[(.ref x0)] 1 = mkF m 0 #[.val (.ref x0)] [] := by first | (simp [entryFrame, mkF, argsToLocals, Value.category]; done) | rfl
theorem own_d_jdk_47_method_1_code_0 : decode jdk_47_method_1_code 0 = .ok (.aload_n 0, 1) := by decide +kernel
theorem own_pd0 : parseMethodDescriptor "()V" = some ⟨[], none⟩ := by decide +kernel
theorem own_d_jdk_47_method_1_code_1 : decode jdk_47_method_1_code 1 = .ok (.invokespecial 1, 3) := by decide +kernel
theorem own_d_jdk_47_method_1_code_4 : decode jdk_47_method_1_code 4 = .ok (.return_, 1) := by decide +kernel
set_option maxRecDepth 65536 in
set_option maxHeartbeats 40000000 in
theorem own_rmAIC (l : Launch) (Z : State) (a0 : Array Value) (hw : ∀ d ∈ tables_1, d.before a0 Z = true) (ws : List Jvm.Cond) (a1 : Addr) (h0 : Heap) (n0 : Nat) (Z0 : n0 ≤ h0.size)  :
    MetFree l (⟨"java/util/ImmutableCollections$AbstractImmutableCollection", "<init>", "()V"⟩ : MethodName) (head1 (Jvm.Cond.code (⟨"java/util/ImmutableCollections$AbstractImmutableCollection", "<init>", "()V"⟩ : MethodName) jdk_47_method_1_code 1 none :: ws) ({ frames := 2, cells := 0, slots := 0, locals := 24 } : Room)) (fun a U => a = #[(.ref a1)] ∧ Z.Warmed39 U.vm ∧ U.heap = h0) (fun _ _ _ _ _ => True) (fun _ U o U' => ∃ v L, o = .returned v ∧ own_QV h0 n0 v U'.heap L ∧ FrameEnd U o U' L ({ frames := 2, cells := 0, slots := 0, locals := 24 } : Room).cells ({ frames := 2, cells := 0, slots := 0, locals := 24 } : Room).slots) := by
  refine MetFree.of_bodySF (plainFor_of_name own_pn2) hisR ?_
  intro p e s m args below meth c s₁ Bd hml0 hP hK
  obtain ⟨rfl, hZ, hh⟩ := hP
  have hx := Bd.exec
  have hby := Bd.bytes
  have hlk : meth.locks = false := Bd.notSynchronized
  have hml : c.maxLocals = 1 := hml0
  have hown : s.vm.findClass "java/util/ImmutableCollections$AbstractImmutableCollection" = some m.cls := findClass_of_methodNamed Bd.named
  have hnm := (name_of_methodNamed Bd.named Bd.method).1
  have X0 : Stand p l e ({ frames := 2, cells := 0, slots := 0, locals := 24 } : Room) s m #[(.ref a1)] below meth c s₁ [] 0 0 := Stand.of_body Bd
  have e0 : s₁.heap = h0 := by rw [← hh, Bd.state]; rfl
  have N0 := Fr.nil n0
  show own_E p e below (own_P s (own_QV h0 n0) ({ frames := 2, cells := 0, slots := 0, locals := 24 } : Room).cells ({ frames := 2, cells := 0, slots := 0, locals := 24 } : Room).slots) s₁ (entryFrame m #[(.ref a1)] 1)
  refine own_cast (own_ef3 m a1) ?_
  show own_E p e below _ s₁ (mkF m 0 #[.val (.ref a1)] [])
  refine own_aloadN X0 hx (hb hby own_d_jdk_47_method_1_code_0) rfl rfl ?_
  show own_E p e below _ s₁ (mkF m 1 #[.val (.ref a1)] [(.ref a1)])
  obtain ⟨_, _, ⟨T3, L3, k3, n3⟩, -, X3, ⟨Lc3, hQ3, l3, y3, z3⟩, st3⟩ := X0.specialBack hx (y := (⟨"java/util/AbstractCollection", "<init>", "()V"⟩ : MethodName)) rfl hown (mvT hZ (hw _ (List.mem_of_getElem? (i := 36) rfl))) (mvT hZ (hw _ (List.mem_of_getElem? (i := 37) rfl))) (mvT hZ (hw _ (List.mem_of_getElem? (i := 41) rfl))) (by decide) (backOf (W := 0) (own_rmAC l Z a0 hw [] a1 h0 n0 Z0) hZ (hw _ (List.mem_of_getElem? (i := 41) rfl)) (hw _ (List.mem_of_getElem? (i := 40) rfl)) (by decide) (by decide)) (g := (mkF m 1 #[.val (.ref a1)] [(.ref a1)])) rfl (by rw [hml]; rfl) (Steps.refl _) (a := a1) (argsL := []) (rest := []) (lenOf own_pd0 rfl) rfl (by show 2 * 0 + _ ≤ _; exact Nat.le_of_eq rfl) (hb hby own_d_jdk_47_method_1_code_1) (fun _ _ => ⟨rfl, e0, Nat.le_of_ble_eq_true rfl, Nat.le_of_ble_eq_true rfl⟩)
  dsimp only [Pt.U, Pt.locs, Pt.cells, Pt.slots] at X3 l3 y3 z3 st3 hQ3
  subst l3 y3 z3
  obtain ⟨rfl, M3, e3⟩ := hQ3
  have N3 := Fr.app N0 M3
  refine own_go (fun _ k => st3.trans k) ?_
  show own_E p e below _ T3 (mkF m 4 #[.val (.ref a1)] [])
  refine own_retV X3 hx Bd.returns hlk (hb hby own_d_jdk_47_method_1_code_4) (by decide) (by decide) ?_
  rw [e3]
  exact ⟨rfl, N3, rfl⟩

theorem own_pn3 : plainName "java/util/ImmutableCollections$AbstractImmutableSet" = true := by first | (simp [plainName, overriddenIn]; done) | decide +kernel
theorem own_ef4 (m : MethodId) (x0 : Addr) : entryFrame m #[(.ref x0)] 1 = mkF m 0 #[.val (.ref x0)] [] := by first | (simp [entryFrame, mkF, argsToLocals, Value.category]; done) | rfl
theorem own_d_jdk_100_method_1_code_0 : decode jdk_100_method_1_code 0 = .ok (.aload_n 0, 1) := by decide +kernel
theorem own_d_jdk_100_method_1_code_1 : decode jdk_100_method_1_code 1 = .ok (.invokespecial 1, 3) := by decide +kernel
theorem own_d_jdk_100_method_1_code_4 : decode jdk_100_method_1_code 4 = .ok (.return_, 1) := by decide +kernel
set_option maxRecDepth 65536 in
set_option maxHeartbeats 40000000 in
theorem own_rmAIS (l : Launch) (Z : State) (a0 : Array Value) (hw : ∀ d ∈ tables_1, d.before a0 Z = true) (ws : List Jvm.Cond) (a1 : Addr) (h0 : Heap) (n0 : Nat) (Z0 : n0 ≤ h0.size)  :
    MetFree l (⟨"java/util/ImmutableCollections$AbstractImmutableSet", "<init>", "()V"⟩ : MethodName) (head1 (Jvm.Cond.code (⟨"java/util/ImmutableCollections$AbstractImmutableSet", "<init>", "()V"⟩ : MethodName) jdk_100_method_1_code 1 none :: ws) ({ frames := 3, cells := 0, slots := 0, locals := 36 } : Room)) (fun a U => a = #[(.ref a1)] ∧ Z.Warmed39 U.vm ∧ U.heap = h0) (fun _ _ _ _ _ => True) (fun _ U o U' => ∃ v L, o = .returned v ∧ own_QV h0 n0 v U'.heap L ∧ FrameEnd U o U' L ({ frames := 3, cells := 0, slots := 0, locals := 36 } : Room).cells ({ frames := 3, cells := 0, slots := 0, locals := 36 } : Room).slots) := by
  refine MetFree.of_bodySF (plainFor_of_name own_pn3) hisR ?_
  intro p e s m args below meth c s₁ Bd hml0 hP hK
  obtain ⟨rfl, hZ, hh⟩ := hP
  have hx := Bd.exec
  have hby := Bd.bytes
  have hlk : meth.locks = false := Bd.notSynchronized
  have hml : c.maxLocals = 1 := hml0
  have hown : s.vm.findClass "java/util/ImmutableCollections$AbstractImmutableSet" = some m.cls := findClass_of_methodNamed Bd.named
  have hnm := (name_of_methodNamed Bd.named Bd.method).1
  have X0 : Stand p l e ({ frames := 3, cells := 0, slots := 0, locals := 36 } : Room) s m #[(.ref a1)] below meth c s₁ [] 0 0 := Stand.of_body Bd
  have e0 : s₁.heap = h0 := by rw [← hh, Bd.state]; rfl
  have N0 := Fr.nil n0
  show own_E p e below (own_P s (own_QV h0 n0) ({ frames := 3, cells := 0, slots := 0, locals := 36 } : Room).cells ({ frames := 3, cells := 0, slots := 0, locals := 36 } : Room).slots) s₁ (entryFrame m #[(.ref a1)] 1)
  refine own_cast (own_ef4 m a1) ?_
  show own_E p e below _ s₁ (mkF m 0 #[.val (.ref a1)] [])
  refine own_aloadN X0 hx (hb hby own_d_jdk_100_method_1_code_0) rfl rfl ?_
  show own_E p e below _ s₁ (mkF m 1 #[.val (.ref a1)] [(.ref a1)])
  obtain ⟨_, _, ⟨T4, L4, k4, n4⟩, -, X4, ⟨Lc4, hQ4, l4, y4, z4⟩, st4⟩ := X0.specialBack hx (y := (⟨"java/util/ImmutableCollections$AbstractImmutableCollection", "<init>", "()V"⟩ : MethodName)) rfl hown (mvT hZ (hw _ (List.mem_of_getElem? (i := 30) rfl))) (mvT hZ (hw _ (List.mem_of_getElem? (i := 31) rfl))) (mvT hZ (hw _ (List.mem_of_getElem? (i := 35) rfl))) (by decide) (backOf (W := 0) (own_rmAIC l Z a0 hw [] a1 h0 n0 Z0) hZ (hw _ (List.mem_of_getElem? (i := 35) rfl)) (hw _ (List.mem_of_getElem? (i := 34) rfl)) (by decide) (by decide)) (g := (mkF m 1 #[.val (.ref a1)] [(.ref a1)])) rfl (by rw [hml]; rfl) (Steps.refl _) (a := a1) (argsL := []) (rest := []) (lenOf own_pd0 rfl) rfl (by show 2 * 0 + _ ≤ _; exact Nat.le_of_eq rfl) (hb hby own_d_jdk_100_method_1_code_1) (fun _ _ => ⟨rfl, e0, Nat.le_of_ble_eq_true rfl, Nat.le_of_ble_eq_true rfl⟩)
  dsimp only [Pt.U, Pt.locs, Pt.cells, Pt.slots] at X4 l4 y4 z4 st4 hQ4
  subst l4 y4 z4
  obtain ⟨rfl, M4, e4⟩ := hQ4
  have N4 := Fr.app N0 M4
  refine own_go (fun _ k => st4.trans k) ?_
  show own_E p e below _ T4 (mkF m 4 #[.val (.ref a1)] [])
  refine own_retV X4 hx Bd.returns hlk (hb hby own_d_jdk_100_method_1_code_4) (by decide) (by decide) ?_
  rw [e4]
  exact ⟨rfl, N4, rfl⟩

theorem own_pn4 : plainName "java/util/ImmutableCollections$AbstractImmutableList" = true := by first | (simp [plainName, overriddenIn]; done) | decide +kernel
theorem own_ef5 (m : MethodId) (x0 : Addr) : entryFrame m #[(.ref x0)] 1 = mkF m 0 #[.val (.ref x0)] [] := by first | (simp [entryFrame, mkF, argsToLocals, Value.category]; done) | rfl
theorem own_d_jdk_46_method_1_code_0 : decode jdk_46_method_1_code 0 = .ok (.aload_n 0, 1) := by decide +kernel
theorem own_d_jdk_46_method_1_code_1 : decode jdk_46_method_1_code 1 = .ok (.invokespecial 1, 3) := by decide +kernel
theorem own_d_jdk_46_method_1_code_4 : decode jdk_46_method_1_code 4 = .ok (.return_, 1) := by decide +kernel
set_option maxRecDepth 65536 in
set_option maxHeartbeats 40000000 in
theorem own_rmAIL (l : Launch) (Z : State) (a0 : Array Value) (hw : ∀ d ∈ tables_1, d.before a0 Z = true) (ws : List Jvm.Cond) (a1 : Addr) (h0 : Heap) (n0 : Nat) (Z0 : n0 ≤ h0.size)  :
    MetFree l (⟨"java/util/ImmutableCollections$AbstractImmutableList", "<init>", "()V"⟩ : MethodName) (head1 (Jvm.Cond.code (⟨"java/util/ImmutableCollections$AbstractImmutableList", "<init>", "()V"⟩ : MethodName) jdk_46_method_1_code 1 none :: ws) ({ frames := 3, cells := 0, slots := 0, locals := 36 } : Room)) (fun a U => a = #[(.ref a1)] ∧ Z.Warmed39 U.vm ∧ U.heap = h0) (fun _ _ _ _ _ => True) (fun _ U o U' => ∃ v L, o = .returned v ∧ own_QV h0 n0 v U'.heap L ∧ FrameEnd U o U' L ({ frames := 3, cells := 0, slots := 0, locals := 36 } : Room).cells ({ frames := 3, cells := 0, slots := 0, locals := 36 } : Room).slots) := by
  refine MetFree.of_bodySF (plainFor_of_name own_pn4) hisR ?_
  intro p e s m args below meth c s₁ Bd hml0 hP hK
  obtain ⟨rfl, hZ, hh⟩ := hP
  have hx := Bd.exec
  have hby := Bd.bytes
  have hlk : meth.locks = false := Bd.notSynchronized
  have hml : c.maxLocals = 1 := hml0
  have hown : s.vm.findClass "java/util/ImmutableCollections$AbstractImmutableList" = some m.cls := findClass_of_methodNamed Bd.named
  have hnm := (name_of_methodNamed Bd.named Bd.method).1
  have X0 : Stand p l e ({ frames := 3, cells := 0, slots := 0, locals := 36 } : Room) s m #[(.ref a1)] below meth c s₁ [] 0 0 := Stand.of_body Bd
  have e0 : s₁.heap = h0 := by rw [← hh, Bd.state]; rfl
  have N0 := Fr.nil n0
  show own_E p e below (own_P s (own_QV h0 n0) ({ frames := 3, cells := 0, slots := 0, locals := 36 } : Room).cells ({ frames := 3, cells := 0, slots := 0, locals := 36 } : Room).slots) s₁ (entryFrame m #[(.ref a1)] 1)
  refine own_cast (own_ef5 m a1) ?_
  show own_E p e below _ s₁ (mkF m 0 #[.val (.ref a1)] [])
  refine own_aloadN X0 hx (hb hby own_d_jdk_46_method_1_code_0) rfl rfl ?_
  show own_E p e below _ s₁ (mkF m 1 #[.val (.ref a1)] [(.ref a1)])
  obtain ⟨_, _, ⟨T5, L5, k5, n5⟩, -, X5, ⟨Lc5, hQ5, l5, y5, z5⟩, st5⟩ := X0.specialBack hx (y := (⟨"java/util/ImmutableCollections$AbstractImmutableCollection", "<init>", "()V"⟩ : MethodName)) rfl hown (mvT hZ (hw _ (List.mem_of_getElem? (i := 72) rfl))) (mvT hZ (hw _ (List.mem_of_getElem? (i := 31) rfl))) (mvT hZ (hw _ (List.mem_of_getElem? (i := 35) rfl))) (by decide) (backOf (W := 0) (own_rmAIC l Z a0 hw [] a1 h0 n0 Z0) hZ (hw _ (List.mem_of_getElem? (i := 35) rfl)) (hw _ (List.mem_of_getElem? (i := 34) rfl)) (by decide) (by decide)) (g := (mkF m 1 #[.val (.ref a1)] [(.ref a1)])) rfl (by rw [hml]; rfl) (Steps.refl _) (a := a1) (argsL := []) (rest := []) (lenOf own_pd0 rfl) rfl (by show 2 * 0 + _ ≤ _; exact Nat.le_of_eq rfl) (hb hby own_d_jdk_46_method_1_code_1) (fun _ _ => ⟨rfl, e0, Nat.le_of_ble_eq_true rfl, Nat.le_of_ble_eq_true rfl⟩)
  dsimp only [Pt.U, Pt.locs, Pt.cells, Pt.slots] at X5 l5 y5 z5 st5 hQ5
  subst l5 y5 z5
  obtain ⟨rfl, M5, e5⟩ := hQ5
  have N5 := Fr.app N0 M5
  refine own_go (fun _ k => st5.trans k) ?_
  show own_E p e below _ T5 (mkF m 4 #[.val (.ref a1)] [])
  refine own_retV X5 hx Bd.returns hlk (hb hby own_d_jdk_46_method_1_code_4) (by decide) (by decide) ?_
  rw [e5]
  exact ⟨rfl, N5, rfl⟩

def own_QJ (Z : State) (a1 : Addr) (m0 : Int32) (h0 : Heap) (n0 : Nat) (v : Option Value) (h : Heap) (L : List Loc) : Prop := v = none ∧ Fr n0 L ∧ Keep h0 h [a1] ∧ Fld Z h a1 "java/lang/Integer" "value" "I" (.int m0)
theorem own_pn5 : plainName "java/lang/Integer" = true := by first | (simp [plainName, overriddenIn]; done) | decide +kernel
theorem own_ef6 (m : MethodId) (x0 : Addr) (x1 : Int32) : entryFrame m #[(.ref x0), (.int x1)] 2 = mkF m 0 #[.val (.ref x0), .val (.int x1)] [] := by first | (simp [entryFrame, mkF, argsToLocals, Value.category]; done) | rfl
theorem own_d_jdk_33_method_23_code_0 : decode jdk_33_method_23_code 0 = .ok (.aload_n 0, 1) := by decide +kernel
theorem own_d_jdk_33_method_23_code_1 : decode jdk_33_method_23_code 1 = .ok (.invokespecial 202, 3) := by decide +kernel
theorem own_d_jdk_33_method_23_code_4 : decode jdk_33_method_23_code 4 = .ok (.aload_n 0, 1) := by decide +kernel
theorem own_d_jdk_33_method_23_code_5 : decode jdk_33_method_23_code 5 = .ok (.iload_n 1, 1) := by decide +kernel
theorem own_d_jdk_33_method_23_code_6 : decode jdk_33_method_23_code 6 = .ok (.putfield 205, 3) := by decide +kernel
theorem own_d_jdk_33_method_23_code_9 : decode jdk_33_method_23_code 9 = .ok (.return_, 1) := by decide +kernel
set_option maxRecDepth 65536 in
set_option maxHeartbeats 40000000 in
theorem own_rmJ (l : Launch) (Z : State) (a0 : Array Value) (hw : ∀ d ∈ tables_1, d.before a0 Z = true) (ws : List Jvm.Cond) (a1 : Addr) (m0 : Int32) (h0 : Heap) (n0 : Nat) (Z0 : n0 ≤ h0.size) (F0 : Fld Z h0 a1 "java/lang/Integer" "value" "I" (.int (0 : Int32))) (A0 : Exa Z h0 a1 "java/lang/Integer") (g0 : n0 ≤ a1) :
    MetFree l (⟨"java/lang/Integer", "<init>", "(I)V"⟩ : MethodName) (head1 (Jvm.Cond.code (⟨"java/lang/Integer", "<init>", "(I)V"⟩ : MethodName) jdk_33_method_23_code 2 none :: ws) ({ frames := 2, cells := 0, slots := 0, locals := 24 } : Room)) (fun a U => a = #[(.ref a1), (.int m0)] ∧ Z.Warmed39 U.vm ∧ U.heap = h0) (fun _ _ _ _ _ => True) (fun _ U o U' => ∃ v L, o = .returned v ∧ own_QJ Z a1 m0 h0 n0 v U'.heap L ∧ FrameEnd U o U' L ({ frames := 2, cells := 0, slots := 0, locals := 24 } : Room).cells ({ frames := 2, cells := 0, slots := 0, locals := 24 } : Room).slots) := by
  refine MetFree.of_bodySF (plainFor_of_name own_pn5) hisR ?_
  intro p e s m args below meth c s₁ Bd hml0 hP hK
  obtain ⟨rfl, hZ, hh⟩ := hP
  have hx := Bd.exec
  have hby := Bd.bytes
  have hlk : meth.locks = false := Bd.notSynchronized
  have hml : c.maxLocals = 2 := hml0
  have hown : s.vm.findClass "java/lang/Integer" = some m.cls := findClass_of_methodNamed Bd.named
  have hnm := (name_of_methodNamed Bd.named Bd.method).1
  have X0 : Stand p l e ({ frames := 2, cells := 0, slots := 0, locals := 24 } : Room) s m #[(.ref a1), (.int m0)] below meth c s₁ [] 0 0 := Stand.of_body Bd
  have e0 : s₁.heap = h0 := by rw [← hh, Bd.state]; rfl
  have N0 := Fr.nil n0
  show own_E p e below (own_P s (own_QJ Z a1 m0 h0 n0) ({ frames := 2, cells := 0, slots := 0, locals := 24 } : Room).cells ({ frames := 2, cells := 0, slots := 0, locals := 24 } : Room).slots) s₁ (entryFrame m #[(.ref a1), (.int m0)] 2)
  refine own_cast (own_ef6 m a1 m0) ?_
  show own_E p e below _ s₁ (mkF m 0 #[.val (.ref a1), .val (.int m0)] [])
  refine own_aloadN X0 hx (hb hby own_d_jdk_33_method_23_code_0) rfl rfl ?_
  show own_E p e below _ s₁ (mkF m 1 #[.val (.ref a1), .val (.int m0)] [(.ref a1)])
  obtain ⟨_, _, ⟨T6, L6, k6, n6⟩, -, X6, ⟨Lc6, hQ6, l6, y6, z6⟩, st6⟩ := X0.specialBack hx (y := (⟨"java/lang/Number", "<init>", "()V"⟩ : MethodName)) rfl hown (mvT hZ (hw _ (List.mem_of_getElem? (i := 161) rfl))) (mvT hZ (hw _ (List.mem_of_getElem? (i := 162) rfl))) (mvT hZ (hw _ (List.mem_of_getElem? (i := 166) rfl))) (by decide) (backOf (W := 0) (own_rmN l Z a0 hw [] a1 h0 n0 Z0) hZ (hw _ (List.mem_of_getElem? (i := 166) rfl)) (hw _ (List.mem_of_getElem? (i := 165) rfl)) (by decide) (by decide)) (g := (mkF m 1 #[.val (.ref a1), .val (.int m0)] [(.ref a1)])) rfl (by rw [hml]; rfl) (Steps.refl _) (a := a1) (argsL := []) (rest := []) (lenOf own_pd0 rfl) rfl (by show 2 * 0 + _ ≤ _; exact Nat.le_of_eq rfl) (hb hby own_d_jdk_33_method_23_code_1) (fun _ _ => ⟨rfl, e0, Nat.le_of_ble_eq_true rfl, Nat.le_of_ble_eq_true rfl⟩)
  dsimp only [Pt.U, Pt.locs, Pt.cells, Pt.slots] at X6 l6 y6 z6 st6 hQ6
  subst l6 y6 z6
  obtain ⟨rfl, M6, e6⟩ := hQ6
  have N6 := Fr.app N0 M6
  refine own_go (fun _ k => st6.trans k) ?_
  show own_E p e below _ T6 (mkF m 4 #[.val (.ref a1), .val (.int m0)] [])
  refine own_aloadN X6 hx (hb hby own_d_jdk_33_method_23_code_4) rfl rfl ?_
  show own_E p e below _ T6 (mkF m 5 #[.val (.ref a1), .val (.int m0)] [(.ref a1)])
  refine own_iloadN X6 hx (hb hby own_d_jdk_33_method_23_code_5) rfl ?_
  show own_E p e below _ T6 (mkF m 6 #[.val (.ref a1), .val (.int m0)] [(.int m0), (.ref a1)])
  obtain ⟨T7, h7, X7, e7, W7, st7⟩ := putF X6 hx hZ hown (host := "") (Or.inl (hw _ (List.mem_of_getElem? (i := 148) rfl))) Via.refl e6 F0 A0 (Or.inr ⟨(hw _ (List.mem_of_getElem? (i := 149) rfl)), rfl, hnm⟩) (hw _ (List.mem_of_getElem? (i := 157) rfl)) (ty := .int) (by decide) rfl rfl (g := (mkF m 6 #[.val (.ref a1), .val (.int m0)] [(.int m0), (.ref a1)])) rfl rfl (hb hby own_d_jdk_33_method_23_code_6)
  refine own_go st7 ?_
  have N7 := Fr.snoc X7 N6 (by omega)
  have z7 : h0.size ≤ h7.size := Nat.le_of_eq W7.size.symm
  have F7 : Fld Z h7 a1 "java/lang/Integer" "value" "I" (.int m0) := Fld.same W7 F0
  show own_E p e below _ T7 (mkF m 9 #[.val (.ref a1), .val (.int m0)] [])
  refine own_retV X7 hx Bd.returns hlk (hb hby own_d_jdk_33_method_23_code_9) (by decide) (by decide) ?_
  rw [e7]
  exact ⟨rfl, N7, ((Keep.refl _ _).wr W7 (Or.inl (List.mem_of_getElem? (i := 0) rfl))), F7⟩

def own_QB (Z : State) (m0 : Int32) (h0 : Heap) (n0 : Nat) (v : Option Value) (h : Heap) (L : List Loc) : Prop := ∃ b, v = some (.ref b) ∧ Fr n0 L ∧ Keep h0 h [] ∧ Exa Z h b "java/lang/Integer" ∧ Fld Z h b "java/lang/Integer" "value" "I" (.int m0)
theorem own_ef7 (m : MethodId) (x0 : Int32) : entryFrame m #[(.int x0)] 1 = mkF m 0 #[.val (.int x0)] [] := by first | (simp [entryFrame, mkF, argsToLocals, Value.category]; done) | rfl
theorem own_d_jdk_33_method_22_code_0 : decode jdk_33_method_22_code 0 = .ok (.iload_n 0, 1) := by decide +kernel
theorem own_d_jdk_33_method_22_code_1 : decode jdk_33_method_22_code 1 = .ok (.bipush (-128), 2) := by decide +kernel
theorem own_d_jdk_33_method_22_code_3 : decode jdk_33_method_22_code 3 = .ok (.if_icmp .lt 20, 3) := by decide +kernel
theorem own_d_jdk_33_method_22_code_23 : decode jdk_33_method_22_code 23 = .ok (.new 1, 3) := by decide +kernel
theorem own_d_jdk_33_method_22_code_26 : decode jdk_33_method_22_code 26 = .ok (.dup, 1) := by decide +kernel
theorem own_d_jdk_33_method_22_code_27 : decode jdk_33_method_22_code 27 = .ok (.iload_n 0, 1) := by decide +kernel
theorem own_pd1 : parseMethodDescriptor "(I)V" = some ⟨[.int], none⟩ := by decide +kernel
theorem own_d_jdk_33_method_22_code_28 : decode jdk_33_method_22_code 28 = .ok (.invokespecial 199, 3) := by decide +kernel
theorem own_d_jdk_33_method_22_code_31 : decode jdk_33_method_22_code 31 = .ok (.areturn, 1) := by decide +kernel
theorem own_d_jdk_33_method_22_code_6 : decode jdk_33_method_22_code 6 = .ok (.iload_n 0, 1) := by decide +kernel
theorem own_d_jdk_33_method_22_code_7 : decode jdk_33_method_22_code 7 = .ok (.getstatic 191, 3) := by decide +kernel
theorem own_d_jdk_33_method_22_code_10 : decode jdk_33_method_22_code 10 = .ok (.if_icmp .gt 13, 3) := by decide +kernel
theorem own_d_jdk_33_method_22_code_13 : decode jdk_33_method_22_code 13 = .ok (.getstatic 195, 3) := by decide +kernel
theorem own_d_jdk_33_method_22_code_16 : decode jdk_33_method_22_code 16 = .ok (.iload_n 0, 1) := by decide +kernel
theorem own_d_jdk_33_method_22_code_17 : decode jdk_33_method_22_code 17 = .ok (.sipush 128, 3) := by decide +kernel
theorem own_d_jdk_33_method_22_code_20 : decode jdk_33_method_22_code 20 = .ok (.iadd, 1) := by decide +kernel
theorem own_d_jdk_33_method_22_code_21 : decode jdk_33_method_22_code 21 = .ok (.aaload, 1) := by decide +kernel
theorem own_d_jdk_33_method_22_code_22 : decode jdk_33_method_22_code 22 = .ok (.areturn, 1) := by decide +kernel
theorem own_place (w : Int32) (h1 : ¬ w < -128) (h2 : ¬ (127 : Int32) < w) : ¬ ((w + 128) < 0 ∨ 256 ≤ (w + 128).toNatClampNeg) ∧ (w + 128).toNatClampNeg < 256 := by
  have a1 : -128 ≤ w.toInt := by rw [Int32.lt_iff_toInt_lt] at h1; exact Int.not_lt.mp h1
  have a2 : w.toInt ≤ 127 := by rw [Int32.lt_iff_toInt_lt] at h2; exact Int.not_lt.mp h2
  have e : (w + 128).toInt = w.toInt + 128 := by
    rw [Int32.toInt_add]; show (w.toInt + 128).bmod _ = _; rw [Int.bmod_def]; omega
  have n : ¬ (w + 128) < 0 := by rw [Int32.lt_iff_toInt_lt, e]; show ¬ (w.toInt + 128 < 0); omega
  have k := nat_of n
  refine ⟨fun q => q.elim n (fun q => ?_), ?_⟩ <;> omega
theorem own_placev (w : Int32) (h1 : ¬ w < -128) (h2 : ¬ (127 : Int32) < w) : ((w + 128).toNatClampNeg).toInt32 - 128 = w := by
  have n : ¬ (w + 128) < 0 := fun q => (own_place w h1 h2).1 (Or.inl q)
  rw [(back32 n).1]
  apply Int32.toBitVec_inj.mp
  simp
set_option maxRecDepth 65536 in
set_option maxHeartbeats 40000000 in
theorem own_rmB (l : Launch) (Z : State) (a0 : Array Value) (hw : ∀ d ∈ tables_1, d.before a0 Z = true) (ws : List Jvm.Cond) (m0 : Int32) (w0 : Addr) (cw : Cell) (h0 : Heap) (n0 : Nat) (Z0 : n0 ≤ h0.size) (O0 : Old Z n0 h0) (S1 : Sta Z Z.heap "java/lang/Integer$IntegerCache" "high" "I" (.int (127 : Int32))) (S0 : Sta Z Z.heap "java/lang/Integer$IntegerCache" "cache" "[Ljava/lang/Integer;" (.ref w0)) (A0 : Arr Z Z.heap w0 cw (.object "java/lang/Integer")) (z0 : cw.slots.size = 256) (t0 : ∀ k, k < 256 → ∃ b, cw.slots[k]? = some (.ref b) ∧ Exa Z Z.heap b "java/lang/Integer" ∧ Fld Z Z.heap b "java/lang/Integer" "value" "I" (.int (k.toInt32 - 128))) :
    MetFree l (⟨"java/lang/Integer", "valueOf", "(I)Ljava/lang/Integer;"⟩ : MethodName) (head1 (Jvm.Cond.code (⟨"java/lang/Integer", "valueOf", "(I)Ljava/lang/Integer;"⟩ : MethodName) jdk_33_method_22_code 1 (some (.object "java/lang/Integer")) :: ws) ({ frames := 3, cells := 1, slots := 1, locals := 48 } : Room)) (fun a U => a = #[(.int m0)] ∧ Z.Warmed39 U.vm ∧ U.heap = h0) (fun _ _ _ _ _ => True) (fun _ U o U' => ∃ v L, o = .returned v ∧ own_QB Z m0 h0 n0 v U'.heap L ∧ FrameEnd U o U' L ({ frames := 3, cells := 1, slots := 1, locals := 48 } : Room).cells ({ frames := 3, cells := 1, slots := 1, locals := 48 } : Room).slots) := by
  refine MetFree.of_bodySF (plainFor_of_name own_pn5) hisR ?_
  intro p e s m args below meth c s₁ Bd hml0 hP hK
  obtain ⟨rfl, hZ, hh⟩ := hP
  have hx := Bd.exec
  have hby := Bd.bytes
  have hlk : meth.locks = false := Bd.notSynchronized
  have hml : c.maxLocals = 1 := hml0
  have hown : s.vm.findClass "java/lang/Integer" = some m.cls := findClass_of_methodNamed Bd.named
  have hnm := (name_of_methodNamed Bd.named Bd.method).1
  have X0 : Stand p l e ({ frames := 3, cells := 1, slots := 1, locals := 48 } : Room) s m #[(.int m0)] below meth c s₁ [] 0 0 := Stand.of_body Bd
  have e0 : s₁.heap = h0 := by rw [← hh, Bd.state]; rfl
  have N0 := Fr.nil n0
  show own_E p e below (own_P s (own_QB Z m0 h0 n0) ({ frames := 3, cells := 1, slots := 1, locals := 48 } : Room).cells ({ frames := 3, cells := 1, slots := 1, locals := 48 } : Room).slots) s₁ (entryFrame m #[(.int m0)] 1)
  refine own_cast (own_ef7 m m0) ?_
  show own_E p e below _ s₁ (mkF m 0 #[.val (.int m0)] [])
  refine own_iloadN X0 hx (hb hby own_d_jdk_33_method_22_code_0) rfl ?_
  show own_E p e below _ s₁ (mkF m 1 #[.val (.int m0)] [(.int m0)])
  refine own_bipush X0 hx (hb hby own_d_jdk_33_method_22_code_1) (v := (-128 : Int32)) (by decide) ?_
  show own_E p e below _ s₁ (mkF m 3 #[.val (.int m0)] [(.int (-128 : Int32)), (.int m0)])
  by_cases h1 : m0 < (-128 : Int32)
  · skip
    refine own_icmpYes X0 hx (hb hby own_d_jdk_33_method_22_code_3) (Jvm.Free.XT.ii_lt_t h1) 23 (by decide) (by decide) ?_
    show own_E p e below _ s₁ (mkF m 23 #[.val (.int m0)] [])
    obtain ⟨T8, h8, X8, e8, E8, A8, D8, -, st8⟩ := newO X0 hx hZ hown (hw _ (List.mem_of_getElem? (i := 146) rfl)) (hw _ (List.mem_of_getElem? (i := 157) rfl)) (hw _ (List.mem_of_getElem? (i := 8) rfl)) e0 (g := (mkF m 23 #[.val (.int m0)] [])) rfl (hb hby own_d_jdk_33_method_22_code_23) (by decide) (by decide)
    obtain ⟨a8, g8⟩ : ∃ z, z = h0.size := ⟨_, rfl⟩
    rw [← g8] at A8 D8 st8
    have z8 : h0.size ≤ h8.size := E8.1
    have t8 : a8 < h8.size := A8.lt
    refine own_go st8 ?_
    show own_E p e below _ T8 (mkF m 26 #[.val (.int m0)] [(.ref a8)])
    refine own_dup X8 hx (hb hby own_d_jdk_33_method_22_code_26) rfl ?_
    show own_E p e below _ T8 (mkF m 27 #[.val (.int m0)] [(.ref a8), (.ref a8)])
    refine own_iloadN X8 hx (hb hby own_d_jdk_33_method_22_code_27) rfl ?_
    show own_E p e below _ T8 (mkF m 28 #[.val (.int m0)] [(.int m0), (.ref a8), (.ref a8)])
    obtain ⟨_, _, ⟨T9, L9, k9, n9⟩, -, X9, ⟨Lc9, hQ9, l9, y9, z9⟩, st9⟩ := X8.specialBack hx (y := (⟨"java/lang/Integer", "<init>", "(I)V"⟩ : MethodName)) rfl hown (mvT hZ (hw _ (List.mem_of_getElem? (i := 158) rfl))) (mvT hZ (hw _ (List.mem_of_getElem? (i := 159) rfl))) (mvT hZ (hw _ (List.mem_of_getElem? (i := 160) rfl))) (by decide) (backOf (W := 1) (own_rmJ l Z a0 hw [] a8 m0 h8 n0 (by omega) (D8 (Or.inr (hw _ (List.mem_of_getElem? (i := 149) rfl))) (ty := .int) (by decide)) A8 (by omega)) hZ (hw _ (List.mem_of_getElem? (i := 160) rfl)) (hw _ (List.mem_of_getElem? (i := 8) rfl)) (by decide) (by decide)) (g := (mkF m 28 #[.val (.int m0)] [(.int m0), (.ref a8), (.ref a8)])) rfl (by rw [hml]; rfl) (Steps.refl _) (a := a8) (argsL := [(.int m0)]) (rest := [(.ref a8)]) (lenOf own_pd1 rfl) rfl (by show 2 * 0 + _ ≤ _; exact Nat.le_of_eq rfl) (hb hby own_d_jdk_33_method_22_code_28) (fun _ _ => ⟨rfl, e8, Nat.le_of_ble_eq_true rfl, Nat.le_of_ble_eq_true rfl⟩)
    dsimp only [Pt.U, Pt.locs, Pt.cells, Pt.slots] at X9 l9 y9 z9 st9 hQ9
    subst l9 y9 z9
    obtain ⟨rfl, M9, K9, F9⟩ := hQ9
    have N9 := Fr.app N0 M9
    refine own_go (fun _ k => st9.trans k) ?_
    have z9 : h8.size ≤ T9.heap.size := K9.1
    show own_E p e below _ T9 (mkF m 31 #[.val (.int m0)] [(.ref a8)])
    refine own_retA X9 hx Bd.returns rfl rfl hlk (hb hby own_d_jdk_33_method_22_code_31) (by decide) (by decide) ?_
    exact ⟨_, rfl, N9, (((Keep.refl _ _).ext E8).trans K9 (allS (Or.inr (by omega)) all0)), (A8.keep K9), F9⟩
  · skip
    refine own_icmpNo X0 hx (hb hby own_d_jdk_33_method_22_code_3) (Jvm.Free.XT.ii_lt_f h1) ?_
    show own_E p e below _ s₁ (mkF m 6 #[.val (.int m0)] [])
    refine own_iloadN X0 hx (hb hby own_d_jdk_33_method_22_code_6) rfl ?_
    show own_E p e below _ s₁ (mkF m 7 #[.val (.int m0)] [(.int m0)])
    obtain ⟨T10, X10, e10, st10⟩ := getS2 X0 hx hZ hown (host := "") (Or.inl (hw _ (List.mem_of_getElem? (i := 10) rfl))) Via.refl e0 (S1.ext (O0).2) (g := (mkF m 7 #[.val (.int m0)] [(.int m0)])) rfl (hb hby own_d_jdk_33_method_22_code_7)
    refine own_go st10 ?_
    show own_E p e below _ T10 (mkF m 10 #[.val (.int m0)] [(.int (127 : Int32)), (.int m0)])
    by_cases h2 : (127 : Int32) < m0
    · skip
      refine own_icmpYes X10 hx (hb hby own_d_jdk_33_method_22_code_10) (Jvm.Free.XT.ii_gt_t h2) 23 (by decide) (by decide) ?_
      show own_E p e below _ T10 (mkF m 23 #[.val (.int m0)] [])
      obtain ⟨T11, h11, X11, e11, E11, A11, D11, -, st11⟩ := newO X10 hx hZ hown (hw _ (List.mem_of_getElem? (i := 146) rfl)) (hw _ (List.mem_of_getElem? (i := 157) rfl)) (hw _ (List.mem_of_getElem? (i := 8) rfl)) e10 (g := (mkF m 23 #[.val (.int m0)] [])) rfl (hb hby own_d_jdk_33_method_22_code_23) (by decide) (by decide)
      obtain ⟨a11, g11⟩ : ∃ z, z = h0.size := ⟨_, rfl⟩
      rw [← g11] at A11 D11 st11
      have z11 : h0.size ≤ h11.size := E11.1
      have t11 : a11 < h11.size := A11.lt
      refine own_go st11 ?_
      show own_E p e below _ T11 (mkF m 26 #[.val (.int m0)] [(.ref a11)])
      refine own_dup X11 hx (hb hby own_d_jdk_33_method_22_code_26) rfl ?_
      show own_E p e below _ T11 (mkF m 27 #[.val (.int m0)] [(.ref a11), (.ref a11)])
      refine own_iloadN X11 hx (hb hby own_d_jdk_33_method_22_code_27) rfl ?_
      show own_E p e below _ T11 (mkF m 28 #[.val (.int m0)] [(.int m0), (.ref a11), (.ref a11)])
      obtain ⟨_, _, ⟨T12, L12, k12, n12⟩, -, X12, ⟨Lc12, hQ12, l12, y12, z12⟩, st12⟩ := X11.specialBack hx (y := (⟨"java/lang/Integer", "<init>", "(I)V"⟩ : MethodName)) rfl hown (mvT hZ (hw _ (List.mem_of_getElem? (i := 158) rfl))) (mvT hZ (hw _ (List.mem_of_getElem? (i := 159) rfl))) (mvT hZ (hw _ (List.mem_of_getElem? (i := 160) rfl))) (by decide) (backOf (W := 1) (own_rmJ l Z a0 hw [] a11 m0 h11 n0 (by omega) (D11 (Or.inr (hw _ (List.mem_of_getElem? (i := 149) rfl))) (ty := .int) (by decide)) A11 (by omega)) hZ (hw _ (List.mem_of_getElem? (i := 160) rfl)) (hw _ (List.mem_of_getElem? (i := 8) rfl)) (by decide) (by decide)) (g := (mkF m 28 #[.val (.int m0)] [(.int m0), (.ref a11), (.ref a11)])) rfl (by rw [hml]; rfl) (Steps.refl _) (a := a11) (argsL := [(.int m0)]) (rest := [(.ref a11)]) (lenOf own_pd1 rfl) rfl (by show 2 * 0 + _ ≤ _; exact Nat.le_of_eq rfl) (hb hby own_d_jdk_33_method_22_code_28) (fun _ _ => ⟨rfl, e11, Nat.le_of_ble_eq_true rfl, Nat.le_of_ble_eq_true rfl⟩)
      dsimp only [Pt.U, Pt.locs, Pt.cells, Pt.slots] at X12 l12 y12 z12 st12 hQ12
      subst l12 y12 z12
      obtain ⟨rfl, M12, K12, F12⟩ := hQ12
      have N12 := Fr.app N0 M12
      refine own_go (fun _ k => st12.trans k) ?_
      have z12 : h11.size ≤ T12.heap.size := K12.1
      show own_E p e below _ T12 (mkF m 31 #[.val (.int m0)] [(.ref a11)])
      refine own_retA X12 hx Bd.returns rfl rfl hlk (hb hby own_d_jdk_33_method_22_code_31) (by decide) (by decide) ?_
      exact ⟨_, rfl, N12, (((Keep.refl _ _).ext E11).trans K12 (allS (Or.inr (by omega)) all0)), (A11.keep K12), F12⟩
    · skip
      refine own_icmpNo X10 hx (hb hby own_d_jdk_33_method_22_code_10) (Jvm.Free.XT.ii_gt_f h2) ?_
      show own_E p e below _ T10 (mkF m 13 #[.val (.int m0)] [])
      obtain ⟨T13, X13, e13, st13⟩ := getS2 X10 hx hZ hown (host := "") (Or.inl (hw _ (List.mem_of_getElem? (i := 12) rfl))) Via.refl e10 (S0.ext (O0).2) (g := (mkF m 13 #[.val (.int m0)] [])) rfl (hb hby own_d_jdk_33_method_22_code_13)
      refine own_go st13 ?_
      show own_E p e below _ T13 (mkF m 16 #[.val (.int m0)] [(.ref w0)])
      refine own_iloadN X13 hx (hb hby own_d_jdk_33_method_22_code_16) rfl ?_
      show own_E p e below _ T13 (mkF m 17 #[.val (.int m0)] [(.int m0), (.ref w0)])
      refine own_sipush X13 hx (hb hby own_d_jdk_33_method_22_code_17) (v := (128 : Int32)) (by decide) ?_
      show own_E p e below _ T13 (mkF m 20 #[.val (.int m0)] [(.int (128 : Int32)), (.int m0), (.ref w0)])
      refine own_iadd X13 hx (hb hby own_d_jdk_33_method_22_code_20) (z := (m0 + (128 : Int32))) rfl ?_
      show own_E p e below _ T13 (mkF m 21 #[.val (.int m0)] [(.int (m0 + (128 : Int32))), (.ref w0)])
      obtain ⟨ok1, ok2⟩ := own_place m0 h1 h2
      obtain ⟨b, k1, k2, k3⟩ := t0 _ ok2
      rw [own_placev m0 h1 h2] at k3
      refine own_aaload X13 hx hZ e13 (A0.ext O0.2) rfl (v := .ref b) (by rw [z0]; exact ok1) k1 (hb hby own_d_jdk_33_method_22_code_21) ?_
      show own_E p e below _ T13 (mkF m 22 #[.val (.int m0)] [(.ref b)])
      refine own_retA X13 hx Bd.returns rfl rfl hlk (hb hby own_d_jdk_33_method_22_code_22) (by decide) (by decide) ?_
      rw [e13]
      exact ⟨_, rfl, N0, Keep.refl _ _, k2.ext O0.2, k3.ext O0.2⟩

theorem own_pn6 : plainName "java/util/Objects" = true := by first | (simp [plainName, overriddenIn]; done) | decide +kernel
theorem own_ef8 (m : MethodId) (x0 : Addr) : entryFrame m #[(.ref x0)] 1 = mkF m 0 #[.val (.ref x0)] [] := by first | (simp [entryFrame, mkF, argsToLocals, Value.category]; done) | rfl
theorem own_d_jdk_31_method_10_code_0 : decode jdk_31_method_10_code 0 = .ok (.aload_n 0, 1) := by decide +kernel
theorem own_d_jdk_31_method_10_code_1 : decode jdk_31_method_10_code 1 = .ok (.ifnonnull 11, 3) := by decide +kernel
theorem own_d_jdk_31_method_10_code_12 : decode jdk_31_method_10_code 12 = .ok (.aload_n 0, 1) := by decide +kernel
theorem own_d_jdk_31_method_10_code_13 : decode jdk_31_method_10_code 13 = .ok (.areturn, 1) := by decide +kernel
set_option maxRecDepth 65536 in
set_option maxHeartbeats 40000000 in
theorem own_rmRN (l : Launch) (Z : State) (a0 : Array Value) (hw : ∀ d ∈ tables_1, d.before a0 Z = true) (ws : List Jvm.Cond) (a1 : Addr) (h0 : Heap) (n0 : Nat) (Z0 : n0 ≤ h0.size)  :
    MetFree l (⟨"java/util/Objects", "requireNonNull", "(Ljava/lang/Object;)Ljava/lang/Object;"⟩ : MethodName) (head1 (Jvm.Cond.code (⟨"java/util/Objects", "requireNonNull", "(Ljava/lang/Object;)Ljava/lang/Object;"⟩ : MethodName) jdk_31_method_10_code 1 (some (.object "java/lang/Object")) :: ws) ({ frames := 0, cells := 0, slots := 0, locals := 0 } : Room)) (fun a U => a = #[(.ref a1)] ∧ Z.Warmed39 U.vm ∧ U.heap = h0) (fun _ _ _ _ _ => True) (fun _ U o U' => ∃ v L, o = .returned v ∧ own_Q (.ref a1) h0 n0 v U'.heap L ∧ FrameEnd U o U' L ({ frames := 0, cells := 0, slots := 0, locals := 0 } : Room).cells ({ frames := 0, cells := 0, slots := 0, locals := 0 } : Room).slots) := by
  refine MetFree.of_bodySF (plainFor_of_name own_pn6) hisR ?_
  intro p e s m args below meth c s₁ Bd hml0 hP hK
  obtain ⟨rfl, hZ, hh⟩ := hP
  have hx := Bd.exec
  have hby := Bd.bytes
  have hlk : meth.locks = false := Bd.notSynchronized
  have hml : c.maxLocals = 1 := hml0
  have hown : s.vm.findClass "java/util/Objects" = some m.cls := findClass_of_methodNamed Bd.named
  have hnm := (name_of_methodNamed Bd.named Bd.method).1
  have X0 : Stand p l e ({ frames := 0, cells := 0, slots := 0, locals := 0 } : Room) s m #[(.ref a1)] below meth c s₁ [] 0 0 := Stand.of_body Bd
  have e0 : s₁.heap = h0 := by rw [← hh, Bd.state]; rfl
  have N0 := Fr.nil n0
  show own_E p e below (own_P s (own_Q (.ref a1) h0 n0) ({ frames := 0, cells := 0, slots := 0, locals := 0 } : Room).cells ({ frames := 0, cells := 0, slots := 0, locals := 0 } : Room).slots) s₁ (entryFrame m #[(.ref a1)] 1)
  refine own_cast (own_ef8 m a1) ?_
  show own_E p e below _ s₁ (mkF m 0 #[.val (.ref a1)] [])
  refine own_aloadN X0 hx (hb hby own_d_jdk_31_method_10_code_0) rfl rfl ?_
  show own_E p e below _ s₁ (mkF m 1 #[.val (.ref a1)] [(.ref a1)])
  refine own_nonnullYes X0 hx (hb hby own_d_jdk_31_method_10_code_1) 12 (by decide) (by decide) ?_
  show own_E p e below _ s₁ (mkF m 12 #[.val (.ref a1)] [])
  refine own_aloadN X0 hx (hb hby own_d_jdk_31_method_10_code_12) rfl rfl ?_
  show own_E p e below _ s₁ (mkF m 13 #[.val (.ref a1)] [(.ref a1)])
  refine own_retA X0 hx Bd.returns rfl rfl hlk (hb hby own_d_jdk_31_method_10_code_13) (by decide) (by decide) ?_
  rw [e0]
  exact ⟨rfl, N0, rfl⟩

def own_rmS12Q (Z : State) (a1 b0 we : Addr) (h0 : Heap) (n0 : Nat) (v : Option Value) (h : Heap) (L : List Loc) : Prop := v = none ∧ Fr n0 L ∧ Keep h0 h [a1] ∧ Fld Z h a1 "java/util/ImmutableCollections$Set12" "e0" "Ljava/lang/Object;" (.ref b0) ∧ Fld Z h a1 "java/util/ImmutableCollections$Set12" "e1" "Ljava/lang/Object;" (.ref we)
theorem own_pn7 : plainName "java/util/ImmutableCollections$Set12" = true := by first | (simp [plainName, overriddenIn]; done) | decide +kernel
theorem own_ef9 (m : MethodId) (x0 : Addr) (x1 : Addr) : entryFrame m #[(.ref x0), (.ref x1)] 2 = mkF m 0 #[.val (.ref x0), .val (.ref x1)] [] := by first | (simp [entryFrame, mkF, argsToLocals, Value.category]; done) | rfl
theorem own_d_jdk_101_method_1_code_0 : decode jdk_101_method_1_code 0 = .ok (.aload_n 0, 1) := by decide +kernel
theorem own_d_jdk_101_method_1_code_1 : decode jdk_101_method_1_code 1 = .ok (.invokespecial 1, 3) := by decide +kernel
theorem own_d_jdk_101_method_1_code_4 : decode jdk_101_method_1_code 4 = .ok (.aload_n 0, 1) := by decide +kernel
theorem own_d_jdk_101_method_1_code_5 : decode jdk_101_method_1_code 5 = .ok (.aload_n 1, 1) := by decide +kernel
theorem own_pd2 : parseMethodDescriptor "(Ljava/lang/Object;)Ljava/lang/Object;" = some ⟨[(.object "java/lang/Object")], some (.object "java/lang/Object")⟩ := by decide +kernel
theorem own_d_jdk_101_method_1_code_6 : decode jdk_101_method_1_code 6 = .ok (.invokestatic 7, 3) := by decide +kernel
theorem own_d_jdk_101_method_1_code_9 : decode jdk_101_method_1_code 9 = .ok (.putfield 13, 3) := by decide +kernel
theorem own_d_jdk_101_method_1_code_12 : decode jdk_101_method_1_code 12 = .ok (.aload_n 0, 1) := by decide +kernel
theorem own_d_jdk_101_method_1_code_13 : decode jdk_101_method_1_code 13 = .ok (.getstatic 19, 3) := by decide +kernel
theorem own_d_jdk_101_method_1_code_16 : decode jdk_101_method_1_code 16 = .ok (.putfield 24, 3) := by decide +kernel
theorem own_d_jdk_101_method_1_code_19 : decode jdk_101_method_1_code 19 = .ok (.return_, 1) := by decide +kernel
set_option maxRecDepth 65536 in
set_option maxHeartbeats 40000000 in
theorem own_rmS12 (l : Launch) (Z : State) (a0 : Array Value) (hw : ∀ d ∈ tables_1, d.before a0 Z = true) (ws : List Jvm.Cond) (a1 b0 we : Addr) (h0 : Heap) (n0 : Nat) (Z0 : n0 ≤ h0.size) (O0 : Old Z n0 h0) (S0 : Sta Z Z.heap "java/util/ImmutableCollections" "EMPTY" "Ljava/lang/Object;" (.ref we)) (F0 : Fld Z h0 a1 "java/util/ImmutableCollections$Set12" "e0" "Ljava/lang/Object;" .null) (F1 : Fld Z h0 a1 "java/util/ImmutableCollections$Set12" "e1" "Ljava/lang/Object;" .null) (A0 : Exa Z h0 a1 "java/util/ImmutableCollections$Set12") (g0 : n0 ≤ a1) :
    MetFree l (⟨"java/util/ImmutableCollections$Set12", "<init>", "(Ljava/lang/Object;)V"⟩ : MethodName) (head1 (Jvm.Cond.code (⟨"java/util/ImmutableCollections$Set12", "<init>", "(Ljava/lang/Object;)V"⟩ : MethodName) jdk_101_method_1_code 2 none :: ws) ({ frames := 4, cells := 0, slots := 0, locals := 48 } : Room)) (fun a U => a = #[(.ref a1), (.ref b0)] ∧ Z.Warmed39 U.vm ∧ U.heap = h0) (fun _ _ _ _ _ => True) (fun _ U o U' => ∃ v L, o = .returned v ∧ own_rmS12Q Z a1 b0 we h0 n0 v U'.heap L ∧ FrameEnd U o U' L ({ frames := 4, cells := 0, slots := 0, locals := 48 } : Room).cells ({ frames := 4, cells := 0, slots := 0, locals := 48 } : Room).slots) := by
  refine MetFree.of_bodySF (plainFor_of_name own_pn7) hisR ?_
  intro p e s m args below meth c s₁ Bd hml0 hP hK
  obtain ⟨rfl, hZ, hh⟩ := hP
  have hx := Bd.exec
  have hby := Bd.bytes
  have hlk : meth.locks = false := Bd.notSynchronized
  have hml : c.maxLocals = 2 := hml0
  have hown : s.vm.findClass "java/util/ImmutableCollections$Set12" = some m.cls := findClass_of_methodNamed Bd.named
  have hnm := (name_of_methodNamed Bd.named Bd.method).1
  have X0 : Stand p l e ({ frames := 4, cells := 0, slots := 0, locals := 48 } : Room) s m #[(.ref a1), (.ref b0)] below meth c s₁ [] 0 0 := Stand.of_body Bd
  have e0 : s₁.heap = h0 := by rw [← hh, Bd.state]; rfl
  have N0 := Fr.nil n0
  show own_E p e below (own_P s (own_rmS12Q Z a1 b0 we h0 n0) ({ frames := 4, cells := 0, slots := 0, locals := 48 } : Room).cells ({ frames := 4, cells := 0, slots := 0, locals := 48 } : Room).slots) s₁ (entryFrame m #[(.ref a1), (.ref b0)] 2)
  refine own_cast (own_ef9 m a1 b0) ?_
  show own_E p e below _ s₁ (mkF m 0 #[.val (.ref a1), .val (.ref b0)] [])
  refine own_aloadN X0 hx (hb hby own_d_jdk_101_method_1_code_0) rfl rfl ?_
  show own_E p e below _ s₁ (mkF m 1 #[.val (.ref a1), .val (.ref b0)] [(.ref a1)])
  obtain ⟨_, _, ⟨T14, L14, k14, n14⟩, -, X14, ⟨Lc14, hQ14, l14, y14, z14⟩, st14⟩ := X0.specialBack hx (y := (⟨"java/util/ImmutableCollections$AbstractImmutableSet", "<init>", "()V"⟩ : MethodName)) rfl hown (mvT hZ (hw _ (List.mem_of_getElem? (i := 24) rfl))) (mvT hZ (hw _ (List.mem_of_getElem? (i := 25) rfl))) (mvT hZ (hw _ (List.mem_of_getElem? (i := 29) rfl))) (by decide) (backOf (W := 0) (own_rmAIS l Z a0 hw [] a1 h0 n0 Z0) hZ (hw _ (List.mem_of_getElem? (i := 29) rfl)) (hw _ (List.mem_of_getElem? (i := 28) rfl)) (by decide) (by decide)) (g := (mkF m 1 #[.val (.ref a1), .val (.ref b0)] [(.ref a1)])) rfl (by rw [hml]; rfl) (Steps.refl _) (a := a1) (argsL := []) (rest := []) (lenOf own_pd0 rfl) rfl (by show 2 * 0 + _ ≤ _; exact Nat.le_of_eq rfl) (hb hby own_d_jdk_101_method_1_code_1) (fun _ _ => ⟨rfl, e0, Nat.le_of_ble_eq_true rfl, Nat.le_of_ble_eq_true rfl⟩)
  dsimp only [Pt.U, Pt.locs, Pt.cells, Pt.slots] at X14 l14 y14 z14 st14 hQ14
  subst l14 y14 z14
  obtain ⟨rfl, M14, e14⟩ := hQ14
  have N14 := Fr.app N0 M14
  refine own_go (fun _ k => st14.trans k) ?_
  show own_E p e below _ T14 (mkF m 4 #[.val (.ref a1), .val (.ref b0)] [])
  refine own_aloadN X14 hx (hb hby own_d_jdk_101_method_1_code_4) rfl rfl ?_
  show own_E p e below _ T14 (mkF m 5 #[.val (.ref a1), .val (.ref b0)] [(.ref a1)])
  refine own_aloadN X14 hx (hb hby own_d_jdk_101_method_1_code_5) rfl rfl ?_
  show own_E p e below _ T14 (mkF m 6 #[.val (.ref a1), .val (.ref b0)] [(.ref b0), (.ref a1)])
  obtain ⟨_, _, ⟨T15, L15, k15, n15⟩, -, X15, ⟨Lc15, hQ15, l15, y15, z15⟩, st15⟩ := Jvm.LawKit.callS X14 hx (y := (⟨"java/util/Objects", "requireNonNull", "(Ljava/lang/Object;)Ljava/lang/Object;"⟩ : MethodName)) hown (mvT hZ (hw _ (List.mem_of_getElem? (i := 45) rfl))) (mvT hZ (hw _ (List.mem_of_getElem? (i := 46) rfl))) (mvT hZ (hw _ (List.mem_of_getElem? (i := 47) rfl))) (mvT hZ (hw _ (List.mem_of_getElem? (i := 48) rfl))) (by decide) (backOf (W := 1) (own_rmRN l Z a0 hw [] b0 h0 n0 Z0) hZ (hw _ (List.mem_of_getElem? (i := 48) rfl)) (hw _ (List.mem_of_getElem? (i := 47) rfl)) (by decide) (by decide)) (g := (mkF m 6 #[.val (.ref a1), .val (.ref b0)] [(.ref b0), (.ref a1)])) rfl (by rw [hml]; rfl) (argsL := [(.ref b0)]) (rest := [(.ref a1)]) (lenOf own_pd2 rfl) rfl (by show 2 * 0 + _ ≤ _; exact Nat.le_of_eq rfl) (hb hby own_d_jdk_101_method_1_code_6) (fun _ _ => ⟨rfl, e14, Nat.le_of_ble_eq_true rfl, Nat.le_of_ble_eq_true rfl⟩)
  dsimp only [Pt.U, Pt.locs, Pt.cells, Pt.slots] at X15 l15 y15 z15 st15 hQ15
  subst l15 y15 z15
  obtain ⟨rfl, M15, e15⟩ := hQ15
  have N15 := Fr.app N14 M15
  refine own_go st15 ?_
  show own_E p e below _ T15 (mkF m 9 #[.val (.ref a1), .val (.ref b0)] [(.ref b0), (.ref a1)])
  obtain ⟨T16, h16, X16, e16, W16, st16⟩ := putF X15 hx hZ hown (host := "") (Or.inl (hw _ (List.mem_of_getElem? (i := 49) rfl))) Via.refl e15 F0 A0 (Or.inr ⟨(hw _ (List.mem_of_getElem? (i := 50) rfl)), rfl, hnm⟩) (hw _ (List.mem_of_getElem? (i := 18) rfl)) (ty := (.object "java/lang/Object")) (by decide) rfl rfl (g := (mkF m 9 #[.val (.ref a1), .val (.ref b0)] [(.ref b0), (.ref a1)])) rfl rfl (hb hby own_d_jdk_101_method_1_code_9)
  refine own_go st16 ?_
  have N16 := Fr.snoc X16 N15 (by omega)
  have z16 : h0.size ≤ h16.size := Nat.le_of_eq W16.size.symm
  have F16 : Fld Z h16 a1 "java/util/ImmutableCollections$Set12" "e0" "Ljava/lang/Object;" (.ref b0) := Fld.same W16 F0
  show own_E p e below _ T16 (mkF m 12 #[.val (.ref a1), .val (.ref b0)] [])
  refine own_aloadN X16 hx (hb hby own_d_jdk_101_method_1_code_12) rfl rfl ?_
  show own_E p e below _ T16 (mkF m 13 #[.val (.ref a1), .val (.ref b0)] [(.ref a1)])
  obtain ⟨T17, X17, e17, st17⟩ := getS2 X16 hx hZ hown (Or.inr (hw _ (List.mem_of_getElem? (i := 51) rfl))) Via.refl e16 (S0.ext ((O0.wr W16 (by omega))).2) (g := (mkF m 13 #[.val (.ref a1), .val (.ref b0)] [(.ref a1)])) rfl (hb hby own_d_jdk_101_method_1_code_13)
  refine own_go st17 ?_
  show own_E p e below _ T17 (mkF m 16 #[.val (.ref a1), .val (.ref b0)] [(.ref we), (.ref a1)])
  obtain ⟨T18, h18, X18, e18, W18, st18⟩ := putF X17 hx hZ hown (host := "") (Or.inl (hw _ (List.mem_of_getElem? (i := 53) rfl))) Via.refl e17 (F1.other W16 (Or.inr (slot_ne (Or.inr (hw _ (List.mem_of_getElem? (i := 54) rfl))) (Or.inr (hw _ (List.mem_of_getElem? (i := 50) rfl))) (by decide) (t := (.object "java/lang/Object")) (t' := (.object "java/lang/Object")) (by decide) (by decide)))) (A0.wr W16) (Or.inr ⟨(hw _ (List.mem_of_getElem? (i := 54) rfl)), rfl, hnm⟩) (hw _ (List.mem_of_getElem? (i := 18) rfl)) (ty := (.object "java/lang/Object")) (by decide) rfl rfl (g := (mkF m 16 #[.val (.ref a1), .val (.ref b0)] [(.ref we), (.ref a1)])) rfl rfl (hb hby own_d_jdk_101_method_1_code_16)
  refine own_go st18 ?_
  have N18 := Fr.snoc X18 N16 (by omega)
  have z18 : h16.size ≤ h18.size := Nat.le_of_eq W18.size.symm
  have F18 : Fld Z h18 a1 "java/util/ImmutableCollections$Set12" "e1" "Ljava/lang/Object;" (.ref we) := Fld.same W18 (F1.other W16 (Or.inr (slot_ne (Or.inr (hw _ (List.mem_of_getElem? (i := 54) rfl))) (Or.inr (hw _ (List.mem_of_getElem? (i := 50) rfl))) (by decide) (t := (.object "java/lang/Object")) (t' := (.object "java/lang/Object")) (by decide) (by decide))))
  show own_E p e below _ T18 (mkF m 19 #[.val (.ref a1), .val (.ref b0)] [])
  refine own_retV X18 hx Bd.returns hlk (hb hby own_d_jdk_101_method_1_code_19) (by decide) (by decide) ?_
  rw [e18]
  exact ⟨rfl, N18, (((Keep.refl _ _).wr W16 (Or.inl (List.mem_of_getElem? (i := 0) rfl))).wr W18 (Or.inl (List.mem_of_getElem? (i := 0) rfl))), (F16.other W18 (Or.inr (slot_ne (Or.inr (hw _ (List.mem_of_getElem? (i := 50) rfl))) (Or.inr (hw _ (List.mem_of_getElem? (i := 54) rfl))) (by decide) (t := (.object "java/lang/Object")) (t' := (.object "java/lang/Object")) (by decide) (by decide)))), F18⟩

def own_rmSOQ (Z : State) (b0 we : Addr) (h0 : Heap) (n0 : Nat) (v : Option Value) (h : Heap) (L : List Loc) : Prop := ∃ a, v = some (.ref a) ∧ Fr n0 L ∧ Keep h0 h [] ∧ Exa Z h a "java/util/ImmutableCollections$Set12" ∧ Fld Z h a "java/util/ImmutableCollections$Set12" "e0" "Ljava/lang/Object;" (.ref b0) ∧ Fld Z h a "java/util/ImmutableCollections$Set12" "e1" "Ljava/lang/Object;" (.ref we)
theorem own_pn8 : plainName "java/util/Set" = true := by first | (simp [plainName, overriddenIn]; done) | decide +kernel
theorem own_ef10 (m : MethodId) (x0 : Addr) : entryFrame m #[(.ref x0)] 1 = mkF m 0 #[.val (.ref x0)] [] := by first | (simp [entryFrame, mkF, argsToLocals, Value.category]; done) | rfl
theorem own_d_jdk_96_method_18_code_0 : decode jdk_96_method_18_code 0 = .ok (.new 15, 3) := by decide +kernel
theorem own_d_jdk_96_method_18_code_3 : decode jdk_96_method_18_code 3 = .ok (.dup, 1) := by decide +kernel
theorem own_d_jdk_96_method_18_code_4 : decode jdk_96_method_18_code 4 = .ok (.aload_n 0, 1) := by decide +kernel
theorem own_pd3 : parseMethodDescriptor "(Ljava/lang/Object;)V" = some ⟨[(.object "java/lang/Object")], none⟩ := by decide +kernel
theorem own_d_jdk_96_method_18_code_5 : decode jdk_96_method_18_code 5 = .ok (.invokespecial 17, 3) := by decide +kernel
theorem own_d_jdk_96_method_18_code_8 : decode jdk_96_method_18_code 8 = .ok (.areturn, 1) := by decide +kernel
set_option maxRecDepth 65536 in
set_option maxHeartbeats 40000000 in
theorem own_rmSO (l : Launch) (Z : State) (a0 : Array Value) (hw : ∀ d ∈ tables_1, d.before a0 Z = true) (ws : List Jvm.Cond) (b0 we : Addr) (h0 : Heap) (n0 : Nat) (Z0 : n0 ≤ h0.size) (O0 : Old Z n0 h0) (S0 : Sta Z Z.heap "java/util/ImmutableCollections" "EMPTY" "Ljava/lang/Object;" (.ref we)) :
    MetFree l (⟨"java/util/Set", "of", "(Ljava/lang/Object;)Ljava/util/Set;"⟩ : MethodName) (head1 (Jvm.Cond.code (⟨"java/util/Set", "of", "(Ljava/lang/Object;)Ljava/util/Set;"⟩ : MethodName) jdk_96_method_18_code 1 (some (.object "java/util/Set")) :: ws) ({ frames := 5, cells := 1, slots := 2, locals := 64 } : Room)) (fun a U => a = #[(.ref b0)] ∧ Z.Warmed39 U.vm ∧ U.heap = h0) (fun _ _ _ _ _ => True) (fun _ U o U' => ∃ v L, o = .returned v ∧ own_rmSOQ Z b0 we h0 n0 v U'.heap L ∧ FrameEnd U o U' L ({ frames := 5, cells := 1, slots := 2, locals := 64 } : Room).cells ({ frames := 5, cells := 1, slots := 2, locals := 64 } : Room).slots) := by
  refine MetFree.of_bodySF (plainFor_of_name own_pn8) hisR ?_
  intro p e s m args below meth c s₁ Bd hml0 hP hK
  obtain ⟨rfl, hZ, hh⟩ := hP
  have hx := Bd.exec
  have hby := Bd.bytes
  have hlk : meth.locks = false := Bd.notSynchronized
  have hml : c.maxLocals = 1 := hml0
  have hown : s.vm.findClass "java/util/Set" = some m.cls := findClass_of_methodNamed Bd.named
  have hnm := (name_of_methodNamed Bd.named Bd.method).1
  have X0 : Stand p l e ({ frames := 5, cells := 1, slots := 2, locals := 64 } : Room) s m #[(.ref b0)] below meth c s₁ [] 0 0 := Stand.of_body Bd
  have e0 : s₁.heap = h0 := by rw [← hh, Bd.state]; rfl
  have N0 := Fr.nil n0
  show own_E p e below (own_P s (own_rmSOQ Z b0 we h0 n0) ({ frames := 5, cells := 1, slots := 2, locals := 64 } : Room).cells ({ frames := 5, cells := 1, slots := 2, locals := 64 } : Room).slots) s₁ (entryFrame m #[(.ref b0)] 1)
  refine own_cast (own_ef10 m b0) ?_
  show own_E p e below _ s₁ (mkF m 0 #[.val (.ref b0)] [])
  obtain ⟨T19, h19, X19, e19, E19, A19, D19, -, st19⟩ := newO X0 hx hZ hown (hw _ (List.mem_of_getElem? (i := 17) rfl)) (hw _ (List.mem_of_getElem? (i := 18) rfl)) (hw _ (List.mem_of_getElem? (i := 19) rfl)) e0 (g := (mkF m 0 #[.val (.ref b0)] [])) rfl (hb hby own_d_jdk_96_method_18_code_0) (by decide) (by decide)
  obtain ⟨a19, g19⟩ : ∃ z, z = h0.size := ⟨_, rfl⟩
  rw [← g19] at A19 D19 st19
  have z19 : h0.size ≤ h19.size := E19.1
  have t19 : a19 < h19.size := A19.lt
  refine own_go st19 ?_
  show own_E p e below _ T19 (mkF m 3 #[.val (.ref b0)] [(.ref a19)])
  refine own_dup X19 hx (hb hby own_d_jdk_96_method_18_code_3) rfl ?_
  show own_E p e below _ T19 (mkF m 4 #[.val (.ref b0)] [(.ref a19), (.ref a19)])
  refine own_aloadN X19 hx (hb hby own_d_jdk_96_method_18_code_4) rfl rfl ?_
  show own_E p e below _ T19 (mkF m 5 #[.val (.ref b0)] [(.ref b0), (.ref a19), (.ref a19)])
  obtain ⟨_, _, ⟨T20, L20, k20, n20⟩, -, X20, ⟨Lc20, hQ20, l20, y20, z20⟩, st20⟩ := X19.specialBack hx (y := (⟨"java/util/ImmutableCollections$Set12", "<init>", "(Ljava/lang/Object;)V"⟩ : MethodName)) rfl hown (mvT hZ (hw _ (List.mem_of_getElem? (i := 20) rfl))) (mvT hZ (hw _ (List.mem_of_getElem? (i := 21) rfl))) (mvT hZ (hw _ (List.mem_of_getElem? (i := 23) rfl))) (by decide) (backOf (W := 1) (own_rmS12 l Z a0 hw [] a19 b0 we h19 n0 (by omega) (O0.ext E19) S0 (D19 (Or.inr (hw _ (List.mem_of_getElem? (i := 50) rfl))) (ty := (.object "java/lang/Object")) (by decide)) (D19 (Or.inr (hw _ (List.mem_of_getElem? (i := 54) rfl))) (ty := (.object "java/lang/Object")) (by decide)) A19 (by omega)) hZ (hw _ (List.mem_of_getElem? (i := 23) rfl)) (hw _ (List.mem_of_getElem? (i := 19) rfl)) (by decide) (by decide)) (g := (mkF m 5 #[.val (.ref b0)] [(.ref b0), (.ref a19), (.ref a19)])) rfl (by rw [hml]; rfl) (Steps.refl _) (a := a19) (argsL := [(.ref b0)]) (rest := [(.ref a19)]) (lenOf own_pd3 rfl) rfl (by show 2 * 0 + _ ≤ _; exact Nat.le_of_eq rfl) (hb hby own_d_jdk_96_method_18_code_5) (fun _ _ => ⟨rfl, e19, Nat.le_of_ble_eq_true rfl, Nat.le_of_ble_eq_true rfl⟩)
  dsimp only [Pt.U, Pt.locs, Pt.cells, Pt.slots] at X20 l20 y20 z20 st20 hQ20
  subst l20 y20 z20
  obtain ⟨rfl, M20, K20, F20, G20⟩ := hQ20
  have N20 := Fr.app N0 M20
  refine own_go (fun _ k => st20.trans k) ?_
  have z20 : h19.size ≤ T20.heap.size := K20.1
  show own_E p e below _ T20 (mkF m 8 #[.val (.ref b0)] [(.ref a19)])
  refine own_retA X20 hx Bd.returns rfl rfl hlk (hb hby own_d_jdk_96_method_18_code_8) (by decide) (by decide) ?_
  exact ⟨_, rfl, N20, (((Keep.refl _ _).ext E19).trans K20 (allS (Or.inr (by omega)) all0)), (A19.keep K20), F20, G20⟩

def own_rmL12Q (Z : State) (a1 b0 we : Addr) (h0 : Heap) (n0 : Nat) (v : Option Value) (h : Heap) (L : List Loc) : Prop := v = none ∧ Fr n0 L ∧ Keep h0 h [a1] ∧ Fld Z h a1 "java/util/ImmutableCollections$List12" "e0" "Ljava/lang/Object;" (.ref b0) ∧ Fld Z h a1 "java/util/ImmutableCollections$List12" "e1" "Ljava/lang/Object;" (.ref we)
theorem own_pn9 : plainName "java/util/ImmutableCollections$List12" = true := by first | (simp [plainName, overriddenIn]; done) | decide +kernel
theorem own_ef11 (m : MethodId) (x0 : Addr) (x1 : Addr) : entryFrame m #[(.ref x0), (.ref x1)] 2 = mkF m 0 #[.val (.ref x0), .val (.ref x1)] [] := by first | (simp [entryFrame, mkF, argsToLocals, Value.category]; done) | rfl
theorem own_d_jdk_44_method_1_code_0 : decode jdk_44_method_1_code 0 = .ok (.aload_n 0, 1) := by decide +kernel
theorem own_d_jdk_44_method_1_code_1 : decode jdk_44_method_1_code 1 = .ok (.invokespecial 1, 3) := by decide +kernel
theorem own_d_jdk_44_method_1_code_4 : decode jdk_44_method_1_code 4 = .ok (.aload_n 0, 1) := by decide +kernel
theorem own_d_jdk_44_method_1_code_5 : decode jdk_44_method_1_code 5 = .ok (.aload_n 1, 1) := by decide +kernel
theorem own_d_jdk_44_method_1_code_6 : decode jdk_44_method_1_code 6 = .ok (.invokestatic 7, 3) := by decide +kernel
theorem own_d_jdk_44_method_1_code_9 : decode jdk_44_method_1_code 9 = .ok (.putfield 13, 3) := by decide +kernel
theorem own_d_jdk_44_method_1_code_12 : decode jdk_44_method_1_code 12 = .ok (.aload_n 0, 1) := by decide +kernel
theorem own_d_jdk_44_method_1_code_13 : decode jdk_44_method_1_code 13 = .ok (.getstatic 19, 3) := by decide +kernel
theorem own_d_jdk_44_method_1_code_16 : decode jdk_44_method_1_code 16 = .ok (.putfield 24, 3) := by decide +kernel
theorem own_d_jdk_44_method_1_code_19 : decode jdk_44_method_1_code 19 = .ok (.return_, 1) := by decide +kernel
set_option maxRecDepth 65536 in
set_option maxHeartbeats 40000000 in
theorem own_rmL12 (l : Launch) (Z : State) (a0 : Array Value) (hw : ∀ d ∈ tables_1, d.before a0 Z = true) (ws : List Jvm.Cond) (a1 b0 we : Addr) (h0 : Heap) (n0 : Nat) (Z0 : n0 ≤ h0.size) (O0 : Old Z n0 h0) (S0 : Sta Z Z.heap "java/util/ImmutableCollections" "EMPTY" "Ljava/lang/Object;" (.ref we)) (F0 : Fld Z h0 a1 "java/util/ImmutableCollections$List12" "e0" "Ljava/lang/Object;" .null) (F1 : Fld Z h0 a1 "java/util/ImmutableCollections$List12" "e1" "Ljava/lang/Object;" .null) (A0 : Exa Z h0 a1 "java/util/ImmutableCollections$List12") (g0 : n0 ≤ a1) :
    MetFree l (⟨"java/util/ImmutableCollections$List12", "<init>", "(Ljava/lang/Object;)V"⟩ : MethodName) (head1 (Jvm.Cond.code (⟨"java/util/ImmutableCollections$List12", "<init>", "(Ljava/lang/Object;)V"⟩ : MethodName) jdk_44_method_1_code 2 none :: ws) ({ frames := 4, cells := 0, slots := 0, locals := 48 } : Room)) (fun a U => a = #[(.ref a1), (.ref b0)] ∧ Z.Warmed39 U.vm ∧ U.heap = h0) (fun _ _ _ _ _ => True) (fun _ U o U' => ∃ v L, o = .returned v ∧ own_rmL12Q Z a1 b0 we h0 n0 v U'.heap L ∧ FrameEnd U o U' L ({ frames := 4, cells := 0, slots := 0, locals := 48 } : Room).cells ({ frames := 4, cells := 0, slots := 0, locals := 48 } : Room).slots) := by
  refine MetFree.of_bodySF (plainFor_of_name own_pn9) hisR ?_
  intro p e s m args below meth c s₁ Bd hml0 hP hK
  obtain ⟨rfl, hZ, hh⟩ := hP
  have hx := Bd.exec
  have hby := Bd.bytes
  have hlk : meth.locks = false := Bd.notSynchronized
  have hml : c.maxLocals = 2 := hml0
  have hown : s.vm.findClass "java/util/ImmutableCollections$List12" = some m.cls := findClass_of_methodNamed Bd.named
  have hnm := (name_of_methodNamed Bd.named Bd.method).1
  have X0 : Stand p l e ({ frames := 4, cells := 0, slots := 0, locals := 48 } : Room) s m #[(.ref a1), (.ref b0)] below meth c s₁ [] 0 0 := Stand.of_body Bd
  have e0 : s₁.heap = h0 := by rw [← hh, Bd.state]; rfl
  have N0 := Fr.nil n0
  show own_E p e below (own_P s (own_rmL12Q Z a1 b0 we h0 n0) ({ frames := 4, cells := 0, slots := 0, locals := 48 } : Room).cells ({ frames := 4, cells := 0, slots := 0, locals := 48 } : Room).slots) s₁ (entryFrame m #[(.ref a1), (.ref b0)] 2)
  refine own_cast (own_ef11 m a1 b0) ?_
  show own_E p e below _ s₁ (mkF m 0 #[.val (.ref a1), .val (.ref b0)] [])
  refine own_aloadN X0 hx (hb hby own_d_jdk_44_method_1_code_0) rfl rfl ?_
  show own_E p e below _ s₁ (mkF m 1 #[.val (.ref a1), .val (.ref b0)] [(.ref a1)])
  obtain ⟨_, _, ⟨T21, L21, k21, n21⟩, -, X21, ⟨Lc21, hQ21, l21, y21, z21⟩, st21⟩ := X0.specialBack hx (y := (⟨"java/util/ImmutableCollections$AbstractImmutableList", "<init>", "()V"⟩ : MethodName)) rfl hown (mvT hZ (hw _ (List.mem_of_getElem? (i := 66) rfl))) (mvT hZ (hw _ (List.mem_of_getElem? (i := 67) rfl))) (mvT hZ (hw _ (List.mem_of_getElem? (i := 71) rfl))) (by decide) (backOf (W := 0) (own_rmAIL l Z a0 hw [] a1 h0 n0 Z0) hZ (hw _ (List.mem_of_getElem? (i := 71) rfl)) (hw _ (List.mem_of_getElem? (i := 70) rfl)) (by decide) (by decide)) (g := (mkF m 1 #[.val (.ref a1), .val (.ref b0)] [(.ref a1)])) rfl (by rw [hml]; rfl) (Steps.refl _) (a := a1) (argsL := []) (rest := []) (lenOf own_pd0 rfl) rfl (by show 2 * 0 + _ ≤ _; exact Nat.le_of_eq rfl) (hb hby own_d_jdk_44_method_1_code_1) (fun _ _ => ⟨rfl, e0, Nat.le_of_ble_eq_true rfl, Nat.le_of_ble_eq_true rfl⟩)
  dsimp only [Pt.U, Pt.locs, Pt.cells, Pt.slots] at X21 l21 y21 z21 st21 hQ21
  subst l21 y21 z21
  obtain ⟨rfl, M21, e21⟩ := hQ21
  have N21 := Fr.app N0 M21
  refine own_go (fun _ k => st21.trans k) ?_
  show own_E p e below _ T21 (mkF m 4 #[.val (.ref a1), .val (.ref b0)] [])
  refine own_aloadN X21 hx (hb hby own_d_jdk_44_method_1_code_4) rfl rfl ?_
  show own_E p e below _ T21 (mkF m 5 #[.val (.ref a1), .val (.ref b0)] [(.ref a1)])
  refine own_aloadN X21 hx (hb hby own_d_jdk_44_method_1_code_5) rfl rfl ?_
  show own_E p e below _ T21 (mkF m 6 #[.val (.ref a1), .val (.ref b0)] [(.ref b0), (.ref a1)])
  obtain ⟨_, _, ⟨T22, L22, k22, n22⟩, -, X22, ⟨Lc22, hQ22, l22, y22, z22⟩, st22⟩ := Jvm.LawKit.callS X21 hx (y := (⟨"java/util/Objects", "requireNonNull", "(Ljava/lang/Object;)Ljava/lang/Object;"⟩ : MethodName)) hown (mvT hZ (hw _ (List.mem_of_getElem? (i := 75) rfl))) (mvT hZ (hw _ (List.mem_of_getElem? (i := 46) rfl))) (mvT hZ (hw _ (List.mem_of_getElem? (i := 47) rfl))) (mvT hZ (hw _ (List.mem_of_getElem? (i := 48) rfl))) (by decide) (backOf (W := 1) (own_rmRN l Z a0 hw [] b0 h0 n0 Z0) hZ (hw _ (List.mem_of_getElem? (i := 48) rfl)) (hw _ (List.mem_of_getElem? (i := 47) rfl)) (by decide) (by decide)) (g := (mkF m 6 #[.val (.ref a1), .val (.ref b0)] [(.ref b0), (.ref a1)])) rfl (by rw [hml]; rfl) (argsL := [(.ref b0)]) (rest := [(.ref a1)]) (lenOf own_pd2 rfl) rfl (by show 2 * 0 + _ ≤ _; exact Nat.le_of_eq rfl) (hb hby own_d_jdk_44_method_1_code_6) (fun _ _ => ⟨rfl, e21, Nat.le_of_ble_eq_true rfl, Nat.le_of_ble_eq_true rfl⟩)
  dsimp only [Pt.U, Pt.locs, Pt.cells, Pt.slots] at X22 l22 y22 z22 st22 hQ22
  subst l22 y22 z22
  obtain ⟨rfl, M22, e22⟩ := hQ22
  have N22 := Fr.app N21 M22
  refine own_go st22 ?_
  show own_E p e below _ T22 (mkF m 9 #[.val (.ref a1), .val (.ref b0)] [(.ref b0), (.ref a1)])
  obtain ⟨T23, h23, X23, e23, W23, st23⟩ := putF X22 hx hZ hown (host := "") (Or.inl (hw _ (List.mem_of_getElem? (i := 76) rfl))) Via.refl e22 F0 A0 (Or.inr ⟨(hw _ (List.mem_of_getElem? (i := 77) rfl)), rfl, hnm⟩) (hw _ (List.mem_of_getElem? (i := 60) rfl)) (ty := (.object "java/lang/Object")) (by decide) rfl rfl (g := (mkF m 9 #[.val (.ref a1), .val (.ref b0)] [(.ref b0), (.ref a1)])) rfl rfl (hb hby own_d_jdk_44_method_1_code_9)
  refine own_go st23 ?_
  have N23 := Fr.snoc X23 N22 (by omega)
  have z23 : h0.size ≤ h23.size := Nat.le_of_eq W23.size.symm
  have F23 : Fld Z h23 a1 "java/util/ImmutableCollections$List12" "e0" "Ljava/lang/Object;" (.ref b0) := Fld.same W23 F0
  show own_E p e below _ T23 (mkF m 12 #[.val (.ref a1), .val (.ref b0)] [])
  refine own_aloadN X23 hx (hb hby own_d_jdk_44_method_1_code_12) rfl rfl ?_
  show own_E p e below _ T23 (mkF m 13 #[.val (.ref a1), .val (.ref b0)] [(.ref a1)])
  obtain ⟨T24, X24, e24, st24⟩ := getS2 X23 hx hZ hown (Or.inr (hw _ (List.mem_of_getElem? (i := 78) rfl))) Via.refl e23 (S0.ext ((O0.wr W23 (by omega))).2) (g := (mkF m 13 #[.val (.ref a1), .val (.ref b0)] [(.ref a1)])) rfl (hb hby own_d_jdk_44_method_1_code_13)
  refine own_go st24 ?_
  show own_E p e below _ T24 (mkF m 16 #[.val (.ref a1), .val (.ref b0)] [(.ref we), (.ref a1)])
  obtain ⟨T25, h25, X25, e25, W25, st25⟩ := putF X24 hx hZ hown (host := "") (Or.inl (hw _ (List.mem_of_getElem? (i := 79) rfl))) Via.refl e24 (F1.other W23 (Or.inr (slot_ne (Or.inr (hw _ (List.mem_of_getElem? (i := 80) rfl))) (Or.inr (hw _ (List.mem_of_getElem? (i := 77) rfl))) (by decide) (t := (.object "java/lang/Object")) (t' := (.object "java/lang/Object")) (by decide) (by decide)))) (A0.wr W23) (Or.inr ⟨(hw _ (List.mem_of_getElem? (i := 80) rfl)), rfl, hnm⟩) (hw _ (List.mem_of_getElem? (i := 60) rfl)) (ty := (.object "java/lang/Object")) (by decide) rfl rfl (g := (mkF m 16 #[.val (.ref a1), .val (.ref b0)] [(.ref we), (.ref a1)])) rfl rfl (hb hby own_d_jdk_44_method_1_code_16)
  refine own_go st25 ?_
  have N25 := Fr.snoc X25 N23 (by omega)
  have z25 : h23.size ≤ h25.size := Nat.le_of_eq W25.size.symm
  have F25 : Fld Z h25 a1 "java/util/ImmutableCollections$List12" "e1" "Ljava/lang/Object;" (.ref we) := Fld.same W25 (F1.other W23 (Or.inr (slot_ne (Or.inr (hw _ (List.mem_of_getElem? (i := 80) rfl))) (Or.inr (hw _ (List.mem_of_getElem? (i := 77) rfl))) (by decide) (t := (.object "java/lang/Object")) (t' := (.object "java/lang/Object")) (by decide) (by decide))))
  show own_E p e below _ T25 (mkF m 19 #[.val (.ref a1), .val (.ref b0)] [])
  refine own_retV X25 hx Bd.returns hlk (hb hby own_d_jdk_44_method_1_code_19) (by decide) (by decide) ?_
  rw [e25]
  exact ⟨rfl, N25, (((Keep.refl _ _).wr W23 (Or.inl (List.mem_of_getElem? (i := 0) rfl))).wr W25 (Or.inl (List.mem_of_getElem? (i := 0) rfl))), (F23.other W25 (Or.inr (slot_ne (Or.inr (hw _ (List.mem_of_getElem? (i := 77) rfl))) (Or.inr (hw _ (List.mem_of_getElem? (i := 80) rfl))) (by decide) (t := (.object "java/lang/Object")) (t' := (.object "java/lang/Object")) (by decide) (by decide)))), F25⟩

def own_rmLOQ (Z : State) (b0 we : Addr) (h0 : Heap) (n0 : Nat) (v : Option Value) (h : Heap) (L : List Loc) : Prop := ∃ a, v = some (.ref a) ∧ Fr n0 L ∧ Keep h0 h [] ∧ Exa Z h a "java/util/ImmutableCollections$List12" ∧ Fld Z h a "java/util/ImmutableCollections$List12" "e0" "Ljava/lang/Object;" (.ref b0) ∧ Fld Z h a "java/util/ImmutableCollections$List12" "e1" "Ljava/lang/Object;" (.ref we)
theorem own_pn10 : plainName "java/util/List" = true := by first | (simp [plainName, overriddenIn]; done) | decide +kernel
theorem own_ef12 (m : MethodId) (x0 : Addr) : entryFrame m #[(.ref x0)] 1 = mkF m 0 #[.val (.ref x0)] [] := by first | (simp [entryFrame, mkF, argsToLocals, Value.category]; done) | rfl
theorem own_d_jdk_40_method_37_code_0 : decode jdk_40_method_37_code 0 = .ok (.new 96, 3) := by decide +kernel
theorem own_d_jdk_40_method_37_code_3 : decode jdk_40_method_37_code 3 = .ok (.dup, 1) := by decide +kernel
theorem own_d_jdk_40_method_37_code_4 : decode jdk_40_method_37_code 4 = .ok (.aload_n 0, 1) := by decide +kernel
theorem own_d_jdk_40_method_37_code_5 : decode jdk_40_method_37_code 5 = .ok (.invokespecial 98, 3) := by decide +kernel
theorem own_d_jdk_40_method_37_code_8 : decode jdk_40_method_37_code 8 = .ok (.areturn, 1) := by decide +kernel
set_option maxRecDepth 65536 in
set_option maxHeartbeats 40000000 in
theorem own_rmLO (l : Launch) (Z : State) (a0 : Array Value) (hw : ∀ d ∈ tables_1, d.before a0 Z = true) (ws : List Jvm.Cond) (b0 we : Addr) (h0 : Heap) (n0 : Nat) (Z0 : n0 ≤ h0.size) (O0 : Old Z n0 h0) (S0 : Sta Z Z.heap "java/util/ImmutableCollections" "EMPTY" "Ljava/lang/Object;" (.ref we)) :
    MetFree l (⟨"java/util/List", "of", "(Ljava/lang/Object;)Ljava/util/List;"⟩ : MethodName) (head1 (Jvm.Cond.code (⟨"java/util/List", "of", "(Ljava/lang/Object;)Ljava/util/List;"⟩ : MethodName) jdk_40_method_37_code 1 (some (.object "java/util/List")) :: ws) ({ frames := 5, cells := 1, slots := 2, locals := 64 } : Room)) (fun a U => a = #[(.ref b0)] ∧ Z.Warmed39 U.vm ∧ U.heap = h0) (fun _ _ _ _ _ => True) (fun _ U o U' => ∃ v L, o = .returned v ∧ own_rmLOQ Z b0 we h0 n0 v U'.heap L ∧ FrameEnd U o U' L ({ frames := 5, cells := 1, slots := 2, locals := 64 } : Room).cells ({ frames := 5, cells := 1, slots := 2, locals := 64 } : Room).slots) := by
  refine MetFree.of_bodySF (plainFor_of_name own_pn10) hisR ?_
  intro p e s m args below meth c s₁ Bd hml0 hP hK
  obtain ⟨rfl, hZ, hh⟩ := hP
  have hx := Bd.exec
  have hby := Bd.bytes
  have hlk : meth.locks = false := Bd.notSynchronized
  have hml : c.maxLocals = 1 := hml0
  have hown : s.vm.findClass "java/util/List" = some m.cls := findClass_of_methodNamed Bd.named
  have hnm := (name_of_methodNamed Bd.named Bd.method).1
  have X0 : Stand p l e ({ frames := 5, cells := 1, slots := 2, locals := 64 } : Room) s m #[(.ref b0)] below meth c s₁ [] 0 0 := Stand.of_body Bd
  have e0 : s₁.heap = h0 := by rw [← hh, Bd.state]; rfl
  have N0 := Fr.nil n0
  show own_E p e below (own_P s (own_rmLOQ Z b0 we h0 n0) ({ frames := 5, cells := 1, slots := 2, locals := 64 } : Room).cells ({ frames := 5, cells := 1, slots := 2, locals := 64 } : Room).slots) s₁ (entryFrame m #[(.ref b0)] 1)
  refine own_cast (own_ef12 m b0) ?_
  show own_E p e below _ s₁ (mkF m 0 #[.val (.ref b0)] [])
  obtain ⟨T26, h26, X26, e26, E26, A26, D26, -, st26⟩ := newO X0 hx hZ hown (hw _ (List.mem_of_getElem? (i := 59) rfl)) (hw _ (List.mem_of_getElem? (i := 60) rfl)) (hw _ (List.mem_of_getElem? (i := 61) rfl)) e0 (g := (mkF m 0 #[.val (.ref b0)] [])) rfl (hb hby own_d_jdk_40_method_37_code_0) (by decide) (by decide)
  obtain ⟨a26, g26⟩ : ∃ z, z = h0.size := ⟨_, rfl⟩
  rw [← g26] at A26 D26 st26
  have z26 : h0.size ≤ h26.size := E26.1
  have t26 : a26 < h26.size := A26.lt
  refine own_go st26 ?_
  show own_E p e below _ T26 (mkF m 3 #[.val (.ref b0)] [(.ref a26)])
  refine own_dup X26 hx (hb hby own_d_jdk_40_method_37_code_3) rfl ?_
  show own_E p e below _ T26 (mkF m 4 #[.val (.ref b0)] [(.ref a26), (.ref a26)])
  refine own_aloadN X26 hx (hb hby own_d_jdk_40_method_37_code_4) rfl rfl ?_
  show own_E p e below _ T26 (mkF m 5 #[.val (.ref b0)] [(.ref b0), (.ref a26), (.ref a26)])
  obtain ⟨_, _, ⟨T27, L27, k27, n27⟩, -, X27, ⟨Lc27, hQ27, l27, y27, z27⟩, st27⟩ := X26.specialBack hx (y := (⟨"java/util/ImmutableCollections$List12", "<init>", "(Ljava/lang/Object;)V"⟩ : MethodName)) rfl hown (mvT hZ (hw _ (List.mem_of_getElem? (i := 62) rfl))) (mvT hZ (hw _ (List.mem_of_getElem? (i := 63) rfl))) (mvT hZ (hw _ (List.mem_of_getElem? (i := 65) rfl))) (by decide) (backOf (W := 1) (own_rmL12 l Z a0 hw [] a26 b0 we h26 n0 (by omega) (O0.ext E26) S0 (D26 (Or.inr (hw _ (List.mem_of_getElem? (i := 77) rfl))) (ty := (.object "java/lang/Object")) (by decide)) (D26 (Or.inr (hw _ (List.mem_of_getElem? (i := 80) rfl))) (ty := (.object "java/lang/Object")) (by decide)) A26 (by omega)) hZ (hw _ (List.mem_of_getElem? (i := 65) rfl)) (hw _ (List.mem_of_getElem? (i := 61) rfl)) (by decide) (by decide)) (g := (mkF m 5 #[.val (.ref b0)] [(.ref b0), (.ref a26), (.ref a26)])) rfl (by rw [hml]; rfl) (Steps.refl _) (a := a26) (argsL := [(.ref b0)]) (rest := [(.ref a26)]) (lenOf own_pd3 rfl) rfl (by show 2 * 0 + _ ≤ _; exact Nat.le_of_eq rfl) (hb hby own_d_jdk_40_method_37_code_5) (fun _ _ => ⟨rfl, e26, Nat.le_of_ble_eq_true rfl, Nat.le_of_ble_eq_true rfl⟩)
  dsimp only [Pt.U, Pt.locs, Pt.cells, Pt.slots] at X27 l27 y27 z27 st27 hQ27
  subst l27 y27 z27
  obtain ⟨rfl, M27, K27, F27, G27⟩ := hQ27
  have N27 := Fr.app N0 M27
  refine own_go (fun _ k => st27.trans k) ?_
  have z27 : h26.size ≤ T27.heap.size := K27.1
  show own_E p e below _ T27 (mkF m 8 #[.val (.ref b0)] [(.ref a26)])
  refine own_retA X27 hx Bd.returns rfl rfl hlk (hb hby own_d_jdk_40_method_37_code_8) (by decide) (by decide) ?_
  exact ⟨_, rfl, N27, (((Keep.refl _ _).ext E26).trans K27 (allS (Or.inr (by omega)) all0)), (A26.keep K27), F27, G27⟩

def own_QA (Z : State) (a1 l0 : Addr) (h0 : Heap) (n0 : Nat) (v : Option Value) (h : Heap) (L : List Loc) : Prop := v = none ∧ Fr n0 L ∧ Keep h0 h [a1] ∧ Fld Z h a1 "com/example/minga/minga/policy/Alternatives" "value" "Z" (.int (0 : Int32)) ∧ Fld Z h a1 "com/example/minga/minga/policy/Alternatives" "sets" "Ljava/util/List;" (.ref l0)
theorem own_pn11 : plainName "com/example/minga/minga/policy/Alternatives" = true := by first | (simp [plainName, overriddenIn]; done) | decide +kernel
theorem own_ef13 (m : MethodId) (x0 : Addr) (x1 : Int32) (x2 : Addr) : entryFrame m #[(.ref x0), (.int x1), (.ref x2)] 3 = mkF m 0 #[.val (.ref x0), .val (.int x1), .val (.ref x2)] [] := by first | (simp [entryFrame, mkF, argsToLocals, Value.category]; done) | rfl
theorem own_d_prog_24_method_1_code_0 : decode prog_24_method_1_code 0 = .ok (.aload_n 0, 1) := by decide +kernel
theorem own_d_prog_24_method_1_code_1 : decode prog_24_method_1_code 1 = .ok (.invokespecial 1, 3) := by decide +kernel
theorem own_d_prog_24_method_1_code_4 : decode prog_24_method_1_code 4 = .ok (.aload_n 0, 1) := by decide +kernel
theorem own_d_prog_24_method_1_code_5 : decode prog_24_method_1_code 5 = .ok (.iload_n 1, 1) := by decide +kernel
theorem own_d_prog_24_method_1_code_6 : decode prog_24_method_1_code 6 = .ok (.putfield 7, 3) := by decide +kernel
theorem own_d_prog_24_method_1_code_9 : decode prog_24_method_1_code 9 = .ok (.aload_n 0, 1) := by decide +kernel
theorem own_d_prog_24_method_1_code_10 : decode prog_24_method_1_code 10 = .ok (.aload_n 2, 1) := by decide +kernel
theorem own_d_prog_24_method_1_code_11 : decode prog_24_method_1_code 11 = .ok (.putfield 13, 3) := by decide +kernel
theorem own_d_prog_24_method_1_code_14 : decode prog_24_method_1_code 14 = .ok (.return_, 1) := by decide +kernel
set_option maxRecDepth 65536 in
set_option maxHeartbeats 40000000 in
theorem own_rmAI (l : Launch) (Z : State) (a0 : Array Value) (hw : ∀ d ∈ tables_1, d.before a0 Z = true) (ws : List Jvm.Cond) (a1 l0 : Addr) (h0 : Heap) (n0 : Nat) (Z0 : n0 ≤ h0.size) (F0 : Fld Z h0 a1 "com/example/minga/minga/policy/Alternatives" "value" "Z" (.int (0 : Int32))) (F1 : Fld Z h0 a1 "com/example/minga/minga/policy/Alternatives" "sets" "Ljava/util/List;" .null) (A0 : Exa Z h0 a1 "com/example/minga/minga/policy/Alternatives") (g0 : n0 ≤ a1) :
    MetFree l (⟨"com/example/minga/minga/policy/Alternatives", "<init>", "(ZLjava/util/List;)V"⟩ : MethodName) (head1 (Jvm.Cond.code (⟨"com/example/minga/minga/policy/Alternatives", "<init>", "(ZLjava/util/List;)V"⟩ : MethodName) prog_24_method_1_code 3 none :: ws) ({ frames := 1, cells := 0, slots := 0, locals := 12 } : Room)) (fun a U => a = #[(.ref a1), (.int (0 : Int32)), (.ref l0)] ∧ Z.Warmed39 U.vm ∧ U.heap = h0) (fun _ _ _ _ _ => True) (fun _ U o U' => ∃ v L, o = .returned v ∧ own_QA Z a1 l0 h0 n0 v U'.heap L ∧ FrameEnd U o U' L ({ frames := 1, cells := 0, slots := 0, locals := 12 } : Room).cells ({ frames := 1, cells := 0, slots := 0, locals := 12 } : Room).slots) := by
  refine MetFree.of_bodySF (plainFor_of_name own_pn11) hisR ?_
  intro p e s m args below meth c s₁ Bd hml0 hP hK
  obtain ⟨rfl, hZ, hh⟩ := hP
  have hx := Bd.exec
  have hby := Bd.bytes
  have hlk : meth.locks = false := Bd.notSynchronized
  have hml : c.maxLocals = 3 := hml0
  have hown : s.vm.findClass "com/example/minga/minga/policy/Alternatives" = some m.cls := findClass_of_methodNamed Bd.named
  have hnm := (name_of_methodNamed Bd.named Bd.method).1
  have X0 : Stand p l e ({ frames := 1, cells := 0, slots := 0, locals := 12 } : Room) s m #[(.ref a1), (.int (0 : Int32)), (.ref l0)] below meth c s₁ [] 0 0 := Stand.of_body Bd
  have e0 : s₁.heap = h0 := by rw [← hh, Bd.state]; rfl
  have N0 := Fr.nil n0
  show own_E p e below (own_P s (own_QA Z a1 l0 h0 n0) ({ frames := 1, cells := 0, slots := 0, locals := 12 } : Room).cells ({ frames := 1, cells := 0, slots := 0, locals := 12 } : Room).slots) s₁ (entryFrame m #[(.ref a1), (.int (0 : Int32)), (.ref l0)] 3)
  refine own_cast (own_ef13 m a1 (0 : Int32) l0) ?_
  show own_E p e below _ s₁ (mkF m 0 #[.val (.ref a1), .val (.int (0 : Int32)), .val (.ref l0)] [])
  refine own_aloadN X0 hx (hb hby own_d_prog_24_method_1_code_0) rfl rfl ?_
  show own_E p e below _ s₁ (mkF m 1 #[.val (.ref a1), .val (.int (0 : Int32)), .val (.ref l0)] [(.ref a1)])
  obtain ⟨T28, X28, e28, st28⟩ := initO X0 hx hZ hown (hw _ (List.mem_of_getElem? (i := 84) rfl)) (hw _ (List.mem_of_getElem? (i := 43) rfl)) (hw _ (List.mem_of_getElem? (i := 44) rfl)) e0 (g := (mkF m 1 #[.val (.ref a1), .val (.int (0 : Int32)), .val (.ref l0)] [(.ref a1)])) rfl (by rw [hml]; rfl) rfl (hb hby own_d_prog_24_method_1_code_1) (by decide) (W := 0) (by show 2 * 0 + _ ≤ _; exact Nat.le_of_eq rfl) (by decide)
  refine own_go st28 ?_
  show own_E p e below _ T28 (mkF m 4 #[.val (.ref a1), .val (.int (0 : Int32)), .val (.ref l0)] [])
  refine own_aloadN X28 hx (hb hby own_d_prog_24_method_1_code_4) rfl rfl ?_
  show own_E p e below _ T28 (mkF m 5 #[.val (.ref a1), .val (.int (0 : Int32)), .val (.ref l0)] [(.ref a1)])
  refine own_iloadN X28 hx (hb hby own_d_prog_24_method_1_code_5) rfl ?_
  show own_E p e below _ T28 (mkF m 6 #[.val (.ref a1), .val (.int (0 : Int32)), .val (.ref l0)] [(.int (0 : Int32)), (.ref a1)])
  obtain ⟨T29, h29, X29, e29, W29, st29⟩ := putF X28 hx hZ hown (host := "") (Or.inl (hw _ (List.mem_of_getElem? (i := 85) rfl))) Via.refl e28 F0 A0 (Or.inr ⟨(hw _ (List.mem_of_getElem? (i := 86) rfl)), rfl, hnm⟩) (hw _ (List.mem_of_getElem? (i := 5) rfl)) (ty := .boolean) (by decide) (by decide) (by decide) (g := (mkF m 6 #[.val (.ref a1), .val (.int (0 : Int32)), .val (.ref l0)] [(.int (0 : Int32)), (.ref a1)])) rfl rfl (hb hby own_d_prog_24_method_1_code_6)
  refine own_go st29 ?_
  have N29 := Fr.snoc X29 N0 (by omega)
  have z29 : h0.size ≤ h29.size := Nat.le_of_eq W29.size.symm
  have F29 : Fld Z h29 a1 "com/example/minga/minga/policy/Alternatives" "value" "Z" (.int (0 : Int32)) := Fld.same W29 F0
  show own_E p e below _ T29 (mkF m 9 #[.val (.ref a1), .val (.int (0 : Int32)), .val (.ref l0)] [])
  refine own_aloadN X29 hx (hb hby own_d_prog_24_method_1_code_9) rfl rfl ?_
  show own_E p e below _ T29 (mkF m 10 #[.val (.ref a1), .val (.int (0 : Int32)), .val (.ref l0)] [(.ref a1)])
  refine own_aloadN X29 hx (hb hby own_d_prog_24_method_1_code_10) rfl rfl ?_
  show own_E p e below _ T29 (mkF m 11 #[.val (.ref a1), .val (.int (0 : Int32)), .val (.ref l0)] [(.ref l0), (.ref a1)])
  obtain ⟨T30, h30, X30, e30, W30, st30⟩ := putF X29 hx hZ hown (host := "") (Or.inl (hw _ (List.mem_of_getElem? (i := 87) rfl))) Via.refl e29 (F1.other W29 (Or.inr (slot_ne (Or.inr (hw _ (List.mem_of_getElem? (i := 88) rfl))) (Or.inr (hw _ (List.mem_of_getElem? (i := 86) rfl))) (by decide) (t := (.object "java/util/List")) (t' := .boolean) (by decide) (by decide)))) (A0.wr W29) (Or.inr ⟨(hw _ (List.mem_of_getElem? (i := 88) rfl)), rfl, hnm⟩) (hw _ (List.mem_of_getElem? (i := 5) rfl)) (ty := (.object "java/util/List")) (by decide) rfl rfl (g := (mkF m 11 #[.val (.ref a1), .val (.int (0 : Int32)), .val (.ref l0)] [(.ref l0), (.ref a1)])) rfl rfl (hb hby own_d_prog_24_method_1_code_11)
  refine own_go st30 ?_
  have N30 := Fr.snoc X30 N29 (by omega)
  have z30 : h29.size ≤ h30.size := Nat.le_of_eq W30.size.symm
  have F30 : Fld Z h30 a1 "com/example/minga/minga/policy/Alternatives" "sets" "Ljava/util/List;" (.ref l0) := Fld.same W30 (F1.other W29 (Or.inr (slot_ne (Or.inr (hw _ (List.mem_of_getElem? (i := 88) rfl))) (Or.inr (hw _ (List.mem_of_getElem? (i := 86) rfl))) (by decide) (t := (.object "java/util/List")) (t' := .boolean) (by decide) (by decide))))
  show own_E p e below _ T30 (mkF m 14 #[.val (.ref a1), .val (.int (0 : Int32)), .val (.ref l0)] [])
  refine own_retV X30 hx Bd.returns hlk (hb hby own_d_prog_24_method_1_code_14) (by decide) (by decide) ?_
  rw [e30]
  exact ⟨rfl, N30, (((Keep.refl _ _).wr W29 (Or.inl (List.mem_of_getElem? (i := 0) rfl))).wr W30 (Or.inl (List.mem_of_getElem? (i := 0) rfl))), (F29.other W30 (Or.inr (slot_ne (Or.inr (hw _ (List.mem_of_getElem? (i := 86) rfl))) (Or.inr (hw _ (List.mem_of_getElem? (i := 88) rfl))) (by decide) (t := .boolean) (t' := (.object "java/util/List")) (by decide) (by decide)))), F30⟩

def own_QO (Z : State) (m0 : Int32) (we : Addr) (h0 : Heap) (n0 : Nat) (v : Option Value) (h : Heap) (L : List Loc) : Prop := ∃ a ll ss b, v = some (.ref a) ∧ Fr n0 L ∧ Keep h0 h [] ∧ Exa Z h a "com/example/minga/minga/policy/Alternatives" ∧ Fld Z h a "com/example/minga/minga/policy/Alternatives" "value" "Z" (.int (0 : Int32)) ∧ Fld Z h a "com/example/minga/minga/policy/Alternatives" "sets" "Ljava/util/List;" (.ref ll) ∧ Exa Z h ll "java/util/ImmutableCollections$List12" ∧ Fld Z h ll "java/util/ImmutableCollections$List12" "e0" "Ljava/lang/Object;" (.ref ss) ∧ Fld Z h ll "java/util/ImmutableCollections$List12" "e1" "Ljava/lang/Object;" (.ref we) ∧ Exa Z h ss "java/util/ImmutableCollections$Set12" ∧ Fld Z h ss "java/util/ImmutableCollections$Set12" "e0" "Ljava/lang/Object;" (.ref b) ∧ Fld Z h ss "java/util/ImmutableCollections$Set12" "e1" "Ljava/lang/Object;" (.ref we) ∧ Exa Z h b "java/lang/Integer" ∧ Fld Z h b "java/lang/Integer" "value" "I" (.int m0)
theorem own_ef14 (m : MethodId) (x0 : Int32) : entryFrame m #[(.int x0)] 1 = mkF m 0 #[.val (.int x0)] [] := by first | (simp [entryFrame, mkF, argsToLocals, Value.category]; done) | rfl
theorem own_d_prog_24_method_2_code_0 : decode prog_24_method_2_code 0 = .ok (.new 8, 3) := by decide +kernel
theorem own_d_prog_24_method_2_code_3 : decode prog_24_method_2_code 3 = .ok (.dup, 1) := by decide +kernel
theorem own_d_prog_24_method_2_code_4 : decode prog_24_method_2_code 4 = .ok (.iconst 0, 1) := by decide +kernel
theorem own_d_prog_24_method_2_code_5 : decode prog_24_method_2_code 5 = .ok (.iload_n 0, 1) := by decide +kernel
theorem own_pd4 : parseMethodDescriptor "(I)Ljava/lang/Integer;" = some ⟨[.int], some (.object "java/lang/Integer")⟩ := by decide +kernel
theorem own_d_prog_24_method_2_code_6 : decode prog_24_method_2_code 6 = .ok (.invokestatic 17, 3) := by decide +kernel
theorem own_pd5 : parseMethodDescriptor "(Ljava/lang/Object;)Ljava/util/Set;" = some ⟨[(.object "java/lang/Object")], some (.object "java/util/Set")⟩ := by decide +kernel
theorem own_d_prog_24_method_2_code_9 : decode prog_24_method_2_code 9 = .ok (.invokestatic 23, 3) := by decide +kernel
theorem own_pd6 : parseMethodDescriptor "(Ljava/lang/Object;)Ljava/util/List;" = some ⟨[(.object "java/lang/Object")], some (.object "java/util/List")⟩ := by decide +kernel
theorem own_d_prog_24_method_2_code_12 : decode prog_24_method_2_code 12 = .ok (.invokestatic 29, 3) := by decide +kernel
theorem own_pd7 : parseMethodDescriptor "(ZLjava/util/List;)V" = some ⟨[.boolean, (.object "java/util/List")], none⟩ := by decide +kernel
theorem own_d_prog_24_method_2_code_15 : decode prog_24_method_2_code 15 = .ok (.invokespecial 34, 3) := by decide +kernel
theorem own_d_prog_24_method_2_code_18 : decode prog_24_method_2_code 18 = .ok (.areturn, 1) := by decide +kernel
set_option maxRecDepth 65536 in
set_option maxHeartbeats 40000000 in
theorem own_rmAO (l : Launch) (Z : State) (a0 : Array Value) (hw : ∀ d ∈ tables_1, d.before a0 Z = true) (ws : List Jvm.Cond) (m0 : Int32) (w0 we : Addr) (cw : Cell) (h0 : Heap) (n0 : Nat) (Z0 : n0 ≤ h0.size) (O0 : Old Z n0 h0) (S1 : Sta Z Z.heap "java/lang/Integer$IntegerCache" "high" "I" (.int (127 : Int32))) (S0 : Sta Z Z.heap "java/lang/Integer$IntegerCache" "cache" "[Ljava/lang/Integer;" (.ref w0)) (A0 : Arr Z Z.heap w0 cw (.object "java/lang/Integer")) (z0 : cw.slots.size = 256) (t0 : ∀ k, k < 256 → ∃ b, cw.slots[k]? = some (.ref b) ∧ Exa Z Z.heap b "java/lang/Integer" ∧ Fld Z Z.heap b "java/lang/Integer" "value" "I" (.int (k.toInt32 - 128))) (SE : Sta Z Z.heap "java/util/ImmutableCollections" "EMPTY" "Ljava/lang/Object;" (.ref we)) :
    MetFree l (⟨"com/example/minga/minga/policy/Alternatives", "of", "(I)Lcom/example/minga/minga/policy/Alternatives;"⟩ : MethodName) (head1 (Jvm.Cond.code (⟨"com/example/minga/minga/policy/Alternatives", "of", "(I)Lcom/example/minga/minga/policy/Alternatives;"⟩ : MethodName) prog_24_method_2_code 1 (some (.object "com/example/minga/minga/policy/Alternatives")) :: ws) ({ frames := 6, cells := 4, slots := 7, locals := 90 } : Room)) (fun a U => a = #[(.int m0)] ∧ Z.Warmed39 U.vm ∧ U.heap = h0) (fun _ _ _ _ _ => True) (fun _ U o U' => ∃ v L, o = .returned v ∧ own_QO Z m0 we h0 n0 v U'.heap L ∧ FrameEnd U o U' L ({ frames := 6, cells := 4, slots := 7, locals := 90 } : Room).cells ({ frames := 6, cells := 4, slots := 7, locals := 90 } : Room).slots) := by
  refine MetFree.of_bodySF (plainFor_of_name own_pn11) hisR ?_
  intro p e s m args below meth c s₁ Bd hml0 hP hK
  obtain ⟨rfl, hZ, hh⟩ := hP
  have hx := Bd.exec
  have hby := Bd.bytes
  have hlk : meth.locks = false := Bd.notSynchronized
  have hml : c.maxLocals = 1 := hml0
  have hown : s.vm.findClass "com/example/minga/minga/policy/Alternatives" = some m.cls := findClass_of_methodNamed Bd.named
  have hnm := (name_of_methodNamed Bd.named Bd.method).1
  have X0 : Stand p l e ({ frames := 6, cells := 4, slots := 7, locals := 90 } : Room) s m #[(.int m0)] below meth c s₁ [] 0 0 := Stand.of_body Bd
  have e0 : s₁.heap = h0 := by rw [← hh, Bd.state]; rfl
  have N0 := Fr.nil n0
  show own_E p e below (own_P s (own_QO Z m0 we h0 n0) ({ frames := 6, cells := 4, slots := 7, locals := 90 } : Room).cells ({ frames := 6, cells := 4, slots := 7, locals := 90 } : Room).slots) s₁ (entryFrame m #[(.int m0)] 1)
  refine own_cast (own_ef14 m m0) ?_
  show own_E p e below _ s₁ (mkF m 0 #[.val (.int m0)] [])
  obtain ⟨T31, h31, X31, e31, E31, A31, D31, -, st31⟩ := newO X0 hx hZ hown (hw _ (List.mem_of_getElem? (i := 4) rfl)) (hw _ (List.mem_of_getElem? (i := 5) rfl)) (hw _ (List.mem_of_getElem? (i := 2) rfl)) e0 (g := (mkF m 0 #[.val (.int m0)] [])) rfl (hb hby own_d_prog_24_method_2_code_0) (by decide) (by decide)
  obtain ⟨a31, g31⟩ : ∃ z, z = h0.size := ⟨_, rfl⟩
  rw [← g31] at A31 D31 st31
  have z31 : h0.size ≤ h31.size := E31.1
  have t31 : a31 < h31.size := A31.lt
  refine own_go st31 ?_
  show own_E p e below _ T31 (mkF m 3 #[.val (.int m0)] [(.ref a31)])
  refine own_dup X31 hx (hb hby own_d_prog_24_method_2_code_3) rfl ?_
  show own_E p e below _ T31 (mkF m 4 #[.val (.int m0)] [(.ref a31), (.ref a31)])
  refine own_iconst X31 hx (hb hby own_d_prog_24_method_2_code_4) (v := (0 : Int32)) (by decide) ?_
  show own_E p e below _ T31 (mkF m 5 #[.val (.int m0)] [(.int (0 : Int32)), (.ref a31), (.ref a31)])
  refine own_iloadN X31 hx (hb hby own_d_prog_24_method_2_code_5) rfl ?_
  show own_E p e below _ T31 (mkF m 6 #[.val (.int m0)] [(.int m0), (.int (0 : Int32)), (.ref a31), (.ref a31)])
  obtain ⟨_, _, ⟨T32, L32, k32, n32⟩, -, X32, ⟨Lc32, hQ32, l32, y32, z32⟩, st32⟩ := Jvm.LawKit.callS X31 hx (y := (⟨"java/lang/Integer", "valueOf", "(I)Ljava/lang/Integer;"⟩ : MethodName)) hown (mvT hZ (hw _ (List.mem_of_getElem? (i := 6) rfl))) (mvT hZ (hw _ (List.mem_of_getElem? (i := 7) rfl))) (mvT hZ (hw _ (List.mem_of_getElem? (i := 8) rfl))) (mvT hZ (hw _ (List.mem_of_getElem? (i := 9) rfl))) (by decide) (backOf (W := 3) (own_rmB l Z a0 hw [] m0 w0 cw h31 n0 (by omega) (O0.ext E31) S1 S0 A0 z0 t0) hZ (hw _ (List.mem_of_getElem? (i := 9) rfl)) (hw _ (List.mem_of_getElem? (i := 8) rfl)) (by decide) (by decide)) (g := (mkF m 6 #[.val (.int m0)] [(.int m0), (.int (0 : Int32)), (.ref a31), (.ref a31)])) rfl (by rw [hml]; rfl) (argsL := [(.int m0)]) (rest := [(.int (0 : Int32)), (.ref a31), (.ref a31)]) (lenOf own_pd4 rfl) rfl (by show 2 * 0 + _ ≤ _; exact Nat.le_of_eq rfl) (hb hby own_d_prog_24_method_2_code_6) (fun _ _ => ⟨rfl, e31, Nat.le_of_ble_eq_true rfl, Nat.le_of_ble_eq_true rfl⟩)
  dsimp only [Pt.U, Pt.locs, Pt.cells, Pt.slots] at X32 l32 y32 z32 st32 hQ32
  subst l32 y32 z32
  obtain ⟨a32, rfl, M32, K32, A32, F32⟩ := hQ32
  have N32 := Fr.app N0 M32
  refine own_go st32 ?_
  have z32 : h31.size ≤ T32.heap.size := K32.1
  show own_E p e below _ T32 (mkF m 9 #[.val (.int m0)] [(.ref a32), (.int (0 : Int32)), (.ref a31), (.ref a31)])
  obtain ⟨_, _, ⟨T33, L33, k33, n33⟩, -, X33, ⟨Lc33, hQ33, l33, y33, z33⟩, st33⟩ := Jvm.LawKit.callS X32 hx (y := (⟨"java/util/Set", "of", "(Ljava/lang/Object;)Ljava/util/Set;"⟩ : MethodName)) hown (mvT hZ (hw _ (List.mem_of_getElem? (i := 13) rfl))) (mvT hZ (hw _ (List.mem_of_getElem? (i := 14) rfl))) (mvT hZ (hw _ (List.mem_of_getElem? (i := 15) rfl))) (mvT hZ (hw _ (List.mem_of_getElem? (i := 16) rfl))) (by decide) (backOf (W := 3) (own_rmSO l Z a0 hw [] a32 we T32.heap n0 (by omega) ((O0.ext E31).keep K32 all0) SE) hZ (hw _ (List.mem_of_getElem? (i := 16) rfl)) (hw _ (List.mem_of_getElem? (i := 15) rfl)) (by decide) (by decide)) (g := (mkF m 9 #[.val (.int m0)] [(.ref a32), (.int (0 : Int32)), (.ref a31), (.ref a31)])) rfl (by rw [hml]; rfl) (argsL := [(.ref a32)]) (rest := [(.int (0 : Int32)), (.ref a31), (.ref a31)]) (lenOf own_pd5 rfl) rfl (by show 2 * 0 + _ ≤ _; exact Nat.le_of_eq rfl) (hb hby own_d_prog_24_method_2_code_9) (fun _ _ => ⟨rfl, (rfl : T32.heap = T32.heap), Nat.le_of_ble_eq_true rfl, Nat.le_of_ble_eq_true rfl⟩)
  dsimp only [Pt.U, Pt.locs, Pt.cells, Pt.slots] at X33 l33 y33 z33 st33 hQ33
  subst l33 y33 z33
  obtain ⟨a33, rfl, M33, K33, A33, F33, G33⟩ := hQ33
  have N33 := Fr.app N32 M33
  refine own_go st33 ?_
  have z33 : T32.heap.size ≤ T33.heap.size := K33.1
  show own_E p e below _ T33 (mkF m 12 #[.val (.int m0)] [(.ref a33), (.int (0 : Int32)), (.ref a31), (.ref a31)])
  obtain ⟨_, _, ⟨T34, L34, k34, n34⟩, -, X34, ⟨Lc34, hQ34, l34, y34, z34⟩, st34⟩ := Jvm.LawKit.callS X33 hx (y := (⟨"java/util/List", "of", "(Ljava/lang/Object;)Ljava/util/List;"⟩ : MethodName)) hown (mvT hZ (hw _ (List.mem_of_getElem? (i := 55) rfl))) (mvT hZ (hw _ (List.mem_of_getElem? (i := 56) rfl))) (mvT hZ (hw _ (List.mem_of_getElem? (i := 57) rfl))) (mvT hZ (hw _ (List.mem_of_getElem? (i := 58) rfl))) (by decide) (backOf (W := 3) (own_rmLO l Z a0 hw [] a33 we T33.heap n0 (by omega) (((O0.ext E31).keep K32 all0).keep K33 all0) SE) hZ (hw _ (List.mem_of_getElem? (i := 58) rfl)) (hw _ (List.mem_of_getElem? (i := 57) rfl)) (by decide) (by decide)) (g := (mkF m 12 #[.val (.int m0)] [(.ref a33), (.int (0 : Int32)), (.ref a31), (.ref a31)])) rfl (by rw [hml]; rfl) (argsL := [(.ref a33)]) (rest := [(.int (0 : Int32)), (.ref a31), (.ref a31)]) (lenOf own_pd6 rfl) rfl (by show 2 * 0 + _ ≤ _; exact Nat.le_of_eq rfl) (hb hby own_d_prog_24_method_2_code_12) (fun _ _ => ⟨rfl, (rfl : T33.heap = T33.heap), Nat.le_of_ble_eq_true rfl, Nat.le_of_ble_eq_true rfl⟩)
  dsimp only [Pt.U, Pt.locs, Pt.cells, Pt.slots] at X34 l34 y34 z34 st34 hQ34
  subst l34 y34 z34
  obtain ⟨a34, rfl, M34, K34, A34, F34, G34⟩ := hQ34
  have N34 := Fr.app N33 M34
  refine own_go st34 ?_
  have z34 : T33.heap.size ≤ T34.heap.size := K34.1
  show own_E p e below _ T34 (mkF m 15 #[.val (.int m0)] [(.ref a34), (.int (0 : Int32)), (.ref a31), (.ref a31)])
  have ne_a32 : a32 ≠ a31 := Jvm.RoadKit.ne_exa ((A32.keep K33).keep K34) (((A31.keep K32).keep K33).keep K34) (by decide)
  have ne_a33 : a33 ≠ a31 := Jvm.RoadKit.ne_exa (A33.keep K34) (((A31.keep K32).keep K33).keep K34) (by decide)
  have ne_a34 : a34 ≠ a31 := Jvm.RoadKit.ne_exa A34 (((A31.keep K32).keep K33).keep K34) (by decide)
  obtain ⟨_, _, ⟨T35, L35, k35, n35⟩, -, X35, ⟨Lc35, hQ35, l35, y35, z35⟩, st35⟩ := X34.specialBack hx (y := (⟨"com/example/minga/minga/policy/Alternatives", "<init>", "(ZLjava/util/List;)V"⟩ : MethodName)) rfl hown (mvT hZ (hw _ (List.mem_of_getElem? (i := 81) rfl))) (mvT hZ (hw _ (List.mem_of_getElem? (i := 82) rfl))) (mvT hZ (hw _ (List.mem_of_getElem? (i := 83) rfl))) (by decide) (backOf (W := 1) (own_rmAI l Z a0 hw [] a31 a34 T34.heap n0 (by omega) ((((D31 (Or.inr (hw _ (List.mem_of_getElem? (i := 86) rfl))) (ty := .boolean) (by decide)).keep K32 nin0).keep K33 nin0).keep K34 nin0) ((((D31 (Or.inr (hw _ (List.mem_of_getElem? (i := 88) rfl))) (ty := (.object "java/util/List")) (by decide)).keep K32 nin0).keep K33 nin0).keep K34 nin0) (((A31.keep K32).keep K33).keep K34) (by omega)) hZ (hw _ (List.mem_of_getElem? (i := 83) rfl)) (hw _ (List.mem_of_getElem? (i := 2) rfl)) (by decide) (by decide)) (g := (mkF m 15 #[.val (.int m0)] [(.ref a34), (.int (0 : Int32)), (.ref a31), (.ref a31)])) rfl (by rw [hml]; rfl) (Steps.refl _) (a := a31) (argsL := [(.int (0 : Int32)), (.ref a34)]) (rest := [(.ref a31)]) (lenOf own_pd7 rfl) rfl (by show 2 * 0 + _ ≤ _; exact Nat.le_of_eq rfl) (hb hby own_d_prog_24_method_2_code_15) (fun _ _ => ⟨rfl, (rfl : T34.heap = T34.heap), Nat.le_of_ble_eq_true rfl, Nat.le_of_ble_eq_true rfl⟩)
  dsimp only [Pt.U, Pt.locs, Pt.cells, Pt.slots] at X35 l35 y35 z35 st35 hQ35
  subst l35 y35 z35
  obtain ⟨rfl, M35, K35, F35, G35⟩ := hQ35
  have N35 := Fr.app N34 M35
  refine own_go (fun _ k => st35.trans k) ?_
  have z35 : T34.heap.size ≤ T35.heap.size := K35.1
  show own_E p e below _ T35 (mkF m 18 #[.val (.int m0)] [(.ref a31)])
  refine own_retA X35 hx Bd.returns rfl rfl hlk (hb hby own_d_prog_24_method_2_code_18) (by decide) (by decide) ?_
  exact ⟨_, _, _, _, rfl, N35, ((((((Keep.refl _ _).ext E31).trans K32 all0).trans K33 all0).trans K34 all0).trans K35 (allS (Or.inr (by omega)) all0)), ((((A31.keep K32).keep K33).keep K34).keep K35), F35, G35, (A34.keep K35), (F34.keep K35 (ninS (by omega) nin0)), (G34.keep K35 (ninS (by omega) nin0)), ((A33.keep K34).keep K35), ((F33.keep K34 nin0).keep K35 (ninS (by omega) nin0)), ((G33.keep K34 nin0).keep K35 (ninS (by omega) nin0)), (((A32.keep K33).keep K34).keep K35), (((F32.keep K33 nin0).keep K34 nin0).keep K35 (ninS (by omega) nin0))⟩

theorem own_ef15 (m : MethodId) (x0 : Addr) : entryFrame m #[(.ref x0)] 1 = mkF m 0 #[.val (.ref x0)] [] := by first | (simp [entryFrame, mkF, argsToLocals, Value.category]; done) | rfl
theorem own_d_prog_24_method_4_code_0 : decode prog_24_method_4_code 0 = .ok (.aload_n 0, 1) := by decide +kernel
theorem own_d_prog_24_method_4_code_1 : decode prog_24_method_4_code 1 = .ok (.getfield 13, 3) := by decide +kernel
theorem own_d_prog_24_method_4_code_4 : decode prog_24_method_4_code 4 = .ok (.ifnonnull 14, 3) := by decide +kernel
theorem own_d_prog_24_method_4_code_18 : decode prog_24_method_4_code 18 = .ok (.iconst 0, 1) := by decide +kernel
theorem own_d_prog_24_method_4_code_19 : decode prog_24_method_4_code 19 = .ok (.ireturn, 1) := by decide +kernel
set_option maxRecDepth 65536 in
set_option maxHeartbeats 40000000 in
theorem own_rmIT (l : Launch) (Z : State) (a0 : Array Value) (hw : ∀ d ∈ tables_1, d.before a0 Z = true) (ws : List Jvm.Cond) (a1 l0 : Addr) (h0 : Heap) (n0 : Nat) (Z0 : n0 ≤ h0.size) (F0 : Fld Z h0 a1 "com/example/minga/minga/policy/Alternatives" "sets" "Ljava/util/List;" (.ref l0)) :
    MetFree l (⟨"com/example/minga/minga/policy/Alternatives", "isTrue", "()Z"⟩ : MethodName) (head1 (Jvm.Cond.code (⟨"com/example/minga/minga/policy/Alternatives", "isTrue", "()Z"⟩ : MethodName) prog_24_method_4_code 1 (some .boolean) :: ws) ({ frames := 0, cells := 0, slots := 0, locals := 0 } : Room)) (fun a U => a = #[(.ref a1)] ∧ Z.Warmed39 U.vm ∧ U.heap = h0) (fun _ _ _ _ _ => True) (fun _ U o U' => ∃ v L, o = .returned v ∧ own_Q (.int 0) h0 n0 v U'.heap L ∧ FrameEnd U o U' L ({ frames := 0, cells := 0, slots := 0, locals := 0 } : Room).cells ({ frames := 0, cells := 0, slots := 0, locals := 0 } : Room).slots) := by
  refine MetFree.of_bodySF (plainFor_of_name own_pn11) hisR ?_
  intro p e s m args below meth c s₁ Bd hml0 hP hK
  obtain ⟨rfl, hZ, hh⟩ := hP
  have hx := Bd.exec
  have hby := Bd.bytes
  have hlk : meth.locks = false := Bd.notSynchronized
  have hml : c.maxLocals = 1 := hml0
  have hown : s.vm.findClass "com/example/minga/minga/policy/Alternatives" = some m.cls := findClass_of_methodNamed Bd.named
  have hnm := (name_of_methodNamed Bd.named Bd.method).1
  have X0 : Stand p l e ({ frames := 0, cells := 0, slots := 0, locals := 0 } : Room) s m #[(.ref a1)] below meth c s₁ [] 0 0 := Stand.of_body Bd
  have e0 : s₁.heap = h0 := by rw [← hh, Bd.state]; rfl
  have N0 := Fr.nil n0
  show own_E p e below (own_P s (own_Q (.int 0) h0 n0) ({ frames := 0, cells := 0, slots := 0, locals := 0 } : Room).cells ({ frames := 0, cells := 0, slots := 0, locals := 0 } : Room).slots) s₁ (entryFrame m #[(.ref a1)] 1)
  refine own_cast (own_ef15 m a1) ?_
  show own_E p e below _ s₁ (mkF m 0 #[.val (.ref a1)] [])
  refine own_aloadN X0 hx (hb hby own_d_prog_24_method_4_code_0) rfl rfl ?_
  show own_E p e below _ s₁ (mkF m 1 #[.val (.ref a1)] [(.ref a1)])
  obtain ⟨T36, X36, e36, st36⟩ := getF X0 hx hZ hown (host := "") (Or.inl (hw _ (List.mem_of_getElem? (i := 87) rfl))) Via.refl e0 F0 (g := (mkF m 1 #[.val (.ref a1)] [(.ref a1)])) rfl rfl (hb hby own_d_prog_24_method_4_code_1)
  refine own_go st36 ?_
  show own_E p e below _ T36 (mkF m 4 #[.val (.ref a1)] [(.ref l0)])
  refine own_nonnullYes X36 hx (hb hby own_d_prog_24_method_4_code_4) 18 (by decide) (by decide) ?_
  show own_E p e below _ T36 (mkF m 18 #[.val (.ref a1)] [])
  refine own_iconst X36 hx (hb hby own_d_prog_24_method_4_code_18) (v := (0 : Int32)) (by decide) ?_
  show own_E p e below _ T36 (mkF m 19 #[.val (.ref a1)] [(.int (0 : Int32))])
  refine own_retN X36 hx (t := .boolean) Bd.returns (by simp) hlk (hb hby own_d_prog_24_method_4_code_19) (z' := (0 : Int32)) (by decide) (by decide) (by decide) ?_
  rw [e36]
  exact ⟨rfl, N0, rfl⟩

theorem own_ef16 (m : MethodId) (x0 : Addr) : entryFrame m #[(.ref x0)] 1 = mkF m 0 #[.val (.ref x0)] [] := by first | (simp [entryFrame, mkF, argsToLocals, Value.category]; done) | rfl
theorem own_d_prog_24_method_5_code_0 : decode prog_24_method_5_code 0 = .ok (.aload_n 0, 1) := by decide +kernel
theorem own_d_prog_24_method_5_code_1 : decode prog_24_method_5_code 1 = .ok (.getfield 13, 3) := by decide +kernel
theorem own_d_prog_24_method_5_code_4 : decode prog_24_method_5_code 4 = .ok (.ifnonnull 14, 3) := by decide +kernel
theorem own_d_prog_24_method_5_code_18 : decode prog_24_method_5_code 18 = .ok (.iconst 0, 1) := by decide +kernel
theorem own_d_prog_24_method_5_code_19 : decode prog_24_method_5_code 19 = .ok (.ireturn, 1) := by decide +kernel
set_option maxRecDepth 65536 in
set_option maxHeartbeats 40000000 in
theorem own_rmIF (l : Launch) (Z : State) (a0 : Array Value) (hw : ∀ d ∈ tables_1, d.before a0 Z = true) (ws : List Jvm.Cond) (a1 l0 : Addr) (h0 : Heap) (n0 : Nat) (Z0 : n0 ≤ h0.size) (F0 : Fld Z h0 a1 "com/example/minga/minga/policy/Alternatives" "sets" "Ljava/util/List;" (.ref l0)) :
    MetFree l (⟨"com/example/minga/minga/policy/Alternatives", "isFalse", "()Z"⟩ : MethodName) (head1 (Jvm.Cond.code (⟨"com/example/minga/minga/policy/Alternatives", "isFalse", "()Z"⟩ : MethodName) prog_24_method_5_code 1 (some .boolean) :: ws) ({ frames := 0, cells := 0, slots := 0, locals := 0 } : Room)) (fun a U => a = #[(.ref a1)] ∧ Z.Warmed39 U.vm ∧ U.heap = h0) (fun _ _ _ _ _ => True) (fun _ U o U' => ∃ v L, o = .returned v ∧ own_Q (.int 0) h0 n0 v U'.heap L ∧ FrameEnd U o U' L ({ frames := 0, cells := 0, slots := 0, locals := 0 } : Room).cells ({ frames := 0, cells := 0, slots := 0, locals := 0 } : Room).slots) := by
  refine MetFree.of_bodySF (plainFor_of_name own_pn11) hisR ?_
  intro p e s m args below meth c s₁ Bd hml0 hP hK
  obtain ⟨rfl, hZ, hh⟩ := hP
  have hx := Bd.exec
  have hby := Bd.bytes
  have hlk : meth.locks = false := Bd.notSynchronized
  have hml : c.maxLocals = 1 := hml0
  have hown : s.vm.findClass "com/example/minga/minga/policy/Alternatives" = some m.cls := findClass_of_methodNamed Bd.named
  have hnm := (name_of_methodNamed Bd.named Bd.method).1
  have X0 : Stand p l e ({ frames := 0, cells := 0, slots := 0, locals := 0 } : Room) s m #[(.ref a1)] below meth c s₁ [] 0 0 := Stand.of_body Bd
  have e0 : s₁.heap = h0 := by rw [← hh, Bd.state]; rfl
  have N0 := Fr.nil n0
  show own_E p e below (own_P s (own_Q (.int 0) h0 n0) ({ frames := 0, cells := 0, slots := 0, locals := 0 } : Room).cells ({ frames := 0, cells := 0, slots := 0, locals := 0 } : Room).slots) s₁ (entryFrame m #[(.ref a1)] 1)
  refine own_cast (own_ef16 m a1) ?_
  show own_E p e below _ s₁ (mkF m 0 #[.val (.ref a1)] [])
  refine own_aloadN X0 hx (hb hby own_d_prog_24_method_5_code_0) rfl rfl ?_
  show own_E p e below _ s₁ (mkF m 1 #[.val (.ref a1)] [(.ref a1)])
  obtain ⟨T37, X37, e37, st37⟩ := getF X0 hx hZ hown (host := "") (Or.inl (hw _ (List.mem_of_getElem? (i := 87) rfl))) Via.refl e0 F0 (g := (mkF m 1 #[.val (.ref a1)] [(.ref a1)])) rfl rfl (hb hby own_d_prog_24_method_5_code_1)
  refine own_go st37 ?_
  show own_E p e below _ T37 (mkF m 4 #[.val (.ref a1)] [(.ref l0)])
  refine own_nonnullYes X37 hx (hb hby own_d_prog_24_method_5_code_4) 18 (by decide) (by decide) ?_
  show own_E p e below _ T37 (mkF m 18 #[.val (.ref a1)] [])
  refine own_iconst X37 hx (hb hby own_d_prog_24_method_5_code_18) (v := (0 : Int32)) (by decide) ?_
  show own_E p e below _ T37 (mkF m 19 #[.val (.ref a1)] [(.int (0 : Int32))])
  refine own_retN X37 hx (t := .boolean) Bd.returns (by simp) hlk (hb hby own_d_prog_24_method_5_code_19) (z' := (0 : Int32)) (by decide) (by decide) (by decide) ?_
  rw [e37]
  exact ⟨rfl, N0, rfl⟩

theorem own_ef17 (m : MethodId) (x0 : Addr) : entryFrame m #[(.ref x0)] 1 = mkF m 0 #[.val (.ref x0)] [] := by first | (simp [entryFrame, mkF, argsToLocals, Value.category]; done) | rfl
theorem own_d_prog_24_method_6_code_0 : decode prog_24_method_6_code 0 = .ok (.aload_n 0, 1) := by decide +kernel
theorem own_d_prog_24_method_6_code_1 : decode prog_24_method_6_code 1 = .ok (.getfield 13, 3) := by decide +kernel
theorem own_d_prog_24_method_6_code_4 : decode prog_24_method_6_code 4 = .ok (.ifnonnull 9, 3) := by decide +kernel
theorem own_d_prog_24_method_6_code_13 : decode prog_24_method_6_code 13 = .ok (.aload_n 0, 1) := by decide +kernel
theorem own_d_prog_24_method_6_code_14 : decode prog_24_method_6_code 14 = .ok (.getfield 13, 3) := by decide +kernel
theorem own_d_prog_24_method_6_code_17 : decode prog_24_method_6_code 17 = .ok (.areturn, 1) := by decide +kernel
set_option maxRecDepth 65536 in
set_option maxHeartbeats 40000000 in
theorem own_rmSE (l : Launch) (Z : State) (a0 : Array Value) (hw : ∀ d ∈ tables_1, d.before a0 Z = true) (ws : List Jvm.Cond) (a1 l0 : Addr) (h0 : Heap) (n0 : Nat) (Z0 : n0 ≤ h0.size) (F0 : Fld Z h0 a1 "com/example/minga/minga/policy/Alternatives" "sets" "Ljava/util/List;" (.ref l0)) :
    MetFree l (⟨"com/example/minga/minga/policy/Alternatives", "sets", "()Ljava/util/List;"⟩ : MethodName) (head1 (Jvm.Cond.code (⟨"com/example/minga/minga/policy/Alternatives", "sets", "()Ljava/util/List;"⟩ : MethodName) prog_24_method_6_code 1 (some (.object "java/util/List")) :: ws) ({ frames := 0, cells := 0, slots := 0, locals := 0 } : Room)) (fun a U => a = #[(.ref a1)] ∧ Z.Warmed39 U.vm ∧ U.heap = h0) (fun _ _ _ _ _ => True) (fun _ U o U' => ∃ v L, o = .returned v ∧ own_Q (.ref l0) h0 n0 v U'.heap L ∧ FrameEnd U o U' L ({ frames := 0, cells := 0, slots := 0, locals := 0 } : Room).cells ({ frames := 0, cells := 0, slots := 0, locals := 0 } : Room).slots) := by
  refine MetFree.of_bodySF (plainFor_of_name own_pn11) hisR ?_
  intro p e s m args below meth c s₁ Bd hml0 hP hK
  obtain ⟨rfl, hZ, hh⟩ := hP
  have hx := Bd.exec
  have hby := Bd.bytes
  have hlk : meth.locks = false := Bd.notSynchronized
  have hml : c.maxLocals = 1 := hml0
  have hown : s.vm.findClass "com/example/minga/minga/policy/Alternatives" = some m.cls := findClass_of_methodNamed Bd.named
  have hnm := (name_of_methodNamed Bd.named Bd.method).1
  have X0 : Stand p l e ({ frames := 0, cells := 0, slots := 0, locals := 0 } : Room) s m #[(.ref a1)] below meth c s₁ [] 0 0 := Stand.of_body Bd
  have e0 : s₁.heap = h0 := by rw [← hh, Bd.state]; rfl
  have N0 := Fr.nil n0
  show own_E p e below (own_P s (own_Q (.ref l0) h0 n0) ({ frames := 0, cells := 0, slots := 0, locals := 0 } : Room).cells ({ frames := 0, cells := 0, slots := 0, locals := 0 } : Room).slots) s₁ (entryFrame m #[(.ref a1)] 1)
  refine own_cast (own_ef17 m a1) ?_
  show own_E p e below _ s₁ (mkF m 0 #[.val (.ref a1)] [])
  refine own_aloadN X0 hx (hb hby own_d_prog_24_method_6_code_0) rfl rfl ?_
  show own_E p e below _ s₁ (mkF m 1 #[.val (.ref a1)] [(.ref a1)])
  obtain ⟨T38, X38, e38, st38⟩ := getF X0 hx hZ hown (host := "") (Or.inl (hw _ (List.mem_of_getElem? (i := 87) rfl))) Via.refl e0 F0 (g := (mkF m 1 #[.val (.ref a1)] [(.ref a1)])) rfl rfl (hb hby own_d_prog_24_method_6_code_1)
  refine own_go st38 ?_
  show own_E p e below _ T38 (mkF m 4 #[.val (.ref a1)] [(.ref l0)])
  refine own_nonnullYes X38 hx (hb hby own_d_prog_24_method_6_code_4) 13 (by decide) (by decide) ?_
  show own_E p e below _ T38 (mkF m 13 #[.val (.ref a1)] [])
  refine own_aloadN X38 hx (hb hby own_d_prog_24_method_6_code_13) rfl rfl ?_
  show own_E p e below _ T38 (mkF m 14 #[.val (.ref a1)] [(.ref a1)])
  obtain ⟨T39, X39, e39, st39⟩ := getF X38 hx hZ hown (host := "") (Or.inl (hw _ (List.mem_of_getElem? (i := 87) rfl))) Via.refl e38 F0 (g := (mkF m 14 #[.val (.ref a1)] [(.ref a1)])) rfl rfl (hb hby own_d_prog_24_method_6_code_14)
  refine own_go st39 ?_
  show own_E p e below _ T39 (mkF m 17 #[.val (.ref a1)] [(.ref l0)])
  refine own_retA X39 hx Bd.returns rfl rfl hlk (hb hby own_d_prog_24_method_6_code_17) (by decide) (by decide) ?_
  rw [e39]
  exact ⟨rfl, N0, rfl⟩

theorem own_ef18 (m : MethodId) (x0 : Addr) : entryFrame m #[(.ref x0)] 1 = mkF m 0 #[.val (.ref x0)] [] := by first | (simp [entryFrame, mkF, argsToLocals, Value.category]; done) | rfl
theorem own_d_jdk_44_method_3_code_0 : decode jdk_44_method_3_code 0 = .ok (.aload_n 0, 1) := by decide +kernel
theorem own_d_jdk_44_method_3_code_1 : decode jdk_44_method_3_code 1 = .ok (.getfield 24, 3) := by decide +kernel
theorem own_d_jdk_44_method_3_code_4 : decode jdk_44_method_3_code 4 = .ok (.getstatic 19, 3) := by decide +kernel
theorem own_d_jdk_44_method_3_code_7 : decode jdk_44_method_3_code 7 = .ok (.if_acmp .eq 7, 3) := by decide +kernel
theorem own_d_jdk_44_method_3_code_14 : decode jdk_44_method_3_code 14 = .ok (.iconst 1, 1) := by decide +kernel
theorem own_d_jdk_44_method_3_code_15 : decode jdk_44_method_3_code 15 = .ok (.ireturn, 1) := by decide +kernel
set_option maxRecDepth 65536 in
set_option maxHeartbeats 40000000 in
theorem own_rmLS (l : Launch) (Z : State) (a0 : Array Value) (hw : ∀ d ∈ tables_1, d.before a0 Z = true) (ws : List Jvm.Cond) (a1 we : Addr) (h0 : Heap) (n0 : Nat) (Z0 : n0 ≤ h0.size) (F0 : Fld Z h0 a1 "java/util/ImmutableCollections$List12" "e1" "Ljava/lang/Object;" (.ref we)) (O0 : Old Z n0 h0) (SE : Sta Z Z.heap "java/util/ImmutableCollections" "EMPTY" "Ljava/lang/Object;" (.ref we)) :
    MetFree l (⟨"java/util/ImmutableCollections$List12", "size", "()I"⟩ : MethodName) (head1 (Jvm.Cond.code (⟨"java/util/ImmutableCollections$List12", "size", "()I"⟩ : MethodName) jdk_44_method_3_code 1 (some .int) :: ws) ({ frames := 0, cells := 0, slots := 0, locals := 0 } : Room)) (fun a U => a = #[(.ref a1)] ∧ Z.Warmed39 U.vm ∧ U.heap = h0) (fun _ _ _ _ _ => True) (fun _ U o U' => ∃ v L, o = .returned v ∧ own_Q (.int 1) h0 n0 v U'.heap L ∧ FrameEnd U o U' L ({ frames := 0, cells := 0, slots := 0, locals := 0 } : Room).cells ({ frames := 0, cells := 0, slots := 0, locals := 0 } : Room).slots) := by
  refine MetFree.of_bodySF (plainFor_of_name own_pn9) hisR ?_
  intro p e s m args below meth c s₁ Bd hml0 hP hK
  obtain ⟨rfl, hZ, hh⟩ := hP
  have hx := Bd.exec
  have hby := Bd.bytes
  have hlk : meth.locks = false := Bd.notSynchronized
  have hml : c.maxLocals = 1 := hml0
  have hown : s.vm.findClass "java/util/ImmutableCollections$List12" = some m.cls := findClass_of_methodNamed Bd.named
  have hnm := (name_of_methodNamed Bd.named Bd.method).1
  have X0 : Stand p l e ({ frames := 0, cells := 0, slots := 0, locals := 0 } : Room) s m #[(.ref a1)] below meth c s₁ [] 0 0 := Stand.of_body Bd
  have e0 : s₁.heap = h0 := by rw [← hh, Bd.state]; rfl
  have N0 := Fr.nil n0
  show own_E p e below (own_P s (own_Q (.int 1) h0 n0) ({ frames := 0, cells := 0, slots := 0, locals := 0 } : Room).cells ({ frames := 0, cells := 0, slots := 0, locals := 0 } : Room).slots) s₁ (entryFrame m #[(.ref a1)] 1)
  refine own_cast (own_ef18 m a1) ?_
  show own_E p e below _ s₁ (mkF m 0 #[.val (.ref a1)] [])
  refine own_aloadN X0 hx (hb hby own_d_jdk_44_method_3_code_0) rfl rfl ?_
  show own_E p e below _ s₁ (mkF m 1 #[.val (.ref a1)] [(.ref a1)])
  obtain ⟨T40, X40, e40, st40⟩ := getF X0 hx hZ hown (host := "") (Or.inl (hw _ (List.mem_of_getElem? (i := 79) rfl))) Via.refl e0 F0 (g := (mkF m 1 #[.val (.ref a1)] [(.ref a1)])) rfl rfl (hb hby own_d_jdk_44_method_3_code_1)
  refine own_go st40 ?_
  show own_E p e below _ T40 (mkF m 4 #[.val (.ref a1)] [(.ref we)])
  obtain ⟨T41, X41, e41, st41⟩ := getS2 X40 hx hZ hown (Or.inr (hw _ (List.mem_of_getElem? (i := 78) rfl))) Via.refl e40 (SE.ext (O0).2) (g := (mkF m 4 #[.val (.ref a1)] [(.ref we)])) rfl (hb hby own_d_jdk_44_method_3_code_4)
  refine own_go st41 ?_
  show own_E p e below _ T41 (mkF m 7 #[.val (.ref a1)] [(.ref we), (.ref we)])
  refine own_acmpYes X41 hx (hb hby own_d_jdk_44_method_3_code_7) rfl rfl (Jvm.Free.XT.aa_eq_t rfl) 14 (by decide) (by decide) ?_
  show own_E p e below _ T41 (mkF m 14 #[.val (.ref a1)] [])
  refine own_iconst X41 hx (hb hby own_d_jdk_44_method_3_code_14) (v := (1 : Int32)) (by decide) ?_
  show own_E p e below _ T41 (mkF m 15 #[.val (.ref a1)] [(.int (1 : Int32))])
  refine own_retI X41 hx Bd.returns hlk (hb hby own_d_jdk_44_method_3_code_15) (by decide) (by decide) ?_
  rw [e41]
  exact ⟨rfl, N0, rfl⟩

theorem own_ef19 (m : MethodId) (x0 : Addr) : entryFrame m #[(.ref x0)] 1 = mkF m 0 #[.val (.ref x0)] [] := by first | (simp [entryFrame, mkF, argsToLocals, Value.category]; done) | rfl
theorem own_d_jdk_101_method_3_code_0 : decode jdk_101_method_3_code 0 = .ok (.aload_n 0, 1) := by decide +kernel
theorem own_d_jdk_101_method_3_code_1 : decode jdk_101_method_3_code 1 = .ok (.getfield 24, 3) := by decide +kernel
theorem own_d_jdk_101_method_3_code_4 : decode jdk_101_method_3_code 4 = .ok (.getstatic 19, 3) := by decide +kernel
theorem own_d_jdk_101_method_3_code_7 : decode jdk_101_method_3_code 7 = .ok (.if_acmp .ne 7, 3) := by decide +kernel
theorem own_d_jdk_101_method_3_code_10 : decode jdk_101_method_3_code 10 = .ok (.iconst 1, 1) := by decide +kernel
theorem own_d_jdk_101_method_3_code_11 : decode jdk_101_method_3_code 11 = .ok (.goto 4, 3) := by decide +kernel
theorem own_d_jdk_101_method_3_code_15 : decode jdk_101_method_3_code 15 = .ok (.ireturn, 1) := by decide +kernel
set_option maxRecDepth 65536 in
set_option maxHeartbeats 40000000 in
theorem own_rmSS (l : Launch) (Z : State) (a0 : Array Value) (hw : ∀ d ∈ tables_1, d.before a0 Z = true) (ws : List Jvm.Cond) (a1 we : Addr) (h0 : Heap) (n0 : Nat) (Z0 : n0 ≤ h0.size) (F0 : Fld Z h0 a1 "java/util/ImmutableCollections$Set12" "e1" "Ljava/lang/Object;" (.ref we)) (O0 : Old Z n0 h0) (SE : Sta Z Z.heap "java/util/ImmutableCollections" "EMPTY" "Ljava/lang/Object;" (.ref we)) :
    MetFree l (⟨"java/util/ImmutableCollections$Set12", "size", "()I"⟩ : MethodName) (head1 (Jvm.Cond.code (⟨"java/util/ImmutableCollections$Set12", "size", "()I"⟩ : MethodName) jdk_101_method_3_code 1 (some .int) :: ws) ({ frames := 0, cells := 0, slots := 0, locals := 0 } : Room)) (fun a U => a = #[(.ref a1)] ∧ Z.Warmed39 U.vm ∧ U.heap = h0) (fun _ _ _ _ _ => True) (fun _ U o U' => ∃ v L, o = .returned v ∧ own_Q (.int 1) h0 n0 v U'.heap L ∧ FrameEnd U o U' L ({ frames := 0, cells := 0, slots := 0, locals := 0 } : Room).cells ({ frames := 0, cells := 0, slots := 0, locals := 0 } : Room).slots) := by
  refine MetFree.of_bodySF (plainFor_of_name own_pn7) hisR ?_
  intro p e s m args below meth c s₁ Bd hml0 hP hK
  obtain ⟨rfl, hZ, hh⟩ := hP
  have hx := Bd.exec
  have hby := Bd.bytes
  have hlk : meth.locks = false := Bd.notSynchronized
  have hml : c.maxLocals = 1 := hml0
  have hown : s.vm.findClass "java/util/ImmutableCollections$Set12" = some m.cls := findClass_of_methodNamed Bd.named
  have hnm := (name_of_methodNamed Bd.named Bd.method).1
  have X0 : Stand p l e ({ frames := 0, cells := 0, slots := 0, locals := 0 } : Room) s m #[(.ref a1)] below meth c s₁ [] 0 0 := Stand.of_body Bd
  have e0 : s₁.heap = h0 := by rw [← hh, Bd.state]; rfl
  have N0 := Fr.nil n0
  show own_E p e below (own_P s (own_Q (.int 1) h0 n0) ({ frames := 0, cells := 0, slots := 0, locals := 0 } : Room).cells ({ frames := 0, cells := 0, slots := 0, locals := 0 } : Room).slots) s₁ (entryFrame m #[(.ref a1)] 1)
  refine own_cast (own_ef19 m a1) ?_
  show own_E p e below _ s₁ (mkF m 0 #[.val (.ref a1)] [])
  refine own_aloadN X0 hx (hb hby own_d_jdk_101_method_3_code_0) rfl rfl ?_
  show own_E p e below _ s₁ (mkF m 1 #[.val (.ref a1)] [(.ref a1)])
  obtain ⟨T42, X42, e42, st42⟩ := getF X0 hx hZ hown (host := "") (Or.inl (hw _ (List.mem_of_getElem? (i := 53) rfl))) Via.refl e0 F0 (g := (mkF m 1 #[.val (.ref a1)] [(.ref a1)])) rfl rfl (hb hby own_d_jdk_101_method_3_code_1)
  refine own_go st42 ?_
  show own_E p e below _ T42 (mkF m 4 #[.val (.ref a1)] [(.ref we)])
  obtain ⟨T43, X43, e43, st43⟩ := getS2 X42 hx hZ hown (Or.inr (hw _ (List.mem_of_getElem? (i := 51) rfl))) Via.refl e42 (SE.ext (O0).2) (g := (mkF m 4 #[.val (.ref a1)] [(.ref we)])) rfl (hb hby own_d_jdk_101_method_3_code_4)
  refine own_go st43 ?_
  show own_E p e below _ T43 (mkF m 7 #[.val (.ref a1)] [(.ref we), (.ref we)])
  refine own_acmpNo X43 hx (hb hby own_d_jdk_101_method_3_code_7) rfl rfl (by decide) (Jvm.Free.XT.aa_ne_f rfl) ?_
  show own_E p e below _ T43 (mkF m 10 #[.val (.ref a1)] [])
  refine own_iconst X43 hx (hb hby own_d_jdk_101_method_3_code_10) (v := (1 : Int32)) (by decide) ?_
  show own_E p e below _ T43 (mkF m 11 #[.val (.ref a1)] [(.int (1 : Int32))])
  refine own_goto X43 hx (hb hby own_d_jdk_101_method_3_code_11) 15 (by decide) (by decide) ?_
  show own_E p e below _ T43 (mkF m 15 #[.val (.ref a1)] [(.int (1 : Int32))])
  refine own_retI X43 hx Bd.returns hlk (hb hby own_d_jdk_101_method_3_code_15) (by decide) (by decide) ?_
  rw [e43]
  exact ⟨rfl, N0, rfl⟩

theorem own_ef20 (m : MethodId) (x0 : Addr) (x1 : Int32) : entryFrame m #[(.ref x0), (.int x1)] 2 = mkF m 0 #[.val (.ref x0), .val (.int x1)] [] := by first | (simp [entryFrame, mkF, argsToLocals, Value.category]; done) | rfl
theorem own_d_jdk_44_method_5_code_0 : decode jdk_44_method_5_code 0 = .ok (.iload_n 1, 1) := by decide +kernel
theorem own_d_jdk_44_method_5_code_1 : decode jdk_44_method_5_code 1 = .ok (.ifCond .ne 8, 3) := by decide +kernel
theorem own_d_jdk_44_method_5_code_4 : decode jdk_44_method_5_code 4 = .ok (.aload_n 0, 1) := by decide +kernel
theorem own_d_jdk_44_method_5_code_5 : decode jdk_44_method_5_code 5 = .ok (.getfield 13, 3) := by decide +kernel
theorem own_d_jdk_44_method_5_code_8 : decode jdk_44_method_5_code 8 = .ok (.areturn, 1) := by decide +kernel
set_option maxRecDepth 65536 in
set_option maxHeartbeats 40000000 in
theorem own_rmLG (l : Launch) (Z : State) (a0 : Array Value) (hw : ∀ d ∈ tables_1, d.before a0 Z = true) (ws : List Jvm.Cond) (a1 b0 : Addr) (h0 : Heap) (n0 : Nat) (Z0 : n0 ≤ h0.size) (F0 : Fld Z h0 a1 "java/util/ImmutableCollections$List12" "e0" "Ljava/lang/Object;" (.ref b0)) :
    MetFree l (⟨"java/util/ImmutableCollections$List12", "get", "(I)Ljava/lang/Object;"⟩ : MethodName) (head1 (Jvm.Cond.code (⟨"java/util/ImmutableCollections$List12", "get", "(I)Ljava/lang/Object;"⟩ : MethodName) jdk_44_method_5_code 2 (some (.object "java/lang/Object")) :: ws) ({ frames := 0, cells := 0, slots := 0, locals := 0 } : Room)) (fun a U => a = #[(.ref a1), (.int (0 : Int32))] ∧ Z.Warmed39 U.vm ∧ U.heap = h0) (fun _ _ _ _ _ => True) (fun _ U o U' => ∃ v L, o = .returned v ∧ own_Q (.ref b0) h0 n0 v U'.heap L ∧ FrameEnd U o U' L ({ frames := 0, cells := 0, slots := 0, locals := 0 } : Room).cells ({ frames := 0, cells := 0, slots := 0, locals := 0 } : Room).slots) := by
  refine MetFree.of_bodySF (plainFor_of_name own_pn9) hisR ?_
  intro p e s m args below meth c s₁ Bd hml0 hP hK
  obtain ⟨rfl, hZ, hh⟩ := hP
  have hx := Bd.exec
  have hby := Bd.bytes
  have hlk : meth.locks = false := Bd.notSynchronized
  have hml : c.maxLocals = 2 := hml0
  have hown : s.vm.findClass "java/util/ImmutableCollections$List12" = some m.cls := findClass_of_methodNamed Bd.named
  have hnm := (name_of_methodNamed Bd.named Bd.method).1
  have X0 : Stand p l e ({ frames := 0, cells := 0, slots := 0, locals := 0 } : Room) s m #[(.ref a1), (.int (0 : Int32))] below meth c s₁ [] 0 0 := Stand.of_body Bd
  have e0 : s₁.heap = h0 := by rw [← hh, Bd.state]; rfl
  have N0 := Fr.nil n0
  show own_E p e below (own_P s (own_Q (.ref b0) h0 n0) ({ frames := 0, cells := 0, slots := 0, locals := 0 } : Room).cells ({ frames := 0, cells := 0, slots := 0, locals := 0 } : Room).slots) s₁ (entryFrame m #[(.ref a1), (.int (0 : Int32))] 2)
  refine own_cast (own_ef20 m a1 (0 : Int32)) ?_
  show own_E p e below _ s₁ (mkF m 0 #[.val (.ref a1), .val (.int (0 : Int32))] [])
  refine own_iloadN X0 hx (hb hby own_d_jdk_44_method_5_code_0) rfl ?_
  show own_E p e below _ s₁ (mkF m 1 #[.val (.ref a1), .val (.int (0 : Int32))] [(.int (0 : Int32))])
  refine own_ifNo X0 hx (hb hby own_d_jdk_44_method_5_code_1) (by decide +kernel) ?_
  show own_E p e below _ s₁ (mkF m 4 #[.val (.ref a1), .val (.int (0 : Int32))] [])
  refine own_aloadN X0 hx (hb hby own_d_jdk_44_method_5_code_4) rfl rfl ?_
  show own_E p e below _ s₁ (mkF m 5 #[.val (.ref a1), .val (.int (0 : Int32))] [(.ref a1)])
  obtain ⟨T44, X44, e44, st44⟩ := getF X0 hx hZ hown (host := "") (Or.inl (hw _ (List.mem_of_getElem? (i := 76) rfl))) Via.refl e0 F0 (g := (mkF m 5 #[.val (.ref a1), .val (.int (0 : Int32))] [(.ref a1)])) rfl rfl (hb hby own_d_jdk_44_method_5_code_5)
  refine own_go st44 ?_
  show own_E p e below _ T44 (mkF m 8 #[.val (.ref a1), .val (.int (0 : Int32))] [(.ref b0)])
  refine own_retA X44 hx Bd.returns rfl rfl hlk (hb hby own_d_jdk_44_method_5_code_8) (by decide) (by decide) ?_
  rw [e44]
  exact ⟨rfl, N0, rfl⟩

theorem own_ef21 (m : MethodId) (x0 : Addr) : entryFrame m #[(.ref x0)] 1 = mkF m 0 #[.val (.ref x0)] [] := by first | (simp [entryFrame, mkF, argsToLocals, Value.category]; done) | rfl
theorem own_d_jdk_33_method_27_code_0 : decode jdk_33_method_27_code 0 = .ok (.aload_n 0, 1) := by decide +kernel
theorem own_d_jdk_33_method_27_code_1 : decode jdk_33_method_27_code 1 = .ok (.getfield 205, 3) := by decide +kernel
theorem own_d_jdk_33_method_27_code_4 : decode jdk_33_method_27_code 4 = .ok (.ireturn, 1) := by decide +kernel
set_option maxRecDepth 65536 in
set_option maxHeartbeats 40000000 in
theorem own_rmIV (l : Launch) (Z : State) (a0 : Array Value) (hw : ∀ d ∈ tables_1, d.before a0 Z = true) (ws : List Jvm.Cond) (a1 : Addr) (m0 : Int32) (h0 : Heap) (n0 : Nat) (Z0 : n0 ≤ h0.size) (F0 : Fld Z h0 a1 "java/lang/Integer" "value" "I" (.int m0)) :
    MetFree l (⟨"java/lang/Integer", "intValue", "()I"⟩ : MethodName) (head1 (Jvm.Cond.code (⟨"java/lang/Integer", "intValue", "()I"⟩ : MethodName) jdk_33_method_27_code 1 (some .int) :: ws) ({ frames := 0, cells := 0, slots := 0, locals := 0 } : Room)) (fun a U => a = #[(.ref a1)] ∧ Z.Warmed39 U.vm ∧ U.heap = h0) (fun _ _ _ _ _ => True) (fun _ U o U' => ∃ v L, o = .returned v ∧ own_Q (.int m0) h0 n0 v U'.heap L ∧ FrameEnd U o U' L ({ frames := 0, cells := 0, slots := 0, locals := 0 } : Room).cells ({ frames := 0, cells := 0, slots := 0, locals := 0 } : Room).slots) := by
  refine MetFree.of_bodySF (plainFor_of_name own_pn5) hisR ?_
  intro p e s m args below meth c s₁ Bd hml0 hP hK
  obtain ⟨rfl, hZ, hh⟩ := hP
  have hx := Bd.exec
  have hby := Bd.bytes
  have hlk : meth.locks = false := Bd.notSynchronized
  have hml : c.maxLocals = 1 := hml0
  have hown : s.vm.findClass "java/lang/Integer" = some m.cls := findClass_of_methodNamed Bd.named
  have hnm := (name_of_methodNamed Bd.named Bd.method).1
  have X0 : Stand p l e ({ frames := 0, cells := 0, slots := 0, locals := 0 } : Room) s m #[(.ref a1)] below meth c s₁ [] 0 0 := Stand.of_body Bd
  have e0 : s₁.heap = h0 := by rw [← hh, Bd.state]; rfl
  have N0 := Fr.nil n0
  show own_E p e below (own_P s (own_Q (.int m0) h0 n0) ({ frames := 0, cells := 0, slots := 0, locals := 0 } : Room).cells ({ frames := 0, cells := 0, slots := 0, locals := 0 } : Room).slots) s₁ (entryFrame m #[(.ref a1)] 1)
  refine own_cast (own_ef21 m a1) ?_
  show own_E p e below _ s₁ (mkF m 0 #[.val (.ref a1)] [])
  refine own_aloadN X0 hx (hb hby own_d_jdk_33_method_27_code_0) rfl rfl ?_
  show own_E p e below _ s₁ (mkF m 1 #[.val (.ref a1)] [(.ref a1)])
  obtain ⟨T45, X45, e45, st45⟩ := getF X0 hx hZ hown (host := "") (Or.inl (hw _ (List.mem_of_getElem? (i := 148) rfl))) Via.refl e0 F0 (g := (mkF m 1 #[.val (.ref a1)] [(.ref a1)])) rfl rfl (hb hby own_d_jdk_33_method_27_code_1)
  refine own_go st45 ?_
  show own_E p e below _ T45 (mkF m 4 #[.val (.ref a1)] [(.int m0)])
  refine own_retI X45 hx Bd.returns hlk (hb hby own_d_jdk_33_method_27_code_4) (by decide) (by decide) ?_
  rw [e45]
  exact ⟨rfl, N0, rfl⟩

def own_eq (m n : Int32) : Int32 := if m = n then 1 else 0
theorem own_ef22 (m : MethodId) (x0 : Addr) (x1 : Addr) : entryFrame m #[(.ref x0), (.ref x1)] 2 = mkF m 0 #[.val (.ref x0), .val (.ref x1)] [] := by first | (simp [entryFrame, mkF, argsToLocals, Value.category]; done) | rfl
theorem own_d_jdk_33_method_34_code_0 : decode jdk_33_method_34_code 0 = .ok (.aload_n 1, 1) := by decide +kernel
theorem own_d_jdk_33_method_34_code_1 : decode jdk_33_method_34_code 1 = .ok (.instanceof 1, 3) := by decide +kernel
theorem own_d_jdk_33_method_34_code_4 : decode jdk_33_method_34_code 4 = .ok (.ifCond .eq 23, 3) := by decide +kernel
theorem own_d_jdk_33_method_34_code_7 : decode jdk_33_method_34_code 7 = .ok (.aload_n 0, 1) := by decide +kernel
theorem own_d_jdk_33_method_34_code_8 : decode jdk_33_method_34_code 8 = .ok (.getfield 205, 3) := by decide +kernel
theorem own_d_jdk_33_method_34_code_11 : decode jdk_33_method_34_code 11 = .ok (.aload_n 1, 1) := by decide +kernel
theorem own_d_jdk_33_method_34_code_12 : decode jdk_33_method_34_code 12 = .ok (.checkcast 1, 3) := by decide +kernel
theorem own_pd8 : parseMethodDescriptor "()I" = some ⟨[], some .int⟩ := by decide +kernel
theorem own_d_jdk_33_method_34_code_15 : decode jdk_33_method_34_code 15 = .ok (.invokevirtual 211, 3) := by decide +kernel
theorem own_d_jdk_33_method_34_code_18 : decode jdk_33_method_34_code 18 = .ok (.if_icmp .ne 7, 3) := by decide +kernel
theorem own_d_jdk_33_method_34_code_21 : decode jdk_33_method_34_code 21 = .ok (.iconst 1, 1) := by decide +kernel
theorem own_d_jdk_33_method_34_code_22 : decode jdk_33_method_34_code 22 = .ok (.goto 4, 3) := by decide +kernel
theorem own_d_jdk_33_method_34_code_26 : decode jdk_33_method_34_code 26 = .ok (.ireturn, 1) := by decide +kernel
theorem own_d_jdk_33_method_34_code_25 : decode jdk_33_method_34_code 25 = .ok (.iconst 0, 1) := by decide +kernel
set_option maxRecDepth 65536 in
set_option maxHeartbeats 40000000 in
theorem own_rmIE (l : Launch) (Z : State) (a0 : Array Value) (hw : ∀ d ∈ tables_1, d.before a0 Z = true) (ws : List Jvm.Cond) (a1 b1 : Addr) (m0 m1 : Int32) (h0 : Heap) (n0 : Nat) (Z0 : n0 ≤ h0.size) (A0 : Exa Z h0 a1 "java/lang/Integer") (F0 : Fld Z h0 a1 "java/lang/Integer" "value" "I" (.int m0)) (A1 : Exa Z h0 b1 "java/lang/Integer") (F1 : Fld Z h0 b1 "java/lang/Integer" "value" "I" (.int m1)) :
    MetFree l (⟨"java/lang/Integer", "equals", "(Ljava/lang/Object;)Z"⟩ : MethodName) (head1 (Jvm.Cond.code (⟨"java/lang/Integer", "equals", "(Ljava/lang/Object;)Z"⟩ : MethodName) jdk_33_method_34_code 2 (some .boolean) :: ws) ({ frames := 1, cells := 0, slots := 0, locals := 20 } : Room)) (fun a U => a = #[(.ref a1), (.ref b1)] ∧ Z.Warmed39 U.vm ∧ U.heap = h0) (fun _ _ _ _ _ => True) (fun _ U o U' => ∃ v L, o = .returned v ∧ own_Q (.int (own_eq m0 m1)) h0 n0 v U'.heap L ∧ FrameEnd U o U' L ({ frames := 1, cells := 0, slots := 0, locals := 20 } : Room).cells ({ frames := 1, cells := 0, slots := 0, locals := 20 } : Room).slots) := by
  refine MetFree.of_bodySF (plainFor_of_name own_pn5) hisR ?_
  intro p e s m args below meth c s₁ Bd hml0 hP hK
  obtain ⟨rfl, hZ, hh⟩ := hP
  have hx := Bd.exec
  have hby := Bd.bytes
  have hlk : meth.locks = false := Bd.notSynchronized
  have hml : c.maxLocals = 2 := hml0
  have hown : s.vm.findClass "java/lang/Integer" = some m.cls := findClass_of_methodNamed Bd.named
  have hnm := (name_of_methodNamed Bd.named Bd.method).1
  have X0 : Stand p l e ({ frames := 1, cells := 0, slots := 0, locals := 20 } : Room) s m #[(.ref a1), (.ref b1)] below meth c s₁ [] 0 0 := Stand.of_body Bd
  have e0 : s₁.heap = h0 := by rw [← hh, Bd.state]; rfl
  have N0 := Fr.nil n0
  show own_E p e below (own_P s (own_Q (.int (own_eq m0 m1)) h0 n0) ({ frames := 1, cells := 0, slots := 0, locals := 20 } : Room).cells ({ frames := 1, cells := 0, slots := 0, locals := 20 } : Room).slots) s₁ (entryFrame m #[(.ref a1), (.ref b1)] 2)
  refine own_cast (own_ef22 m a1 b1) ?_
  show own_E p e below _ s₁ (mkF m 0 #[.val (.ref a1), .val (.ref b1)] [])
  refine own_aloadN X0 hx (hb hby own_d_jdk_33_method_34_code_0) rfl rfl ?_
  show own_E p e below _ s₁ (mkF m 1 #[.val (.ref a1), .val (.ref b1)] [(.ref b1)])
  obtain ⟨T46, X46, e46, st46⟩ := instY X0 hx hZ hown (hw _ (List.mem_of_getElem? (i := 146) rfl)) e0 (Ins.self A1) (g := (mkF m 1 #[.val (.ref a1), .val (.ref b1)] [(.ref b1)])) rfl rfl (hb hby own_d_jdk_33_method_34_code_1)
  refine own_go st46 ?_
  show own_E p e below _ T46 (mkF m 4 #[.val (.ref a1), .val (.ref b1)] [(.int (1 : Int32))])
  refine own_ifNo X46 hx (hb hby own_d_jdk_33_method_34_code_4) (by decide +kernel) ?_
  show own_E p e below _ T46 (mkF m 7 #[.val (.ref a1), .val (.ref b1)] [])
  refine own_aloadN X46 hx (hb hby own_d_jdk_33_method_34_code_7) rfl rfl ?_
  show own_E p e below _ T46 (mkF m 8 #[.val (.ref a1), .val (.ref b1)] [(.ref a1)])
  obtain ⟨T47, X47, e47, st47⟩ := getF X46 hx hZ hown (host := "") (Or.inl (hw _ (List.mem_of_getElem? (i := 148) rfl))) Via.refl e46 F0 (g := (mkF m 8 #[.val (.ref a1), .val (.ref b1)] [(.ref a1)])) rfl rfl (hb hby own_d_jdk_33_method_34_code_8)
  refine own_go st47 ?_
  show own_E p e below _ T47 (mkF m 11 #[.val (.ref a1), .val (.ref b1)] [(.int m0)])
  refine own_aloadN X47 hx (hb hby own_d_jdk_33_method_34_code_11) rfl rfl ?_
  show own_E p e below _ T47 (mkF m 12 #[.val (.ref a1), .val (.ref b1)] [(.ref b1), (.int m0)])
  obtain ⟨T48, X48, e48, st48⟩ := castY X47 hx hZ hown (hw _ (List.mem_of_getElem? (i := 146) rfl)) e47 (Ins.self A1) (g := (mkF m 12 #[.val (.ref a1), .val (.ref b1)] [(.ref b1), (.int m0)])) rfl rfl (hb hby own_d_jdk_33_method_34_code_12)
  refine own_go st48 ?_
  show own_E p e below _ T48 (mkF m 15 #[.val (.ref a1), .val (.ref b1)] [(.ref b1), (.int m0)])
  obtain ⟨cq49, kq49, qa49, qb49, qc49⟩ := isOf hZ e48 A1
  obtain ⟨_, _, ⟨T49, L49, k49, n49⟩, -, X49, ⟨Lc49, hQ49, l49, y49, z49⟩, st49⟩ := X48.virtualBack hx (y := (⟨"java/lang/Integer", "intValue", "()I"⟩ : MethodName)) (z := (⟨"java/lang/Integer", "intValue", "()I"⟩ : MethodName)) hown (mvT hZ (hw _ (List.mem_of_getElem? (i := 150) rfl))) (mvT hZ (hw _ (List.mem_of_getElem? (i := 151) rfl))) (notFace_of_selects (args := #[]) (mvT hZ (hw _ (List.mem_of_getElem? (i := 153) rfl)))) (mvT hZ (hw _ (List.mem_of_getElem? (i := 153) rfl))) (mvT hZ (hw _ (List.mem_of_getElem? (i := 152) rfl))) (by decide) (backOf (W := 1) (own_rmIV l Z a0 hw [] b1 m1 h0 n0 Z0 F1) hZ (hw _ (List.mem_of_getElem? (i := 154) rfl)) (hw _ (List.mem_of_getElem? (i := 8) rfl)) (by decide) (by decide)) qa49 qc49 (g := (mkF m 15 #[.val (.ref a1), .val (.ref b1)] [(.ref b1), (.int m0)])) rfl (by rw [hml]; rfl) (Steps.refl _) (argsL := []) (rest := [(.int m0)]) (lenOf own_pd8 rfl) rfl (by show 2 * 0 + _ ≤ _; exact Nat.le_of_eq rfl) (hb hby own_d_jdk_33_method_34_code_15) (fun _ _ => ⟨rfl, e48, Nat.le_of_ble_eq_true rfl, Nat.le_of_ble_eq_true rfl⟩)
  dsimp only [Pt.U, Pt.locs, Pt.cells, Pt.slots] at X49 l49 y49 z49 st49 hQ49
  subst l49 y49 z49
  obtain ⟨rfl, M49, e49⟩ := hQ49
  have N49 := Fr.app N0 M49
  refine own_go (fun _ k => st49.trans k) ?_
  show own_E p e below _ T49 (mkF m 18 #[.val (.ref a1), .val (.ref b1)] [(.int m1), (.int m0)])
  by_cases hc : m0 = m1
  · skip
    refine own_icmpNo X49 hx (hb hby own_d_jdk_33_method_34_code_18) (Jvm.Free.XT.ii_ne_f hc) ?_
    show own_E p e below _ T49 (mkF m 21 #[.val (.ref a1), .val (.ref b1)] [])
    refine own_iconst X49 hx (hb hby own_d_jdk_33_method_34_code_21) (v := (1 : Int32)) (by decide) ?_
    show own_E p e below _ T49 (mkF m 22 #[.val (.ref a1), .val (.ref b1)] [(.int (1 : Int32))])
    refine own_goto X49 hx (hb hby own_d_jdk_33_method_34_code_22) 26 (by decide) (by decide) ?_
    show own_E p e below _ T49 (mkF m 26 #[.val (.ref a1), .val (.ref b1)] [(.int (1 : Int32))])
    refine own_retN X49 hx (t := .boolean) Bd.returns (by simp) hlk (hb hby own_d_jdk_33_method_34_code_26) (z' := (1 : Int32)) (by decide) (by decide) (by decide) ?_
    rw [e49]
    exact ⟨by rw [own_eq, if_pos hc], N49, rfl⟩
  · skip
    refine own_icmpYes X49 hx (hb hby own_d_jdk_33_method_34_code_18) (Jvm.Free.XT.ii_ne_t hc) 25 (by decide) (by decide) ?_
    show own_E p e below _ T49 (mkF m 25 #[.val (.ref a1), .val (.ref b1)] [])
    refine own_iconst X49 hx (hb hby own_d_jdk_33_method_34_code_25) (v := (0 : Int32)) (by decide) ?_
    show own_E p e below _ T49 (mkF m 26 #[.val (.ref a1), .val (.ref b1)] [(.int (0 : Int32))])
    refine own_retN X49 hx (t := .boolean) Bd.returns (by simp) hlk (hb hby own_d_jdk_33_method_34_code_26) (z' := (0 : Int32)) (by decide) (by decide) (by decide) ?_
    rw [e49]
    exact ⟨by rw [own_eq, if_neg hc], N49, rfl⟩

theorem own_d_object_method_4_code_0 : decode object_method_4_code 0 = .ok (.aload_n 0, 1) := by decide +kernel
theorem own_d_object_method_4_code_1 : decode object_method_4_code 1 = .ok (.aload_n 1, 1) := by decide +kernel
theorem own_d_object_method_4_code_2 : decode object_method_4_code 2 = .ok (.if_acmp .ne 7, 3) := by decide +kernel
theorem own_d_object_method_4_code_9 : decode object_method_4_code 9 = .ok (.iconst 0, 1) := by decide +kernel
theorem own_d_object_method_4_code_10 : decode object_method_4_code 10 = .ok (.ireturn, 1) := by decide +kernel
theorem own_efOE (m : MethodId) (x0 x1 : Addr) : entryFrame m #[(.ref x0), (.ref x1)] 2 = mkF m 0 #[.val (.ref x0), .val (.ref x1)] [] := by first | (simp [entryFrame, mkF, argsToLocals, Value.category]; done) | rfl
set_option maxRecDepth 65536 in
set_option maxHeartbeats 40000000 in
/-- Object.equals, paid without a word on the class's beginning: the callee is walked in its place (Stand.through) -/
theorem own_backOE {p : Program} {l : Launch} {e : Env} {R : Room} {s : State} {args : Array Value} {below : List Frame} {Z : State} {a0 : Array Value} {h : Heap} {n0 len W : Nat} {a1 b1 : Addr} (hx : p.tables.exec = Jvm.exec) (hZ : Z.Warmed39 s.vm) (wc : (Jvm.Cond.code (⟨"java/lang/Object", "equals", "(Ljava/lang/Object;)Z"⟩ : MethodName) object_method_4_code 2 (some .boolean)).before a0 Z = true) (hf : 1 ≤ R.frames) (hl : W + 13 ≤ R.locals) (d0 : a1 ≠ b1) :
    Back l R p e below s args (⟨"java/lang/Object", "equals", "(Ljava/lang/Object;)Z"⟩ : MethodName) len W (fun A a => a = #[.ref a1, .ref b1] ∧ A.U.heap = h ∧ A.cells + 0 ≤ R.cells ∧ A.slots + 0 ≤ R.slots) (fun A _ v B => ∃ L, own_Q (.int 0) h n0 v B.U.heap L ∧ B.locs = A.locs ++ L ∧ B.cells = A.cells + 0 ∧ B.slots = A.slots + 0) := by
  intro m meth c A g ig mk a X hg hsize hdg hW hn hp
  obtain ⟨rfl, hh, hc, hs⟩ := hp
  have hU : Z.Warmed39 A.U.vm := wtrans hZ X.warmed
  obtain ⟨methk, ck, hmk, hck, hbytes, hml, hret, hlk, -⟩ := Cond.code_spec hn (mv (args := #[]) hU wc)
  obtain ⟨v, T', U₁, L₁, c₁, n₁, X', ⟨rfl, rfl, rfl, rfl, hh1⟩, e1, e2, hW', st⟩ := X.through hg hsize hdg #[.ref a1, .ref b1] (R' := ({ frames := 0, cells := 0, slots := 0, locals := 0 } : Room)) hmk hck hlk (State.plainMethod.of_named (by decide +kernel) hn hmk) hf (by rw [hml]; show _ + (2 + 11) + 0 ≤ _; omega) hc hs (Φ := fun v U L c n => v = some (.int 0) ∧ L = [] ∧ c = 0 ∧ n = 0 ∧ U.heap = A.U.heap) (by
    intro U₀ hU₀ Y
    refine ⟨some (.int 0), U₀, [], 0, 0, Y, (fun q => by rw [hret] at q; cases q), ⟨rfl, rfl, rfl, rfl, by rw [hU₀]; rfl⟩, fun fs hl => ?_⟩
    rw [hml]
    refine castTop (own_efOE mk a1 b1) ?_
    refine XS.aloadN Y.here hx rfl (hb hbytes own_d_object_method_4_code_0) rfl rfl ?_
    refine XS.aloadN Y.here hx rfl (hb hbytes own_d_object_method_4_code_1) rfl rfl ?_
    show Steps p.tables e (.java g :: below) (U₀.setTop (mkF mk 2 #[.val (.ref a1), .val (.ref b1)] [.ref b1, .ref a1])) _
    refine Jvm.RoadKit.acmp (g := (mkF mk 2 #[.val (.ref a1), .val (.ref b1)] [(.ref b1), (.ref a1)])) Y hx rfl rfl rfl (pc0 := 2) (pc' := 9) (same := false) rfl (hb hbytes own_d_object_method_4_code_2) rfl (decide_eq_false (fun q => d0 (Value.ref.inj q))) (by decide) (by decide) ?_
    refine XS.iconst Y.here hx rfl (hb hbytes own_d_object_method_4_code_9) ?_
    exact retN Y hx (t := .boolean) hret (by simp) (hb hbytes own_d_object_method_4_code_10) hl)
  exact ⟨_, ⟨T', A.locs ++ [], A.cells + 0, A.slots + 0⟩, X', ⟨[], ⟨rfl, Fr.nil n0, by rw [e1, hh1]; exact hh⟩, rfl, rfl, rfl⟩, st⟩
theorem own_ef23 (m : MethodId) (x0 : Addr) (x1 : Addr) : entryFrame m #[(.ref x0), (.ref x1)] 2 = mkF m 0 #[.val (.ref x0), .val (.ref x1)] [] := by first | (simp [entryFrame, mkF, argsToLocals, Value.category]; done) | rfl
theorem own_d_jdk_101_method_5_code_0 : decode jdk_101_method_5_code 0 = .ok (.aload_n 1, 1) := by decide +kernel
theorem own_d_jdk_101_method_5_code_1 : decode jdk_101_method_5_code 1 = .ok (.aload_n 0, 1) := by decide +kernel
theorem own_d_jdk_101_method_5_code_2 : decode jdk_101_method_5_code 2 = .ok (.getfield 13, 3) := by decide +kernel
theorem own_pd9 : parseMethodDescriptor "(Ljava/lang/Object;)Z" = some ⟨[(.object "java/lang/Object")], some .boolean⟩ := by decide +kernel
theorem own_d_jdk_101_method_5_code_5 : decode jdk_101_method_5_code 5 = .ok (.invokevirtual 27, 3) := by decide +kernel
theorem own_d_jdk_101_method_5_code_8 : decode jdk_101_method_5_code 8 = .ok (.ifCond .ne 14, 3) := by decide +kernel
theorem own_d_jdk_101_method_5_code_22 : decode jdk_101_method_5_code 22 = .ok (.iconst 1, 1) := by decide +kernel
theorem own_d_jdk_101_method_5_code_23 : decode jdk_101_method_5_code 23 = .ok (.goto 4, 3) := by decide +kernel
theorem own_d_jdk_101_method_5_code_27 : decode jdk_101_method_5_code 27 = .ok (.ireturn, 1) := by decide +kernel
theorem own_d_jdk_101_method_5_code_11 : decode jdk_101_method_5_code 11 = .ok (.aload_n 0, 1) := by decide +kernel
theorem own_d_jdk_101_method_5_code_12 : decode jdk_101_method_5_code 12 = .ok (.getfield 24, 3) := by decide +kernel
theorem own_d_jdk_101_method_5_code_15 : decode jdk_101_method_5_code 15 = .ok (.aload_n 1, 1) := by decide +kernel
theorem own_d_jdk_101_method_5_code_16 : decode jdk_101_method_5_code 16 = .ok (.invokevirtual 27, 3) := by decide +kernel
theorem own_d_jdk_101_method_5_code_19 : decode jdk_101_method_5_code 19 = .ok (.ifCond .eq 7, 3) := by decide +kernel
theorem own_d_jdk_101_method_5_code_26 : decode jdk_101_method_5_code 26 = .ok (.iconst 0, 1) := by decide +kernel
set_option maxRecDepth 65536 in
set_option maxHeartbeats 40000000 in
theorem own_rmSC (l : Launch) (Z : State) (a0 : Array Value) (hw : ∀ d ∈ tables_1, d.before a0 Z = true) (ws : List Jvm.Cond) (a1 o1 b we : Addr) (m0 m1 : Int32) (h0 : Heap) (n0 : Nat) (Z0 : n0 ≤ h0.size) (F0 : Fld Z h0 a1 "java/util/ImmutableCollections$Set12" "e0" "Ljava/lang/Object;" (.ref b)) (F1 : Fld Z h0 a1 "java/util/ImmutableCollections$Set12" "e1" "Ljava/lang/Object;" (.ref we)) (A0 : Exa Z h0 b "java/lang/Integer") (G0 : Fld Z h0 b "java/lang/Integer" "value" "I" (.int m0)) (A1 : Exa Z h0 o1 "java/lang/Integer") (G1 : Fld Z h0 o1 "java/lang/Integer" "value" "I" (.int m1)) (A2 : Exa Z h0 we "java/lang/Object") :
    MetFree l (⟨"java/util/ImmutableCollections$Set12", "contains", "(Ljava/lang/Object;)Z"⟩ : MethodName) (head1 (Jvm.Cond.code (⟨"java/util/ImmutableCollections$Set12", "contains", "(Ljava/lang/Object;)Z"⟩ : MethodName) jdk_101_method_5_code 2 (some .boolean) :: ws) ({ frames := 2, cells := 0, slots := 0, locals := 40 } : Room)) (fun a U => a = #[(.ref a1), (.ref o1)] ∧ Z.Warmed39 U.vm ∧ U.heap = h0) (fun _ _ _ _ _ => True) (fun _ U o U' => ∃ v L, o = .returned v ∧ own_Q (.int (own_eq m1 m0)) h0 n0 v U'.heap L ∧ FrameEnd U o U' L ({ frames := 2, cells := 0, slots := 0, locals := 40 } : Room).cells ({ frames := 2, cells := 0, slots := 0, locals := 40 } : Room).slots) := by
  refine MetFree.of_bodySF (plainFor_of_name own_pn7) hisR ?_
  intro p e s m args below meth c s₁ Bd hml0 hP hK
  obtain ⟨rfl, hZ, hh⟩ := hP
  have hx := Bd.exec
  have hby := Bd.bytes
  have hlk : meth.locks = false := Bd.notSynchronized
  have hml : c.maxLocals = 2 := hml0
  have hown : s.vm.findClass "java/util/ImmutableCollections$Set12" = some m.cls := findClass_of_methodNamed Bd.named
  have hnm := (name_of_methodNamed Bd.named Bd.method).1
  have X0 : Stand p l e ({ frames := 2, cells := 0, slots := 0, locals := 40 } : Room) s m #[(.ref a1), (.ref o1)] below meth c s₁ [] 0 0 := Stand.of_body Bd
  have e0 : s₁.heap = h0 := by rw [← hh, Bd.state]; rfl
  have N0 := Fr.nil n0
  show own_E p e below (own_P s (own_Q (.int (own_eq m1 m0)) h0 n0) ({ frames := 2, cells := 0, slots := 0, locals := 40 } : Room).cells ({ frames := 2, cells := 0, slots := 0, locals := 40 } : Room).slots) s₁ (entryFrame m #[(.ref a1), (.ref o1)] 2)
  refine own_cast (own_ef23 m a1 o1) ?_
  show own_E p e below _ s₁ (mkF m 0 #[.val (.ref a1), .val (.ref o1)] [])
  refine own_aloadN X0 hx (hb hby own_d_jdk_101_method_5_code_0) rfl rfl ?_
  show own_E p e below _ s₁ (mkF m 1 #[.val (.ref a1), .val (.ref o1)] [(.ref o1)])
  refine own_aloadN X0 hx (hb hby own_d_jdk_101_method_5_code_1) rfl rfl ?_
  show own_E p e below _ s₁ (mkF m 2 #[.val (.ref a1), .val (.ref o1)] [(.ref a1), (.ref o1)])
  obtain ⟨T50, X50, e50, st50⟩ := getF X0 hx hZ hown (host := "") (Or.inl (hw _ (List.mem_of_getElem? (i := 49) rfl))) Via.refl e0 F0 (g := (mkF m 2 #[.val (.ref a1), .val (.ref o1)] [(.ref a1), (.ref o1)])) rfl rfl (hb hby own_d_jdk_101_method_5_code_2)
  refine own_go st50 ?_
  show own_E p e below _ T50 (mkF m 5 #[.val (.ref a1), .val (.ref o1)] [(.ref b), (.ref o1)])
  obtain ⟨cq51, kq51, qa51, qb51, qc51⟩ := isOf hZ e50 A1
  obtain ⟨_, _, ⟨T51, L51, k51, n51⟩, -, X51, ⟨Lc51, hQ51, l51, y51, z51⟩, st51⟩ := X50.virtualBack hx (y := (⟨"java/lang/Object", "equals", "(Ljava/lang/Object;)Z"⟩ : MethodName)) (z := (⟨"java/lang/Integer", "equals", "(Ljava/lang/Object;)Z"⟩ : MethodName)) hown (mvT hZ (hw _ (List.mem_of_getElem? (i := 140) rfl))) (mvT hZ (hw _ (List.mem_of_getElem? (i := 141) rfl))) (notFace_of_selects (args := #[]) (mvT hZ (hw _ (List.mem_of_getElem? (i := 155) rfl)))) (mvT hZ (hw _ (List.mem_of_getElem? (i := 143) rfl))) (mvT hZ (hw _ (List.mem_of_getElem? (i := 144) rfl))) (by decide) (backOf (W := 0) (own_rmIE l Z a0 hw [] o1 b m1 m0 h0 n0 Z0 A1 G1 A0 G0) hZ (hw _ (List.mem_of_getElem? (i := 145) rfl)) (hw _ (List.mem_of_getElem? (i := 8) rfl)) (by decide) (by decide)) qa51 qc51 (g := (mkF m 5 #[.val (.ref a1), .val (.ref o1)] [(.ref b), (.ref o1)])) rfl (by rw [hml]; rfl) (Steps.refl _) (argsL := [(.ref b)]) (rest := []) (lenOf own_pd9 rfl) rfl (by show 2 * 0 + _ ≤ _; exact Nat.le_of_eq rfl) (hb hby own_d_jdk_101_method_5_code_5) (fun _ _ => ⟨rfl, e50, Nat.le_of_ble_eq_true rfl, Nat.le_of_ble_eq_true rfl⟩)
  dsimp only [Pt.U, Pt.locs, Pt.cells, Pt.slots] at X51 l51 y51 z51 st51 hQ51
  subst l51 y51 z51
  obtain ⟨rfl, M51, e51⟩ := hQ51
  have N51 := Fr.app N0 M51
  refine own_go (fun _ k => st51.trans k) ?_
  show own_E p e below _ T51 (mkF m 8 #[.val (.ref a1), .val (.ref o1)] [(.int (own_eq m1 m0))])
  by_cases hc : m1 = m0
  · skip
    refine own_ifYes X51 hx (hb hby own_d_jdk_101_method_5_code_8) (Jvm.Free.XT.i0_ne_t (by rw [own_eq, if_pos hc]; decide)) 22 (by decide) (by decide) ?_
    show own_E p e below _ T51 (mkF m 22 #[.val (.ref a1), .val (.ref o1)] [])
    refine own_iconst X51 hx (hb hby own_d_jdk_101_method_5_code_22) (v := (1 : Int32)) (by decide) ?_
    show own_E p e below _ T51 (mkF m 23 #[.val (.ref a1), .val (.ref o1)] [(.int (1 : Int32))])
    refine own_goto X51 hx (hb hby own_d_jdk_101_method_5_code_23) 27 (by decide) (by decide) ?_
    show own_E p e below _ T51 (mkF m 27 #[.val (.ref a1), .val (.ref o1)] [(.int (1 : Int32))])
    refine own_retN X51 hx (t := .boolean) Bd.returns (by simp) hlk (hb hby own_d_jdk_101_method_5_code_27) (z' := (1 : Int32)) (by decide) (by decide) (by decide) ?_
    rw [e51]
    exact ⟨by rw [own_eq, if_pos hc], N51, rfl⟩
  · skip
    refine own_ifNo X51 hx (hb hby own_d_jdk_101_method_5_code_8) (Jvm.Free.XT.i0_ne_f (by rw [own_eq, if_neg hc])) ?_
    show own_E p e below _ T51 (mkF m 11 #[.val (.ref a1), .val (.ref o1)] [])
    refine own_aloadN X51 hx (hb hby own_d_jdk_101_method_5_code_11) rfl rfl ?_
    show own_E p e below _ T51 (mkF m 12 #[.val (.ref a1), .val (.ref o1)] [(.ref a1)])
    obtain ⟨T52, X52, e52, st52⟩ := getF X51 hx hZ hown (host := "") (Or.inl (hw _ (List.mem_of_getElem? (i := 53) rfl))) Via.refl e51 F1 (g := (mkF m 12 #[.val (.ref a1), .val (.ref o1)] [(.ref a1)])) rfl rfl (hb hby own_d_jdk_101_method_5_code_12)
    refine own_go st52 ?_
    show own_E p e below _ T52 (mkF m 15 #[.val (.ref a1), .val (.ref o1)] [(.ref we)])
    refine own_aloadN X52 hx (hb hby own_d_jdk_101_method_5_code_15) rfl rfl ?_
    show own_E p e below _ T52 (mkF m 16 #[.val (.ref a1), .val (.ref o1)] [(.ref o1), (.ref we)])
    obtain ⟨cq53, kq53, qa53, qb53, qc53⟩ := isOf hZ e52 A2
    obtain ⟨_, _, ⟨T53, L53, k53, n53⟩, -, X53, ⟨Lc53, hQ53, l53, y53, z53⟩, st53⟩ := X52.virtualBack hx (y := (⟨"java/lang/Object", "equals", "(Ljava/lang/Object;)Z"⟩ : MethodName)) (z := (⟨"java/lang/Object", "equals", "(Ljava/lang/Object;)Z"⟩ : MethodName)) hown (mvT hZ (hw _ (List.mem_of_getElem? (i := 140) rfl))) (mvT hZ (hw _ (List.mem_of_getElem? (i := 141) rfl))) (notFace_of_selects (args := #[]) (mvT hZ (hw _ (List.mem_of_getElem? (i := 155) rfl)))) (mvT hZ (hw _ (List.mem_of_getElem? (i := 155) rfl))) (mvT hZ (hw _ (List.mem_of_getElem? (i := 142) rfl))) (by decide) (own_backOE (n0 := n0) (a1 := we) (b1 := o1) (W := 0) hx hZ (hw _ (List.mem_of_getElem? (i := 156) rfl)) (by decide) (by decide) (Jvm.RoadKit.ne_exa A2 A1 (by decide))) qa53 qc53 (g := (mkF m 16 #[.val (.ref a1), .val (.ref o1)] [(.ref o1), (.ref we)])) rfl (by rw [hml]; rfl) (Steps.refl _) (argsL := [(.ref o1)]) (rest := []) (lenOf own_pd9 rfl) rfl (by show 2 * 0 + _ ≤ _; exact Nat.le_of_eq rfl) (hb hby own_d_jdk_101_method_5_code_16) (fun _ _ => ⟨rfl, e52, Nat.le_of_ble_eq_true rfl, Nat.le_of_ble_eq_true rfl⟩)
    dsimp only [Pt.U, Pt.locs, Pt.cells, Pt.slots] at X53 l53 y53 z53 st53 hQ53
    subst l53 y53 z53
    obtain ⟨rfl, M53, e53⟩ := hQ53
    have N53 := Fr.app N51 M53
    refine own_go (fun _ k => st53.trans k) ?_
    show own_E p e below _ T53 (mkF m 19 #[.val (.ref a1), .val (.ref o1)] [(.int (0 : Int32))])
    refine own_ifYes X53 hx (hb hby own_d_jdk_101_method_5_code_19) (by decide +kernel) 26 (by decide) (by decide) ?_
    show own_E p e below _ T53 (mkF m 26 #[.val (.ref a1), .val (.ref o1)] [])
    refine own_iconst X53 hx (hb hby own_d_jdk_101_method_5_code_26) (v := (0 : Int32)) (by decide) ?_
    show own_E p e below _ T53 (mkF m 27 #[.val (.ref a1), .val (.ref o1)] [(.int (0 : Int32))])
    refine own_retN X53 hx (t := .boolean) Bd.returns (by simp) hlk (hb hby own_d_jdk_101_method_5_code_27) (z' := (0 : Int32)) (by decide) (by decide) (by decide) ?_
    rw [e53]
    exact ⟨by rw [own_eq, if_neg hc], N53, rfl⟩

def own_Q0 (n0 : Nat) (v : Option Value) (h : Heap) (L : List Loc) : Prop := v = some (.int 1) ∧ Fr n0 L
theorem own_pn12 : plainName "com/example/minga/minga/policy/AlternativesOfPinLaw" = true := by first | (simp [plainName, overriddenIn]; done) | decide +kernel
theorem own_ef24 (m : MethodId) (x0 : Int32) (x1 : Int32) : entryFrame m #[(.int x0), (.int x1)] maxLocals = mkF m 0 #[.val (.int x0), .val (.int x1), .unset, .unset, .unset] [] := by first | (simp [entryFrame, mkF, argsToLocals, Value.category, maxLocals]; done) | rfl
theorem own_pd10 : parseMethodDescriptor "(I)Lcom/example/minga/minga/policy/Alternatives;" = some ⟨[.int], some (.object "com/example/minga/minga/policy/Alternatives")⟩ := by decide +kernel
theorem own_pd11 : parseMethodDescriptor "()Z" = some ⟨[], some .boolean⟩ := by decide +kernel
theorem own_pd12 : parseMethodDescriptor "()Ljava/util/List;" = some ⟨[], some (.object "java/util/List")⟩ := by decide +kernel
theorem own_pd13 : parseMethodDescriptor "(I)Ljava/lang/Object;" = some ⟨[.int], some (.object "java/lang/Object")⟩ := by decide +kernel
set_option maxRecDepth 65536 in
set_option maxHeartbeats 40000000 in
theorem own_rm0 (l : Launch) (Z : State) (a0 : Array Value) (hw : ∀ d ∈ tables_1, d.before a0 Z = true) (ws : List Jvm.Cond) (i0 i1 : Int32) (w0 we : Addr) (cw : Cell) (h0 : Heap) (n0 : Nat) (Z0 : n0 ≤ h0.size) (O0 : Old Z n0 h0) (S1 : Sta Z Z.heap "java/lang/Integer$IntegerCache" "high" "I" (.int (127 : Int32))) (S0 : Sta Z Z.heap "java/lang/Integer$IntegerCache" "cache" "[Ljava/lang/Integer;" (.ref w0)) (A0 : Arr Z Z.heap w0 cw (.object "java/lang/Integer")) (z0 : cw.slots.size = 256) (t0 : ∀ k, k < 256 → ∃ b, cw.slots[k]? = some (.ref b) ∧ Exa Z Z.heap b "java/lang/Integer" ∧ Fld Z Z.heap b "java/lang/Integer" "value" "I" (.int (k.toInt32 - 128))) (SE : Sta Z Z.heap "java/util/ImmutableCollections" "EMPTY" "Ljava/lang/Object;" (.ref we)) (AE : Exa Z Z.heap we "java/lang/Object") :
    MetFree l x (head1 (Jvm.Cond.code x code maxLocals ret :: ws) room_1) (fun a U => a = #[(.int i0), (.int i1)] ∧ Z.Warmed39 U.vm ∧ U.heap = h0) (fun _ _ _ _ _ => True) (fun _ U o U' => ∃ v L, o = .returned v ∧ own_Q0 n0 v U'.heap L ∧ FrameEnd U o U' L room_1.cells room_1.slots) := by
  refine MetFree.of_bodySF (plainFor_of_name own_pn12) hisR ?_
  intro p e s m args below meth c s₁ Bd hml0 hP hK
  obtain ⟨rfl, hZ, hh⟩ := hP
  have hx := Bd.exec
  have hby := Bd.bytes
  have hlk : meth.locks = false := Bd.notSynchronized
  have hml : c.maxLocals = 5 := hml0
  have hown : s.vm.findClass "com/example/minga/minga/policy/AlternativesOfPinLaw" = some m.cls := findClass_of_methodNamed Bd.named
  have hnm := (name_of_methodNamed Bd.named Bd.method).1
  have X0 : Stand p l e room_1 s m #[(.int i0), (.int i1)] below meth c s₁ [] 0 0 := Stand.of_body Bd
  have e0 : s₁.heap = h0 := by rw [← hh, Bd.state]; rfl
  have N0 := Fr.nil n0
  show own_E p e below (own_P s (own_Q0 n0) room_1.cells room_1.slots) s₁ (entryFrame m #[(.int i0), (.int i1)] maxLocals)
  refine own_cast (own_ef24 m i0 i1) ?_
  show own_E p e below _ s₁ (mkF m 0 #[.val (.int i0), .val (.int i1), .unset, .unset, .unset] [])
  refine own_iloadN X0 hx (hb hby at_0) rfl ?_
  show own_E p e below _ s₁ (mkF m 1 #[.val (.int i0), .val (.int i1), .unset, .unset, .unset] [(.int i0)])
  obtain ⟨_, _, ⟨T54, L54, k54, n54⟩, -, X54, ⟨Lc54, hQ54, l54, y54, z54⟩, st54⟩ := Jvm.LawKit.callS X0 hx (y := (⟨"com/example/minga/minga/policy/Alternatives", "of", "(I)Lcom/example/minga/minga/policy/Alternatives;"⟩ : MethodName)) hown (mvT hZ (hw _ (List.mem_of_getElem? (i := 0) rfl))) (mvT hZ (hw _ (List.mem_of_getElem? (i := 1) rfl))) (mvT hZ (hw _ (List.mem_of_getElem? (i := 2) rfl))) (mvT hZ (hw _ (List.mem_of_getElem? (i := 3) rfl))) (by decide) (backOf (W := 0) (own_rmAO l Z a0 hw [] i0 w0 we cw h0 n0 (by omega) O0 S1 S0 A0 z0 t0 SE) hZ (hw _ (List.mem_of_getElem? (i := 3) rfl)) (hw _ (List.mem_of_getElem? (i := 2) rfl)) (by decide) (by decide)) (g := (mkF m 1 #[.val (.int i0), .val (.int i1), .unset, .unset, .unset] [(.int i0)])) rfl (by rw [hml]; rfl) (argsL := [(.int i0)]) (rest := []) (lenOf own_pd10 rfl) rfl (by show 2 * 0 + _ ≤ _; exact Nat.le_of_eq rfl) (hb hby at_1) (fun _ _ => ⟨rfl, e0, Nat.le_of_ble_eq_true rfl, Nat.le_of_ble_eq_true rfl⟩)
  dsimp only [Pt.U, Pt.locs, Pt.cells, Pt.slots] at X54 l54 y54 z54 st54 hQ54
  subst l54 y54 z54
  obtain ⟨a54, ll, ss, bb, rfl, M54, K54, f0_54, f1_54, f2_54, f3_54, f4_54, f5_54, f6_54, f7_54, f8_54, f9_54, f10_54⟩ := hQ54
  have N54 := Fr.app N0 M54
  refine own_go st54 ?_
  have z54 : h0.size ≤ T54.heap.size := K54.1
  show own_E p e below _ T54 (mkF m 4 #[.val (.int i0), .val (.int i1), .unset, .unset, .unset] [(.ref a54)])
  refine own_astoreN X54 hx (hb hby at_4) rfl (l' := #[.val (.int i0), .val (.int i1), .val (.ref a54), .unset, .unset]) rfl ?_
  show own_E p e below _ T54 (mkF m 5 #[.val (.int i0), .val (.int i1), .val (.ref a54), .unset, .unset] [])
  refine own_aloadN X54 hx (hb hby at_5) rfl rfl ?_
  show own_E p e below _ T54 (mkF m 6 #[.val (.int i0), .val (.int i1), .val (.ref a54), .unset, .unset] [(.ref a54)])
  obtain ⟨cq55, kq55, qa55, qb55, qc55⟩ := isOf hZ (rfl : T54.heap = T54.heap) f0_54
  obtain ⟨_, _, ⟨T55, L55, k55, n55⟩, -, X55, ⟨Lc55, hQ55, l55, y55, z55⟩, st55⟩ := X54.virtualBack hx (y := (⟨"com/example/minga/minga/policy/Alternatives", "isTrue", "()Z"⟩ : MethodName)) (z := (⟨"com/example/minga/minga/policy/Alternatives", "isTrue", "()Z"⟩ : MethodName)) hown (mvT hZ (hw _ (List.mem_of_getElem? (i := 89) rfl))) (mvT hZ (hw _ (List.mem_of_getElem? (i := 90) rfl))) (notFace_of_selects (args := #[]) (mvT hZ (hw _ (List.mem_of_getElem? (i := 92) rfl)))) (mvT hZ (hw _ (List.mem_of_getElem? (i := 92) rfl))) (mvT hZ (hw _ (List.mem_of_getElem? (i := 91) rfl))) (by decide) (backOf (W := 0) (own_rmIT l Z a0 hw [] a54 ll T54.heap n0 (by omega) f2_54) hZ (hw _ (List.mem_of_getElem? (i := 93) rfl)) (hw _ (List.mem_of_getElem? (i := 2) rfl)) (by decide) (by decide)) qa55 qc55 (g := (mkF m 6 #[.val (.int i0), .val (.int i1), .val (.ref a54), .unset, .unset] [(.ref a54)])) rfl (by rw [hml]; rfl) (Steps.refl _) (argsL := []) (rest := []) (lenOf own_pd11 rfl) rfl (by show 2 * 0 + _ ≤ _; exact Nat.le_of_eq rfl) (hb hby at_6) (fun _ _ => ⟨rfl, (rfl : T54.heap = T54.heap), Nat.le_of_ble_eq_true rfl, Nat.le_of_ble_eq_true rfl⟩)
  dsimp only [Pt.U, Pt.locs, Pt.cells, Pt.slots] at X55 l55 y55 z55 st55 hQ55
  subst l55 y55 z55
  obtain ⟨rfl, M55, e55⟩ := hQ55
  have N55 := Fr.app N54 M55
  refine own_go (fun _ k => st55.trans k) ?_
  show own_E p e below _ T55 (mkF m 9 #[.val (.int i0), .val (.int i1), .val (.ref a54), .unset, .unset] [(.int (0 : Int32))])
  refine own_ifNo X55 hx (hb hby at_9) (by decide +kernel) ?_
  show own_E p e below _ T55 (mkF m 12 #[.val (.int i0), .val (.int i1), .val (.ref a54), .unset, .unset] [])
  refine own_aloadN X55 hx (hb hby at_12) rfl rfl ?_
  show own_E p e below _ T55 (mkF m 13 #[.val (.int i0), .val (.int i1), .val (.ref a54), .unset, .unset] [(.ref a54)])
  obtain ⟨cq56, kq56, qa56, qb56, qc56⟩ := isOf hZ e55 f0_54
  obtain ⟨_, _, ⟨T56, L56, k56, n56⟩, -, X56, ⟨Lc56, hQ56, l56, y56, z56⟩, st56⟩ := X55.virtualBack hx (y := (⟨"com/example/minga/minga/policy/Alternatives", "isFalse", "()Z"⟩ : MethodName)) (z := (⟨"com/example/minga/minga/policy/Alternatives", "isFalse", "()Z"⟩ : MethodName)) hown (mvT hZ (hw _ (List.mem_of_getElem? (i := 94) rfl))) (mvT hZ (hw _ (List.mem_of_getElem? (i := 95) rfl))) (notFace_of_selects (args := #[]) (mvT hZ (hw _ (List.mem_of_getElem? (i := 97) rfl)))) (mvT hZ (hw _ (List.mem_of_getElem? (i := 97) rfl))) (mvT hZ (hw _ (List.mem_of_getElem? (i := 96) rfl))) (by decide) (backOf (W := 0) (own_rmIF l Z a0 hw [] a54 ll T54.heap n0 (by omega) f2_54) hZ (hw _ (List.mem_of_getElem? (i := 98) rfl)) (hw _ (List.mem_of_getElem? (i := 2) rfl)) (by decide) (by decide)) qa56 qc56 (g := (mkF m 13 #[.val (.int i0), .val (.int i1), .val (.ref a54), .unset, .unset] [(.ref a54)])) rfl (by rw [hml]; rfl) (Steps.refl _) (argsL := []) (rest := []) (lenOf own_pd11 rfl) rfl (by show 2 * 0 + _ ≤ _; exact Nat.le_of_eq rfl) (hb hby at_13) (fun _ _ => ⟨rfl, e55, Nat.le_of_ble_eq_true rfl, Nat.le_of_ble_eq_true rfl⟩)
  dsimp only [Pt.U, Pt.locs, Pt.cells, Pt.slots] at X56 l56 y56 z56 st56 hQ56
  subst l56 y56 z56
  obtain ⟨rfl, M56, e56⟩ := hQ56
  have N56 := Fr.app N55 M56
  refine own_go (fun _ k => st56.trans k) ?_
  show own_E p e below _ T56 (mkF m 16 #[.val (.int i0), .val (.int i1), .val (.ref a54), .unset, .unset] [(.int (0 : Int32))])
  refine own_ifYes X56 hx (hb hby at_16) (by decide +kernel) 21 (by decide) (by decide) ?_
  show own_E p e below _ T56 (mkF m 21 #[.val (.int i0), .val (.int i1), .val (.ref a54), .unset, .unset] [])
  refine own_aloadN X56 hx (hb hby at_21) rfl rfl ?_
  show own_E p e below _ T56 (mkF m 22 #[.val (.int i0), .val (.int i1), .val (.ref a54), .unset, .unset] [(.ref a54)])
  obtain ⟨cq57, kq57, qa57, qb57, qc57⟩ := isOf hZ e56 f0_54
  obtain ⟨_, _, ⟨T57, L57, k57, n57⟩, -, X57, ⟨Lc57, hQ57, l57, y57, z57⟩, st57⟩ := X56.virtualBack hx (y := (⟨"com/example/minga/minga/policy/Alternatives", "sets", "()Ljava/util/List;"⟩ : MethodName)) (z := (⟨"com/example/minga/minga/policy/Alternatives", "sets", "()Ljava/util/List;"⟩ : MethodName)) hown (mvT hZ (hw _ (List.mem_of_getElem? (i := 99) rfl))) (mvT hZ (hw _ (List.mem_of_getElem? (i := 100) rfl))) (notFace_of_selects (args := #[]) (mvT hZ (hw _ (List.mem_of_getElem? (i := 102) rfl)))) (mvT hZ (hw _ (List.mem_of_getElem? (i := 102) rfl))) (mvT hZ (hw _ (List.mem_of_getElem? (i := 101) rfl))) (by decide) (backOf (W := 0) (own_rmSE l Z a0 hw [] a54 ll T54.heap n0 (by omega) f2_54) hZ (hw _ (List.mem_of_getElem? (i := 103) rfl)) (hw _ (List.mem_of_getElem? (i := 2) rfl)) (by decide) (by decide)) qa57 qc57 (g := (mkF m 22 #[.val (.int i0), .val (.int i1), .val (.ref a54), .unset, .unset] [(.ref a54)])) rfl (by rw [hml]; rfl) (Steps.refl _) (argsL := []) (rest := []) (lenOf own_pd12 rfl) rfl (by show 2 * 0 + _ ≤ _; exact Nat.le_of_eq rfl) (hb hby at_22) (fun _ _ => ⟨rfl, e56, Nat.le_of_ble_eq_true rfl, Nat.le_of_ble_eq_true rfl⟩)
  dsimp only [Pt.U, Pt.locs, Pt.cells, Pt.slots] at X57 l57 y57 z57 st57 hQ57
  subst l57 y57 z57
  obtain ⟨rfl, M57, e57⟩ := hQ57
  have N57 := Fr.app N56 M57
  refine own_go (fun _ k => st57.trans k) ?_
  show own_E p e below _ T57 (mkF m 25 #[.val (.int i0), .val (.int i1), .val (.ref a54), .unset, .unset] [(.ref ll)])
  refine own_astoreN X57 hx (hb hby at_25) rfl (l' := #[.val (.int i0), .val (.int i1), .val (.ref a54), .val (.ref ll), .unset]) rfl ?_
  show own_E p e below _ T57 (mkF m 26 #[.val (.int i0), .val (.int i1), .val (.ref a54), .val (.ref ll), .unset] [])
  refine own_aloadN X57 hx (hb hby at_26) rfl rfl ?_
  show own_E p e below _ T57 (mkF m 27 #[.val (.int i0), .val (.int i1), .val (.ref a54), .val (.ref ll), .unset] [(.ref ll)])
  obtain ⟨cq58, kq58, qa58, qb58, qc58⟩ := isOf hZ e57 f3_54
  obtain ⟨_, _, ⟨T58, L58, k58, n58⟩, -, X58, ⟨Lc58, hQ58, l58, y58, z58⟩, st58⟩ := X57.interfaceBack hx (xi := (⟨"java/util/List", "size", "()I"⟩ : MethodName)) (y := (⟨"java/util/ImmutableCollections$List12", "size", "()I"⟩ : MethodName)) hown (mvT hZ (hw _ (List.mem_of_getElem? (i := 104) rfl))) (mvT hZ (hw _ (List.mem_of_getElem? (i := 105) rfl))) (mvT hZ (hw _ (List.mem_of_getElem? (i := 106) rfl))) (mvT hZ (hw _ (List.mem_of_getElem? (i := 107) rfl))) (mvT hZ (hw _ (List.mem_of_getElem? (i := 108) rfl))) (mvT hZ (hw _ (List.mem_of_getElem? (i := 109) rfl))) (mvT hZ (hw _ (List.mem_of_getElem? (i := 110) rfl))) (mvT hZ (hw _ (List.mem_of_getElem? (i := 111) rfl))) (by decide) (backOf (W := 0) (own_rmLS l Z a0 hw [] ll we T54.heap n0 (by omega) f5_54 (O0.keep K54 all0) SE) hZ (hw _ (List.mem_of_getElem? (i := 112) rfl)) (hw _ (List.mem_of_getElem? (i := 61) rfl)) (by decide) (by decide)) qa58 qb58 qc58 (g := (mkF m 27 #[.val (.int i0), .val (.int i1), .val (.ref a54), .val (.ref ll), .unset] [(.ref ll)])) rfl (by rw [hml]; rfl) (Steps.refl _) (argsL := []) (rest := []) (lenOf own_pd8 rfl) rfl (by show 2 * 0 + _ ≤ _; exact Nat.le_of_eq rfl) (hb hby at_27) (fun _ _ => ⟨rfl, e57, Nat.le_of_ble_eq_true rfl, Nat.le_of_ble_eq_true rfl⟩)
  dsimp only [Pt.U, Pt.locs, Pt.cells, Pt.slots] at X58 l58 y58 z58 st58 hQ58
  subst l58 y58 z58
  obtain ⟨rfl, M58, e58⟩ := hQ58
  have N58 := Fr.app N57 M58
  refine own_go (fun _ k => st58.trans k) ?_
  show own_E p e below _ T58 (mkF m 32 #[.val (.int i0), .val (.int i1), .val (.ref a54), .val (.ref ll), .unset] [(.int (1 : Int32))])
  refine own_iconst X58 hx (hb hby at_32) (v := (1 : Int32)) (by decide) ?_
  show own_E p e below _ T58 (mkF m 33 #[.val (.int i0), .val (.int i1), .val (.ref a54), .val (.ref ll), .unset] [(.int (1 : Int32)), (.int (1 : Int32))])
  refine own_icmpYes X58 hx (hb hby at_33) (by decide +kernel) 38 (by decide) (by decide) ?_
  show own_E p e below _ T58 (mkF m 38 #[.val (.int i0), .val (.int i1), .val (.ref a54), .val (.ref ll), .unset] [])
  refine own_aloadN X58 hx (hb hby at_38) rfl rfl ?_
  show own_E p e below _ T58 (mkF m 39 #[.val (.int i0), .val (.int i1), .val (.ref a54), .val (.ref ll), .unset] [(.ref ll)])
  refine own_iconst X58 hx (hb hby at_39) (v := (0 : Int32)) (by decide) ?_
  show own_E p e below _ T58 (mkF m 40 #[.val (.int i0), .val (.int i1), .val (.ref a54), .val (.ref ll), .unset] [(.int (0 : Int32)), (.ref ll)])
  obtain ⟨cq59, kq59, qa59, qb59, qc59⟩ := isOf hZ e58 f3_54
  obtain ⟨_, _, ⟨T59, L59, k59, n59⟩, -, X59, ⟨Lc59, hQ59, l59, y59, z59⟩, st59⟩ := X58.interfaceBack hx (xi := (⟨"java/util/List", "get", "(I)Ljava/lang/Object;"⟩ : MethodName)) (y := (⟨"java/util/ImmutableCollections$List12", "get", "(I)Ljava/lang/Object;"⟩ : MethodName)) hown (mvT hZ (hw _ (List.mem_of_getElem? (i := 113) rfl))) (mvT hZ (hw _ (List.mem_of_getElem? (i := 114) rfl))) (mvT hZ (hw _ (List.mem_of_getElem? (i := 115) rfl))) (mvT hZ (hw _ (List.mem_of_getElem? (i := 116) rfl))) (mvT hZ (hw _ (List.mem_of_getElem? (i := 117) rfl))) (mvT hZ (hw _ (List.mem_of_getElem? (i := 118) rfl))) (mvT hZ (hw _ (List.mem_of_getElem? (i := 119) rfl))) (mvT hZ (hw _ (List.mem_of_getElem? (i := 111) rfl))) (by decide) (backOf (W := 0) (own_rmLG l Z a0 hw [] ll ss T54.heap n0 (by omega) f4_54) hZ (hw _ (List.mem_of_getElem? (i := 120) rfl)) (hw _ (List.mem_of_getElem? (i := 61) rfl)) (by decide) (by decide)) qa59 qb59 qc59 (g := (mkF m 40 #[.val (.int i0), .val (.int i1), .val (.ref a54), .val (.ref ll), .unset] [(.int (0 : Int32)), (.ref ll)])) rfl (by rw [hml]; rfl) (Steps.refl _) (argsL := [(.int (0 : Int32))]) (rest := []) (lenOf own_pd13 rfl) rfl (by show 2 * 0 + _ ≤ _; exact Nat.le_of_eq rfl) (hb hby at_40) (fun _ _ => ⟨rfl, e58, Nat.le_of_ble_eq_true rfl, Nat.le_of_ble_eq_true rfl⟩)
  dsimp only [Pt.U, Pt.locs, Pt.cells, Pt.slots] at X59 l59 y59 z59 st59 hQ59
  subst l59 y59 z59
  obtain ⟨rfl, M59, e59⟩ := hQ59
  have N59 := Fr.app N58 M59
  refine own_go (fun _ k => st59.trans k) ?_
  show own_E p e below _ T59 (mkF m 45 #[.val (.int i0), .val (.int i1), .val (.ref a54), .val (.ref ll), .unset] [(.ref ss)])
  obtain ⟨T60, X60, e60, st60⟩ := castY X59 hx hZ hown (hw _ (List.mem_of_getElem? (i := 121) rfl)) e59 (Ins.of_exa f6_54 (hw _ (List.mem_of_getElem? (i := 122) rfl))) (g := (mkF m 45 #[.val (.int i0), .val (.int i1), .val (.ref a54), .val (.ref ll), .unset] [(.ref ss)])) rfl rfl (hb hby at_45)
  refine own_go st60 ?_
  show own_E p e below _ T60 (mkF m 48 #[.val (.int i0), .val (.int i1), .val (.ref a54), .val (.ref ll), .unset] [(.ref ss)])
  refine own_astore X60 hx (hb hby at_48) rfl (l' := #[.val (.int i0), .val (.int i1), .val (.ref a54), .val (.ref ll), .val (.ref ss)]) rfl ?_
  show own_E p e below _ T60 (mkF m 50 #[.val (.int i0), .val (.int i1), .val (.ref a54), .val (.ref ll), .val (.ref ss)] [])
  refine own_aload X60 hx (hb hby at_50) rfl rfl ?_
  show own_E p e below _ T60 (mkF m 52 #[.val (.int i0), .val (.int i1), .val (.ref a54), .val (.ref ll), .val (.ref ss)] [(.ref ss)])
  obtain ⟨cq61, kq61, qa61, qb61, qc61⟩ := isOf hZ e60 f6_54
  obtain ⟨_, _, ⟨T61, L61, k61, n61⟩, -, X61, ⟨Lc61, hQ61, l61, y61, z61⟩, st61⟩ := X60.interfaceBack hx (xi := (⟨"java/util/Set", "size", "()I"⟩ : MethodName)) (y := (⟨"java/util/ImmutableCollections$Set12", "size", "()I"⟩ : MethodName)) hown (mvT hZ (hw _ (List.mem_of_getElem? (i := 123) rfl))) (mvT hZ (hw _ (List.mem_of_getElem? (i := 124) rfl))) (mvT hZ (hw _ (List.mem_of_getElem? (i := 125) rfl))) (mvT hZ (hw _ (List.mem_of_getElem? (i := 126) rfl))) (mvT hZ (hw _ (List.mem_of_getElem? (i := 127) rfl))) (mvT hZ (hw _ (List.mem_of_getElem? (i := 128) rfl))) (mvT hZ (hw _ (List.mem_of_getElem? (i := 129) rfl))) (mvT hZ (hw _ (List.mem_of_getElem? (i := 122) rfl))) (by decide) (backOf (W := 0) (own_rmSS l Z a0 hw [] ss we T54.heap n0 (by omega) f8_54 (O0.keep K54 all0) SE) hZ (hw _ (List.mem_of_getElem? (i := 130) rfl)) (hw _ (List.mem_of_getElem? (i := 19) rfl)) (by decide) (by decide)) qa61 qb61 qc61 (g := (mkF m 52 #[.val (.int i0), .val (.int i1), .val (.ref a54), .val (.ref ll), .val (.ref ss)] [(.ref ss)])) rfl (by rw [hml]; rfl) (Steps.refl _) (argsL := []) (rest := []) (lenOf own_pd8 rfl) rfl (by show 2 * 0 + _ ≤ _; exact Nat.le_of_eq rfl) (hb hby at_52) (fun _ _ => ⟨rfl, e60, Nat.le_of_ble_eq_true rfl, Nat.le_of_ble_eq_true rfl⟩)
  dsimp only [Pt.U, Pt.locs, Pt.cells, Pt.slots] at X61 l61 y61 z61 st61 hQ61
  subst l61 y61 z61
  obtain ⟨rfl, M61, e61⟩ := hQ61
  have N61 := Fr.app N59 M61
  refine own_go (fun _ k => st61.trans k) ?_
  show own_E p e below _ T61 (mkF m 57 #[.val (.int i0), .val (.int i1), .val (.ref a54), .val (.ref ll), .val (.ref ss)] [(.int (1 : Int32))])
  refine own_iconst X61 hx (hb hby at_57) (v := (1 : Int32)) (by decide) ?_
  show own_E p e below _ T61 (mkF m 58 #[.val (.int i0), .val (.int i1), .val (.ref a54), .val (.ref ll), .val (.ref ss)] [(.int (1 : Int32)), (.int (1 : Int32))])
  refine own_icmpYes X61 hx (hb hby at_58) (by decide +kernel) 63 (by decide) (by decide) ?_
  show own_E p e below _ T61 (mkF m 63 #[.val (.int i0), .val (.int i1), .val (.ref a54), .val (.ref ll), .val (.ref ss)] [])
  refine own_aload X61 hx (hb hby at_63) rfl rfl ?_
  show own_E p e below _ T61 (mkF m 65 #[.val (.int i0), .val (.int i1), .val (.ref a54), .val (.ref ll), .val (.ref ss)] [(.ref ss)])
  refine own_iloadN X61 hx (hb hby at_65) rfl ?_
  show own_E p e below _ T61 (mkF m 66 #[.val (.int i0), .val (.int i1), .val (.ref a54), .val (.ref ll), .val (.ref ss)] [(.int i0), (.ref ss)])
  obtain ⟨_, _, ⟨T62, L62, k62, n62⟩, -, X62, ⟨Lc62, hQ62, l62, y62, z62⟩, st62⟩ := Jvm.LawKit.callS X61 hx (y := (⟨"java/lang/Integer", "valueOf", "(I)Ljava/lang/Integer;"⟩ : MethodName)) hown (mvT hZ (hw _ (List.mem_of_getElem? (i := 131) rfl))) (mvT hZ (hw _ (List.mem_of_getElem? (i := 7) rfl))) (mvT hZ (hw _ (List.mem_of_getElem? (i := 8) rfl))) (mvT hZ (hw _ (List.mem_of_getElem? (i := 9) rfl))) (by decide) (backOf (W := 1) (own_rmB l Z a0 hw [] i0 w0 cw T54.heap n0 (by omega) (O0.keep K54 all0) S1 S0 A0 z0 t0) hZ (hw _ (List.mem_of_getElem? (i := 9) rfl)) (hw _ (List.mem_of_getElem? (i := 8) rfl)) (by decide) (by decide)) (g := (mkF m 66 #[.val (.int i0), .val (.int i1), .val (.ref a54), .val (.ref ll), .val (.ref ss)] [(.int i0), (.ref ss)])) rfl (by rw [hml]; rfl) (argsL := [(.int i0)]) (rest := [(.ref ss)]) (lenOf own_pd4 rfl) rfl (by show 2 * 0 + _ ≤ _; exact Nat.le_of_eq rfl) (hb hby at_66) (fun _ _ => ⟨rfl, e61, Nat.le_of_ble_eq_true rfl, Nat.le_of_ble_eq_true rfl⟩)
  dsimp only [Pt.U, Pt.locs, Pt.cells, Pt.slots] at X62 l62 y62 z62 st62 hQ62
  subst l62 y62 z62
  obtain ⟨a62, rfl, M62, K62, A62, F62⟩ := hQ62
  have N62 := Fr.app N61 M62
  refine own_go st62 ?_
  have z62 : T54.heap.size ≤ T62.heap.size := K62.1
  show own_E p e below _ T62 (mkF m 69 #[.val (.int i0), .val (.int i1), .val (.ref a54), .val (.ref ll), .val (.ref ss)] [(.ref a62), (.ref ss)])
  obtain ⟨cq63, kq63, qa63, qb63, qc63⟩ := isOf hZ (rfl : T62.heap = T62.heap) (f6_54.keep K62)
  obtain ⟨_, _, ⟨T63, L63, k63, n63⟩, -, X63, ⟨Lc63, hQ63, l63, y63, z63⟩, st63⟩ := X62.interfaceBack hx (xi := (⟨"java/util/Set", "contains", "(Ljava/lang/Object;)Z"⟩ : MethodName)) (y := (⟨"java/util/ImmutableCollections$Set12", "contains", "(Ljava/lang/Object;)Z"⟩ : MethodName)) hown (mvT hZ (hw _ (List.mem_of_getElem? (i := 132) rfl))) (mvT hZ (hw _ (List.mem_of_getElem? (i := 133) rfl))) (mvT hZ (hw _ (List.mem_of_getElem? (i := 134) rfl))) (mvT hZ (hw _ (List.mem_of_getElem? (i := 135) rfl))) (mvT hZ (hw _ (List.mem_of_getElem? (i := 136) rfl))) (mvT hZ (hw _ (List.mem_of_getElem? (i := 137) rfl))) (mvT hZ (hw _ (List.mem_of_getElem? (i := 138) rfl))) (mvT hZ (hw _ (List.mem_of_getElem? (i := 122) rfl))) (by decide) (backOf (W := 0) (own_rmSC l Z a0 hw [] ss a62 bb we i0 i0 T62.heap n0 (by omega) (f7_54.keep K62 nin0) (f8_54.keep K62 nin0) (f9_54.keep K62) (f10_54.keep K62 nin0) A62 F62 (AE.ext (((O0.keep K54 all0).keep K62 all0)).2)) hZ (hw _ (List.mem_of_getElem? (i := 139) rfl)) (hw _ (List.mem_of_getElem? (i := 19) rfl)) (by decide) (by decide)) qa63 qb63 qc63 (g := (mkF m 69 #[.val (.int i0), .val (.int i1), .val (.ref a54), .val (.ref ll), .val (.ref ss)] [(.ref a62), (.ref ss)])) rfl (by rw [hml]; rfl) (Steps.refl _) (argsL := [(.ref a62)]) (rest := []) (lenOf own_pd9 rfl) rfl (by show 2 * 0 + _ ≤ _; exact Nat.le_of_eq rfl) (hb hby at_69) (fun _ _ => ⟨rfl, (rfl : T62.heap = T62.heap), Nat.le_of_ble_eq_true rfl, Nat.le_of_ble_eq_true rfl⟩)
  dsimp only [Pt.U, Pt.locs, Pt.cells, Pt.slots] at X63 l63 y63 z63 st63 hQ63
  subst l63 y63 z63
  obtain ⟨rfl, M63, e63⟩ := hQ63
  have N63 := Fr.app N62 M63
  refine own_go (fun _ k => st63.trans k) ?_
  show own_E p e below _ T63 (mkF m 74 #[.val (.int i0), .val (.int i1), .val (.ref a54), .val (.ref ll), .val (.ref ss)] [(.int (own_eq i0 i0))])
  refine own_ifYes X63 hx (hb hby at_74) (Jvm.Free.XT.i0_ne_t (by rw [own_eq, if_pos rfl]; decide)) 79 (by decide) (by decide) ?_
  show own_E p e below _ T63 (mkF m 79 #[.val (.int i0), .val (.int i1), .val (.ref a54), .val (.ref ll), .val (.ref ss)] [])
  refine own_iloadN X63 hx (hb hby at_79) rfl ?_
  show own_E p e below _ T63 (mkF m 80 #[.val (.int i0), .val (.int i1), .val (.ref a54), .val (.ref ll), .val (.ref ss)] [(.int i0)])
  refine own_iloadN X63 hx (hb hby at_80) rfl ?_
  show own_E p e below _ T63 (mkF m 81 #[.val (.int i0), .val (.int i1), .val (.ref a54), .val (.ref ll), .val (.ref ss)] [(.int i1), (.int i0)])
  by_cases hab : i0 = i1
  · skip
    refine own_icmpYes X63 hx (hb hby at_81) (Jvm.Free.XT.ii_eq_t hab) 100 (by decide) (by decide) ?_
    show own_E p e below _ T63 (mkF m 100 #[.val (.int i0), .val (.int i1), .val (.ref a54), .val (.ref ll), .val (.ref ss)] [])
    refine own_iconst X63 hx (hb hby at_100) (v := (1 : Int32)) (by decide) ?_
    show own_E p e below _ T63 (mkF m 101 #[.val (.int i0), .val (.int i1), .val (.ref a54), .val (.ref ll), .val (.ref ss)] [(.int (1 : Int32))])
    refine own_retN X63 hx (t := .boolean) Bd.returns (by simp) hlk (hb hby at_101) (z' := (1 : Int32)) (by decide) (by decide) (by decide) ?_
    rw [e63]
    exact ⟨rfl, N63⟩
  · skip
    refine own_icmpNo X63 hx (hb hby at_81) (Jvm.Free.XT.ii_eq_f hab) ?_
    show own_E p e below _ T63 (mkF m 84 #[.val (.int i0), .val (.int i1), .val (.ref a54), .val (.ref ll), .val (.ref ss)] [])
    refine own_aload X63 hx (hb hby at_84) rfl rfl ?_
    show own_E p e below _ T63 (mkF m 86 #[.val (.int i0), .val (.int i1), .val (.ref a54), .val (.ref ll), .val (.ref ss)] [(.ref ss)])
    refine own_iloadN X63 hx (hb hby at_86) rfl ?_
    show own_E p e below _ T63 (mkF m 87 #[.val (.int i0), .val (.int i1), .val (.ref a54), .val (.ref ll), .val (.ref ss)] [(.int i1), (.ref ss)])
    obtain ⟨_, _, ⟨T64, L64, k64, n64⟩, -, X64, ⟨Lc64, hQ64, l64, y64, z64⟩, st64⟩ := Jvm.LawKit.callS X63 hx (y := (⟨"java/lang/Integer", "valueOf", "(I)Ljava/lang/Integer;"⟩ : MethodName)) hown (mvT hZ (hw _ (List.mem_of_getElem? (i := 131) rfl))) (mvT hZ (hw _ (List.mem_of_getElem? (i := 7) rfl))) (mvT hZ (hw _ (List.mem_of_getElem? (i := 8) rfl))) (mvT hZ (hw _ (List.mem_of_getElem? (i := 9) rfl))) (by decide) (backOf (W := 1) (own_rmB l Z a0 hw [] i1 w0 cw T62.heap n0 (by omega) ((O0.keep K54 all0).keep K62 all0) S1 S0 A0 z0 t0) hZ (hw _ (List.mem_of_getElem? (i := 9) rfl)) (hw _ (List.mem_of_getElem? (i := 8) rfl)) (by decide) (by decide)) (g := (mkF m 87 #[.val (.int i0), .val (.int i1), .val (.ref a54), .val (.ref ll), .val (.ref ss)] [(.int i1), (.ref ss)])) rfl (by rw [hml]; rfl) (argsL := [(.int i1)]) (rest := [(.ref ss)]) (lenOf own_pd4 rfl) rfl (by show 2 * 0 + _ ≤ _; exact Nat.le_of_eq rfl) (hb hby at_87) (fun _ _ => ⟨rfl, e63, Nat.le_of_ble_eq_true rfl, Nat.le_of_ble_eq_true rfl⟩)
    dsimp only [Pt.U, Pt.locs, Pt.cells, Pt.slots] at X64 l64 y64 z64 st64 hQ64
    subst l64 y64 z64
    obtain ⟨a64, rfl, M64, K64, A64, F64⟩ := hQ64
    have N64 := Fr.app N63 M64
    refine own_go st64 ?_
    have z64 : T62.heap.size ≤ T64.heap.size := K64.1
    show own_E p e below _ T64 (mkF m 90 #[.val (.int i0), .val (.int i1), .val (.ref a54), .val (.ref ll), .val (.ref ss)] [(.ref a64), (.ref ss)])
    obtain ⟨cq65, kq65, qa65, qb65, qc65⟩ := isOf hZ (rfl : T64.heap = T64.heap) ((f6_54.keep K62).keep K64)
    obtain ⟨_, _, ⟨T65, L65, k65, n65⟩, -, X65, ⟨Lc65, hQ65, l65, y65, z65⟩, st65⟩ := X64.interfaceBack hx (xi := (⟨"java/util/Set", "contains", "(Ljava/lang/Object;)Z"⟩ : MethodName)) (y := (⟨"java/util/ImmutableCollections$Set12", "contains", "(Ljava/lang/Object;)Z"⟩ : MethodName)) hown (mvT hZ (hw _ (List.mem_of_getElem? (i := 132) rfl))) (mvT hZ (hw _ (List.mem_of_getElem? (i := 133) rfl))) (mvT hZ (hw _ (List.mem_of_getElem? (i := 134) rfl))) (mvT hZ (hw _ (List.mem_of_getElem? (i := 135) rfl))) (mvT hZ (hw _ (List.mem_of_getElem? (i := 136) rfl))) (mvT hZ (hw _ (List.mem_of_getElem? (i := 137) rfl))) (mvT hZ (hw _ (List.mem_of_getElem? (i := 138) rfl))) (mvT hZ (hw _ (List.mem_of_getElem? (i := 122) rfl))) (by decide) (backOf (W := 0) (own_rmSC l Z a0 hw [] ss a64 bb we i0 i1 T64.heap n0 (by omega) ((f7_54.keep K62 nin0).keep K64 nin0) ((f8_54.keep K62 nin0).keep K64 nin0) ((f9_54.keep K62).keep K64) ((f10_54.keep K62 nin0).keep K64 nin0) A64 F64 (AE.ext ((((O0.keep K54 all0).keep K62 all0).keep K64 all0)).2)) hZ (hw _ (List.mem_of_getElem? (i := 139) rfl)) (hw _ (List.mem_of_getElem? (i := 19) rfl)) (by decide) (by decide)) qa65 qb65 qc65 (g := (mkF m 90 #[.val (.int i0), .val (.int i1), .val (.ref a54), .val (.ref ll), .val (.ref ss)] [(.ref a64), (.ref ss)])) rfl (by rw [hml]; rfl) (Steps.refl _) (argsL := [(.ref a64)]) (rest := []) (lenOf own_pd9 rfl) rfl (by show 2 * 0 + _ ≤ _; exact Nat.le_of_eq rfl) (hb hby at_90) (fun _ _ => ⟨rfl, (rfl : T64.heap = T64.heap), Nat.le_of_ble_eq_true rfl, Nat.le_of_ble_eq_true rfl⟩)
    dsimp only [Pt.U, Pt.locs, Pt.cells, Pt.slots] at X65 l65 y65 z65 st65 hQ65
    subst l65 y65 z65
    obtain ⟨rfl, M65, e65⟩ := hQ65
    have N65 := Fr.app N64 M65
    refine own_go (fun _ k => st65.trans k) ?_
    show own_E p e below _ T65 (mkF m 95 #[.val (.int i0), .val (.int i1), .val (.ref a54), .val (.ref ll), .val (.ref ss)] [(.int (own_eq i1 i0))])
    refine own_ifYes X65 hx (hb hby at_95) (Jvm.Free.XT.i0_eq_t (by rw [own_eq, if_neg (fun q => hab q.symm)])) 100 (by decide) (by decide) ?_
    show own_E p e below _ T65 (mkF m 100 #[.val (.int i0), .val (.int i1), .val (.ref a54), .val (.ref ll), .val (.ref ss)] [])
    refine own_iconst X65 hx (hb hby at_100) (v := (1 : Int32)) (by decide) ?_
    show own_E p e below _ T65 (mkF m 101 #[.val (.int i0), .val (.int i1), .val (.ref a54), .val (.ref ll), .val (.ref ss)] [(.int (1 : Int32))])
    refine own_retN X65 hx (t := .boolean) Bd.returns (by simp) hlk (hb hby at_101) (z' := (1 : Int32)) (by decide) (by decide) (by decide) ?_
    rw [e65]
    exact ⟨rfl, N65⟩

theorem own_len {args : Array Value} {s : State} {t : Term} {a : Addr} {cl : Cell} {v : Int32} (ht : t.eval args s none [] s = some (.ref a)) (ha : s.arrayAt? a = some cl) (h : (Jvm.Cond.eq (.length t) (.int v)).value args s none s [] = some true) (hv : 0 ≤ v.toInt) : cl.slots.size = v.toInt.toNat := by
  by_cases hl : cl.slots.size < 2 ^ 31
  · have e := len_f ht ha hl
    have q := gotT (Cond.eq_ints e (Term.int_eval v)) h
    have z := len_toInt hl
    rw [q] at z
    omega
  · simp [Cond.value, Term.eval, ht, ha, hl] at h
theorem own_valI {args : Array Value} {s : State} {t : Term} {v : Int32} (h : (Jvm.Cond.eq t (.int v)).value args s none s [] = some true) : t.eval args s none [] s = some (.int v) := by
  obtain ⟨x, y, e1, e2, k1, k2⟩ := cmp_v (Or.inl h)
  have e2' : y = .int v := (Option.some.inj ((Term.int_eval v).symm.trans e2)).symm
  subst e2'
  obtain ⟨z, rfl⟩ := k2
  have q := gotT (Cond.eq_ints e1 (Term.int_eval v)) h
  subst q
  exact e1
theorem own_cacheI {args : Array Value} {s : State} {t : Term} {a : Addr} {cw : Cell} (ht : ∀ idx, t.eval args s none idx s = some (.ref a)) (ha : s.arrayAt? a = some cw) (hz : cw.slots.size = 256) (h : (Jvm.Cond.all t (Jvm.Cond.and (Jvm.Cond.exactly (Jvm.Term.elem t (Jvm.Term.index (0 : Nat))) "java/lang/Integer") (Jvm.Cond.eq (Jvm.Term.field (Jvm.Term.elem t (Jvm.Term.index (0 : Nat))) "java/lang/Integer" "value" "I") (Jvm.Term.sub (Jvm.Term.index (0 : Nat)) (Jvm.Term.int (128 : Int32)))))).value args s none s [] = some true) :
    ∀ k, k < 256 → ∃ b, cw.slots[k]? = some (.ref b) ∧ Exa s s.heap b "java/lang/Integer" ∧ Fld s s.heap b "java/lang/Integer" "value" "I" (.int (k.toInt32 - 128)) := by
  intro k hk
  obtain ⟨h1, h2⟩ := and_e (Cond.all_elim (ht _) ha h k (by omega))
  have ek : (Jvm.Term.index 0).eval args s none [k] s = some (.int k.toInt32) := rfl
  have e := len_toInt (n := k) (by omega)
  have n : ¬ k.toInt32 < 0 := by rw [Int32.lt_iff_toInt_lt, e]; simp
  have nk : k.toInt32.toNatClampNeg = k := by have := nat_of n; omega
  obtain ⟨b, c', cell, kk, e1, e2, e3, e4, e5, e6, e7⟩ := Cond.exactly_spec (beq_iff_eq.mpr h1 : (Jvm.Cond.exactly _ "java/lang/Integer").holds args s none s [k] = true)
  have e1' := e1
  rw [elem_f (ht _) ek ha n, nk] at e1'
  subst e6
  refine ⟨b, e1', ⟨cell, kk, e3, e2, e4, e5, e7⟩, ?_⟩
  have ev : (Jvm.Term.sub (Jvm.Term.index (0 : Nat)) (Jvm.Term.int (128 : Int32))).eval args s none [k] s = some (.int (k.toInt32 - 128)) := rfl
  obtain ⟨x, y, f1, f2, k1, k2⟩ := cmp_v (Or.inl h2)
  have f2' : y = .int (k.toInt32 - 128) := (Option.some.inj (ev.symm.trans f2)).symm
  subst f2'
  obtain ⟨z, rfl⟩ := k2
  have q := gotT (Cond.eq_ints f1 ev) h2
  subst q
  exact Fld.start (by rw [← fld_at e1]; exact f1)
set_option maxRecDepth 65536 in
set_option maxHeartbeats 40000000 in
theorem comes_1 {Post : Tables → Env → Array Value → State → Outcome → State → Prop} (hpost : ∀ tb e args s v u, (limb_1_1.after args s (.returned v) u = true ∧ limb_1_2.after args s (.returned v) u = true ∧ True) → FrameEnd s (.returned v) u (Jvm.fieldLocs frame_1_writes args s ++ Jvm.arrayLocs frame_1_arrays args s ++ Jvm.staticLocs frame_1_statics s) 24 128 → Post tb e args s (.returned v) u) :
    ArmFor flags0 classFile x code maxLocals ret World_1 tables_1 room_1 Calls_1 rest_1 Pre_1 Post := by
  intro l hfl _ _ p e ha hc hk s m args below hf hA hF happ hP
  obtain ⟨hcalls, hrest, hpre⟩ := hP
  obtain ⟨-, -, -, hnamed, -, -, -, hat⟩ := (Spec.applies_iff hf).mp happ
  obtain ⟨hg, hn⟩ := and_e (Cond.before_iff.mp (show (Jvm.Cond.and given_1 narrow_1).before args s = true from hpre))
  obtain ⟨hg1, hg2⟩ := and_e hg
  obtain ⟨w0, w1, rfl⟩ : ∃ w0 w1 : Value, args = #[w0, w1] := by
    have hs : args.size = 2 := by simpa [Cond.value, given_1] using hg1
    obtain ⟨L⟩ := args
    match L, hs with
    | [w0, w1], _ => exact ⟨w0, w1, rfl⟩
  have hw := fun d (hd : d ∈ tables_1) => atoms_spec (ws := Jvm.Cond.code x code maxLocals ret :: tables_1) hat d (List.mem_cons_of_mem _ hd)
  have hfit : Fit s := fun {y c} hc i hi => by
    obtain ⟨ha, rfl⟩ := Array.getElem?_eq_some_iff.mp hc
    have q := List.all_eq_true.mp ((Array.all_eq_true_iff_forall_mem.mp hF) _ (Array.getElem_mem ha)) i (List.mem_range.mpr hi)
    simpa [Array.getElem?_eq_getElem hi] using q
  obtain ⟨hk0, hr0⟩ := and_e hg2
  obtain ⟨i0, e0⟩ := is_v hk0
  obtain rfl : w0 = (.int i0) := Option.some.inj e0
  obtain ⟨i1, e1⟩ := is_v hr0
  obtain rfl : w1 = (.int i1) := Option.some.inj e1
  obtain ⟨hsets, hown0⟩ := atoms_of _ (rest_1_c_eq ▸ (show rest_1_c.before _ s = true from hrest))
  have c3 := (Cond.before_iff.mp (hsets _ (List.mem_of_getElem? (i := 3) rfl)))
  have c4 := (Cond.before_iff.mp (hsets _ (List.mem_of_getElem? (i := 4) rfl)))
  have c6 := (Cond.before_iff.mp (hsets _ (List.mem_of_getElem? (i := 6) rfl)))
  have c7 := (Cond.before_iff.mp (hsets _ (List.mem_of_getElem? (i := 7) rfl)))
  have c10 := (Cond.before_iff.mp (hsets _ (List.mem_of_getElem? (i := 10) rfl)))
  obtain ⟨w0, ew⟩ := arr_v c4
  obtain ⟨cw, A0⟩ := Arr.start ew c4
  have S1 : Sta s s.heap "java/lang/Integer$IntegerCache" "high" "I" (.int (127 : Int32)) := Sta.start (own_valI c3) (Or.inl (hsets _ (List.mem_of_getElem? (i := 1) rfl)))
  have S0 : Sta s s.heap "java/lang/Integer$IntegerCache" "cache" "[Ljava/lang/Integer;" (.ref w0) := Sta.start ew (Or.inr ⟨(hw _ (List.mem_of_getElem? (i := 11) rfl)), (hsets _ (List.mem_of_getElem? (i := 2) rfl))⟩)
  have hA0 := Arr.fin (Vm.Alike.refl _) A0
  have z0 : cw.slots.size = 256 := own_len (v := 256) ew hA0 c6 (by decide)
  obtain ⟨we, ee⟩ := exa_v c10
  have AE := Exa.start ee c10
  have SE : Sta s s.heap "java/util/ImmutableCollections" "EMPTY" "Ljava/lang/Object;" (.ref we) := Sta.start ee (Or.inl (hsets _ (List.mem_of_getElem? (i := 9) rfl)))
  obtain ⟨n, o, h1, h2, h3, _, L, rfl, ⟨rfl, N⟩, hq⟩ := own_rm0 l s _ hw tables_1 i0 i1 w0 we cw s.heap s.heap.size (Nat.le_refl _) (Old.start s) S1 S0 A0 z0 (own_cacheI (fun _ => ew) hA0 z0 c7) SE AE p e ha hc hk s m _ below hf ((Spec.applies_iff_loose hf).mp happ).1 ⟨rfl, State.Warmed39.refl s, rfl⟩ trivial
  refine ⟨n, _, h1, h2, h3, hpost _ _ _ _ _ _ ⟨Cond.after_iff.mpr rfl, Cond.after_iff.mpr (eq_i res_at (Term.int_eval (1)) rfl), trivial⟩ ⟨hq.1, hq.2.1, (hq.2.2.sift fun y hy => Or.inr (N y hy)).mono (by decide) (by decide)⟩⟩
theorem main_1_1 : Claimed_1_1 := comes_1 fun _ _ _ _ _ _ h hF => ⟨h.1, hF⟩
theorem main_1_2 : Claimed_1_2 := comes_1 fun _ _ _ _ _ _ h hF => ⟨h.2.1, hF⟩
end Jvm.Pilot.@@N@@
namespace Jvm.Pilot.@@N@@
open Jvm Jvm.ClassFile Sem Op Lib Jvm.Free Jvm.Stand Jvm.Pilot.@@N@@.Jvm.D
/-! MADE BY PROGRAM (witnessworld.py) out of the Statement's table words and the real class files: 31 classes; the members and pool entries that the words name. The judged class is class 1, her method 1. -/
namespace start1
open Jvm.ClassFile
def u (s : String) : CpInfo := .utf8 (stringToUtf16 s)
/-- a pool by its gaps: so many unusable entries, then the entry; so many at the end -/
def gap : Nat → List CpInfo → List CpInfo
  | 0, r => r
  | n + 1, r => .unusable :: gap n r
def poolList (es : List (Nat × CpInfo)) (last : Nat) : List CpInfo := es.foldr (fun e r => gap e.1 (e.2 :: r)) (gap last [])
def pool (es : List (Nat × CpInfo)) (last : Nat) : Array CpInfo := ⟨poolList es last⟩
def fileOf (pool : Array CpInfo) (this : Nat) (attrs : Array Attribute := #[]) (ms : Array MethodInfo := #[]) (fl : Nat := 33) (sup : Nat := 0) (ifs : Array Nat := #[]) (fds : Array FieldInfo := #[]) : ClassFile where
  minorVersion := 0
  majorVersion := 65
  constantPool := pool
  accessFlags := fl
  thisClass := this
  superClass := sup
  interfaces := ifs
  fields := fds
  methods := ms
  attributes := attrs
def plain (name : String) (sup : Option ClassId) : Class where
  name := name
  kind := .ordinary
  loader := none
  accessFlags := 33
  super := sup
  interfaces := #[]
  cf := none
  fields := #[]
  methods := #[]
  instanceTypes := #[]
  staticTypes := #[]
  resolved := #[]
  callSites := []
  init := .initialized
  statics := none
  mirror := none

def pool0 : Array CpInfo := pool [(5, u "<init>"), (0, u "()V"), (1, .class_ 10), (1, u "java/lang/Object"), (81, u "equals"), (0, u "(Ljava/lang/Object;)Z")] 30

def k0c0 : Code := { maxStack := 0, maxLocals := 1, code := object_method_1_code, exceptionTable := #[], attributes := #[] }
def k0m0 : Method := { name := "<init>", desc := "()V", sig := { parameters := [], returnType := none }, accessFlags := 1, code := some k0c0 }
def k0c1 : Code := { maxStack := 2, maxLocals := 2, code := object_method_4_code, exceptionTable := #[], attributes := #[] }
def k0m1 : Method := { name := "equals", desc := "(Ljava/lang/Object;)Z", sig := { parameters := [(.object "java/lang/Object")], returnType := some .boolean }, accessFlags := 1, code := some k0c1 }
/-- java/lang/Object -/
def k0 : Class := { plain "java/lang/Object" none with
  accessFlags := 33
  interfaces := #[]
  cf := some (fileOf pool0 8 #[] #[{ accessFlags := 1, nameIndex := 5, descriptorIndex := 6, attributes := #[] }, { accessFlags := 1, nameIndex := 92, descriptorIndex := 93, attributes := #[] }] 33 0 #[] #[])
  fields := #[]
  methods := #[k0m0, k0m1]
  instanceTypes := #[]
  staticTypes := #[]
  resolved := Array.replicate 124 none
  statics := none }

def pool1 : Array CpInfo := pool [(2, .class_ 4), (1, u "java/lang/Object"), (0, u "<init>"), (0, u "()V"), (0, .methodref 8 9), (0, .class_ 10), (0, .nameAndType 11 12), (0, u "com/example/minga/minga/policy/Alternatives"), (0, u "of"), (0, u "(I)Lcom/example/minga/minga/policy/Alternatives;"), (0, .methodref 8 14), (0, .nameAndType 15 16), (0, u "isTrue"), (0, u "()Z"), (0, .methodref 8 18), (0, .nameAndType 19 16), (0, u "isFalse"), (0, .methodref 8 21), (0, .nameAndType 22 23), (0, u "sets"), (0, u "()Ljava/util/List;"), (0, .interfaceMethodref 25 26), (0, .class_ 27), (0, .nameAndType 28 29), (0, u "java/util/List"), (0, u "size"), (0, u "()I"), (0, .interfaceMethodref 25 31), (0, .nameAndType 32 33), (0, u "get"), (0, u "(I)Ljava/lang/Object;"), (0, .class_ 35), (0, u "java/util/Set"), (0, .interfaceMethodref 34 26), (0, .methodref 38 39), (0, .class_ 40), (0, .nameAndType 41 42), (0, u "java/lang/Integer"), (0, u "valueOf"), (0, u "(I)Ljava/lang/Integer;"), (0, .interfaceMethodref 34 44), (0, .nameAndType 45 46), (0, u "contains"), (0, u "(Ljava/lang/Object;)Z"), (0, .class_ 48), (0, u "com/example/minga/minga/policy/AlternativesOfPinLaw"), (2, u "law"), (0, u "(II)Z")] 3

def k1m0 : Method := { name := "<init>", desc := "()V", sig := { parameters := [], returnType := none }, accessFlags := 1, code := none }
def k1c1 : Code := { maxStack := 2, maxLocals := 5, code := code, exceptionTable := #[], attributes := #[] }
def k1m1 : Method := { name := "law", desc := "(II)Z", sig := { parameters := [.int, .int], returnType := some .boolean }, accessFlags := 9, code := some k1c1 }
/-- com/example/minga/minga/policy/AlternativesOfPinLaw -/
def k1 : Class := { plain "com/example/minga/minga/policy/AlternativesOfPinLaw" (some 0) with
  accessFlags := 49
  interfaces := #[]
  cf := some (fileOf pool1 47 #[] #[{ accessFlags := 1, nameIndex := 5, descriptorIndex := 6, attributes := #[] }, { accessFlags := 9, nameIndex := 51, descriptorIndex := 52, attributes := #[] }] 49 2 #[] #[])
  fields := #[]
  methods := #[k1m0, k1m1]
  instanceTypes := #[]
  staticTypes := #[]
  resolved := Array.replicate 56 none
  statics := none }

def pool2 : Array CpInfo := pool [(1, .methodref 2 3), (0, .class_ 4), (0, .nameAndType 5 6), (0, u "java/lang/Object"), (0, u "<init>"), (0, u "()V"), (0, .fieldref 8 9), (0, .class_ 10), (0, .nameAndType 11 12), (0, u "com/example/minga/minga/policy/Alternatives"), (0, u "value"), (0, u "Z"), (0, .fieldref 8 14), (0, .nameAndType 15 16), (0, u "sets"), (0, u "Ljava/util/List;"), (0, .methodref 18 19), (0, .class_ 20), (0, .nameAndType 21 22), (0, u "java/lang/Integer"), (0, u "valueOf"), (0, u "(I)Ljava/lang/Integer;"), (0, .interfaceMethodref 24 25), (0, .class_ 26), (0, .nameAndType 27 28), (0, u "java/util/Set"), (0, u "of"), (0, u "(Ljava/lang/Object;)Ljava/util/Set;"), (0, .interfaceMethodref 30 31), (0, .class_ 32), (0, .nameAndType 27 33), (0, u "java/util/List"), (0, u "(Ljava/lang/Object;)Ljava/util/List;"), (0, .methodref 8 35), (0, .nameAndType 5 36), (0, u "(ZLjava/util/List;)V"), (2, u "TRUE"), (0, u "Lcom/example/minga/minga/policy/Alternatives;"), (2, u "FALSE"), (2, u "()Ljava/util/List;"), (2, u "isFalse"), (0, u "()Z"), (2, u "isTrue"), (56, u "(I)Lcom/example/minga/minga/policy/Alternatives;")] 9

def k2c0 : Code := { maxStack := 2, maxLocals := 3, code := prog_24_method_1_code, exceptionTable := #[], attributes := #[] }
def k2m0 : Method := { name := "<init>", desc := "(ZLjava/util/List;)V", sig := { parameters := [.boolean, (.object "java/util/List")], returnType := none }, accessFlags := 2, code := some k2c0 }
def k2c1 : Code := { maxStack := 4, maxLocals := 1, code := prog_24_method_2_code, exceptionTable := #[], attributes := #[] }
def k2m1 : Method := { name := "of", desc := "(I)Lcom/example/minga/minga/policy/Alternatives;", sig := { parameters := [.int], returnType := some (.object "com/example/minga/minga/policy/Alternatives") }, accessFlags := 8, code := some k2c1 }
def k2c2 : Code := { maxStack := 1, maxLocals := 1, code := prog_24_method_4_code, exceptionTable := #[], attributes := #[] }
def k2m2 : Method := { name := "isTrue", desc := "()Z", sig := { parameters := [], returnType := some .boolean }, accessFlags := 0, code := some k2c2 }
def k2c3 : Code := { maxStack := 1, maxLocals := 1, code := prog_24_method_5_code, exceptionTable := #[], attributes := #[] }
def k2m3 : Method := { name := "isFalse", desc := "()Z", sig := { parameters := [], returnType := some .boolean }, accessFlags := 0, code := some k2c3 }
def k2c4 : Code := { maxStack := 1, maxLocals := 1, code := prog_24_method_6_code, exceptionTable := #[], attributes := #[] }
def k2m4 : Method := { name := "sets", desc := "()Ljava/util/List;", sig := { parameters := [], returnType := some (.object "java/util/List") }, accessFlags := 0, code := some k2c4 }
/-- com/example/minga/minga/policy/Alternatives -/
def k2 : Class := { plain "com/example/minga/minga/policy/Alternatives" (some 0) with
  accessFlags := 48
  interfaces := #[]
  cf := some (fileOf pool2 8 #[] #[{ accessFlags := 2, nameIndex := 5, descriptorIndex := 36, attributes := #[] }, { accessFlags := 8, nameIndex := 27, descriptorIndex := 110, attributes := #[] }, { accessFlags := 0, nameIndex := 53, descriptorIndex := 50, attributes := #[] }, { accessFlags := 0, nameIndex := 49, descriptorIndex := 50, attributes := #[] }, { accessFlags := 0, nameIndex := 15, descriptorIndex := 46, attributes := #[] }] 48 2 #[] #[{ accessFlags := 24, nameIndex := 39, descriptorIndex := 40, attributes := #[] }, { accessFlags := 24, nameIndex := 43, descriptorIndex := 40, attributes := #[] }, { accessFlags := 18, nameIndex := 11, descriptorIndex := 12, attributes := #[] }, { accessFlags := 18, nameIndex := 15, descriptorIndex := 16, attributes := #[] }])
  fields := #[{ name := "TRUE", type := (.object "com/example/minga/minga/policy/Alternatives"), accessFlags := 24, slot := 0, constantValue := 0 }, { name := "FALSE", type := (.object "com/example/minga/minga/policy/Alternatives"), accessFlags := 24, slot := 1, constantValue := 0 }, { name := "value", type := .boolean, accessFlags := 18, slot := 0, constantValue := 0 }, { name := "sets", type := (.object "java/util/List"), accessFlags := 18, slot := 1, constantValue := 0 }]
  methods := #[k2m0, k2m1, k2m2, k2m3, k2m4]
  instanceTypes := #[.boolean, (.object "java/util/List")]
  staticTypes := #[(.object "com/example/minga/minga/policy/Alternatives"), (.object "com/example/minga/minga/policy/Alternatives")]
  resolved := Array.replicate 120 none
  statics := none }

def pool3 : Array CpInfo := pool [(1, .class_ 2), (0, u "java/io/Serializable"), (0, .class_ 4), (0, u "java/lang/Object")] 2

/-- java/io/Serializable -/
def k3 : Class := { plain "java/io/Serializable" (some 0) with
  accessFlags := 1537
  interfaces := #[]
  cf := some (fileOf pool3 1 #[] #[] 1537 3 #[] #[])
  fields := #[]
  methods := #[]
  instanceTypes := #[]
  staticTypes := #[]
  resolved := Array.replicate 7 none
  statics := none }

def pool4 : Array CpInfo := pool [(1, .methodref 2 3), (0, .class_ 4), (0, .nameAndType 5 6), (0, u "java/lang/Object"), (0, u "<init>"), (0, u "()V"), (1, .class_ 10), (1, u "java/lang/Number"), (2, .class_ 14), (0, u "java/io/Serializable"), (0, u "serialVersionUID"), (0, u "J")] 20

def k4c0 : Code := { maxStack := 1, maxLocals := 1, code := jdk_18_method_1_code, exceptionTable := #[], attributes := #[] }
def k4m0 : Method := { name := "<init>", desc := "()V", sig := { parameters := [], returnType := none }, accessFlags := 1, code := some k4c0 }
/-- java/lang/Number -/
def k4 : Class := { plain "java/lang/Number" (some 0) with
  accessFlags := 1057
  interfaces := #[3]
  cf := some (fileOf pool4 8 #[] #[{ accessFlags := 1, nameIndex := 5, descriptorIndex := 6, attributes := #[] }] 1057 2 #[13] #[{ accessFlags := 26, nameIndex := 15, descriptorIndex := 16, attributes := #[] }])
  fields := #[{ name := "serialVersionUID", type := .long, accessFlags := 26, slot := 0, constantValue := 0 }]
  methods := #[k4m0]
  instanceTypes := #[]
  staticTypes := #[.long]
  resolved := Array.replicate 37 none
  statics := none }

def pool5 : Array CpInfo := pool [(1, .class_ 2), (0, u "java/lang/Comparable"), (0, .class_ 4), (0, u "java/lang/Object")] 7

/-- java/lang/Comparable -/
def k5 : Class := { plain "java/lang/Comparable" (some 0) with
  accessFlags := 1537
  interfaces := #[]
  cf := some (fileOf pool5 1 #[] #[] 1537 3 #[] #[])
  fields := #[]
  methods := #[]
  instanceTypes := #[]
  staticTypes := #[]
  resolved := Array.replicate 12 none
  statics := none }

def pool6 : Array CpInfo := pool [(1, .class_ 2), (0, u "java/lang/constant/Constable"), (0, .class_ 4), (0, u "java/lang/Object")] 6

/-- java/lang/constant/Constable -/
def k6 : Class := { plain "java/lang/constant/Constable" (some 0) with
  accessFlags := 1537
  interfaces := #[]
  cf := some (fileOf pool6 1 #[] #[] 1537 3 #[] #[])
  fields := #[]
  methods := #[]
  instanceTypes := #[]
  staticTypes := #[]
  resolved := Array.replicate 11 none
  statics := none }

def pool7 : Array CpInfo := pool [(1, .class_ 2), (0, u "java/lang/constant/ConstantDesc"), (0, .class_ 4), (0, u "java/lang/Object")] 32

/-- java/lang/constant/ConstantDesc -/
def k7 : Class := { plain "java/lang/constant/ConstantDesc" (some 0) with
  accessFlags := 1537
  interfaces := #[]
  cf := some (fileOf pool7 1 #[] #[] 1537 3 #[] #[])
  fields := #[]
  methods := #[]
  instanceTypes := #[]
  staticTypes := #[]
  resolved := Array.replicate 37 none
  statics := none }

def pool8 : Array CpInfo := pool [(1, .class_ 2), (0, u "java/lang/Integer"), (16, u "digits"), (0, u "[C"), (46, u "<init>"), (17, u "DigitOnes"), (0, u "[B"), (2, u "DigitTens"), (10, .nameAndType 67 101), (0, u "()V"), (19, u "()I"), (65, u "valueOf"), (0, u "(I)Ljava/lang/Integer;"), (0, .class_ 190), (0, u "java/lang/Integer$IntegerCache"), (0, .fieldref 189 192), (0, .nameAndType 193 194), (0, u "high"), (0, u "I"), (0, .fieldref 189 196), (0, .nameAndType 197 198), (0, u "cache"), (0, u "[Ljava/lang/Integer;"), (0, .methodref 1 200), (0, .nameAndType 67 201), (0, u "(I)V"), (0, .methodref 203 100), (0, .class_ 204), (0, u "java/lang/Number"), (0, .fieldref 1 206), (0, .nameAndType 207 194), (0, u "value"), (3, .methodref 1 212), (0, .nameAndType 213 121), (0, u "intValue"), (88, u "TYPE"), (0, u "Ljava/lang/Class;"), (0, .class_ 305), (0, u "java/lang/Comparable"), (0, .class_ 307), (0, u "java/lang/constant/Constable"), (0, .class_ 309), (0, u "java/lang/constant/ConstantDesc"), (0, u "MIN_VALUE"), (1, u "MAX_VALUE"), (3, u "SIZE"), (1, u "BYTES"), (1, u "serialVersionUID"), (0, u "J"), (63, u "equals"), (0, u "(Ljava/lang/Object;)Z")] 66

def k8c0 : Code := { maxStack := 3, maxLocals := 1, code := jdk_33_method_22_code, exceptionTable := #[], attributes := #[] }
def k8m0 : Method := { name := "valueOf", desc := "(I)Ljava/lang/Integer;", sig := { parameters := [.int], returnType := some (.object "java/lang/Integer") }, accessFlags := 9, code := some k8c0 }
def k8c1 : Code := { maxStack := 2, maxLocals := 2, code := jdk_33_method_23_code, exceptionTable := #[], attributes := #[] }
def k8m1 : Method := { name := "<init>", desc := "(I)V", sig := { parameters := [.int], returnType := none }, accessFlags := 1, code := some k8c1 }
def k8c2 : Code := { maxStack := 1, maxLocals := 1, code := jdk_33_method_27_code, exceptionTable := #[], attributes := #[] }
def k8m2 : Method := { name := "intValue", desc := "()I", sig := { parameters := [], returnType := some .int }, accessFlags := 1, code := some k8c2 }
def k8c3 : Code := { maxStack := 2, maxLocals := 2, code := jdk_33_method_34_code, exceptionTable := #[], attributes := #[] }
def k8m3 : Method := { name := "equals", desc := "(Ljava/lang/Object;)Z", sig := { parameters := [(.object "java/lang/Object")], returnType := some .boolean }, accessFlags := 1, code := some k8c3 }
/-- java/lang/Integer -/
def k8 : Class := { plain "java/lang/Integer" (some 4) with
  accessFlags := 49
  interfaces := #[5, 6, 7]
  cf := some (fileOf pool8 1 #[.nestMembers #[189]] #[{ accessFlags := 9, nameIndex := 187, descriptorIndex := 188, attributes := #[] }, { accessFlags := 1, nameIndex := 67, descriptorIndex := 201, attributes := #[] }, { accessFlags := 1, nameIndex := 213, descriptorIndex := 121, attributes := #[] }, { accessFlags := 1, nameIndex := 385, descriptorIndex := 386, attributes := #[] }] 49 203 #[304, 306, 308] #[{ accessFlags := 25, nameIndex := 310, descriptorIndex := 194, attributes := #[] }, { accessFlags := 25, nameIndex := 312, descriptorIndex := 194, attributes := #[] }, { accessFlags := 25, nameIndex := 302, descriptorIndex := 303, attributes := #[] }, { accessFlags := 24, nameIndex := 19, descriptorIndex := 20, attributes := #[] }, { accessFlags := 24, nameIndex := 89, descriptorIndex := 86, attributes := #[] }, { accessFlags := 24, nameIndex := 85, descriptorIndex := 86, attributes := #[] }, { accessFlags := 18, nameIndex := 207, descriptorIndex := 194, attributes := #[] }, { accessFlags := 25, nameIndex := 316, descriptorIndex := 194, attributes := #[] }, { accessFlags := 25, nameIndex := 318, descriptorIndex := 194, attributes := #[] }, { accessFlags := 26, nameIndex := 320, descriptorIndex := 321, attributes := #[] }])
  fields := #[{ name := "MIN_VALUE", type := .int, accessFlags := 25, slot := 0, constantValue := 0 }, { name := "MAX_VALUE", type := .int, accessFlags := 25, slot := 1, constantValue := 0 }, { name := "TYPE", type := (.object "java/lang/Class"), accessFlags := 25, slot := 2, constantValue := 0 }, { name := "digits", type := (.array .char), accessFlags := 24, slot := 3, constantValue := 0 }, { name := "DigitTens", type := (.array .byte), accessFlags := 24, slot := 4, constantValue := 0 }, { name := "DigitOnes", type := (.array .byte), accessFlags := 24, slot := 5, constantValue := 0 }, { name := "value", type := .int, accessFlags := 18, slot := 0, constantValue := 0 }, { name := "SIZE", type := .int, accessFlags := 25, slot := 6, constantValue := 0 }, { name := "BYTES", type := .int, accessFlags := 25, slot := 7, constantValue := 0 }, { name := "serialVersionUID", type := .long, accessFlags := 26, slot := 8, constantValue := 0 }]
  methods := #[k8m0, k8m1, k8m2, k8m3]
  instanceTypes := #[.int]
  staticTypes := #[.int, .int, (.object "java/lang/Class"), (.array .char), (.array .byte), (.array .byte), .int, .int, .long]
  resolved := Array.replicate 453 none
  statics := none }

def pool9 : Array CpInfo := pool [(2, .class_ 4), (1, u "java/lang/Object"), (0, u "<init>"), (0, u "()V"), (0, .class_ 8), (0, u "java/lang/Integer"), (7, .class_ 18), (1, u "java/lang/Integer$IntegerCache"), (0, u "$assertionsDisabled"), (0, u "Z"), (26, u "high"), (0, u "I"), (8, u "archivedCache"), (0, u "[Ljava/lang/Integer;"), (12, u "cache"), (0, u "low")] 27

def k9m0 : Method := { name := "<init>", desc := "()V", sig := { parameters := [], returnType := none }, accessFlags := 2, code := none }
/-- java/lang/Integer$IntegerCache -/
def k9 : Class := { plain "java/lang/Integer$IntegerCache" (some 0) with
  accessFlags := 48
  interfaces := #[]
  cf := some (fileOf pool9 16 #[.nestHost 7] #[{ accessFlags := 2, nameIndex := 5, descriptorIndex := 6, attributes := #[] }] 48 2 #[] #[{ accessFlags := 24, nameIndex := 72, descriptorIndex := 48, attributes := #[] }, { accessFlags := 24, nameIndex := 47, descriptorIndex := 48, attributes := #[] }, { accessFlags := 24, nameIndex := 71, descriptorIndex := 58, attributes := #[] }, { accessFlags := 8, nameIndex := 57, descriptorIndex := 58, attributes := #[] }, { accessFlags := 4120, nameIndex := 19, descriptorIndex := 20, attributes := #[] }])
  fields := #[{ name := "low", type := .int, accessFlags := 24, slot := 0, constantValue := 0 }, { name := "high", type := .int, accessFlags := 24, slot := 1, constantValue := 0 }, { name := "cache", type := (.array (.object "java/lang/Integer")), accessFlags := 24, slot := 2, constantValue := 0 }, { name := "archivedCache", type := (.array (.object "java/lang/Integer")), accessFlags := 8, slot := 3, constantValue := 0 }, { name := "$assertionsDisabled", type := .boolean, accessFlags := 4120, slot := 4, constantValue := 0 }]
  methods := #[k9m0]
  instanceTypes := #[]
  staticTypes := #[.int, .int, (.array (.object "java/lang/Integer")), (.array (.object "java/lang/Integer")), .boolean]
  resolved := Array.replicate 100 none
  statics := some 0 }

def pool10 : Array CpInfo := pool [(8, .class_ 10), (1, u "java/lang/Iterable"), (24, .class_ 36), (0, u "java/lang/Object")] 25

/-- java/lang/Iterable -/
def k10 : Class := { plain "java/lang/Iterable" (some 0) with
  accessFlags := 1537
  interfaces := #[]
  cf := some (fileOf pool10 8 #[] #[] 1537 35 #[] #[])
  fields := #[]
  methods := #[]
  instanceTypes := #[]
  staticTypes := #[]
  resolved := Array.replicate 62 none
  statics := none }

def pool11 : Array CpInfo := pool [(10, .class_ 12), (1, u "java/util/Collection"), (47, .class_ 61), (0, u "java/lang/Object"), (0, .class_ 63), (0, u "java/lang/Iterable")] 51

/-- java/util/Collection -/
def k11 : Class := { plain "java/util/Collection" (some 0) with
  accessFlags := 1537
  interfaces := #[10]
  cf := some (fileOf pool11 10 #[] #[] 1537 60 #[62] #[])
  fields := #[]
  methods := #[]
  instanceTypes := #[]
  staticTypes := #[]
  resolved := Array.replicate 115 none
  statics := none }

def pool12 : Array CpInfo := pool [(15, .class_ 16), (0, u "java/util/ImmutableCollections$Set12"), (0, .methodref 15 18), (0, .nameAndType 19 20), (0, u "<init>"), (0, u "(Ljava/lang/Object;)V"), (5, .class_ 27), (0, u "java/lang/Object"), (5, .class_ 34), (0, u "java/util/Set"), (1, .class_ 38), (1, u "java/util/Collection"), (4, u "of"), (13, u "size"), (0, u "()I"), (0, u "contains"), (0, u "(Ljava/lang/Object;)Z"), (30, u "(Ljava/lang/Object;)Ljava/util/Set;")] 52

def k12m0 : Method := { name := "size", desc := "()I", sig := { parameters := [], returnType := some .int }, accessFlags := 1025, code := none }
def k12m1 : Method := { name := "contains", desc := "(Ljava/lang/Object;)Z", sig := { parameters := [(.object "java/lang/Object")], returnType := some .boolean }, accessFlags := 1025, code := none }
def k12c2 : Code := { maxStack := 3, maxLocals := 1, code := jdk_96_method_18_code, exceptionTable := #[], attributes := #[] }
def k12m2 : Method := { name := "of", desc := "(Ljava/lang/Object;)Ljava/util/Set;", sig := { parameters := [(.object "java/lang/Object")], returnType := some (.object "java/util/Set") }, accessFlags := 9, code := some k12c2 }
/-- java/util/Set -/
def k12 : Class := { plain "java/util/Set" (some 0) with
  accessFlags := 1537
  interfaces := #[11]
  cf := some (fileOf pool12 33 #[] #[{ accessFlags := 1025, nameIndex := 57, descriptorIndex := 58, attributes := #[] }, { accessFlags := 1025, nameIndex := 59, descriptorIndex := 60, attributes := #[] }, { accessFlags := 9, nameIndex := 43, descriptorIndex := 91, attributes := #[] }] 1537 26 #[36] #[])
  fields := #[]
  methods := #[k12m0, k12m1, k12m2]
  instanceTypes := #[]
  staticTypes := #[]
  resolved := Array.replicate 144 none
  statics := none }

def pool13 : Array CpInfo := pool [(1, .methodref 2 3), (0, .class_ 4), (0, .nameAndType 5 6), (0, u "java/lang/Object"), (0, u "<init>"), (0, u "()V"), (1, .class_ 10), (1, u "java/util/AbstractCollection"), (66, .class_ 78), (0, u "java/util/Collection")] 81

def k13c0 : Code := { maxStack := 1, maxLocals := 1, code := jdk_22_method_1_code, exceptionTable := #[], attributes := #[] }
def k13m0 : Method := { name := "<init>", desc := "()V", sig := { parameters := [], returnType := none }, accessFlags := 4, code := some k13c0 }
/-- java/util/AbstractCollection -/
def k13 : Class := { plain "java/util/AbstractCollection" (some 0) with
  accessFlags := 1057
  interfaces := #[11]
  cf := some (fileOf pool13 8 #[] #[{ accessFlags := 4, nameIndex := 5, descriptorIndex := 6, attributes := #[] }] 1057 2 #[77] #[])
  fields := #[]
  methods := #[k13m0]
  instanceTypes := #[]
  staticTypes := #[]
  resolved := Array.replicate 160 none
  statics := none }

def pool14 : Array CpInfo := pool [(1, .methodref 2 3), (0, .class_ 4), (0, .nameAndType 5 6), (0, u "java/util/AbstractCollection"), (0, u "<init>"), (0, u "()V"), (1, .class_ 10), (1, u "java/util/ImmutableCollections"), (2, .class_ 14), (0, u "java/util/ImmutableCollections$AbstractImmutableCollection")] 41

def k14c0 : Code := { maxStack := 1, maxLocals := 1, code := jdk_47_method_1_code, exceptionTable := #[], attributes := #[] }
def k14m0 : Method := { name := "<init>", desc := "()V", sig := { parameters := [], returnType := none }, accessFlags := 0, code := some k14c0 }
/-- java/util/ImmutableCollections$AbstractImmutableCollection -/
def k14 : Class := { plain "java/util/ImmutableCollections$AbstractImmutableCollection" (some 13) with
  accessFlags := 1056
  interfaces := #[]
  cf := some (fileOf pool14 13 #[.nestHost 8] #[{ accessFlags := 0, nameIndex := 5, descriptorIndex := 6, attributes := #[] }] 1056 2 #[] #[])
  fields := #[]
  methods := #[k14m0]
  instanceTypes := #[]
  staticTypes := #[]
  resolved := Array.replicate 56 none
  statics := none }

def pool15 : Array CpInfo := pool [(1, .methodref 2 3), (0, .class_ 4), (0, .nameAndType 5 6), (0, u "java/util/ImmutableCollections$AbstractImmutableCollection"), (0, u "<init>"), (0, u "()V"), (0, .class_ 8), (0, u "java/util/Set"), (7, .class_ 17), (0, u "java/util/ImmutableCollections$AbstractImmutableSet"), (43, .class_ 62), (0, u "java/util/ImmutableCollections")] 3

def k15c0 : Code := { maxStack := 1, maxLocals := 1, code := jdk_100_method_1_code, exceptionTable := #[], attributes := #[] }
def k15m0 : Method := { name := "<init>", desc := "()V", sig := { parameters := [], returnType := none }, accessFlags := 0, code := some k15c0 }
/-- java/util/ImmutableCollections$AbstractImmutableSet -/
def k15 : Class := { plain "java/util/ImmutableCollections$AbstractImmutableSet" (some 14) with
  accessFlags := 1056
  interfaces := #[12]
  cf := some (fileOf pool15 16 #[.nestHost 61] #[{ accessFlags := 0, nameIndex := 5, descriptorIndex := 6, attributes := #[] }] 1056 2 #[7] #[])
  fields := #[]
  methods := #[k15m0]
  instanceTypes := #[]
  staticTypes := #[]
  resolved := Array.replicate 66 none
  statics := none }

def pool16 : Array CpInfo := pool [(1, .methodref 2 3), (0, .class_ 4), (0, .nameAndType 5 6), (0, u "java/util/ImmutableCollections$AbstractImmutableSet"), (0, u "<init>"), (0, u "()V"), (0, .methodref 8 9), (0, .class_ 10), (0, .nameAndType 11 12), (0, u "java/util/Objects"), (0, u "requireNonNull"), (0, u "(Ljava/lang/Object;)Ljava/lang/Object;"), (0, .fieldref 14 15), (0, .class_ 16), (0, .nameAndType 17 18), (0, u "java/util/ImmutableCollections$Set12"), (0, u "e0"), (0, u "Ljava/lang/Object;"), (0, .fieldref 20 21), (0, .class_ 22), (0, .nameAndType 23 18), (0, u "java/util/ImmutableCollections"), (0, u "EMPTY"), (0, .fieldref 14 25), (0, .nameAndType 26 18), (0, u "e1"), (0, .methodref 28 29), (0, .class_ 30), (0, .nameAndType 31 32), (0, u "java/lang/Object"), (0, u "equals"), (0, u "(Ljava/lang/Object;)Z"), (24, u "()I"), (21, u "size"), (17, .class_ 98), (0, u "java/io/Serializable"), (4, u "(Ljava/lang/Object;)V"), (13, u "contains")] 31

def k16c0 : Code := { maxStack := 2, maxLocals := 2, code := jdk_101_method_1_code, exceptionTable := #[], attributes := #[] }
def k16m0 : Method := { name := "<init>", desc := "(Ljava/lang/Object;)V", sig := { parameters := [(.object "java/lang/Object")], returnType := none }, accessFlags := 0, code := some k16c0 }
def k16c1 : Code := { maxStack := 2, maxLocals := 1, code := jdk_101_method_3_code, exceptionTable := #[], attributes := #[] }
def k16m1 : Method := { name := "size", desc := "()I", sig := { parameters := [], returnType := some .int }, accessFlags := 1, code := some k16c1 }
def k16c2 : Code := { maxStack := 2, maxLocals := 2, code := jdk_101_method_5_code, exceptionTable := #[], attributes := #[] }
def k16m2 : Method := { name := "contains", desc := "(Ljava/lang/Object;)Z", sig := { parameters := [(.object "java/lang/Object")], returnType := some .boolean }, accessFlags := 1, code := some k16c2 }
/-- java/util/ImmutableCollections$Set12 -/
def k16 : Class := { plain "java/util/ImmutableCollections$Set12" (some 15) with
  accessFlags := 48
  interfaces := #[3]
  cf := some (fileOf pool16 14 #[.nestHost 20] #[{ accessFlags := 0, nameIndex := 5, descriptorIndex := 103, attributes := #[] }, { accessFlags := 1, nameIndex := 79, descriptorIndex := 57, attributes := #[] }, { accessFlags := 1, nameIndex := 117, descriptorIndex := 32, attributes := #[] }] 48 2 #[97] #[{ accessFlags := 18, nameIndex := 17, descriptorIndex := 18, attributes := #[] }, { accessFlags := 18, nameIndex := 26, descriptorIndex := 18, attributes := #[] }])
  fields := #[{ name := "e0", type := (.object "java/lang/Object"), accessFlags := 18, slot := 0, constantValue := 0 }, { name := "e1", type := (.object "java/lang/Object"), accessFlags := 18, slot := 1, constantValue := 0 }]
  methods := #[k16m0, k16m1, k16m2]
  instanceTypes := #[(.object "java/lang/Object"), (.object "java/lang/Object")]
  staticTypes := #[]
  resolved := Array.replicate 149 none
  statics := none }

def pool17 : Array CpInfo := pool [(2, .class_ 4), (1, u "java/lang/Object"), (0, u "<init>"), (0, u "()V"), (35, .class_ 44), (1, u "java/util/Objects"), (0, u "requireNonNull"), (0, u "(Ljava/lang/Object;)Ljava/lang/Object;")] 137

def k17m0 : Method := { name := "<init>", desc := "()V", sig := { parameters := [], returnType := none }, accessFlags := 2, code := none }
def k17c1 : Code := { maxStack := 2, maxLocals := 1, code := jdk_31_method_10_code, exceptionTable := #[], attributes := #[] }
def k17m1 : Method := { name := "requireNonNull", desc := "(Ljava/lang/Object;)Ljava/lang/Object;", sig := { parameters := [(.object "java/lang/Object")], returnType := some (.object "java/lang/Object") }, accessFlags := 9, code := some k17c1 }
/-- java/util/Objects -/
def k17 : Class := { plain "java/util/Objects" (some 0) with
  accessFlags := 49
  interfaces := #[]
  cf := some (fileOf pool17 42 #[] #[{ accessFlags := 2, nameIndex := 5, descriptorIndex := 6, attributes := #[] }, { accessFlags := 9, nameIndex := 45, descriptorIndex := 46, attributes := #[] }] 49 2 #[] #[])
  fields := #[]
  methods := #[k17m0, k17m1]
  instanceTypes := #[]
  staticTypes := #[]
  resolved := Array.replicate 184 none
  statics := none }

def pool18 : Array CpInfo := pool [(2, .class_ 4), (1, u "java/lang/Object"), (0, u "<init>"), (0, u "()V"), (3, .class_ 11), (0, u "java/util/ImmutableCollections$List12"), (0, .class_ 13), (0, u "java/util/ImmutableCollections$ListN"), (3, u "Z"), (29, .class_ 49), (1, u "java/util/ImmutableCollections"), (0, u "$assertionsDisabled"), (5, u "[Ljava/lang/Object;"), (5, u "EMPTY_LIST"), (0, u "Ljava/util/ImmutableCollections$ListN;"), (8, u "EMPTY_LIST_NULLS"), (22, u "SALT32L"), (0, u "J"), (2, u "REVERSE"), (6, u "archivedObjects"), (2, u "EMPTY"), (0, u "Ljava/lang/Object;"), (0, .class_ 112), (0, u "java/util/ImmutableCollections$SetN"), (5, u "EMPTY_SET"), (0, u "Ljava/util/ImmutableCollections$SetN;"), (0, .class_ 121), (0, u "java/util/ImmutableCollections$MapN"), (3, u "EMPTY_MAP"), (0, u "Ljava/util/ImmutableCollections$MapN;"), (4, u "EXPAND_FACTOR"), (0, u "I"), (36, .class_ 170), (0, u "java/util/ImmutableCollections$MapN$MapNIterator"), (0, .class_ 172), (0, u "java/util/ImmutableCollections$MapN$1"), (0, .class_ 174), (0, u "java/util/ImmutableCollections$Map1"), (0, .class_ 176), (0, u "java/util/ImmutableCollections$AbstractImmutableMap"), (0, .class_ 178), (0, u "java/util/ImmutableCollections$SetN$SetNIterator"), (0, .class_ 180), (0, u "java/util/ImmutableCollections$Set12"), (0, .class_ 182), (0, u "java/util/ImmutableCollections$Set12$1"), (0, .class_ 184), (0, u "java/util/ImmutableCollections$AbstractImmutableSet"), (0, .class_ 186), (0, u "java/util/ImmutableCollections$SubList"), (0, .class_ 188), (0, u "java/util/ImmutableCollections$ListItr"), (0, .class_ 190), (0, u "java/util/ImmutableCollections$AbstractImmutableList"), (0, .class_ 192), (0, u "java/util/ImmutableCollections$AbstractImmutableCollection"), (0, .class_ 194), (0, u "java/util/ImmutableCollections$Access"), (0, .class_ 196), (0, u "java/util/ImmutableCollections$Access$1")] 16

def k18m0 : Method := { name := "<init>", desc := "()V", sig := { parameters := [], returnType := none }, accessFlags := 2, code := none }
/-- java/util/ImmutableCollections -/
def k18 : Class := { plain "java/util/ImmutableCollections" (some 0) with
  accessFlags := 32
  interfaces := #[]
  cf := some (fileOf pool18 47 #[.nestMembers #[120, 169, 171, 173, 175, 111, 177, 179, 181, 183, 12, 10, 185, 187, 189, 191, 193, 195]] #[{ accessFlags := 2, nameIndex := 5, descriptorIndex := 6, attributes := #[] }] 32 2 #[] #[{ accessFlags := 26, nameIndex := 95, descriptorIndex := 96, attributes := #[] }, { accessFlags := 26, nameIndex := 99, descriptorIndex := 17, attributes := #[] }, { accessFlags := 10, nameIndex := 106, descriptorIndex := 56, attributes := #[] }, { accessFlags := 26, nameIndex := 109, descriptorIndex := 110, attributes := #[] }, { accessFlags := 24, nameIndex := 62, descriptorIndex := 63, attributes := #[] }, { accessFlags := 24, nameIndex := 72, descriptorIndex := 63, attributes := #[] }, { accessFlags := 24, nameIndex := 118, descriptorIndex := 119, attributes := #[] }, { accessFlags := 24, nameIndex := 125, descriptorIndex := 126, attributes := #[] }, { accessFlags := 24, nameIndex := 131, descriptorIndex := 132, attributes := #[] }, { accessFlags := 4120, nameIndex := 50, descriptorIndex := 17, attributes := #[] }])
  fields := #[{ name := "SALT32L", type := .long, accessFlags := 26, slot := 0, constantValue := 0 }, { name := "REVERSE", type := .boolean, accessFlags := 26, slot := 1, constantValue := 0 }, { name := "archivedObjects", type := (.array (.object "java/lang/Object")), accessFlags := 10, slot := 2, constantValue := 0 }, { name := "EMPTY", type := (.object "java/lang/Object"), accessFlags := 26, slot := 3, constantValue := 0 }, { name := "EMPTY_LIST", type := (.object "java/util/ImmutableCollections$ListN"), accessFlags := 24, slot := 4, constantValue := 0 }, { name := "EMPTY_LIST_NULLS", type := (.object "java/util/ImmutableCollections$ListN"), accessFlags := 24, slot := 5, constantValue := 0 }, { name := "EMPTY_SET", type := (.object "java/util/ImmutableCollections$SetN"), accessFlags := 24, slot := 6, constantValue := 0 }, { name := "EMPTY_MAP", type := (.object "java/util/ImmutableCollections$MapN"), accessFlags := 24, slot := 7, constantValue := 0 }, { name := "EXPAND_FACTOR", type := .int, accessFlags := 24, slot := 8, constantValue := 0 }, { name := "$assertionsDisabled", type := .boolean, accessFlags := 4120, slot := 9, constantValue := 0 }]
  methods := #[k18m0]
  instanceTypes := #[]
  staticTypes := #[.long, .boolean, (.array (.object "java/lang/Object")), (.object "java/lang/Object"), (.object "java/util/ImmutableCollections$ListN"), (.object "java/util/ImmutableCollections$ListN"), (.object "java/util/ImmutableCollections$SetN"), (.object "java/util/ImmutableCollections$MapN"), .int, .boolean]
  resolved := Array.replicate 213 none
  statics := some 1 }

def pool19 : Array CpInfo := pool [(8, .class_ 10), (1, u "java/util/SequencedCollection"), (15, .class_ 27), (0, u "java/lang/Object"), (0, .class_ 29), (0, u "java/util/Collection")] 27

/-- java/util/SequencedCollection -/
def k19 : Class := { plain "java/util/SequencedCollection" (some 0) with
  accessFlags := 1537
  interfaces := #[11]
  cf := some (fileOf pool19 8 #[] #[] 1537 26 #[28] #[])
  fields := #[]
  methods := #[]
  instanceTypes := #[]
  staticTypes := #[]
  resolved := Array.replicate 57 none
  statics := none }

def pool20 : Array CpInfo := pool [(8, .class_ 10), (1, u "java/util/List"), (20, u "(Ljava/lang/Object;)V"), (16, u "<init>"), (26, u "get"), (0, u "(I)Ljava/lang/Object;"), (2, u "size"), (0, u "()I"), (7, u "of"), (7, .class_ 97), (0, u "java/util/ImmutableCollections$List12"), (0, .methodref 96 99), (0, .nameAndType 48 31), (3, .class_ 104), (0, u "java/lang/Object"), (15, .class_ 121), (0, u "java/util/SequencedCollection"), (76, u "(Ljava/lang/Object;)Ljava/util/List;")] 52

def k20m0 : Method := { name := "size", desc := "()I", sig := { parameters := [], returnType := some .int }, accessFlags := 1025, code := none }
def k20m1 : Method := { name := "get", desc := "(I)Ljava/lang/Object;", sig := { parameters := [.int], returnType := some (.object "java/lang/Object") }, accessFlags := 1025, code := none }
def k20c2 : Code := { maxStack := 3, maxLocals := 1, code := jdk_40_method_37_code, exceptionTable := #[], attributes := #[] }
def k20m2 : Method := { name := "of", desc := "(Ljava/lang/Object;)Ljava/util/List;", sig := { parameters := [(.object "java/lang/Object")], returnType := some (.object "java/util/List") }, accessFlags := 9, code := some k20c2 }
/-- java/util/List -/
def k20 : Class := { plain "java/util/List" (some 0) with
  accessFlags := 1537
  interfaces := #[19]
  cf := some (fileOf pool20 8 #[] #[{ accessFlags := 1025, nameIndex := 79, descriptorIndex := 80, attributes := #[] }, { accessFlags := 1025, nameIndex := 75, descriptorIndex := 76, attributes := #[] }, { accessFlags := 9, nameIndex := 88, descriptorIndex := 198, attributes := #[] }] 1537 103 #[120] #[])
  fields := #[]
  methods := #[k20m0, k20m1, k20m2]
  instanceTypes := #[]
  staticTypes := #[]
  resolved := Array.replicate 251 none
  statics := none }

def pool21 : Array CpInfo := pool [(1, .class_ 2), (0, u "java/util/RandomAccess"), (0, .class_ 4), (0, u "java/lang/Object")] 2

/-- java/util/RandomAccess -/
def k21 : Class := { plain "java/util/RandomAccess" (some 0) with
  accessFlags := 1537
  interfaces := #[]
  cf := some (fileOf pool21 1 #[] #[] 1537 3 #[] #[])
  fields := #[]
  methods := #[]
  instanceTypes := #[]
  staticTypes := #[]
  resolved := Array.replicate 7 none
  statics := none }

def pool22 : Array CpInfo := pool [(1, .methodref 2 3), (0, .class_ 4), (0, .nameAndType 5 6), (0, u "java/util/ImmutableCollections$AbstractImmutableCollection"), (0, u "<init>"), (0, u "()V"), (1, .class_ 10), (1, u "java/util/ImmutableCollections"), (3, .class_ 16), (1, u "java/util/ImmutableCollections$AbstractImmutableList"), (60, .class_ 78), (0, u "java/util/List"), (45, .class_ 125), (0, u "java/util/RandomAccess")] 70

def k22c0 : Code := { maxStack := 1, maxLocals := 1, code := jdk_46_method_1_code, exceptionTable := #[], attributes := #[] }
def k22m0 : Method := { name := "<init>", desc := "()V", sig := { parameters := [], returnType := none }, accessFlags := 0, code := some k22c0 }
/-- java/util/ImmutableCollections$AbstractImmutableList -/
def k22 : Class := { plain "java/util/ImmutableCollections$AbstractImmutableList" (some 14) with
  accessFlags := 1056
  interfaces := #[20, 21]
  cf := some (fileOf pool22 14 #[.nestHost 8] #[{ accessFlags := 0, nameIndex := 5, descriptorIndex := 6, attributes := #[] }] 1056 2 #[77, 124] #[])
  fields := #[]
  methods := #[k22m0]
  instanceTypes := #[]
  staticTypes := #[]
  resolved := Array.replicate 196 none
  statics := none }

def pool23 : Array CpInfo := pool [(1, .methodref 2 3), (0, .class_ 4), (0, .nameAndType 5 6), (0, u "java/util/ImmutableCollections$AbstractImmutableList"), (0, u "<init>"), (0, u "()V"), (0, .methodref 8 9), (0, .class_ 10), (0, .nameAndType 11 12), (0, u "java/util/Objects"), (0, u "requireNonNull"), (0, u "(Ljava/lang/Object;)Ljava/lang/Object;"), (0, .fieldref 14 15), (0, .class_ 16), (0, .nameAndType 17 18), (0, u "java/util/ImmutableCollections$List12"), (0, u "e0"), (0, u "Ljava/lang/Object;"), (0, .fieldref 20 21), (0, .class_ 22), (0, .nameAndType 23 18), (0, u "java/util/ImmutableCollections"), (0, u "EMPTY"), (0, .fieldref 14 25), (0, .nameAndType 26 18), (0, u "e1"), (24, u "size"), (0, u "()I"), (17, .class_ 71), (0, u "java/io/Serializable"), (4, u "(Ljava/lang/Object;)V"), (13, u "get"), (0, u "(I)Ljava/lang/Object;")] 33

def k23c0 : Code := { maxStack := 2, maxLocals := 2, code := jdk_44_method_1_code, exceptionTable := #[], attributes := #[] }
def k23m0 : Method := { name := "<init>", desc := "(Ljava/lang/Object;)V", sig := { parameters := [(.object "java/lang/Object")], returnType := none }, accessFlags := 0, code := some k23c0 }
def k23c1 : Code := { maxStack := 2, maxLocals := 1, code := jdk_44_method_3_code, exceptionTable := #[], attributes := #[] }
def k23m1 : Method := { name := "size", desc := "()I", sig := { parameters := [], returnType := some .int }, accessFlags := 1, code := some k23c1 }
def k23c2 : Code := { maxStack := 2, maxLocals := 2, code := jdk_44_method_5_code, exceptionTable := #[], attributes := #[] }
def k23m2 : Method := { name := "get", desc := "(I)Ljava/lang/Object;", sig := { parameters := [.int], returnType := some (.object "java/lang/Object") }, accessFlags := 1, code := some k23c2 }
/-- java/util/ImmutableCollections$List12 -/
def k23 : Class := { plain "java/util/ImmutableCollections$List12" (some 22) with
  accessFlags := 48
  interfaces := #[3]
  cf := some (fileOf pool23 14 #[.nestHost 20] #[{ accessFlags := 0, nameIndex := 5, descriptorIndex := 76, attributes := #[] }, { accessFlags := 1, nameIndex := 51, descriptorIndex := 52, attributes := #[] }, { accessFlags := 1, nameIndex := 90, descriptorIndex := 91, attributes := #[] }] 48 2 #[70] #[{ accessFlags := 18, nameIndex := 17, descriptorIndex := 18, attributes := #[] }, { accessFlags := 18, nameIndex := 26, descriptorIndex := 18, attributes := #[] }])
  fields := #[{ name := "e0", type := (.object "java/lang/Object"), accessFlags := 18, slot := 0, constantValue := 0 }, { name := "e1", type := (.object "java/lang/Object"), accessFlags := 18, slot := 1, constantValue := 0 }]
  methods := #[k23m0, k23m1, k23m2]
  instanceTypes := #[(.object "java/lang/Object"), (.object "java/lang/Object")]
  staticTypes := #[]
  resolved := Array.replicate 125 none
  statics := none }

def pool24 : Array CpInfo := pool [(2, .class_ 4), (1, u "java/util/ImmutableCollections$AbstractImmutableList"), (3, .class_ 10), (1, u "java/util/ImmutableCollections$ListN"), (0, u "elements"), (0, u "[Ljava/lang/Object;"), (2, u "allowNulls"), (0, u "Z"), (42, .class_ 60), (0, u "java/io/Serializable"), (53, .class_ 115), (0, u "java/util/ImmutableCollections")] 3

/-- java/util/ImmutableCollections$ListN -/
def k24 : Class := { plain "java/util/ImmutableCollections$ListN" (some 22) with
  accessFlags := 48
  interfaces := #[3]
  cf := some (fileOf pool24 8 #[.nestHost 114] #[] 48 2 #[59] #[{ accessFlags := 18, nameIndex := 11, descriptorIndex := 12, attributes := #[] }, { accessFlags := 18, nameIndex := 15, descriptorIndex := 16, attributes := #[] }])
  fields := #[{ name := "elements", type := (.array (.object "java/lang/Object")), accessFlags := 18, slot := 0, constantValue := 0 }, { name := "allowNulls", type := .boolean, accessFlags := 18, slot := 1, constantValue := 0 }]
  methods := #[]
  instanceTypes := #[(.array (.object "java/lang/Object")), .boolean]
  staticTypes := #[]
  resolved := Array.replicate 119 none
  statics := none }

def pool25 : Array CpInfo := pool [(1, u "java/lang/Cloneable"), (0, .class_ 1), (0, u "java/lang/Object"), (0, .class_ 3)] 3

/-- java/lang/Cloneable -/
def k25 : Class := { plain "java/lang/Cloneable" (some 0) with
  accessFlags := 1537
  interfaces := #[]
  cf := some (fileOf pool25 2 #[] #[] 1537 4 #[] #[])
  fields := #[]
  methods := #[]
  instanceTypes := #[]
  staticTypes := #[]
  resolved := Array.replicate 8 none
  statics := none }

/-- the primitive byte -/
def k26 : Class := { plain "byte" none with kind := .primitive 'B', accessFlags := 0x411 }
/-- [B -/
def k27 : Class := { plain "[B" (some 0) with kind := .array 26 .byte, interfaces := #[25, 3], accessFlags := 1041 }

/-- the primitive int -/
def k28 : Class := { plain "int" none with kind := .primitive 'I', accessFlags := 0x411 }
/-- [I -/
def k29 : Class := { plain "[I" (some 0) with kind := .array 28 .int, interfaces := #[25, 3], accessFlags := 1041 }

/-- [Ljava/lang/Integer; -/
def k30 : Class := { plain "[Ljava/lang/Integer;" (some 0) with kind := .array 8 (.object "java/lang/Integer"), interfaces := #[25, 3], accessFlags := 1041 }

def heap : Heap := #[{ cls := 9, slots := #[.int 0, .int 127, .ref 2, .null, .int 0], vm := .statics 9 },
  { cls := 18, slots := #[.long 0, .int 0, .null, .ref 259, .ref 260, .null, .null, .null, .int 0, .int 1], vm := .statics 18 },
  { cls := 30, slots := #[.ref 3, .ref 4, .ref 5, .ref 6, .ref 7, .ref 8, .ref 9, .ref 10, .ref 11, .ref 12, .ref 13, .ref 14, .ref 15, .ref 16, .ref 17, .ref 18, .ref 19, .ref 20, .ref 21, .ref 22, .ref 23, .ref 24, .ref 25, .ref 26, .ref 27, .ref 28, .ref 29, .ref 30, .ref 31, .ref 32, .ref 33, .ref 34, .ref 35, .ref 36, .ref 37, .ref 38, .ref 39, .ref 40, .ref 41, .ref 42, .ref 43, .ref 44, .ref 45, .ref 46, .ref 47, .ref 48, .ref 49, .ref 50, .ref 51, .ref 52, .ref 53, .ref 54, .ref 55, .ref 56, .ref 57, .ref 58, .ref 59, .ref 60, .ref 61, .ref 62, .ref 63, .ref 64, .ref 65, .ref 66, .ref 67, .ref 68, .ref 69, .ref 70, .ref 71, .ref 72, .ref 73, .ref 74, .ref 75, .ref 76, .ref 77, .ref 78, .ref 79, .ref 80, .ref 81, .ref 82, .ref 83, .ref 84, .ref 85, .ref 86, .ref 87, .ref 88, .ref 89, .ref 90, .ref 91, .ref 92, .ref 93, .ref 94, .ref 95, .ref 96, .ref 97, .ref 98, .ref 99, .ref 100, .ref 101, .ref 102, .ref 103, .ref 104, .ref 105, .ref 106, .ref 107, .ref 108, .ref 109, .ref 110, .ref 111, .ref 112, .ref 113, .ref 114, .ref 115, .ref 116, .ref 117, .ref 118, .ref 119, .ref 120, .ref 121, .ref 122, .ref 123, .ref 124, .ref 125, .ref 126, .ref 127, .ref 128, .ref 129, .ref 130, .ref 131, .ref 132, .ref 133, .ref 134, .ref 135, .ref 136, .ref 137, .ref 138, .ref 139, .ref 140, .ref 141, .ref 142, .ref 143, .ref 144, .ref 145, .ref 146, .ref 147, .ref 148, .ref 149, .ref 150, .ref 151, .ref 152, .ref 153, .ref 154, .ref 155, .ref 156, .ref 157, .ref 158, .ref 159, .ref 160, .ref 161, .ref 162, .ref 163, .ref 164, .ref 165, .ref 166, .ref 167, .ref 168, .ref 169, .ref 170, .ref 171, .ref 172, .ref 173, .ref 174, .ref 175, .ref 176, .ref 177, .ref 178, .ref 179, .ref 180, .ref 181, .ref 182, .ref 183, .ref 184, .ref 185, .ref 186, .ref 187, .ref 188, .ref 189, .ref 190, .ref 191, .ref 192, .ref 193, .ref 194, .ref 195, .ref 196, .ref 197, .ref 198, .ref 199, .ref 200, .ref 201, .ref 202, .ref 203, .ref 204, .ref 205, .ref 206, .ref 207, .ref 208, .ref 209, .ref 210, .ref 211, .ref 212, .ref 213, .ref 214, .ref 215, .ref 216, .ref 217, .ref 218, .ref 219, .ref 220, .ref 221, .ref 222, .ref 223, .ref 224, .ref 225, .ref 226, .ref 227, .ref 228, .ref 229, .ref 230, .ref 231, .ref 232, .ref 233, .ref 234, .ref 235, .ref 236, .ref 237, .ref 238, .ref 239, .ref 240, .ref 241, .ref 242, .ref 243, .ref 244, .ref 245, .ref 246, .ref 247, .ref 248, .ref 249, .ref 250, .ref 251, .ref 252, .ref 253, .ref 254, .ref 255, .ref 256, .ref 257, .ref 258], vm := .none },
  { cls := 8, slots := #[.int (-128)], vm := .none },
  { cls := 8, slots := #[.int (-127)], vm := .none },
  { cls := 8, slots := #[.int (-126)], vm := .none },
  { cls := 8, slots := #[.int (-125)], vm := .none },
  { cls := 8, slots := #[.int (-124)], vm := .none },
  { cls := 8, slots := #[.int (-123)], vm := .none },
  { cls := 8, slots := #[.int (-122)], vm := .none },
  { cls := 8, slots := #[.int (-121)], vm := .none },
  { cls := 8, slots := #[.int (-120)], vm := .none },
  { cls := 8, slots := #[.int (-119)], vm := .none },
  { cls := 8, slots := #[.int (-118)], vm := .none },
  { cls := 8, slots := #[.int (-117)], vm := .none },
  { cls := 8, slots := #[.int (-116)], vm := .none },
  { cls := 8, slots := #[.int (-115)], vm := .none },
  { cls := 8, slots := #[.int (-114)], vm := .none },
  { cls := 8, slots := #[.int (-113)], vm := .none },
  { cls := 8, slots := #[.int (-112)], vm := .none },
  { cls := 8, slots := #[.int (-111)], vm := .none },
  { cls := 8, slots := #[.int (-110)], vm := .none },
  { cls := 8, slots := #[.int (-109)], vm := .none },
  { cls := 8, slots := #[.int (-108)], vm := .none },
  { cls := 8, slots := #[.int (-107)], vm := .none },
  { cls := 8, slots := #[.int (-106)], vm := .none },
  { cls := 8, slots := #[.int (-105)], vm := .none },
  { cls := 8, slots := #[.int (-104)], vm := .none },
  { cls := 8, slots := #[.int (-103)], vm := .none },
  { cls := 8, slots := #[.int (-102)], vm := .none },
  { cls := 8, slots := #[.int (-101)], vm := .none },
  { cls := 8, slots := #[.int (-100)], vm := .none },
  { cls := 8, slots := #[.int (-99)], vm := .none },
  { cls := 8, slots := #[.int (-98)], vm := .none },
  { cls := 8, slots := #[.int (-97)], vm := .none },
  { cls := 8, slots := #[.int (-96)], vm := .none },
  { cls := 8, slots := #[.int (-95)], vm := .none },
  { cls := 8, slots := #[.int (-94)], vm := .none },
  { cls := 8, slots := #[.int (-93)], vm := .none },
  { cls := 8, slots := #[.int (-92)], vm := .none },
  { cls := 8, slots := #[.int (-91)], vm := .none },
  { cls := 8, slots := #[.int (-90)], vm := .none },
  { cls := 8, slots := #[.int (-89)], vm := .none },
  { cls := 8, slots := #[.int (-88)], vm := .none },
  { cls := 8, slots := #[.int (-87)], vm := .none },
  { cls := 8, slots := #[.int (-86)], vm := .none },
  { cls := 8, slots := #[.int (-85)], vm := .none },
  { cls := 8, slots := #[.int (-84)], vm := .none },
  { cls := 8, slots := #[.int (-83)], vm := .none },
  { cls := 8, slots := #[.int (-82)], vm := .none },
  { cls := 8, slots := #[.int (-81)], vm := .none },
  { cls := 8, slots := #[.int (-80)], vm := .none },
  { cls := 8, slots := #[.int (-79)], vm := .none },
  { cls := 8, slots := #[.int (-78)], vm := .none },
  { cls := 8, slots := #[.int (-77)], vm := .none },
  { cls := 8, slots := #[.int (-76)], vm := .none },
  { cls := 8, slots := #[.int (-75)], vm := .none },
  { cls := 8, slots := #[.int (-74)], vm := .none },
  { cls := 8, slots := #[.int (-73)], vm := .none },
  { cls := 8, slots := #[.int (-72)], vm := .none },
  { cls := 8, slots := #[.int (-71)], vm := .none },
  { cls := 8, slots := #[.int (-70)], vm := .none },
  { cls := 8, slots := #[.int (-69)], vm := .none },
  { cls := 8, slots := #[.int (-68)], vm := .none },
  { cls := 8, slots := #[.int (-67)], vm := .none },
  { cls := 8, slots := #[.int (-66)], vm := .none },
  { cls := 8, slots := #[.int (-65)], vm := .none },
  { cls := 8, slots := #[.int (-64)], vm := .none },
  { cls := 8, slots := #[.int (-63)], vm := .none },
  { cls := 8, slots := #[.int (-62)], vm := .none },
  { cls := 8, slots := #[.int (-61)], vm := .none },
  { cls := 8, slots := #[.int (-60)], vm := .none },
  { cls := 8, slots := #[.int (-59)], vm := .none },
  { cls := 8, slots := #[.int (-58)], vm := .none },
  { cls := 8, slots := #[.int (-57)], vm := .none },
  { cls := 8, slots := #[.int (-56)], vm := .none },
  { cls := 8, slots := #[.int (-55)], vm := .none },
  { cls := 8, slots := #[.int (-54)], vm := .none },
  { cls := 8, slots := #[.int (-53)], vm := .none },
  { cls := 8, slots := #[.int (-52)], vm := .none },
  { cls := 8, slots := #[.int (-51)], vm := .none },
  { cls := 8, slots := #[.int (-50)], vm := .none },
  { cls := 8, slots := #[.int (-49)], vm := .none },
  { cls := 8, slots := #[.int (-48)], vm := .none },
  { cls := 8, slots := #[.int (-47)], vm := .none },
  { cls := 8, slots := #[.int (-46)], vm := .none },
  { cls := 8, slots := #[.int (-45)], vm := .none },
  { cls := 8, slots := #[.int (-44)], vm := .none },
  { cls := 8, slots := #[.int (-43)], vm := .none },
  { cls := 8, slots := #[.int (-42)], vm := .none },
  { cls := 8, slots := #[.int (-41)], vm := .none },
  { cls := 8, slots := #[.int (-40)], vm := .none },
  { cls := 8, slots := #[.int (-39)], vm := .none },
  { cls := 8, slots := #[.int (-38)], vm := .none },
  { cls := 8, slots := #[.int (-37)], vm := .none },
  { cls := 8, slots := #[.int (-36)], vm := .none },
  { cls := 8, slots := #[.int (-35)], vm := .none },
  { cls := 8, slots := #[.int (-34)], vm := .none },
  { cls := 8, slots := #[.int (-33)], vm := .none },
  { cls := 8, slots := #[.int (-32)], vm := .none },
  { cls := 8, slots := #[.int (-31)], vm := .none },
  { cls := 8, slots := #[.int (-30)], vm := .none },
  { cls := 8, slots := #[.int (-29)], vm := .none },
  { cls := 8, slots := #[.int (-28)], vm := .none },
  { cls := 8, slots := #[.int (-27)], vm := .none },
  { cls := 8, slots := #[.int (-26)], vm := .none },
  { cls := 8, slots := #[.int (-25)], vm := .none },
  { cls := 8, slots := #[.int (-24)], vm := .none },
  { cls := 8, slots := #[.int (-23)], vm := .none },
  { cls := 8, slots := #[.int (-22)], vm := .none },
  { cls := 8, slots := #[.int (-21)], vm := .none },
  { cls := 8, slots := #[.int (-20)], vm := .none },
  { cls := 8, slots := #[.int (-19)], vm := .none },
  { cls := 8, slots := #[.int (-18)], vm := .none },
  { cls := 8, slots := #[.int (-17)], vm := .none },
  { cls := 8, slots := #[.int (-16)], vm := .none },
  { cls := 8, slots := #[.int (-15)], vm := .none },
  { cls := 8, slots := #[.int (-14)], vm := .none },
  { cls := 8, slots := #[.int (-13)], vm := .none },
  { cls := 8, slots := #[.int (-12)], vm := .none },
  { cls := 8, slots := #[.int (-11)], vm := .none },
  { cls := 8, slots := #[.int (-10)], vm := .none },
  { cls := 8, slots := #[.int (-9)], vm := .none },
  { cls := 8, slots := #[.int (-8)], vm := .none },
  { cls := 8, slots := #[.int (-7)], vm := .none },
  { cls := 8, slots := #[.int (-6)], vm := .none },
  { cls := 8, slots := #[.int (-5)], vm := .none },
  { cls := 8, slots := #[.int (-4)], vm := .none },
  { cls := 8, slots := #[.int (-3)], vm := .none },
  { cls := 8, slots := #[.int (-2)], vm := .none },
  { cls := 8, slots := #[.int (-1)], vm := .none },
  { cls := 8, slots := #[.int (0)], vm := .none },
  { cls := 8, slots := #[.int (1)], vm := .none },
  { cls := 8, slots := #[.int (2)], vm := .none },
  { cls := 8, slots := #[.int (3)], vm := .none },
  { cls := 8, slots := #[.int (4)], vm := .none },
  { cls := 8, slots := #[.int (5)], vm := .none },
  { cls := 8, slots := #[.int (6)], vm := .none },
  { cls := 8, slots := #[.int (7)], vm := .none },
  { cls := 8, slots := #[.int (8)], vm := .none },
  { cls := 8, slots := #[.int (9)], vm := .none },
  { cls := 8, slots := #[.int (10)], vm := .none },
  { cls := 8, slots := #[.int (11)], vm := .none },
  { cls := 8, slots := #[.int (12)], vm := .none },
  { cls := 8, slots := #[.int (13)], vm := .none },
  { cls := 8, slots := #[.int (14)], vm := .none },
  { cls := 8, slots := #[.int (15)], vm := .none },
  { cls := 8, slots := #[.int (16)], vm := .none },
  { cls := 8, slots := #[.int (17)], vm := .none },
  { cls := 8, slots := #[.int (18)], vm := .none },
  { cls := 8, slots := #[.int (19)], vm := .none },
  { cls := 8, slots := #[.int (20)], vm := .none },
  { cls := 8, slots := #[.int (21)], vm := .none },
  { cls := 8, slots := #[.int (22)], vm := .none },
  { cls := 8, slots := #[.int (23)], vm := .none },
  { cls := 8, slots := #[.int (24)], vm := .none },
  { cls := 8, slots := #[.int (25)], vm := .none },
  { cls := 8, slots := #[.int (26)], vm := .none },
  { cls := 8, slots := #[.int (27)], vm := .none },
  { cls := 8, slots := #[.int (28)], vm := .none },
  { cls := 8, slots := #[.int (29)], vm := .none },
  { cls := 8, slots := #[.int (30)], vm := .none },
  { cls := 8, slots := #[.int (31)], vm := .none },
  { cls := 8, slots := #[.int (32)], vm := .none },
  { cls := 8, slots := #[.int (33)], vm := .none },
  { cls := 8, slots := #[.int (34)], vm := .none },
  { cls := 8, slots := #[.int (35)], vm := .none },
  { cls := 8, slots := #[.int (36)], vm := .none },
  { cls := 8, slots := #[.int (37)], vm := .none },
  { cls := 8, slots := #[.int (38)], vm := .none },
  { cls := 8, slots := #[.int (39)], vm := .none },
  { cls := 8, slots := #[.int (40)], vm := .none },
  { cls := 8, slots := #[.int (41)], vm := .none },
  { cls := 8, slots := #[.int (42)], vm := .none },
  { cls := 8, slots := #[.int (43)], vm := .none },
  { cls := 8, slots := #[.int (44)], vm := .none },
  { cls := 8, slots := #[.int (45)], vm := .none },
  { cls := 8, slots := #[.int (46)], vm := .none },
  { cls := 8, slots := #[.int (47)], vm := .none },
  { cls := 8, slots := #[.int (48)], vm := .none },
  { cls := 8, slots := #[.int (49)], vm := .none },
  { cls := 8, slots := #[.int (50)], vm := .none },
  { cls := 8, slots := #[.int (51)], vm := .none },
  { cls := 8, slots := #[.int (52)], vm := .none },
  { cls := 8, slots := #[.int (53)], vm := .none },
  { cls := 8, slots := #[.int (54)], vm := .none },
  { cls := 8, slots := #[.int (55)], vm := .none },
  { cls := 8, slots := #[.int (56)], vm := .none },
  { cls := 8, slots := #[.int (57)], vm := .none },
  { cls := 8, slots := #[.int (58)], vm := .none },
  { cls := 8, slots := #[.int (59)], vm := .none },
  { cls := 8, slots := #[.int (60)], vm := .none },
  { cls := 8, slots := #[.int (61)], vm := .none },
  { cls := 8, slots := #[.int (62)], vm := .none },
  { cls := 8, slots := #[.int (63)], vm := .none },
  { cls := 8, slots := #[.int (64)], vm := .none },
  { cls := 8, slots := #[.int (65)], vm := .none },
  { cls := 8, slots := #[.int (66)], vm := .none },
  { cls := 8, slots := #[.int (67)], vm := .none },
  { cls := 8, slots := #[.int (68)], vm := .none },
  { cls := 8, slots := #[.int (69)], vm := .none },
  { cls := 8, slots := #[.int (70)], vm := .none },
  { cls := 8, slots := #[.int (71)], vm := .none },
  { cls := 8, slots := #[.int (72)], vm := .none },
  { cls := 8, slots := #[.int (73)], vm := .none },
  { cls := 8, slots := #[.int (74)], vm := .none },
  { cls := 8, slots := #[.int (75)], vm := .none },
  { cls := 8, slots := #[.int (76)], vm := .none },
  { cls := 8, slots := #[.int (77)], vm := .none },
  { cls := 8, slots := #[.int (78)], vm := .none },
  { cls := 8, slots := #[.int (79)], vm := .none },
  { cls := 8, slots := #[.int (80)], vm := .none },
  { cls := 8, slots := #[.int (81)], vm := .none },
  { cls := 8, slots := #[.int (82)], vm := .none },
  { cls := 8, slots := #[.int (83)], vm := .none },
  { cls := 8, slots := #[.int (84)], vm := .none },
  { cls := 8, slots := #[.int (85)], vm := .none },
  { cls := 8, slots := #[.int (86)], vm := .none },
  { cls := 8, slots := #[.int (87)], vm := .none },
  { cls := 8, slots := #[.int (88)], vm := .none },
  { cls := 8, slots := #[.int (89)], vm := .none },
  { cls := 8, slots := #[.int (90)], vm := .none },
  { cls := 8, slots := #[.int (91)], vm := .none },
  { cls := 8, slots := #[.int (92)], vm := .none },
  { cls := 8, slots := #[.int (93)], vm := .none },
  { cls := 8, slots := #[.int (94)], vm := .none },
  { cls := 8, slots := #[.int (95)], vm := .none },
  { cls := 8, slots := #[.int (96)], vm := .none },
  { cls := 8, slots := #[.int (97)], vm := .none },
  { cls := 8, slots := #[.int (98)], vm := .none },
  { cls := 8, slots := #[.int (99)], vm := .none },
  { cls := 8, slots := #[.int (100)], vm := .none },
  { cls := 8, slots := #[.int (101)], vm := .none },
  { cls := 8, slots := #[.int (102)], vm := .none },
  { cls := 8, slots := #[.int (103)], vm := .none },
  { cls := 8, slots := #[.int (104)], vm := .none },
  { cls := 8, slots := #[.int (105)], vm := .none },
  { cls := 8, slots := #[.int (106)], vm := .none },
  { cls := 8, slots := #[.int (107)], vm := .none },
  { cls := 8, slots := #[.int (108)], vm := .none },
  { cls := 8, slots := #[.int (109)], vm := .none },
  { cls := 8, slots := #[.int (110)], vm := .none },
  { cls := 8, slots := #[.int (111)], vm := .none },
  { cls := 8, slots := #[.int (112)], vm := .none },
  { cls := 8, slots := #[.int (113)], vm := .none },
  { cls := 8, slots := #[.int (114)], vm := .none },
  { cls := 8, slots := #[.int (115)], vm := .none },
  { cls := 8, slots := #[.int (116)], vm := .none },
  { cls := 8, slots := #[.int (117)], vm := .none },
  { cls := 8, slots := #[.int (118)], vm := .none },
  { cls := 8, slots := #[.int (119)], vm := .none },
  { cls := 8, slots := #[.int (120)], vm := .none },
  { cls := 8, slots := #[.int (121)], vm := .none },
  { cls := 8, slots := #[.int (122)], vm := .none },
  { cls := 8, slots := #[.int (123)], vm := .none },
  { cls := 8, slots := #[.int (124)], vm := .none },
  { cls := 8, slots := #[.int (125)], vm := .none },
  { cls := 8, slots := #[.int (126)], vm := .none },
  { cls := 8, slots := #[.int (127)], vm := .none },
  { cls := 0, slots := #[], vm := .none },
  { cls := 24, slots := #[.null, .int 0], vm := .none }]
def classes : Array Class := #[k0, k1, k2, k3, k4, k5, k6, k7, k8, k9, k10, k11, k12, k13, k14, k15, k16, k17, k18, k19, k20, k21, k22, k23, k24, k25, k26, k27, k28, k29, k30]
def interned : List (Array UInt16 × Addr) := []
def slotsUsed : Nat := 529
def theMethod : MethodId := ⟨1, 1⟩
def args0 : Array Value := #[.int 5, .int 7]
def aboutOver (below : List Frame) : State where
  vm := { classes := classes, interned := interned.toArray }
  heap := heap
  slotsUsed := slotsUsed
  threads := #[{ frames := .invoking theMethod args0 :: below }]
def below0 : List Frame := [.native { method := ⟨0, 0⟩, args := #[] }]
def about1 : State := aboutOver below0
def p0 : Program := .bare "" "" ""
def e0 : Env := launch0.env 0 0 0
theorem w_frames : about1.frames = Frame.invoking theMethod args0 :: below0 := rfl
set_option maxRecDepth 65536 in
theorem w_args : argsFit about1.vm theMethod args0 = true := by decide +kernel
set_option maxRecDepth 65536 in
theorem w_heap : heapFits about1 = true := by decide +kernel
set_option maxRecDepth 65536 in
theorem w_runnable : about1.curStatus? = some .runnable := by decide +kernel
set_option maxRecDepth 65536 in
theorem w_alone : about1.alone = true := by decide +kernel
set_option maxRecDepth 65536 in
theorem w_named : about1.methodNamed? x = some theMethod := by decide +kernel
set_option maxRecDepth 65536 in
theorem w_hears : about1.hears theMethod below0 = true := by decide +kernel
set_option maxRecDepth 65536 in
theorem w_ripe : about1.ripe theMethod args0 below0 = true := by decide +kernel
theorem w_running : about1.status = .running := rfl
set_option maxRecDepth 65536 in
theorem w_room : about1.hasRoom e0.platform room_1 = true :=
  launch0.hasRoom_least _ room_1 (by decide +kernel) (by decide +kernel) (by decide +kernel) (by decide +kernel) (by decide +kernel) (by decide +kernel)
theorem allAtoms_all (ts : List Jvm.Cond) (a : Array Jvm.Value) (st : Jvm.State) : (allAtoms ts).before a st = ts.all (fun c => c.before a st) := by
  induction ts with
  | nil => rfl
  | cons c t ih =>
    show (Jvm.Cond.and c (allAtoms t)).before a st = _
    rw [Jvm.Cond.before_and, ih, List.all_cons]
def words1 : List Jvm.Cond := Jvm.Cond.code x code maxLocals ret :: tables_1
/-- a 'code' word, met by the world's own term for the bytes: nothing is compared byte by byte -/
theorem code_word {y : MethodName} {bytes : ByteArray} {mx : Nat} {rt : Option FieldType} {a : Array Value} {s : State} {m : MethodId} {meth : Method} {c : Code} (h1 : s.methodNamed? y = some m) (h2 : s.vm.method? m = some meth) (h3 : meth.code = some c) (h4 : c.code = bytes)
    (h5 : (c.maxLocals == mx && c.exceptionTable.isEmpty && decide (c.maxStack ≤ mostOperands) && decide (meth.sig.returnType = rt) && !meth.locks && decide (parseMethodDescriptor y.desc = some meth.sig)) = true) : (Jvm.Cond.code y bytes mx rt).before a s = true := by
  simp only [Bool.and_eq_true, beq_iff_eq, Bool.not_eq_true', decide_eq_true_eq] at h5
  obtain ⟨⟨⟨⟨⟨g1, g2⟩, g3⟩, g4⟩, g5⟩, g6⟩ := h5
  simp [Cond.before, Cond.holds, Cond.value, h1, h2, h3, h4, g1, g2, g3, g4, g5, g6]
def isCode : Jvm.Cond → Bool
  | .code _ _ _ _ => true
  | _ => false
theorem all_split {L : List Jvm.Cond} {P : Jvm.Cond → Bool} (h1 : L.all (fun c => isCode c || P c) = true) (h2 : ∀ c ∈ L.filter isCode, P c = true) : L.all P = true := by
  refine List.all_eq_true.mpr fun c hc => ?_
  have h := List.all_eq_true.mp h1 c hc
  rcases Bool.eq_false_or_eq_true (isCode c) with hi | hi
  · exact h2 c (List.mem_filter.mpr ⟨hc, hi⟩)
  · simpa [hi] using h
set_option maxRecDepth 65536 in
theorem w_c0 : (Jvm.Cond.code x code maxLocals ret).before args0 about1 = true := code_word (m := ⟨1, 1⟩) (meth := k1m1) (c := k1c1) (by decide +kernel) rfl rfl rfl (by decide +kernel)
set_option maxRecDepth 65536 in
theorem w_c1 : (Jvm.Cond.code ({ cls := "com/example/minga/minga/policy/Alternatives", name := "of", desc := "(I)Lcom/example/minga/minga/policy/Alternatives;" } : Jvm.MethodName) prog_24_method_2_code (1 : Nat) (Option.some (Jvm.ClassFile.FieldType.object "com/example/minga/minga/policy/Alternatives"))).before args0 about1 = true := code_word (m := ⟨2, 1⟩) (meth := k2m1) (c := k2c1) (by decide +kernel) rfl rfl rfl (by decide +kernel)
set_option maxRecDepth 65536 in
theorem w_c2 : (Jvm.Cond.code ({ cls := "java/lang/Integer", name := "valueOf", desc := "(I)Ljava/lang/Integer;" } : Jvm.MethodName) jdk_33_method_22_code (1 : Nat) (Option.some (Jvm.ClassFile.FieldType.object "java/lang/Integer"))).before args0 about1 = true := code_word (m := ⟨8, 0⟩) (meth := k8m0) (c := k8c0) (by decide +kernel) rfl rfl rfl (by decide +kernel)
set_option maxRecDepth 65536 in
theorem w_c3 : (Jvm.Cond.code ({ cls := "java/util/Set", name := "of", desc := "(Ljava/lang/Object;)Ljava/util/Set;" } : Jvm.MethodName) jdk_96_method_18_code (1 : Nat) (Option.some (Jvm.ClassFile.FieldType.object "java/util/Set"))).before args0 about1 = true := code_word (m := ⟨12, 2⟩) (meth := k12m2) (c := k12c2) (by decide +kernel) rfl rfl rfl (by decide +kernel)
set_option maxRecDepth 65536 in
theorem w_c4 : (Jvm.Cond.code ({ cls := "java/util/ImmutableCollections$Set12", name := "<init>", desc := "(Ljava/lang/Object;)V" } : Jvm.MethodName) jdk_101_method_1_code (2 : Nat) (Option.none : Option Jvm.ClassFile.FieldType)).before args0 about1 = true := code_word (m := ⟨16, 0⟩) (meth := k16m0) (c := k16c0) (by decide +kernel) rfl rfl rfl (by decide +kernel)
set_option maxRecDepth 65536 in
theorem w_c5 : (Jvm.Cond.code ({ cls := "java/util/ImmutableCollections$AbstractImmutableSet", name := "<init>", desc := "()V" } : Jvm.MethodName) jdk_100_method_1_code (1 : Nat) (Option.none : Option Jvm.ClassFile.FieldType)).before args0 about1 = true := code_word (m := ⟨15, 0⟩) (meth := k15m0) (c := k15c0) (by decide +kernel) rfl rfl rfl (by decide +kernel)
set_option maxRecDepth 65536 in
theorem w_c6 : (Jvm.Cond.code ({ cls := "java/util/ImmutableCollections$AbstractImmutableCollection", name := "<init>", desc := "()V" } : Jvm.MethodName) jdk_47_method_1_code (1 : Nat) (Option.none : Option Jvm.ClassFile.FieldType)).before args0 about1 = true := code_word (m := ⟨14, 0⟩) (meth := k14m0) (c := k14c0) (by decide +kernel) rfl rfl rfl (by decide +kernel)
set_option maxRecDepth 65536 in
theorem w_c7 : (Jvm.Cond.code ({ cls := "java/util/AbstractCollection", name := "<init>", desc := "()V" } : Jvm.MethodName) jdk_22_method_1_code (1 : Nat) (Option.none : Option Jvm.ClassFile.FieldType)).before args0 about1 = true := code_word (m := ⟨13, 0⟩) (meth := k13m0) (c := k13c0) (by decide +kernel) rfl rfl rfl (by decide +kernel)
set_option maxRecDepth 65536 in
theorem w_c8 : (Jvm.Cond.code ({ cls := "java/lang/Object", name := "<init>", desc := "()V" } : Jvm.MethodName) object_method_1_code (1 : Nat) (Option.none : Option Jvm.ClassFile.FieldType)).before args0 about1 = true := code_word (m := ⟨0, 0⟩) (meth := k0m0) (c := k0c0) (by decide +kernel) rfl rfl rfl (by decide +kernel)
set_option maxRecDepth 65536 in
theorem w_c9 : (Jvm.Cond.code ({ cls := "java/util/Objects", name := "requireNonNull", desc := "(Ljava/lang/Object;)Ljava/lang/Object;" } : Jvm.MethodName) jdk_31_method_10_code (1 : Nat) (Option.some (Jvm.ClassFile.FieldType.object "java/lang/Object"))).before args0 about1 = true := code_word (m := ⟨17, 1⟩) (meth := k17m1) (c := k17c1) (by decide +kernel) rfl rfl rfl (by decide +kernel)
set_option maxRecDepth 65536 in
theorem w_c10 : (Jvm.Cond.code ({ cls := "java/util/List", name := "of", desc := "(Ljava/lang/Object;)Ljava/util/List;" } : Jvm.MethodName) jdk_40_method_37_code (1 : Nat) (Option.some (Jvm.ClassFile.FieldType.object "java/util/List"))).before args0 about1 = true := code_word (m := ⟨20, 2⟩) (meth := k20m2) (c := k20c2) (by decide +kernel) rfl rfl rfl (by decide +kernel)
set_option maxRecDepth 65536 in
theorem w_c11 : (Jvm.Cond.code ({ cls := "java/util/ImmutableCollections$List12", name := "<init>", desc := "(Ljava/lang/Object;)V" } : Jvm.MethodName) jdk_44_method_1_code (2 : Nat) (Option.none : Option Jvm.ClassFile.FieldType)).before args0 about1 = true := code_word (m := ⟨23, 0⟩) (meth := k23m0) (c := k23c0) (by decide +kernel) rfl rfl rfl (by decide +kernel)
set_option maxRecDepth 65536 in
theorem w_c12 : (Jvm.Cond.code ({ cls := "java/util/ImmutableCollections$AbstractImmutableList", name := "<init>", desc := "()V" } : Jvm.MethodName) jdk_46_method_1_code (1 : Nat) (Option.none : Option Jvm.ClassFile.FieldType)).before args0 about1 = true := code_word (m := ⟨22, 0⟩) (meth := k22m0) (c := k22c0) (by decide +kernel) rfl rfl rfl (by decide +kernel)
set_option maxRecDepth 65536 in
theorem w_c13 : (Jvm.Cond.code ({ cls := "com/example/minga/minga/policy/Alternatives", name := "<init>", desc := "(ZLjava/util/List;)V" } : Jvm.MethodName) prog_24_method_1_code (3 : Nat) (Option.none : Option Jvm.ClassFile.FieldType)).before args0 about1 = true := code_word (m := ⟨2, 0⟩) (meth := k2m0) (c := k2c0) (by decide +kernel) rfl rfl rfl (by decide +kernel)
set_option maxRecDepth 65536 in
theorem w_c14 : (Jvm.Cond.code ({ cls := "com/example/minga/minga/policy/Alternatives", name := "isTrue", desc := "()Z" } : Jvm.MethodName) prog_24_method_4_code (1 : Nat) (Option.some Jvm.ClassFile.FieldType.boolean)).before args0 about1 = true := code_word (m := ⟨2, 2⟩) (meth := k2m2) (c := k2c2) (by decide +kernel) rfl rfl rfl (by decide +kernel)
set_option maxRecDepth 65536 in
theorem w_c15 : (Jvm.Cond.code ({ cls := "com/example/minga/minga/policy/Alternatives", name := "isFalse", desc := "()Z" } : Jvm.MethodName) prog_24_method_5_code (1 : Nat) (Option.some Jvm.ClassFile.FieldType.boolean)).before args0 about1 = true := code_word (m := ⟨2, 3⟩) (meth := k2m3) (c := k2c3) (by decide +kernel) rfl rfl rfl (by decide +kernel)
set_option maxRecDepth 65536 in
theorem w_c16 : (Jvm.Cond.code ({ cls := "com/example/minga/minga/policy/Alternatives", name := "sets", desc := "()Ljava/util/List;" } : Jvm.MethodName) prog_24_method_6_code (1 : Nat) (Option.some (Jvm.ClassFile.FieldType.object "java/util/List"))).before args0 about1 = true := code_word (m := ⟨2, 4⟩) (meth := k2m4) (c := k2c4) (by decide +kernel) rfl rfl rfl (by decide +kernel)
set_option maxRecDepth 65536 in
theorem w_c17 : (Jvm.Cond.code ({ cls := "java/util/ImmutableCollections$List12", name := "size", desc := "()I" } : Jvm.MethodName) jdk_44_method_3_code (1 : Nat) (Option.some Jvm.ClassFile.FieldType.int)).before args0 about1 = true := code_word (m := ⟨23, 1⟩) (meth := k23m1) (c := k23c1) (by decide +kernel) rfl rfl rfl (by decide +kernel)
set_option maxRecDepth 65536 in
theorem w_c18 : (Jvm.Cond.code ({ cls := "java/util/ImmutableCollections$List12", name := "get", desc := "(I)Ljava/lang/Object;" } : Jvm.MethodName) jdk_44_method_5_code (2 : Nat) (Option.some (Jvm.ClassFile.FieldType.object "java/lang/Object"))).before args0 about1 = true := code_word (m := ⟨23, 2⟩) (meth := k23m2) (c := k23c2) (by decide +kernel) rfl rfl rfl (by decide +kernel)
set_option maxRecDepth 65536 in
theorem w_c19 : (Jvm.Cond.code ({ cls := "java/util/ImmutableCollections$Set12", name := "size", desc := "()I" } : Jvm.MethodName) jdk_101_method_3_code (1 : Nat) (Option.some Jvm.ClassFile.FieldType.int)).before args0 about1 = true := code_word (m := ⟨16, 1⟩) (meth := k16m1) (c := k16c1) (by decide +kernel) rfl rfl rfl (by decide +kernel)
set_option maxRecDepth 65536 in
theorem w_c20 : (Jvm.Cond.code ({ cls := "java/util/ImmutableCollections$Set12", name := "contains", desc := "(Ljava/lang/Object;)Z" } : Jvm.MethodName) jdk_101_method_5_code (2 : Nat) (Option.some Jvm.ClassFile.FieldType.boolean)).before args0 about1 = true := code_word (m := ⟨16, 2⟩) (meth := k16m2) (c := k16c2) (by decide +kernel) rfl rfl rfl (by decide +kernel)
set_option maxRecDepth 65536 in
theorem w_c21 : (Jvm.Cond.code ({ cls := "java/lang/Integer", name := "equals", desc := "(Ljava/lang/Object;)Z" } : Jvm.MethodName) jdk_33_method_34_code (2 : Nat) (Option.some Jvm.ClassFile.FieldType.boolean)).before args0 about1 = true := code_word (m := ⟨8, 3⟩) (meth := k8m3) (c := k8c3) (by decide +kernel) rfl rfl rfl (by decide +kernel)
set_option maxRecDepth 65536 in
theorem w_c22 : (Jvm.Cond.code ({ cls := "java/lang/Integer", name := "intValue", desc := "()I" } : Jvm.MethodName) jdk_33_method_27_code (1 : Nat) (Option.some Jvm.ClassFile.FieldType.int)).before args0 about1 = true := code_word (m := ⟨8, 2⟩) (meth := k8m2) (c := k8c2) (by decide +kernel) rfl rfl rfl (by decide +kernel)
set_option maxRecDepth 65536 in
theorem w_c23 : (Jvm.Cond.code ({ cls := "java/lang/Object", name := "equals", desc := "(Ljava/lang/Object;)Z" } : Jvm.MethodName) object_method_4_code (2 : Nat) (Option.some Jvm.ClassFile.FieldType.boolean)).before args0 about1 = true := code_word (m := ⟨0, 1⟩) (meth := k0m1) (c := k0c1) (by decide +kernel) rfl rfl rfl (by decide +kernel)
set_option maxRecDepth 65536 in
theorem w_c24 : (Jvm.Cond.code ({ cls := "java/lang/Integer", name := "<init>", desc := "(I)V" } : Jvm.MethodName) jdk_33_method_23_code (2 : Nat) (Option.none : Option Jvm.ClassFile.FieldType)).before args0 about1 = true := code_word (m := ⟨8, 1⟩) (meth := k8m1) (c := k8c1) (by decide +kernel) rfl rfl rfl (by decide +kernel)
set_option maxRecDepth 65536 in
theorem w_c25 : (Jvm.Cond.code ({ cls := "java/lang/Number", name := "<init>", desc := "()V" } : Jvm.MethodName) jdk_18_method_1_code (1 : Nat) (Option.none : Option Jvm.ClassFile.FieldType)).before args0 about1 = true := code_word (m := ⟨4, 0⟩) (meth := k4m0) (c := k4c0) (by decide +kernel) rfl rfl rfl (by decide +kernel)
def codes1 : List Jvm.Cond := [Jvm.Cond.code x code maxLocals ret, Jvm.Cond.code ({ cls := "com/example/minga/minga/policy/Alternatives", name := "of", desc := "(I)Lcom/example/minga/minga/policy/Alternatives;" } : Jvm.MethodName) prog_24_method_2_code (1 : Nat) (Option.some (Jvm.ClassFile.FieldType.object "com/example/minga/minga/policy/Alternatives")), Jvm.Cond.code ({ cls := "java/lang/Integer", name := "valueOf", desc := "(I)Ljava/lang/Integer;" } : Jvm.MethodName) jdk_33_method_22_code (1 : Nat) (Option.some (Jvm.ClassFile.FieldType.object "java/lang/Integer")), Jvm.Cond.code ({ cls := "java/util/Set", name := "of", desc := "(Ljava/lang/Object;)Ljava/util/Set;" } : Jvm.MethodName) jdk_96_method_18_code (1 : Nat) (Option.some (Jvm.ClassFile.FieldType.object "java/util/Set")), Jvm.Cond.code ({ cls := "java/util/ImmutableCollections$Set12", name := "<init>", desc := "(Ljava/lang/Object;)V" } : Jvm.MethodName) jdk_101_method_1_code (2 : Nat) (Option.none : Option Jvm.ClassFile.FieldType), Jvm.Cond.code ({ cls := "java/util/ImmutableCollections$AbstractImmutableSet", name := "<init>", desc := "()V" } : Jvm.MethodName) jdk_100_method_1_code (1 : Nat) (Option.none : Option Jvm.ClassFile.FieldType), Jvm.Cond.code ({ cls := "java/util/ImmutableCollections$AbstractImmutableCollection", name := "<init>", desc := "()V" } : Jvm.MethodName) jdk_47_method_1_code (1 : Nat) (Option.none : Option Jvm.ClassFile.FieldType), Jvm.Cond.code ({ cls := "java/util/AbstractCollection", name := "<init>", desc := "()V" } : Jvm.MethodName) jdk_22_method_1_code (1 : Nat) (Option.none : Option Jvm.ClassFile.FieldType), Jvm.Cond.code ({ cls := "java/lang/Object", name := "<init>", desc := "()V" } : Jvm.MethodName) object_method_1_code (1 : Nat) (Option.none : Option Jvm.ClassFile.FieldType), Jvm.Cond.code ({ cls := "java/util/Objects", name := "requireNonNull", desc := "(Ljava/lang/Object;)Ljava/lang/Object;" } : Jvm.MethodName) jdk_31_method_10_code (1 : Nat) (Option.some (Jvm.ClassFile.FieldType.object "java/lang/Object")), Jvm.Cond.code ({ cls := "java/util/List", name := "of", desc := "(Ljava/lang/Object;)Ljava/util/List;" } : Jvm.MethodName) jdk_40_method_37_code (1 : Nat) (Option.some (Jvm.ClassFile.FieldType.object "java/util/List")), Jvm.Cond.code ({ cls := "java/util/ImmutableCollections$List12", name := "<init>", desc := "(Ljava/lang/Object;)V" } : Jvm.MethodName) jdk_44_method_1_code (2 : Nat) (Option.none : Option Jvm.ClassFile.FieldType), Jvm.Cond.code ({ cls := "java/util/ImmutableCollections$AbstractImmutableList", name := "<init>", desc := "()V" } : Jvm.MethodName) jdk_46_method_1_code (1 : Nat) (Option.none : Option Jvm.ClassFile.FieldType), Jvm.Cond.code ({ cls := "com/example/minga/minga/policy/Alternatives", name := "<init>", desc := "(ZLjava/util/List;)V" } : Jvm.MethodName) prog_24_method_1_code (3 : Nat) (Option.none : Option Jvm.ClassFile.FieldType), Jvm.Cond.code ({ cls := "com/example/minga/minga/policy/Alternatives", name := "isTrue", desc := "()Z" } : Jvm.MethodName) prog_24_method_4_code (1 : Nat) (Option.some Jvm.ClassFile.FieldType.boolean), Jvm.Cond.code ({ cls := "com/example/minga/minga/policy/Alternatives", name := "isFalse", desc := "()Z" } : Jvm.MethodName) prog_24_method_5_code (1 : Nat) (Option.some Jvm.ClassFile.FieldType.boolean), Jvm.Cond.code ({ cls := "com/example/minga/minga/policy/Alternatives", name := "sets", desc := "()Ljava/util/List;" } : Jvm.MethodName) prog_24_method_6_code (1 : Nat) (Option.some (Jvm.ClassFile.FieldType.object "java/util/List")), Jvm.Cond.code ({ cls := "java/util/ImmutableCollections$List12", name := "size", desc := "()I" } : Jvm.MethodName) jdk_44_method_3_code (1 : Nat) (Option.some Jvm.ClassFile.FieldType.int), Jvm.Cond.code ({ cls := "java/util/ImmutableCollections$List12", name := "get", desc := "(I)Ljava/lang/Object;" } : Jvm.MethodName) jdk_44_method_5_code (2 : Nat) (Option.some (Jvm.ClassFile.FieldType.object "java/lang/Object")), Jvm.Cond.code ({ cls := "java/util/ImmutableCollections$Set12", name := "size", desc := "()I" } : Jvm.MethodName) jdk_101_method_3_code (1 : Nat) (Option.some Jvm.ClassFile.FieldType.int), Jvm.Cond.code ({ cls := "java/util/ImmutableCollections$Set12", name := "contains", desc := "(Ljava/lang/Object;)Z" } : Jvm.MethodName) jdk_101_method_5_code (2 : Nat) (Option.some Jvm.ClassFile.FieldType.boolean), Jvm.Cond.code ({ cls := "java/lang/Integer", name := "equals", desc := "(Ljava/lang/Object;)Z" } : Jvm.MethodName) jdk_33_method_34_code (2 : Nat) (Option.some Jvm.ClassFile.FieldType.boolean), Jvm.Cond.code ({ cls := "java/lang/Integer", name := "intValue", desc := "()I" } : Jvm.MethodName) jdk_33_method_27_code (1 : Nat) (Option.some Jvm.ClassFile.FieldType.int), Jvm.Cond.code ({ cls := "java/lang/Object", name := "equals", desc := "(Ljava/lang/Object;)Z" } : Jvm.MethodName) object_method_4_code (2 : Nat) (Option.some Jvm.ClassFile.FieldType.boolean), Jvm.Cond.code ({ cls := "java/lang/Integer", name := "<init>", desc := "(I)V" } : Jvm.MethodName) jdk_33_method_23_code (2 : Nat) (Option.none : Option Jvm.ClassFile.FieldType), Jvm.Cond.code ({ cls := "java/lang/Number", name := "<init>", desc := "()V" } : Jvm.MethodName) jdk_18_method_1_code (1 : Nat) (Option.none : Option Jvm.ClassFile.FieldType)]
set_option maxRecDepth 65536 in
theorem codes_eq : words1.filter isCode = codes1 := rfl
theorem w_codes : ∀ c ∈ words1.filter isCode, c.before args0 about1 = true := by
  rw [codes_eq]
  intro c hc
  simp only [codes1, List.mem_cons, List.not_mem_nil, or_false] at hc
  rcases hc with rfl | rfl | rfl | rfl | rfl | rfl | rfl | rfl | rfl | rfl | rfl | rfl | rfl | rfl | rfl | rfl | rfl | rfl | rfl | rfl | rfl | rfl | rfl | rfl | rfl | rfl
  · exact w_c0
  · exact w_c1
  · exact w_c2
  · exact w_c3
  · exact w_c4
  · exact w_c5
  · exact w_c6
  · exact w_c7
  · exact w_c8
  · exact w_c9
  · exact w_c10
  · exact w_c11
  · exact w_c12
  · exact w_c13
  · exact w_c14
  · exact w_c15
  · exact w_c16
  · exact w_c17
  · exact w_c18
  · exact w_c19
  · exact w_c20
  · exact w_c21
  · exact w_c22
  · exact w_c23
  · exact w_c24
  · exact w_c25
set_option maxRecDepth 65536 in
theorem w_t1 : (words1.take 24).all (fun c => isCode c || c.before args0 about1) = true := by decide +kernel
set_option maxRecDepth 65536 in
theorem w_t2 : ((words1.drop 24).take 24).all (fun c => isCode c || c.before args0 about1) = true := by decide +kernel
set_option maxRecDepth 65536 in
theorem w_t3 : (((words1.drop 24).drop 24).take 24).all (fun c => isCode c || c.before args0 about1) = true := by decide +kernel
set_option maxRecDepth 65536 in
theorem w_t4 : ((((words1.drop 24).drop 24).drop 24).take 24).all (fun c => isCode c || c.before args0 about1) = true := by decide +kernel
set_option maxRecDepth 65536 in
theorem w_t5 : (((((words1.drop 24).drop 24).drop 24).drop 24).take 24).all (fun c => isCode c || c.before args0 about1) = true := by decide +kernel
set_option maxRecDepth 65536 in
theorem w_t6 : ((((((words1.drop 24).drop 24).drop 24).drop 24).drop 24).take 24).all (fun c => isCode c || c.before args0 about1) = true := by decide +kernel
set_option maxRecDepth 65536 in
theorem w_t7 : (((((((words1.drop 24).drop 24).drop 24).drop 24).drop 24).drop 24).take 24).all (fun c => isCode c || c.before args0 about1) = true := by decide +kernel
set_option maxRecDepth 65536 in
theorem w_t8 : (((((((words1.drop 24).drop 24).drop 24).drop 24).drop 24).drop 24).drop 24).all (fun c => isCode c || c.before args0 about1) = true := by decide +kernel
theorem w_tables : (allAtoms (Jvm.Cond.code x code maxLocals ret :: tables_1)).before args0 about1 = true := by
  rw [allAtoms_all]
  show words1.all (fun c => c.before args0 about1) = true
  refine all_split ?_ w_codes
  rw [← List.take_append_drop 24 words1, List.all_append, w_t1, ← List.take_append_drop 24 (words1.drop 24), List.all_append, w_t2, ← List.take_append_drop 24 ((words1.drop 24).drop 24), List.all_append, w_t3, ← List.take_append_drop 24 (((words1.drop 24).drop 24).drop 24), List.all_append, w_t4, ← List.take_append_drop 24 ((((words1.drop 24).drop 24).drop 24).drop 24), List.all_append, w_t5, ← List.take_append_drop 24 (((((words1.drop 24).drop 24).drop 24).drop 24).drop 24), List.all_append, w_t6, ← List.take_append_drop 24 ((((((words1.drop 24).drop 24).drop 24).drop 24).drop 24).drop 24), List.all_append, w_t7, w_t8]
  rfl
set_option maxRecDepth 65536 in
theorem w_rest : rest_1_c.before args0 about1 = true := by decide +kernel
set_option maxRecDepth 65536 in
theorem w_case : (Jvm.Cond.and given_1 narrow_1).before args0 about1 = true := by decide +kernel
theorem w_applies : (headSpec (Jvm.Cond.code x code maxLocals ret :: tables_1) room_1).applies x e0.platform about1 = true :=
  (Spec.applies_iff w_frames).mpr ⟨w_running, w_runnable, w_alone, w_named, w_hears, w_ripe, w_room, w_tables⟩
theorem atStart : AtStart classFile x code maxLocals ret World_1 tables_1 room_1 Calls_1 rest_1 Pre_1 launch0 p0 e0 about1 theMethod args0 below0 :=
  ⟨lists_1, trivial, launch0.admits_env _ _ _, launch0.least_env, fairChoices_fair.cas, fairChoices_fair.clock, w_frames, w_args, w_heap, w_applies, trivial, w_rest, w_case⟩
end start1
theorem witness_1 : WitnessClaimed_1 := ⟨start1.p0, start1.e0, start1.about1, start1.theMethod, start1.args0, start1.below0, start1.atStart⟩
end Jvm.Pilot.@@N@@
