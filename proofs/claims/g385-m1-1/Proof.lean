import JvmDerived
import JvmDerived.Pilot.@@N@@Statement
import JvmDerived.Pilot.@@N@@Code
set_option linter.unusedVariables false
set_option linter.unusedSimpArgs false
namespace Jvm.Pilot.@@N@@
open Jvm Jvm.ClassFile Sem Op Lib Jvm.Free Jvm.Stand Jvm.LawKit Jvm.RoadKit Bundle Jvm.Pilot.@@N@@.Jvm.D
section OwnWalk
variable {p : Program} {l : Launch} {e : Env} {R : Room} {s : State} {m : MethodId} {args : Array Value} {below : List Frame} {meth : Method} {c : Code} {T T' : State} {locs : List Loc} {cells slots : Nat} {P : Outcome → State → Prop} {pc : Nat} {ls : Array Slot} {st : List Value}
/-- from the frame g at T the method ends, and P holds of its end -/
def own_E (p : Program) (e : Env) (below : List Frame) (P : Outcome → State → Prop) (T : State) (g : JFrame) : Prop := ∃ s₂ o, Steps p.tables e below (T.setTop g) s₂ ∧ s₂.status = .running ∧ Ended s₂ below o ∧ P o s₂
theorem own_go {g g' : JFrame} (h : ∀ t, Steps p.tables e below (T'.setTop g') t → Steps p.tables e below (T.setTop g) t) (k : own_E p e below P T' g') : own_E p e below P T g := by
  obtain ⟨s₂, o, h1, h2⟩ := k; exact ⟨s₂, o, h _ h1, h2⟩
theorem own_cast {g g' : JFrame} (q : g = g') (k : own_E p e below P T g') : own_E p e below P T g := q ▸ k
/-- what a contract's end says -/
def own_P (s : State) (Q : Option Value → Heap → List Loc → Prop) (cm sm : Nat) (o : Outcome) (t : State) : Prop := ∃ v L, o = .returned v ∧ Q v t.heap L ∧ FrameEnd s o t L cm sm
theorem own_iloadN (X : Stand p l e R s m args below meth c T locs cells slots) (hx : p.tables.exec = Jvm.exec) {k : Fin 4} {v : Int32} (hd : decode c.code pc = .ok (.iload_n k, 1)) (hl : ls[k.val]? = some (.val (.int v))) (h : own_E p e below P T (mkF m (pc + 1) ls (.int v :: st))) : own_E p e below P T (mkF m pc ls (st)) := own_go (fun _ k => XS.iloadN X.here hx rfl hd hl k) h
theorem own_iload (X : Stand p l e R s m args below meth c T locs cells slots) (hx : p.tables.exec = Jvm.exec) {k : Nat} {v : Int32} (hd : decode c.code pc = .ok (.iload k, 2)) (hl : ls[k]? = some (.val (.int v))) (h : own_E p e below P T (mkF m (pc + 2) ls (.int v :: st))) : own_E p e below P T (mkF m pc ls (st)) := own_go (fun _ k => XS.iload X.here hx rfl hd hl k) h
theorem own_lloadN (X : Stand p l e R s m args below meth c T locs cells slots) (hx : p.tables.exec = Jvm.exec) {k : Fin 4} {v : Int64} (hd : decode c.code pc = .ok (.lload_n k, 1)) (hl : ls[k.val]? = some (.val (.long v))) (h : own_E p e below P T (mkF m (pc + 1) ls (.long v :: st))) : own_E p e below P T (mkF m pc ls (st)) := own_go (fun _ k => XT.lloadN X.here hx rfl hd hl k) h
theorem own_lload (X : Stand p l e R s m args below meth c T locs cells slots) (hx : p.tables.exec = Jvm.exec) {k : Nat} {v : Int64} (hd : decode c.code pc = .ok (.lload k, 2)) (hl : ls[k]? = some (.val (.long v))) (h : own_E p e below P T (mkF m (pc + 2) ls (.long v :: st))) : own_E p e below P T (mkF m pc ls (st)) := own_go (fun _ k => XT.lload X.here hx rfl hd hl k) h
theorem own_aloadN (X : Stand p l e R s m args below meth c T locs cells slots) (hx : p.tables.exec = Jvm.exec) {k : Fin 4} {v : Value} (hd : decode c.code pc = .ok (.aload_n k, 1)) (hl : ls[k.val]? = some (.val v)) (hv : v.isRef = true) (h : own_E p e below P T (mkF m (pc + 1) ls (v :: st))) : own_E p e below P T (mkF m pc ls (st)) := own_go (fun _ k => XS.aloadN X.here hx rfl hd hl hv k) h
theorem own_aload (X : Stand p l e R s m args below meth c T locs cells slots) (hx : p.tables.exec = Jvm.exec) {k : Nat} {v : Value} (hd : decode c.code pc = .ok (.aload k, 2)) (hl : ls[k]? = some (.val v)) (hv : v.isRef = true) (h : own_E p e below P T (mkF m (pc + 2) ls (v :: st))) : own_E p e below P T (mkF m pc ls (st)) := own_go (fun _ k => XS.aload X.here hx rfl hd hl hv k) h
theorem own_istoreN (X : Stand p l e R s m args below meth c T locs cells slots) (hx : p.tables.exec = Jvm.exec) {k : Fin 4} {v : Int32} {l' : Array Slot} (hd : decode c.code pc = .ok (.istore_n k, 1)) (hl : storeLocals ls k.val (.int v) = some l') (h : own_E p e below P T (mkF m (pc + 1) l' (st))) : own_E p e below P T (mkF m pc ls (.int v :: st)) := own_go (fun _ k => XS.istoreN X.here hx rfl hd rfl hl k) h
theorem own_istore (X : Stand p l e R s m args below meth c T locs cells slots) (hx : p.tables.exec = Jvm.exec) {k : Nat} {v : Int32} {l' : Array Slot} (hd : decode c.code pc = .ok (.istore k, 2)) (hl : storeLocals ls k (.int v) = some l') (h : own_E p e below P T (mkF m (pc + 2) l' (st))) : own_E p e below P T (mkF m pc ls (.int v :: st)) := own_go (fun _ k => XS.istore X.here hx rfl hd rfl hl k) h
theorem own_lstoreN (X : Stand p l e R s m args below meth c T locs cells slots) (hx : p.tables.exec = Jvm.exec) {k : Fin 4} {v : Int64} {l' : Array Slot} (hd : decode c.code pc = .ok (.lstore_n k, 1)) (hl : storeLocals ls k.val (.long v) = some l') (h : own_E p e below P T (mkF m (pc + 1) l' (st))) : own_E p e below P T (mkF m pc ls (.long v :: st)) := own_go (fun _ k => XT.lstoreN X.here hx rfl hd rfl hl k) h
theorem own_lstore (X : Stand p l e R s m args below meth c T locs cells slots) (hx : p.tables.exec = Jvm.exec) {k : Nat} {v : Int64} {l' : Array Slot} (hd : decode c.code pc = .ok (.lstore k, 2)) (hl : storeLocals ls k (.long v) = some l') (h : own_E p e below P T (mkF m (pc + 2) l' (st))) : own_E p e below P T (mkF m pc ls (.long v :: st)) := own_go (fun _ k => XT.lstore X.here hx rfl hd rfl hl k) h
theorem own_astoreN (X : Stand p l e R s m args below meth c T locs cells slots) (hx : p.tables.exec = Jvm.exec) {k : Fin 4} {v : Value} {l' : Array Slot} (hd : decode c.code pc = .ok (.astore_n k, 1)) (hv : v.isRef = true) (hl : storeLocals ls k.val v = some l') (h : own_E p e below P T (mkF m (pc + 1) l' (st))) : own_E p e below P T (mkF m pc ls (v :: st)) := own_go (fun _ k => XS.astoreN X.here hx rfl hd rfl hv hl k) h
theorem own_astore (X : Stand p l e R s m args below meth c T locs cells slots) (hx : p.tables.exec = Jvm.exec) {k : Nat} {v : Value} {l' : Array Slot} (hd : decode c.code pc = .ok (.astore k, 2)) (hv : v.isRef = true) (hl : storeLocals ls k v = some l') (h : own_E p e below P T (mkF m (pc + 2) l' (st))) : own_E p e below P T (mkF m pc ls (v :: st)) := own_go (fun _ k => XS.astore X.here hx rfl hd rfl hv hl k) h
theorem own_iconst (X : Stand p l e R s m args below meth c T locs cells slots) (hx : p.tables.exec = Jvm.exec) {i : Int} {v : Int32} (hd : decode c.code pc = .ok (.iconst i, 1)) (hv : Int32.ofInt i = v) (h : own_E p e below P T (mkF m (pc + 1) ls (.int v :: st))) : own_E p e below P T (mkF m pc ls (st)) := by subst hv; exact own_go (fun _ k => XS.iconst X.here hx rfl hd k) h
theorem own_bipush (X : Stand p l e R s m args below meth c T locs cells slots) (hx : p.tables.exec = Jvm.exec) {i : Int} {v : Int32} (hd : decode c.code pc = .ok (.bipush i, 2)) (hv : (Int8.ofInt i).toInt32 = v) (h : own_E p e below P T (mkF m (pc + 2) ls (.int v :: st))) : own_E p e below P T (mkF m pc ls (st)) := by subst hv; exact own_go (fun _ k => XS.bipush X.here hx rfl hd k) h
theorem own_sipush (X : Stand p l e R s m args below meth c T locs cells slots) (hx : p.tables.exec = Jvm.exec) {i : Int} {v : Int32} (hd : decode c.code pc = .ok (.sipush i, 3)) (hv : (Int16.ofInt i).toInt32 = v) (h : own_E p e below P T (mkF m (pc + 3) ls (.int v :: st))) : own_E p e below P T (mkF m pc ls (st)) := by subst hv; exact own_go (fun _ k => XS.sipush X.here hx rfl hd k) h
theorem own_lconst (X : Stand p l e R s m args below meth c T locs cells slots) (hx : p.tables.exec = Jvm.exec) {i : Fin 2} {v : Int64} (hd : decode c.code pc = .ok (.lconst i, 1)) (hv : Int64.ofNat i = v) (h : own_E p e below P T (mkF m (pc + 1) ls (.long v :: st))) : own_E p e below P T (mkF m pc ls (st)) := by subst hv; exact own_go (fun _ k => XT.lconst X.here hx rfl hd k) h
theorem own_aconstNull (X : Stand p l e R s m args below meth c T locs cells slots) (hx : p.tables.exec = Jvm.exec)  (hd : decode c.code pc = .ok (.aconst_null, 1)) (h : own_E p e below P T (mkF m (pc + 1) ls (.null :: st))) : own_E p e below P T (mkF m pc ls (st)) := own_go (fun _ k => XS.aconstNull X.here hx rfl hd k) h
theorem own_iadd (X : Stand p l e R s m args below meth c T locs cells slots) (hx : p.tables.exec = Jvm.exec) {x y z : Int32} (hd : decode c.code pc = .ok (.iadd, 1)) (hv : x + y = z) (h : own_E p e below P T (mkF m (pc + 1) ls (.int z :: st))) : own_E p e below P T (mkF m pc ls (.int y :: .int x :: st)) := by subst hv; exact own_go (fun _ k => XS.iadd X.here hx rfl hd rfl k) h
theorem own_isub (X : Stand p l e R s m args below meth c T locs cells slots) (hx : p.tables.exec = Jvm.exec) {x y z : Int32} (hd : decode c.code pc = .ok (.isub, 1)) (hv : x - y = z) (h : own_E p e below P T (mkF m (pc + 1) ls (.int z :: st))) : own_E p e below P T (mkF m pc ls (.int y :: .int x :: st)) := by subst hv; exact own_go (fun _ k => XS.isub X.here hx rfl hd rfl k) h
theorem own_imul (X : Stand p l e R s m args below meth c T locs cells slots) (hx : p.tables.exec = Jvm.exec) {x y z : Int32} (hd : decode c.code pc = .ok (.imul, 1)) (hv : x * y = z) (h : own_E p e below P T (mkF m (pc + 1) ls (.int z :: st))) : own_E p e below P T (mkF m pc ls (.int y :: .int x :: st)) := by subst hv; exact own_go (fun _ k => XS.imul X.here hx rfl hd rfl k) h
theorem own_iand (X : Stand p l e R s m args below meth c T locs cells slots) (hx : p.tables.exec = Jvm.exec) {x y z : Int32} (hd : decode c.code pc = .ok (.iand, 1)) (hv : x &&& y = z) (h : own_E p e below P T (mkF m (pc + 1) ls (.int z :: st))) : own_E p e below P T (mkF m pc ls (.int y :: .int x :: st)) := by subst hv; exact own_go (fun _ k => XS.iand X.here hx rfl hd rfl k) h
theorem own_ior (X : Stand p l e R s m args below meth c T locs cells slots) (hx : p.tables.exec = Jvm.exec) {x y z : Int32} (hd : decode c.code pc = .ok (.ior, 1)) (hv : x ||| y = z) (h : own_E p e below P T (mkF m (pc + 1) ls (.int z :: st))) : own_E p e below P T (mkF m pc ls (.int y :: .int x :: st)) := by subst hv; exact own_go (fun _ k => XT.ior X.here hx rfl hd rfl k) h
theorem own_ishr (X : Stand p l e R s m args below meth c T locs cells slots) (hx : p.tables.exec = Jvm.exec) {x y z : Int32} (hd : decode c.code pc = .ok (.ishr, 1)) (hv : x >>> (y &&& 31) = z) (h : own_E p e below P T (mkF m (pc + 1) ls (.int z :: st))) : own_E p e below P T (mkF m pc ls (.int y :: .int x :: st)) := by subst hv; exact own_go (fun _ k => XT.ishr X.here hx rfl hd rfl k) h
theorem own_iushr (X : Stand p l e R s m args below meth c T locs cells slots) (hx : p.tables.exec = Jvm.exec) {x y z : Int32} (hd : decode c.code pc = .ok (.iushr, 1)) (hv : Jvm.Free.XT.ushr x y = z) (h : own_E p e below P T (mkF m (pc + 1) ls (.int z :: st))) : own_E p e below P T (mkF m pc ls (.int y :: .int x :: st)) := by subst hv; exact own_go (fun _ k => XT.iushr X.here hx rfl hd rfl k) h
theorem own_ladd (X : Stand p l e R s m args below meth c T locs cells slots) (hx : p.tables.exec = Jvm.exec) {x y z : Int64} (hd : decode c.code pc = .ok (.ladd, 1)) (hv : x + y = z) (h : own_E p e below P T (mkF m (pc + 1) ls (.long z :: st))) : own_E p e below P T (mkF m pc ls (.long y :: .long x :: st)) := by subst hv; exact own_go (fun _ k => XT.ladd X.here hx rfl hd rfl k) h
theorem own_lsub (X : Stand p l e R s m args below meth c T locs cells slots) (hx : p.tables.exec = Jvm.exec) {x y z : Int64} (hd : decode c.code pc = .ok (.lsub, 1)) (hv : x - y = z) (h : own_E p e below P T (mkF m (pc + 1) ls (.long z :: st))) : own_E p e below P T (mkF m pc ls (.long y :: .long x :: st)) := by subst hv; exact own_go (fun _ k => XT.lsub X.here hx rfl hd rfl k) h
theorem own_lmul (X : Stand p l e R s m args below meth c T locs cells slots) (hx : p.tables.exec = Jvm.exec) {x y z : Int64} (hd : decode c.code pc = .ok (.lmul, 1)) (hv : x * y = z) (h : own_E p e below P T (mkF m (pc + 1) ls (.long z :: st))) : own_E p e below P T (mkF m pc ls (.long y :: .long x :: st)) := by subst hv; exact own_go (fun _ k => XT.lmul X.here hx rfl hd rfl k) h
theorem own_land (X : Stand p l e R s m args below meth c T locs cells slots) (hx : p.tables.exec = Jvm.exec) {x y z : Int64} (hd : decode c.code pc = .ok (.land, 1)) (hv : x &&& y = z) (h : own_E p e below P T (mkF m (pc + 1) ls (.long z :: st))) : own_E p e below P T (mkF m pc ls (.long y :: .long x :: st)) := by subst hv; exact own_go (fun _ k => XT.land X.here hx rfl hd rfl k) h
theorem own_ldiv (X : Stand p l e R s m args below meth c T locs cells slots) (hx : p.tables.exec = Jvm.exec) {x y z : Int64} (hd : decode c.code pc = .ok (.ldiv, 1)) (hy : y ≠ 0) (hv : x / y = z) (h : own_E p e below P T (mkF m (pc + 1) ls (.long z :: st))) : own_E p e below P T (mkF m pc ls (.long y :: .long x :: st)) := by subst hv; exact own_go (fun _ k => XT.ldiv X.here hx rfl hd rfl hy k) h
theorem own_lushr (X : Stand p l e R s m args below meth c T locs cells slots) (hx : p.tables.exec = Jvm.exec) {x z : Int64} {y : Int32} (hd : decode c.code pc = .ok (.lushr, 1)) (hv : Jvm.Free.XT.ushrL x y = z) (h : own_E p e below P T (mkF m (pc + 1) ls (.long z :: st))) : own_E p e below P T (mkF m pc ls (.int y :: .long x :: st)) := by subst hv; exact own_go (fun _ k => XT.lushr X.here hx rfl hd rfl k) h
theorem own_lcmp (X : Stand p l e R s m args below meth c T locs cells slots) (hx : p.tables.exec = Jvm.exec) {x y : Int64} {z : Int32} (hd : decode c.code pc = .ok (.lcmp, 1)) (hv : Jvm.Free.XT.cmpL x y = z) (h : own_E p e below P T (mkF m (pc + 1) ls (.int z :: st))) : own_E p e below P T (mkF m pc ls (.long y :: .long x :: st)) := by subst hv; exact own_go (fun _ k => XT.lcmp X.here hx rfl hd rfl k) h
theorem own_i2l (X : Stand p l e R s m args below meth c T locs cells slots) (hx : p.tables.exec = Jvm.exec) {x : Int32} {z : Int64} (hd : decode c.code pc = .ok (.i2l, 1)) (hv : x.toInt64 = z) (h : own_E p e below P T (mkF m (pc + 1) ls (.long z :: st))) : own_E p e below P T (mkF m pc ls (.int x :: st)) := by subst hv; exact own_go (fun _ k => XT.i2l X.here hx rfl hd rfl k) h
theorem own_l2i (X : Stand p l e R s m args below meth c T locs cells slots) (hx : p.tables.exec = Jvm.exec) {x : Int64} {z : Int32} (hd : decode c.code pc = .ok (.l2i, 1)) (hv : x.toInt32 = z) (h : own_E p e below P T (mkF m (pc + 1) ls (.int z :: st))) : own_E p e below P T (mkF m pc ls (.long x :: st)) := by subst hv; exact own_go (fun _ k => XT.l2i X.here hx rfl hd rfl k) h
theorem own_i2c (X : Stand p l e R s m args below meth c T locs cells slots) (hx : p.tables.exec = Jvm.exec) {x z : Int32} (hd : decode c.code pc = .ok (.i2c, 1)) (hv : x.toUInt32.toUInt16.toUInt32.toInt32 = z) (h : own_E p e below P T (mkF m (pc + 1) ls (.int z :: st))) : own_E p e below P T (mkF m pc ls (.int x :: st)) := by subst hv; exact own_go (fun _ k => XT.i2c X.here hx rfl hd rfl k) h
theorem own_i2b (X : Stand p l e R s m args below meth c T locs cells slots) (hx : p.tables.exec = Jvm.exec) {x z : Int32} (hd : decode c.code pc = .ok (.i2b, 1)) (hv : x.toInt8.toInt32 = z) (h : own_E p e below P T (mkF m (pc + 1) ls (.int z :: st))) : own_E p e below P T (mkF m pc ls (.int x :: st)) := by subst hv; exact own_go (fun _ k => XT.i2b X.here hx rfl hd rfl k) h
theorem own_iinc (X : Stand p l e R s m args below meth c T locs cells slots) (hx : p.tables.exec = Jvm.exec) {k : Nat} {i : Int} {x z : Int32} {l' : Array Slot} (hd : decode c.code pc = .ok (.iinc k i, 3)) (hl : ls[k]? = some (.val (.int x))) (hv : x + Int32.ofInt i = z) (hl' : storeLocals ls k (.int z) = some l') (h : own_E p e below P T (mkF m (pc + 3) l' (st))) : own_E p e below P T (mkF m pc ls (st)) := by subst hv; exact own_go (fun _ k => XS.iinc X.here hx rfl hd hl hl' k) h
theorem own_dup (X : Stand p l e R s m args below meth c T locs cells slots) (hx : p.tables.exec = Jvm.exec) {v : Value} (hd : decode c.code pc = .ok (.dup, 1)) (hv : v.category = 1) (h : own_E p e below P T (mkF m (pc + 1) ls (v :: v :: st))) : own_E p e below P T (mkF m pc ls (v :: st)) := own_go (fun _ k => XS.dup X.here hx rfl hd rfl hv k) h
theorem own_pop (X : Stand p l e R s m args below meth c T locs cells slots) (hx : p.tables.exec = Jvm.exec) {v : Value} (hd : decode c.code pc = .ok (.pop, 1)) (hv : v.category = 1) (h : own_E p e below P T (mkF m (pc + 1) ls (st))) : own_E p e below P T (mkF m pc ls (v :: st)) := own_go (fun _ k => XT.pop X.here hx rfl hd rfl hv k) h
theorem own_dupX1 (X : Stand p l e R s m args below meth c T locs cells slots) (hx : p.tables.exec = Jvm.exec) {v w : Value} (hd : decode c.code pc = .ok (.dup_x1, 1)) (hv : v.category = 1) (hw : w.category = 1) (h : own_E p e below P T (mkF m (pc + 1) ls (v :: w :: v :: st))) : own_E p e below P T (mkF m pc ls (v :: w :: st)) := own_go (fun _ k => XT.dupX1 X.here hx rfl hd rfl hv hw k) h
theorem own_goto (X : Stand p l e R s m args below meth c T locs cells slots) (hx : p.tables.exec = Jvm.exec)  {o : Int} (hd : decode c.code pc = .ok (.goto o, 3)) (pc' : Nat) (ho : 0 ≤ (pc : Int) + o) (hp : ((pc : Int) + o).toNat = pc') (h : own_E p e below P T (mkF m pc' ls st)) : own_E p e below P T (mkF m pc ls (st)) := own_go (fun _ k => XS.goto X.here hx rfl rfl hd ho hp k) h
theorem own_ifYes (X : Stand p l e R s m args below meth c T locs cells slots) (hx : p.tables.exec = Jvm.exec) {cd : ClassFile.Cond} {x : Int32} {o : Int} (hd : decode c.code pc = .ok (.ifCond cd o, 3)) (hc : ifCond.holds cd x = true) (pc' : Nat) (ho : 0 ≤ (pc : Int) + o) (hp : ((pc : Int) + o).toNat = pc') (h : own_E p e below P T (mkF m pc' ls st)) : own_E p e below P T (mkF m pc ls (.int x :: st)) := own_go (fun _ k => XS.ifYes X.here hx rfl rfl hd rfl hc ho hp k) h
theorem own_ifNo (X : Stand p l e R s m args below meth c T locs cells slots) (hx : p.tables.exec = Jvm.exec) {cd : ClassFile.Cond} {x : Int32} {o : Int} (hd : decode c.code pc = .ok (.ifCond cd o, 3)) (hc : ifCond.holds cd x = false) (h : own_E p e below P T (mkF m (pc + 3) ls st)) : own_E p e below P T (mkF m pc ls (.int x :: st)) := own_go (fun _ k => XS.ifNo X.here hx rfl hd rfl hc k) h
theorem own_icmpYes (X : Stand p l e R s m args below meth c T locs cells slots) (hx : p.tables.exec = Jvm.exec) {cd : ClassFile.Cond} {x y : Int32} {o : Int} (hd : decode c.code pc = .ok (.if_icmp cd o, 3)) (hc : if_icmp.holds cd x y = true) (pc' : Nat) (ho : 0 ≤ (pc : Int) + o) (hp : ((pc : Int) + o).toNat = pc') (h : own_E p e below P T (mkF m pc' ls st)) : own_E p e below P T (mkF m pc ls (.int y :: .int x :: st)) := own_go (fun _ k => XS.icmpYes X.here hx rfl rfl hd rfl hc ho hp k) h
theorem own_icmpNo (X : Stand p l e R s m args below meth c T locs cells slots) (hx : p.tables.exec = Jvm.exec) {cd : ClassFile.Cond} {x y : Int32} {o : Int} (hd : decode c.code pc = .ok (.if_icmp cd o, 3)) (hc : if_icmp.holds cd x y = false) (h : own_E p e below P T (mkF m (pc + 3) ls st)) : own_E p e below P T (mkF m pc ls (.int y :: .int x :: st)) := own_go (fun _ k => XS.icmpNo X.here hx rfl hd rfl hc k) h
theorem own_acmpYes (X : Stand p l e R s m args below meth c T locs cells slots) (hx : p.tables.exec = Jvm.exec) {cd : ACond} {x y : Value} {o : Int} (hd : decode c.code pc = .ok (.if_acmp cd o, 3)) (h1 : x.isRef = true) (h2 : y.isRef = true) (hc : Jvm.Free.XT.acmp cd x y = true) (pc' : Nat) (ho : 0 ≤ (pc : Int) + o) (hp : ((pc : Int) + o).toNat = pc') (h : own_E p e below P T (mkF m pc' ls st)) : own_E p e below P T (mkF m pc ls (y :: x :: st)) := own_go (fun _ k => Jvm.RoadKit.acmp X hx rfl h1 h2 (same := decide (x = y)) rfl hd rfl rfl ho (by rw [hp]; cases cd <;> simp_all [acV, Jvm.Free.XT.acmp]) k) h
theorem own_acmpNo (X : Stand p l e R s m args below meth c T locs cells slots) (hx : p.tables.exec = Jvm.exec) {cd : ACond} {x y : Value} {o : Int} (hd : decode c.code pc = .ok (.if_acmp cd o, 3)) (h1 : x.isRef = true) (h2 : y.isRef = true) (ho : 0 ≤ (pc : Int) + o) (hc : Jvm.Free.XT.acmp cd x y = false) (h : own_E p e below P T (mkF m (pc + 3) ls st)) : own_E p e below P T (mkF m pc ls (y :: x :: st)) := own_go (fun _ k => Jvm.RoadKit.acmp X hx rfl h1 h2 (same := decide (x = y)) rfl hd rfl rfl ho (by cases cd <;> simp_all [acV, Jvm.Free.XT.acmp]) k) h
theorem own_nullYes (X : Stand p l e R s m args below meth c T locs cells slots) (hx : p.tables.exec = Jvm.exec)  {o : Int} (hd : decode c.code pc = .ok (.ifnull o, 3)) (pc' : Nat) (ho : 0 ≤ (pc : Int) + o) (hp : ((pc : Int) + o).toNat = pc') (h : own_E p e below P T (mkF m pc' ls st)) : own_E p e below P T (mkF m pc ls (.null :: st)) := own_go (fun _ k => XS.ifnullYes X.here hx rfl rfl hd rfl ho hp k) h
theorem own_nullNo (X : Stand p l e R s m args below meth c T locs cells slots) (hx : p.tables.exec = Jvm.exec) {b : Addr} {o : Int} (hd : decode c.code pc = .ok (.ifnull o, 3)) (h : own_E p e below P T (mkF m (pc + 3) ls st)) : own_E p e below P T (mkF m pc ls (.ref b :: st)) := own_go (fun _ k => XS.ifnullNo X.here hx rfl hd rfl k) h
theorem own_nonnullYes (X : Stand p l e R s m args below meth c T locs cells slots) (hx : p.tables.exec = Jvm.exec) {b : Addr} {o : Int} (hd : decode c.code pc = .ok (.ifnonnull o, 3)) (pc' : Nat) (ho : 0 ≤ (pc : Int) + o) (hp : ((pc : Int) + o).toNat = pc') (h : own_E p e below P T (mkF m pc' ls st)) : own_E p e below P T (mkF m pc ls (.ref b :: st)) := own_go (fun _ k => XT.ifnonnullYes X.here hx rfl rfl hd rfl ho hp k) h
theorem own_nonnullNo (X : Stand p l e R s m args below meth c T locs cells slots) (hx : p.tables.exec = Jvm.exec)  {o : Int} (hd : decode c.code pc = .ok (.ifnonnull o, 3)) (h : own_E p e below P T (mkF m (pc + 3) ls st)) : own_E p e below P T (mkF m pc ls (.null :: st)) := own_go (fun _ k => XT.ifnonnullNo X.here hx rfl hd rfl k) h
theorem own_alen (X : Stand p l e R s m args below meth c T locs cells slots) (hx : p.tables.exec = Jvm.exec) {Z : State} (hZ : Z.Warmed39 s.vm) {h : Heap} (eT : T.heap = h) {a : Addr} {cl : Cell} {ty : FieldType} (A : Arr Z h a cl ty) {z : Int32} (hz : cl.slots.size.toInt32 = z) (hd : decode c.code pc = .ok (.arraylength, 1)) (k : own_E p e below P T (mkF m (pc + 1) ls (.int z :: st))) : own_E p e below P T (mkF m pc ls (.ref a :: st)) := by
  subst hz
  exact own_go (fun _ k => X.arraylength hx (by rw [eT]; exact A.1) (State.isArrayOf_alike hZ.alike A.2.1) (g := mkF m pc ls (.ref a :: st)) rfl rfl hd _ k) k
theorem own_baload (X : Stand p l e R s m args below meth c T locs cells slots) (hx : p.tables.exec = Jvm.exec) {Z : State} (hZ : Z.Warmed39 s.vm) {h : Heap} (eT : T.heap = h) {a : Addr} {cl : Cell} (A : Arr Z h a cl .byte) {j : Int32} {v : Value} (hin : ¬ (j < 0 ∨ cl.slots.size ≤ j.toNatClampNeg)) (hv : cl.slots[j.toNatClampNeg]? = some v) (hd : decode c.code pc = .ok (.baload, 1)) (k : own_E p e below P T (mkF m (pc + 1) ls (v :: st))) : own_E p e below P T (mkF m pc ls (.int j :: .ref a :: st)) :=
  own_go (fun _ k => X.baloadBytes hx (by rw [eT]; exact A.1) (State.isArrayOf_alike hZ.alike A.2.1) A.2.2 hin hv (g := mkF m pc ls (.int j :: .ref a :: st)) rfl rfl hd _ k) k
theorem own_zaload (X : Stand p l e R s m args below meth c T locs cells slots) (hx : p.tables.exec = Jvm.exec) {Z : State} (hZ : Z.Warmed39 s.vm) {h : Heap} (eT : T.heap = h) {a : Addr} {cl : Cell} (A : Arr Z h a cl .boolean) {j : Int32} {v : Value} (hin : ¬ (j < 0 ∨ cl.slots.size ≤ j.toNatClampNeg)) (hv : cl.slots[j.toNatClampNeg]? = some v) (hd : decode c.code pc = .ok (.baload, 1)) (k : own_E p e below P T (mkF m (pc + 1) ls (v :: st))) : own_E p e below P T (mkF m pc ls (.int j :: .ref a :: st)) :=
  own_go (fun _ k => X.baloadBooleans hx (by rw [eT]; exact A.1) (State.isArrayOf_alike hZ.alike A.2.1) A.2.2 hin hv (g := mkF m pc ls (.int j :: .ref a :: st)) rfl rfl hd _ k) k
theorem own_iaload (X : Stand p l e R s m args below meth c T locs cells slots) (hx : p.tables.exec = Jvm.exec) {Z : State} (hZ : Z.Warmed39 s.vm) {h : Heap} (eT : T.heap = h) {a : Addr} {cl : Cell} (A : Arr Z h a cl .int) {j : Int32} {v : Value} (hin : ¬ (j < 0 ∨ cl.slots.size ≤ j.toNatClampNeg)) (hv : cl.slots[j.toNatClampNeg]? = some v) (hd : decode c.code pc = .ok (.iaload, 1)) (k : own_E p e below P T (mkF m (pc + 1) ls (v :: st))) : own_E p e below P T (mkF m pc ls (.int j :: .ref a :: st)) :=
  own_go (fun _ k => X.iaload hx (by rw [eT]; exact A.1) (State.isArrayOf_alike hZ.alike A.2.1) A.2.2 hin hv (g := mkF m pc ls (.int j :: .ref a :: st)) rfl rfl hd _ k) k
theorem own_aaload (X : Stand p l e R s m args below meth c T locs cells slots) (hx : p.tables.exec = Jvm.exec) {Z : State} (hZ : Z.Warmed39 s.vm) {h : Heap} (eT : T.heap = h) {a : Addr} {cl : Cell} {ty : FieldType} (A : Arr Z h a cl ty) (hty : ty.isReference = true) {j : Int32} {v : Value} (hin : ¬ (j < 0 ∨ cl.slots.size ≤ j.toNatClampNeg)) (hv : cl.slots[j.toNatClampNeg]? = some v) (hd : decode c.code pc = .ok (.aaload, 1)) (k : own_E p e below P T (mkF m (pc + 1) ls (v :: st))) : own_E p e below P T (mkF m pc ls (.int j :: .ref a :: st)) :=
  own_go (fun _ k => X.aaload hx (by rw [eT]; exact A.1) (State.isArrayOf_alike hZ.alike A.2.1) hty A.2.2 hin hv (g := mkF m pc ls (.int j :: .ref a :: st)) rfl rfl hd _ k) k
theorem own_retN (X : Stand p l e R s m args below meth c T locs cells slots) (hx : p.tables.exec = Jvm.exec) {z z' : Int32} {t : FieldType} {Q : Option Value → Heap → List Loc → Prop} {cm sm : Nat} (hret : meth.sig.returnType = some t) (ht : t = .boolean ∨ t = .byte ∨ t = .char ∨ t = .short) (hlk : meth.locks = false) (hd : decode c.code pc = .ok (.ireturn, 1)) (hz : nar t z = z') (hc : cells ≤ cm) (hs : slots ≤ sm) (hQ : Q (some (.int z')) T.heap locs) : own_E p e below (own_P s Q cm sm) T (mkF m pc ls (.int z :: st)) := by
  subst hz
  obtain ⟨fs, hr, hrun, hended, hW, hsame⟩ := X.leave (v := some (.int (nar t z))) (fun h => by rw [hret] at h; cases h) hlk
  exact ⟨_, _, retN X hx hret ht hd hr, hrun, hended, _, _, rfl, hQ, ⟨_, rfl⟩, hW, hsame.mono hc hs⟩
theorem own_retO (X : Stand p l e R s m args below meth c T locs cells slots) (hx : p.tables.exec = Jvm.exec) {w : Value} {t : FieldType} {i : Instr} {Q : Option Value → Heap → List Loc → Prop} {cm sm : Nat} (hret : meth.sig.returnType = some t) (hlk : meth.locks = false) (hn : narrow t w = w)
    (hi : (i = .ireturn ∧ (t = .int ∨ t = .boolean ∨ t = .byte ∨ t = .char ∨ t = .short) ∧ ∃ z, w = .int z) ∨ (i = .lreturn ∧ t = .long ∧ ∃ z, w = .long z) ∨ (i = .dreturn ∧ t = .double ∧ ∃ z, w = .double z) ∨ (i = .freturn ∧ t = .float ∧ ∃ z, w = .float z) ∨ (i = .areturn ∧ t.isReference = true ∧ w.isRef = true))
    (hd : decode c.code pc = .ok (i, 1)) (hc : cells ≤ cm) (hs : slots ≤ sm) (hQ : Q (some w) T.heap locs) : own_E p e below (own_P s Q cm sm) T (mkF m pc ls (w :: st)) := by
  obtain ⟨fs, hr, hrun, hended, hW, hsame⟩ := X.leave (v := some w) (fun h => by rw [hret] at h; cases h) hlk
  exact ⟨_, _, Jvm.RoadKit.retOut X hx hret hn hi hd hr, hrun, hended, _, _, rfl, hQ, ⟨_, rfl⟩, hW, hsame.mono hc hs⟩
theorem own_retI (X : Stand p l e R s m args below meth c T locs cells slots) (hx : p.tables.exec = Jvm.exec) {z : Int32} {Q : Option Value → Heap → List Loc → Prop} {cm sm : Nat} (hret : meth.sig.returnType = some .int) (hlk : meth.locks = false) (hd : decode c.code pc = .ok (.ireturn, 1)) (hc : cells ≤ cm) (hs : slots ≤ sm) (hQ : Q (some (.int z)) T.heap locs) : own_E p e below (own_P s Q cm sm) T (mkF m pc ls (.int z :: st)) := own_retO X hx hret hlk rfl (Or.inl ⟨rfl, Or.inl rfl, _, rfl⟩) hd hc hs hQ
theorem own_retL (X : Stand p l e R s m args below meth c T locs cells slots) (hx : p.tables.exec = Jvm.exec) {z : Int64} {Q : Option Value → Heap → List Loc → Prop} {cm sm : Nat} (hret : meth.sig.returnType = some .long) (hlk : meth.locks = false) (hd : decode c.code pc = .ok (.lreturn, 1)) (hc : cells ≤ cm) (hs : slots ≤ sm) (hQ : Q (some (.long z)) T.heap locs) : own_E p e below (own_P s Q cm sm) T (mkF m pc ls (.long z :: st)) := own_retO X hx hret hlk rfl (Or.inr (Or.inl ⟨rfl, rfl, _, rfl⟩)) hd hc hs hQ
theorem own_retA (X : Stand p l e R s m args below meth c T locs cells slots) (hx : p.tables.exec = Jvm.exec) {w : Value} {t : FieldType} {Q : Option Value → Heap → List Loc → Prop} {cm sm : Nat} (hret : meth.sig.returnType = some t) (ht : t.isReference = true) (hw : w.isRef = true) (hlk : meth.locks = false) (hd : decode c.code pc = .ok (.areturn, 1)) (hc : cells ≤ cm) (hs : slots ≤ sm) (hQ : Q (some w) T.heap locs) : own_E p e below (own_P s Q cm sm) T (mkF m pc ls (w :: st)) := own_retO X hx hret hlk (by rcases ref_cases hw with rfl | ⟨a, rfl⟩ <;> cases t <;> rfl) (Or.inr (Or.inr (Or.inr (Or.inr ⟨rfl, ht, hw⟩)))) hd hc hs hQ
theorem own_retV (X : Stand p l e R s m args below meth c T locs cells slots) (hx : p.tables.exec = Jvm.exec) {Q : Option Value → Heap → List Loc → Prop} {cm sm : Nat} (hret : meth.sig.returnType = none) (hlk : meth.locks = false) (hd : decode c.code pc = .ok (.return_, 1)) (hc : cells ≤ cm) (hs : slots ≤ sm) (hQ : Q none T.heap locs) : own_E p e below (own_P s Q cm sm) T (mkF m pc ls []) := by
  obtain ⟨fs, hr, hrun, hended, hW, hsame⟩ := X.leave (v := none) (fun _ => rfl) hlk
  exact ⟨_, _, X.returnOut hx hret hd hr, hrun, hended, _, _, rfl, hQ, ⟨_, rfl⟩, hW, hsame.mono hc hs⟩
theorem own_nar {v : Value} {C : String} (r : v.isRef = true) : narrow (.object C) v = v := by rcases ref_cases r with rfl | ⟨a, rfl⟩ <;> rfl
theorem own_fit {v : Value} {C : String} (r : v.isRef = true) : fits (.object C) v = true := by rcases ref_cases r with rfl | ⟨a, rfl⟩ <;> rfl
end OwnWalk
def own_hs (a c e : Addr) : Int32 := if a = c then 1 else if a = e then 1 else 0
def own_Q (r : Int32) (h0 : Heap) (n0 : Nat) (v : Option Value) (h : Heap) (L : List Loc) : Prop := v = some (.int r) ∧ Fr n0 L ∧ h = h0
theorem own_pn0 : plainName "com/example/slotwright/slotwright/core/Allocation$Status" = true := by first | (simp [plainName, overriddenIn]; done) | decide +kernel
theorem own_ef1 (m : MethodId) (x0 : Addr) : entryFrame m #[(.ref x0)] 1 = mkF m 0 #[.val (.ref x0)] [] := by first | (simp [entryFrame, mkF, argsToLocals, Value.category]; done) | rfl
theorem own_d_prog_16_method_6_code_0 : decode prog_16_method_6_code 0 = .ok (.aload_n 0, 1) := by decide +kernel
theorem own_d_prog_16_method_6_code_1 : decode prog_16_method_6_code 1 = .ok (.getstatic 3, 3) := by decide +kernel
theorem own_d_prog_16_method_6_code_4 : decode prog_16_method_6_code 4 = .ok (.if_acmp .eq 10, 3) := by decide +kernel
theorem own_d_prog_16_method_6_code_14 : decode prog_16_method_6_code 14 = .ok (.iconst 1, 1) := by decide +kernel
theorem own_d_prog_16_method_6_code_15 : decode prog_16_method_6_code 15 = .ok (.goto 4, 3) := by decide +kernel
theorem own_d_prog_16_method_6_code_19 : decode prog_16_method_6_code 19 = .ok (.ireturn, 1) := by decide +kernel
theorem own_d_prog_16_method_6_code_7 : decode prog_16_method_6_code 7 = .ok (.aload_n 0, 1) := by decide +kernel
theorem own_d_prog_16_method_6_code_8 : decode prog_16_method_6_code 8 = .ok (.getstatic 7, 3) := by decide +kernel
theorem own_d_prog_16_method_6_code_11 : decode prog_16_method_6_code 11 = .ok (.if_acmp .ne 7, 3) := by decide +kernel
theorem own_d_prog_16_method_6_code_18 : decode prog_16_method_6_code 18 = .ok (.iconst 0, 1) := by decide +kernel
set_option maxRecDepth 65536 in
set_option maxHeartbeats 40000000 in
theorem own_rmH (l : Launch) (Z : State) (a0 : Array Value) (hw : ∀ d ∈ tables_1, d.before a0 Z = true) (ws : List Jvm.Cond) (a1 wc we : Addr) (h0 : Heap) (n0 : Nat) (Z0 : n0 ≤ h0.size) (S0 : Sta Z h0 "com/example/slotwright/slotwright/core/Allocation$Status" "CONTROLLED" "Lcom/example/slotwright/slotwright/core/Allocation$Status;" (.ref wc)) (S1 : Sta Z h0 "com/example/slotwright/slotwright/core/Allocation$Status" "EXEMPT" "Lcom/example/slotwright/slotwright/core/Allocation$Status;" (.ref we)) :
    MetFree l (⟨"com/example/slotwright/slotwright/core/Allocation$Status", "holdsSlot", "()Z"⟩ : MethodName) (head1 (Jvm.Cond.code (⟨"com/example/slotwright/slotwright/core/Allocation$Status", "holdsSlot", "()Z"⟩ : MethodName) prog_16_method_6_code 1 (some .boolean) :: ws) ({ frames := 0, cells := 0, slots := 0, locals := 0 } : Room)) (fun a U => a = #[(.ref a1)] ∧ Z.Warmed39 U.vm ∧ U.heap = h0) (fun _ _ _ _ _ => True) (fun _ U o U' => ∃ v L, o = .returned v ∧ own_Q (own_hs a1 wc we) h0 n0 v U'.heap L ∧ FrameEnd U o U' L ({ frames := 0, cells := 0, slots := 0, locals := 0 } : Room).cells ({ frames := 0, cells := 0, slots := 0, locals := 0 } : Room).slots) := by
  refine MetFree.of_bodySF (plainFor_of_name own_pn0) hisR ?_
  intro p e s m args below meth c s₁ Bd hml0 hP hK
  obtain ⟨rfl, hZ, hh⟩ := hP
  have hx := Bd.exec
  have hby := Bd.bytes
  have hlk : meth.locks = false := Bd.notSynchronized
  have hml : c.maxLocals = 1 := hml0
  have hown : s.vm.findClass "com/example/slotwright/slotwright/core/Allocation$Status" = some m.cls := findClass_of_methodNamed Bd.named
  have hnm := (name_of_methodNamed Bd.named Bd.method).1
  have X0 : Stand p l e ({ frames := 0, cells := 0, slots := 0, locals := 0 } : Room) s m #[(.ref a1)] below meth c s₁ [] 0 0 := Stand.of_body Bd
  have e0 : s₁.heap = h0 := by rw [← hh, Bd.state]; rfl
  have N0 := Fr.nil n0
  show own_E p e below (own_P s (own_Q (own_hs a1 wc we) h0 n0) ({ frames := 0, cells := 0, slots := 0, locals := 0 } : Room).cells ({ frames := 0, cells := 0, slots := 0, locals := 0 } : Room).slots) s₁ (entryFrame m #[(.ref a1)] 1)
  refine own_cast (own_ef1 m a1) ?_
  show own_E p e below _ s₁ (mkF m 0 #[.val (.ref a1)] [])
  refine own_aloadN X0 hx (hb hby own_d_prog_16_method_6_code_0) rfl rfl ?_
  show own_E p e below _ s₁ (mkF m 1 #[.val (.ref a1)] [(.ref a1)])
  obtain ⟨T1, X1, e1, st1⟩ := getS2 X0 hx hZ hown (host := "") (Or.inl (hw _ (List.mem_of_getElem? (i := 8) rfl))) Via.refl e0 S0 (g := (mkF m 1 #[.val (.ref a1)] [(.ref a1)])) rfl (hb hby own_d_prog_16_method_6_code_1)
  refine own_go st1 ?_
  show own_E p e below _ T1 (mkF m 4 #[.val (.ref a1)] [(.ref wc), (.ref a1)])
  by_cases h1 : a1 = wc
  · skip
    refine own_acmpYes X1 hx (hb hby own_d_prog_16_method_6_code_4) rfl rfl (Jvm.Free.XT.aa_eq_t (congrArg Value.ref h1)) 14 (by decide) (by decide) ?_
    show own_E p e below _ T1 (mkF m 14 #[.val (.ref a1)] [])
    refine own_iconst X1 hx (hb hby own_d_prog_16_method_6_code_14) (v := (1 : Int32)) (by decide) ?_
    show own_E p e below _ T1 (mkF m 15 #[.val (.ref a1)] [(.int (1 : Int32))])
    refine own_goto X1 hx (hb hby own_d_prog_16_method_6_code_15) 19 (by decide) (by decide) ?_
    show own_E p e below _ T1 (mkF m 19 #[.val (.ref a1)] [(.int (1 : Int32))])
    refine own_retN X1 hx (t := .boolean) Bd.returns (by simp) hlk (hb hby own_d_prog_16_method_6_code_19) (z' := (1 : Int32)) (by decide) (by decide) (by decide) ?_
    rw [e1]
    exact ⟨by rw [own_hs, if_pos h1], N0, rfl⟩
  · skip
    refine own_acmpNo X1 hx (hb hby own_d_prog_16_method_6_code_4) rfl rfl (by decide) (Jvm.Free.XT.aa_eq_f (fun q => h1 (Value.ref.inj q))) ?_
    show own_E p e below _ T1 (mkF m 7 #[.val (.ref a1)] [])
    refine own_aloadN X1 hx (hb hby own_d_prog_16_method_6_code_7) rfl rfl ?_
    show own_E p e below _ T1 (mkF m 8 #[.val (.ref a1)] [(.ref a1)])
    obtain ⟨T2, X2, e2, st2⟩ := getS2 X1 hx hZ hown (host := "") (Or.inl (hw _ (List.mem_of_getElem? (i := 11) rfl))) Via.refl e1 S1 (g := (mkF m 8 #[.val (.ref a1)] [(.ref a1)])) rfl (hb hby own_d_prog_16_method_6_code_8)
    refine own_go st2 ?_
    show own_E p e below _ T2 (mkF m 11 #[.val (.ref a1)] [(.ref we), (.ref a1)])
    by_cases h2 : a1 = we
    · skip
      refine own_acmpNo X2 hx (hb hby own_d_prog_16_method_6_code_11) rfl rfl (by decide) (Jvm.Free.XT.aa_ne_f (congrArg Value.ref h2)) ?_
      show own_E p e below _ T2 (mkF m 14 #[.val (.ref a1)] [])
      refine own_iconst X2 hx (hb hby own_d_prog_16_method_6_code_14) (v := (1 : Int32)) (by decide) ?_
      show own_E p e below _ T2 (mkF m 15 #[.val (.ref a1)] [(.int (1 : Int32))])
      refine own_goto X2 hx (hb hby own_d_prog_16_method_6_code_15) 19 (by decide) (by decide) ?_
      show own_E p e below _ T2 (mkF m 19 #[.val (.ref a1)] [(.int (1 : Int32))])
      refine own_retN X2 hx (t := .boolean) Bd.returns (by simp) hlk (hb hby own_d_prog_16_method_6_code_19) (z' := (1 : Int32)) (by decide) (by decide) (by decide) ?_
      rw [e2]
      exact ⟨by rw [own_hs, if_neg h1, if_pos h2], N0, rfl⟩
    · skip
      refine own_acmpYes X2 hx (hb hby own_d_prog_16_method_6_code_11) rfl rfl (Jvm.Free.XT.aa_ne_t (fun q => h2 (Value.ref.inj q))) 18 (by decide) (by decide) ?_
      show own_E p e below _ T2 (mkF m 18 #[.val (.ref a1)] [])
      refine own_iconst X2 hx (hb hby own_d_prog_16_method_6_code_18) (v := (0 : Int32)) (by decide) ?_
      show own_E p e below _ T2 (mkF m 19 #[.val (.ref a1)] [(.int (0 : Int32))])
      refine own_retN X2 hx (t := .boolean) Bd.returns (by simp) hlk (hb hby own_d_prog_16_method_6_code_19) (z' := (0 : Int32)) (by decide) (by decide) (by decide) ?_
      rw [e2]
      exact ⟨by rw [own_hs, if_neg h1, if_neg h2], N0, rfl⟩

theorem own_pn1 : plainName "com/example/slotwright/slotwright/core/StatusHoldsSlotPinLaw" = true := by first | (simp [plainName, overriddenIn]; done) | decide +kernel
theorem own_ef2 (m : MethodId) (x0 : Int32) : entryFrame m #[(.int x0)] maxLocals = mkF m 0 #[.val (.int x0), .unset, .unset, .unset] [] := by first | (simp [entryFrame, mkF, argsToLocals, Value.category, maxLocals]; done) | rfl
theorem own_pd0 : parseMethodDescriptor "()Z" = some ⟨[], some .boolean⟩ := by decide +kernel
set_option maxRecDepth 65536 in
set_option maxHeartbeats 40000000 in
theorem own_rm0 (l : Launch) (Z : State) (a0 : Array Value) (hw : ∀ d ∈ tables_1, d.before a0 Z = true) (ws : List Jvm.Cond) (i0 : Int32) (wc we wn wx : Addr) (h0 : Heap) (n0 : Nat) (Z0 : n0 ≤ h0.size) (S0 : Sta Z h0 "com/example/slotwright/slotwright/core/Allocation$Status" "CONTROLLED" "Lcom/example/slotwright/slotwright/core/Allocation$Status;" (.ref wc)) (E0 : Exa Z h0 wc "com/example/slotwright/slotwright/core/Allocation$Status") (S1 : Sta Z h0 "com/example/slotwright/slotwright/core/Allocation$Status" "EXEMPT" "Lcom/example/slotwright/slotwright/core/Allocation$Status;" (.ref we)) (E1 : Exa Z h0 we "com/example/slotwright/slotwright/core/Allocation$Status") (S2 : Sta Z h0 "com/example/slotwright/slotwright/core/Allocation$Status" "NOT_CONTROLLED" "Lcom/example/slotwright/slotwright/core/Allocation$Status;" (.ref wn)) (E2 : Exa Z h0 wn "com/example/slotwright/slotwright/core/Allocation$Status") (S3 : Sta Z h0 "com/example/slotwright/slotwright/core/Allocation$Status" "CANCELLED" "Lcom/example/slotwright/slotwright/core/Allocation$Status;" (.ref wx)) (E3 : Exa Z h0 wx "com/example/slotwright/slotwright/core/Allocation$Status") (d1 : wn ≠ wc) (d2 : wn ≠ we) (d3 : wx ≠ wc) (d4 : wx ≠ we) :
    MetFree l x (head1 (Jvm.Cond.code x code maxLocals ret :: ws) room_1) (fun a U => a = #[(.int i0)] ∧ Z.Warmed39 U.vm ∧ U.heap = h0) (fun _ _ _ _ _ => True) (fun _ U o U' => ∃ v L, o = .returned v ∧ own_Q 1 h0 n0 v U'.heap L ∧ FrameEnd U o U' L room_1.cells room_1.slots) := by
  refine MetFree.of_bodySF (plainFor_of_name own_pn1) hisR ?_
  intro p e s m args below meth c s₁ Bd hml0 hP hK
  obtain ⟨rfl, hZ, hh⟩ := hP
  have hx := Bd.exec
  have hby := Bd.bytes
  have hlk : meth.locks = false := Bd.notSynchronized
  have hml : c.maxLocals = 4 := hml0
  have hown : s.vm.findClass "com/example/slotwright/slotwright/core/StatusHoldsSlotPinLaw" = some m.cls := findClass_of_methodNamed Bd.named
  have hnm := (name_of_methodNamed Bd.named Bd.method).1
  have X0 : Stand p l e room_1 s m #[(.int i0)] below meth c s₁ [] 0 0 := Stand.of_body Bd
  have e0 : s₁.heap = h0 := by rw [← hh, Bd.state]; rfl
  have N0 := Fr.nil n0
  show own_E p e below (own_P s (own_Q 1 h0 n0) room_1.cells room_1.slots) s₁ (entryFrame m #[(.int i0)] maxLocals)
  refine own_cast (own_ef2 m i0) ?_
  show own_E p e below _ s₁ (mkF m 0 #[.val (.int i0), .unset, .unset, .unset] [])
  refine own_iloadN X0 hx (hb hby at_0) rfl ?_
  show own_E p e below _ s₁ (mkF m 1 #[.val (.int i0), .unset, .unset, .unset] [(.int i0)])
  refine own_iconst X0 hx (hb hby at_1) (v := (3 : Int32)) (by decide) ?_
  show own_E p e below _ s₁ (mkF m 2 #[.val (.int i0), .unset, .unset, .unset] [(.int (3 : Int32)), (.int i0)])
  refine own_iand X0 hx (hb hby at_2) (z := (i0 &&& (3 : Int32))) rfl ?_
  show own_E p e below _ s₁ (mkF m 3 #[.val (.int i0), .unset, .unset, .unset] [(.int (i0 &&& (3 : Int32)))])
  refine own_istoreN X0 hx (hb hby at_3) (l' := #[.val (.int i0), .val (.int (i0 &&& (3 : Int32))), .unset, .unset]) rfl ?_
  show own_E p e below _ s₁ (mkF m 4 #[.val (.int i0), .val (.int (i0 &&& (3 : Int32))), .unset, .unset] [])
  refine own_iloadN X0 hx (hb hby at_4) rfl ?_
  show own_E p e below _ s₁ (mkF m 5 #[.val (.int i0), .val (.int (i0 &&& (3 : Int32))), .unset, .unset] [(.int (i0 &&& (3 : Int32)))])
  by_cases h0c : (i0 &&& (3 : Int32)) = 0
  · skip
    refine own_ifNo X0 hx (hb hby at_5) (Jvm.Free.XT.i0_ne_f h0c) ?_
    show own_E p e below _ s₁ (mkF m 8 #[.val (.int i0), .val (.int (i0 &&& (3 : Int32))), .unset, .unset] [])
    obtain ⟨T3, X3, e3, st3⟩ := getS2 X0 hx hZ hown (host := "") (Or.inl (hw _ (List.mem_of_getElem? (i := 0) rfl))) Via.refl e0 S0 (g := (mkF m 8 #[.val (.int i0), .val (.int (i0 &&& (3 : Int32))), .unset, .unset] [])) rfl (hb hby at_8)
    refine own_go st3 ?_
    show own_E p e below _ T3 (mkF m 11 #[.val (.int i0), .val (.int (i0 &&& (3 : Int32))), .unset, .unset] [(.ref wc)])
    refine own_astoreN X3 hx (hb hby at_11) rfl (l' := #[.val (.int i0), .val (.int (i0 &&& (3 : Int32))), .val (.ref wc), .unset]) rfl ?_
    show own_E p e below _ T3 (mkF m 12 #[.val (.int i0), .val (.int (i0 &&& (3 : Int32))), .val (.ref wc), .unset] [])
    refine own_iconst X3 hx (hb hby at_12) (v := (1 : Int32)) (by decide) ?_
    show own_E p e below _ T3 (mkF m 13 #[.val (.int i0), .val (.int (i0 &&& (3 : Int32))), .val (.ref wc), .unset] [(.int (1 : Int32))])
    refine own_istoreN X3 hx (hb hby at_13) (l' := #[.val (.int i0), .val (.int (i0 &&& (3 : Int32))), .val (.ref wc), .val (.int (1 : Int32))]) rfl ?_
    show own_E p e below _ T3 (mkF m 14 #[.val (.int i0), .val (.int (i0 &&& (3 : Int32))), .val (.ref wc), .val (.int (1 : Int32))] [])
    refine own_goto X3 hx (hb hby at_14) 51 (by decide) (by decide) ?_
    show own_E p e below _ T3 (mkF m 51 #[.val (.int i0), .val (.int (i0 &&& (3 : Int32))), .val (.ref wc), .val (.int (1 : Int32))] [])
    refine own_aloadN X3 hx (hb hby at_51) rfl rfl ?_
    show own_E p e below _ T3 (mkF m 52 #[.val (.int i0), .val (.int (i0 &&& (3 : Int32))), .val (.ref wc), .val (.int (1 : Int32))] [(.ref wc)])
    obtain ⟨cq4, kq4, qa4, qb4, qc4⟩ := isOf hZ e3 E0
    obtain ⟨_, _, ⟨T4, L4, k4, n4⟩, -, X4, ⟨Lc4, hQ4, l4, y4, z4⟩, st4⟩ := X3.virtualBack hx (y := (⟨"com/example/slotwright/slotwright/core/Allocation$Status", "holdsSlot", "()Z"⟩ : MethodName)) (z := (⟨"com/example/slotwright/slotwright/core/Allocation$Status", "holdsSlot", "()Z"⟩ : MethodName)) hown (mvT hZ (hw _ (List.mem_of_getElem? (i := 3) rfl))) (mvT hZ (hw _ (List.mem_of_getElem? (i := 4) rfl))) (notFace_of_selects (args := #[]) (mvT hZ (hw _ (List.mem_of_getElem? (i := 6) rfl)))) (mvT hZ (hw _ (List.mem_of_getElem? (i := 6) rfl))) (mvT hZ (hw _ (List.mem_of_getElem? (i := 5) rfl))) (by decide) (backOf (W := 0) (own_rmH l Z a0 hw [] wc wc we h0 n0 Z0 S0 S1) hZ (hw _ (List.mem_of_getElem? (i := 7) rfl)) (hw _ (List.mem_of_getElem? (i := 1) rfl)) (by decide) (by decide)) qa4 qc4 (g := (mkF m 52 #[.val (.int i0), .val (.int (i0 &&& (3 : Int32))), .val (.ref wc), .val (.int (1 : Int32))] [(.ref wc)])) rfl (by rw [hml]; rfl) (Steps.refl _) (argsL := []) (rest := []) (lenOf own_pd0 rfl) rfl (by show 2 * 0 + _ ≤ _; exact Nat.le_of_eq rfl) (hb hby at_52) (fun _ _ => ⟨rfl, e3, Nat.le_of_ble_eq_true rfl, Nat.le_of_ble_eq_true rfl⟩)
    dsimp only [Pt.U, Pt.locs, Pt.cells, Pt.slots] at X4 l4 y4 z4 st4 hQ4
    subst l4 y4 z4
    obtain ⟨rfl, M4, e4⟩ := hQ4
    have N4 := Fr.app N0 M4
    refine own_go (fun _ k => st4.trans k) ?_
    show own_E p e below _ T4 (mkF m 55 #[.val (.int i0), .val (.int (i0 &&& (3 : Int32))), .val (.ref wc), .val (.int (1 : Int32))] [(.int (own_hs wc wc we))])
    refine own_iloadN X4 hx (hb hby at_55) rfl ?_
    show own_E p e below _ T4 (mkF m 56 #[.val (.int i0), .val (.int (i0 &&& (3 : Int32))), .val (.ref wc), .val (.int (1 : Int32))] [(.int (1 : Int32)), (.int (own_hs wc wc we))])
    refine own_icmpNo X4 hx (hb hby at_56) (Jvm.Free.XT.ii_ne_f (by rw [own_hs, if_pos rfl])) ?_
    show own_E p e below _ T4 (mkF m 59 #[.val (.int i0), .val (.int (i0 &&& (3 : Int32))), .val (.ref wc), .val (.int (1 : Int32))] [])
    refine own_iconst X4 hx (hb hby at_59) (v := (1 : Int32)) (by decide) ?_
    show own_E p e below _ T4 (mkF m 60 #[.val (.int i0), .val (.int (i0 &&& (3 : Int32))), .val (.ref wc), .val (.int (1 : Int32))] [(.int (1 : Int32))])
    refine own_goto X4 hx (hb hby at_60) 64 (by decide) (by decide) ?_
    show own_E p e below _ T4 (mkF m 64 #[.val (.int i0), .val (.int (i0 &&& (3 : Int32))), .val (.ref wc), .val (.int (1 : Int32))] [(.int (1 : Int32))])
    refine own_retN X4 hx (t := .boolean) Bd.returns (by simp) hlk (hb hby at_64) (z' := (1 : Int32)) (by decide) (by decide) (by decide) ?_
    rw [e4]
    exact ⟨rfl, N4, rfl⟩
  · skip
    refine own_ifYes X0 hx (hb hby at_5) (Jvm.Free.XT.i0_ne_t h0c) 17 (by decide) (by decide) ?_
    show own_E p e below _ s₁ (mkF m 17 #[.val (.int i0), .val (.int (i0 &&& (3 : Int32))), .unset, .unset] [])
    refine own_iloadN X0 hx (hb hby at_17) rfl ?_
    show own_E p e below _ s₁ (mkF m 18 #[.val (.int i0), .val (.int (i0 &&& (3 : Int32))), .unset, .unset] [(.int (i0 &&& (3 : Int32)))])
    refine own_iconst X0 hx (hb hby at_18) (v := (1 : Int32)) (by decide) ?_
    show own_E p e below _ s₁ (mkF m 19 #[.val (.int i0), .val (.int (i0 &&& (3 : Int32))), .unset, .unset] [(.int (1 : Int32)), (.int (i0 &&& (3 : Int32)))])
    by_cases h1c : (i0 &&& (3 : Int32)) = (1 : Int32)
    · skip
      refine own_icmpNo X0 hx (hb hby at_19) (Jvm.Free.XT.ii_ne_f h1c) ?_
      show own_E p e below _ s₁ (mkF m 22 #[.val (.int i0), .val (.int (i0 &&& (3 : Int32))), .unset, .unset] [])
      obtain ⟨T5, X5, e5, st5⟩ := getS2 X0 hx hZ hown (host := "") (Or.inl (hw _ (List.mem_of_getElem? (i := 15) rfl))) Via.refl e0 S1 (g := (mkF m 22 #[.val (.int i0), .val (.int (i0 &&& (3 : Int32))), .unset, .unset] [])) rfl (hb hby at_22)
      refine own_go st5 ?_
      show own_E p e below _ T5 (mkF m 25 #[.val (.int i0), .val (.int (i0 &&& (3 : Int32))), .unset, .unset] [(.ref we)])
      refine own_astoreN X5 hx (hb hby at_25) rfl (l' := #[.val (.int i0), .val (.int (i0 &&& (3 : Int32))), .val (.ref we), .unset]) rfl ?_
      show own_E p e below _ T5 (mkF m 26 #[.val (.int i0), .val (.int (i0 &&& (3 : Int32))), .val (.ref we), .unset] [])
      refine own_iconst X5 hx (hb hby at_26) (v := (1 : Int32)) (by decide) ?_
      show own_E p e below _ T5 (mkF m 27 #[.val (.int i0), .val (.int (i0 &&& (3 : Int32))), .val (.ref we), .unset] [(.int (1 : Int32))])
      refine own_istoreN X5 hx (hb hby at_27) (l' := #[.val (.int i0), .val (.int (i0 &&& (3 : Int32))), .val (.ref we), .val (.int (1 : Int32))]) rfl ?_
      show own_E p e below _ T5 (mkF m 28 #[.val (.int i0), .val (.int (i0 &&& (3 : Int32))), .val (.ref we), .val (.int (1 : Int32))] [])
      refine own_goto X5 hx (hb hby at_28) 51 (by decide) (by decide) ?_
      show own_E p e below _ T5 (mkF m 51 #[.val (.int i0), .val (.int (i0 &&& (3 : Int32))), .val (.ref we), .val (.int (1 : Int32))] [])
      refine own_aloadN X5 hx (hb hby at_51) rfl rfl ?_
      show own_E p e below _ T5 (mkF m 52 #[.val (.int i0), .val (.int (i0 &&& (3 : Int32))), .val (.ref we), .val (.int (1 : Int32))] [(.ref we)])
      obtain ⟨cq6, kq6, qa6, qb6, qc6⟩ := isOf hZ e5 E1
      obtain ⟨_, _, ⟨T6, L6, k6, n6⟩, -, X6, ⟨Lc6, hQ6, l6, y6, z6⟩, st6⟩ := X5.virtualBack hx (y := (⟨"com/example/slotwright/slotwright/core/Allocation$Status", "holdsSlot", "()Z"⟩ : MethodName)) (z := (⟨"com/example/slotwright/slotwright/core/Allocation$Status", "holdsSlot", "()Z"⟩ : MethodName)) hown (mvT hZ (hw _ (List.mem_of_getElem? (i := 3) rfl))) (mvT hZ (hw _ (List.mem_of_getElem? (i := 4) rfl))) (notFace_of_selects (args := #[]) (mvT hZ (hw _ (List.mem_of_getElem? (i := 6) rfl)))) (mvT hZ (hw _ (List.mem_of_getElem? (i := 6) rfl))) (mvT hZ (hw _ (List.mem_of_getElem? (i := 5) rfl))) (by decide) (backOf (W := 0) (own_rmH l Z a0 hw [] we wc we h0 n0 Z0 S0 S1) hZ (hw _ (List.mem_of_getElem? (i := 7) rfl)) (hw _ (List.mem_of_getElem? (i := 1) rfl)) (by decide) (by decide)) qa6 qc6 (g := (mkF m 52 #[.val (.int i0), .val (.int (i0 &&& (3 : Int32))), .val (.ref we), .val (.int (1 : Int32))] [(.ref we)])) rfl (by rw [hml]; rfl) (Steps.refl _) (argsL := []) (rest := []) (lenOf own_pd0 rfl) rfl (by show 2 * 0 + _ ≤ _; exact Nat.le_of_eq rfl) (hb hby at_52) (fun _ _ => ⟨rfl, e5, Nat.le_of_ble_eq_true rfl, Nat.le_of_ble_eq_true rfl⟩)
      dsimp only [Pt.U, Pt.locs, Pt.cells, Pt.slots] at X6 l6 y6 z6 st6 hQ6
      subst l6 y6 z6
      obtain ⟨rfl, M6, e6⟩ := hQ6
      have N6 := Fr.app N0 M6
      refine own_go (fun _ k => st6.trans k) ?_
      show own_E p e below _ T6 (mkF m 55 #[.val (.int i0), .val (.int (i0 &&& (3 : Int32))), .val (.ref we), .val (.int (1 : Int32))] [(.int (own_hs we wc we))])
      refine own_iloadN X6 hx (hb hby at_55) rfl ?_
      show own_E p e below _ T6 (mkF m 56 #[.val (.int i0), .val (.int (i0 &&& (3 : Int32))), .val (.ref we), .val (.int (1 : Int32))] [(.int (1 : Int32)), (.int (own_hs we wc we))])
      refine own_icmpNo X6 hx (hb hby at_56) (Jvm.Free.XT.ii_ne_f (by unfold own_hs; split <;> simp)) ?_
      show own_E p e below _ T6 (mkF m 59 #[.val (.int i0), .val (.int (i0 &&& (3 : Int32))), .val (.ref we), .val (.int (1 : Int32))] [])
      refine own_iconst X6 hx (hb hby at_59) (v := (1 : Int32)) (by decide) ?_
      show own_E p e below _ T6 (mkF m 60 #[.val (.int i0), .val (.int (i0 &&& (3 : Int32))), .val (.ref we), .val (.int (1 : Int32))] [(.int (1 : Int32))])
      refine own_goto X6 hx (hb hby at_60) 64 (by decide) (by decide) ?_
      show own_E p e below _ T6 (mkF m 64 #[.val (.int i0), .val (.int (i0 &&& (3 : Int32))), .val (.ref we), .val (.int (1 : Int32))] [(.int (1 : Int32))])
      refine own_retN X6 hx (t := .boolean) Bd.returns (by simp) hlk (hb hby at_64) (z' := (1 : Int32)) (by decide) (by decide) (by decide) ?_
      rw [e6]
      exact ⟨rfl, N6, rfl⟩
    · skip
      refine own_icmpYes X0 hx (hb hby at_19) (Jvm.Free.XT.ii_ne_t h1c) 31 (by decide) (by decide) ?_
      show own_E p e below _ s₁ (mkF m 31 #[.val (.int i0), .val (.int (i0 &&& (3 : Int32))), .unset, .unset] [])
      refine own_iloadN X0 hx (hb hby at_31) rfl ?_
      show own_E p e below _ s₁ (mkF m 32 #[.val (.int i0), .val (.int (i0 &&& (3 : Int32))), .unset, .unset] [(.int (i0 &&& (3 : Int32)))])
      refine own_iconst X0 hx (hb hby at_32) (v := (2 : Int32)) (by decide) ?_
      show own_E p e below _ s₁ (mkF m 33 #[.val (.int i0), .val (.int (i0 &&& (3 : Int32))), .unset, .unset] [(.int (2 : Int32)), (.int (i0 &&& (3 : Int32)))])
      by_cases h2c : (i0 &&& (3 : Int32)) = (2 : Int32)
      · skip
        refine own_icmpNo X0 hx (hb hby at_33) (Jvm.Free.XT.ii_ne_f h2c) ?_
        show own_E p e below _ s₁ (mkF m 36 #[.val (.int i0), .val (.int (i0 &&& (3 : Int32))), .unset, .unset] [])
        obtain ⟨T7, X7, e7, st7⟩ := getS2 X0 hx hZ hown (host := "") (Or.inl (hw _ (List.mem_of_getElem? (i := 13) rfl))) Via.refl e0 S2 (g := (mkF m 36 #[.val (.int i0), .val (.int (i0 &&& (3 : Int32))), .unset, .unset] [])) rfl (hb hby at_36)
        refine own_go st7 ?_
        show own_E p e below _ T7 (mkF m 39 #[.val (.int i0), .val (.int (i0 &&& (3 : Int32))), .unset, .unset] [(.ref wn)])
        refine own_astoreN X7 hx (hb hby at_39) rfl (l' := #[.val (.int i0), .val (.int (i0 &&& (3 : Int32))), .val (.ref wn), .unset]) rfl ?_
        show own_E p e below _ T7 (mkF m 40 #[.val (.int i0), .val (.int (i0 &&& (3 : Int32))), .val (.ref wn), .unset] [])
        refine own_iconst X7 hx (hb hby at_40) (v := (0 : Int32)) (by decide) ?_
        show own_E p e below _ T7 (mkF m 41 #[.val (.int i0), .val (.int (i0 &&& (3 : Int32))), .val (.ref wn), .unset] [(.int (0 : Int32))])
        refine own_istoreN X7 hx (hb hby at_41) (l' := #[.val (.int i0), .val (.int (i0 &&& (3 : Int32))), .val (.ref wn), .val (.int (0 : Int32))]) rfl ?_
        show own_E p e below _ T7 (mkF m 42 #[.val (.int i0), .val (.int (i0 &&& (3 : Int32))), .val (.ref wn), .val (.int (0 : Int32))] [])
        refine own_goto X7 hx (hb hby at_42) 51 (by decide) (by decide) ?_
        show own_E p e below _ T7 (mkF m 51 #[.val (.int i0), .val (.int (i0 &&& (3 : Int32))), .val (.ref wn), .val (.int (0 : Int32))] [])
        refine own_aloadN X7 hx (hb hby at_51) rfl rfl ?_
        show own_E p e below _ T7 (mkF m 52 #[.val (.int i0), .val (.int (i0 &&& (3 : Int32))), .val (.ref wn), .val (.int (0 : Int32))] [(.ref wn)])
        obtain ⟨cq8, kq8, qa8, qb8, qc8⟩ := isOf hZ e7 E2
        obtain ⟨_, _, ⟨T8, L8, k8, n8⟩, -, X8, ⟨Lc8, hQ8, l8, y8, z8⟩, st8⟩ := X7.virtualBack hx (y := (⟨"com/example/slotwright/slotwright/core/Allocation$Status", "holdsSlot", "()Z"⟩ : MethodName)) (z := (⟨"com/example/slotwright/slotwright/core/Allocation$Status", "holdsSlot", "()Z"⟩ : MethodName)) hown (mvT hZ (hw _ (List.mem_of_getElem? (i := 3) rfl))) (mvT hZ (hw _ (List.mem_of_getElem? (i := 4) rfl))) (notFace_of_selects (args := #[]) (mvT hZ (hw _ (List.mem_of_getElem? (i := 6) rfl)))) (mvT hZ (hw _ (List.mem_of_getElem? (i := 6) rfl))) (mvT hZ (hw _ (List.mem_of_getElem? (i := 5) rfl))) (by decide) (backOf (W := 0) (own_rmH l Z a0 hw [] wn wc we h0 n0 Z0 S0 S1) hZ (hw _ (List.mem_of_getElem? (i := 7) rfl)) (hw _ (List.mem_of_getElem? (i := 1) rfl)) (by decide) (by decide)) qa8 qc8 (g := (mkF m 52 #[.val (.int i0), .val (.int (i0 &&& (3 : Int32))), .val (.ref wn), .val (.int (0 : Int32))] [(.ref wn)])) rfl (by rw [hml]; rfl) (Steps.refl _) (argsL := []) (rest := []) (lenOf own_pd0 rfl) rfl (by show 2 * 0 + _ ≤ _; exact Nat.le_of_eq rfl) (hb hby at_52) (fun _ _ => ⟨rfl, e7, Nat.le_of_ble_eq_true rfl, Nat.le_of_ble_eq_true rfl⟩)
        dsimp only [Pt.U, Pt.locs, Pt.cells, Pt.slots] at X8 l8 y8 z8 st8 hQ8
        subst l8 y8 z8
        obtain ⟨rfl, M8, e8⟩ := hQ8
        have N8 := Fr.app N0 M8
        refine own_go (fun _ k => st8.trans k) ?_
        show own_E p e below _ T8 (mkF m 55 #[.val (.int i0), .val (.int (i0 &&& (3 : Int32))), .val (.ref wn), .val (.int (0 : Int32))] [(.int (own_hs wn wc we))])
        refine own_iloadN X8 hx (hb hby at_55) rfl ?_
        show own_E p e below _ T8 (mkF m 56 #[.val (.int i0), .val (.int (i0 &&& (3 : Int32))), .val (.ref wn), .val (.int (0 : Int32))] [(.int (0 : Int32)), (.int (own_hs wn wc we))])
        refine own_icmpNo X8 hx (hb hby at_56) (Jvm.Free.XT.ii_ne_f (by rw [own_hs, if_neg d1, if_neg d2])) ?_
        show own_E p e below _ T8 (mkF m 59 #[.val (.int i0), .val (.int (i0 &&& (3 : Int32))), .val (.ref wn), .val (.int (0 : Int32))] [])
        refine own_iconst X8 hx (hb hby at_59) (v := (1 : Int32)) (by decide) ?_
        show own_E p e below _ T8 (mkF m 60 #[.val (.int i0), .val (.int (i0 &&& (3 : Int32))), .val (.ref wn), .val (.int (0 : Int32))] [(.int (1 : Int32))])
        refine own_goto X8 hx (hb hby at_60) 64 (by decide) (by decide) ?_
        show own_E p e below _ T8 (mkF m 64 #[.val (.int i0), .val (.int (i0 &&& (3 : Int32))), .val (.ref wn), .val (.int (0 : Int32))] [(.int (1 : Int32))])
        refine own_retN X8 hx (t := .boolean) Bd.returns (by simp) hlk (hb hby at_64) (z' := (1 : Int32)) (by decide) (by decide) (by decide) ?_
        rw [e8]
        exact ⟨rfl, N8, rfl⟩
      · skip
        refine own_icmpYes X0 hx (hb hby at_33) (Jvm.Free.XT.ii_ne_t h2c) 45 (by decide) (by decide) ?_
        show own_E p e below _ s₁ (mkF m 45 #[.val (.int i0), .val (.int (i0 &&& (3 : Int32))), .unset, .unset] [])
        obtain ⟨T9, X9, e9, st9⟩ := getS2 X0 hx hZ hown (host := "") (Or.inl (hw _ (List.mem_of_getElem? (i := 9) rfl))) Via.refl e0 S3 (g := (mkF m 45 #[.val (.int i0), .val (.int (i0 &&& (3 : Int32))), .unset, .unset] [])) rfl (hb hby at_45)
        refine own_go st9 ?_
        show own_E p e below _ T9 (mkF m 48 #[.val (.int i0), .val (.int (i0 &&& (3 : Int32))), .unset, .unset] [(.ref wx)])
        refine own_astoreN X9 hx (hb hby at_48) rfl (l' := #[.val (.int i0), .val (.int (i0 &&& (3 : Int32))), .val (.ref wx), .unset]) rfl ?_
        show own_E p e below _ T9 (mkF m 49 #[.val (.int i0), .val (.int (i0 &&& (3 : Int32))), .val (.ref wx), .unset] [])
        refine own_iconst X9 hx (hb hby at_49) (v := (0 : Int32)) (by decide) ?_
        show own_E p e below _ T9 (mkF m 50 #[.val (.int i0), .val (.int (i0 &&& (3 : Int32))), .val (.ref wx), .unset] [(.int (0 : Int32))])
        refine own_istoreN X9 hx (hb hby at_50) (l' := #[.val (.int i0), .val (.int (i0 &&& (3 : Int32))), .val (.ref wx), .val (.int (0 : Int32))]) rfl ?_
        show own_E p e below _ T9 (mkF m 51 #[.val (.int i0), .val (.int (i0 &&& (3 : Int32))), .val (.ref wx), .val (.int (0 : Int32))] [])
        refine own_aloadN X9 hx (hb hby at_51) rfl rfl ?_
        show own_E p e below _ T9 (mkF m 52 #[.val (.int i0), .val (.int (i0 &&& (3 : Int32))), .val (.ref wx), .val (.int (0 : Int32))] [(.ref wx)])
        obtain ⟨cq10, kq10, qa10, qb10, qc10⟩ := isOf hZ e9 E3
        obtain ⟨_, _, ⟨T10, L10, k10, n10⟩, -, X10, ⟨Lc10, hQ10, l10, y10, z10⟩, st10⟩ := X9.virtualBack hx (y := (⟨"com/example/slotwright/slotwright/core/Allocation$Status", "holdsSlot", "()Z"⟩ : MethodName)) (z := (⟨"com/example/slotwright/slotwright/core/Allocation$Status", "holdsSlot", "()Z"⟩ : MethodName)) hown (mvT hZ (hw _ (List.mem_of_getElem? (i := 3) rfl))) (mvT hZ (hw _ (List.mem_of_getElem? (i := 4) rfl))) (notFace_of_selects (args := #[]) (mvT hZ (hw _ (List.mem_of_getElem? (i := 6) rfl)))) (mvT hZ (hw _ (List.mem_of_getElem? (i := 6) rfl))) (mvT hZ (hw _ (List.mem_of_getElem? (i := 5) rfl))) (by decide) (backOf (W := 0) (own_rmH l Z a0 hw [] wx wc we h0 n0 Z0 S0 S1) hZ (hw _ (List.mem_of_getElem? (i := 7) rfl)) (hw _ (List.mem_of_getElem? (i := 1) rfl)) (by decide) (by decide)) qa10 qc10 (g := (mkF m 52 #[.val (.int i0), .val (.int (i0 &&& (3 : Int32))), .val (.ref wx), .val (.int (0 : Int32))] [(.ref wx)])) rfl (by rw [hml]; rfl) (Steps.refl _) (argsL := []) (rest := []) (lenOf own_pd0 rfl) rfl (by show 2 * 0 + _ ≤ _; exact Nat.le_of_eq rfl) (hb hby at_52) (fun _ _ => ⟨rfl, e9, Nat.le_of_ble_eq_true rfl, Nat.le_of_ble_eq_true rfl⟩)
        dsimp only [Pt.U, Pt.locs, Pt.cells, Pt.slots] at X10 l10 y10 z10 st10 hQ10
        subst l10 y10 z10
        obtain ⟨rfl, M10, e10⟩ := hQ10
        have N10 := Fr.app N0 M10
        refine own_go (fun _ k => st10.trans k) ?_
        show own_E p e below _ T10 (mkF m 55 #[.val (.int i0), .val (.int (i0 &&& (3 : Int32))), .val (.ref wx), .val (.int (0 : Int32))] [(.int (own_hs wx wc we))])
        refine own_iloadN X10 hx (hb hby at_55) rfl ?_
        show own_E p e below _ T10 (mkF m 56 #[.val (.int i0), .val (.int (i0 &&& (3 : Int32))), .val (.ref wx), .val (.int (0 : Int32))] [(.int (0 : Int32)), (.int (own_hs wx wc we))])
        refine own_icmpNo X10 hx (hb hby at_56) (Jvm.Free.XT.ii_ne_f (by rw [own_hs, if_neg d3, if_neg d4])) ?_
        show own_E p e below _ T10 (mkF m 59 #[.val (.int i0), .val (.int (i0 &&& (3 : Int32))), .val (.ref wx), .val (.int (0 : Int32))] [])
        refine own_iconst X10 hx (hb hby at_59) (v := (1 : Int32)) (by decide) ?_
        show own_E p e below _ T10 (mkF m 60 #[.val (.int i0), .val (.int (i0 &&& (3 : Int32))), .val (.ref wx), .val (.int (0 : Int32))] [(.int (1 : Int32))])
        refine own_goto X10 hx (hb hby at_60) 64 (by decide) (by decide) ?_
        show own_E p e below _ T10 (mkF m 64 #[.val (.int i0), .val (.int (i0 &&& (3 : Int32))), .val (.ref wx), .val (.int (0 : Int32))] [(.int (1 : Int32))])
        refine own_retN X10 hx (t := .boolean) Bd.returns (by simp) hlk (hb hby at_64) (z' := (1 : Int32)) (by decide) (by decide) (by decide) ?_
        rw [e10]
        exact ⟨rfl, N10, rfl⟩

theorem own_fldI {args : Array Value} {s : State} {t : Term} {C n d : String} {a : Addr} {v : Int32} (ht : t.eval args s none [] s = some (.ref a)) (h : (Jvm.Cond.eq (.field t C n d) (.int v)).value args s none s [] = some true) : Fld s s.heap a C n d (.int v) := by
  obtain ⟨x, y, e1, e2, k1, k2⟩ := cmp_v (Or.inl h)
  have e2' : y = .int v := (Option.some.inj ((Term.int_eval v).symm.trans e2)).symm
  subst e2'
  obtain ⟨z, rfl⟩ := k2
  have q := gotT (Cond.eq_ints e1 (Term.int_eval v)) h
  subst q
  exact Fld.start (by rw [← fld_at ht]; exact e1)
set_option maxRecDepth 65536 in
set_option maxHeartbeats 40000000 in
theorem comes_1 {Post : Tables → Env → Array Value → State → Outcome → State → Prop} (hpost : ∀ tb e args s v u, (limb_1_1.after args s (.returned v) u = true ∧ limb_1_2.after args s (.returned v) u = true ∧ True) → FrameEnd s (.returned v) u (Jvm.fieldLocs frame_1_writes args s ++ Jvm.arrayLocs frame_1_arrays args s ++ Jvm.staticLocs frame_1_statics s) 0 0 → Post tb e args s (.returned v) u) :
    ArmFor flags0 classFile x code maxLocals ret World_1 tables_1 room_1 Calls_1 rest_1 Pre_1 Post := by
  intro l hfl _ _ p e ha hc hk s m args below hf hA hF happ hP
  obtain ⟨hcalls, hrest, hpre⟩ := hP
  obtain ⟨-, -, -, hnamed, -, -, -, hat⟩ := (Spec.applies_iff hf).mp happ
  obtain ⟨hg, hn⟩ := and_e (Cond.before_iff.mp (show (Jvm.Cond.and given_1 narrow_1).before args s = true from hpre))
  obtain ⟨hg1, hg2⟩ := and_e hg
  obtain ⟨w0, rfl⟩ : ∃ w0 : Value, args = #[w0] := by
    have hs : args.size = 1 := by simpa [Cond.value, given_1] using hg1
    obtain ⟨L⟩ := args
    match L, hs with
    | [w0], _ => exact ⟨w0, rfl⟩
  have hw := fun d (hd : d ∈ tables_1) => atoms_spec (ws := Jvm.Cond.code x code maxLocals ret :: tables_1) hat d (List.mem_cons_of_mem _ hd)
  have hfit : Fit s := fun {y c} hc i hi => by
    obtain ⟨ha, rfl⟩ := Array.getElem?_eq_some_iff.mp hc
    have q := List.all_eq_true.mp ((Array.all_eq_true_iff_forall_mem.mp hF) _ (Array.getElem_mem ha)) i (List.mem_range.mpr hi)
    simpa [Array.getElem?_eq_getElem hi] using q
  obtain ⟨i0, e0⟩ := is_v hg2
  obtain rfl : w0 = (.int i0) := Option.some.inj e0
  obtain ⟨q0, r0⟩ := and_e hn
  obtain ⟨q1, r1⟩ := and_e r0
  obtain ⟨q2, r2⟩ := and_e r1
  obtain ⟨q3, r3⟩ := and_e r2
  obtain ⟨q4, r4⟩ := and_e r3
  obtain ⟨q5, r5⟩ := and_e r4
  obtain ⟨q6, r6⟩ := and_e r5
  have q7 := r6
  obtain ⟨wc, e_wc⟩ := exa_v q0
  have E_wc := Exa.start e_wc q0
  have S_wc : Sta s s.heap "com/example/slotwright/slotwright/core/Allocation$Status" "CONTROLLED" "Lcom/example/slotwright/slotwright/core/Allocation$Status;" (.ref wc) := Sta.start e_wc (Or.inr ⟨(hw _ (List.mem_of_getElem? (i := 1) rfl)), (hw _ (List.mem_of_getElem? (i := 2) rfl))⟩)
  obtain ⟨wx, e_wx⟩ := exa_v q1
  have E_wx := Exa.start e_wx q1
  have S_wx : Sta s s.heap "com/example/slotwright/slotwright/core/Allocation$Status" "CANCELLED" "Lcom/example/slotwright/slotwright/core/Allocation$Status;" (.ref wx) := Sta.start e_wx (Or.inr ⟨(hw _ (List.mem_of_getElem? (i := 1) rfl)), (hw _ (List.mem_of_getElem? (i := 10) rfl))⟩)
  obtain ⟨we, e_we⟩ := exa_v q4
  have E_we := Exa.start e_we q4
  have S_we : Sta s s.heap "com/example/slotwright/slotwright/core/Allocation$Status" "EXEMPT" "Lcom/example/slotwright/slotwright/core/Allocation$Status;" (.ref we) := Sta.start e_we (Or.inr ⟨(hw _ (List.mem_of_getElem? (i := 1) rfl)), (hw _ (List.mem_of_getElem? (i := 12) rfl))⟩)
  obtain ⟨wn, e_wn⟩ := exa_v q6
  have E_wn := Exa.start e_wn q6
  have S_wn : Sta s s.heap "com/example/slotwright/slotwright/core/Allocation$Status" "NOT_CONTROLLED" "Lcom/example/slotwright/slotwright/core/Allocation$Status;" (.ref wn) := Sta.start e_wn (Or.inr ⟨(hw _ (List.mem_of_getElem? (i := 1) rfl)), (hw _ (List.mem_of_getElem? (i := 14) rfl))⟩)
  have F_wx := own_fldI (v := 3) e_wx q2
  have F_wc := own_fldI (v := 0) e_wc q3
  have F_we := own_fldI (v := 1) e_we q5
  have F_wn := own_fldI (v := 2) e_wn q7
  obtain ⟨n, o, h1, h2, h3, _, L, rfl, ⟨rfl, N, _⟩, hq⟩ := own_rm0 l s _ hw tables_1 i0 wc we wn wx s.heap s.heap.size (Nat.le_refl _) S_wc E_wc S_we E_we S_wn E_wn S_wx E_wx (F_wn.ne F_wc (by decide)) (F_wn.ne F_we (by decide)) (F_wx.ne F_wc (by decide)) (F_wx.ne F_we (by decide)) p e ha hc hk s m _ below hf ((Spec.applies_iff_loose hf).mp happ).1 ⟨rfl, State.Warmed39.refl s, rfl⟩ trivial
  refine ⟨n, _, h1, h2, h3, hpost _ _ _ _ _ _ ⟨Cond.after_iff.mpr rfl, Cond.after_iff.mpr (eq_i res_at (Term.int_eval (1)) rfl), trivial⟩ ⟨hq.1, hq.2.1, (hq.2.2.sift fun y hy => Or.inr (N y hy)).mono (by decide) (by decide)⟩⟩
theorem main_1_1 : Claimed_1_1 := comes_1 fun _ _ _ _ _ _ h hF => ⟨h.1, hF⟩
theorem main_1_2 : Claimed_1_2 := comes_1 fun _ _ _ _ _ _ h hF => ⟨h.2.1, hF⟩
end Jvm.Pilot.@@N@@
namespace Jvm.Pilot.@@N@@
open Jvm Jvm.ClassFile Sem Op Lib Jvm.Free Jvm.Stand Jvm.Pilot.@@N@@.Jvm.D
/-! MADE BY PROGRAM (witnessworld.py) out of the Statement's table words and the real class files: 12 classes; the members and pool entries that the words name. The judged class is class 1, her method 1. -/
namespace start1
open Jvm.ClassFile
def u (s : String) : CpInfo := .utf8 (stringToUtf16 s)
/-- a pool by its gaps: so many unusable entries, then the entry; so many at the end -/
def gap : Nat → List CpInfo → List CpInfo
  | 0, r => r
  | n + 1, r => .unusable :: gap n r
def poolList (es : List (Nat × CpInfo)) (last : Nat) : List CpInfo := es.foldr (fun e r => gap e.1 (e.2 :: r)) (gap last [])
def pool (es : List (Nat × CpInfo)) (last : Nat) : Array CpInfo := ⟨poolList es last⟩
def fileOf (pool : Array CpInfo) (this : Nat) (attrs : Array Attribute := #[]) (ms : Array MethodInfo := #[]) (fl : Nat := 33) (sup : Nat := 0) (ifs : Array Nat := #[]) (fds : Array FieldInfo := #[]) : ClassFile where
  minorVersion := 0
  majorVersion := 65
  constantPool := pool
  accessFlags := fl
  thisClass := this
  superClass := sup
  interfaces := ifs
  fields := fds
  methods := ms
  attributes := attrs
def plain (name : String) (sup : Option ClassId) : Class where
  name := name
  kind := .ordinary
  loader := none
  accessFlags := 33
  super := sup
  interfaces := #[]
  cf := none
  fields := #[]
  methods := #[]
  instanceTypes := #[]
  staticTypes := #[]
  resolved := #[]
  callSites := []
  init := .initialized
  statics := none
  mirror := none

def pool0 : Array CpInfo := pool [(5, u "<init>"), (0, u "()V"), (1, .class_ 10), (1, u "java/lang/Object")] 113

def k0m0 : Method := { name := "<init>", desc := "()V", sig := { parameters := [], returnType := none }, accessFlags := 1, code := none }
/-- java/lang/Object -/
def k0 : Class := { plain "java/lang/Object" none with
  accessFlags := 33
  interfaces := #[]
  cf := some (fileOf pool0 8 #[] #[{ accessFlags := 1, nameIndex := 5, descriptorIndex := 6, attributes := #[] }] 33 0 #[] #[])
  fields := #[]
  methods := #[k0m0]
  instanceTypes := #[]
  staticTypes := #[]
  resolved := Array.replicate 124 none
  statics := none }

def pool1 : Array CpInfo := pool [(2, .class_ 4), (1, u "java/lang/Object"), (0, u "<init>"), (0, u "()V"), (0, .fieldref 8 9), (0, .class_ 10), (0, .nameAndType 11 12), (0, u "com/example/slotwright/slotwright/core/Allocation$Status"), (0, u "CONTROLLED"), (0, u "Lcom/example/slotwright/slotwright/core/Allocation$Status;"), (0, .fieldref 8 14), (0, .nameAndType 15 12), (0, u "EXEMPT"), (0, .fieldref 8 17), (0, .nameAndType 18 12), (0, u "NOT_CONTROLLED"), (0, .fieldref 8 20), (0, .nameAndType 21 12), (0, u "CANCELLED"), (0, .methodref 8 23), (0, .nameAndType 24 25), (0, u "holdsSlot"), (0, u "()Z"), (0, .class_ 27), (0, u "com/example/slotwright/slotwright/core/StatusHoldsSlotPinLaw"), (2, u "law"), (0, u "(I)Z")] 7

def k1m0 : Method := { name := "<init>", desc := "()V", sig := { parameters := [], returnType := none }, accessFlags := 1, code := none }
def k1c1 : Code := { maxStack := 2, maxLocals := 4, code := code, exceptionTable := #[], attributes := #[] }
def k1m1 : Method := { name := "law", desc := "(I)Z", sig := { parameters := [.int], returnType := some .boolean }, accessFlags := 9, code := some k1c1 }
/-- com/example/slotwright/slotwright/core/StatusHoldsSlotPinLaw -/
def k1 : Class := { plain "com/example/slotwright/slotwright/core/StatusHoldsSlotPinLaw" (some 0) with
  accessFlags := 49
  interfaces := #[]
  cf := some (fileOf pool1 26 #[] #[{ accessFlags := 1, nameIndex := 5, descriptorIndex := 6, attributes := #[] }, { accessFlags := 9, nameIndex := 30, descriptorIndex := 31, attributes := #[] }] 49 2 #[] #[])
  fields := #[]
  methods := #[k1m0, k1m1]
  instanceTypes := #[]
  staticTypes := #[]
  resolved := Array.replicate 39 none
  statics := none }

def pool2 : Array CpInfo := pool [(1, .class_ 2), (0, u "java/lang/constant/Constable"), (0, .class_ 4), (0, u "java/lang/Object")] 6

/-- java/lang/constant/Constable -/
def k2 : Class := { plain "java/lang/constant/Constable" (some 0) with
  accessFlags := 1537
  interfaces := #[]
  cf := some (fileOf pool2 1 #[] #[] 1537 3 #[] #[])
  fields := #[]
  methods := #[]
  instanceTypes := #[]
  staticTypes := #[]
  resolved := Array.replicate 11 none
  statics := none }

def pool3 : Array CpInfo := pool [(1, .class_ 2), (0, u "java/lang/Comparable"), (0, .class_ 4), (0, u "java/lang/Object")] 7

/-- java/lang/Comparable -/
def k3 : Class := { plain "java/lang/Comparable" (some 0) with
  accessFlags := 1537
  interfaces := #[]
  cf := some (fileOf pool3 1 #[] #[] 1537 3 #[] #[])
  fields := #[]
  methods := #[]
  instanceTypes := #[]
  staticTypes := #[]
  resolved := Array.replicate 12 none
  statics := none }

def pool4 : Array CpInfo := pool [(1, .class_ 2), (0, u "java/io/Serializable"), (0, .class_ 4), (0, u "java/lang/Object")] 2

/-- java/io/Serializable -/
def k4 : Class := { plain "java/io/Serializable" (some 0) with
  accessFlags := 1537
  interfaces := #[]
  cf := some (fileOf pool4 1 #[] #[] 1537 3 #[] #[])
  fields := #[]
  methods := #[]
  instanceTypes := #[]
  staticTypes := #[]
  resolved := Array.replicate 7 none
  statics := none }

def pool5 : Array CpInfo := pool [(2, .class_ 4), (1, u "java/lang/Enum"), (0, u "name"), (0, u "Ljava/lang/String;"), (2, u "ordinal"), (0, u "I"), (1, .class_ 14), (1, u "java/lang/Object"), (4, u "hash"), (86, .class_ 108), (1, u "java/lang/Enum$EnumDesc"), (2, .class_ 112), (0, u "java/lang/constant/Constable"), (0, .class_ 114), (0, u "java/lang/Comparable"), (0, .class_ 116), (0, u "java/io/Serializable")] 87

/-- java/lang/Enum -/
def k5 : Class := { plain "java/lang/Enum" (some 0) with
  accessFlags := 1057
  interfaces := #[2, 3, 4]
  cf := some (fileOf pool5 2 #[.nestMembers #[106]] #[] 1057 12 #[111, 113, 115] #[{ accessFlags := 18, nameIndex := 5, descriptorIndex := 6, attributes := #[] }, { accessFlags := 18, nameIndex := 9, descriptorIndex := 10, attributes := #[] }, { accessFlags := 2, nameIndex := 19, descriptorIndex := 10, attributes := #[] }])
  fields := #[{ name := "name", type := (.object "java/lang/String"), accessFlags := 18, slot := 0, constantValue := 0 }, { name := "ordinal", type := .int, accessFlags := 18, slot := 1, constantValue := 0 }, { name := "hash", type := .int, accessFlags := 2, slot := 2, constantValue := 0 }]
  methods := #[]
  instanceTypes := #[(.object "java/lang/String"), .int, .int]
  staticTypes := #[]
  resolved := Array.replicate 204 none
  statics := none }

def pool6 : Array CpInfo := pool [(1, .class_ 2), (0, u "com/example/slotwright/slotwright/core/Allocation$Status"), (0, .fieldref 1 4), (0, .nameAndType 5 6), (0, u "CONTROLLED"), (0, u "Lcom/example/slotwright/slotwright/core/Allocation$Status;"), (0, .fieldref 1 8), (0, .nameAndType 9 6), (0, u "EXEMPT"), (2, u "NOT_CONTROLLED"), (2, u "CANCELLED"), (2, u "$VALUES"), (0, u "[Lcom/example/slotwright/slotwright/core/Allocation$Status;"), (6, .class_ 28), (1, u "java/lang/Enum"), (38, u "holdsSlot"), (0, u "()Z"), (6, .class_ 76), (0, u "com/example/slotwright/slotwright/core/Allocation")] 2

def k6c0 : Code := { maxStack := 2, maxLocals := 1, code := prog_16_method_6_code, exceptionTable := #[], attributes := #[] }
def k6m0 : Method := { name := "holdsSlot", desc := "()Z", sig := { parameters := [], returnType := some .boolean }, accessFlags := 1, code := some k6c0 }
/-- com/example/slotwright/slotwright/core/Allocation$Status -/
def k6 : Class := { plain "com/example/slotwright/slotwright/core/Allocation$Status" (some 5) with
  accessFlags := 16433
  interfaces := #[]
  cf := some (fileOf pool6 1 #[.nestHost 75] #[{ accessFlags := 1, nameIndex := 67, descriptorIndex := 68, attributes := #[] }] 16433 26 #[] #[{ accessFlags := 16409, nameIndex := 5, descriptorIndex := 6, attributes := #[] }, { accessFlags := 16409, nameIndex := 9, descriptorIndex := 6, attributes := #[] }, { accessFlags := 16409, nameIndex := 12, descriptorIndex := 6, attributes := #[] }, { accessFlags := 16409, nameIndex := 15, descriptorIndex := 6, attributes := #[] }, { accessFlags := 4122, nameIndex := 18, descriptorIndex := 19, attributes := #[] }])
  fields := #[{ name := "CONTROLLED", type := (.object "com/example/slotwright/slotwright/core/Allocation$Status"), accessFlags := 16409, slot := 0, constantValue := 0 }, { name := "EXEMPT", type := (.object "com/example/slotwright/slotwright/core/Allocation$Status"), accessFlags := 16409, slot := 1, constantValue := 0 }, { name := "NOT_CONTROLLED", type := (.object "com/example/slotwright/slotwright/core/Allocation$Status"), accessFlags := 16409, slot := 2, constantValue := 0 }, { name := "CANCELLED", type := (.object "com/example/slotwright/slotwright/core/Allocation$Status"), accessFlags := 16409, slot := 3, constantValue := 0 }, { name := "$VALUES", type := (.array (.object "com/example/slotwright/slotwright/core/Allocation$Status")), accessFlags := 4122, slot := 4, constantValue := 0 }]
  methods := #[k6m0]
  instanceTypes := #[(.object "java/lang/String"), .int, .int]
  staticTypes := #[(.object "com/example/slotwright/slotwright/core/Allocation$Status"), (.object "com/example/slotwright/slotwright/core/Allocation$Status"), (.object "com/example/slotwright/slotwright/core/Allocation$Status"), (.object "com/example/slotwright/slotwright/core/Allocation$Status"), (.array (.object "com/example/slotwright/slotwright/core/Allocation$Status"))]
  resolved := Array.replicate 79 none
  statics := some 0 }

def pool7 : Array CpInfo := pool [(1, u "java/lang/Cloneable"), (0, .class_ 1), (0, u "java/lang/Object"), (0, .class_ 3)] 3

/-- java/lang/Cloneable -/
def k7 : Class := { plain "java/lang/Cloneable" (some 0) with
  accessFlags := 1537
  interfaces := #[]
  cf := some (fileOf pool7 2 #[] #[] 1537 4 #[] #[])
  fields := #[]
  methods := #[]
  instanceTypes := #[]
  staticTypes := #[]
  resolved := Array.replicate 8 none
  statics := none }

/-- the primitive byte -/
def k8 : Class := { plain "byte" none with kind := .primitive 'B', accessFlags := 0x411 }
/-- [B -/
def k9 : Class := { plain "[B" (some 0) with kind := .array 8 .byte, interfaces := #[7, 4], accessFlags := 1041 }

/-- the primitive int -/
def k10 : Class := { plain "int" none with kind := .primitive 'I', accessFlags := 0x411 }
/-- [I -/
def k11 : Class := { plain "[I" (some 0) with kind := .array 10 .int, interfaces := #[7, 4], accessFlags := 1041 }

def heap : Heap := #[{ cls := 6, slots := #[.ref 1, .ref 2, .ref 3, .ref 4, .null], vm := .statics 6 },
  { cls := 6, slots := #[.null, .int 0, .int 0], vm := .none },
  { cls := 6, slots := #[.null, .int 1, .int 0], vm := .none },
  { cls := 6, slots := #[.null, .int 2, .int 0], vm := .none },
  { cls := 6, slots := #[.null, .int 3, .int 0], vm := .none }]
def classes : Array Class := #[k0, k1, k2, k3, k4, k5, k6, k7, k8, k9, k10, k11]
def interned : List (Array UInt16 × Addr) := []
def slotsUsed : Nat := 17
def theMethod : MethodId := ⟨1, 1⟩
def args0 : Array Value := #[.int 5]
def aboutOver (below : List Frame) : State where
  vm := { classes := classes, interned := interned.toArray }
  heap := heap
  slotsUsed := slotsUsed
  threads := #[{ frames := .invoking theMethod args0 :: below }]
def below0 : List Frame := [.native { method := ⟨0, 0⟩, args := #[] }]
def about1 : State := aboutOver below0
def p0 : Program := .bare "" "" ""
def e0 : Env := launch0.env 0 0 0
theorem w_frames : about1.frames = Frame.invoking theMethod args0 :: below0 := rfl
set_option maxRecDepth 65536 in
theorem w_args : argsFit about1.vm theMethod args0 = true := by decide +kernel
set_option maxRecDepth 65536 in
theorem w_heap : heapFits about1 = true := by decide +kernel
set_option maxRecDepth 65536 in
theorem w_runnable : about1.curStatus? = some .runnable := by decide +kernel
set_option maxRecDepth 65536 in
theorem w_alone : about1.alone = true := by decide +kernel
set_option maxRecDepth 65536 in
theorem w_named : about1.methodNamed? x = some theMethod := by decide +kernel
set_option maxRecDepth 65536 in
theorem w_hears : about1.hears theMethod below0 = true := by decide +kernel
set_option maxRecDepth 65536 in
theorem w_ripe : about1.ripe theMethod args0 below0 = true := by decide +kernel
theorem w_running : about1.status = .running := rfl
set_option maxRecDepth 65536 in
theorem w_room : about1.hasRoom e0.platform room_1 = true :=
  launch0.hasRoom_least _ room_1 (by decide +kernel) (by decide +kernel) (by decide +kernel) (by decide +kernel) (by decide +kernel) (by decide +kernel)
theorem allAtoms_all (ts : List Jvm.Cond) (a : Array Jvm.Value) (st : Jvm.State) : (allAtoms ts).before a st = ts.all (fun c => c.before a st) := by
  induction ts with
  | nil => rfl
  | cons c t ih =>
    show (Jvm.Cond.and c (allAtoms t)).before a st = _
    rw [Jvm.Cond.before_and, ih, List.all_cons]
def words1 : List Jvm.Cond := Jvm.Cond.code x code maxLocals ret :: tables_1
/-- a 'code' word, met by the world's own term for the bytes: nothing is compared byte by byte -/
theorem code_word {y : MethodName} {bytes : ByteArray} {mx : Nat} {rt : Option FieldType} {a : Array Value} {s : State} {m : MethodId} {meth : Method} {c : Code} (h1 : s.methodNamed? y = some m) (h2 : s.vm.method? m = some meth) (h3 : meth.code = some c) (h4 : c.code = bytes)
    (h5 : (c.maxLocals == mx && c.exceptionTable.isEmpty && decide (c.maxStack ≤ mostOperands) && decide (meth.sig.returnType = rt) && !meth.locks && decide (parseMethodDescriptor y.desc = some meth.sig)) = true) : (Jvm.Cond.code y bytes mx rt).before a s = true := by
  simp only [Bool.and_eq_true, beq_iff_eq, Bool.not_eq_true', decide_eq_true_eq] at h5
  obtain ⟨⟨⟨⟨⟨g1, g2⟩, g3⟩, g4⟩, g5⟩, g6⟩ := h5
  simp [Cond.before, Cond.holds, Cond.value, h1, h2, h3, h4, g1, g2, g3, g4, g5, g6]
def isCode : Jvm.Cond → Bool
  | .code _ _ _ _ => true
  | _ => false
theorem all_split {L : List Jvm.Cond} {P : Jvm.Cond → Bool} (h1 : L.all (fun c => isCode c || P c) = true) (h2 : ∀ c ∈ L.filter isCode, P c = true) : L.all P = true := by
  refine List.all_eq_true.mpr fun c hc => ?_
  have h := List.all_eq_true.mp h1 c hc
  rcases Bool.eq_false_or_eq_true (isCode c) with hi | hi
  · exact h2 c (List.mem_filter.mpr ⟨hc, hi⟩)
  · simpa [hi] using h
set_option maxRecDepth 65536 in
theorem w_c0 : (Jvm.Cond.code x code maxLocals ret).before args0 about1 = true := code_word (m := ⟨1, 1⟩) (meth := k1m1) (c := k1c1) (by decide +kernel) rfl rfl rfl (by decide +kernel)
set_option maxRecDepth 65536 in
theorem w_c1 : (Jvm.Cond.code ({ cls := "com/example/slotwright/slotwright/core/Allocation$Status", name := "holdsSlot", desc := "()Z" } : Jvm.MethodName) prog_16_method_6_code (1 : Nat) (Option.some Jvm.ClassFile.FieldType.boolean)).before args0 about1 = true := code_word (m := ⟨6, 0⟩) (meth := k6m0) (c := k6c0) (by decide +kernel) rfl rfl rfl (by decide +kernel)
def codes1 : List Jvm.Cond := [Jvm.Cond.code x code maxLocals ret, Jvm.Cond.code ({ cls := "com/example/slotwright/slotwright/core/Allocation$Status", name := "holdsSlot", desc := "()Z" } : Jvm.MethodName) prog_16_method_6_code (1 : Nat) (Option.some Jvm.ClassFile.FieldType.boolean)]
set_option maxRecDepth 65536 in
theorem codes_eq : words1.filter isCode = codes1 := rfl
theorem w_codes : ∀ c ∈ words1.filter isCode, c.before args0 about1 = true := by
  rw [codes_eq]
  intro c hc
  simp only [codes1, List.mem_cons, List.not_mem_nil, or_false] at hc
  rcases hc with rfl | rfl
  · exact w_c0
  · exact w_c1
set_option maxRecDepth 65536 in
theorem w_t1 : words1.all (fun c => isCode c || c.before args0 about1) = true := by decide +kernel
theorem w_tables : (allAtoms (Jvm.Cond.code x code maxLocals ret :: tables_1)).before args0 about1 = true := by
  rw [allAtoms_all]
  show words1.all (fun c => c.before args0 about1) = true
  refine all_split ?_ w_codes
  rw [w_t1]
set_option maxRecDepth 65536 in
theorem w_case : (Jvm.Cond.and given_1 narrow_1).before args0 about1 = true := by decide +kernel
theorem w_applies : (headSpec (Jvm.Cond.code x code maxLocals ret :: tables_1) room_1).applies x e0.platform about1 = true :=
  (Spec.applies_iff w_frames).mpr ⟨w_running, w_runnable, w_alone, w_named, w_hears, w_ripe, w_room, w_tables⟩
theorem atStart : AtStart classFile x code maxLocals ret World_1 tables_1 room_1 Calls_1 rest_1 Pre_1 launch0 p0 e0 about1 theMethod args0 below0 :=
  ⟨lists_1, trivial, launch0.admits_env _ _ _, launch0.least_env, fairChoices_fair.cas, fairChoices_fair.clock, w_frames, w_args, w_heap, w_applies, trivial, trivial, w_case⟩
end start1
theorem witness_1 : WitnessClaimed_1 := ⟨start1.p0, start1.e0, start1.about1, start1.theMethod, start1.args0, start1.below0, start1.atStart⟩
end Jvm.Pilot.@@N@@
