import JvmDerived
import JvmDerived.Pilot.@@N@@Statement
import JvmDerived.Pilot.@@N@@Code
set_option linter.unusedVariables false
set_option linter.unusedSimpArgs false
namespace Jvm.Pilot.@@N@@
open Jvm Jvm.ClassFile Sem Op Lib Jvm.Free Jvm.Stand Jvm.LawKit Jvm.RoadKit Bundle Jvm.Pilot.@@N@@.Jvm.D
section OwnWalk
variable {p : Program} {l : Launch} {e : Env} {R : Room} {s : State} {m : MethodId} {args : Array Value} {below : List Frame} {meth : Method} {c : Code} {T T' : State} {locs : List Loc} {cells slots : Nat} {P : Outcome → State → Prop} {pc : Nat} {ls : Array Slot} {st : List Value}
/-- from the frame g at T the method ends, and P holds of its end -/
def own_E (p : Program) (e : Env) (below : List Frame) (P : Outcome → State → Prop) (T : State) (g : JFrame) : Prop := ∃ s₂ o, Steps p.tables e below (T.setTop g) s₂ ∧ s₂.status = .running ∧ Ended s₂ below o ∧ P o s₂
theorem own_go {g g' : JFrame} (h : ∀ t, Steps p.tables e below (T'.setTop g') t → Steps p.tables e below (T.setTop g) t) (k : own_E p e below P T' g') : own_E p e below P T g := by
  obtain ⟨s₂, o, h1, h2⟩ := k; exact ⟨s₂, o, h _ h1, h2⟩
theorem own_cast {g g' : JFrame} (q : g = g') (k : own_E p e below P T g') : own_E p e below P T g := q ▸ k
/-- what a contract's end says -/
def own_P (s : State) (Q : Option Value → Heap → List Loc → Prop) (cm sm : Nat) (o : Outcome) (t : State) : Prop := ∃ v L, o = .returned v ∧ Q v t.heap L ∧ FrameEnd s o t L cm sm
theorem own_iloadN (X : Stand p l e R s m args below meth c T locs cells slots) (hx : p.tables.exec = Jvm.exec) {k : Fin 4} {v : Int32} (hd : decode c.code pc = .ok (.iload_n k, 1)) (hl : ls[k.val]? = some (.val (.int v))) (h : own_E p e below P T (mkF m (pc + 1) ls (.int v :: st))) : own_E p e below P T (mkF m pc ls (st)) := own_go (fun _ k => XS.iloadN X.here hx rfl hd hl k) h
theorem own_iload (X : Stand p l e R s m args below meth c T locs cells slots) (hx : p.tables.exec = Jvm.exec) {k : Nat} {v : Int32} (hd : decode c.code pc = .ok (.iload k, 2)) (hl : ls[k]? = some (.val (.int v))) (h : own_E p e below P T (mkF m (pc + 2) ls (.int v :: st))) : own_E p e below P T (mkF m pc ls (st)) := own_go (fun _ k => XS.iload X.here hx rfl hd hl k) h
theorem own_lloadN (X : Stand p l e R s m args below meth c T locs cells slots) (hx : p.tables.exec = Jvm.exec) {k : Fin 4} {v : Int64} (hd : decode c.code pc = .ok (.lload_n k, 1)) (hl : ls[k.val]? = some (.val (.long v))) (h : own_E p e below P T (mkF m (pc + 1) ls (.long v :: st))) : own_E p e below P T (mkF m pc ls (st)) := own_go (fun _ k => XT.lloadN X.here hx rfl hd hl k) h
theorem own_lload (X : Stand p l e R s m args below meth c T locs cells slots) (hx : p.tables.exec = Jvm.exec) {k : Nat} {v : Int64} (hd : decode c.code pc = .ok (.lload k, 2)) (hl : ls[k]? = some (.val (.long v))) (h : own_E p e below P T (mkF m (pc + 2) ls (.long v :: st))) : own_E p e below P T (mkF m pc ls (st)) := own_go (fun _ k => XT.lload X.here hx rfl hd hl k) h
theorem own_aloadN (X : Stand p l e R s m args below meth c T locs cells slots) (hx : p.tables.exec = Jvm.exec) {k : Fin 4} {v : Value} (hd : decode c.code pc = .ok (.aload_n k, 1)) (hl : ls[k.val]? = some (.val v)) (hv : v.isRef = true) (h : own_E p e below P T (mkF m (pc + 1) ls (v :: st))) : own_E p e below P T (mkF m pc ls (st)) := own_go (fun _ k => XS.aloadN X.here hx rfl hd hl hv k) h
theorem own_aload (X : Stand p l e R s m args below meth c T locs cells slots) (hx : p.tables.exec = Jvm.exec) {k : Nat} {v : Value} (hd : decode c.code pc = .ok (.aload k, 2)) (hl : ls[k]? = some (.val v)) (hv : v.isRef = true) (h : own_E p e below P T (mkF m (pc + 2) ls (v :: st))) : own_E p e below P T (mkF m pc ls (st)) := own_go (fun _ k => XS.aload X.here hx rfl hd hl hv k) h
theorem own_istoreN (X : Stand p l e R s m args below meth c T locs cells slots) (hx : p.tables.exec = Jvm.exec) {k : Fin 4} {v : Int32} {l' : Array Slot} (hd : decode c.code pc = .ok (.istore_n k, 1)) (hl : storeLocals ls k.val (.int v) = some l') (h : own_E p e below P T (mkF m (pc + 1) l' (st))) : own_E p e below P T (mkF m pc ls (.int v :: st)) := own_go (fun _ k => XS.istoreN X.here hx rfl hd rfl hl k) h
theorem own_istore (X : Stand p l e R s m args below meth c T locs cells slots) (hx : p.tables.exec = Jvm.exec) {k : Nat} {v : Int32} {l' : Array Slot} (hd : decode c.code pc = .ok (.istore k, 2)) (hl : storeLocals ls k (.int v) = some l') (h : own_E p e below P T (mkF m (pc + 2) l' (st))) : own_E p e below P T (mkF m pc ls (.int v :: st)) := own_go (fun _ k => XS.istore X.here hx rfl hd rfl hl k) h
theorem own_lstoreN (X : Stand p l e R s m args below meth c T locs cells slots) (hx : p.tables.exec = Jvm.exec) {k : Fin 4} {v : Int64} {l' : Array Slot} (hd : decode c.code pc = .ok (.lstore_n k, 1)) (hl : storeLocals ls k.val (.long v) = some l') (h : own_E p e below P T (mkF m (pc + 1) l' (st))) : own_E p e below P T (mkF m pc ls (.long v :: st)) := own_go (fun _ k => XT.lstoreN X.here hx rfl hd rfl hl k) h
theorem own_lstore (X : Stand p l e R s m args below meth c T locs cells slots) (hx : p.tables.exec = Jvm.exec) {k : Nat} {v : Int64} {l' : Array Slot} (hd : decode c.code pc = .ok (.lstore k, 2)) (hl : storeLocals ls k (.long v) = some l') (h : own_E p e below P T (mkF m (pc + 2) l' (st))) : own_E p e below P T (mkF m pc ls (.long v :: st)) := own_go (fun _ k => XT.lstore X.here hx rfl hd rfl hl k) h
theorem own_astoreN (X : Stand p l e R s m args below meth c T locs cells slots) (hx : p.tables.exec = Jvm.exec) {k : Fin 4} {v : Value} {l' : Array Slot} (hd : decode c.code pc = .ok (.astore_n k, 1)) (hv : v.isRef = true) (hl : storeLocals ls k.val v = some l') (h : own_E p e below P T (mkF m (pc + 1) l' (st))) : own_E p e below P T (mkF m pc ls (v :: st)) := own_go (fun _ k => XS.astoreN X.here hx rfl hd rfl hv hl k) h
theorem own_astore (X : Stand p l e R s m args below meth c T locs cells slots) (hx : p.tables.exec = Jvm.exec) {k : Nat} {v : Value} {l' : Array Slot} (hd : decode c.code pc = .ok (.astore k, 2)) (hv : v.isRef = true) (hl : storeLocals ls k v = some l') (h : own_E p e below P T (mkF m (pc + 2) l' (st))) : own_E p e below P T (mkF m pc ls (v :: st)) := own_go (fun _ k => XS.astore X.here hx rfl hd rfl hv hl k) h
theorem own_iconst (X : Stand p l e R s m args below meth c T locs cells slots) (hx : p.tables.exec = Jvm.exec) {i : Int} {v : Int32} (hd : decode c.code pc = .ok (.iconst i, 1)) (hv : Int32.ofInt i = v) (h : own_E p e below P T (mkF m (pc + 1) ls (.int v :: st))) : own_E p e below P T (mkF m pc ls (st)) := by subst hv; exact own_go (fun _ k => XS.iconst X.here hx rfl hd k) h
theorem own_bipush (X : Stand p l e R s m args below meth c T locs cells slots) (hx : p.tables.exec = Jvm.exec) {i : Int} {v : Int32} (hd : decode c.code pc = .ok (.bipush i, 2)) (hv : (Int8.ofInt i).toInt32 = v) (h : own_E p e below P T (mkF m (pc + 2) ls (.int v :: st))) : own_E p e below P T (mkF m pc ls (st)) := by subst hv; exact own_go (fun _ k => XS.bipush X.here hx rfl hd k) h
theorem own_sipush (X : Stand p l e R s m args below meth c T locs cells slots) (hx : p.tables.exec = Jvm.exec) {i : Int} {v : Int32} (hd : decode c.code pc = .ok (.sipush i, 3)) (hv : (Int16.ofInt i).toInt32 = v) (h : own_E p e below P T (mkF m (pc + 3) ls (.int v :: st))) : own_E p e below P T (mkF m pc ls (st)) := by subst hv; exact own_go (fun _ k => XS.sipush X.here hx rfl hd k) h
theorem own_lconst (X : Stand p l e R s m args below meth c T locs cells slots) (hx : p.tables.exec = Jvm.exec) {i : Fin 2} {v : Int64} (hd : decode c.code pc = .ok (.lconst i, 1)) (hv : Int64.ofNat i = v) (h : own_E p e below P T (mkF m (pc + 1) ls (.long v :: st))) : own_E p e below P T (mkF m pc ls (st)) := by subst hv; exact own_go (fun _ k => XT.lconst X.here hx rfl hd k) h
theorem own_aconstNull (X : Stand p l e R s m args below meth c T locs cells slots) (hx : p.tables.exec = Jvm.exec)  (hd : decode c.code pc = .ok (.aconst_null, 1)) (h : own_E p e below P T (mkF m (pc + 1) ls (.null :: st))) : own_E p e below P T (mkF m pc ls (st)) := own_go (fun _ k => XS.aconstNull X.here hx rfl hd k) h
theorem own_iadd (X : Stand p l e R s m args below meth c T locs cells slots) (hx : p.tables.exec = Jvm.exec) {x y z : Int32} (hd : decode c.code pc = .ok (.iadd, 1)) (hv : x + y = z) (h : own_E p e below P T (mkF m (pc + 1) ls (.int z :: st))) : own_E p e below P T (mkF m pc ls (.int y :: .int x :: st)) := by subst hv; exact own_go (fun _ k => XS.iadd X.here hx rfl hd rfl k) h
theorem own_isub (X : Stand p l e R s m args below meth c T locs cells slots) (hx : p.tables.exec = Jvm.exec) {x y z : Int32} (hd : decode c.code pc = .ok (.isub, 1)) (hv : x - y = z) (h : own_E p e below P T (mkF m (pc + 1) ls (.int z :: st))) : own_E p e below P T (mkF m pc ls (.int y :: .int x :: st)) := by subst hv; exact own_go (fun _ k => XS.isub X.here hx rfl hd rfl k) h
theorem own_imul (X : Stand p l e R s m args below meth c T locs cells slots) (hx : p.tables.exec = Jvm.exec) {x y z : Int32} (hd : decode c.code pc = .ok (.imul, 1)) (hv : x * y = z) (h : own_E p e below P T (mkF m (pc + 1) ls (.int z :: st))) : own_E p e below P T (mkF m pc ls (.int y :: .int x :: st)) := by subst hv; exact own_go (fun _ k => XS.imul X.here hx rfl hd rfl k) h
theorem own_iand (X : Stand p l e R s m args below meth c T locs cells slots) (hx : p.tables.exec = Jvm.exec) {x y z : Int32} (hd : decode c.code pc = .ok (.iand, 1)) (hv : x &&& y = z) (h : own_E p e below P T (mkF m (pc + 1) ls (.int z :: st))) : own_E p e below P T (mkF m pc ls (.int y :: .int x :: st)) := by subst hv; exact own_go (fun _ k => XS.iand X.here hx rfl hd rfl k) h
theorem own_ior (X : Stand p l e R s m args below meth c T locs cells slots) (hx : p.tables.exec = Jvm.exec) {x y z : Int32} (hd : decode c.code pc = .ok (.ior, 1)) (hv : x ||| y = z) (h : own_E p e below P T (mkF m (pc + 1) ls (.int z :: st))) : own_E p e below P T (mkF m pc ls (.int y :: .int x :: st)) := by subst hv; exact own_go (fun _ k => XT.ior X.here hx rfl hd rfl k) h
theorem own_ishr (X : Stand p l e R s m args below meth c T locs cells slots) (hx : p.tables.exec = Jvm.exec) {x y z : Int32} (hd : decode c.code pc = .ok (.ishr, 1)) (hv : x >>> (y &&& 31) = z) (h : own_E p e below P T (mkF m (pc + 1) ls (.int z :: st))) : own_E p e below P T (mkF m pc ls (.int y :: .int x :: st)) := by subst hv; exact own_go (fun _ k => XT.ishr X.here hx rfl hd rfl k) h
theorem own_iushr (X : Stand p l e R s m args below meth c T locs cells slots) (hx : p.tables.exec = Jvm.exec) {x y z : Int32} (hd : decode c.code pc = .ok (.iushr, 1)) (hv : Jvm.Free.XT.ushr x y = z) (h : own_E p e below P T (mkF m (pc + 1) ls (.int z :: st))) : own_E p e below P T (mkF m pc ls (.int y :: .int x :: st)) := by subst hv; exact own_go (fun _ k => XT.iushr X.here hx rfl hd rfl k) h
theorem own_ladd (X : Stand p l e R s m args below meth c T locs cells slots) (hx : p.tables.exec = Jvm.exec) {x y z : Int64} (hd : decode c.code pc = .ok (.ladd, 1)) (hv : x + y = z) (h : own_E p e below P T (mkF m (pc + 1) ls (.long z :: st))) : own_E p e below P T (mkF m pc ls (.long y :: .long x :: st)) := by subst hv; exact own_go (fun _ k => XT.ladd X.here hx rfl hd rfl k) h
theorem own_lsub (X : Stand p l e R s m args below meth c T locs cells slots) (hx : p.tables.exec = Jvm.exec) {x y z : Int64} (hd : decode c.code pc = .ok (.lsub, 1)) (hv : x - y = z) (h : own_E p e below P T (mkF m (pc + 1) ls (.long z :: st))) : own_E p e below P T (mkF m pc ls (.long y :: .long x :: st)) := by subst hv; exact own_go (fun _ k => XT.lsub X.here hx rfl hd rfl k) h
theorem own_lmul (X : Stand p l e R s m args below meth c T locs cells slots) (hx : p.tables.exec = Jvm.exec) {x y z : Int64} (hd : decode c.code pc = .ok (.lmul, 1)) (hv : x * y = z) (h : own_E p e below P T (mkF m (pc + 1) ls (.long z :: st))) : own_E p e below P T (mkF m pc ls (.long y :: .long x :: st)) := by subst hv; exact own_go (fun _ k => XT.lmul X.here hx rfl hd rfl k) h
theorem own_land (X : Stand p l e R s m args below meth c T locs cells slots) (hx : p.tables.exec = Jvm.exec) {x y z : Int64} (hd : decode c.code pc = .ok (.land, 1)) (hv : x &&& y = z) (h : own_E p e below P T (mkF m (pc + 1) ls (.long z :: st))) : own_E p e below P T (mkF m pc ls (.long y :: .long x :: st)) := by subst hv; exact own_go (fun _ k => XT.land X.here hx rfl hd rfl k) h
theorem own_ldiv (X : Stand p l e R s m args below meth c T locs cells slots) (hx : p.tables.exec = Jvm.exec) {x y z : Int64} (hd : decode c.code pc = .ok (.ldiv, 1)) (hy : y ≠ 0) (hv : x / y = z) (h : own_E p e below P T (mkF m (pc + 1) ls (.long z :: st))) : own_E p e below P T (mkF m pc ls (.long y :: .long x :: st)) := by subst hv; exact own_go (fun _ k => XT.ldiv X.here hx rfl hd rfl hy k) h
theorem own_lushr (X : Stand p l e R s m args below meth c T locs cells slots) (hx : p.tables.exec = Jvm.exec) {x z : Int64} {y : Int32} (hd : decode c.code pc = .ok (.lushr, 1)) (hv : Jvm.Free.XT.ushrL x y = z) (h : own_E p e below P T (mkF m (pc + 1) ls (.long z :: st))) : own_E p e below P T (mkF m pc ls (.int y :: .long x :: st)) := by subst hv; exact own_go (fun _ k => XT.lushr X.here hx rfl hd rfl k) h
theorem own_lcmp (X : Stand p l e R s m args below meth c T locs cells slots) (hx : p.tables.exec = Jvm.exec) {x y : Int64} {z : Int32} (hd : decode c.code pc = .ok (.lcmp, 1)) (hv : Jvm.Free.XT.cmpL x y = z) (h : own_E p e below P T (mkF m (pc + 1) ls (.int z :: st))) : own_E p e below P T (mkF m pc ls (.long y :: .long x :: st)) := by subst hv; exact own_go (fun _ k => XT.lcmp X.here hx rfl hd rfl k) h
theorem own_i2l (X : Stand p l e R s m args below meth c T locs cells slots) (hx : p.tables.exec = Jvm.exec) {x : Int32} {z : Int64} (hd : decode c.code pc = .ok (.i2l, 1)) (hv : x.toInt64 = z) (h : own_E p e below P T (mkF m (pc + 1) ls (.long z :: st))) : own_E p e below P T (mkF m pc ls (.int x :: st)) := by subst hv; exact own_go (fun _ k => XT.i2l X.here hx rfl hd rfl k) h
theorem own_l2i (X : Stand p l e R s m args below meth c T locs cells slots) (hx : p.tables.exec = Jvm.exec) {x : Int64} {z : Int32} (hd : decode c.code pc = .ok (.l2i, 1)) (hv : x.toInt32 = z) (h : own_E p e below P T (mkF m (pc + 1) ls (.int z :: st))) : own_E p e below P T (mkF m pc ls (.long x :: st)) := by subst hv; exact own_go (fun _ k => XT.l2i X.here hx rfl hd rfl k) h
theorem own_i2c (X : Stand p l e R s m args below meth c T locs cells slots) (hx : p.tables.exec = Jvm.exec) {x z : Int32} (hd : decode c.code pc = .ok (.i2c, 1)) (hv : x.toUInt32.toUInt16.toUInt32.toInt32 = z) (h : own_E p e below P T (mkF m (pc + 1) ls (.int z :: st))) : own_E p e below P T (mkF m pc ls (.int x :: st)) := by subst hv; exact own_go (fun _ k => XT.i2c X.here hx rfl hd rfl k) h
theorem own_i2b (X : Stand p l e R s m args below meth c T locs cells slots) (hx : p.tables.exec = Jvm.exec) {x z : Int32} (hd : decode c.code pc = .ok (.i2b, 1)) (hv : x.toInt8.toInt32 = z) (h : own_E p e below P T (mkF m (pc + 1) ls (.int z :: st))) : own_E p e below P T (mkF m pc ls (.int x :: st)) := by subst hv; exact own_go (fun _ k => XT.i2b X.here hx rfl hd rfl k) h
theorem own_iinc (X : Stand p l e R s m args below meth c T locs cells slots) (hx : p.tables.exec = Jvm.exec) {k : Nat} {i : Int} {x z : Int32} {l' : Array Slot} (hd : decode c.code pc = .ok (.iinc k i, 3)) (hl : ls[k]? = some (.val (.int x))) (hv : x + Int32.ofInt i = z) (hl' : storeLocals ls k (.int z) = some l') (h : own_E p e below P T (mkF m (pc + 3) l' (st))) : own_E p e below P T (mkF m pc ls (st)) := by subst hv; exact own_go (fun _ k => XS.iinc X.here hx rfl hd hl hl' k) h
theorem own_dup (X : Stand p l e R s m args below meth c T locs cells slots) (hx : p.tables.exec = Jvm.exec) {v : Value} (hd : decode c.code pc = .ok (.dup, 1)) (hv : v.category = 1) (h : own_E p e below P T (mkF m (pc + 1) ls (v :: v :: st))) : own_E p e below P T (mkF m pc ls (v :: st)) := own_go (fun _ k => XS.dup X.here hx rfl hd rfl hv k) h
theorem own_pop (X : Stand p l e R s m args below meth c T locs cells slots) (hx : p.tables.exec = Jvm.exec) {v : Value} (hd : decode c.code pc = .ok (.pop, 1)) (hv : v.category = 1) (h : own_E p e below P T (mkF m (pc + 1) ls (st))) : own_E p e below P T (mkF m pc ls (v :: st)) := own_go (fun _ k => XT.pop X.here hx rfl hd rfl hv k) h
theorem own_dupX1 (X : Stand p l e R s m args below meth c T locs cells slots) (hx : p.tables.exec = Jvm.exec) {v w : Value} (hd : decode c.code pc = .ok (.dup_x1, 1)) (hv : v.category = 1) (hw : w.category = 1) (h : own_E p e below P T (mkF m (pc + 1) ls (v :: w :: v :: st))) : own_E p e below P T (mkF m pc ls (v :: w :: st)) := own_go (fun _ k => XT.dupX1 X.here hx rfl hd rfl hv hw k) h
theorem own_goto (X : Stand p l e R s m args below meth c T locs cells slots) (hx : p.tables.exec = Jvm.exec)  {o : Int} (hd : decode c.code pc = .ok (.goto o, 3)) (pc' : Nat) (ho : 0 ≤ (pc : Int) + o) (hp : ((pc : Int) + o).toNat = pc') (h : own_E p e below P T (mkF m pc' ls st)) : own_E p e below P T (mkF m pc ls (st)) := own_go (fun _ k => XS.goto X.here hx rfl rfl hd ho hp k) h
theorem own_ifYes (X : Stand p l e R s m args below meth c T locs cells slots) (hx : p.tables.exec = Jvm.exec) {cd : ClassFile.Cond} {x : Int32} {o : Int} (hd : decode c.code pc = .ok (.ifCond cd o, 3)) (hc : ifCond.holds cd x = true) (pc' : Nat) (ho : 0 ≤ (pc : Int) + o) (hp : ((pc : Int) + o).toNat = pc') (h : own_E p e below P T (mkF m pc' ls st)) : own_E p e below P T (mkF m pc ls (.int x :: st)) := own_go (fun _ k => XS.ifYes X.here hx rfl rfl hd rfl hc ho hp k) h
theorem own_ifNo (X : Stand p l e R s m args below meth c T locs cells slots) (hx : p.tables.exec = Jvm.exec) {cd : ClassFile.Cond} {x : Int32} {o : Int} (hd : decode c.code pc = .ok (.ifCond cd o, 3)) (hc : ifCond.holds cd x = false) (h : own_E p e below P T (mkF m (pc + 3) ls st)) : own_E p e below P T (mkF m pc ls (.int x :: st)) := own_go (fun _ k => XS.ifNo X.here hx rfl hd rfl hc k) h
theorem own_icmpYes (X : Stand p l e R s m args below meth c T locs cells slots) (hx : p.tables.exec = Jvm.exec) {cd : ClassFile.Cond} {x y : Int32} {o : Int} (hd : decode c.code pc = .ok (.if_icmp cd o, 3)) (hc : if_icmp.holds cd x y = true) (pc' : Nat) (ho : 0 ≤ (pc : Int) + o) (hp : ((pc : Int) + o).toNat = pc') (h : own_E p e below P T (mkF m pc' ls st)) : own_E p e below P T (mkF m pc ls (.int y :: .int x :: st)) := own_go (fun _ k => XS.icmpYes X.here hx rfl rfl hd rfl hc ho hp k) h
theorem own_icmpNo (X : Stand p l e R s m args below meth c T locs cells slots) (hx : p.tables.exec = Jvm.exec) {cd : ClassFile.Cond} {x y : Int32} {o : Int} (hd : decode c.code pc = .ok (.if_icmp cd o, 3)) (hc : if_icmp.holds cd x y = false) (h : own_E p e below P T (mkF m (pc + 3) ls st)) : own_E p e below P T (mkF m pc ls (.int y :: .int x :: st)) := own_go (fun _ k => XS.icmpNo X.here hx rfl hd rfl hc k) h
theorem own_acmpYes (X : Stand p l e R s m args below meth c T locs cells slots) (hx : p.tables.exec = Jvm.exec) {cd : ACond} {x y : Value} {o : Int} (hd : decode c.code pc = .ok (.if_acmp cd o, 3)) (h1 : x.isRef = true) (h2 : y.isRef = true) (hc : Jvm.Free.XT.acmp cd x y = true) (pc' : Nat) (ho : 0 ≤ (pc : Int) + o) (hp : ((pc : Int) + o).toNat = pc') (h : own_E p e below P T (mkF m pc' ls st)) : own_E p e below P T (mkF m pc ls (y :: x :: st)) := own_go (fun _ k => Jvm.RoadKit.acmp X hx rfl h1 h2 (same := decide (x = y)) rfl hd rfl rfl ho (by rw [hp]; cases cd <;> simp_all [acV, Jvm.Free.XT.acmp]) k) h
theorem own_acmpNo (X : Stand p l e R s m args below meth c T locs cells slots) (hx : p.tables.exec = Jvm.exec) {cd : ACond} {x y : Value} {o : Int} (hd : decode c.code pc = .ok (.if_acmp cd o, 3)) (h1 : x.isRef = true) (h2 : y.isRef = true) (ho : 0 ≤ (pc : Int) + o) (hc : Jvm.Free.XT.acmp cd x y = false) (h : own_E p e below P T (mkF m (pc + 3) ls st)) : own_E p e below P T (mkF m pc ls (y :: x :: st)) := own_go (fun _ k => Jvm.RoadKit.acmp X hx rfl h1 h2 (same := decide (x = y)) rfl hd rfl rfl ho (by cases cd <;> simp_all [acV, Jvm.Free.XT.acmp]) k) h
theorem own_nullYes (X : Stand p l e R s m args below meth c T locs cells slots) (hx : p.tables.exec = Jvm.exec)  {o : Int} (hd : decode c.code pc = .ok (.ifnull o, 3)) (pc' : Nat) (ho : 0 ≤ (pc : Int) + o) (hp : ((pc : Int) + o).toNat = pc') (h : own_E p e below P T (mkF m pc' ls st)) : own_E p e below P T (mkF m pc ls (.null :: st)) := own_go (fun _ k => XS.ifnullYes X.here hx rfl rfl hd rfl ho hp k) h
theorem own_nullNo (X : Stand p l e R s m args below meth c T locs cells slots) (hx : p.tables.exec = Jvm.exec) {b : Addr} {o : Int} (hd : decode c.code pc = .ok (.ifnull o, 3)) (h : own_E p e below P T (mkF m (pc + 3) ls st)) : own_E p e below P T (mkF m pc ls (.ref b :: st)) := own_go (fun _ k => XS.ifnullNo X.here hx rfl hd rfl k) h
theorem own_nonnullYes (X : Stand p l e R s m args below meth c T locs cells slots) (hx : p.tables.exec = Jvm.exec) {b : Addr} {o : Int} (hd : decode c.code pc = .ok (.ifnonnull o, 3)) (pc' : Nat) (ho : 0 ≤ (pc : Int) + o) (hp : ((pc : Int) + o).toNat = pc') (h : own_E p e below P T (mkF m pc' ls st)) : own_E p e below P T (mkF m pc ls (.ref b :: st)) := own_go (fun _ k => XT.ifnonnullYes X.here hx rfl rfl hd rfl ho hp k) h
theorem own_nonnullNo (X : Stand p l e R s m args below meth c T locs cells slots) (hx : p.tables.exec = Jvm.exec)  {o : Int} (hd : decode c.code pc = .ok (.ifnonnull o, 3)) (h : own_E p e below P T (mkF m (pc + 3) ls st)) : own_E p e below P T (mkF m pc ls (.null :: st)) := own_go (fun _ k => XT.ifnonnullNo X.here hx rfl hd rfl k) h
theorem own_alen (X : Stand p l e R s m args below meth c T locs cells slots) (hx : p.tables.exec = Jvm.exec) {Z : State} (hZ : Z.Warmed39 s.vm) {h : Heap} (eT : T.heap = h) {a : Addr} {cl : Cell} {ty : FieldType} (A : Arr Z h a cl ty) {z : Int32} (hz : cl.slots.size.toInt32 = z) (hd : decode c.code pc = .ok (.arraylength, 1)) (k : own_E p e below P T (mkF m (pc + 1) ls (.int z :: st))) : own_E p e below P T (mkF m pc ls (.ref a :: st)) := by
  subst hz
  exact own_go (fun _ k => X.arraylength hx (by rw [eT]; exact A.1) (State.isArrayOf_alike hZ.alike A.2.1) (g := mkF m pc ls (.ref a :: st)) rfl rfl hd _ k) k
theorem own_baload (X : Stand p l e R s m args below meth c T locs cells slots) (hx : p.tables.exec = Jvm.exec) {Z : State} (hZ : Z.Warmed39 s.vm) {h : Heap} (eT : T.heap = h) {a : Addr} {cl : Cell} (A : Arr Z h a cl .byte) {j : Int32} {v : Value} (hin : ¬ (j < 0 ∨ cl.slots.size ≤ j.toNatClampNeg)) (hv : cl.slots[j.toNatClampNeg]? = some v) (hd : decode c.code pc = .ok (.baload, 1)) (k : own_E p e below P T (mkF m (pc + 1) ls (v :: st))) : own_E p e below P T (mkF m pc ls (.int j :: .ref a :: st)) :=
  own_go (fun _ k => X.baloadBytes hx (by rw [eT]; exact A.1) (State.isArrayOf_alike hZ.alike A.2.1) A.2.2 hin hv (g := mkF m pc ls (.int j :: .ref a :: st)) rfl rfl hd _ k) k
theorem own_zaload (X : Stand p l e R s m args below meth c T locs cells slots) (hx : p.tables.exec = Jvm.exec) {Z : State} (hZ : Z.Warmed39 s.vm) {h : Heap} (eT : T.heap = h) {a : Addr} {cl : Cell} (A : Arr Z h a cl .boolean) {j : Int32} {v : Value} (hin : ¬ (j < 0 ∨ cl.slots.size ≤ j.toNatClampNeg)) (hv : cl.slots[j.toNatClampNeg]? = some v) (hd : decode c.code pc = .ok (.baload, 1)) (k : own_E p e below P T (mkF m (pc + 1) ls (v :: st))) : own_E p e below P T (mkF m pc ls (.int j :: .ref a :: st)) :=
  own_go (fun _ k => X.baloadBooleans hx (by rw [eT]; exact A.1) (State.isArrayOf_alike hZ.alike A.2.1) A.2.2 hin hv (g := mkF m pc ls (.int j :: .ref a :: st)) rfl rfl hd _ k) k
theorem own_iaload (X : Stand p l e R s m args below meth c T locs cells slots) (hx : p.tables.exec = Jvm.exec) {Z : State} (hZ : Z.Warmed39 s.vm) {h : Heap} (eT : T.heap = h) {a : Addr} {cl : Cell} (A : Arr Z h a cl .int) {j : Int32} {v : Value} (hin : ¬ (j < 0 ∨ cl.slots.size ≤ j.toNatClampNeg)) (hv : cl.slots[j.toNatClampNeg]? = some v) (hd : decode c.code pc = .ok (.iaload, 1)) (k : own_E p e below P T (mkF m (pc + 1) ls (v :: st))) : own_E p e below P T (mkF m pc ls (.int j :: .ref a :: st)) :=
  own_go (fun _ k => X.iaload hx (by rw [eT]; exact A.1) (State.isArrayOf_alike hZ.alike A.2.1) A.2.2 hin hv (g := mkF m pc ls (.int j :: .ref a :: st)) rfl rfl hd _ k) k
theorem own_aaload (X : Stand p l e R s m args below meth c T locs cells slots) (hx : p.tables.exec = Jvm.exec) {Z : State} (hZ : Z.Warmed39 s.vm) {h : Heap} (eT : T.heap = h) {a : Addr} {cl : Cell} {ty : FieldType} (A : Arr Z h a cl ty) (hty : ty.isReference = true) {j : Int32} {v : Value} (hin : ¬ (j < 0 ∨ cl.slots.size ≤ j.toNatClampNeg)) (hv : cl.slots[j.toNatClampNeg]? = some v) (hd : decode c.code pc = .ok (.aaload, 1)) (k : own_E p e below P T (mkF m (pc + 1) ls (v :: st))) : own_E p e below P T (mkF m pc ls (.int j :: .ref a :: st)) :=
  own_go (fun _ k => X.aaload hx (by rw [eT]; exact A.1) (State.isArrayOf_alike hZ.alike A.2.1) hty A.2.2 hin hv (g := mkF m pc ls (.int j :: .ref a :: st)) rfl rfl hd _ k) k
theorem own_retN (X : Stand p l e R s m args below meth c T locs cells slots) (hx : p.tables.exec = Jvm.exec) {z z' : Int32} {t : FieldType} {Q : Option Value → Heap → List Loc → Prop} {cm sm : Nat} (hret : meth.sig.returnType = some t) (ht : t = .boolean ∨ t = .byte ∨ t = .char ∨ t = .short) (hlk : meth.locks = false) (hd : decode c.code pc = .ok (.ireturn, 1)) (hz : nar t z = z') (hc : cells ≤ cm) (hs : slots ≤ sm) (hQ : Q (some (.int z')) T.heap locs) : own_E p e below (own_P s Q cm sm) T (mkF m pc ls (.int z :: st)) := by
  subst hz
  obtain ⟨fs, hr, hrun, hended, hW, hsame⟩ := X.leave (v := some (.int (nar t z))) (fun h => by rw [hret] at h; cases h) hlk
  exact ⟨_, _, retN X hx hret ht hd hr, hrun, hended, _, _, rfl, hQ, ⟨_, rfl⟩, hW, hsame.mono hc hs⟩
theorem own_retO (X : Stand p l e R s m args below meth c T locs cells slots) (hx : p.tables.exec = Jvm.exec) {w : Value} {t : FieldType} {i : Instr} {Q : Option Value → Heap → List Loc → Prop} {cm sm : Nat} (hret : meth.sig.returnType = some t) (hlk : meth.locks = false) (hn : narrow t w = w)
    (hi : (i = .ireturn ∧ (t = .int ∨ t = .boolean ∨ t = .byte ∨ t = .char ∨ t = .short) ∧ ∃ z, w = .int z) ∨ (i = .lreturn ∧ t = .long ∧ ∃ z, w = .long z) ∨ (i = .dreturn ∧ t = .double ∧ ∃ z, w = .double z) ∨ (i = .freturn ∧ t = .float ∧ ∃ z, w = .float z) ∨ (i = .areturn ∧ t.isReference = true ∧ w.isRef = true))
    (hd : decode c.code pc = .ok (i, 1)) (hc : cells ≤ cm) (hs : slots ≤ sm) (hQ : Q (some w) T.heap locs) : own_E p e below (own_P s Q cm sm) T (mkF m pc ls (w :: st)) := by
  obtain ⟨fs, hr, hrun, hended, hW, hsame⟩ := X.leave (v := some w) (fun h => by rw [hret] at h; cases h) hlk
  exact ⟨_, _, Jvm.RoadKit.retOut X hx hret hn hi hd hr, hrun, hended, _, _, rfl, hQ, ⟨_, rfl⟩, hW, hsame.mono hc hs⟩
theorem own_retI (X : Stand p l e R s m args below meth c T locs cells slots) (hx : p.tables.exec = Jvm.exec) {z : Int32} {Q : Option Value → Heap → List Loc → Prop} {cm sm : Nat} (hret : meth.sig.returnType = some .int) (hlk : meth.locks = false) (hd : decode c.code pc = .ok (.ireturn, 1)) (hc : cells ≤ cm) (hs : slots ≤ sm) (hQ : Q (some (.int z)) T.heap locs) : own_E p e below (own_P s Q cm sm) T (mkF m pc ls (.int z :: st)) := own_retO X hx hret hlk rfl (Or.inl ⟨rfl, Or.inl rfl, _, rfl⟩) hd hc hs hQ
theorem own_retL (X : Stand p l e R s m args below meth c T locs cells slots) (hx : p.tables.exec = Jvm.exec) {z : Int64} {Q : Option Value → Heap → List Loc → Prop} {cm sm : Nat} (hret : meth.sig.returnType = some .long) (hlk : meth.locks = false) (hd : decode c.code pc = .ok (.lreturn, 1)) (hc : cells ≤ cm) (hs : slots ≤ sm) (hQ : Q (some (.long z)) T.heap locs) : own_E p e below (own_P s Q cm sm) T (mkF m pc ls (.long z :: st)) := own_retO X hx hret hlk rfl (Or.inr (Or.inl ⟨rfl, rfl, _, rfl⟩)) hd hc hs hQ
theorem own_retA (X : Stand p l e R s m args below meth c T locs cells slots) (hx : p.tables.exec = Jvm.exec) {w : Value} {t : FieldType} {Q : Option Value → Heap → List Loc → Prop} {cm sm : Nat} (hret : meth.sig.returnType = some t) (ht : t.isReference = true) (hw : w.isRef = true) (hlk : meth.locks = false) (hd : decode c.code pc = .ok (.areturn, 1)) (hc : cells ≤ cm) (hs : slots ≤ sm) (hQ : Q (some w) T.heap locs) : own_E p e below (own_P s Q cm sm) T (mkF m pc ls (w :: st)) := own_retO X hx hret hlk (by rcases ref_cases hw with rfl | ⟨a, rfl⟩ <;> cases t <;> rfl) (Or.inr (Or.inr (Or.inr (Or.inr ⟨rfl, ht, hw⟩)))) hd hc hs hQ
theorem own_retV (X : Stand p l e R s m args below meth c T locs cells slots) (hx : p.tables.exec = Jvm.exec) {Q : Option Value → Heap → List Loc → Prop} {cm sm : Nat} (hret : meth.sig.returnType = none) (hlk : meth.locks = false) (hd : decode c.code pc = .ok (.return_, 1)) (hc : cells ≤ cm) (hs : slots ≤ sm) (hQ : Q none T.heap locs) : own_E p e below (own_P s Q cm sm) T (mkF m pc ls []) := by
  obtain ⟨fs, hr, hrun, hended, hW, hsame⟩ := X.leave (v := none) (fun _ => rfl) hlk
  exact ⟨_, _, X.returnOut hx hret hd hr, hrun, hended, _, _, rfl, hQ, ⟨_, rfl⟩, hW, hsame.mono hc hs⟩
theorem own_nar {v : Value} {C : String} (r : v.isRef = true) : narrow (.object C) v = v := by rcases ref_cases r with rfl | ⟨a, rfl⟩ <;> rfl
theorem own_fit {v : Value} {C : String} (r : v.isRef = true) : fits (.object C) v = true := by rcases ref_cases r with rfl | ⟨a, rfl⟩ <;> rfl
end OwnWalk
/-- what both answer: 1 for a token char, else 0; its conditions stand as ref's bytecode asks them -/
def own_tok (c : Int32) : Int32 :=
  if ¬ c < 97 ∧ ¬ 122 < c then 1 else if ¬ c < 65 ∧ ¬ 90 < c then 1 else if ¬ c < 48 ∧ ¬ 57 < c then 1
  else if c = 45 then 1 else if c = 46 then 1 else if c = 33 then 1 else if c = 37 then 1 else if c = 42 then 1 else if c = 95 then 1 else if c = 43 then 1 else if c = 96 then 1 else if c = 39 then 1 else if c = 126 then 1 else 0
theorem own_01 {p : Prop} [Decidable p] {x : Int32} (h : x = 0 ∨ x = 1) : (if p then (1 : Int32) else x) = 0 ∨ (if p then (1 : Int32) else x) = 1 := by
  by_cases q : p
  · rw [if_pos q]; exact Or.inr rfl
  · rw [if_neg q]; exact h
theorem own_tok01 (c : Int32) : own_tok c = 0 ∨ own_tok c = 1 := own_01 (own_01 (own_01 (own_01 (own_01 (own_01 (own_01 (own_01 (own_01 (own_01 (own_01 (own_01 (own_01 (Or.inl rfl)))))))))))))
theorem own_tok_hi {c : Int32} (h : ¬ c < 128) : own_tok c = 0 := by
  have h' : 128 ≤ c.toInt := by
    have h2 : (128 : Int32) ≤ c := Int32.not_lt.mp h
    rw [Int32.le_iff_toInt_le] at h2
    exact h2
  have ne : ∀ {k : Int32}, k.toInt < 128 → ¬ c = k := fun hk q => by subst q; omega
  have gt : ∀ {k : Int32}, k.toInt < 128 → k < c := fun hk => by rw [Int32.lt_iff_toInt_lt]; omega
  have q1 : (122 : Int32) < c := gt (by decide)
  have q2 : (90 : Int32) < c := gt (by decide)
  have q3 : (57 : Int32) < c := gt (by decide)
  simp [own_tok, q1, q2, q3, ne (k := 45) (by decide), ne (k := 46) (by decide), ne (k := 33) (by decide), ne (k := 37) (by decide), ne (k := 42) (by decide), ne (k := 95) (by decide), ne (k := 43) (by decide), ne (k := 96) (by decide), ne (k := 39) (by decide), ne (k := 126) (by decide)]
theorem own_char (x : Int32) : ¬ (x.toUInt32.toUInt16.toUInt32.toInt32) < 0 := by
  have h : ∀ u : UInt16, (u.toUInt32.toInt32).toInt = u.toNat := fun u => by
    have hu := u.toNat_lt
    show ((u.toUInt32).toBitVec).toInt = _
    have hm : (u.toUInt32).toBitVec.toNat = u.toNat := by
      show (u.toUInt32).toNat = _
      simp
    rw [BitVec.toInt_eq_toNat_cond, hm, if_pos (by omega)]
  rw [Int32.lt_iff_toInt_lt, h]
  show ¬ ((_ : Nat) : Int) < 0
  omega

def own_QT (r : Int32) (h0 : Heap) (n0 : Nat) (v : Option Value) (h : Heap) (L : List Loc) : Prop := v = some (.int r) ∧ Fr n0 L ∧ h = h0
theorem own_pn0 : plainName "com/example/callweave/callweave/message/Syntax" = true := by first | (simp [plainName, overriddenIn]; done) | decide +kernel
theorem own_ef1 (m : MethodId) (x0 : Int32) : entryFrame m #[(.int x0)] 1 = mkF m 0 #[.val (.int x0)] [] := by first | (simp [entryFrame, mkF, argsToLocals, Value.category]; done) | rfl
theorem own_d_prog_30_method_4_code_0 : decode prog_30_method_4_code 0 = .ok (.iload_n 0, 1) := by decide +kernel
theorem own_d_prog_30_method_4_code_1 : decode prog_30_method_4_code 1 = .ok (.getstatic 34, 3) := by decide +kernel
theorem own_d_prog_30_method_4_code_4 : decode prog_30_method_4_code 4 = .ok (.arraylength, 1) := by decide +kernel
theorem own_d_prog_30_method_4_code_5 : decode prog_30_method_4_code 5 = .ok (.if_icmp .ge 15, 3) := by decide +kernel
theorem own_d_prog_30_method_4_code_20 : decode prog_30_method_4_code 20 = .ok (.iconst 0, 1) := by decide +kernel
theorem own_d_prog_30_method_4_code_21 : decode prog_30_method_4_code 21 = .ok (.ireturn, 1) := by decide +kernel
theorem own_d_prog_30_method_4_code_8 : decode prog_30_method_4_code 8 = .ok (.getstatic 34, 3) := by decide +kernel
theorem own_d_prog_30_method_4_code_11 : decode prog_30_method_4_code 11 = .ok (.iload_n 0, 1) := by decide +kernel
theorem own_d_prog_30_method_4_code_12 : decode prog_30_method_4_code 12 = .ok (.baload, 1) := by decide +kernel
theorem own_d_prog_30_method_4_code_13 : decode prog_30_method_4_code 13 = .ok (.ifCond .eq 7, 3) := by decide +kernel
theorem own_d_prog_30_method_4_code_16 : decode prog_30_method_4_code 16 = .ok (.iconst 1, 1) := by decide +kernel
theorem own_d_prog_30_method_4_code_17 : decode prog_30_method_4_code 17 = .ok (.goto 4, 3) := by decide +kernel
set_option maxRecDepth 65536 in
set_option maxHeartbeats 40000000 in
theorem own_rmT (l : Launch) (Z : State) (a0 : Array Value) (hw : ∀ d ∈ tables_1, d.before a0 Z = true) (ws : List Jvm.Cond) (c0 : Int32) (w0 : Addr) (cw : Cell) (h0 : Heap) (n0 : Nat) (Z0 : n0 ≤ h0.size) (S0 : Sta Z h0 "com/example/callweave/callweave/message/Syntax" "TOKEN_CHARS" "[Z" (.ref w0)) (A0 : Arr Z h0 w0 cw .boolean) (z0 : cw.slots.size = 128) (t0 : ∀ k, k < 128 → cw.slots[k]? = some (.int (own_tok k.toInt32))) (p0 : ¬ c0 < 0) :
    MetFree l (⟨"com/example/callweave/callweave/message/Syntax", "isTokenChar", "(C)Z"⟩ : MethodName) (head1 (Jvm.Cond.code (⟨"com/example/callweave/callweave/message/Syntax", "isTokenChar", "(C)Z"⟩ : MethodName) prog_30_method_4_code 1 (some .boolean) :: ws) ({ frames := 0, cells := 0, slots := 0, locals := 0 } : Room)) (fun a U => a = #[(.int c0)] ∧ Z.Warmed39 U.vm ∧ U.heap = h0) (fun _ _ _ _ _ => True) (fun _ U o U' => ∃ v L, o = .returned v ∧ own_QT (own_tok c0) h0 n0 v U'.heap L ∧ FrameEnd U o U' L ({ frames := 0, cells := 0, slots := 0, locals := 0 } : Room).cells ({ frames := 0, cells := 0, slots := 0, locals := 0 } : Room).slots) := by
  refine MetFree.of_bodySF (plainFor_of_name own_pn0) hisR ?_
  intro p e s m args below meth c s₁ Bd hml0 hP hK
  obtain ⟨rfl, hZ, hh⟩ := hP
  have hx := Bd.exec
  have hby := Bd.bytes
  have hlk : meth.locks = false := Bd.notSynchronized
  have hml : c.maxLocals = 1 := hml0
  have hown : s.vm.findClass "com/example/callweave/callweave/message/Syntax" = some m.cls := findClass_of_methodNamed Bd.named
  have hnm := (name_of_methodNamed Bd.named Bd.method).1
  have X0 : Stand p l e ({ frames := 0, cells := 0, slots := 0, locals := 0 } : Room) s m #[(.int c0)] below meth c s₁ [] 0 0 := Stand.of_body Bd
  have e0 : s₁.heap = h0 := by rw [← hh, Bd.state]; rfl
  have N0 := Fr.nil n0
  show own_E p e below (own_P s (own_QT (own_tok c0) h0 n0) ({ frames := 0, cells := 0, slots := 0, locals := 0 } : Room).cells ({ frames := 0, cells := 0, slots := 0, locals := 0 } : Room).slots) s₁ (entryFrame m #[(.int c0)] 1)
  refine own_cast (own_ef1 m c0) ?_
  show own_E p e below _ s₁ (mkF m 0 #[.val (.int c0)] [])
  refine own_iloadN X0 hx (hb hby own_d_prog_30_method_4_code_0) rfl ?_
  show own_E p e below _ s₁ (mkF m 1 #[.val (.int c0)] [(.int c0)])
  obtain ⟨T1, X1, e1, st1⟩ := getS2 X0 hx hZ hown (host := "") (Or.inl (hw _ (List.mem_of_getElem? (i := 5) rfl))) Via.refl e0 S0 (g := (mkF m 1 #[.val (.int c0)] [(.int c0)])) rfl (hb hby own_d_prog_30_method_4_code_1)
  refine own_go st1 ?_
  show own_E p e below _ T1 (mkF m 4 #[.val (.int c0)] [(.ref w0), (.int c0)])
  refine own_alen X1 hx hZ e1 A0 (z := (128 : Int32)) (by rw [z0]; decide) (hb hby own_d_prog_30_method_4_code_4) ?_
  show own_E p e below _ T1 (mkF m 5 #[.val (.int c0)] [(.int (128 : Int32)), (.int c0)])
  by_cases hhi : c0 < (128 : Int32)
  · skip
    refine own_icmpNo X1 hx (hb hby own_d_prog_30_method_4_code_5) (Jvm.Free.XT.ii_ge_f hhi) ?_
    show own_E p e below _ T1 (mkF m 8 #[.val (.int c0)] [])
    have hlt : c0.toNatClampNeg < 128 := by have q := nat_of p0; have q2 : c0.toInt < 128 := by { have q3 := Int32.lt_iff_toInt_lt.mp hhi; exact q3 }; omega
    have hb0 : c0.toNatClampNeg.toInt32 = c0 := (back32 p0).1
    obtain ⟨T2, X2, e2, st2⟩ := getS2 X1 hx hZ hown (host := "") (Or.inl (hw _ (List.mem_of_getElem? (i := 5) rfl))) Via.refl e1 S0 (g := (mkF m 8 #[.val (.int c0)] [])) rfl (hb hby own_d_prog_30_method_4_code_8)
    refine own_go st2 ?_
    show own_E p e below _ T2 (mkF m 11 #[.val (.int c0)] [(.ref w0)])
    refine own_iloadN X2 hx (hb hby own_d_prog_30_method_4_code_11) rfl ?_
    show own_E p e below _ T2 (mkF m 12 #[.val (.int c0)] [(.int c0), (.ref w0)])
    refine own_zaload X2 hx hZ e2 A0 (v := .int (own_tok c0)) (by rw [z0]; exact fun q => q.elim p0 (fun q2 => absurd hlt (Nat.not_lt.mpr q2))) (by rw [t0 _ hlt, hb0]) (hb hby own_d_prog_30_method_4_code_12) ?_
    show own_E p e below _ T2 (mkF m 13 #[.val (.int c0)] [(.int (own_tok c0))])
    by_cases hz : (own_tok c0) = 0
    · skip
      refine own_ifYes X2 hx (hb hby own_d_prog_30_method_4_code_13) (Jvm.Free.XT.i0_eq_t hz) 20 (by decide) (by decide) ?_
      show own_E p e below _ T2 (mkF m 20 #[.val (.int c0)] [])
      refine own_iconst X2 hx (hb hby own_d_prog_30_method_4_code_20) (v := (0 : Int32)) (by decide) ?_
      show own_E p e below _ T2 (mkF m 21 #[.val (.int c0)] [(.int (0 : Int32))])
      refine own_retN X2 hx (t := .boolean) Bd.returns (by simp) hlk (hb hby own_d_prog_30_method_4_code_21) (z' := (0 : Int32)) (by decide) (by decide) (by decide) ?_
      rw [e2]
      exact ⟨by rw [hz], N0, rfl⟩
    · skip
      refine own_ifNo X2 hx (hb hby own_d_prog_30_method_4_code_13) (Jvm.Free.XT.i0_eq_f hz) ?_
      show own_E p e below _ T2 (mkF m 16 #[.val (.int c0)] [])
      refine own_iconst X2 hx (hb hby own_d_prog_30_method_4_code_16) (v := (1 : Int32)) (by decide) ?_
      show own_E p e below _ T2 (mkF m 17 #[.val (.int c0)] [(.int (1 : Int32))])
      refine own_goto X2 hx (hb hby own_d_prog_30_method_4_code_17) 21 (by decide) (by decide) ?_
      show own_E p e below _ T2 (mkF m 21 #[.val (.int c0)] [(.int (1 : Int32))])
      refine own_retN X2 hx (t := .boolean) Bd.returns (by simp) hlk (hb hby own_d_prog_30_method_4_code_21) (z' := (1 : Int32)) (by decide) (by decide) (by decide) ?_
      rw [e2]
      exact ⟨by rw [(own_tok01 c0).resolve_left hz], N0, rfl⟩
  · skip
    refine own_icmpYes X1 hx (hb hby own_d_prog_30_method_4_code_5) (Jvm.Free.XT.ii_ge_t hhi) 20 (by decide) (by decide) ?_
    show own_E p e below _ T1 (mkF m 20 #[.val (.int c0)] [])
    refine own_iconst X1 hx (hb hby own_d_prog_30_method_4_code_20) (v := (0 : Int32)) (by decide) ?_
    show own_E p e below _ T1 (mkF m 21 #[.val (.int c0)] [(.int (0 : Int32))])
    refine own_retN X1 hx (t := .boolean) Bd.returns (by simp) hlk (hb hby own_d_prog_30_method_4_code_21) (z' := (0 : Int32)) (by decide) (by decide) (by decide) ?_
    rw [e1]
    exact ⟨by rw [own_tok_hi hhi], N0, rfl⟩

theorem own_pn1 : plainName "com/example/callweave/callweave/message/SyntaxIsTokenCharPinLaw" = true := by first | (simp [plainName, overriddenIn]; done) | decide +kernel
theorem own_ef2 (m : MethodId) (x0 : Int32) : entryFrame m #[(.int x0)] 1 = mkF m 0 #[.val (.int x0)] [] := by first | (simp [entryFrame, mkF, argsToLocals, Value.category]; done) | rfl
theorem own_d_method_2_code_42 : decode method_2_code 42 = .ok (.iload_n 0, 1) := by decide +kernel
theorem own_d_method_2_code_43 : decode method_2_code 43 = .ok (.bipush 45, 2) := by decide +kernel
theorem own_d_method_2_code_45 : decode method_2_code 45 = .ok (.if_icmp .eq 57, 3) := by decide +kernel
theorem own_d_method_2_code_102 : decode method_2_code 102 = .ok (.iconst 1, 1) := by decide +kernel
theorem own_d_method_2_code_103 : decode method_2_code 103 = .ok (.goto 4, 3) := by decide +kernel
theorem own_d_method_2_code_107 : decode method_2_code 107 = .ok (.ireturn, 1) := by decide +kernel
theorem own_d_method_2_code_48 : decode method_2_code 48 = .ok (.iload_n 0, 1) := by decide +kernel
theorem own_d_method_2_code_49 : decode method_2_code 49 = .ok (.bipush 46, 2) := by decide +kernel
theorem own_d_method_2_code_51 : decode method_2_code 51 = .ok (.if_icmp .eq 51, 3) := by decide +kernel
theorem own_d_method_2_code_54 : decode method_2_code 54 = .ok (.iload_n 0, 1) := by decide +kernel
theorem own_d_method_2_code_55 : decode method_2_code 55 = .ok (.bipush 33, 2) := by decide +kernel
theorem own_d_method_2_code_57 : decode method_2_code 57 = .ok (.if_icmp .eq 45, 3) := by decide +kernel
theorem own_d_method_2_code_60 : decode method_2_code 60 = .ok (.iload_n 0, 1) := by decide +kernel
theorem own_d_method_2_code_61 : decode method_2_code 61 = .ok (.bipush 37, 2) := by decide +kernel
theorem own_d_method_2_code_63 : decode method_2_code 63 = .ok (.if_icmp .eq 39, 3) := by decide +kernel
theorem own_d_method_2_code_66 : decode method_2_code 66 = .ok (.iload_n 0, 1) := by decide +kernel
theorem own_d_method_2_code_67 : decode method_2_code 67 = .ok (.bipush 42, 2) := by decide +kernel
theorem own_d_method_2_code_69 : decode method_2_code 69 = .ok (.if_icmp .eq 33, 3) := by decide +kernel
theorem own_d_method_2_code_72 : decode method_2_code 72 = .ok (.iload_n 0, 1) := by decide +kernel
theorem own_d_method_2_code_73 : decode method_2_code 73 = .ok (.bipush 95, 2) := by decide +kernel
theorem own_d_method_2_code_75 : decode method_2_code 75 = .ok (.if_icmp .eq 27, 3) := by decide +kernel
theorem own_d_method_2_code_78 : decode method_2_code 78 = .ok (.iload_n 0, 1) := by decide +kernel
theorem own_d_method_2_code_79 : decode method_2_code 79 = .ok (.bipush 43, 2) := by decide +kernel
theorem own_d_method_2_code_81 : decode method_2_code 81 = .ok (.if_icmp .eq 21, 3) := by decide +kernel
theorem own_d_method_2_code_84 : decode method_2_code 84 = .ok (.iload_n 0, 1) := by decide +kernel
theorem own_d_method_2_code_85 : decode method_2_code 85 = .ok (.bipush 96, 2) := by decide +kernel
theorem own_d_method_2_code_87 : decode method_2_code 87 = .ok (.if_icmp .eq 15, 3) := by decide +kernel
theorem own_d_method_2_code_90 : decode method_2_code 90 = .ok (.iload_n 0, 1) := by decide +kernel
theorem own_d_method_2_code_91 : decode method_2_code 91 = .ok (.bipush 39, 2) := by decide +kernel
theorem own_d_method_2_code_93 : decode method_2_code 93 = .ok (.if_icmp .eq 9, 3) := by decide +kernel
theorem own_d_method_2_code_96 : decode method_2_code 96 = .ok (.iload_n 0, 1) := by decide +kernel
theorem own_d_method_2_code_97 : decode method_2_code 97 = .ok (.bipush 126, 2) := by decide +kernel
theorem own_d_method_2_code_99 : decode method_2_code 99 = .ok (.if_icmp .ne 7, 3) := by decide +kernel
theorem own_d_method_2_code_106 : decode method_2_code 106 = .ok (.iconst 0, 1) := by decide +kernel
theorem own_d_method_2_code_28 : decode method_2_code 28 = .ok (.iload_n 0, 1) := by decide +kernel
theorem own_d_method_2_code_29 : decode method_2_code 29 = .ok (.bipush 48, 2) := by decide +kernel
theorem own_d_method_2_code_31 : decode method_2_code 31 = .ok (.if_icmp .lt 11, 3) := by decide +kernel
theorem own_d_method_2_code_34 : decode method_2_code 34 = .ok (.iload_n 0, 1) := by decide +kernel
theorem own_d_method_2_code_35 : decode method_2_code 35 = .ok (.bipush 57, 2) := by decide +kernel
theorem own_d_method_2_code_37 : decode method_2_code 37 = .ok (.if_icmp .gt 5, 3) := by decide +kernel
theorem own_d_method_2_code_40 : decode method_2_code 40 = .ok (.iconst 1, 1) := by decide +kernel
theorem own_d_method_2_code_41 : decode method_2_code 41 = .ok (.ireturn, 1) := by decide +kernel
theorem own_d_method_2_code_14 : decode method_2_code 14 = .ok (.iload_n 0, 1) := by decide +kernel
theorem own_d_method_2_code_15 : decode method_2_code 15 = .ok (.bipush 65, 2) := by decide +kernel
theorem own_d_method_2_code_17 : decode method_2_code 17 = .ok (.if_icmp .lt 11, 3) := by decide +kernel
theorem own_d_method_2_code_20 : decode method_2_code 20 = .ok (.iload_n 0, 1) := by decide +kernel
theorem own_d_method_2_code_21 : decode method_2_code 21 = .ok (.bipush 90, 2) := by decide +kernel
theorem own_d_method_2_code_23 : decode method_2_code 23 = .ok (.if_icmp .gt 5, 3) := by decide +kernel
theorem own_d_method_2_code_26 : decode method_2_code 26 = .ok (.iconst 1, 1) := by decide +kernel
theorem own_d_method_2_code_27 : decode method_2_code 27 = .ok (.ireturn, 1) := by decide +kernel
theorem own_d_method_2_code_0 : decode method_2_code 0 = .ok (.iload_n 0, 1) := by decide +kernel
theorem own_d_method_2_code_1 : decode method_2_code 1 = .ok (.bipush 97, 2) := by decide +kernel
theorem own_d_method_2_code_3 : decode method_2_code 3 = .ok (.if_icmp .lt 11, 3) := by decide +kernel
theorem own_d_method_2_code_6 : decode method_2_code 6 = .ok (.iload_n 0, 1) := by decide +kernel
theorem own_d_method_2_code_7 : decode method_2_code 7 = .ok (.bipush 122, 2) := by decide +kernel
theorem own_d_method_2_code_9 : decode method_2_code 9 = .ok (.if_icmp .gt 5, 3) := by decide +kernel
theorem own_d_method_2_code_12 : decode method_2_code 12 = .ok (.iconst 1, 1) := by decide +kernel
theorem own_d_method_2_code_13 : decode method_2_code 13 = .ok (.ireturn, 1) := by decide +kernel
set_option maxRecDepth 65536 in
set_option maxHeartbeats 40000000 in
theorem own_rmR (l : Launch) (Z : State) (a0 : Array Value) (hw : ∀ d ∈ tables_1, d.before a0 Z = true) (ws : List Jvm.Cond) (c0 : Int32) (h0 : Heap) (n0 : Nat) (Z0 : n0 ≤ h0.size)  :
    MetFree l (⟨"com/example/callweave/callweave/message/SyntaxIsTokenCharPinLaw", "ref", "(C)Z"⟩ : MethodName) (head1 (Jvm.Cond.code (⟨"com/example/callweave/callweave/message/SyntaxIsTokenCharPinLaw", "ref", "(C)Z"⟩ : MethodName) method_2_code 1 (some .boolean) :: ws) ({ frames := 0, cells := 0, slots := 0, locals := 0 } : Room)) (fun a U => a = #[(.int c0)] ∧ Z.Warmed39 U.vm ∧ U.heap = h0) (fun _ _ _ _ _ => True) (fun _ U o U' => ∃ v L, o = .returned v ∧ own_QT (own_tok c0) h0 n0 v U'.heap L ∧ FrameEnd U o U' L ({ frames := 0, cells := 0, slots := 0, locals := 0 } : Room).cells ({ frames := 0, cells := 0, slots := 0, locals := 0 } : Room).slots) := by
  refine MetFree.of_bodySF (plainFor_of_name own_pn1) hisR ?_
  intro p e s m args below meth c s₁ Bd hml0 hP hK
  obtain ⟨rfl, hZ, hh⟩ := hP
  have hx := Bd.exec
  have hby := Bd.bytes
  have hlk : meth.locks = false := Bd.notSynchronized
  have hml : c.maxLocals = 1 := hml0
  have hown : s.vm.findClass "com/example/callweave/callweave/message/SyntaxIsTokenCharPinLaw" = some m.cls := findClass_of_methodNamed Bd.named
  have hnm := (name_of_methodNamed Bd.named Bd.method).1
  have X0 : Stand p l e ({ frames := 0, cells := 0, slots := 0, locals := 0 } : Room) s m #[(.int c0)] below meth c s₁ [] 0 0 := Stand.of_body Bd
  have e0 : s₁.heap = h0 := by rw [← hh, Bd.state]; rfl
  have N0 := Fr.nil n0
  show own_E p e below (own_P s (own_QT (own_tok c0) h0 n0) ({ frames := 0, cells := 0, slots := 0, locals := 0 } : Room).cells ({ frames := 0, cells := 0, slots := 0, locals := 0 } : Room).slots) s₁ (entryFrame m #[(.int c0)] 1)
  refine own_cast (own_ef2 m c0) ?_
  have j42 : ¬ (¬ c0 < 97 ∧ ¬ 122 < c0) → ¬ (¬ c0 < 65 ∧ ¬ 90 < c0) → ¬ (¬ c0 < 48 ∧ ¬ 57 < c0) →  own_E p e below (own_P s (own_QT (own_tok c0) h0 n0) ({ frames := 0, cells := 0, slots := 0, locals := 0 } : Room).cells ({ frames := 0, cells := 0, slots := 0, locals := 0 } : Room).slots) s₁ (mkF m 42 #[.val (.int c0)] []) := by
    intro u0 u14 u28
    refine own_iloadN X0 hx (hb hby own_d_method_2_code_42) rfl ?_
    show own_E p e below _ s₁ (mkF m 43 #[.val (.int c0)] [(.int c0)])
    refine own_bipush X0 hx (hb hby own_d_method_2_code_43) (v := (45 : Int32)) (by decide) ?_
    show own_E p e below _ s₁ (mkF m 45 #[.val (.int c0)] [(.int (45 : Int32)), (.int c0)])
    by_cases hc3 : c0 = (45 : Int32)
    · skip
      refine own_icmpYes X0 hx (hb hby own_d_method_2_code_45) (Jvm.Free.XT.ii_eq_t hc3) 102 (by decide) (by decide) ?_
      show own_E p e below _ s₁ (mkF m 102 #[.val (.int c0)] [])
      refine own_iconst X0 hx (hb hby own_d_method_2_code_102) (v := (1 : Int32)) (by decide) ?_
      show own_E p e below _ s₁ (mkF m 103 #[.val (.int c0)] [(.int (1 : Int32))])
      refine own_goto X0 hx (hb hby own_d_method_2_code_103) 107 (by decide) (by decide) ?_
      show own_E p e below _ s₁ (mkF m 107 #[.val (.int c0)] [(.int (1 : Int32))])
      refine own_retN X0 hx (t := .boolean) Bd.returns (by simp) hlk (hb hby own_d_method_2_code_107) (z' := (1 : Int32)) (by decide) (by decide) (by decide) ?_
      rw [e0]
      exact ⟨by rw [own_tok, if_neg u0, if_neg u14, if_neg u28, if_pos hc3], N0, rfl⟩
    · skip
      refine own_icmpNo X0 hx (hb hby own_d_method_2_code_45) (Jvm.Free.XT.ii_eq_f hc3) ?_
      show own_E p e below _ s₁ (mkF m 48 #[.val (.int c0)] [])
      refine own_iloadN X0 hx (hb hby own_d_method_2_code_48) rfl ?_
      show own_E p e below _ s₁ (mkF m 49 #[.val (.int c0)] [(.int c0)])
      refine own_bipush X0 hx (hb hby own_d_method_2_code_49) (v := (46 : Int32)) (by decide) ?_
      show own_E p e below _ s₁ (mkF m 51 #[.val (.int c0)] [(.int (46 : Int32)), (.int c0)])
      by_cases hc4 : c0 = (46 : Int32)
      · skip
        refine own_icmpYes X0 hx (hb hby own_d_method_2_code_51) (Jvm.Free.XT.ii_eq_t hc4) 102 (by decide) (by decide) ?_
        show own_E p e below _ s₁ (mkF m 102 #[.val (.int c0)] [])
        refine own_iconst X0 hx (hb hby own_d_method_2_code_102) (v := (1 : Int32)) (by decide) ?_
        show own_E p e below _ s₁ (mkF m 103 #[.val (.int c0)] [(.int (1 : Int32))])
        refine own_goto X0 hx (hb hby own_d_method_2_code_103) 107 (by decide) (by decide) ?_
        show own_E p e below _ s₁ (mkF m 107 #[.val (.int c0)] [(.int (1 : Int32))])
        refine own_retN X0 hx (t := .boolean) Bd.returns (by simp) hlk (hb hby own_d_method_2_code_107) (z' := (1 : Int32)) (by decide) (by decide) (by decide) ?_
        rw [e0]
        exact ⟨by rw [own_tok, if_neg u0, if_neg u14, if_neg u28, if_neg hc3, if_pos hc4], N0, rfl⟩
      · skip
        refine own_icmpNo X0 hx (hb hby own_d_method_2_code_51) (Jvm.Free.XT.ii_eq_f hc4) ?_
        show own_E p e below _ s₁ (mkF m 54 #[.val (.int c0)] [])
        refine own_iloadN X0 hx (hb hby own_d_method_2_code_54) rfl ?_
        show own_E p e below _ s₁ (mkF m 55 #[.val (.int c0)] [(.int c0)])
        refine own_bipush X0 hx (hb hby own_d_method_2_code_55) (v := (33 : Int32)) (by decide) ?_
        show own_E p e below _ s₁ (mkF m 57 #[.val (.int c0)] [(.int (33 : Int32)), (.int c0)])
        by_cases hc5 : c0 = (33 : Int32)
        · skip
          refine own_icmpYes X0 hx (hb hby own_d_method_2_code_57) (Jvm.Free.XT.ii_eq_t hc5) 102 (by decide) (by decide) ?_
          show own_E p e below _ s₁ (mkF m 102 #[.val (.int c0)] [])
          refine own_iconst X0 hx (hb hby own_d_method_2_code_102) (v := (1 : Int32)) (by decide) ?_
          show own_E p e below _ s₁ (mkF m 103 #[.val (.int c0)] [(.int (1 : Int32))])
          refine own_goto X0 hx (hb hby own_d_method_2_code_103) 107 (by decide) (by decide) ?_
          show own_E p e below _ s₁ (mkF m 107 #[.val (.int c0)] [(.int (1 : Int32))])
          refine own_retN X0 hx (t := .boolean) Bd.returns (by simp) hlk (hb hby own_d_method_2_code_107) (z' := (1 : Int32)) (by decide) (by decide) (by decide) ?_
          rw [e0]
          exact ⟨by rw [own_tok, if_neg u0, if_neg u14, if_neg u28, if_neg hc3, if_neg hc4, if_pos hc5], N0, rfl⟩
        · skip
          refine own_icmpNo X0 hx (hb hby own_d_method_2_code_57) (Jvm.Free.XT.ii_eq_f hc5) ?_
          show own_E p e below _ s₁ (mkF m 60 #[.val (.int c0)] [])
          refine own_iloadN X0 hx (hb hby own_d_method_2_code_60) rfl ?_
          show own_E p e below _ s₁ (mkF m 61 #[.val (.int c0)] [(.int c0)])
          refine own_bipush X0 hx (hb hby own_d_method_2_code_61) (v := (37 : Int32)) (by decide) ?_
          show own_E p e below _ s₁ (mkF m 63 #[.val (.int c0)] [(.int (37 : Int32)), (.int c0)])
          by_cases hc6 : c0 = (37 : Int32)
          · skip
            refine own_icmpYes X0 hx (hb hby own_d_method_2_code_63) (Jvm.Free.XT.ii_eq_t hc6) 102 (by decide) (by decide) ?_
            show own_E p e below _ s₁ (mkF m 102 #[.val (.int c0)] [])
            refine own_iconst X0 hx (hb hby own_d_method_2_code_102) (v := (1 : Int32)) (by decide) ?_
            show own_E p e below _ s₁ (mkF m 103 #[.val (.int c0)] [(.int (1 : Int32))])
            refine own_goto X0 hx (hb hby own_d_method_2_code_103) 107 (by decide) (by decide) ?_
            show own_E p e below _ s₁ (mkF m 107 #[.val (.int c0)] [(.int (1 : Int32))])
            refine own_retN X0 hx (t := .boolean) Bd.returns (by simp) hlk (hb hby own_d_method_2_code_107) (z' := (1 : Int32)) (by decide) (by decide) (by decide) ?_
            rw [e0]
            exact ⟨by rw [own_tok, if_neg u0, if_neg u14, if_neg u28, if_neg hc3, if_neg hc4, if_neg hc5, if_pos hc6], N0, rfl⟩
          · skip
            refine own_icmpNo X0 hx (hb hby own_d_method_2_code_63) (Jvm.Free.XT.ii_eq_f hc6) ?_
            show own_E p e below _ s₁ (mkF m 66 #[.val (.int c0)] [])
            refine own_iloadN X0 hx (hb hby own_d_method_2_code_66) rfl ?_
            show own_E p e below _ s₁ (mkF m 67 #[.val (.int c0)] [(.int c0)])
            refine own_bipush X0 hx (hb hby own_d_method_2_code_67) (v := (42 : Int32)) (by decide) ?_
            show own_E p e below _ s₁ (mkF m 69 #[.val (.int c0)] [(.int (42 : Int32)), (.int c0)])
            by_cases hc7 : c0 = (42 : Int32)
            · skip
              refine own_icmpYes X0 hx (hb hby own_d_method_2_code_69) (Jvm.Free.XT.ii_eq_t hc7) 102 (by decide) (by decide) ?_
              show own_E p e below _ s₁ (mkF m 102 #[.val (.int c0)] [])
              refine own_iconst X0 hx (hb hby own_d_method_2_code_102) (v := (1 : Int32)) (by decide) ?_
              show own_E p e below _ s₁ (mkF m 103 #[.val (.int c0)] [(.int (1 : Int32))])
              refine own_goto X0 hx (hb hby own_d_method_2_code_103) 107 (by decide) (by decide) ?_
              show own_E p e below _ s₁ (mkF m 107 #[.val (.int c0)] [(.int (1 : Int32))])
              refine own_retN X0 hx (t := .boolean) Bd.returns (by simp) hlk (hb hby own_d_method_2_code_107) (z' := (1 : Int32)) (by decide) (by decide) (by decide) ?_
              rw [e0]
              exact ⟨by rw [own_tok, if_neg u0, if_neg u14, if_neg u28, if_neg hc3, if_neg hc4, if_neg hc5, if_neg hc6, if_pos hc7], N0, rfl⟩
            · skip
              refine own_icmpNo X0 hx (hb hby own_d_method_2_code_69) (Jvm.Free.XT.ii_eq_f hc7) ?_
              show own_E p e below _ s₁ (mkF m 72 #[.val (.int c0)] [])
              refine own_iloadN X0 hx (hb hby own_d_method_2_code_72) rfl ?_
              show own_E p e below _ s₁ (mkF m 73 #[.val (.int c0)] [(.int c0)])
              refine own_bipush X0 hx (hb hby own_d_method_2_code_73) (v := (95 : Int32)) (by decide) ?_
              show own_E p e below _ s₁ (mkF m 75 #[.val (.int c0)] [(.int (95 : Int32)), (.int c0)])
              by_cases hc8 : c0 = (95 : Int32)
              · skip
                refine own_icmpYes X0 hx (hb hby own_d_method_2_code_75) (Jvm.Free.XT.ii_eq_t hc8) 102 (by decide) (by decide) ?_
                show own_E p e below _ s₁ (mkF m 102 #[.val (.int c0)] [])
                refine own_iconst X0 hx (hb hby own_d_method_2_code_102) (v := (1 : Int32)) (by decide) ?_
                show own_E p e below _ s₁ (mkF m 103 #[.val (.int c0)] [(.int (1 : Int32))])
                refine own_goto X0 hx (hb hby own_d_method_2_code_103) 107 (by decide) (by decide) ?_
                show own_E p e below _ s₁ (mkF m 107 #[.val (.int c0)] [(.int (1 : Int32))])
                refine own_retN X0 hx (t := .boolean) Bd.returns (by simp) hlk (hb hby own_d_method_2_code_107) (z' := (1 : Int32)) (by decide) (by decide) (by decide) ?_
                rw [e0]
                exact ⟨by rw [own_tok, if_neg u0, if_neg u14, if_neg u28, if_neg hc3, if_neg hc4, if_neg hc5, if_neg hc6, if_neg hc7, if_pos hc8], N0, rfl⟩
              · skip
                refine own_icmpNo X0 hx (hb hby own_d_method_2_code_75) (Jvm.Free.XT.ii_eq_f hc8) ?_
                show own_E p e below _ s₁ (mkF m 78 #[.val (.int c0)] [])
                refine own_iloadN X0 hx (hb hby own_d_method_2_code_78) rfl ?_
                show own_E p e below _ s₁ (mkF m 79 #[.val (.int c0)] [(.int c0)])
                refine own_bipush X0 hx (hb hby own_d_method_2_code_79) (v := (43 : Int32)) (by decide) ?_
                show own_E p e below _ s₁ (mkF m 81 #[.val (.int c0)] [(.int (43 : Int32)), (.int c0)])
                by_cases hc9 : c0 = (43 : Int32)
                · skip
                  refine own_icmpYes X0 hx (hb hby own_d_method_2_code_81) (Jvm.Free.XT.ii_eq_t hc9) 102 (by decide) (by decide) ?_
                  show own_E p e below _ s₁ (mkF m 102 #[.val (.int c0)] [])
                  refine own_iconst X0 hx (hb hby own_d_method_2_code_102) (v := (1 : Int32)) (by decide) ?_
                  show own_E p e below _ s₁ (mkF m 103 #[.val (.int c0)] [(.int (1 : Int32))])
                  refine own_goto X0 hx (hb hby own_d_method_2_code_103) 107 (by decide) (by decide) ?_
                  show own_E p e below _ s₁ (mkF m 107 #[.val (.int c0)] [(.int (1 : Int32))])
                  refine own_retN X0 hx (t := .boolean) Bd.returns (by simp) hlk (hb hby own_d_method_2_code_107) (z' := (1 : Int32)) (by decide) (by decide) (by decide) ?_
                  rw [e0]
                  exact ⟨by rw [own_tok, if_neg u0, if_neg u14, if_neg u28, if_neg hc3, if_neg hc4, if_neg hc5, if_neg hc6, if_neg hc7, if_neg hc8, if_pos hc9], N0, rfl⟩
                · skip
                  refine own_icmpNo X0 hx (hb hby own_d_method_2_code_81) (Jvm.Free.XT.ii_eq_f hc9) ?_
                  show own_E p e below _ s₁ (mkF m 84 #[.val (.int c0)] [])
                  refine own_iloadN X0 hx (hb hby own_d_method_2_code_84) rfl ?_
                  show own_E p e below _ s₁ (mkF m 85 #[.val (.int c0)] [(.int c0)])
                  refine own_bipush X0 hx (hb hby own_d_method_2_code_85) (v := (96 : Int32)) (by decide) ?_
                  show own_E p e below _ s₁ (mkF m 87 #[.val (.int c0)] [(.int (96 : Int32)), (.int c0)])
                  by_cases hc10 : c0 = (96 : Int32)
                  · skip
                    refine own_icmpYes X0 hx (hb hby own_d_method_2_code_87) (Jvm.Free.XT.ii_eq_t hc10) 102 (by decide) (by decide) ?_
                    show own_E p e below _ s₁ (mkF m 102 #[.val (.int c0)] [])
                    refine own_iconst X0 hx (hb hby own_d_method_2_code_102) (v := (1 : Int32)) (by decide) ?_
                    show own_E p e below _ s₁ (mkF m 103 #[.val (.int c0)] [(.int (1 : Int32))])
                    refine own_goto X0 hx (hb hby own_d_method_2_code_103) 107 (by decide) (by decide) ?_
                    show own_E p e below _ s₁ (mkF m 107 #[.val (.int c0)] [(.int (1 : Int32))])
                    refine own_retN X0 hx (t := .boolean) Bd.returns (by simp) hlk (hb hby own_d_method_2_code_107) (z' := (1 : Int32)) (by decide) (by decide) (by decide) ?_
                    rw [e0]
                    exact ⟨by rw [own_tok, if_neg u0, if_neg u14, if_neg u28, if_neg hc3, if_neg hc4, if_neg hc5, if_neg hc6, if_neg hc7, if_neg hc8, if_neg hc9, if_pos hc10], N0, rfl⟩
                  · skip
                    refine own_icmpNo X0 hx (hb hby own_d_method_2_code_87) (Jvm.Free.XT.ii_eq_f hc10) ?_
                    show own_E p e below _ s₁ (mkF m 90 #[.val (.int c0)] [])
                    refine own_iloadN X0 hx (hb hby own_d_method_2_code_90) rfl ?_
                    show own_E p e below _ s₁ (mkF m 91 #[.val (.int c0)] [(.int c0)])
                    refine own_bipush X0 hx (hb hby own_d_method_2_code_91) (v := (39 : Int32)) (by decide) ?_
                    show own_E p e below _ s₁ (mkF m 93 #[.val (.int c0)] [(.int (39 : Int32)), (.int c0)])
                    by_cases hc11 : c0 = (39 : Int32)
                    · skip
                      refine own_icmpYes X0 hx (hb hby own_d_method_2_code_93) (Jvm.Free.XT.ii_eq_t hc11) 102 (by decide) (by decide) ?_
                      show own_E p e below _ s₁ (mkF m 102 #[.val (.int c0)] [])
                      refine own_iconst X0 hx (hb hby own_d_method_2_code_102) (v := (1 : Int32)) (by decide) ?_
                      show own_E p e below _ s₁ (mkF m 103 #[.val (.int c0)] [(.int (1 : Int32))])
                      refine own_goto X0 hx (hb hby own_d_method_2_code_103) 107 (by decide) (by decide) ?_
                      show own_E p e below _ s₁ (mkF m 107 #[.val (.int c0)] [(.int (1 : Int32))])
                      refine own_retN X0 hx (t := .boolean) Bd.returns (by simp) hlk (hb hby own_d_method_2_code_107) (z' := (1 : Int32)) (by decide) (by decide) (by decide) ?_
                      rw [e0]
                      exact ⟨by rw [own_tok, if_neg u0, if_neg u14, if_neg u28, if_neg hc3, if_neg hc4, if_neg hc5, if_neg hc6, if_neg hc7, if_neg hc8, if_neg hc9, if_neg hc10, if_pos hc11], N0, rfl⟩
                    · skip
                      refine own_icmpNo X0 hx (hb hby own_d_method_2_code_93) (Jvm.Free.XT.ii_eq_f hc11) ?_
                      show own_E p e below _ s₁ (mkF m 96 #[.val (.int c0)] [])
                      refine own_iloadN X0 hx (hb hby own_d_method_2_code_96) rfl ?_
                      show own_E p e below _ s₁ (mkF m 97 #[.val (.int c0)] [(.int c0)])
                      refine own_bipush X0 hx (hb hby own_d_method_2_code_97) (v := (126 : Int32)) (by decide) ?_
                      show own_E p e below _ s₁ (mkF m 99 #[.val (.int c0)] [(.int (126 : Int32)), (.int c0)])
                      by_cases hc12 : c0 = (126 : Int32)
                      · skip
                        refine own_icmpNo X0 hx (hb hby own_d_method_2_code_99) (Jvm.Free.XT.ii_ne_f hc12) ?_
                        show own_E p e below _ s₁ (mkF m 102 #[.val (.int c0)] [])
                        refine own_iconst X0 hx (hb hby own_d_method_2_code_102) (v := (1 : Int32)) (by decide) ?_
                        show own_E p e below _ s₁ (mkF m 103 #[.val (.int c0)] [(.int (1 : Int32))])
                        refine own_goto X0 hx (hb hby own_d_method_2_code_103) 107 (by decide) (by decide) ?_
                        show own_E p e below _ s₁ (mkF m 107 #[.val (.int c0)] [(.int (1 : Int32))])
                        refine own_retN X0 hx (t := .boolean) Bd.returns (by simp) hlk (hb hby own_d_method_2_code_107) (z' := (1 : Int32)) (by decide) (by decide) (by decide) ?_
                        rw [e0]
                        exact ⟨by rw [own_tok, if_neg u0, if_neg u14, if_neg u28, if_neg hc3, if_neg hc4, if_neg hc5, if_neg hc6, if_neg hc7, if_neg hc8, if_neg hc9, if_neg hc10, if_neg hc11, if_pos hc12], N0, rfl⟩
                      · skip
                        refine own_icmpYes X0 hx (hb hby own_d_method_2_code_99) (Jvm.Free.XT.ii_ne_t hc12) 106 (by decide) (by decide) ?_
                        show own_E p e below _ s₁ (mkF m 106 #[.val (.int c0)] [])
                        refine own_iconst X0 hx (hb hby own_d_method_2_code_106) (v := (0 : Int32)) (by decide) ?_
                        show own_E p e below _ s₁ (mkF m 107 #[.val (.int c0)] [(.int (0 : Int32))])
                        refine own_retN X0 hx (t := .boolean) Bd.returns (by simp) hlk (hb hby own_d_method_2_code_107) (z' := (0 : Int32)) (by decide) (by decide) (by decide) ?_
                        rw [e0]
                        exact ⟨by rw [own_tok, if_neg u0, if_neg u14, if_neg u28, if_neg hc3, if_neg hc4, if_neg hc5, if_neg hc6, if_neg hc7, if_neg hc8, if_neg hc9, if_neg hc10, if_neg hc11, if_neg hc12], N0, rfl⟩
  have j28 : ¬ (¬ c0 < 97 ∧ ¬ 122 < c0) → ¬ (¬ c0 < 65 ∧ ¬ 90 < c0) →  own_E p e below (own_P s (own_QT (own_tok c0) h0 n0) ({ frames := 0, cells := 0, slots := 0, locals := 0 } : Room).cells ({ frames := 0, cells := 0, slots := 0, locals := 0 } : Room).slots) s₁ (mkF m 28 #[.val (.int c0)] []) := by
    intro u0 u14
    refine own_iloadN X0 hx (hb hby own_d_method_2_code_28) rfl ?_
    show own_E p e below _ s₁ (mkF m 29 #[.val (.int c0)] [(.int c0)])
    refine own_bipush X0 hx (hb hby own_d_method_2_code_29) (v := (48 : Int32)) (by decide) ?_
    show own_E p e below _ s₁ (mkF m 31 #[.val (.int c0)] [(.int (48 : Int32)), (.int c0)])
    by_cases ha : c0 < (48 : Int32)
    · skip
      refine own_icmpYes X0 hx (hb hby own_d_method_2_code_31) (Jvm.Free.XT.ii_lt_t ha) 42 (by decide) (by decide) ?_
      show own_E p e below _ s₁ (mkF m 42 #[.val (.int c0)] [])
      exact j42 u0 u14 (fun q => q.1 ha)
    · skip
      refine own_icmpNo X0 hx (hb hby own_d_method_2_code_31) (Jvm.Free.XT.ii_lt_f ha) ?_
      show own_E p e below _ s₁ (mkF m 34 #[.val (.int c0)] [])
      refine own_iloadN X0 hx (hb hby own_d_method_2_code_34) rfl ?_
      show own_E p e below _ s₁ (mkF m 35 #[.val (.int c0)] [(.int c0)])
      refine own_bipush X0 hx (hb hby own_d_method_2_code_35) (v := (57 : Int32)) (by decide) ?_
      show own_E p e below _ s₁ (mkF m 37 #[.val (.int c0)] [(.int (57 : Int32)), (.int c0)])
      by_cases hb2 : (57 : Int32) < c0
      · skip
        refine own_icmpYes X0 hx (hb hby own_d_method_2_code_37) (Jvm.Free.XT.ii_gt_t hb2) 42 (by decide) (by decide) ?_
        show own_E p e below _ s₁ (mkF m 42 #[.val (.int c0)] [])
        exact j42 u0 u14 (fun q => q.2 hb2)
      · skip
        refine own_icmpNo X0 hx (hb hby own_d_method_2_code_37) (Jvm.Free.XT.ii_gt_f hb2) ?_
        show own_E p e below _ s₁ (mkF m 40 #[.val (.int c0)] [])
        refine own_iconst X0 hx (hb hby own_d_method_2_code_40) (v := (1 : Int32)) (by decide) ?_
        show own_E p e below _ s₁ (mkF m 41 #[.val (.int c0)] [(.int (1 : Int32))])
        refine own_retN X0 hx (t := .boolean) Bd.returns (by simp) hlk (hb hby own_d_method_2_code_41) (z' := (1 : Int32)) (by decide) (by decide) (by decide) ?_
        rw [e0]
        exact ⟨by rw [own_tok, if_neg u0, if_neg u14, if_pos ⟨ha, hb2⟩], N0, rfl⟩
  have j14 : ¬ (¬ c0 < 97 ∧ ¬ 122 < c0) →  own_E p e below (own_P s (own_QT (own_tok c0) h0 n0) ({ frames := 0, cells := 0, slots := 0, locals := 0 } : Room).cells ({ frames := 0, cells := 0, slots := 0, locals := 0 } : Room).slots) s₁ (mkF m 14 #[.val (.int c0)] []) := by
    intro u0
    refine own_iloadN X0 hx (hb hby own_d_method_2_code_14) rfl ?_
    show own_E p e below _ s₁ (mkF m 15 #[.val (.int c0)] [(.int c0)])
    refine own_bipush X0 hx (hb hby own_d_method_2_code_15) (v := (65 : Int32)) (by decide) ?_
    show own_E p e below _ s₁ (mkF m 17 #[.val (.int c0)] [(.int (65 : Int32)), (.int c0)])
    by_cases ha : c0 < (65 : Int32)
    · skip
      refine own_icmpYes X0 hx (hb hby own_d_method_2_code_17) (Jvm.Free.XT.ii_lt_t ha) 28 (by decide) (by decide) ?_
      show own_E p e below _ s₁ (mkF m 28 #[.val (.int c0)] [])
      exact j28 u0 (fun q => q.1 ha)
    · skip
      refine own_icmpNo X0 hx (hb hby own_d_method_2_code_17) (Jvm.Free.XT.ii_lt_f ha) ?_
      show own_E p e below _ s₁ (mkF m 20 #[.val (.int c0)] [])
      refine own_iloadN X0 hx (hb hby own_d_method_2_code_20) rfl ?_
      show own_E p e below _ s₁ (mkF m 21 #[.val (.int c0)] [(.int c0)])
      refine own_bipush X0 hx (hb hby own_d_method_2_code_21) (v := (90 : Int32)) (by decide) ?_
      show own_E p e below _ s₁ (mkF m 23 #[.val (.int c0)] [(.int (90 : Int32)), (.int c0)])
      by_cases hb2 : (90 : Int32) < c0
      · skip
        refine own_icmpYes X0 hx (hb hby own_d_method_2_code_23) (Jvm.Free.XT.ii_gt_t hb2) 28 (by decide) (by decide) ?_
        show own_E p e below _ s₁ (mkF m 28 #[.val (.int c0)] [])
        exact j28 u0 (fun q => q.2 hb2)
      · skip
        refine own_icmpNo X0 hx (hb hby own_d_method_2_code_23) (Jvm.Free.XT.ii_gt_f hb2) ?_
        show own_E p e below _ s₁ (mkF m 26 #[.val (.int c0)] [])
        refine own_iconst X0 hx (hb hby own_d_method_2_code_26) (v := (1 : Int32)) (by decide) ?_
        show own_E p e below _ s₁ (mkF m 27 #[.val (.int c0)] [(.int (1 : Int32))])
        refine own_retN X0 hx (t := .boolean) Bd.returns (by simp) hlk (hb hby own_d_method_2_code_27) (z' := (1 : Int32)) (by decide) (by decide) (by decide) ?_
        rw [e0]
        exact ⟨by rw [own_tok, if_neg u0, if_pos ⟨ha, hb2⟩], N0, rfl⟩
  show own_E p e below _ s₁ (mkF m 0 #[.val (.int c0)] [])
  refine own_iloadN X0 hx (hb hby own_d_method_2_code_0) rfl ?_
  show own_E p e below _ s₁ (mkF m 1 #[.val (.int c0)] [(.int c0)])
  refine own_bipush X0 hx (hb hby own_d_method_2_code_1) (v := (97 : Int32)) (by decide) ?_
  show own_E p e below _ s₁ (mkF m 3 #[.val (.int c0)] [(.int (97 : Int32)), (.int c0)])
  by_cases ha : c0 < (97 : Int32)
  · skip
    refine own_icmpYes X0 hx (hb hby own_d_method_2_code_3) (Jvm.Free.XT.ii_lt_t ha) 14 (by decide) (by decide) ?_
    show own_E p e below _ s₁ (mkF m 14 #[.val (.int c0)] [])
    exact j14  (fun q => q.1 ha)
  · skip
    refine own_icmpNo X0 hx (hb hby own_d_method_2_code_3) (Jvm.Free.XT.ii_lt_f ha) ?_
    show own_E p e below _ s₁ (mkF m 6 #[.val (.int c0)] [])
    refine own_iloadN X0 hx (hb hby own_d_method_2_code_6) rfl ?_
    show own_E p e below _ s₁ (mkF m 7 #[.val (.int c0)] [(.int c0)])
    refine own_bipush X0 hx (hb hby own_d_method_2_code_7) (v := (122 : Int32)) (by decide) ?_
    show own_E p e below _ s₁ (mkF m 9 #[.val (.int c0)] [(.int (122 : Int32)), (.int c0)])
    by_cases hb2 : (122 : Int32) < c0
    · skip
      refine own_icmpYes X0 hx (hb hby own_d_method_2_code_9) (Jvm.Free.XT.ii_gt_t hb2) 14 (by decide) (by decide) ?_
      show own_E p e below _ s₁ (mkF m 14 #[.val (.int c0)] [])
      exact j14  (fun q => q.2 hb2)
    · skip
      refine own_icmpNo X0 hx (hb hby own_d_method_2_code_9) (Jvm.Free.XT.ii_gt_f hb2) ?_
      show own_E p e below _ s₁ (mkF m 12 #[.val (.int c0)] [])
      refine own_iconst X0 hx (hb hby own_d_method_2_code_12) (v := (1 : Int32)) (by decide) ?_
      show own_E p e below _ s₁ (mkF m 13 #[.val (.int c0)] [(.int (1 : Int32))])
      refine own_retN X0 hx (t := .boolean) Bd.returns (by simp) hlk (hb hby own_d_method_2_code_13) (z' := (1 : Int32)) (by decide) (by decide) (by decide) ?_
      rw [e0]
      exact ⟨by rw [own_tok, if_pos ⟨ha, hb2⟩], N0, rfl⟩

theorem own_ef3 (m : MethodId) (x0 : Int32) (x1 : Int32) : entryFrame m #[(.int x0), (.int x1)] maxLocals = mkF m 0 #[.val (.int x0), .val (.int x1), .unset, .unset, .unset, .unset] [] := by first | (simp [entryFrame, mkF, argsToLocals, Value.category, maxLocals]; done) | rfl
theorem own_pd0 : parseMethodDescriptor "(C)Z" = some ⟨[.char], some .boolean⟩ := by decide +kernel
set_option maxRecDepth 65536 in
set_option maxHeartbeats 40000000 in
theorem own_rm0 (l : Launch) (Z : State) (a0 : Array Value) (hw : ∀ d ∈ tables_1, d.before a0 Z = true) (ws : List Jvm.Cond) (i0 i1 : Int32) (w0 : Addr) (cw : Cell) (h0 : Heap) (n0 : Nat) (Z0 : n0 ≤ h0.size) (S0 : Sta Z h0 "com/example/callweave/callweave/message/Syntax" "TOKEN_CHARS" "[Z" (.ref w0)) (A0 : Arr Z h0 w0 cw .boolean) (z0 : cw.slots.size = 128) (t0 : ∀ k, k < 128 → cw.slots[k]? = some (.int (own_tok k.toInt32))) :
    MetFree l x (head1 (Jvm.Cond.code x code maxLocals ret :: ws) room_1) (fun a U => a = #[(.int i0), (.int i1)] ∧ Z.Warmed39 U.vm ∧ U.heap = h0) (fun _ _ _ _ _ => True) (fun _ U o U' => ∃ v L, o = .returned v ∧ own_QT 1 h0 n0 v U'.heap L ∧ FrameEnd U o U' L room_1.cells room_1.slots) := by
  refine MetFree.of_bodySF (plainFor_of_name own_pn1) hisR ?_
  intro p e s m args below meth c s₁ Bd hml0 hP hK
  obtain ⟨rfl, hZ, hh⟩ := hP
  have hx := Bd.exec
  have hby := Bd.bytes
  have hlk : meth.locks = false := Bd.notSynchronized
  have hml : c.maxLocals = 6 := hml0
  have hown : s.vm.findClass "com/example/callweave/callweave/message/SyntaxIsTokenCharPinLaw" = some m.cls := findClass_of_methodNamed Bd.named
  have hnm := (name_of_methodNamed Bd.named Bd.method).1
  have X0 : Stand p l e room_1 s m #[(.int i0), (.int i1)] below meth c s₁ [] 0 0 := Stand.of_body Bd
  have e0 : s₁.heap = h0 := by rw [← hh, Bd.state]; rfl
  have N0 := Fr.nil n0
  show own_E p e below (own_P s (own_QT 1 h0 n0) room_1.cells room_1.slots) s₁ (entryFrame m #[(.int i0), (.int i1)] maxLocals)
  refine own_cast (own_ef3 m i0 i1) ?_
  show own_E p e below _ s₁ (mkF m 0 #[.val (.int i0), .val (.int i1), .unset, .unset, .unset, .unset] [])
  refine own_iloadN X0 hx (hb hby at_0) rfl ?_
  show own_E p e below _ s₁ (mkF m 1 #[.val (.int i0), .val (.int i1), .unset, .unset, .unset, .unset] [(.int i0)])
  refine own_go (fun _ k => X0.ldcI hx hown (mvT hZ (hw _ (List.mem_of_getElem? (i := 0) rfl))) rfl (hb hby at_1) k) ?_
  show own_E p e below _ s₁ (mkF m 3 #[.val (.int i0), .val (.int i1), .unset, .unset, .unset, .unset] [(.int (65535 : Int32)), (.int i0)])
  refine own_iand X0 hx (hb hby at_3) (z := (i0 &&& (65535 : Int32))) rfl ?_
  show own_E p e below _ s₁ (mkF m 4 #[.val (.int i0), .val (.int i1), .unset, .unset, .unset, .unset] [(.int (i0 &&& (65535 : Int32)))])
  refine own_i2c X0 hx (hb hby at_4) (z := ((i0 &&& (65535 : Int32)).toUInt32.toUInt16.toUInt32.toInt32)) rfl ?_
  show own_E p e below _ s₁ (mkF m 5 #[.val (.int i0), .val (.int i1), .unset, .unset, .unset, .unset] [(.int ((i0 &&& (65535 : Int32)).toUInt32.toUInt16.toUInt32.toInt32))])
  refine own_istoreN X0 hx (hb hby at_5) (l' := #[.val (.int i0), .val (.int i1), .val (.int ((i0 &&& (65535 : Int32)).toUInt32.toUInt16.toUInt32.toInt32)), .unset, .unset, .unset]) rfl ?_
  show own_E p e below _ s₁ (mkF m 6 #[.val (.int i0), .val (.int i1), .val (.int ((i0 &&& (65535 : Int32)).toUInt32.toUInt16.toUInt32.toInt32)), .unset, .unset, .unset] [])
  refine own_iloadN X0 hx (hb hby at_6) rfl ?_
  show own_E p e below _ s₁ (mkF m 7 #[.val (.int i0), .val (.int i1), .val (.int ((i0 &&& (65535 : Int32)).toUInt32.toUInt16.toUInt32.toInt32)), .unset, .unset, .unset] [(.int i1)])
  refine own_bipush X0 hx (hb hby at_7) (v := (127 : Int32)) (by decide) ?_
  show own_E p e below _ s₁ (mkF m 9 #[.val (.int i0), .val (.int i1), .val (.int ((i0 &&& (65535 : Int32)).toUInt32.toUInt16.toUInt32.toInt32)), .unset, .unset, .unset] [(.int (127 : Int32)), (.int i1)])
  refine own_iand X0 hx (hb hby at_9) (z := (i1 &&& (127 : Int32))) rfl ?_
  show own_E p e below _ s₁ (mkF m 10 #[.val (.int i0), .val (.int i1), .val (.int ((i0 &&& (65535 : Int32)).toUInt32.toUInt16.toUInt32.toInt32)), .unset, .unset, .unset] [(.int (i1 &&& (127 : Int32)))])
  refine own_i2c X0 hx (hb hby at_10) (z := ((i1 &&& (127 : Int32)).toUInt32.toUInt16.toUInt32.toInt32)) rfl ?_
  show own_E p e below _ s₁ (mkF m 11 #[.val (.int i0), .val (.int i1), .val (.int ((i0 &&& (65535 : Int32)).toUInt32.toUInt16.toUInt32.toInt32)), .unset, .unset, .unset] [(.int ((i1 &&& (127 : Int32)).toUInt32.toUInt16.toUInt32.toInt32))])
  refine own_istoreN X0 hx (hb hby at_11) (l' := #[.val (.int i0), .val (.int i1), .val (.int ((i0 &&& (65535 : Int32)).toUInt32.toUInt16.toUInt32.toInt32)), .val (.int ((i1 &&& (127 : Int32)).toUInt32.toUInt16.toUInt32.toInt32)), .unset, .unset]) rfl ?_
  show own_E p e below _ s₁ (mkF m 12 #[.val (.int i0), .val (.int i1), .val (.int ((i0 &&& (65535 : Int32)).toUInt32.toUInt16.toUInt32.toInt32)), .val (.int ((i1 &&& (127 : Int32)).toUInt32.toUInt16.toUInt32.toInt32)), .unset, .unset] [])
  refine own_iloadN X0 hx (hb hby at_12) rfl ?_
  show own_E p e below _ s₁ (mkF m 13 #[.val (.int i0), .val (.int i1), .val (.int ((i0 &&& (65535 : Int32)).toUInt32.toUInt16.toUInt32.toInt32)), .val (.int ((i1 &&& (127 : Int32)).toUInt32.toUInt16.toUInt32.toInt32)), .unset, .unset] [(.int ((i0 &&& (65535 : Int32)).toUInt32.toUInt16.toUInt32.toInt32))])
  obtain ⟨_, _, ⟨T13, L13, k13, n13⟩, -, X13, ⟨Lc13, hQ13, l13, y13, z13⟩, st13⟩ := Jvm.LawKit.callS X0 hx (y := (⟨"com/example/callweave/callweave/message/Syntax", "isTokenChar", "(C)Z"⟩ : MethodName)) hown (mvT hZ (hw _ (List.mem_of_getElem? (i := 1) rfl))) (mvT hZ (hw _ (List.mem_of_getElem? (i := 2) rfl))) (mvT hZ (hw _ (List.mem_of_getElem? (i := 3) rfl))) (mvT hZ (hw _ (List.mem_of_getElem? (i := 4) rfl))) (by decide) (backOf (W := 0) (own_rmT l Z a0 hw [] ((i0 &&& (65535 : Int32)).toUInt32.toUInt16.toUInt32.toInt32) w0 cw h0 n0 Z0 S0 A0 z0 t0 (own_char _)) hZ (hw _ (List.mem_of_getElem? (i := 4) rfl)) (hw _ (List.mem_of_getElem? (i := 3) rfl)) (by decide) (by decide)) (g := (mkF m 13 #[.val (.int i0), .val (.int i1), .val (.int ((i0 &&& (65535 : Int32)).toUInt32.toUInt16.toUInt32.toInt32)), .val (.int ((i1 &&& (127 : Int32)).toUInt32.toUInt16.toUInt32.toInt32)), .unset, .unset] [(.int ((i0 &&& (65535 : Int32)).toUInt32.toUInt16.toUInt32.toInt32))])) rfl (by rw [hml]; rfl) (argsL := [(.int ((i0 &&& (65535 : Int32)).toUInt32.toUInt16.toUInt32.toInt32))]) (rest := []) (lenOf own_pd0 rfl) rfl (by show 2 * 0 + _ ≤ _; exact Nat.le_of_eq rfl) (hb hby at_13) (fun _ _ => ⟨rfl, e0, Nat.le_of_ble_eq_true rfl, Nat.le_of_ble_eq_true rfl⟩)
  dsimp only [Pt.U, Pt.locs, Pt.cells, Pt.slots] at X13 l13 y13 z13 st13 hQ13
  subst l13 y13 z13
  obtain ⟨rfl, M13, e13⟩ := hQ13
  have N13 := Fr.app N0 M13
  refine own_go st13 ?_
  show own_E p e below _ T13 (mkF m 16 #[.val (.int i0), .val (.int i1), .val (.int ((i0 &&& (65535 : Int32)).toUInt32.toUInt16.toUInt32.toInt32)), .val (.int ((i1 &&& (127 : Int32)).toUInt32.toUInt16.toUInt32.toInt32)), .unset, .unset] [(.int (own_tok ((i0 &&& (65535 : Int32)).toUInt32.toUInt16.toUInt32.toInt32)))])
  refine own_iloadN X13 hx (hb hby at_16) rfl ?_
  show own_E p e below _ T13 (mkF m 17 #[.val (.int i0), .val (.int i1), .val (.int ((i0 &&& (65535 : Int32)).toUInt32.toUInt16.toUInt32.toInt32)), .val (.int ((i1 &&& (127 : Int32)).toUInt32.toUInt16.toUInt32.toInt32)), .unset, .unset] [(.int ((i0 &&& (65535 : Int32)).toUInt32.toUInt16.toUInt32.toInt32)), (.int (own_tok ((i0 &&& (65535 : Int32)).toUInt32.toUInt16.toUInt32.toInt32)))])
  obtain ⟨_, _, ⟨T14, L14, k14, n14⟩, -, X14, ⟨Lc14, hQ14, l14, y14, z14⟩, st14⟩ := Jvm.LawKit.callS X13 hx (y := (⟨"com/example/callweave/callweave/message/SyntaxIsTokenCharPinLaw", "ref", "(C)Z"⟩ : MethodName)) hown (mvT hZ (hw _ (List.mem_of_getElem? (i := 7) rfl))) (mvT hZ (hw _ (List.mem_of_getElem? (i := 8) rfl))) (mvT hZ (hw _ (List.mem_of_getElem? (i := 9) rfl))) (mvT hZ (hw _ (List.mem_of_getElem? (i := 10) rfl))) (by decide) (backOf (W := 1) (own_rmR l Z a0 hw [] ((i0 &&& (65535 : Int32)).toUInt32.toUInt16.toUInt32.toInt32) h0 n0 Z0) hZ (hw _ (List.mem_of_getElem? (i := 10) rfl)) (hw _ (List.mem_of_getElem? (i := 9) rfl)) (by decide) (by decide)) (g := (mkF m 17 #[.val (.int i0), .val (.int i1), .val (.int ((i0 &&& (65535 : Int32)).toUInt32.toUInt16.toUInt32.toInt32)), .val (.int ((i1 &&& (127 : Int32)).toUInt32.toUInt16.toUInt32.toInt32)), .unset, .unset] [(.int ((i0 &&& (65535 : Int32)).toUInt32.toUInt16.toUInt32.toInt32)), (.int (own_tok ((i0 &&& (65535 : Int32)).toUInt32.toUInt16.toUInt32.toInt32)))])) rfl (by rw [hml]; rfl) (argsL := [(.int ((i0 &&& (65535 : Int32)).toUInt32.toUInt16.toUInt32.toInt32))]) (rest := [(.int (own_tok ((i0 &&& (65535 : Int32)).toUInt32.toUInt16.toUInt32.toInt32)))]) (lenOf own_pd0 rfl) rfl (by show 2 * 0 + _ ≤ _; exact Nat.le_of_eq rfl) (hb hby at_17) (fun _ _ => ⟨rfl, e13, Nat.le_of_ble_eq_true rfl, Nat.le_of_ble_eq_true rfl⟩)
  dsimp only [Pt.U, Pt.locs, Pt.cells, Pt.slots] at X14 l14 y14 z14 st14 hQ14
  subst l14 y14 z14
  obtain ⟨rfl, M14, e14⟩ := hQ14
  have N14 := Fr.app N13 M14
  refine own_go st14 ?_
  show own_E p e below _ T14 (mkF m 20 #[.val (.int i0), .val (.int i1), .val (.int ((i0 &&& (65535 : Int32)).toUInt32.toUInt16.toUInt32.toInt32)), .val (.int ((i1 &&& (127 : Int32)).toUInt32.toUInt16.toUInt32.toInt32)), .unset, .unset] [(.int (own_tok ((i0 &&& (65535 : Int32)).toUInt32.toUInt16.toUInt32.toInt32))), (.int (own_tok ((i0 &&& (65535 : Int32)).toUInt32.toUInt16.toUInt32.toInt32)))])
  refine own_icmpNo X14 hx (hb hby at_20) (Jvm.Free.XT.ii_ne_f rfl) ?_
  show own_E p e below _ T14 (mkF m 23 #[.val (.int i0), .val (.int i1), .val (.int ((i0 &&& (65535 : Int32)).toUInt32.toUInt16.toUInt32.toInt32)), .val (.int ((i1 &&& (127 : Int32)).toUInt32.toUInt16.toUInt32.toInt32)), .unset, .unset] [])
  refine own_iconst X14 hx (hb hby at_23) (v := (1 : Int32)) (by decide) ?_
  show own_E p e below _ T14 (mkF m 24 #[.val (.int i0), .val (.int i1), .val (.int ((i0 &&& (65535 : Int32)).toUInt32.toUInt16.toUInt32.toInt32)), .val (.int ((i1 &&& (127 : Int32)).toUInt32.toUInt16.toUInt32.toInt32)), .unset, .unset] [(.int (1 : Int32))])
  refine own_goto X14 hx (hb hby at_24) 28 (by decide) (by decide) ?_
  show own_E p e below _ T14 (mkF m 28 #[.val (.int i0), .val (.int i1), .val (.int ((i0 &&& (65535 : Int32)).toUInt32.toUInt16.toUInt32.toInt32)), .val (.int ((i1 &&& (127 : Int32)).toUInt32.toUInt16.toUInt32.toInt32)), .unset, .unset] [(.int (1 : Int32))])
  refine own_istore X14 hx (hb hby at_28) (l' := #[.val (.int i0), .val (.int i1), .val (.int ((i0 &&& (65535 : Int32)).toUInt32.toUInt16.toUInt32.toInt32)), .val (.int ((i1 &&& (127 : Int32)).toUInt32.toUInt16.toUInt32.toInt32)), .val (.int (1 : Int32)), .unset]) rfl ?_
  show own_E p e below _ T14 (mkF m 30 #[.val (.int i0), .val (.int i1), .val (.int ((i0 &&& (65535 : Int32)).toUInt32.toUInt16.toUInt32.toInt32)), .val (.int ((i1 &&& (127 : Int32)).toUInt32.toUInt16.toUInt32.toInt32)), .val (.int (1 : Int32)), .unset] [])
  refine own_iloadN X14 hx (hb hby at_30) rfl ?_
  show own_E p e below _ T14 (mkF m 31 #[.val (.int i0), .val (.int i1), .val (.int ((i0 &&& (65535 : Int32)).toUInt32.toUInt16.toUInt32.toInt32)), .val (.int ((i1 &&& (127 : Int32)).toUInt32.toUInt16.toUInt32.toInt32)), .val (.int (1 : Int32)), .unset] [(.int ((i1 &&& (127 : Int32)).toUInt32.toUInt16.toUInt32.toInt32))])
  obtain ⟨_, _, ⟨T15, L15, k15, n15⟩, -, X15, ⟨Lc15, hQ15, l15, y15, z15⟩, st15⟩ := Jvm.LawKit.callS X14 hx (y := (⟨"com/example/callweave/callweave/message/Syntax", "isTokenChar", "(C)Z"⟩ : MethodName)) hown (mvT hZ (hw _ (List.mem_of_getElem? (i := 1) rfl))) (mvT hZ (hw _ (List.mem_of_getElem? (i := 2) rfl))) (mvT hZ (hw _ (List.mem_of_getElem? (i := 3) rfl))) (mvT hZ (hw _ (List.mem_of_getElem? (i := 4) rfl))) (by decide) (backOf (W := 0) (own_rmT l Z a0 hw [] ((i1 &&& (127 : Int32)).toUInt32.toUInt16.toUInt32.toInt32) w0 cw h0 n0 Z0 S0 A0 z0 t0 (own_char _)) hZ (hw _ (List.mem_of_getElem? (i := 4) rfl)) (hw _ (List.mem_of_getElem? (i := 3) rfl)) (by decide) (by decide)) (g := (mkF m 31 #[.val (.int i0), .val (.int i1), .val (.int ((i0 &&& (65535 : Int32)).toUInt32.toUInt16.toUInt32.toInt32)), .val (.int ((i1 &&& (127 : Int32)).toUInt32.toUInt16.toUInt32.toInt32)), .val (.int (1 : Int32)), .unset] [(.int ((i1 &&& (127 : Int32)).toUInt32.toUInt16.toUInt32.toInt32))])) rfl (by rw [hml]; rfl) (argsL := [(.int ((i1 &&& (127 : Int32)).toUInt32.toUInt16.toUInt32.toInt32))]) (rest := []) (lenOf own_pd0 rfl) rfl (by show 2 * 0 + _ ≤ _; exact Nat.le_of_eq rfl) (hb hby at_31) (fun _ _ => ⟨rfl, e14, Nat.le_of_ble_eq_true rfl, Nat.le_of_ble_eq_true rfl⟩)
  dsimp only [Pt.U, Pt.locs, Pt.cells, Pt.slots] at X15 l15 y15 z15 st15 hQ15
  subst l15 y15 z15
  obtain ⟨rfl, M15, e15⟩ := hQ15
  have N15 := Fr.app N14 M15
  refine own_go st15 ?_
  show own_E p e below _ T15 (mkF m 34 #[.val (.int i0), .val (.int i1), .val (.int ((i0 &&& (65535 : Int32)).toUInt32.toUInt16.toUInt32.toInt32)), .val (.int ((i1 &&& (127 : Int32)).toUInt32.toUInt16.toUInt32.toInt32)), .val (.int (1 : Int32)), .unset] [(.int (own_tok ((i1 &&& (127 : Int32)).toUInt32.toUInt16.toUInt32.toInt32)))])
  refine own_iloadN X15 hx (hb hby at_34) rfl ?_
  show own_E p e below _ T15 (mkF m 35 #[.val (.int i0), .val (.int i1), .val (.int ((i0 &&& (65535 : Int32)).toUInt32.toUInt16.toUInt32.toInt32)), .val (.int ((i1 &&& (127 : Int32)).toUInt32.toUInt16.toUInt32.toInt32)), .val (.int (1 : Int32)), .unset] [(.int ((i1 &&& (127 : Int32)).toUInt32.toUInt16.toUInt32.toInt32)), (.int (own_tok ((i1 &&& (127 : Int32)).toUInt32.toUInt16.toUInt32.toInt32)))])
  obtain ⟨_, _, ⟨T16, L16, k16, n16⟩, -, X16, ⟨Lc16, hQ16, l16, y16, z16⟩, st16⟩ := Jvm.LawKit.callS X15 hx (y := (⟨"com/example/callweave/callweave/message/SyntaxIsTokenCharPinLaw", "ref", "(C)Z"⟩ : MethodName)) hown (mvT hZ (hw _ (List.mem_of_getElem? (i := 7) rfl))) (mvT hZ (hw _ (List.mem_of_getElem? (i := 8) rfl))) (mvT hZ (hw _ (List.mem_of_getElem? (i := 9) rfl))) (mvT hZ (hw _ (List.mem_of_getElem? (i := 10) rfl))) (by decide) (backOf (W := 1) (own_rmR l Z a0 hw [] ((i1 &&& (127 : Int32)).toUInt32.toUInt16.toUInt32.toInt32) h0 n0 Z0) hZ (hw _ (List.mem_of_getElem? (i := 10) rfl)) (hw _ (List.mem_of_getElem? (i := 9) rfl)) (by decide) (by decide)) (g := (mkF m 35 #[.val (.int i0), .val (.int i1), .val (.int ((i0 &&& (65535 : Int32)).toUInt32.toUInt16.toUInt32.toInt32)), .val (.int ((i1 &&& (127 : Int32)).toUInt32.toUInt16.toUInt32.toInt32)), .val (.int (1 : Int32)), .unset] [(.int ((i1 &&& (127 : Int32)).toUInt32.toUInt16.toUInt32.toInt32)), (.int (own_tok ((i1 &&& (127 : Int32)).toUInt32.toUInt16.toUInt32.toInt32)))])) rfl (by rw [hml]; rfl) (argsL := [(.int ((i1 &&& (127 : Int32)).toUInt32.toUInt16.toUInt32.toInt32))]) (rest := [(.int (own_tok ((i1 &&& (127 : Int32)).toUInt32.toUInt16.toUInt32.toInt32)))]) (lenOf own_pd0 rfl) rfl (by show 2 * 0 + _ ≤ _; exact Nat.le_of_eq rfl) (hb hby at_35) (fun _ _ => ⟨rfl, e15, Nat.le_of_ble_eq_true rfl, Nat.le_of_ble_eq_true rfl⟩)
  dsimp only [Pt.U, Pt.locs, Pt.cells, Pt.slots] at X16 l16 y16 z16 st16 hQ16
  subst l16 y16 z16
  obtain ⟨rfl, M16, e16⟩ := hQ16
  have N16 := Fr.app N15 M16
  refine own_go st16 ?_
  show own_E p e below _ T16 (mkF m 38 #[.val (.int i0), .val (.int i1), .val (.int ((i0 &&& (65535 : Int32)).toUInt32.toUInt16.toUInt32.toInt32)), .val (.int ((i1 &&& (127 : Int32)).toUInt32.toUInt16.toUInt32.toInt32)), .val (.int (1 : Int32)), .unset] [(.int (own_tok ((i1 &&& (127 : Int32)).toUInt32.toUInt16.toUInt32.toInt32))), (.int (own_tok ((i1 &&& (127 : Int32)).toUInt32.toUInt16.toUInt32.toInt32)))])
  refine own_icmpNo X16 hx (hb hby at_38) (Jvm.Free.XT.ii_ne_f rfl) ?_
  show own_E p e below _ T16 (mkF m 41 #[.val (.int i0), .val (.int i1), .val (.int ((i0 &&& (65535 : Int32)).toUInt32.toUInt16.toUInt32.toInt32)), .val (.int ((i1 &&& (127 : Int32)).toUInt32.toUInt16.toUInt32.toInt32)), .val (.int (1 : Int32)), .unset] [])
  refine own_iconst X16 hx (hb hby at_41) (v := (1 : Int32)) (by decide) ?_
  show own_E p e below _ T16 (mkF m 42 #[.val (.int i0), .val (.int i1), .val (.int ((i0 &&& (65535 : Int32)).toUInt32.toUInt16.toUInt32.toInt32)), .val (.int ((i1 &&& (127 : Int32)).toUInt32.toUInt16.toUInt32.toInt32)), .val (.int (1 : Int32)), .unset] [(.int (1 : Int32))])
  refine own_goto X16 hx (hb hby at_42) 46 (by decide) (by decide) ?_
  show own_E p e below _ T16 (mkF m 46 #[.val (.int i0), .val (.int i1), .val (.int ((i0 &&& (65535 : Int32)).toUInt32.toUInt16.toUInt32.toInt32)), .val (.int ((i1 &&& (127 : Int32)).toUInt32.toUInt16.toUInt32.toInt32)), .val (.int (1 : Int32)), .unset] [(.int (1 : Int32))])
  refine own_istore X16 hx (hb hby at_46) (l' := #[.val (.int i0), .val (.int i1), .val (.int ((i0 &&& (65535 : Int32)).toUInt32.toUInt16.toUInt32.toInt32)), .val (.int ((i1 &&& (127 : Int32)).toUInt32.toUInt16.toUInt32.toInt32)), .val (.int (1 : Int32)), .val (.int (1 : Int32))]) rfl ?_
  show own_E p e below _ T16 (mkF m 48 #[.val (.int i0), .val (.int i1), .val (.int ((i0 &&& (65535 : Int32)).toUInt32.toUInt16.toUInt32.toInt32)), .val (.int ((i1 &&& (127 : Int32)).toUInt32.toUInt16.toUInt32.toInt32)), .val (.int (1 : Int32)), .val (.int (1 : Int32))] [])
  refine own_iload X16 hx (hb hby at_48) rfl ?_
  show own_E p e below _ T16 (mkF m 50 #[.val (.int i0), .val (.int i1), .val (.int ((i0 &&& (65535 : Int32)).toUInt32.toUInt16.toUInt32.toInt32)), .val (.int ((i1 &&& (127 : Int32)).toUInt32.toUInt16.toUInt32.toInt32)), .val (.int (1 : Int32)), .val (.int (1 : Int32))] [(.int (1 : Int32))])
  refine own_ifNo X16 hx (hb hby at_50) (by decide +kernel) ?_
  show own_E p e below _ T16 (mkF m 53 #[.val (.int i0), .val (.int i1), .val (.int ((i0 &&& (65535 : Int32)).toUInt32.toUInt16.toUInt32.toInt32)), .val (.int ((i1 &&& (127 : Int32)).toUInt32.toUInt16.toUInt32.toInt32)), .val (.int (1 : Int32)), .val (.int (1 : Int32))] [])
  refine own_iload X16 hx (hb hby at_53) rfl ?_
  show own_E p e below _ T16 (mkF m 55 #[.val (.int i0), .val (.int i1), .val (.int ((i0 &&& (65535 : Int32)).toUInt32.toUInt16.toUInt32.toInt32)), .val (.int ((i1 &&& (127 : Int32)).toUInt32.toUInt16.toUInt32.toInt32)), .val (.int (1 : Int32)), .val (.int (1 : Int32))] [(.int (1 : Int32))])
  refine own_ifNo X16 hx (hb hby at_55) (by decide +kernel) ?_
  show own_E p e below _ T16 (mkF m 58 #[.val (.int i0), .val (.int i1), .val (.int ((i0 &&& (65535 : Int32)).toUInt32.toUInt16.toUInt32.toInt32)), .val (.int ((i1 &&& (127 : Int32)).toUInt32.toUInt16.toUInt32.toInt32)), .val (.int (1 : Int32)), .val (.int (1 : Int32))] [])
  refine own_iconst X16 hx (hb hby at_58) (v := (1 : Int32)) (by decide) ?_
  show own_E p e below _ T16 (mkF m 59 #[.val (.int i0), .val (.int i1), .val (.int ((i0 &&& (65535 : Int32)).toUInt32.toUInt16.toUInt32.toInt32)), .val (.int ((i1 &&& (127 : Int32)).toUInt32.toUInt16.toUInt32.toInt32)), .val (.int (1 : Int32)), .val (.int (1 : Int32))] [(.int (1 : Int32))])
  refine own_goto X16 hx (hb hby at_59) 63 (by decide) (by decide) ?_
  show own_E p e below _ T16 (mkF m 63 #[.val (.int i0), .val (.int i1), .val (.int ((i0 &&& (65535 : Int32)).toUInt32.toUInt16.toUInt32.toInt32)), .val (.int ((i1 &&& (127 : Int32)).toUInt32.toUInt16.toUInt32.toInt32)), .val (.int (1 : Int32)), .val (.int (1 : Int32))] [(.int (1 : Int32))])
  refine own_retN X16 hx (t := .boolean) Bd.returns (by simp) hlk (hb hby at_63) (z' := (1 : Int32)) (by decide) (by decide) (by decide) ?_
  rw [e16]
  exact ⟨rfl, N16, rfl⟩

theorem own_or {args : Array Value} {first s : State} {o : Option Outcome} {idx : List Nat} {c d : Jvm.Cond} (h : (Jvm.Cond.or c d).value args first o s idx = some true) (hc : c.value args first o s idx = some false) : d.value args first o s idx = some true := by
  simp only [Cond.value, hc] at h; exact h
theorem own_el {args : Array Value} {s : State} {idx : List Nat} {t i : Term} {a : Addr} {cl : Cell} {j v : Int32} (ht : t.eval args s none idx s = some (.ref a)) (ha : s.arrayAt? a = some cl) (hi : i.eval args s none idx s = some (.int j)) (hj : ¬ j < 0) (h : (Jvm.Cond.eq (.elem t i) (.int v)).value args s none s idx = some true) : cl.slots[j.toNatClampNeg]? = some (.int v) := by
  obtain ⟨x, y, e1, e2, k1, k2⟩ := cmp_v (Or.inl h)
  have e2' : y = .int v := (Option.some.inj ((Term.int_eval v).symm.trans e2)).symm
  subst e2'
  obtain ⟨z, rfl⟩ := k2
  have q := gotT (Cond.eq_ints e1 (Term.int_eval v)) h
  subst q
  rw [← elem_f ht hi ha hj]; exact e1
theorem own_len {args : Array Value} {s : State} {t : Term} {a : Addr} {cl : Cell} {v : Int32} (ht : t.eval args s none [] s = some (.ref a)) (ha : s.arrayAt? a = some cl) (h : (Jvm.Cond.eq (.length t) (.int v)).value args s none s [] = some true) (hv : 0 ≤ v.toInt) : cl.slots.size = v.toInt.toNat := by
  by_cases hl : cl.slots.size < 2 ^ 31
  · have e := len_f ht ha hl
    have q := gotT (Cond.eq_ints e (Term.int_eval v)) h
    have z := len_toInt hl
    rw [q] at z
    omega
  · simp [Cond.value, Term.eval, ht, ha, hl] at h
theorem own_k {k : Nat} (h : k < 128) : (k.toInt32).toInt = k ∧ ¬ k.toInt32 < 0 ∧ k.toInt32.toNatClampNeg = k := by
  have e := len_toInt (n := k) (by omega)
  have n : ¬ k.toInt32 < 0 := by rw [Int32.lt_iff_toInt_lt, e]; simp
  refine ⟨e, n, ?_⟩
  have := nat_of n
  omega
theorem own_lt {k : Nat} {b : Int32} (h : k < 128) (hb : 0 ≤ b.toInt) : (k.toInt32 < b ↔ k < b.toInt.toNat) ∧ (b ≤ k.toInt32 ↔ b.toInt.toNat ≤ k) := by
  have e := (own_k h).1
  constructor
  · rw [Int32.lt_iff_toInt_lt, e]; omega
  · rw [Int32.le_iff_toInt_le, e]; omega
set_option maxRecDepth 65536 in
set_option maxHeartbeats 4000000 in
theorem own_table {args : Array Value} {s : State} {a : Addr} {cw : Cell} (hS : ∀ idx, (Jvm.Term.static "com/example/callweave/callweave/message/Syntax" "TOKEN_CHARS" "[Z").eval args s none idx s = some (.ref a)) (hA : s.arrayAt? a = some cw) (hz : cw.slots.size = 128) (hn : narrow_1.value args s none s [] = some true) : ∀ k, k < 128 → cw.slots[k]? = some (.int (own_tok k.toInt32)) := by
  obtain ⟨q0, r0⟩ := and_e hn
  obtain ⟨q1, r1⟩ := and_e r0
  obtain ⟨q2, r2⟩ := and_e r1
  obtain ⟨q3, r3⟩ := and_e r2
  obtain ⟨q4, r4⟩ := and_e r3
  obtain ⟨q5, r5⟩ := and_e r4
  obtain ⟨q6, r6⟩ := and_e r5
  obtain ⟨q7, r7⟩ := and_e r6
  obtain ⟨q8, r8⟩ := and_e r7
  obtain ⟨q9, r9⟩ := and_e r8
  obtain ⟨q10, r10⟩ := and_e r9
  obtain ⟨q11, r11⟩ := and_e r10
  obtain ⟨q12, r12⟩ := and_e r11
  obtain ⟨q13, r13⟩ := and_e r12
  obtain ⟨q14, r14⟩ := and_e r13
  obtain ⟨q15, r15⟩ := and_e r14
  obtain ⟨q16, r16⟩ := and_e r15
  obtain ⟨q17, r17⟩ := and_e r16
  obtain ⟨q18, r18⟩ := and_e r17
  obtain ⟨q19, r19⟩ := and_e r18
  obtain ⟨q20, r20⟩ := and_e r19
  obtain ⟨q21, r21⟩ := and_e r20
  obtain ⟨q22, r22⟩ := and_e r21
  obtain ⟨q23, r23⟩ := and_e r22
  obtain ⟨q24, r24⟩ := and_e r23
  obtain ⟨q25, r25⟩ := and_e r24
  obtain ⟨q26, r26⟩ := and_e r25
  have q27 := r26
  have s2 : ∀ k, k < 128 → 0 ≤ k → k < 33 → cw.slots[k]? = some (.int 0) := fun k hk h1 h2 => by
    have w := own_el (j := k.toInt32) (hS _) hA rfl (own_k hk).2.1 (own_or (Cond.all_elim (hS _) hA q2 k (by omega)) (nay (Cond.le_ints (Term.int_eval 33) rfl) (fun z => absurd ((own_lt (b := 33) hk (by decide)).2.mp z) (by simp; omega))))
    rwa [(own_k hk).2.2] at w
  have t2 : ∀ k, k < 33 → 0 ≤ k → own_tok k.toInt32 = 0 := by decide +kernel
  have s3 : cw.slots[(33 : Nat)]? = some (.int 1) := own_el (j := 33) (hS _) hA (Term.int_eval 33) (by decide) q3
  have s4 : cw.slots[(34 : Nat)]? = some (.int 0) := own_el (j := 34) (hS _) hA (Term.int_eval 34) (by decide) q4
  have s5 : cw.slots[(35 : Nat)]? = some (.int 0) := own_el (j := 35) (hS _) hA (Term.int_eval 35) (by decide) q5
  have s6 : cw.slots[(36 : Nat)]? = some (.int 0) := own_el (j := 36) (hS _) hA (Term.int_eval 36) (by decide) q6
  have s7 : cw.slots[(37 : Nat)]? = some (.int 1) := own_el (j := 37) (hS _) hA (Term.int_eval 37) (by decide) q7
  have s8 : cw.slots[(38 : Nat)]? = some (.int 0) := own_el (j := 38) (hS _) hA (Term.int_eval 38) (by decide) q8
  have s9 : cw.slots[(39 : Nat)]? = some (.int 1) := own_el (j := 39) (hS _) hA (Term.int_eval 39) (by decide) q9
  have s10 : cw.slots[(40 : Nat)]? = some (.int 0) := own_el (j := 40) (hS _) hA (Term.int_eval 40) (by decide) q10
  have s11 : cw.slots[(41 : Nat)]? = some (.int 0) := own_el (j := 41) (hS _) hA (Term.int_eval 41) (by decide) q11
  have s12 : cw.slots[(42 : Nat)]? = some (.int 1) := own_el (j := 42) (hS _) hA (Term.int_eval 42) (by decide) q12
  have s13 : cw.slots[(43 : Nat)]? = some (.int 1) := own_el (j := 43) (hS _) hA (Term.int_eval 43) (by decide) q13
  have s14 : cw.slots[(44 : Nat)]? = some (.int 0) := own_el (j := 44) (hS _) hA (Term.int_eval 44) (by decide) q14
  have s15 : cw.slots[(45 : Nat)]? = some (.int 1) := own_el (j := 45) (hS _) hA (Term.int_eval 45) (by decide) q15
  have s16 : cw.slots[(46 : Nat)]? = some (.int 1) := own_el (j := 46) (hS _) hA (Term.int_eval 46) (by decide) q16
  have s17 : cw.slots[(47 : Nat)]? = some (.int 0) := own_el (j := 47) (hS _) hA (Term.int_eval 47) (by decide) q17
  have s18 : ∀ k, k < 128 → 48 ≤ k → k < 58 → cw.slots[k]? = some (.int 1) := fun k hk h1 h2 => by
    have w := own_el (j := k.toInt32) (hS _) hA rfl (own_k hk).2.1 (own_or (own_or (Cond.all_elim (hS _) hA q18 k (by omega)) (nay (Cond.lt_ints rfl (Term.int_eval 48)) (fun z => absurd ((own_lt (b := 48) hk (by decide)).1.mp z) (by simp; omega)))) (nay (Cond.le_ints (Term.int_eval 58) rfl) (fun z => absurd ((own_lt (b := 58) hk (by decide)).2.mp z) (by simp; omega))))
    rwa [(own_k hk).2.2] at w
  have t18 : ∀ k, k < 58 → 48 ≤ k → own_tok k.toInt32 = 1 := by decide +kernel
  have s19 : ∀ k, k < 128 → 58 ≤ k → k < 65 → cw.slots[k]? = some (.int 0) := fun k hk h1 h2 => by
    have w := own_el (j := k.toInt32) (hS _) hA rfl (own_k hk).2.1 (own_or (own_or (Cond.all_elim (hS _) hA q19 k (by omega)) (nay (Cond.lt_ints rfl (Term.int_eval 58)) (fun z => absurd ((own_lt (b := 58) hk (by decide)).1.mp z) (by simp; omega)))) (nay (Cond.le_ints (Term.int_eval 65) rfl) (fun z => absurd ((own_lt (b := 65) hk (by decide)).2.mp z) (by simp; omega))))
    rwa [(own_k hk).2.2] at w
  have t19 : ∀ k, k < 65 → 58 ≤ k → own_tok k.toInt32 = 0 := by decide +kernel
  have s20 : ∀ k, k < 128 → 65 ≤ k → k < 91 → cw.slots[k]? = some (.int 1) := fun k hk h1 h2 => by
    have w := own_el (j := k.toInt32) (hS _) hA rfl (own_k hk).2.1 (own_or (own_or (Cond.all_elim (hS _) hA q20 k (by omega)) (nay (Cond.lt_ints rfl (Term.int_eval 65)) (fun z => absurd ((own_lt (b := 65) hk (by decide)).1.mp z) (by simp; omega)))) (nay (Cond.le_ints (Term.int_eval 91) rfl) (fun z => absurd ((own_lt (b := 91) hk (by decide)).2.mp z) (by simp; omega))))
    rwa [(own_k hk).2.2] at w
  have t20 : ∀ k, k < 91 → 65 ≤ k → own_tok k.toInt32 = 1 := by decide +kernel
  have s21 : ∀ k, k < 128 → 91 ≤ k → k < 95 → cw.slots[k]? = some (.int 0) := fun k hk h1 h2 => by
    have w := own_el (j := k.toInt32) (hS _) hA rfl (own_k hk).2.1 (own_or (own_or (Cond.all_elim (hS _) hA q21 k (by omega)) (nay (Cond.lt_ints rfl (Term.int_eval 91)) (fun z => absurd ((own_lt (b := 91) hk (by decide)).1.mp z) (by simp; omega)))) (nay (Cond.le_ints (Term.int_eval 95) rfl) (fun z => absurd ((own_lt (b := 95) hk (by decide)).2.mp z) (by simp; omega))))
    rwa [(own_k hk).2.2] at w
  have t21 : ∀ k, k < 95 → 91 ≤ k → own_tok k.toInt32 = 0 := by decide +kernel
  have s22 : ∀ k, k < 128 → 95 ≤ k → k < 123 → cw.slots[k]? = some (.int 1) := fun k hk h1 h2 => by
    have w := own_el (j := k.toInt32) (hS _) hA rfl (own_k hk).2.1 (own_or (own_or (Cond.all_elim (hS _) hA q22 k (by omega)) (nay (Cond.lt_ints rfl (Term.int_eval 95)) (fun z => absurd ((own_lt (b := 95) hk (by decide)).1.mp z) (by simp; omega)))) (nay (Cond.le_ints (Term.int_eval 123) rfl) (fun z => absurd ((own_lt (b := 123) hk (by decide)).2.mp z) (by simp; omega))))
    rwa [(own_k hk).2.2] at w
  have t22 : ∀ k, k < 123 → 95 ≤ k → own_tok k.toInt32 = 1 := by decide +kernel
  have s23 : cw.slots[(123 : Nat)]? = some (.int 0) := own_el (j := 123) (hS _) hA (Term.int_eval 123) (by decide) q23
  have s24 : cw.slots[(124 : Nat)]? = some (.int 0) := own_el (j := 124) (hS _) hA (Term.int_eval 124) (by decide) q24
  have s25 : cw.slots[(125 : Nat)]? = some (.int 0) := own_el (j := 125) (hS _) hA (Term.int_eval 125) (by decide) q25
  have s26 : cw.slots[(126 : Nat)]? = some (.int 1) := own_el (j := 126) (hS _) hA (Term.int_eval 126) (by decide) q26
  have s27 : cw.slots[(127 : Nat)]? = some (.int 0) := own_el (j := 127) (hS _) hA (Term.int_eval 127) (by decide) q27
  intro k hk
  rcases (by omega : 0 ≤ k ∧ k < 33 ∨ k = 33 ∨ k = 34 ∨ k = 35 ∨ k = 36 ∨ k = 37 ∨ k = 38 ∨ k = 39 ∨ k = 40 ∨ k = 41 ∨ k = 42 ∨ k = 43 ∨ k = 44 ∨ k = 45 ∨ k = 46 ∨ k = 47 ∨ 48 ≤ k ∧ k < 58 ∨ 58 ≤ k ∧ k < 65 ∨ 65 ≤ k ∧ k < 91 ∨ 91 ≤ k ∧ k < 95 ∨ 95 ≤ k ∧ k < 123 ∨ k = 123 ∨ k = 124 ∨ k = 125 ∨ k = 126 ∨ k = 127) with ⟨u1, u2⟩ | rfl | rfl | rfl | rfl | rfl | rfl | rfl | rfl | rfl | rfl | rfl | rfl | rfl | rfl | rfl | ⟨u1, u2⟩ | ⟨u1, u2⟩ | ⟨u1, u2⟩ | ⟨u1, u2⟩ | ⟨u1, u2⟩ | rfl | rfl | rfl | rfl | rfl
  · rw [s2 k hk u1 u2, t2 k u2 u1]
  · exact s3
  · exact s4
  · exact s5
  · exact s6
  · exact s7
  · exact s8
  · exact s9
  · exact s10
  · exact s11
  · exact s12
  · exact s13
  · exact s14
  · exact s15
  · exact s16
  · exact s17
  · rw [s18 k hk u1 u2, t18 k u2 u1]
  · rw [s19 k hk u1 u2, t19 k u2 u1]
  · rw [s20 k hk u1 u2, t20 k u2 u1]
  · rw [s21 k hk u1 u2, t21 k u2 u1]
  · rw [s22 k hk u1 u2, t22 k u2 u1]
  · exact s23
  · exact s24
  · exact s25
  · exact s26
  · exact s27
set_option maxRecDepth 65536 in
set_option maxHeartbeats 40000000 in
theorem comes_1 {Post : Tables → Env → Array Value → State → Outcome → State → Prop} (hpost : ∀ tb e args s v u, (limb_1_1.after args s (.returned v) u = true ∧ limb_1_2.after args s (.returned v) u = true ∧ True) → FrameEnd s (.returned v) u (Jvm.fieldLocs frame_1_writes args s ++ Jvm.arrayLocs frame_1_arrays args s ++ Jvm.staticLocs frame_1_statics s) 0 0 → Post tb e args s (.returned v) u) :
    ArmFor flags0 classFile x code maxLocals ret World_1 tables_1 room_1 Calls_1 rest_1 Pre_1 Post := by
  intro l hfl _ _ p e ha hc hk s m args below hf hA hF happ hP
  obtain ⟨hcalls, hrest, hpre⟩ := hP
  obtain ⟨-, -, -, hnamed, -, -, -, hat⟩ := (Spec.applies_iff hf).mp happ
  obtain ⟨hg, hn⟩ := and_e (Cond.before_iff.mp (show (Jvm.Cond.and given_1 narrow_1).before args s = true from hpre))
  obtain ⟨hg1, hg2⟩ := and_e hg
  obtain ⟨w0, w1, rfl⟩ : ∃ w0 w1 : Value, args = #[w0, w1] := by
    have hs : args.size = 2 := by simpa [Cond.value, given_1] using hg1
    obtain ⟨L⟩ := args
    match L, hs with
    | [w0, w1], _ => exact ⟨w0, w1, rfl⟩
  have hw := fun d (hd : d ∈ tables_1) => atoms_spec (ws := Jvm.Cond.code x code maxLocals ret :: tables_1) hat d (List.mem_cons_of_mem _ hd)
  have hfit : Fit s := fun {y c} hc i hi => by
    obtain ⟨ha, rfl⟩ := Array.getElem?_eq_some_iff.mp hc
    have q := List.all_eq_true.mp ((Array.all_eq_true_iff_forall_mem.mp hF) _ (Array.getElem_mem ha)) i (List.mem_range.mpr hi)
    simpa [Array.getElem?_eq_getElem hi] using q
  obtain ⟨hk0, hr0⟩ := and_e hg2
  obtain ⟨i0, e0⟩ := is_v hk0
  obtain rfl : w0 = (.int i0) := Option.some.inj e0
  obtain ⟨i1, e1⟩ := is_v hr0
  obtain rfl : w1 = (.int i1) := Option.some.inj e1
  have hn0 := hn
  obtain ⟨n1, n2⟩ := and_e hn
  obtain ⟨w0, ew⟩ := arr_v n1
  obtain ⟨cw, A0⟩ := Arr.start ew n1
  have S0 : Sta s s.heap "com/example/callweave/callweave/message/Syntax" "TOKEN_CHARS" "[Z" (.ref w0) := Sta.start ew (Or.inr ⟨(hw _ (List.mem_of_getElem? (i := 3) rfl)), (hw _ (List.mem_of_getElem? (i := 6) rfl))⟩)
  have hA0 := Arr.fin (Vm.Alike.refl _) A0
  obtain ⟨n3, n4⟩ := and_e n2
  have z0 : cw.slots.size = 128 := by
    exact own_len (v := 128) ew hA0 n3 (by decide)
  obtain ⟨n, o, h1, h2, h3, _, L, rfl, ⟨rfl, N, _⟩, hq⟩ := own_rm0 l s _ hw tables_1 i0 i1 w0 cw s.heap s.heap.size (Nat.le_refl _) S0 A0 z0 (own_table (fun _ => ew) hA0 z0 hn0) p e ha hc hk s m _ below hf ((Spec.applies_iff_loose hf).mp happ).1 ⟨rfl, State.Warmed39.refl s, rfl⟩ trivial
  refine ⟨n, _, h1, h2, h3, hpost _ _ _ _ _ _ ⟨Cond.after_iff.mpr rfl, Cond.after_iff.mpr (eq_i res_at (Term.int_eval (1)) rfl), trivial⟩ ⟨hq.1, hq.2.1, (hq.2.2.sift fun y hy => Or.inr (N y hy)).mono (by decide) (by decide)⟩⟩
theorem main_1_1 : Claimed_1_1 := comes_1 fun _ _ _ _ _ _ h hF => ⟨h.1, hF⟩
theorem main_1_2 : Claimed_1_2 := comes_1 fun _ _ _ _ _ _ h hF => ⟨h.2.1, hF⟩
end Jvm.Pilot.@@N@@
namespace Jvm.Pilot.@@N@@
open Jvm Jvm.ClassFile Sem Op Lib Jvm.Free Jvm.Stand Jvm.Pilot.@@N@@.Jvm.D
/-! MADE BY PROGRAM (witnessworld.py) out of the Statement's table words and the real class files: 11 classes; the members and pool entries that the words name. The judged class is class 1, her method 2. -/
namespace start1
open Jvm.ClassFile
def u (s : String) : CpInfo := .utf8 (stringToUtf16 s)
/-- a pool by its gaps: so many unusable entries, then the entry; so many at the end -/
def gap : Nat → List CpInfo → List CpInfo
  | 0, r => r
  | n + 1, r => .unusable :: gap n r
def poolList (es : List (Nat × CpInfo)) (last : Nat) : List CpInfo := es.foldr (fun e r => gap e.1 (e.2 :: r)) (gap last [])
def pool (es : List (Nat × CpInfo)) (last : Nat) : Array CpInfo := ⟨poolList es last⟩
def fileOf (pool : Array CpInfo) (this : Nat) (attrs : Array Attribute := #[]) (ms : Array MethodInfo := #[]) (fl : Nat := 33) (sup : Nat := 0) (ifs : Array Nat := #[]) (fds : Array FieldInfo := #[]) : ClassFile where
  minorVersion := 0
  majorVersion := 65
  constantPool := pool
  accessFlags := fl
  thisClass := this
  superClass := sup
  interfaces := ifs
  fields := fds
  methods := ms
  attributes := attrs
def plain (name : String) (sup : Option ClassId) : Class where
  name := name
  kind := .ordinary
  loader := none
  accessFlags := 33
  super := sup
  interfaces := #[]
  cf := none
  fields := #[]
  methods := #[]
  instanceTypes := #[]
  staticTypes := #[]
  resolved := #[]
  callSites := []
  init := .initialized
  statics := none
  mirror := none

def pool0 : Array CpInfo := pool [(5, u "<init>"), (0, u "()V"), (1, .class_ 10), (1, u "java/lang/Object")] 113

def k0m0 : Method := { name := "<init>", desc := "()V", sig := { parameters := [], returnType := none }, accessFlags := 1, code := none }
/-- java/lang/Object -/
def k0 : Class := { plain "java/lang/Object" none with
  accessFlags := 33
  interfaces := #[]
  cf := some (fileOf pool0 8 #[] #[{ accessFlags := 1, nameIndex := 5, descriptorIndex := 6, attributes := #[] }] 33 0 #[] #[])
  fields := #[]
  methods := #[k0m0]
  instanceTypes := #[]
  staticTypes := #[]
  resolved := Array.replicate 124 none
  statics := none }

def pool1 : Array CpInfo := pool [(2, .class_ 4), (1, u "java/lang/Object"), (0, u "<init>"), (0, u "()V"), (0, .integer 65535), (0, .methodref 9 10), (0, .class_ 11), (0, .nameAndType 12 13), (0, u "com/example/callweave/callweave/message/Syntax"), (0, u "isTokenChar"), (0, u "(C)Z"), (0, .methodref 15 16), (0, .class_ 17), (0, .nameAndType 18 13), (0, u "com/example/callweave/callweave/message/SyntaxIsTokenCharPinLaw"), (0, u "ref"), (3, u "law"), (0, u "(II)Z")] 2

def k1m0 : Method := { name := "<init>", desc := "()V", sig := { parameters := [], returnType := none }, accessFlags := 2, code := none }
def k1c1 : Code := { maxStack := 2, maxLocals := 1, code := method_2_code, exceptionTable := #[], attributes := #[] }
def k1m1 : Method := { name := "ref", desc := "(C)Z", sig := { parameters := [.char], returnType := some .boolean }, accessFlags := 10, code := some k1c1 }
def k1c2 : Code := { maxStack := 2, maxLocals := 6, code := code, exceptionTable := #[], attributes := #[] }
def k1m2 : Method := { name := "law", desc := "(II)Z", sig := { parameters := [.int, .int], returnType := some .boolean }, accessFlags := 9, code := some k1c2 }
/-- com/example/callweave/callweave/message/SyntaxIsTokenCharPinLaw -/
def k1 : Class := { plain "com/example/callweave/callweave/message/SyntaxIsTokenCharPinLaw" (some 0) with
  accessFlags := 49
  interfaces := #[]
  cf := some (fileOf pool1 15 #[] #[{ accessFlags := 2, nameIndex := 5, descriptorIndex := 6, attributes := #[] }, { accessFlags := 10, nameIndex := 18, descriptorIndex := 13, attributes := #[] }, { accessFlags := 9, nameIndex := 22, descriptorIndex := 23, attributes := #[] }] 49 2 #[] #[])
  fields := #[]
  methods := #[k1m0, k1m1, k1m2]
  instanceTypes := #[]
  staticTypes := #[]
  resolved := Array.replicate 26 none
  statics := none }

def pool2 : Array CpInfo := pool [(2, .class_ 4), (1, u "java/lang/Object"), (0, u "<init>"), (0, u "()V"), (11, .class_ 20), (1, u "com/example/callweave/callweave/message/Syntax"), (0, u "isTokenChar"), (0, u "(C)Z"), (11, .fieldref 18 35), (0, .nameAndType 36 37), (0, u "TOKEN_CHARS"), (0, u "[Z"), (13, u "TOKEN_MARKS"), (0, u "Ljava/lang/String;")] 15

def k2m0 : Method := { name := "<init>", desc := "()V", sig := { parameters := [], returnType := none }, accessFlags := 2, code := none }
def k2c1 : Code := { maxStack := 2, maxLocals := 1, code := prog_30_method_4_code, exceptionTable := #[], attributes := #[] }
def k2m1 : Method := { name := "isTokenChar", desc := "(C)Z", sig := { parameters := [.char], returnType := some .boolean }, accessFlags := 8, code := some k2c1 }
/-- com/example/callweave/callweave/message/Syntax -/
def k2 : Class := { plain "com/example/callweave/callweave/message/Syntax" (some 0) with
  accessFlags := 48
  interfaces := #[]
  cf := some (fileOf pool2 18 #[] #[{ accessFlags := 2, nameIndex := 5, descriptorIndex := 6, attributes := #[] }, { accessFlags := 8, nameIndex := 21, descriptorIndex := 22, attributes := #[] }] 48 2 #[] #[{ accessFlags := 26, nameIndex := 51, descriptorIndex := 52, attributes := #[] }, { accessFlags := 26, nameIndex := 36, descriptorIndex := 37, attributes := #[] }])
  fields := #[{ name := "TOKEN_MARKS", type := (.object "java/lang/String"), accessFlags := 26, slot := 0, constantValue := 0 }, { name := "TOKEN_CHARS", type := (.array .boolean), accessFlags := 26, slot := 1, constantValue := 0 }]
  methods := #[k2m0, k2m1]
  instanceTypes := #[]
  staticTypes := #[(.object "java/lang/String"), (.array .boolean)]
  resolved := Array.replicate 68 none
  statics := some 0 }

def pool3 : Array CpInfo := pool [(1, u "java/lang/Cloneable"), (0, .class_ 1), (0, u "java/lang/Object"), (0, .class_ 3)] 3

/-- java/lang/Cloneable -/
def k3 : Class := { plain "java/lang/Cloneable" (some 0) with
  accessFlags := 1537
  interfaces := #[]
  cf := some (fileOf pool3 2 #[] #[] 1537 4 #[] #[])
  fields := #[]
  methods := #[]
  instanceTypes := #[]
  staticTypes := #[]
  resolved := Array.replicate 8 none
  statics := none }

def pool4 : Array CpInfo := pool [(1, u "java/io/Serializable"), (0, .class_ 1), (0, u "java/lang/Object"), (0, .class_ 3)] 3

/-- java/io/Serializable -/
def k4 : Class := { plain "java/io/Serializable" (some 0) with
  accessFlags := 1537
  interfaces := #[]
  cf := some (fileOf pool4 2 #[] #[] 1537 4 #[] #[])
  fields := #[]
  methods := #[]
  instanceTypes := #[]
  staticTypes := #[]
  resolved := Array.replicate 8 none
  statics := none }

/-- the primitive boolean -/
def k5 : Class := { plain "boolean" none with kind := .primitive 'Z', accessFlags := 0x411 }
/-- [Z -/
def k6 : Class := { plain "[Z" (some 0) with kind := .array 5 .boolean, interfaces := #[3, 4], accessFlags := 1041 }

/-- the primitive byte -/
def k7 : Class := { plain "byte" none with kind := .primitive 'B', accessFlags := 0x411 }
/-- [B -/
def k8 : Class := { plain "[B" (some 0) with kind := .array 7 .byte, interfaces := #[3, 4], accessFlags := 1041 }

/-- the primitive int -/
def k9 : Class := { plain "int" none with kind := .primitive 'I', accessFlags := 0x411 }
/-- [I -/
def k10 : Class := { plain "[I" (some 0) with kind := .array 9 .int, interfaces := #[3, 4], accessFlags := 1041 }

def heap : Heap := #[{ cls := 2, slots := #[.null, .ref 1], vm := .statics 2 },
  { cls := 6, slots := #[.int 0, .int 0, .int 0, .int 0, .int 0, .int 0, .int 0, .int 0, .int 0, .int 0, .int 0, .int 0, .int 0, .int 0, .int 0, .int 0, .int 0, .int 0, .int 0, .int 0, .int 0, .int 0, .int 0, .int 0, .int 0, .int 0, .int 0, .int 0, .int 0, .int 0, .int 0, .int 0, .int 0, .int 1, .int 0, .int 0, .int 0, .int 1, .int 0, .int 1, .int 0, .int 0, .int 1, .int 1, .int 0, .int 1, .int 1, .int 0, .int 1, .int 1, .int 1, .int 1, .int 1, .int 1, .int 1, .int 1, .int 1, .int 1, .int 0, .int 0, .int 0, .int 0, .int 0, .int 0, .int 0, .int 1, .int 1, .int 1, .int 1, .int 1, .int 1, .int 1, .int 1, .int 1, .int 1, .int 1, .int 1, .int 1, .int 1, .int 1, .int 1, .int 1, .int 1, .int 1, .int 1, .int 1, .int 1, .int 1, .int 1, .int 1, .int 1, .int 0, .int 0, .int 0, .int 0, .int 1, .int 1, .int 1, .int 1, .int 1, .int 1, .int 1, .int 1, .int 1, .int 1, .int 1, .int 1, .int 1, .int 1, .int 1, .int 1, .int 1, .int 1, .int 1, .int 1, .int 1, .int 1, .int 1, .int 1, .int 1, .int 1, .int 1, .int 1, .int 0, .int 0, .int 0, .int 1, .int 0], vm := .none }]
def classes : Array Class := #[k0, k1, k2, k3, k4, k5, k6, k7, k8, k9, k10]
def interned : List (Array UInt16 × Addr) := []
def slotsUsed : Nat := 130
def theMethod : MethodId := ⟨1, 2⟩
def args0 : Array Value := #[.int 5, .int 7]
def aboutOver (below : List Frame) : State where
  vm := { classes := classes, interned := interned.toArray }
  heap := heap
  slotsUsed := slotsUsed
  threads := #[{ frames := .invoking theMethod args0 :: below }]
def below0 : List Frame := [.native { method := ⟨0, 0⟩, args := #[] }]
def about1 : State := aboutOver below0
def p0 : Program := .bare "" "" ""
def e0 : Env := launch0.env 0 0 0
theorem w_frames : about1.frames = Frame.invoking theMethod args0 :: below0 := rfl
set_option maxRecDepth 65536 in
theorem w_args : argsFit about1.vm theMethod args0 = true := by decide +kernel
set_option maxRecDepth 65536 in
theorem w_heap : heapFits about1 = true := by decide +kernel
set_option maxRecDepth 65536 in
theorem w_runnable : about1.curStatus? = some .runnable := by decide +kernel
set_option maxRecDepth 65536 in
theorem w_alone : about1.alone = true := by decide +kernel
set_option maxRecDepth 65536 in
theorem w_named : about1.methodNamed? x = some theMethod := by decide +kernel
set_option maxRecDepth 65536 in
theorem w_hears : about1.hears theMethod below0 = true := by decide +kernel
set_option maxRecDepth 65536 in
theorem w_ripe : about1.ripe theMethod args0 below0 = true := by decide +kernel
theorem w_running : about1.status = .running := rfl
set_option maxRecDepth 65536 in
theorem w_room : about1.hasRoom e0.platform room_1 = true :=
  launch0.hasRoom_least _ room_1 (by decide +kernel) (by decide +kernel) (by decide +kernel) (by decide +kernel) (by decide +kernel) (by decide +kernel)
theorem allAtoms_all (ts : List Jvm.Cond) (a : Array Jvm.Value) (st : Jvm.State) : (allAtoms ts).before a st = ts.all (fun c => c.before a st) := by
  induction ts with
  | nil => rfl
  | cons c t ih =>
    show (Jvm.Cond.and c (allAtoms t)).before a st = _
    rw [Jvm.Cond.before_and, ih, List.all_cons]
def words1 : List Jvm.Cond := Jvm.Cond.code x code maxLocals ret :: tables_1
/-- a 'code' word, met by the world's own term for the bytes: nothing is compared byte by byte -/
theorem code_word {y : MethodName} {bytes : ByteArray} {mx : Nat} {rt : Option FieldType} {a : Array Value} {s : State} {m : MethodId} {meth : Method} {c : Code} (h1 : s.methodNamed? y = some m) (h2 : s.vm.method? m = some meth) (h3 : meth.code = some c) (h4 : c.code = bytes)
    (h5 : (c.maxLocals == mx && c.exceptionTable.isEmpty && decide (c.maxStack ≤ mostOperands) && decide (meth.sig.returnType = rt) && !meth.locks && decide (parseMethodDescriptor y.desc = some meth.sig)) = true) : (Jvm.Cond.code y bytes mx rt).before a s = true := by
  simp only [Bool.and_eq_true, beq_iff_eq, Bool.not_eq_true', decide_eq_true_eq] at h5
  obtain ⟨⟨⟨⟨⟨g1, g2⟩, g3⟩, g4⟩, g5⟩, g6⟩ := h5
  simp [Cond.before, Cond.holds, Cond.value, h1, h2, h3, h4, g1, g2, g3, g4, g5, g6]
def isCode : Jvm.Cond → Bool
  | .code _ _ _ _ => true
  | _ => false
theorem all_split {L : List Jvm.Cond} {P : Jvm.Cond → Bool} (h1 : L.all (fun c => isCode c || P c) = true) (h2 : ∀ c ∈ L.filter isCode, P c = true) : L.all P = true := by
  refine List.all_eq_true.mpr fun c hc => ?_
  have h := List.all_eq_true.mp h1 c hc
  rcases Bool.eq_false_or_eq_true (isCode c) with hi | hi
  · exact h2 c (List.mem_filter.mpr ⟨hc, hi⟩)
  · simpa [hi] using h
set_option maxRecDepth 65536 in
theorem w_c0 : (Jvm.Cond.code x code maxLocals ret).before args0 about1 = true := code_word (m := ⟨1, 2⟩) (meth := k1m2) (c := k1c2) (by decide +kernel) rfl rfl rfl (by decide +kernel)
set_option maxRecDepth 65536 in
theorem w_c1 : (Jvm.Cond.code ({ cls := "com/example/callweave/callweave/message/Syntax", name := "isTokenChar", desc := "(C)Z" } : Jvm.MethodName) prog_30_method_4_code (1 : Nat) (Option.some Jvm.ClassFile.FieldType.boolean)).before args0 about1 = true := code_word (m := ⟨2, 1⟩) (meth := k2m1) (c := k2c1) (by decide +kernel) rfl rfl rfl (by decide +kernel)
set_option maxRecDepth 65536 in
theorem w_c2 : (Jvm.Cond.code ({ cls := "com/example/callweave/callweave/message/SyntaxIsTokenCharPinLaw", name := "ref", desc := "(C)Z" } : Jvm.MethodName) method_2_code (1 : Nat) (Option.some Jvm.ClassFile.FieldType.boolean)).before args0 about1 = true := code_word (m := ⟨1, 1⟩) (meth := k1m1) (c := k1c1) (by decide +kernel) rfl rfl rfl (by decide +kernel)
def codes1 : List Jvm.Cond := [Jvm.Cond.code x code maxLocals ret, Jvm.Cond.code ({ cls := "com/example/callweave/callweave/message/Syntax", name := "isTokenChar", desc := "(C)Z" } : Jvm.MethodName) prog_30_method_4_code (1 : Nat) (Option.some Jvm.ClassFile.FieldType.boolean), Jvm.Cond.code ({ cls := "com/example/callweave/callweave/message/SyntaxIsTokenCharPinLaw", name := "ref", desc := "(C)Z" } : Jvm.MethodName) method_2_code (1 : Nat) (Option.some Jvm.ClassFile.FieldType.boolean)]
set_option maxRecDepth 65536 in
theorem codes_eq : words1.filter isCode = codes1 := rfl
theorem w_codes : ∀ c ∈ words1.filter isCode, c.before args0 about1 = true := by
  rw [codes_eq]
  intro c hc
  simp only [codes1, List.mem_cons, List.not_mem_nil, or_false] at hc
  rcases hc with rfl | rfl | rfl
  · exact w_c0
  · exact w_c1
  · exact w_c2
set_option maxRecDepth 65536 in
theorem w_t1 : words1.all (fun c => isCode c || c.before args0 about1) = true := by decide +kernel
theorem w_tables : (allAtoms (Jvm.Cond.code x code maxLocals ret :: tables_1)).before args0 about1 = true := by
  rw [allAtoms_all]
  show words1.all (fun c => c.before args0 about1) = true
  refine all_split ?_ w_codes
  rw [w_t1]
set_option maxRecDepth 65536 in
theorem w_case : (Jvm.Cond.and given_1 narrow_1).before args0 about1 = true := by decide +kernel
theorem w_applies : (headSpec (Jvm.Cond.code x code maxLocals ret :: tables_1) room_1).applies x e0.platform about1 = true :=
  (Spec.applies_iff w_frames).mpr ⟨w_running, w_runnable, w_alone, w_named, w_hears, w_ripe, w_room, w_tables⟩
theorem atStart : AtStart classFile x code maxLocals ret World_1 tables_1 room_1 Calls_1 rest_1 Pre_1 launch0 p0 e0 about1 theMethod args0 below0 :=
  ⟨lists_1, trivial, launch0.admits_env _ _ _, launch0.least_env, fairChoices_fair.cas, fairChoices_fair.clock, w_frames, w_args, w_heap, w_applies, trivial, trivial, w_case⟩
end start1
theorem witness_1 : WitnessClaimed_1 := ⟨start1.p0, start1.e0, start1.about1, start1.theMethod, start1.args0, start1.below0, start1.atStart⟩
end Jvm.Pilot.@@N@@
