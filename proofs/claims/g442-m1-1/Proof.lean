import JvmDerived
import JvmDerived.Pilot.@@N@@Statement
import JvmDerived.Pilot.@@N@@Code
set_option linter.unusedVariables false
set_option linter.unusedSimpArgs false
namespace Jvm.Pilot.@@N@@
open Jvm Jvm.ClassFile Sem Op Lib Jvm.Free Jvm.Stand Jvm.LawKit Jvm.RoadKit Bundle Jvm.Pilot.@@N@@.Jvm.D
section OwnWalk
variable {p : Program} {l : Launch} {e : Env} {R : Room} {s : State} {m : MethodId} {args : Array Value} {below : List Frame} {meth : Method} {c : Code} {T T' : State} {locs : List Loc} {cells slots : Nat} {P : Outcome → State → Prop} {pc : Nat} {ls : Array Slot} {st : List Value}
/-- from the frame g at T the method ends, and P holds of its end -/
def own_E (p : Program) (e : Env) (below : List Frame) (P : Outcome → State → Prop) (T : State) (g : JFrame) : Prop := ∃ s₂ o, Steps p.tables e below (T.setTop g) s₂ ∧ s₂.status = .running ∧ Ended s₂ below o ∧ P o s₂
theorem own_go {g g' : JFrame} (h : ∀ t, Steps p.tables e below (T'.setTop g') t → Steps p.tables e below (T.setTop g) t) (k : own_E p e below P T' g') : own_E p e below P T g := by
  obtain ⟨s₂, o, h1, h2⟩ := k; exact ⟨s₂, o, h _ h1, h2⟩
theorem own_cast {g g' : JFrame} (q : g = g') (k : own_E p e below P T g') : own_E p e below P T g := q ▸ k
/-- what a contract's end says -/
def own_P (s : State) (Q : Option Value → Heap → List Loc → Prop) (cm sm : Nat) (o : Outcome) (t : State) : Prop := ∃ v L, o = .returned v ∧ Q v t.heap L ∧ FrameEnd s o t L cm sm
theorem own_iloadN (X : Stand p l e R s m args below meth c T locs cells slots) (hx : p.tables.exec = Jvm.exec) {k : Fin 4} {v : Int32} (hd : decode c.code pc = .ok (.iload_n k, 1)) (hl : ls[k.val]? = some (.val (.int v))) (h : own_E p e below P T (mkF m (pc + 1) ls (.int v :: st))) : own_E p e below P T (mkF m pc ls (st)) := own_go (fun _ k => XS.iloadN X.here hx rfl hd hl k) h
theorem own_iload (X : Stand p l e R s m args below meth c T locs cells slots) (hx : p.tables.exec = Jvm.exec) {k : Nat} {v : Int32} (hd : decode c.code pc = .ok (.iload k, 2)) (hl : ls[k]? = some (.val (.int v))) (h : own_E p e below P T (mkF m (pc + 2) ls (.int v :: st))) : own_E p e below P T (mkF m pc ls (st)) := own_go (fun _ k => XS.iload X.here hx rfl hd hl k) h
theorem own_lloadN (X : Stand p l e R s m args below meth c T locs cells slots) (hx : p.tables.exec = Jvm.exec) {k : Fin 4} {v : Int64} (hd : decode c.code pc = .ok (.lload_n k, 1)) (hl : ls[k.val]? = some (.val (.long v))) (h : own_E p e below P T (mkF m (pc + 1) ls (.long v :: st))) : own_E p e below P T (mkF m pc ls (st)) := own_go (fun _ k => XT.lloadN X.here hx rfl hd hl k) h
theorem own_lload (X : Stand p l e R s m args below meth c T locs cells slots) (hx : p.tables.exec = Jvm.exec) {k : Nat} {v : Int64} (hd : decode c.code pc = .ok (.lload k, 2)) (hl : ls[k]? = some (.val (.long v))) (h : own_E p e below P T (mkF m (pc + 2) ls (.long v :: st))) : own_E p e below P T (mkF m pc ls (st)) := own_go (fun _ k => XT.lload X.here hx rfl hd hl k) h
theorem own_aloadN (X : Stand p l e R s m args below meth c T locs cells slots) (hx : p.tables.exec = Jvm.exec) {k : Fin 4} {v : Value} (hd : decode c.code pc = .ok (.aload_n k, 1)) (hl : ls[k.val]? = some (.val v)) (hv : v.isRef = true) (h : own_E p e below P T (mkF m (pc + 1) ls (v :: st))) : own_E p e below P T (mkF m pc ls (st)) := own_go (fun _ k => XS.aloadN X.here hx rfl hd hl hv k) h
theorem own_aload (X : Stand p l e R s m args below meth c T locs cells slots) (hx : p.tables.exec = Jvm.exec) {k : Nat} {v : Value} (hd : decode c.code pc = .ok (.aload k, 2)) (hl : ls[k]? = some (.val v)) (hv : v.isRef = true) (h : own_E p e below P T (mkF m (pc + 2) ls (v :: st))) : own_E p e below P T (mkF m pc ls (st)) := own_go (fun _ k => XS.aload X.here hx rfl hd hl hv k) h
theorem own_istoreN (X : Stand p l e R s m args below meth c T locs cells slots) (hx : p.tables.exec = Jvm.exec) {k : Fin 4} {v : Int32} {l' : Array Slot} (hd : decode c.code pc = .ok (.istore_n k, 1)) (hl : storeLocals ls k.val (.int v) = some l') (h : own_E p e below P T (mkF m (pc + 1) l' (st))) : own_E p e below P T (mkF m pc ls (.int v :: st)) := own_go (fun _ k => XS.istoreN X.here hx rfl hd rfl hl k) h
theorem own_istore (X : Stand p l e R s m args below meth c T locs cells slots) (hx : p.tables.exec = Jvm.exec) {k : Nat} {v : Int32} {l' : Array Slot} (hd : decode c.code pc = .ok (.istore k, 2)) (hl : storeLocals ls k (.int v) = some l') (h : own_E p e below P T (mkF m (pc + 2) l' (st))) : own_E p e below P T (mkF m pc ls (.int v :: st)) := own_go (fun _ k => XS.istore X.here hx rfl hd rfl hl k) h
theorem own_lstoreN (X : Stand p l e R s m args below meth c T locs cells slots) (hx : p.tables.exec = Jvm.exec) {k : Fin 4} {v : Int64} {l' : Array Slot} (hd : decode c.code pc = .ok (.lstore_n k, 1)) (hl : storeLocals ls k.val (.long v) = some l') (h : own_E p e below P T (mkF m (pc + 1) l' (st))) : own_E p e below P T (mkF m pc ls (.long v :: st)) := own_go (fun _ k => XT.lstoreN X.here hx rfl hd rfl hl k) h
theorem own_lstore (X : Stand p l e R s m args below meth c T locs cells slots) (hx : p.tables.exec = Jvm.exec) {k : Nat} {v : Int64} {l' : Array Slot} (hd : decode c.code pc = .ok (.lstore k, 2)) (hl : storeLocals ls k (.long v) = some l') (h : own_E p e below P T (mkF m (pc + 2) l' (st))) : own_E p e below P T (mkF m pc ls (.long v :: st)) := own_go (fun _ k => XT.lstore X.here hx rfl hd rfl hl k) h
theorem own_astoreN (X : Stand p l e R s m args below meth c T locs cells slots) (hx : p.tables.exec = Jvm.exec) {k : Fin 4} {v : Value} {l' : Array Slot} (hd : decode c.code pc = .ok (.astore_n k, 1)) (hv : v.isRef = true) (hl : storeLocals ls k.val v = some l') (h : own_E p e below P T (mkF m (pc + 1) l' (st))) : own_E p e below P T (mkF m pc ls (v :: st)) := own_go (fun _ k => XS.astoreN X.here hx rfl hd rfl hv hl k) h
theorem own_astore (X : Stand p l e R s m args below meth c T locs cells slots) (hx : p.tables.exec = Jvm.exec) {k : Nat} {v : Value} {l' : Array Slot} (hd : decode c.code pc = .ok (.astore k, 2)) (hv : v.isRef = true) (hl : storeLocals ls k v = some l') (h : own_E p e below P T (mkF m (pc + 2) l' (st))) : own_E p e below P T (mkF m pc ls (v :: st)) := own_go (fun _ k => XS.astore X.here hx rfl hd rfl hv hl k) h
theorem own_iconst (X : Stand p l e R s m args below meth c T locs cells slots) (hx : p.tables.exec = Jvm.exec) {i : Int} {v : Int32} (hd : decode c.code pc = .ok (.iconst i, 1)) (hv : Int32.ofInt i = v) (h : own_E p e below P T (mkF m (pc + 1) ls (.int v :: st))) : own_E p e below P T (mkF m pc ls (st)) := by subst hv; exact own_go (fun _ k => XS.iconst X.here hx rfl hd k) h
theorem own_bipush (X : Stand p l e R s m args below meth c T locs cells slots) (hx : p.tables.exec = Jvm.exec) {i : Int} {v : Int32} (hd : decode c.code pc = .ok (.bipush i, 2)) (hv : (Int8.ofInt i).toInt32 = v) (h : own_E p e below P T (mkF m (pc + 2) ls (.int v :: st))) : own_E p e below P T (mkF m pc ls (st)) := by subst hv; exact own_go (fun _ k => XS.bipush X.here hx rfl hd k) h
theorem own_sipush (X : Stand p l e R s m args below meth c T locs cells slots) (hx : p.tables.exec = Jvm.exec) {i : Int} {v : Int32} (hd : decode c.code pc = .ok (.sipush i, 3)) (hv : (Int16.ofInt i).toInt32 = v) (h : own_E p e below P T (mkF m (pc + 3) ls (.int v :: st))) : own_E p e below P T (mkF m pc ls (st)) := by subst hv; exact own_go (fun _ k => XS.sipush X.here hx rfl hd k) h
theorem own_lconst (X : Stand p l e R s m args below meth c T locs cells slots) (hx : p.tables.exec = Jvm.exec) {i : Fin 2} {v : Int64} (hd : decode c.code pc = .ok (.lconst i, 1)) (hv : Int64.ofNat i = v) (h : own_E p e below P T (mkF m (pc + 1) ls (.long v :: st))) : own_E p e below P T (mkF m pc ls (st)) := by subst hv; exact own_go (fun _ k => XT.lconst X.here hx rfl hd k) h
theorem own_aconstNull (X : Stand p l e R s m args below meth c T locs cells slots) (hx : p.tables.exec = Jvm.exec)  (hd : decode c.code pc = .ok (.aconst_null, 1)) (h : own_E p e below P T (mkF m (pc + 1) ls (.null :: st))) : own_E p e below P T (mkF m pc ls (st)) := own_go (fun _ k => XS.aconstNull X.here hx rfl hd k) h
theorem own_iadd (X : Stand p l e R s m args below meth c T locs cells slots) (hx : p.tables.exec = Jvm.exec) {x y z : Int32} (hd : decode c.code pc = .ok (.iadd, 1)) (hv : x + y = z) (h : own_E p e below P T (mkF m (pc + 1) ls (.int z :: st))) : own_E p e below P T (mkF m pc ls (.int y :: .int x :: st)) := by subst hv; exact own_go (fun _ k => XS.iadd X.here hx rfl hd rfl k) h
theorem own_isub (X : Stand p l e R s m args below meth c T locs cells slots) (hx : p.tables.exec = Jvm.exec) {x y z : Int32} (hd : decode c.code pc = .ok (.isub, 1)) (hv : x - y = z) (h : own_E p e below P T (mkF m (pc + 1) ls (.int z :: st))) : own_E p e below P T (mkF m pc ls (.int y :: .int x :: st)) := by subst hv; exact own_go (fun _ k => XS.isub X.here hx rfl hd rfl k) h
theorem own_imul (X : Stand p l e R s m args below meth c T locs cells slots) (hx : p.tables.exec = Jvm.exec) {x y z : Int32} (hd : decode c.code pc = .ok (.imul, 1)) (hv : x * y = z) (h : own_E p e below P T (mkF m (pc + 1) ls (.int z :: st))) : own_E p e below P T (mkF m pc ls (.int y :: .int x :: st)) := by subst hv; exact own_go (fun _ k => XS.imul X.here hx rfl hd rfl k) h
theorem own_iand (X : Stand p l e R s m args below meth c T locs cells slots) (hx : p.tables.exec = Jvm.exec) {x y z : Int32} (hd : decode c.code pc = .ok (.iand, 1)) (hv : x &&& y = z) (h : own_E p e below P T (mkF m (pc + 1) ls (.int z :: st))) : own_E p e below P T (mkF m pc ls (.int y :: .int x :: st)) := by subst hv; exact own_go (fun _ k => XS.iand X.here hx rfl hd rfl k) h
theorem own_ior (X : Stand p l e R s m args below meth c T locs cells slots) (hx : p.tables.exec = Jvm.exec) {x y z : Int32} (hd : decode c.code pc = .ok (.ior, 1)) (hv : x ||| y = z) (h : own_E p e below P T (mkF m (pc + 1) ls (.int z :: st))) : own_E p e below P T (mkF m pc ls (.int y :: .int x :: st)) := by subst hv; exact own_go (fun _ k => XT.ior X.here hx rfl hd rfl k) h
theorem own_ishr (X : Stand p l e R s m args below meth c T locs cells slots) (hx : p.tables.exec = Jvm.exec) {x y z : Int32} (hd : decode c.code pc = .ok (.ishr, 1)) (hv : x >>> (y &&& 31) = z) (h : own_E p e below P T (mkF m (pc + 1) ls (.int z :: st))) : own_E p e below P T (mkF m pc ls (.int y :: .int x :: st)) := by subst hv; exact own_go (fun _ k => XT.ishr X.here hx rfl hd rfl k) h
theorem own_iushr (X : Stand p l e R s m args below meth c T locs cells slots) (hx : p.tables.exec = Jvm.exec) {x y z : Int32} (hd : decode c.code pc = .ok (.iushr, 1)) (hv : Jvm.Free.XT.ushr x y = z) (h : own_E p e below P T (mkF m (pc + 1) ls (.int z :: st))) : own_E p e below P T (mkF m pc ls (.int y :: .int x :: st)) := by subst hv; exact own_go (fun _ k => XT.iushr X.here hx rfl hd rfl k) h
theorem own_ladd (X : Stand p l e R s m args below meth c T locs cells slots) (hx : p.tables.exec = Jvm.exec) {x y z : Int64} (hd : decode c.code pc = .ok (.ladd, 1)) (hv : x + y = z) (h : own_E p e below P T (mkF m (pc + 1) ls (.long z :: st))) : own_E p e below P T (mkF m pc ls (.long y :: .long x :: st)) := by subst hv; exact own_go (fun _ k => XT.ladd X.here hx rfl hd rfl k) h
theorem own_lsub (X : Stand p l e R s m args below meth c T locs cells slots) (hx : p.tables.exec = Jvm.exec) {x y z : Int64} (hd : decode c.code pc = .ok (.lsub, 1)) (hv : x - y = z) (h : own_E p e below P T (mkF m (pc + 1) ls (.long z :: st))) : own_E p e below P T (mkF m pc ls (.long y :: .long x :: st)) := by subst hv; exact own_go (fun _ k => XT.lsub X.here hx rfl hd rfl k) h
theorem own_lmul (X : Stand p l e R s m args below meth c T locs cells slots) (hx : p.tables.exec = Jvm.exec) {x y z : Int64} (hd : decode c.code pc = .ok (.lmul, 1)) (hv : x * y = z) (h : own_E p e below P T (mkF m (pc + 1) ls (.long z :: st))) : own_E p e below P T (mkF m pc ls (.long y :: .long x :: st)) := by subst hv; exact own_go (fun _ k => XT.lmul X.here hx rfl hd rfl k) h
theorem own_land (X : Stand p l e R s m args below meth c T locs cells slots) (hx : p.tables.exec = Jvm.exec) {x y z : Int64} (hd : decode c.code pc = .ok (.land, 1)) (hv : x &&& y = z) (h : own_E p e below P T (mkF m (pc + 1) ls (.long z :: st))) : own_E p e below P T (mkF m pc ls (.long y :: .long x :: st)) := by subst hv; exact own_go (fun _ k => XT.land X.here hx rfl hd rfl k) h
theorem own_ldiv (X : Stand p l e R s m args below meth c T locs cells slots) (hx : p.tables.exec = Jvm.exec) {x y z : Int64} (hd : decode c.code pc = .ok (.ldiv, 1)) (hy : y ≠ 0) (hv : x / y = z) (h : own_E p e below P T (mkF m (pc + 1) ls (.long z :: st))) : own_E p e below P T (mkF m pc ls (.long y :: .long x :: st)) := by subst hv; exact own_go (fun _ k => XT.ldiv X.here hx rfl hd rfl hy k) h
theorem own_lushr (X : Stand p l e R s m args below meth c T locs cells slots) (hx : p.tables.exec = Jvm.exec) {x z : Int64} {y : Int32} (hd : decode c.code pc = .ok (.lushr, 1)) (hv : Jvm.Free.XT.ushrL x y = z) (h : own_E p e below P T (mkF m (pc + 1) ls (.long z :: st))) : own_E p e below P T (mkF m pc ls (.int y :: .long x :: st)) := by subst hv; exact own_go (fun _ k => XT.lushr X.here hx rfl hd rfl k) h
theorem own_lcmp (X : Stand p l e R s m args below meth c T locs cells slots) (hx : p.tables.exec = Jvm.exec) {x y : Int64} {z : Int32} (hd : decode c.code pc = .ok (.lcmp, 1)) (hv : Jvm.Free.XT.cmpL x y = z) (h : own_E p e below P T (mkF m (pc + 1) ls (.int z :: st))) : own_E p e below P T (mkF m pc ls (.long y :: .long x :: st)) := by subst hv; exact own_go (fun _ k => XT.lcmp X.here hx rfl hd rfl k) h
theorem own_i2l (X : Stand p l e R s m args below meth c T locs cells slots) (hx : p.tables.exec = Jvm.exec) {x : Int32} {z : Int64} (hd : decode c.code pc = .ok (.i2l, 1)) (hv : x.toInt64 = z) (h : own_E p e below P T (mkF m (pc + 1) ls (.long z :: st))) : own_E p e below P T (mkF m pc ls (.int x :: st)) := by subst hv; exact own_go (fun _ k => XT.i2l X.here hx rfl hd rfl k) h
theorem own_l2i (X : Stand p l e R s m args below meth c T locs cells slots) (hx : p.tables.exec = Jvm.exec) {x : Int64} {z : Int32} (hd : decode c.code pc = .ok (.l2i, 1)) (hv : x.toInt32 = z) (h : own_E p e below P T (mkF m (pc + 1) ls (.int z :: st))) : own_E p e below P T (mkF m pc ls (.long x :: st)) := by subst hv; exact own_go (fun _ k => XT.l2i X.here hx rfl hd rfl k) h
theorem own_i2c (X : Stand p l e R s m args below meth c T locs cells slots) (hx : p.tables.exec = Jvm.exec) {x z : Int32} (hd : decode c.code pc = .ok (.i2c, 1)) (hv : x.toUInt32.toUInt16.toUInt32.toInt32 = z) (h : own_E p e below P T (mkF m (pc + 1) ls (.int z :: st))) : own_E p e below P T (mkF m pc ls (.int x :: st)) := by subst hv; exact own_go (fun _ k => XT.i2c X.here hx rfl hd rfl k) h
theorem own_i2b (X : Stand p l e R s m args below meth c T locs cells slots) (hx : p.tables.exec = Jvm.exec) {x z : Int32} (hd : decode c.code pc = .ok (.i2b, 1)) (hv : x.toInt8.toInt32 = z) (h : own_E p e below P T (mkF m (pc + 1) ls (.int z :: st))) : own_E p e below P T (mkF m pc ls (.int x :: st)) := by subst hv; exact own_go (fun _ k => XT.i2b X.here hx rfl hd rfl k) h
theorem own_iinc (X : Stand p l e R s m args below meth c T locs cells slots) (hx : p.tables.exec = Jvm.exec) {k : Nat} {i : Int} {x z : Int32} {l' : Array Slot} (hd : decode c.code pc = .ok (.iinc k i, 3)) (hl : ls[k]? = some (.val (.int x))) (hv : x + Int32.ofInt i = z) (hl' : storeLocals ls k (.int z) = some l') (h : own_E p e below P T (mkF m (pc + 3) l' (st))) : own_E p e below P T (mkF m pc ls (st)) := by subst hv; exact own_go (fun _ k => XS.iinc X.here hx rfl hd hl hl' k) h
theorem own_dup (X : Stand p l e R s m args below meth c T locs cells slots) (hx : p.tables.exec = Jvm.exec) {v : Value} (hd : decode c.code pc = .ok (.dup, 1)) (hv : v.category = 1) (h : own_E p e below P T (mkF m (pc + 1) ls (v :: v :: st))) : own_E p e below P T (mkF m pc ls (v :: st)) := own_go (fun _ k => XS.dup X.here hx rfl hd rfl hv k) h
theorem own_pop (X : Stand p l e R s m args below meth c T locs cells slots) (hx : p.tables.exec = Jvm.exec) {v : Value} (hd : decode c.code pc = .ok (.pop, 1)) (hv : v.category = 1) (h : own_E p e below P T (mkF m (pc + 1) ls (st))) : own_E p e below P T (mkF m pc ls (v :: st)) := own_go (fun _ k => XT.pop X.here hx rfl hd rfl hv k) h
theorem own_dupX1 (X : Stand p l e R s m args below meth c T locs cells slots) (hx : p.tables.exec = Jvm.exec) {v w : Value} (hd : decode c.code pc = .ok (.dup_x1, 1)) (hv : v.category = 1) (hw : w.category = 1) (h : own_E p e below P T (mkF m (pc + 1) ls (v :: w :: v :: st))) : own_E p e below P T (mkF m pc ls (v :: w :: st)) := own_go (fun _ k => XT.dupX1 X.here hx rfl hd rfl hv hw k) h
theorem own_goto (X : Stand p l e R s m args below meth c T locs cells slots) (hx : p.tables.exec = Jvm.exec)  {o : Int} (hd : decode c.code pc = .ok (.goto o, 3)) (pc' : Nat) (ho : 0 ≤ (pc : Int) + o) (hp : ((pc : Int) + o).toNat = pc') (h : own_E p e below P T (mkF m pc' ls st)) : own_E p e below P T (mkF m pc ls (st)) := own_go (fun _ k => XS.goto X.here hx rfl rfl hd ho hp k) h
theorem own_ifYes (X : Stand p l e R s m args below meth c T locs cells slots) (hx : p.tables.exec = Jvm.exec) {cd : ClassFile.Cond} {x : Int32} {o : Int} (hd : decode c.code pc = .ok (.ifCond cd o, 3)) (hc : ifCond.holds cd x = true) (pc' : Nat) (ho : 0 ≤ (pc : Int) + o) (hp : ((pc : Int) + o).toNat = pc') (h : own_E p e below P T (mkF m pc' ls st)) : own_E p e below P T (mkF m pc ls (.int x :: st)) := own_go (fun _ k => XS.ifYes X.here hx rfl rfl hd rfl hc ho hp k) h
theorem own_ifNo (X : Stand p l e R s m args below meth c T locs cells slots) (hx : p.tables.exec = Jvm.exec) {cd : ClassFile.Cond} {x : Int32} {o : Int} (hd : decode c.code pc = .ok (.ifCond cd o, 3)) (hc : ifCond.holds cd x = false) (h : own_E p e below P T (mkF m (pc + 3) ls st)) : own_E p e below P T (mkF m pc ls (.int x :: st)) := own_go (fun _ k => XS.ifNo X.here hx rfl hd rfl hc k) h
theorem own_icmpYes (X : Stand p l e R s m args below meth c T locs cells slots) (hx : p.tables.exec = Jvm.exec) {cd : ClassFile.Cond} {x y : Int32} {o : Int} (hd : decode c.code pc = .ok (.if_icmp cd o, 3)) (hc : if_icmp.holds cd x y = true) (pc' : Nat) (ho : 0 ≤ (pc : Int) + o) (hp : ((pc : Int) + o).toNat = pc') (h : own_E p e below P T (mkF m pc' ls st)) : own_E p e below P T (mkF m pc ls (.int y :: .int x :: st)) := own_go (fun _ k => XS.icmpYes X.here hx rfl rfl hd rfl hc ho hp k) h
theorem own_icmpNo (X : Stand p l e R s m args below meth c T locs cells slots) (hx : p.tables.exec = Jvm.exec) {cd : ClassFile.Cond} {x y : Int32} {o : Int} (hd : decode c.code pc = .ok (.if_icmp cd o, 3)) (hc : if_icmp.holds cd x y = false) (h : own_E p e below P T (mkF m (pc + 3) ls st)) : own_E p e below P T (mkF m pc ls (.int y :: .int x :: st)) := own_go (fun _ k => XS.icmpNo X.here hx rfl hd rfl hc k) h
theorem own_acmpYes (X : Stand p l e R s m args below meth c T locs cells slots) (hx : p.tables.exec = Jvm.exec) {cd : ACond} {x y : Value} {o : Int} (hd : decode c.code pc = .ok (.if_acmp cd o, 3)) (h1 : x.isRef = true) (h2 : y.isRef = true) (hc : Jvm.Free.XT.acmp cd x y = true) (pc' : Nat) (ho : 0 ≤ (pc : Int) + o) (hp : ((pc : Int) + o).toNat = pc') (h : own_E p e below P T (mkF m pc' ls st)) : own_E p e below P T (mkF m pc ls (y :: x :: st)) := own_go (fun _ k => Jvm.RoadKit.acmp X hx rfl h1 h2 (same := decide (x = y)) rfl hd rfl rfl ho (by rw [hp]; cases cd <;> simp_all [acV, Jvm.Free.XT.acmp]) k) h
theorem own_acmpNo (X : Stand p l e R s m args below meth c T locs cells slots) (hx : p.tables.exec = Jvm.exec) {cd : ACond} {x y : Value} {o : Int} (hd : decode c.code pc = .ok (.if_acmp cd o, 3)) (h1 : x.isRef = true) (h2 : y.isRef = true) (ho : 0 ≤ (pc : Int) + o) (hc : Jvm.Free.XT.acmp cd x y = false) (h : own_E p e below P T (mkF m (pc + 3) ls st)) : own_E p e below P T (mkF m pc ls (y :: x :: st)) := own_go (fun _ k => Jvm.RoadKit.acmp X hx rfl h1 h2 (same := decide (x = y)) rfl hd rfl rfl ho (by cases cd <;> simp_all [acV, Jvm.Free.XT.acmp]) k) h
theorem own_nullYes (X : Stand p l e R s m args below meth c T locs cells slots) (hx : p.tables.exec = Jvm.exec)  {o : Int} (hd : decode c.code pc = .ok (.ifnull o, 3)) (pc' : Nat) (ho : 0 ≤ (pc : Int) + o) (hp : ((pc : Int) + o).toNat = pc') (h : own_E p e below P T (mkF m pc' ls st)) : own_E p e below P T (mkF m pc ls (.null :: st)) := own_go (fun _ k => XS.ifnullYes X.here hx rfl rfl hd rfl ho hp k) h
theorem own_nullNo (X : Stand p l e R s m args below meth c T locs cells slots) (hx : p.tables.exec = Jvm.exec) {b : Addr} {o : Int} (hd : decode c.code pc = .ok (.ifnull o, 3)) (h : own_E p e below P T (mkF m (pc + 3) ls st)) : own_E p e below P T (mkF m pc ls (.ref b :: st)) := own_go (fun _ k => XS.ifnullNo X.here hx rfl hd rfl k) h
theorem own_nonnullYes (X : Stand p l e R s m args below meth c T locs cells slots) (hx : p.tables.exec = Jvm.exec) {b : Addr} {o : Int} (hd : decode c.code pc = .ok (.ifnonnull o, 3)) (pc' : Nat) (ho : 0 ≤ (pc : Int) + o) (hp : ((pc : Int) + o).toNat = pc') (h : own_E p e below P T (mkF m pc' ls st)) : own_E p e below P T (mkF m pc ls (.ref b :: st)) := own_go (fun _ k => XT.ifnonnullYes X.here hx rfl rfl hd rfl ho hp k) h
theorem own_nonnullNo (X : Stand p l e R s m args below meth c T locs cells slots) (hx : p.tables.exec = Jvm.exec)  {o : Int} (hd : decode c.code pc = .ok (.ifnonnull o, 3)) (h : own_E p e below P T (mkF m (pc + 3) ls st)) : own_E p e below P T (mkF m pc ls (.null :: st)) := own_go (fun _ k => XT.ifnonnullNo X.here hx rfl hd rfl k) h
theorem own_alen (X : Stand p l e R s m args below meth c T locs cells slots) (hx : p.tables.exec = Jvm.exec) {Z : State} (hZ : Z.Warmed39 s.vm) {h : Heap} (eT : T.heap = h) {a : Addr} {cl : Cell} {ty : FieldType} (A : Arr Z h a cl ty) {z : Int32} (hz : cl.slots.size.toInt32 = z) (hd : decode c.code pc = .ok (.arraylength, 1)) (k : own_E p e below P T (mkF m (pc + 1) ls (.int z :: st))) : own_E p e below P T (mkF m pc ls (.ref a :: st)) := by
  subst hz
  exact own_go (fun _ k => X.arraylength hx (by rw [eT]; exact A.1) (State.isArrayOf_alike hZ.alike A.2.1) (g := mkF m pc ls (.ref a :: st)) rfl rfl hd _ k) k
theorem own_baload (X : Stand p l e R s m args below meth c T locs cells slots) (hx : p.tables.exec = Jvm.exec) {Z : State} (hZ : Z.Warmed39 s.vm) {h : Heap} (eT : T.heap = h) {a : Addr} {cl : Cell} (A : Arr Z h a cl .byte) {j : Int32} {v : Value} (hin : ¬ (j < 0 ∨ cl.slots.size ≤ j.toNatClampNeg)) (hv : cl.slots[j.toNatClampNeg]? = some v) (hd : decode c.code pc = .ok (.baload, 1)) (k : own_E p e below P T (mkF m (pc + 1) ls (v :: st))) : own_E p e below P T (mkF m pc ls (.int j :: .ref a :: st)) :=
  own_go (fun _ k => X.baloadBytes hx (by rw [eT]; exact A.1) (State.isArrayOf_alike hZ.alike A.2.1) A.2.2 hin hv (g := mkF m pc ls (.int j :: .ref a :: st)) rfl rfl hd _ k) k
theorem own_zaload (X : Stand p l e R s m args below meth c T locs cells slots) (hx : p.tables.exec = Jvm.exec) {Z : State} (hZ : Z.Warmed39 s.vm) {h : Heap} (eT : T.heap = h) {a : Addr} {cl : Cell} (A : Arr Z h a cl .boolean) {j : Int32} {v : Value} (hin : ¬ (j < 0 ∨ cl.slots.size ≤ j.toNatClampNeg)) (hv : cl.slots[j.toNatClampNeg]? = some v) (hd : decode c.code pc = .ok (.baload, 1)) (k : own_E p e below P T (mkF m (pc + 1) ls (v :: st))) : own_E p e below P T (mkF m pc ls (.int j :: .ref a :: st)) :=
  own_go (fun _ k => X.baloadBooleans hx (by rw [eT]; exact A.1) (State.isArrayOf_alike hZ.alike A.2.1) A.2.2 hin hv (g := mkF m pc ls (.int j :: .ref a :: st)) rfl rfl hd _ k) k
theorem own_iaload (X : Stand p l e R s m args below meth c T locs cells slots) (hx : p.tables.exec = Jvm.exec) {Z : State} (hZ : Z.Warmed39 s.vm) {h : Heap} (eT : T.heap = h) {a : Addr} {cl : Cell} (A : Arr Z h a cl .int) {j : Int32} {v : Value} (hin : ¬ (j < 0 ∨ cl.slots.size ≤ j.toNatClampNeg)) (hv : cl.slots[j.toNatClampNeg]? = some v) (hd : decode c.code pc = .ok (.iaload, 1)) (k : own_E p e below P T (mkF m (pc + 1) ls (v :: st))) : own_E p e below P T (mkF m pc ls (.int j :: .ref a :: st)) :=
  own_go (fun _ k => X.iaload hx (by rw [eT]; exact A.1) (State.isArrayOf_alike hZ.alike A.2.1) A.2.2 hin hv (g := mkF m pc ls (.int j :: .ref a :: st)) rfl rfl hd _ k) k
theorem own_aaload (X : Stand p l e R s m args below meth c T locs cells slots) (hx : p.tables.exec = Jvm.exec) {Z : State} (hZ : Z.Warmed39 s.vm) {h : Heap} (eT : T.heap = h) {a : Addr} {cl : Cell} {ty : FieldType} (A : Arr Z h a cl ty) (hty : ty.isReference = true) {j : Int32} {v : Value} (hin : ¬ (j < 0 ∨ cl.slots.size ≤ j.toNatClampNeg)) (hv : cl.slots[j.toNatClampNeg]? = some v) (hd : decode c.code pc = .ok (.aaload, 1)) (k : own_E p e below P T (mkF m (pc + 1) ls (v :: st))) : own_E p e below P T (mkF m pc ls (.int j :: .ref a :: st)) :=
  own_go (fun _ k => X.aaload hx (by rw [eT]; exact A.1) (State.isArrayOf_alike hZ.alike A.2.1) hty A.2.2 hin hv (g := mkF m pc ls (.int j :: .ref a :: st)) rfl rfl hd _ k) k
theorem own_retN (X : Stand p l e R s m args below meth c T locs cells slots) (hx : p.tables.exec = Jvm.exec) {z z' : Int32} {t : FieldType} {Q : Option Value → Heap → List Loc → Prop} {cm sm : Nat} (hret : meth.sig.returnType = some t) (ht : t = .boolean ∨ t = .byte ∨ t = .char ∨ t = .short) (hlk : meth.locks = false) (hd : decode c.code pc = .ok (.ireturn, 1)) (hz : nar t z = z') (hc : cells ≤ cm) (hs : slots ≤ sm) (hQ : Q (some (.int z')) T.heap locs) : own_E p e below (own_P s Q cm sm) T (mkF m pc ls (.int z :: st)) := by
  subst hz
  obtain ⟨fs, hr, hrun, hended, hW, hsame⟩ := X.leave (v := some (.int (nar t z))) (fun h => by rw [hret] at h; cases h) hlk
  exact ⟨_, _, retN X hx hret ht hd hr, hrun, hended, _, _, rfl, hQ, ⟨_, rfl⟩, hW, hsame.mono hc hs⟩
theorem own_retO (X : Stand p l e R s m args below meth c T locs cells slots) (hx : p.tables.exec = Jvm.exec) {w : Value} {t : FieldType} {i : Instr} {Q : Option Value → Heap → List Loc → Prop} {cm sm : Nat} (hret : meth.sig.returnType = some t) (hlk : meth.locks = false) (hn : narrow t w = w)
    (hi : (i = .ireturn ∧ (t = .int ∨ t = .boolean ∨ t = .byte ∨ t = .char ∨ t = .short) ∧ ∃ z, w = .int z) ∨ (i = .lreturn ∧ t = .long ∧ ∃ z, w = .long z) ∨ (i = .dreturn ∧ t = .double ∧ ∃ z, w = .double z) ∨ (i = .freturn ∧ t = .float ∧ ∃ z, w = .float z) ∨ (i = .areturn ∧ t.isReference = true ∧ w.isRef = true))
    (hd : decode c.code pc = .ok (i, 1)) (hc : cells ≤ cm) (hs : slots ≤ sm) (hQ : Q (some w) T.heap locs) : own_E p e below (own_P s Q cm sm) T (mkF m pc ls (w :: st)) := by
  obtain ⟨fs, hr, hrun, hended, hW, hsame⟩ := X.leave (v := some w) (fun h => by rw [hret] at h; cases h) hlk
  exact ⟨_, _, Jvm.RoadKit.retOut X hx hret hn hi hd hr, hrun, hended, _, _, rfl, hQ, ⟨_, rfl⟩, hW, hsame.mono hc hs⟩
theorem own_retI (X : Stand p l e R s m args below meth c T locs cells slots) (hx : p.tables.exec = Jvm.exec) {z : Int32} {Q : Option Value → Heap → List Loc → Prop} {cm sm : Nat} (hret : meth.sig.returnType = some .int) (hlk : meth.locks = false) (hd : decode c.code pc = .ok (.ireturn, 1)) (hc : cells ≤ cm) (hs : slots ≤ sm) (hQ : Q (some (.int z)) T.heap locs) : own_E p e below (own_P s Q cm sm) T (mkF m pc ls (.int z :: st)) := own_retO X hx hret hlk rfl (Or.inl ⟨rfl, Or.inl rfl, _, rfl⟩) hd hc hs hQ
theorem own_retL (X : Stand p l e R s m args below meth c T locs cells slots) (hx : p.tables.exec = Jvm.exec) {z : Int64} {Q : Option Value → Heap → List Loc → Prop} {cm sm : Nat} (hret : meth.sig.returnType = some .long) (hlk : meth.locks = false) (hd : decode c.code pc = .ok (.lreturn, 1)) (hc : cells ≤ cm) (hs : slots ≤ sm) (hQ : Q (some (.long z)) T.heap locs) : own_E p e below (own_P s Q cm sm) T (mkF m pc ls (.long z :: st)) := own_retO X hx hret hlk rfl (Or.inr (Or.inl ⟨rfl, rfl, _, rfl⟩)) hd hc hs hQ
theorem own_retA (X : Stand p l e R s m args below meth c T locs cells slots) (hx : p.tables.exec = Jvm.exec) {w : Value} {t : FieldType} {Q : Option Value → Heap → List Loc → Prop} {cm sm : Nat} (hret : meth.sig.returnType = some t) (ht : t.isReference = true) (hw : w.isRef = true) (hlk : meth.locks = false) (hd : decode c.code pc = .ok (.areturn, 1)) (hc : cells ≤ cm) (hs : slots ≤ sm) (hQ : Q (some w) T.heap locs) : own_E p e below (own_P s Q cm sm) T (mkF m pc ls (w :: st)) := own_retO X hx hret hlk (by rcases ref_cases hw with rfl | ⟨a, rfl⟩ <;> cases t <;> rfl) (Or.inr (Or.inr (Or.inr (Or.inr ⟨rfl, ht, hw⟩)))) hd hc hs hQ
theorem own_retV (X : Stand p l e R s m args below meth c T locs cells slots) (hx : p.tables.exec = Jvm.exec) {Q : Option Value → Heap → List Loc → Prop} {cm sm : Nat} (hret : meth.sig.returnType = none) (hlk : meth.locks = false) (hd : decode c.code pc = .ok (.return_, 1)) (hc : cells ≤ cm) (hs : slots ≤ sm) (hQ : Q none T.heap locs) : own_E p e below (own_P s Q cm sm) T (mkF m pc ls []) := by
  obtain ⟨fs, hr, hrun, hended, hW, hsame⟩ := X.leave (v := none) (fun _ => rfl) hlk
  exact ⟨_, _, X.returnOut hx hret hd hr, hrun, hended, _, _, rfl, hQ, ⟨_, rfl⟩, hW, hsame.mono hc hs⟩
theorem own_nar {v : Value} {C : String} (r : v.isRef = true) : narrow (.object C) v = v := by rcases ref_cases r with rfl | ⟨a, rfl⟩ <;> rfl
theorem own_fit {v : Value} {C : String} (r : v.isRef = true) : fits (.object C) v = true := by rcases ref_cases r with rfl | ⟨a, rfl⟩ <;> rfl
end OwnWalk
def own_QV (h0 : Heap) (n0 : Nat) (v : Option Value) (h : Heap) (L : List Loc) : Prop := v = none ∧ Fr n0 L ∧ h = h0
def own_Q (r : Value) (h0 : Heap) (n0 : Nat) (v : Option Value) (h : Heap) (L : List Loc) : Prop := v = some r ∧ Fr n0 L ∧ h = h0
theorem own_pn0 : plainName "java/lang/Number" = true := by first | (simp [plainName, overriddenIn]; done) | decide +kernel
theorem own_ef1 (m : MethodId) (x0 : Addr) : entryFrame m #[(.ref x0)] 1 = mkF m 0 #[.val (.ref x0)] [] := by first | (simp [entryFrame, mkF, argsToLocals, Value.category]; done) | rfl
theorem own_d_jdk_18_method_1_code_0 : decode jdk_18_method_1_code 0 = .ok (.aload_n 0, 1) := by decide +kernel
theorem own_d_jdk_18_method_1_code_1 : decode jdk_18_method_1_code 1 = .ok (.invokespecial 1, 3) := by decide +kernel
theorem own_d_jdk_18_method_1_code_4 : decode jdk_18_method_1_code 4 = .ok (.return_, 1) := by decide +kernel
set_option maxRecDepth 65536 in
set_option maxHeartbeats 40000000 in
theorem own_rmN (l : Launch) (Z : State) (a0 : Array Value) (hw : ∀ d ∈ tables_1, d.before a0 Z = true) (ws : List Jvm.Cond) (a1 : Addr) (h0 : Heap) (n0 : Nat) (Z0 : n0 ≤ h0.size)  :
    MetFree l (⟨"java/lang/Number", "<init>", "()V"⟩ : MethodName) (head1 (Jvm.Cond.code (⟨"java/lang/Number", "<init>", "()V"⟩ : MethodName) jdk_18_method_1_code 1 none :: ws) ({ frames := 1, cells := 0, slots := 0, locals := 12 } : Room)) (fun a U => a = #[(.ref a1)] ∧ Z.Warmed39 U.vm ∧ U.heap = h0) (fun _ _ _ _ _ => True) (fun _ U o U' => ∃ v L, o = .returned v ∧ own_QV h0 n0 v U'.heap L ∧ FrameEnd U o U' L ({ frames := 1, cells := 0, slots := 0, locals := 12 } : Room).cells ({ frames := 1, cells := 0, slots := 0, locals := 12 } : Room).slots) := by
  refine MetFree.of_bodySF (plainFor_of_name own_pn0) hisR ?_
  intro p e s m args below meth c s₁ Bd hml0 hP hK
  obtain ⟨rfl, hZ, hh⟩ := hP
  have hx := Bd.exec
  have hby := Bd.bytes
  have hlk : meth.locks = false := Bd.notSynchronized
  have hml : c.maxLocals = 1 := hml0
  have hown : s.vm.findClass "java/lang/Number" = some m.cls := findClass_of_methodNamed Bd.named
  have hnm := (name_of_methodNamed Bd.named Bd.method).1
  have X0 : Stand p l e ({ frames := 1, cells := 0, slots := 0, locals := 12 } : Room) s m #[(.ref a1)] below meth c s₁ [] 0 0 := Stand.of_body Bd
  have e0 : s₁.heap = h0 := by rw [← hh, Bd.state]; rfl
  have N0 := Fr.nil n0
  show own_E p e below (own_P s (own_QV h0 n0) ({ frames := 1, cells := 0, slots := 0, locals := 12 } : Room).cells ({ frames := 1, cells := 0, slots := 0, locals := 12 } : Room).slots) s₁ (entryFrame m #[(.ref a1)] 1)
  refine own_cast (own_ef1 m a1) ?_
  show own_E p e below _ s₁ (mkF m 0 #[.val (.ref a1)] [])
  refine own_aloadN X0 hx (hb hby own_d_jdk_18_method_1_code_0) rfl rfl ?_
  show own_E p e below _ s₁ (mkF m 1 #[.val (.ref a1)] [(.ref a1)])
  obtain ⟨T1, X1, e1, st1⟩ := initO X0 hx hZ hown (hw _ (List.mem_of_getElem? (i := 61) rfl)) (hw _ (List.mem_of_getElem? (i := 19) rfl)) (hw _ (List.mem_of_getElem? (i := 20) rfl)) e0 (g := (mkF m 1 #[.val (.ref a1)] [(.ref a1)])) rfl (by rw [hml]; rfl) rfl (hb hby own_d_jdk_18_method_1_code_1) (by decide) (W := 0) (by show 2 * 0 + _ ≤ _; exact Nat.le_of_eq rfl) (by decide)
  refine own_go st1 ?_
  show own_E p e below _ T1 (mkF m 4 #[.val (.ref a1)] [])
  refine own_retV X1 hx Bd.returns hlk (hb hby own_d_jdk_18_method_1_code_4) (by decide) (by decide) ?_
  rw [e1]
  exact ⟨rfl, N0, rfl⟩

def own_QL (Z : State) (a1 : Addr) (m0 : Int64) (h0 : Heap) (n0 : Nat) (v : Option Value) (h : Heap) (L : List Loc) : Prop := v = none ∧ Fr n0 L ∧ Keep h0 h [a1] ∧ Fld Z h a1 "java/lang/Long" "value" "J" (.long m0)
theorem own_pn1 : plainName "java/lang/Long" = true := by first | (simp [plainName, overriddenIn]; done) | decide +kernel
theorem own_ef2 (m : MethodId) (x0 : Addr) (x1 : Int64) : entryFrame m #[(.ref x0), (.long x1)] 3 = mkF m 0 #[.val (.ref x0), .val (.long x1), .second] [] := by first | (simp [entryFrame, mkF, argsToLocals, Value.category]; done) | rfl
theorem own_d_jdk_35_method_26_code_0 : decode jdk_35_method_26_code 0 = .ok (.aload_n 0, 1) := by decide +kernel
theorem own_pd0 : parseMethodDescriptor "()V" = some ⟨[], none⟩ := by decide +kernel
theorem own_d_jdk_35_method_26_code_1 : decode jdk_35_method_26_code 1 = .ok (.invokespecial 270, 3) := by decide +kernel
theorem own_d_jdk_35_method_26_code_4 : decode jdk_35_method_26_code 4 = .ok (.aload_n 0, 1) := by decide +kernel
theorem own_d_jdk_35_method_26_code_5 : decode jdk_35_method_26_code 5 = .ok (.lload_n 1, 1) := by decide +kernel
theorem own_d_jdk_35_method_26_code_6 : decode jdk_35_method_26_code 6 = .ok (.putfield 273, 3) := by decide +kernel
theorem own_d_jdk_35_method_26_code_9 : decode jdk_35_method_26_code 9 = .ok (.return_, 1) := by decide +kernel
set_option maxRecDepth 65536 in
set_option maxHeartbeats 40000000 in
theorem own_rmL (l : Launch) (Z : State) (a0 : Array Value) (hw : ∀ d ∈ tables_1, d.before a0 Z = true) (ws : List Jvm.Cond) (a1 : Addr) (m0 : Int64) (h0 : Heap) (n0 : Nat) (Z0 : n0 ≤ h0.size) (F0 : Fld Z h0 a1 "java/lang/Long" "value" "J" (.long (0 : Int64))) (A0 : Exa Z h0 a1 "java/lang/Long") (g0 : n0 ≤ a1) :
    MetFree l (⟨"java/lang/Long", "<init>", "(J)V"⟩ : MethodName) (head1 (Jvm.Cond.code (⟨"java/lang/Long", "<init>", "(J)V"⟩ : MethodName) jdk_35_method_26_code 3 none :: ws) ({ frames := 2, cells := 0, slots := 0, locals := 24 } : Room)) (fun a U => a = #[(.ref a1), (.long m0)] ∧ Z.Warmed39 U.vm ∧ U.heap = h0) (fun _ _ _ _ _ => True) (fun _ U o U' => ∃ v L, o = .returned v ∧ own_QL Z a1 m0 h0 n0 v U'.heap L ∧ FrameEnd U o U' L ({ frames := 2, cells := 0, slots := 0, locals := 24 } : Room).cells ({ frames := 2, cells := 0, slots := 0, locals := 24 } : Room).slots) := by
  refine MetFree.of_bodySF (plainFor_of_name own_pn1) hisR ?_
  intro p e s m args below meth c s₁ Bd hml0 hP hK
  obtain ⟨rfl, hZ, hh⟩ := hP
  have hx := Bd.exec
  have hby := Bd.bytes
  have hlk : meth.locks = false := Bd.notSynchronized
  have hml : c.maxLocals = 3 := hml0
  have hown : s.vm.findClass "java/lang/Long" = some m.cls := findClass_of_methodNamed Bd.named
  have hnm := (name_of_methodNamed Bd.named Bd.method).1
  have X0 : Stand p l e ({ frames := 2, cells := 0, slots := 0, locals := 24 } : Room) s m #[(.ref a1), (.long m0)] below meth c s₁ [] 0 0 := Stand.of_body Bd
  have e0 : s₁.heap = h0 := by rw [← hh, Bd.state]; rfl
  have N0 := Fr.nil n0
  show own_E p e below (own_P s (own_QL Z a1 m0 h0 n0) ({ frames := 2, cells := 0, slots := 0, locals := 24 } : Room).cells ({ frames := 2, cells := 0, slots := 0, locals := 24 } : Room).slots) s₁ (entryFrame m #[(.ref a1), (.long m0)] 3)
  refine own_cast (own_ef2 m a1 m0) ?_
  show own_E p e below _ s₁ (mkF m 0 #[.val (.ref a1), .val (.long m0), .second] [])
  refine own_aloadN X0 hx (hb hby own_d_jdk_35_method_26_code_0) rfl rfl ?_
  show own_E p e below _ s₁ (mkF m 1 #[.val (.ref a1), .val (.long m0), .second] [(.ref a1)])
  obtain ⟨_, _, ⟨T2, L2, k2, n2⟩, -, X2, ⟨Lc2, hQ2, l2, y2, z2⟩, st2⟩ := X0.specialBack hx (y := (⟨"java/lang/Number", "<init>", "()V"⟩ : MethodName)) rfl hown (mvT hZ (hw _ (List.mem_of_getElem? (i := 55) rfl))) (mvT hZ (hw _ (List.mem_of_getElem? (i := 56) rfl))) (mvT hZ (hw _ (List.mem_of_getElem? (i := 60) rfl))) (by decide) (backOf (W := 0) (own_rmN l Z a0 hw [] a1 h0 n0 Z0) hZ (hw _ (List.mem_of_getElem? (i := 60) rfl)) (hw _ (List.mem_of_getElem? (i := 59) rfl)) (by decide) (by decide)) (g := (mkF m 1 #[.val (.ref a1), .val (.long m0), .second] [(.ref a1)])) rfl (by rw [hml]; rfl) (Steps.refl _) (a := a1) (argsL := []) (rest := []) (lenOf own_pd0 rfl) rfl (by show 2 * 0 + _ ≤ _; exact Nat.le_of_eq rfl) (hb hby own_d_jdk_35_method_26_code_1) (fun _ _ => ⟨rfl, e0, Nat.le_of_ble_eq_true rfl, Nat.le_of_ble_eq_true rfl⟩)
  dsimp only [Pt.U, Pt.locs, Pt.cells, Pt.slots] at X2 l2 y2 z2 st2 hQ2
  subst l2 y2 z2
  obtain ⟨rfl, M2, e2⟩ := hQ2
  have N2 := Fr.app N0 M2
  refine own_go (fun _ k => st2.trans k) ?_
  show own_E p e below _ T2 (mkF m 4 #[.val (.ref a1), .val (.long m0), .second] [])
  refine own_aloadN X2 hx (hb hby own_d_jdk_35_method_26_code_4) rfl rfl ?_
  show own_E p e below _ T2 (mkF m 5 #[.val (.ref a1), .val (.long m0), .second] [(.ref a1)])
  refine own_lloadN X2 hx (hb hby own_d_jdk_35_method_26_code_5) rfl ?_
  show own_E p e below _ T2 (mkF m 6 #[.val (.ref a1), .val (.long m0), .second] [(.long m0), (.ref a1)])
  obtain ⟨T3, h3, X3, e3, W3, st3⟩ := putF X2 hx hZ hown (host := "") (Or.inl (hw _ (List.mem_of_getElem? (i := 48) rfl))) Via.refl e2 F0 A0 (Or.inr ⟨(hw _ (List.mem_of_getElem? (i := 49) rfl)), rfl, hnm⟩) (hw _ (List.mem_of_getElem? (i := 51) rfl)) (ty := .long) (by decide) rfl rfl (g := (mkF m 6 #[.val (.ref a1), .val (.long m0), .second] [(.long m0), (.ref a1)])) rfl rfl (hb hby own_d_jdk_35_method_26_code_6)
  refine own_go st3 ?_
  have N3 := Fr.snoc X3 N2 (by omega)
  have z3 : h0.size ≤ h3.size := Nat.le_of_eq W3.size.symm
  have F3 : Fld Z h3 a1 "java/lang/Long" "value" "J" (.long m0) := Fld.same W3 F0
  show own_E p e below _ T3 (mkF m 9 #[.val (.ref a1), .val (.long m0), .second] [])
  refine own_retV X3 hx Bd.returns hlk (hb hby own_d_jdk_35_method_26_code_9) (by decide) (by decide) ?_
  rw [e3]
  exact ⟨rfl, N3, (Keep.refl _ _).wr W3 (Or.inl (List.mem_of_getElem? (i := 0) rfl)), F3⟩

def own_QB (Z : State) (m0 : Int64) (h0 : Heap) (n0 : Nat) (v : Option Value) (h : Heap) (L : List Loc) : Prop := ∃ b, v = some (.ref b) ∧ Fr n0 L ∧ Keep h0 h [] ∧ Exa Z h b "java/lang/Long" ∧ Fld Z h b "java/lang/Long" "value" "J" (.long m0)
theorem own_ef3 (m : MethodId) (x0 : Int64) : entryFrame m #[(.long x0)] 3 = mkF m 0 #[.val (.long x0), .second, .unset] [] := by first | (simp [entryFrame, mkF, argsToLocals, Value.category]; done) | rfl
theorem own_d_jdk_35_method_24_code_0 : decode jdk_35_method_24_code 0 = .ok (.sipush 128, 3) := by decide +kernel
theorem own_d_jdk_35_method_24_code_3 : decode jdk_35_method_24_code 3 = .ok (.istore_n 2, 1) := by decide +kernel
theorem own_d_jdk_35_method_24_code_4 : decode jdk_35_method_24_code 4 = .ok (.lload_n 0, 1) := by decide +kernel
theorem own_d_jdk_35_method_24_code_5 : decode jdk_35_method_24_code 5 = .ok (.ldc2_w 230, 3) := by decide +kernel
theorem own_d_jdk_35_method_24_code_8 : decode jdk_35_method_24_code 8 = .ok (.lcmp, 1) := by decide +kernel
theorem own_d_jdk_35_method_24_code_9 : decode jdk_35_method_24_code 9 = .ok (.ifCond .lt 22, 3) := by decide +kernel
theorem own_d_jdk_35_method_24_code_31 : decode jdk_35_method_24_code 31 = .ok (.new 1, 3) := by decide +kernel
theorem own_d_jdk_35_method_24_code_34 : decode jdk_35_method_24_code 34 = .ok (.dup, 1) := by decide +kernel
theorem own_d_jdk_35_method_24_code_35 : decode jdk_35_method_24_code 35 = .ok (.lload_n 0, 1) := by decide +kernel
theorem own_pd1 : parseMethodDescriptor "(J)V" = some ⟨[.long], none⟩ := by decide +kernel
theorem own_d_jdk_35_method_24_code_36 : decode jdk_35_method_24_code 36 = .ok (.invokespecial 240, 3) := by decide +kernel
theorem own_d_jdk_35_method_24_code_39 : decode jdk_35_method_24_code 39 = .ok (.areturn, 1) := by decide +kernel
theorem own_d_jdk_35_method_24_code_12 : decode jdk_35_method_24_code 12 = .ok (.lload_n 0, 1) := by decide +kernel
theorem own_d_jdk_35_method_24_code_13 : decode jdk_35_method_24_code 13 = .ok (.ldc2_w 232, 3) := by decide +kernel
theorem own_d_jdk_35_method_24_code_16 : decode jdk_35_method_24_code 16 = .ok (.lcmp, 1) := by decide +kernel
theorem own_d_jdk_35_method_24_code_17 : decode jdk_35_method_24_code 17 = .ok (.ifCond .gt 14, 3) := by decide +kernel
theorem own_d_jdk_35_method_24_code_20 : decode jdk_35_method_24_code 20 = .ok (.getstatic 234, 3) := by decide +kernel
theorem own_d_jdk_35_method_24_code_23 : decode jdk_35_method_24_code 23 = .ok (.lload_n 0, 1) := by decide +kernel
theorem own_d_jdk_35_method_24_code_24 : decode jdk_35_method_24_code 24 = .ok (.l2i, 1) := by decide +kernel
theorem own_d_jdk_35_method_24_code_25 : decode jdk_35_method_24_code 25 = .ok (.sipush 128, 3) := by decide +kernel
theorem own_d_jdk_35_method_24_code_28 : decode jdk_35_method_24_code 28 = .ok (.iadd, 1) := by decide +kernel
theorem own_d_jdk_35_method_24_code_29 : decode jdk_35_method_24_code 29 = .ok (.aaload, 1) := by decide +kernel
theorem own_d_jdk_35_method_24_code_30 : decode jdk_35_method_24_code 30 = .ok (.areturn, 1) := by decide +kernel
set_option maxRecDepth 65536 in
set_option maxHeartbeats 40000000 in
theorem own_rmB (l : Launch) (Z : State) (a0 : Array Value) (hw : ∀ d ∈ tables_1, d.before a0 Z = true) (ws : List Jvm.Cond) (m0 : Int64) (w0 : Addr) (cw : Cell) (h0 : Heap) (n0 : Nat) (Z0 : n0 ≤ h0.size) (S0 : Sta Z h0 "java/lang/Long$LongCache" "cache" "[Ljava/lang/Long;" (.ref w0)) (A0 : Arr Z h0 w0 cw (.object "java/lang/Long")) (z0 : cw.slots.size = 256) (t0 : ∀ k, k < 256 → ∃ b, cw.slots[k]? = some (.ref b) ∧ Exa Z h0 b "java/lang/Long" ∧ Fld Z h0 b "java/lang/Long" "value" "J" (.long (k.toInt32 - 128).toInt64)) :
    MetFree l (⟨"java/lang/Long", "valueOf", "(J)Ljava/lang/Long;"⟩ : MethodName) (head1 (Jvm.Cond.code (⟨"java/lang/Long", "valueOf", "(J)Ljava/lang/Long;"⟩ : MethodName) jdk_35_method_24_code 3 (some (.object "java/lang/Long")) :: ws) ({ frames := 3, cells := 1, slots := 1, locals := 48 } : Room)) (fun a U => a = #[(.long m0)] ∧ Z.Warmed39 U.vm ∧ U.heap = h0) (fun _ _ _ _ _ => True) (fun _ U o U' => ∃ v L, o = .returned v ∧ own_QB Z m0 h0 n0 v U'.heap L ∧ FrameEnd U o U' L ({ frames := 3, cells := 1, slots := 1, locals := 48 } : Room).cells ({ frames := 3, cells := 1, slots := 1, locals := 48 } : Room).slots) := by
  refine MetFree.of_bodySF (plainFor_of_name own_pn1) hisR ?_
  intro p e s m args below meth c s₁ Bd hml0 hP hK
  obtain ⟨rfl, hZ, hh⟩ := hP
  have hx := Bd.exec
  have hby := Bd.bytes
  have hlk : meth.locks = false := Bd.notSynchronized
  have hml : c.maxLocals = 3 := hml0
  have hown : s.vm.findClass "java/lang/Long" = some m.cls := findClass_of_methodNamed Bd.named
  have hnm := (name_of_methodNamed Bd.named Bd.method).1
  have X0 : Stand p l e ({ frames := 3, cells := 1, slots := 1, locals := 48 } : Room) s m #[(.long m0)] below meth c s₁ [] 0 0 := Stand.of_body Bd
  have e0 : s₁.heap = h0 := by rw [← hh, Bd.state]; rfl
  have N0 := Fr.nil n0
  show own_E p e below (own_P s (own_QB Z m0 h0 n0) ({ frames := 3, cells := 1, slots := 1, locals := 48 } : Room).cells ({ frames := 3, cells := 1, slots := 1, locals := 48 } : Room).slots) s₁ (entryFrame m #[(.long m0)] 3)
  refine own_cast (own_ef3 m m0) ?_
  show own_E p e below _ s₁ (mkF m 0 #[.val (.long m0), .second, .unset] [])
  refine own_sipush X0 hx (hb hby own_d_jdk_35_method_24_code_0) (v := (128 : Int32)) (by decide) ?_
  show own_E p e below _ s₁ (mkF m 3 #[.val (.long m0), .second, .unset] [(.int (128 : Int32))])
  refine own_istoreN X0 hx (hb hby own_d_jdk_35_method_24_code_3) (l' := #[.val (.long m0), .second, .val (.int (128 : Int32))]) rfl ?_
  show own_E p e below _ s₁ (mkF m 4 #[.val (.long m0), .second, .val (.int (128 : Int32))] [])
  refine own_lloadN X0 hx (hb hby own_d_jdk_35_method_24_code_4) rfl ?_
  show own_E p e below _ s₁ (mkF m 5 #[.val (.long m0), .second, .val (.int (128 : Int32))] [(.long m0)])
  refine own_go (fun _ k => X0.ldc2J hx hown (mvT hZ (hw _ (List.mem_of_getElem? (i := 4) rfl))) rfl (hb hby own_d_jdk_35_method_24_code_5) k) ?_
  show own_E p e below _ s₁ (mkF m 8 #[.val (.long m0), .second, .val (.int (128 : Int32))] [(.long (-128 : Int64)), (.long m0)])
  refine own_lcmp X0 hx (hb hby own_d_jdk_35_method_24_code_8) (z := (Jvm.Free.XT.cmpL m0 (-128 : Int64))) rfl ?_
  show own_E p e below _ s₁ (mkF m 9 #[.val (.long m0), .second, .val (.int (128 : Int32))] [(.int (Jvm.Free.XT.cmpL m0 (-128 : Int64)))])
  by_cases h1 : m0 < (-128 : Int64)
  · skip
    refine own_ifYes X0 hx (hb hby own_d_jdk_35_method_24_code_9) (Jvm.Free.XT.ll_lt_t h1) 31 (by decide) (by decide) ?_
    show own_E p e below _ s₁ (mkF m 31 #[.val (.long m0), .second, .val (.int (128 : Int32))] [])
    obtain ⟨T4, h4, X4, e4, E4, A4, D4, -, st4⟩ := newO X0 hx hZ hown (hw _ (List.mem_of_getElem? (i := 50) rfl)) (hw _ (List.mem_of_getElem? (i := 51) rfl)) (hw _ (List.mem_of_getElem? (i := 2) rfl)) e0 (g := (mkF m 31 #[.val (.long m0), .second, .val (.int (128 : Int32))] [])) rfl (hb hby own_d_jdk_35_method_24_code_31) (by decide) (by decide)
    obtain ⟨a4, g4⟩ : ∃ z, z = h0.size := ⟨_, rfl⟩
    rw [← g4] at A4 D4 st4
    have z4 : h0.size ≤ h4.size := E4.1
    have t4 : a4 < h4.size := A4.lt
    refine own_go st4 ?_
    show own_E p e below _ T4 (mkF m 34 #[.val (.long m0), .second, .val (.int (128 : Int32))] [(.ref a4)])
    refine own_dup X4 hx (hb hby own_d_jdk_35_method_24_code_34) rfl ?_
    show own_E p e below _ T4 (mkF m 35 #[.val (.long m0), .second, .val (.int (128 : Int32))] [(.ref a4), (.ref a4)])
    refine own_lloadN X4 hx (hb hby own_d_jdk_35_method_24_code_35) rfl ?_
    show own_E p e below _ T4 (mkF m 36 #[.val (.long m0), .second, .val (.int (128 : Int32))] [(.long m0), (.ref a4), (.ref a4)])
    obtain ⟨_, _, ⟨T5, L5, k5, n5⟩, -, X5, ⟨Lc5, hQ5, l5, y5, z5⟩, st5⟩ := X4.specialBack hx (y := (⟨"java/lang/Long", "<init>", "(J)V"⟩ : MethodName)) rfl hown (mvT hZ (hw _ (List.mem_of_getElem? (i := 52) rfl))) (mvT hZ (hw _ (List.mem_of_getElem? (i := 53) rfl))) (mvT hZ (hw _ (List.mem_of_getElem? (i := 54) rfl))) (by decide) (backOf (W := 1) (own_rmL l Z a0 hw [] a4 m0 h4 n0 (by omega) (D4 (Or.inr (hw _ (List.mem_of_getElem? (i := 49) rfl))) (ty := .long) (by decide)) A4 (by omega)) hZ (hw _ (List.mem_of_getElem? (i := 54) rfl)) (hw _ (List.mem_of_getElem? (i := 2) rfl)) (by decide) (by decide)) (g := (mkF m 36 #[.val (.long m0), .second, .val (.int (128 : Int32))] [(.long m0), (.ref a4), (.ref a4)])) rfl (by rw [hml]; rfl) (Steps.refl _) (a := a4) (argsL := [(.long m0)]) (rest := [(.ref a4)]) (lenOf own_pd1 rfl) rfl (by show 2 * 0 + _ ≤ _; exact Nat.le_of_eq rfl) (hb hby own_d_jdk_35_method_24_code_36) (fun _ _ => ⟨rfl, e4, Nat.le_of_ble_eq_true rfl, Nat.le_of_ble_eq_true rfl⟩)
    dsimp only [Pt.U, Pt.locs, Pt.cells, Pt.slots] at X5 l5 y5 z5 st5 hQ5
    subst l5 y5 z5
    obtain ⟨rfl, M5, K5, F5⟩ := hQ5
    have N5 := Fr.app N0 M5
    refine own_go (fun _ k => st5.trans k) ?_
    have z5 : h4.size ≤ T5.heap.size := K5.1
    show own_E p e below _ T5 (mkF m 39 #[.val (.long m0), .second, .val (.int (128 : Int32))] [(.ref a4)])
    refine own_retA X5 hx Bd.returns rfl rfl hlk (hb hby own_d_jdk_35_method_24_code_39) (by decide) (by decide) ?_
    exact ⟨_, rfl, N5, ((Keep.refl _ _).ext E4).trans K5 (fun x hx => by cases List.mem_singleton.mp hx; exact Or.inr (by omega)), (A4.keep K5), F5⟩
  · skip
    refine own_ifNo X0 hx (hb hby own_d_jdk_35_method_24_code_9) (Jvm.Free.XT.ll_lt_f h1) ?_
    show own_E p e below _ s₁ (mkF m 12 #[.val (.long m0), .second, .val (.int (128 : Int32))] [])
    refine own_lloadN X0 hx (hb hby own_d_jdk_35_method_24_code_12) rfl ?_
    show own_E p e below _ s₁ (mkF m 13 #[.val (.long m0), .second, .val (.int (128 : Int32))] [(.long m0)])
    refine own_go (fun _ k => X0.ldc2J hx hown (mvT hZ (hw _ (List.mem_of_getElem? (i := 5) rfl))) rfl (hb hby own_d_jdk_35_method_24_code_13) k) ?_
    show own_E p e below _ s₁ (mkF m 16 #[.val (.long m0), .second, .val (.int (128 : Int32))] [(.long (127 : Int64)), (.long m0)])
    refine own_lcmp X0 hx (hb hby own_d_jdk_35_method_24_code_16) (z := (Jvm.Free.XT.cmpL m0 (127 : Int64))) rfl ?_
    show own_E p e below _ s₁ (mkF m 17 #[.val (.long m0), .second, .val (.int (128 : Int32))] [(.int (Jvm.Free.XT.cmpL m0 (127 : Int64)))])
    by_cases h2 : (127 : Int64) < m0
    · skip
      refine own_ifYes X0 hx (hb hby own_d_jdk_35_method_24_code_17) (Jvm.Free.XT.ll_gt_t h2) 31 (by decide) (by decide) ?_
      show own_E p e below _ s₁ (mkF m 31 #[.val (.long m0), .second, .val (.int (128 : Int32))] [])
      obtain ⟨T6, h6, X6, e6, E6, A6, D6, -, st6⟩ := newO X0 hx hZ hown (hw _ (List.mem_of_getElem? (i := 50) rfl)) (hw _ (List.mem_of_getElem? (i := 51) rfl)) (hw _ (List.mem_of_getElem? (i := 2) rfl)) e0 (g := (mkF m 31 #[.val (.long m0), .second, .val (.int (128 : Int32))] [])) rfl (hb hby own_d_jdk_35_method_24_code_31) (by decide) (by decide)
      obtain ⟨a6, g6⟩ : ∃ z, z = h0.size := ⟨_, rfl⟩
      rw [← g6] at A6 D6 st6
      have z6 : h0.size ≤ h6.size := E6.1
      have t6 : a6 < h6.size := A6.lt
      refine own_go st6 ?_
      show own_E p e below _ T6 (mkF m 34 #[.val (.long m0), .second, .val (.int (128 : Int32))] [(.ref a6)])
      refine own_dup X6 hx (hb hby own_d_jdk_35_method_24_code_34) rfl ?_
      show own_E p e below _ T6 (mkF m 35 #[.val (.long m0), .second, .val (.int (128 : Int32))] [(.ref a6), (.ref a6)])
      refine own_lloadN X6 hx (hb hby own_d_jdk_35_method_24_code_35) rfl ?_
      show own_E p e below _ T6 (mkF m 36 #[.val (.long m0), .second, .val (.int (128 : Int32))] [(.long m0), (.ref a6), (.ref a6)])
      obtain ⟨_, _, ⟨T7, L7, k7, n7⟩, -, X7, ⟨Lc7, hQ7, l7, y7, z7⟩, st7⟩ := X6.specialBack hx (y := (⟨"java/lang/Long", "<init>", "(J)V"⟩ : MethodName)) rfl hown (mvT hZ (hw _ (List.mem_of_getElem? (i := 52) rfl))) (mvT hZ (hw _ (List.mem_of_getElem? (i := 53) rfl))) (mvT hZ (hw _ (List.mem_of_getElem? (i := 54) rfl))) (by decide) (backOf (W := 1) (own_rmL l Z a0 hw [] a6 m0 h6 n0 (by omega) (D6 (Or.inr (hw _ (List.mem_of_getElem? (i := 49) rfl))) (ty := .long) (by decide)) A6 (by omega)) hZ (hw _ (List.mem_of_getElem? (i := 54) rfl)) (hw _ (List.mem_of_getElem? (i := 2) rfl)) (by decide) (by decide)) (g := (mkF m 36 #[.val (.long m0), .second, .val (.int (128 : Int32))] [(.long m0), (.ref a6), (.ref a6)])) rfl (by rw [hml]; rfl) (Steps.refl _) (a := a6) (argsL := [(.long m0)]) (rest := [(.ref a6)]) (lenOf own_pd1 rfl) rfl (by show 2 * 0 + _ ≤ _; exact Nat.le_of_eq rfl) (hb hby own_d_jdk_35_method_24_code_36) (fun _ _ => ⟨rfl, e6, Nat.le_of_ble_eq_true rfl, Nat.le_of_ble_eq_true rfl⟩)
      dsimp only [Pt.U, Pt.locs, Pt.cells, Pt.slots] at X7 l7 y7 z7 st7 hQ7
      subst l7 y7 z7
      obtain ⟨rfl, M7, K7, F7⟩ := hQ7
      have N7 := Fr.app N0 M7
      refine own_go (fun _ k => st7.trans k) ?_
      have z7 : h6.size ≤ T7.heap.size := K7.1
      show own_E p e below _ T7 (mkF m 39 #[.val (.long m0), .second, .val (.int (128 : Int32))] [(.ref a6)])
      refine own_retA X7 hx Bd.returns rfl rfl hlk (hb hby own_d_jdk_35_method_24_code_39) (by decide) (by decide) ?_
      exact ⟨_, rfl, N7, ((Keep.refl _ _).ext E6).trans K7 (fun x hx => by cases List.mem_singleton.mp hx; exact Or.inr (by omega)), (A6.keep K7), F7⟩
    · skip
      refine own_ifNo X0 hx (hb hby own_d_jdk_35_method_24_code_17) (Jvm.Free.XT.ll_gt_f h2) ?_
      show own_E p e below _ s₁ (mkF m 20 #[.val (.long m0), .second, .val (.int (128 : Int32))] [])
      obtain ⟨T8, X8, e8, st8⟩ := getS2 X0 hx hZ hown (host := "") (Or.inl (hw _ (List.mem_of_getElem? (i := 6) rfl))) Via.refl e0 S0 (g := (mkF m 20 #[.val (.long m0), .second, .val (.int (128 : Int32))] [])) rfl (hb hby own_d_jdk_35_method_24_code_20)
      refine own_go st8 ?_
      show own_E p e below _ T8 (mkF m 23 #[.val (.long m0), .second, .val (.int (128 : Int32))] [(.ref w0)])
      refine own_lloadN X8 hx (hb hby own_d_jdk_35_method_24_code_23) rfl ?_
      show own_E p e below _ T8 (mkF m 24 #[.val (.long m0), .second, .val (.int (128 : Int32))] [(.long m0), (.ref w0)])
      refine own_l2i X8 hx (hb hby own_d_jdk_35_method_24_code_24) (z := (m0.toInt32)) rfl ?_
      show own_E p e below _ T8 (mkF m 25 #[.val (.long m0), .second, .val (.int (128 : Int32))] [(.int (m0.toInt32)), (.ref w0)])
      refine own_sipush X8 hx (hb hby own_d_jdk_35_method_24_code_25) (v := (128 : Int32)) (by decide) ?_
      show own_E p e below _ T8 (mkF m 28 #[.val (.long m0), .second, .val (.int (128 : Int32))] [(.int (128 : Int32)), (.int (m0.toInt32)), (.ref w0)])
      refine own_iadd X8 hx (hb hby own_d_jdk_35_method_24_code_28) (z := ((m0.toInt32) + (128 : Int32))) rfl ?_
      show own_E p e below _ T8 (mkF m 29 #[.val (.long m0), .second, .val (.int (128 : Int32))] [(.int ((m0.toInt32) + (128 : Int32))), (.ref w0)])
      obtain ⟨ok1, ok2⟩ := Jvm.Free.LongBox.place_okL m0 h1 h2
      obtain ⟨b, k1, k2, k3⟩ := t0 _ ok2
      rw [Jvm.Free.LongBox.place_valL m0 h1 h2] at k3
      refine own_aaload X8 hx hZ e8 A0 rfl (v := .ref b) (by rw [z0]; exact ok1) k1 (hb hby own_d_jdk_35_method_24_code_29) ?_
      show own_E p e below _ T8 (mkF m 30 #[.val (.long m0), .second, .val (.int (128 : Int32))] [(.ref b)])
      refine own_retA X8 hx Bd.returns rfl rfl hlk (hb hby own_d_jdk_35_method_24_code_30) (by decide) (by decide) ?_
      rw [e8]
      exact ⟨_, rfl, N0, Keep.refl _ _, k2, k3⟩

def own_QI (Z : State) (a1 : Addr) (v0 : Value) (m0 : Int64) (h0 : Heap) (n0 : Nat) (v : Option Value) (h : Heap) (L : List Loc) : Prop := v = none ∧ Fr n0 L ∧ Keep h0 h [a1] ∧ Fld Z h a1 "com/example/steady_dispatcher/steadydispatcher/Run" "value" "Ljava/lang/Object;" v0 ∧ Fld Z h a1 "com/example/steady_dispatcher/steadydispatcher/Run" "delayNanos" "J" (.long m0)
theorem own_pn2 : plainName "com/example/steady_dispatcher/steadydispatcher/Run" = true := by first | (simp [plainName, overriddenIn]; done) | decide +kernel
theorem own_ef4 (m : MethodId) (x0 : Addr) (x1 : Value) (r1 : x1.isRef = true) (x2 : Int64) : entryFrame m #[(.ref x0), x1, (.long x2)] 4 = mkF m 0 #[.val (.ref x0), .val x1, .val (.long x2), .second] [] := by rcases ref_cases r1 with rfl | ⟨_, rfl⟩ <;> first | (simp [entryFrame, mkF, argsToLocals, Value.category]; done) | rfl
theorem own_d_prog_12_method_1_code_0 : decode prog_12_method_1_code 0 = .ok (.aload_n 0, 1) := by decide +kernel
theorem own_d_prog_12_method_1_code_1 : decode prog_12_method_1_code 1 = .ok (.invokespecial 1, 3) := by decide +kernel
theorem own_d_prog_12_method_1_code_4 : decode prog_12_method_1_code 4 = .ok (.aload_n 0, 1) := by decide +kernel
theorem own_d_prog_12_method_1_code_5 : decode prog_12_method_1_code 5 = .ok (.aload_n 1, 1) := by decide +kernel
theorem own_d_prog_12_method_1_code_6 : decode prog_12_method_1_code 6 = .ok (.putfield 7, 3) := by decide +kernel
theorem own_d_prog_12_method_1_code_9 : decode prog_12_method_1_code 9 = .ok (.aload_n 0, 1) := by decide +kernel
theorem own_d_prog_12_method_1_code_10 : decode prog_12_method_1_code 10 = .ok (.lload_n 2, 1) := by decide +kernel
theorem own_d_prog_12_method_1_code_11 : decode prog_12_method_1_code 11 = .ok (.putfield 13, 3) := by decide +kernel
theorem own_d_prog_12_method_1_code_14 : decode prog_12_method_1_code 14 = .ok (.return_, 1) := by decide +kernel
set_option maxRecDepth 65536 in
set_option maxHeartbeats 40000000 in
theorem own_rmI (l : Launch) (Z : State) (a0 : Array Value) (hw : ∀ d ∈ tables_1, d.before a0 Z = true) (ws : List Jvm.Cond) (a1 : Addr) (v0 : Value) (m0 : Int64) (h0 : Heap) (n0 : Nat) (Z0 : n0 ≤ h0.size) (r0 : v0.isRef = true) (F0 : Fld Z h0 a1 "com/example/steady_dispatcher/steadydispatcher/Run" "value" "Ljava/lang/Object;" .null) (F1 : Fld Z h0 a1 "com/example/steady_dispatcher/steadydispatcher/Run" "delayNanos" "J" (.long (0 : Int64))) (A0 : Exa Z h0 a1 "com/example/steady_dispatcher/steadydispatcher/Run") (g0 : n0 ≤ a1) :
    MetFree l (⟨"com/example/steady_dispatcher/steadydispatcher/Run", "<init>", "(Ljava/lang/Object;J)V"⟩ : MethodName) (head1 (Jvm.Cond.code (⟨"com/example/steady_dispatcher/steadydispatcher/Run", "<init>", "(Ljava/lang/Object;J)V"⟩ : MethodName) prog_12_method_1_code 4 none :: ws) ({ frames := 1, cells := 0, slots := 0, locals := 12 } : Room)) (fun a U => a = #[(.ref a1), v0, (.long m0)] ∧ Z.Warmed39 U.vm ∧ U.heap = h0) (fun _ _ _ _ _ => True) (fun _ U o U' => ∃ v L, o = .returned v ∧ own_QI Z a1 v0 m0 h0 n0 v U'.heap L ∧ FrameEnd U o U' L ({ frames := 1, cells := 0, slots := 0, locals := 12 } : Room).cells ({ frames := 1, cells := 0, slots := 0, locals := 12 } : Room).slots) := by
  refine MetFree.of_bodySF (plainFor_of_name own_pn2) hisR ?_
  intro p e s m args below meth c s₁ Bd hml0 hP hK
  obtain ⟨rfl, hZ, hh⟩ := hP
  have hx := Bd.exec
  have hby := Bd.bytes
  have hlk : meth.locks = false := Bd.notSynchronized
  have hml : c.maxLocals = 4 := hml0
  have hown : s.vm.findClass "com/example/steady_dispatcher/steadydispatcher/Run" = some m.cls := findClass_of_methodNamed Bd.named
  have hnm := (name_of_methodNamed Bd.named Bd.method).1
  have X0 : Stand p l e ({ frames := 1, cells := 0, slots := 0, locals := 12 } : Room) s m #[(.ref a1), v0, (.long m0)] below meth c s₁ [] 0 0 := Stand.of_body Bd
  have e0 : s₁.heap = h0 := by rw [← hh, Bd.state]; rfl
  have N0 := Fr.nil n0
  show own_E p e below (own_P s (own_QI Z a1 v0 m0 h0 n0) ({ frames := 1, cells := 0, slots := 0, locals := 12 } : Room).cells ({ frames := 1, cells := 0, slots := 0, locals := 12 } : Room).slots) s₁ (entryFrame m #[(.ref a1), v0, (.long m0)] 4)
  refine own_cast (own_ef4 m a1 v0 r0 m0) ?_
  show own_E p e below _ s₁ (mkF m 0 #[.val (.ref a1), .val v0, .val (.long m0), .second] [])
  refine own_aloadN X0 hx (hb hby own_d_prog_12_method_1_code_0) rfl rfl ?_
  show own_E p e below _ s₁ (mkF m 1 #[.val (.ref a1), .val v0, .val (.long m0), .second] [(.ref a1)])
  obtain ⟨T9, X9, e9, st9⟩ := initO X0 hx hZ hown (hw _ (List.mem_of_getElem? (i := 18) rfl)) (hw _ (List.mem_of_getElem? (i := 19) rfl)) (hw _ (List.mem_of_getElem? (i := 20) rfl)) e0 (g := (mkF m 1 #[.val (.ref a1), .val v0, .val (.long m0), .second] [(.ref a1)])) rfl (by rw [hml]; rfl) rfl (hb hby own_d_prog_12_method_1_code_1) (by decide) (W := 0) (by show 2 * 0 + _ ≤ _; exact Nat.le_of_eq rfl) (by decide)
  refine own_go st9 ?_
  show own_E p e below _ T9 (mkF m 4 #[.val (.ref a1), .val v0, .val (.long m0), .second] [])
  refine own_aloadN X9 hx (hb hby own_d_prog_12_method_1_code_4) rfl rfl ?_
  show own_E p e below _ T9 (mkF m 5 #[.val (.ref a1), .val v0, .val (.long m0), .second] [(.ref a1)])
  refine own_aloadN X9 hx (hb hby own_d_prog_12_method_1_code_5) rfl r0 ?_
  show own_E p e below _ T9 (mkF m 6 #[.val (.ref a1), .val v0, .val (.long m0), .second] [v0, (.ref a1)])
  obtain ⟨T10, h10, X10, e10, W10, st10⟩ := putF X9 hx hZ hown (host := "") (Or.inl (hw _ (List.mem_of_getElem? (i := 21) rfl))) Via.refl e9 F0 A0 (Or.inr ⟨(hw _ (List.mem_of_getElem? (i := 22) rfl)), rfl, hnm⟩) (hw _ (List.mem_of_getElem? (i := 13) rfl)) (ty := (.object "java/lang/Object")) (by decide) (own_nar r0) (own_fit r0) (g := (mkF m 6 #[.val (.ref a1), .val v0, .val (.long m0), .second] [v0, (.ref a1)])) rfl rfl (hb hby own_d_prog_12_method_1_code_6)
  refine own_go st10 ?_
  have N10 := Fr.snoc X10 N0 (by omega)
  have z10 : h0.size ≤ h10.size := Nat.le_of_eq W10.size.symm
  have F10 : Fld Z h10 a1 "com/example/steady_dispatcher/steadydispatcher/Run" "value" "Ljava/lang/Object;" v0 := Fld.same W10 F0
  show own_E p e below _ T10 (mkF m 9 #[.val (.ref a1), .val v0, .val (.long m0), .second] [])
  refine own_aloadN X10 hx (hb hby own_d_prog_12_method_1_code_9) rfl rfl ?_
  show own_E p e below _ T10 (mkF m 10 #[.val (.ref a1), .val v0, .val (.long m0), .second] [(.ref a1)])
  refine own_lloadN X10 hx (hb hby own_d_prog_12_method_1_code_10) rfl ?_
  show own_E p e below _ T10 (mkF m 11 #[.val (.ref a1), .val v0, .val (.long m0), .second] [(.long m0), (.ref a1)])
  obtain ⟨T11, h11, X11, e11, W11, st11⟩ := putF X10 hx hZ hown (host := "") (Or.inl (hw _ (List.mem_of_getElem? (i := 23) rfl))) Via.refl e10 (F1.other W10 (Or.inr (slot_ne (Or.inr (hw _ (List.mem_of_getElem? (i := 24) rfl))) (Or.inr (hw _ (List.mem_of_getElem? (i := 22) rfl))) (by decide) (t := .long) (t' := (.object "java/lang/Object")) (by decide) (by decide)))) (A0.wr W10) (Or.inr ⟨(hw _ (List.mem_of_getElem? (i := 24) rfl)), rfl, hnm⟩) (hw _ (List.mem_of_getElem? (i := 13) rfl)) (ty := .long) (by decide) rfl rfl (g := (mkF m 11 #[.val (.ref a1), .val v0, .val (.long m0), .second] [(.long m0), (.ref a1)])) rfl rfl (hb hby own_d_prog_12_method_1_code_11)
  refine own_go st11 ?_
  have N11 := Fr.snoc X11 N10 (by omega)
  have z11 : h10.size ≤ h11.size := Nat.le_of_eq W11.size.symm
  have F11 : Fld Z h11 a1 "com/example/steady_dispatcher/steadydispatcher/Run" "delayNanos" "J" (.long m0) := Fld.same W11 (F1.other W10 (Or.inr (slot_ne (Or.inr (hw _ (List.mem_of_getElem? (i := 24) rfl))) (Or.inr (hw _ (List.mem_of_getElem? (i := 22) rfl))) (by decide) (t := .long) (t' := (.object "java/lang/Object")) (by decide) (by decide))))
  show own_E p e below _ T11 (mkF m 14 #[.val (.ref a1), .val v0, .val (.long m0), .second] [])
  refine own_retV X11 hx Bd.returns hlk (hb hby own_d_prog_12_method_1_code_14) (by decide) (by decide) ?_
  rw [e11]
  exact ⟨rfl, N11, ((Keep.refl _ _).wr W10 (Or.inl (List.mem_of_getElem? (i := 0) rfl))).wr W11 (Or.inl (List.mem_of_getElem? (i := 0) rfl)), (F10.other W11 (Or.inr (slot_ne (Or.inr (hw _ (List.mem_of_getElem? (i := 22) rfl))) (Or.inr (hw _ (List.mem_of_getElem? (i := 24) rfl))) (by decide) (t := (.object "java/lang/Object")) (t' := .long) (by decide) (by decide)))), F11⟩

def own_QD (Z : State) (v0 : Value) (h0 : Heap) (n0 : Nat) (v : Option Value) (h : Heap) (L : List Loc) : Prop := ∃ a, v = some (.ref a) ∧ Fr n0 L ∧ Keep h0 h [] ∧ Exa Z h a "com/example/steady_dispatcher/steadydispatcher/Run" ∧ Fld Z h a "com/example/steady_dispatcher/steadydispatcher/Run" "value" "Ljava/lang/Object;" v0 ∧ Fld Z h a "com/example/steady_dispatcher/steadydispatcher/Run" "delayNanos" "J" (.long (-1 : Int64))
theorem own_ef5 (m : MethodId) (x0 : Value) (r0 : x0.isRef = true) : entryFrame m #[x0] 1 = mkF m 0 #[.val x0] [] := by rcases ref_cases r0 with rfl | ⟨_, rfl⟩ <;> first | (simp [entryFrame, mkF, argsToLocals, Value.category]; done) | rfl
theorem own_d_prog_12_method_2_code_0 : decode prog_12_method_2_code 0 = .ok (.new 8, 3) := by decide +kernel
theorem own_d_prog_12_method_2_code_3 : decode prog_12_method_2_code 3 = .ok (.dup, 1) := by decide +kernel
theorem own_d_prog_12_method_2_code_4 : decode prog_12_method_2_code 4 = .ok (.aload_n 0, 1) := by decide +kernel
theorem own_d_prog_12_method_2_code_5 : decode prog_12_method_2_code 5 = .ok (.ldc2_w 17, 3) := by decide +kernel
theorem own_pd2 : parseMethodDescriptor "(Ljava/lang/Object;J)V" = some ⟨[(.object "java/lang/Object"), .long], none⟩ := by decide +kernel
theorem own_d_prog_12_method_2_code_8 : decode prog_12_method_2_code 8 = .ok (.invokespecial 19, 3) := by decide +kernel
theorem own_d_prog_12_method_2_code_11 : decode prog_12_method_2_code 11 = .ok (.areturn, 1) := by decide +kernel
set_option maxRecDepth 65536 in
set_option maxHeartbeats 40000000 in
theorem own_rmD (l : Launch) (Z : State) (a0 : Array Value) (hw : ∀ d ∈ tables_1, d.before a0 Z = true) (ws : List Jvm.Cond) (v0 : Value) (h0 : Heap) (n0 : Nat) (Z0 : n0 ≤ h0.size) (r0 : v0.isRef = true) :
    MetFree l (⟨"com/example/steady_dispatcher/steadydispatcher/Run", "done", "(Ljava/lang/Object;)Lcom/example/steady_dispatcher/steadydispatcher/Run;"⟩ : MethodName) (head1 (Jvm.Cond.code (⟨"com/example/steady_dispatcher/steadydispatcher/Run", "done", "(Ljava/lang/Object;)Lcom/example/steady_dispatcher/steadydispatcher/Run;"⟩ : MethodName) prog_12_method_2_code 1 (some (.object "com/example/steady_dispatcher/steadydispatcher/Run")) :: ws) ({ frames := 2, cells := 1, slots := 2, locals := 40 } : Room)) (fun a U => a = #[v0] ∧ Z.Warmed39 U.vm ∧ U.heap = h0) (fun _ _ _ _ _ => True) (fun _ U o U' => ∃ v L, o = .returned v ∧ own_QD Z v0 h0 n0 v U'.heap L ∧ FrameEnd U o U' L ({ frames := 2, cells := 1, slots := 2, locals := 40 } : Room).cells ({ frames := 2, cells := 1, slots := 2, locals := 40 } : Room).slots) := by
  refine MetFree.of_bodySF (plainFor_of_name own_pn2) hisR ?_
  intro p e s m args below meth c s₁ Bd hml0 hP hK
  obtain ⟨rfl, hZ, hh⟩ := hP
  have hx := Bd.exec
  have hby := Bd.bytes
  have hlk : meth.locks = false := Bd.notSynchronized
  have hml : c.maxLocals = 1 := hml0
  have hown : s.vm.findClass "com/example/steady_dispatcher/steadydispatcher/Run" = some m.cls := findClass_of_methodNamed Bd.named
  have hnm := (name_of_methodNamed Bd.named Bd.method).1
  have X0 : Stand p l e ({ frames := 2, cells := 1, slots := 2, locals := 40 } : Room) s m #[v0] below meth c s₁ [] 0 0 := Stand.of_body Bd
  have e0 : s₁.heap = h0 := by rw [← hh, Bd.state]; rfl
  have N0 := Fr.nil n0
  show own_E p e below (own_P s (own_QD Z v0 h0 n0) ({ frames := 2, cells := 1, slots := 2, locals := 40 } : Room).cells ({ frames := 2, cells := 1, slots := 2, locals := 40 } : Room).slots) s₁ (entryFrame m #[v0] 1)
  refine own_cast (own_ef5 m v0 r0) ?_
  show own_E p e below _ s₁ (mkF m 0 #[.val v0] [])
  obtain ⟨T12, h12, X12, e12, E12, A12, D12, -, st12⟩ := newO X0 hx hZ hown (hw _ (List.mem_of_getElem? (i := 12) rfl)) (hw _ (List.mem_of_getElem? (i := 13) rfl)) (hw _ (List.mem_of_getElem? (i := 10) rfl)) e0 (g := (mkF m 0 #[.val v0] [])) rfl (hb hby own_d_prog_12_method_2_code_0) (by decide) (by decide)
  obtain ⟨a12, g12⟩ : ∃ z, z = h0.size := ⟨_, rfl⟩
  rw [← g12] at A12 D12 st12
  have z12 : h0.size ≤ h12.size := E12.1
  have t12 : a12 < h12.size := A12.lt
  refine own_go st12 ?_
  show own_E p e below _ T12 (mkF m 3 #[.val v0] [(.ref a12)])
  refine own_dup X12 hx (hb hby own_d_prog_12_method_2_code_3) rfl ?_
  show own_E p e below _ T12 (mkF m 4 #[.val v0] [(.ref a12), (.ref a12)])
  refine own_aloadN X12 hx (hb hby own_d_prog_12_method_2_code_4) rfl r0 ?_
  show own_E p e below _ T12 (mkF m 5 #[.val v0] [v0, (.ref a12), (.ref a12)])
  refine own_go (fun _ k => X12.ldc2J hx hown (mvT hZ (hw _ (List.mem_of_getElem? (i := 14) rfl))) rfl (hb hby own_d_prog_12_method_2_code_5) k) ?_
  show own_E p e below _ T12 (mkF m 8 #[.val v0] [(.long (-1 : Int64)), v0, (.ref a12), (.ref a12)])
  obtain ⟨_, _, ⟨T13, L13, k13, n13⟩, -, X13, ⟨Lc13, hQ13, l13, y13, z13⟩, st13⟩ := X12.specialBack hx (y := (⟨"com/example/steady_dispatcher/steadydispatcher/Run", "<init>", "(Ljava/lang/Object;J)V"⟩ : MethodName)) rfl hown (mvT hZ (hw _ (List.mem_of_getElem? (i := 15) rfl))) (mvT hZ (hw _ (List.mem_of_getElem? (i := 16) rfl))) (mvT hZ (hw _ (List.mem_of_getElem? (i := 17) rfl))) (by decide) (backOf (W := 1) (own_rmI l Z a0 hw [] a12 v0 (-1) h12 n0 (by omega) r0 (D12 (Or.inr (hw _ (List.mem_of_getElem? (i := 22) rfl))) (ty := (.object "java/lang/Object")) (by decide)) (D12 (Or.inr (hw _ (List.mem_of_getElem? (i := 24) rfl))) (ty := .long) (by decide)) A12 (by omega)) hZ (hw _ (List.mem_of_getElem? (i := 17) rfl)) (hw _ (List.mem_of_getElem? (i := 10) rfl)) (by decide) (by decide)) (g := (mkF m 8 #[.val v0] [(.long (-1 : Int64)), v0, (.ref a12), (.ref a12)])) rfl (by rw [hml]; rfl) (Steps.refl _) (a := a12) (argsL := [v0, (.long (-1 : Int64))]) (rest := [(.ref a12)]) (lenOf own_pd2 rfl) rfl (by show 2 * 0 + _ ≤ _; exact Nat.le_of_eq rfl) (hb hby own_d_prog_12_method_2_code_8) (fun _ _ => ⟨rfl, e12, Nat.le_of_ble_eq_true rfl, Nat.le_of_ble_eq_true rfl⟩)
  dsimp only [Pt.U, Pt.locs, Pt.cells, Pt.slots] at X13 l13 y13 z13 st13 hQ13
  subst l13 y13 z13
  obtain ⟨rfl, M13, K13, F13, G13⟩ := hQ13
  have N13 := Fr.app N0 M13
  refine own_go (fun _ k => st13.trans k) ?_
  have z13 : h12.size ≤ T13.heap.size := K13.1
  show own_E p e below _ T13 (mkF m 11 #[.val v0] [(.ref a12)])
  refine own_retA X13 hx Bd.returns rfl rfl hlk (hb hby own_d_prog_12_method_2_code_11) (by decide) (by decide) ?_
  exact ⟨_, rfl, N13, ((Keep.refl _ _).ext E12).trans K13 (fun x hx => by cases List.mem_singleton.mp hx; exact Or.inr (by omega)), (A12.keep K13), F13, G13⟩

theorem own_ef6 (m : MethodId) (x0 : Addr) : entryFrame m #[(.ref x0)] 1 = mkF m 0 #[.val (.ref x0)] [] := by first | (simp [entryFrame, mkF, argsToLocals, Value.category]; done) | rfl
theorem own_d_prog_12_method_4_code_0 : decode prog_12_method_4_code 0 = .ok (.aload_n 0, 1) := by decide +kernel
theorem own_d_prog_12_method_4_code_1 : decode prog_12_method_4_code 1 = .ok (.getfield 13, 3) := by decide +kernel
theorem own_d_prog_12_method_4_code_4 : decode prog_12_method_4_code 4 = .ok (.ldc2_w 17, 3) := by decide +kernel
theorem own_d_prog_12_method_4_code_7 : decode prog_12_method_4_code 7 = .ok (.lcmp, 1) := by decide +kernel
theorem own_d_prog_12_method_4_code_8 : decode prog_12_method_4_code 8 = .ok (.ifCond .ne 7, 3) := by decide +kernel
theorem own_d_prog_12_method_4_code_11 : decode prog_12_method_4_code 11 = .ok (.iconst 1, 1) := by decide +kernel
theorem own_d_prog_12_method_4_code_12 : decode prog_12_method_4_code 12 = .ok (.goto 4, 3) := by decide +kernel
theorem own_d_prog_12_method_4_code_16 : decode prog_12_method_4_code 16 = .ok (.ireturn, 1) := by decide +kernel
set_option maxRecDepth 65536 in
set_option maxHeartbeats 40000000 in
theorem own_rmS (l : Launch) (Z : State) (a0 : Array Value) (hw : ∀ d ∈ tables_1, d.before a0 Z = true) (ws : List Jvm.Cond) (a1 : Addr) (h0 : Heap) (n0 : Nat) (Z0 : n0 ≤ h0.size) (F0 : Fld Z h0 a1 "com/example/steady_dispatcher/steadydispatcher/Run" "delayNanos" "J" (.long (-1 : Int64))) :
    MetFree l (⟨"com/example/steady_dispatcher/steadydispatcher/Run", "isDone", "()Z"⟩ : MethodName) (head1 (Jvm.Cond.code (⟨"com/example/steady_dispatcher/steadydispatcher/Run", "isDone", "()Z"⟩ : MethodName) prog_12_method_4_code 1 (some .boolean) :: ws) ({ frames := 0, cells := 0, slots := 0, locals := 0 } : Room)) (fun a U => a = #[(.ref a1)] ∧ Z.Warmed39 U.vm ∧ U.heap = h0) (fun _ _ _ _ _ => True) (fun _ U o U' => ∃ v L, o = .returned v ∧ own_Q (.int 1) h0 n0 v U'.heap L ∧ FrameEnd U o U' L ({ frames := 0, cells := 0, slots := 0, locals := 0 } : Room).cells ({ frames := 0, cells := 0, slots := 0, locals := 0 } : Room).slots) := by
  refine MetFree.of_bodySF (plainFor_of_name own_pn2) hisR ?_
  intro p e s m args below meth c s₁ Bd hml0 hP hK
  obtain ⟨rfl, hZ, hh⟩ := hP
  have hx := Bd.exec
  have hby := Bd.bytes
  have hlk : meth.locks = false := Bd.notSynchronized
  have hml : c.maxLocals = 1 := hml0
  have hown : s.vm.findClass "com/example/steady_dispatcher/steadydispatcher/Run" = some m.cls := findClass_of_methodNamed Bd.named
  have hnm := (name_of_methodNamed Bd.named Bd.method).1
  have X0 : Stand p l e ({ frames := 0, cells := 0, slots := 0, locals := 0 } : Room) s m #[(.ref a1)] below meth c s₁ [] 0 0 := Stand.of_body Bd
  have e0 : s₁.heap = h0 := by rw [← hh, Bd.state]; rfl
  have N0 := Fr.nil n0
  show own_E p e below (own_P s (own_Q (.int 1) h0 n0) ({ frames := 0, cells := 0, slots := 0, locals := 0 } : Room).cells ({ frames := 0, cells := 0, slots := 0, locals := 0 } : Room).slots) s₁ (entryFrame m #[(.ref a1)] 1)
  refine own_cast (own_ef6 m a1) ?_
  show own_E p e below _ s₁ (mkF m 0 #[.val (.ref a1)] [])
  refine own_aloadN X0 hx (hb hby own_d_prog_12_method_4_code_0) rfl rfl ?_
  show own_E p e below _ s₁ (mkF m 1 #[.val (.ref a1)] [(.ref a1)])
  obtain ⟨T14, X14, e14, st14⟩ := getF X0 hx hZ hown (host := "") (Or.inl (hw _ (List.mem_of_getElem? (i := 23) rfl))) Via.refl e0 F0 (g := (mkF m 1 #[.val (.ref a1)] [(.ref a1)])) rfl rfl (hb hby own_d_prog_12_method_4_code_1)
  refine own_go st14 ?_
  show own_E p e below _ T14 (mkF m 4 #[.val (.ref a1)] [(.long (-1 : Int64))])
  refine own_go (fun _ k => X14.ldc2J hx hown (mvT hZ (hw _ (List.mem_of_getElem? (i := 14) rfl))) rfl (hb hby own_d_prog_12_method_4_code_4) k) ?_
  show own_E p e below _ T14 (mkF m 7 #[.val (.ref a1)] [(.long (-1 : Int64)), (.long (-1 : Int64))])
  refine own_lcmp X14 hx (hb hby own_d_prog_12_method_4_code_7) (z := (0 : Int32)) (by decide +kernel) ?_
  show own_E p e below _ T14 (mkF m 8 #[.val (.ref a1)] [(.int (0 : Int32))])
  refine own_ifNo X14 hx (hb hby own_d_prog_12_method_4_code_8) (by decide +kernel) ?_
  show own_E p e below _ T14 (mkF m 11 #[.val (.ref a1)] [])
  refine own_iconst X14 hx (hb hby own_d_prog_12_method_4_code_11) (v := (1 : Int32)) (by decide) ?_
  show own_E p e below _ T14 (mkF m 12 #[.val (.ref a1)] [(.int (1 : Int32))])
  refine own_goto X14 hx (hb hby own_d_prog_12_method_4_code_12) 16 (by decide) (by decide) ?_
  show own_E p e below _ T14 (mkF m 16 #[.val (.ref a1)] [(.int (1 : Int32))])
  refine own_retN X14 hx (t := .boolean) Bd.returns (by simp) hlk (hb hby own_d_prog_12_method_4_code_16) (z' := (1 : Int32)) (by decide) (by decide) (by decide) ?_
  rw [e14]
  exact ⟨rfl, N0, rfl⟩

theorem own_ef7 (m : MethodId) (x0 : Addr) : entryFrame m #[(.ref x0)] 1 = mkF m 0 #[.val (.ref x0)] [] := by first | (simp [entryFrame, mkF, argsToLocals, Value.category]; done) | rfl
theorem own_d_prog_12_method_6_code_0 : decode prog_12_method_6_code 0 = .ok (.aload_n 0, 1) := by decide +kernel
theorem own_d_prog_12_method_6_code_1 : decode prog_12_method_6_code 1 = .ok (.getfield 13, 3) := by decide +kernel
theorem own_d_prog_12_method_6_code_4 : decode prog_12_method_6_code 4 = .ok (.lreturn, 1) := by decide +kernel
set_option maxRecDepth 65536 in
set_option maxHeartbeats 40000000 in
theorem own_rmY (l : Launch) (Z : State) (a0 : Array Value) (hw : ∀ d ∈ tables_1, d.before a0 Z = true) (ws : List Jvm.Cond) (a1 : Addr) (h0 : Heap) (n0 : Nat) (Z0 : n0 ≤ h0.size) (F0 : Fld Z h0 a1 "com/example/steady_dispatcher/steadydispatcher/Run" "delayNanos" "J" (.long (-1 : Int64))) :
    MetFree l (⟨"com/example/steady_dispatcher/steadydispatcher/Run", "delayNanos", "()J"⟩ : MethodName) (head1 (Jvm.Cond.code (⟨"com/example/steady_dispatcher/steadydispatcher/Run", "delayNanos", "()J"⟩ : MethodName) prog_12_method_6_code 1 (some .long) :: ws) ({ frames := 0, cells := 0, slots := 0, locals := 0 } : Room)) (fun a U => a = #[(.ref a1)] ∧ Z.Warmed39 U.vm ∧ U.heap = h0) (fun _ _ _ _ _ => True) (fun _ U o U' => ∃ v L, o = .returned v ∧ own_Q (.long (-1)) h0 n0 v U'.heap L ∧ FrameEnd U o U' L ({ frames := 0, cells := 0, slots := 0, locals := 0 } : Room).cells ({ frames := 0, cells := 0, slots := 0, locals := 0 } : Room).slots) := by
  refine MetFree.of_bodySF (plainFor_of_name own_pn2) hisR ?_
  intro p e s m args below meth c s₁ Bd hml0 hP hK
  obtain ⟨rfl, hZ, hh⟩ := hP
  have hx := Bd.exec
  have hby := Bd.bytes
  have hlk : meth.locks = false := Bd.notSynchronized
  have hml : c.maxLocals = 1 := hml0
  have hown : s.vm.findClass "com/example/steady_dispatcher/steadydispatcher/Run" = some m.cls := findClass_of_methodNamed Bd.named
  have hnm := (name_of_methodNamed Bd.named Bd.method).1
  have X0 : Stand p l e ({ frames := 0, cells := 0, slots := 0, locals := 0 } : Room) s m #[(.ref a1)] below meth c s₁ [] 0 0 := Stand.of_body Bd
  have e0 : s₁.heap = h0 := by rw [← hh, Bd.state]; rfl
  have N0 := Fr.nil n0
  show own_E p e below (own_P s (own_Q (.long (-1)) h0 n0) ({ frames := 0, cells := 0, slots := 0, locals := 0 } : Room).cells ({ frames := 0, cells := 0, slots := 0, locals := 0 } : Room).slots) s₁ (entryFrame m #[(.ref a1)] 1)
  refine own_cast (own_ef7 m a1) ?_
  show own_E p e below _ s₁ (mkF m 0 #[.val (.ref a1)] [])
  refine own_aloadN X0 hx (hb hby own_d_prog_12_method_6_code_0) rfl rfl ?_
  show own_E p e below _ s₁ (mkF m 1 #[.val (.ref a1)] [(.ref a1)])
  obtain ⟨T15, X15, e15, st15⟩ := getF X0 hx hZ hown (host := "") (Or.inl (hw _ (List.mem_of_getElem? (i := 23) rfl))) Via.refl e0 F0 (g := (mkF m 1 #[.val (.ref a1)] [(.ref a1)])) rfl rfl (hb hby own_d_prog_12_method_6_code_1)
  refine own_go st15 ?_
  show own_E p e below _ T15 (mkF m 4 #[.val (.ref a1)] [(.long (-1 : Int64))])
  refine own_retL X15 hx Bd.returns hlk (hb hby own_d_prog_12_method_6_code_4) (by decide) (by decide) ?_
  rw [e15]
  exact ⟨rfl, N0, rfl⟩

theorem own_ef8 (m : MethodId) (x0 : Addr) : entryFrame m #[(.ref x0)] 1 = mkF m 0 #[.val (.ref x0)] [] := by first | (simp [entryFrame, mkF, argsToLocals, Value.category]; done) | rfl
theorem own_d_prog_12_method_5_code_0 : decode prog_12_method_5_code 0 = .ok (.aload_n 0, 1) := by decide +kernel
theorem own_d_prog_12_method_5_code_1 : decode prog_12_method_5_code 1 = .ok (.getfield 7, 3) := by decide +kernel
theorem own_d_prog_12_method_5_code_4 : decode prog_12_method_5_code 4 = .ok (.areturn, 1) := by decide +kernel
set_option maxRecDepth 65536 in
set_option maxHeartbeats 40000000 in
theorem own_rmW (l : Launch) (Z : State) (a0 : Array Value) (hw : ∀ d ∈ tables_1, d.before a0 Z = true) (ws : List Jvm.Cond) (a1 : Addr) (v0 : Value) (h0 : Heap) (n0 : Nat) (Z0 : n0 ≤ h0.size) (r0 : v0.isRef = true) (F0 : Fld Z h0 a1 "com/example/steady_dispatcher/steadydispatcher/Run" "value" "Ljava/lang/Object;" v0) :
    MetFree l (⟨"com/example/steady_dispatcher/steadydispatcher/Run", "value", "()Ljava/lang/Object;"⟩ : MethodName) (head1 (Jvm.Cond.code (⟨"com/example/steady_dispatcher/steadydispatcher/Run", "value", "()Ljava/lang/Object;"⟩ : MethodName) prog_12_method_5_code 1 (some (.object "java/lang/Object")) :: ws) ({ frames := 0, cells := 0, slots := 0, locals := 0 } : Room)) (fun a U => a = #[(.ref a1)] ∧ Z.Warmed39 U.vm ∧ U.heap = h0) (fun _ _ _ _ _ => True) (fun _ U o U' => ∃ v L, o = .returned v ∧ own_Q v0 h0 n0 v U'.heap L ∧ FrameEnd U o U' L ({ frames := 0, cells := 0, slots := 0, locals := 0 } : Room).cells ({ frames := 0, cells := 0, slots := 0, locals := 0 } : Room).slots) := by
  refine MetFree.of_bodySF (plainFor_of_name own_pn2) hisR ?_
  intro p e s m args below meth c s₁ Bd hml0 hP hK
  obtain ⟨rfl, hZ, hh⟩ := hP
  have hx := Bd.exec
  have hby := Bd.bytes
  have hlk : meth.locks = false := Bd.notSynchronized
  have hml : c.maxLocals = 1 := hml0
  have hown : s.vm.findClass "com/example/steady_dispatcher/steadydispatcher/Run" = some m.cls := findClass_of_methodNamed Bd.named
  have hnm := (name_of_methodNamed Bd.named Bd.method).1
  have X0 : Stand p l e ({ frames := 0, cells := 0, slots := 0, locals := 0 } : Room) s m #[(.ref a1)] below meth c s₁ [] 0 0 := Stand.of_body Bd
  have e0 : s₁.heap = h0 := by rw [← hh, Bd.state]; rfl
  have N0 := Fr.nil n0
  show own_E p e below (own_P s (own_Q v0 h0 n0) ({ frames := 0, cells := 0, slots := 0, locals := 0 } : Room).cells ({ frames := 0, cells := 0, slots := 0, locals := 0 } : Room).slots) s₁ (entryFrame m #[(.ref a1)] 1)
  refine own_cast (own_ef8 m a1) ?_
  show own_E p e below _ s₁ (mkF m 0 #[.val (.ref a1)] [])
  refine own_aloadN X0 hx (hb hby own_d_prog_12_method_5_code_0) rfl rfl ?_
  show own_E p e below _ s₁ (mkF m 1 #[.val (.ref a1)] [(.ref a1)])
  obtain ⟨T16, X16, e16, st16⟩ := getF X0 hx hZ hown (host := "") (Or.inl (hw _ (List.mem_of_getElem? (i := 21) rfl))) Via.refl e0 F0 (g := (mkF m 1 #[.val (.ref a1)] [(.ref a1)])) rfl rfl (hb hby own_d_prog_12_method_5_code_1)
  refine own_go st16 ?_
  show own_E p e below _ T16 (mkF m 4 #[.val (.ref a1)] [v0])
  refine own_retA X16 hx Bd.returns rfl r0 hlk (hb hby own_d_prog_12_method_5_code_4) (by decide) (by decide) ?_
  rw [e16]
  exact ⟨rfl, N0, rfl⟩

theorem own_ef9 (m : MethodId) (x0 : Addr) : entryFrame m #[(.ref x0)] 1 = mkF m 0 #[.val (.ref x0)] [] := by first | (simp [entryFrame, mkF, argsToLocals, Value.category]; done) | rfl
theorem own_d_jdk_35_method_31_code_0 : decode jdk_35_method_31_code 0 = .ok (.aload_n 0, 1) := by decide +kernel
theorem own_d_jdk_35_method_31_code_1 : decode jdk_35_method_31_code 1 = .ok (.getfield 273, 3) := by decide +kernel
theorem own_d_jdk_35_method_31_code_4 : decode jdk_35_method_31_code 4 = .ok (.lreturn, 1) := by decide +kernel
set_option maxRecDepth 65536 in
set_option maxHeartbeats 40000000 in
theorem own_rmX (l : Launch) (Z : State) (a0 : Array Value) (hw : ∀ d ∈ tables_1, d.before a0 Z = true) (ws : List Jvm.Cond) (a1 : Addr) (m0 : Int64) (h0 : Heap) (n0 : Nat) (Z0 : n0 ≤ h0.size) (F0 : Fld Z h0 a1 "java/lang/Long" "value" "J" (.long m0)) :
    MetFree l (⟨"java/lang/Long", "longValue", "()J"⟩ : MethodName) (head1 (Jvm.Cond.code (⟨"java/lang/Long", "longValue", "()J"⟩ : MethodName) jdk_35_method_31_code 1 (some .long) :: ws) ({ frames := 0, cells := 0, slots := 0, locals := 0 } : Room)) (fun a U => a = #[(.ref a1)] ∧ Z.Warmed39 U.vm ∧ U.heap = h0) (fun _ _ _ _ _ => True) (fun _ U o U' => ∃ v L, o = .returned v ∧ own_Q (.long m0) h0 n0 v U'.heap L ∧ FrameEnd U o U' L ({ frames := 0, cells := 0, slots := 0, locals := 0 } : Room).cells ({ frames := 0, cells := 0, slots := 0, locals := 0 } : Room).slots) := by
  refine MetFree.of_bodySF (plainFor_of_name own_pn1) hisR ?_
  intro p e s m args below meth c s₁ Bd hml0 hP hK
  obtain ⟨rfl, hZ, hh⟩ := hP
  have hx := Bd.exec
  have hby := Bd.bytes
  have hlk : meth.locks = false := Bd.notSynchronized
  have hml : c.maxLocals = 1 := hml0
  have hown : s.vm.findClass "java/lang/Long" = some m.cls := findClass_of_methodNamed Bd.named
  have hnm := (name_of_methodNamed Bd.named Bd.method).1
  have X0 : Stand p l e ({ frames := 0, cells := 0, slots := 0, locals := 0 } : Room) s m #[(.ref a1)] below meth c s₁ [] 0 0 := Stand.of_body Bd
  have e0 : s₁.heap = h0 := by rw [← hh, Bd.state]; rfl
  have N0 := Fr.nil n0
  show own_E p e below (own_P s (own_Q (.long m0) h0 n0) ({ frames := 0, cells := 0, slots := 0, locals := 0 } : Room).cells ({ frames := 0, cells := 0, slots := 0, locals := 0 } : Room).slots) s₁ (entryFrame m #[(.ref a1)] 1)
  refine own_cast (own_ef9 m a1) ?_
  show own_E p e below _ s₁ (mkF m 0 #[.val (.ref a1)] [])
  refine own_aloadN X0 hx (hb hby own_d_jdk_35_method_31_code_0) rfl rfl ?_
  show own_E p e below _ s₁ (mkF m 1 #[.val (.ref a1)] [(.ref a1)])
  obtain ⟨T17, X17, e17, st17⟩ := getF X0 hx hZ hown (host := "") (Or.inl (hw _ (List.mem_of_getElem? (i := 48) rfl))) Via.refl e0 F0 (g := (mkF m 1 #[.val (.ref a1)] [(.ref a1)])) rfl rfl (hb hby own_d_jdk_35_method_31_code_1)
  refine own_go st17 ?_
  show own_E p e below _ T17 (mkF m 4 #[.val (.ref a1)] [(.long m0)])
  refine own_retL X17 hx Bd.returns hlk (hb hby own_d_jdk_35_method_31_code_4) (by decide) (by decide) ?_
  rw [e17]
  exact ⟨rfl, N0, rfl⟩

def own_Q0 (n0 : Nat) (v : Option Value) (h : Heap) (L : List Loc) : Prop := v = some (.int 1) ∧ Fr n0 L
theorem own_pn3 : plainName "com/example/steady_dispatcher/steadydispatcher/RunDonePinLaw" = true := by first | (simp [plainName, overriddenIn]; done) | decide +kernel
theorem own_ef10 (m : MethodId) (x0 : Int64) (x1 : Int32) : entryFrame m #[(.long x0), (.int x1)] maxLocals = mkF m 0 #[.val (.long x0), .second, .val (.int x1), .unset, .unset, .unset] [] := by first | (simp [entryFrame, mkF, argsToLocals, Value.category, maxLocals]; done) | rfl
theorem own_pd3 : parseMethodDescriptor "(Ljava/lang/Object;)Lcom/example/steady_dispatcher/steadydispatcher/Run;" = some ⟨[(.object "java/lang/Object")], some (.object "com/example/steady_dispatcher/steadydispatcher/Run")⟩ := by decide +kernel
theorem own_pd4 : parseMethodDescriptor "()Z" = some ⟨[], some .boolean⟩ := by decide +kernel
theorem own_pd5 : parseMethodDescriptor "()J" = some ⟨[], some .long⟩ := by decide +kernel
theorem own_pd6 : parseMethodDescriptor "()Ljava/lang/Object;" = some ⟨[], some (.object "java/lang/Object")⟩ := by decide +kernel
theorem own_pd7 : parseMethodDescriptor "(J)Ljava/lang/Long;" = some ⟨[.long], some (.object "java/lang/Long")⟩ := by decide +kernel
set_option maxRecDepth 65536 in
set_option maxHeartbeats 40000000 in
theorem own_rm0 (l : Launch) (Z : State) (a0 : Array Value) (hw : ∀ d ∈ tables_1, d.before a0 Z = true) (ws : List Jvm.Cond) (m0 : Int64) (i1 : Int32) (w0 : Addr) (cw : Cell) (h0 : Heap) (n0 : Nat) (Z0 : n0 ≤ h0.size) (S0 : Sta Z h0 "java/lang/Long$LongCache" "cache" "[Ljava/lang/Long;" (.ref w0)) (A0 : Arr Z h0 w0 cw (.object "java/lang/Long")) (z0 : cw.slots.size = 256) (t0 : ∀ k, k < 256 → ∃ b, cw.slots[k]? = some (.ref b) ∧ Exa Z h0 b "java/lang/Long" ∧ Fld Z h0 b "java/lang/Long" "value" "J" (.long (k.toInt32 - 128).toInt64)) :
    MetFree l x (head1 (Jvm.Cond.code x code maxLocals ret :: ws) room_1) (fun a U => a = #[(.long m0), (.int i1)] ∧ Z.Warmed39 U.vm ∧ U.heap = h0) (fun _ _ _ _ _ => True) (fun _ U o U' => ∃ v L, o = .returned v ∧ own_Q0 n0 v U'.heap L ∧ FrameEnd U o U' L room_1.cells room_1.slots) := by
  refine MetFree.of_bodySF (plainFor_of_name own_pn3) hisR ?_
  intro p e s m args below meth c s₁ Bd hml0 hP hK
  obtain ⟨rfl, hZ, hh⟩ := hP
  have hx := Bd.exec
  have hby := Bd.bytes
  have hlk : meth.locks = false := Bd.notSynchronized
  have hml : c.maxLocals = 6 := hml0
  have hown : s.vm.findClass "com/example/steady_dispatcher/steadydispatcher/RunDonePinLaw" = some m.cls := findClass_of_methodNamed Bd.named
  have hnm := (name_of_methodNamed Bd.named Bd.method).1
  have X0 : Stand p l e room_1 s m #[(.long m0), (.int i1)] below meth c s₁ [] 0 0 := Stand.of_body Bd
  have e0 : s₁.heap = h0 := by rw [← hh, Bd.state]; rfl
  have N0 := Fr.nil n0
  show own_E p e below (own_P s (own_Q0 n0) room_1.cells room_1.slots) s₁ (entryFrame m #[(.long m0), (.int i1)] maxLocals)
  refine own_cast (own_ef10 m m0 i1) ?_
  show own_E p e below _ s₁ (mkF m 0 #[.val (.long m0), .second, .val (.int i1), .unset, .unset, .unset] [])
  refine own_iloadN X0 hx (hb hby at_0) rfl ?_
  show own_E p e below _ s₁ (mkF m 1 #[.val (.long m0), .second, .val (.int i1), .unset, .unset, .unset] [(.int i1)])
  refine own_iconst X0 hx (hb hby at_1) (v := (1 : Int32)) (by decide) ?_
  show own_E p e below _ s₁ (mkF m 2 #[.val (.long m0), .second, .val (.int i1), .unset, .unset, .unset] [(.int (1 : Int32)), (.int i1)])
  refine own_iand X0 hx (hb hby at_2) (z := (i1 &&& (1 : Int32))) rfl ?_
  show own_E p e below _ s₁ (mkF m 3 #[.val (.long m0), .second, .val (.int i1), .unset, .unset, .unset] [(.int (i1 &&& (1 : Int32)))])
  by_cases hf : (i1 &&& (1 : Int32)) = 0
  · skip
    refine own_ifYes X0 hx (hb hby at_3) (Jvm.Free.XT.i0_eq_t hf) 10 (by decide) (by decide) ?_
    show own_E p e below _ s₁ (mkF m 10 #[.val (.long m0), .second, .val (.int i1), .unset, .unset, .unset] [])
    refine own_lloadN X0 hx (hb hby at_10) rfl ?_
    show own_E p e below _ s₁ (mkF m 11 #[.val (.long m0), .second, .val (.int i1), .unset, .unset, .unset] [(.long m0)])
    obtain ⟨_, _, ⟨T23, L23, k23, n23⟩, -, X23, ⟨Lc23, hQ23, l23, y23, z23⟩, st23⟩ := Jvm.LawKit.callS X0 hx (y := (⟨"java/lang/Long", "valueOf", "(J)Ljava/lang/Long;"⟩ : MethodName)) hown (mvT hZ (hw _ (List.mem_of_getElem? (i := 0) rfl))) (mvT hZ (hw _ (List.mem_of_getElem? (i := 1) rfl))) (mvT hZ (hw _ (List.mem_of_getElem? (i := 2) rfl))) (mvT hZ (hw _ (List.mem_of_getElem? (i := 3) rfl))) (by decide) (backOf (W := 0) (own_rmB l Z a0 hw [] m0 w0 cw h0 n0 Z0 S0 A0 z0 t0) hZ (hw _ (List.mem_of_getElem? (i := 3) rfl)) (hw _ (List.mem_of_getElem? (i := 2) rfl)) (by decide) (by decide)) (g := (mkF m 11 #[.val (.long m0), .second, .val (.int i1), .unset, .unset, .unset] [(.long m0)])) rfl (by rw [hml]; rfl) (argsL := [(.long m0)]) (rest := []) (lenOf own_pd7 rfl) rfl (by show 2 * 0 + _ ≤ _; exact Nat.le_of_eq rfl) (hb hby at_11) (fun _ _ => ⟨rfl, e0, Nat.le_of_ble_eq_true rfl, Nat.le_of_ble_eq_true rfl⟩)
    dsimp only [Pt.U, Pt.locs, Pt.cells, Pt.slots] at X23 l23 y23 z23 st23 hQ23
    subst l23 y23 z23
    obtain ⟨a23, rfl, M23, K23, A23, F23⟩ := hQ23
    have N23 := Fr.app N0 M23
    refine own_go st23 ?_
    have z23 : h0.size ≤ T23.heap.size := K23.1
    show own_E p e below _ T23 (mkF m 14 #[.val (.long m0), .second, .val (.int i1), .unset, .unset, .unset] [(.ref a23)])
    refine own_astoreN X23 hx (hb hby at_14) rfl (l' := #[.val (.long m0), .second, .val (.int i1), .val (.ref a23), .unset, .unset]) rfl ?_
    show own_E p e below _ T23 (mkF m 15 #[.val (.long m0), .second, .val (.int i1), .val (.ref a23), .unset, .unset] [])
    refine own_aloadN X23 hx (hb hby at_15) rfl rfl ?_
    show own_E p e below _ T23 (mkF m 16 #[.val (.long m0), .second, .val (.int i1), .val (.ref a23), .unset, .unset] [(.ref a23)])
    obtain ⟨_, _, ⟨T24, L24, k24, n24⟩, -, X24, ⟨Lc24, hQ24, l24, y24, z24⟩, st24⟩ := Jvm.LawKit.callS X23 hx (y := (⟨"com/example/steady_dispatcher/steadydispatcher/Run", "done", "(Ljava/lang/Object;)Lcom/example/steady_dispatcher/steadydispatcher/Run;"⟩ : MethodName)) hown (mvT hZ (hw _ (List.mem_of_getElem? (i := 8) rfl))) (mvT hZ (hw _ (List.mem_of_getElem? (i := 9) rfl))) (mvT hZ (hw _ (List.mem_of_getElem? (i := 10) rfl))) (mvT hZ (hw _ (List.mem_of_getElem? (i := 11) rfl))) (by decide) (backOf (W := 0) (own_rmD l Z a0 hw [] (.ref a23) T23.heap n0 (by omega) rfl) hZ (hw _ (List.mem_of_getElem? (i := 11) rfl)) (hw _ (List.mem_of_getElem? (i := 10) rfl)) (by decide) (by decide)) (g := (mkF m 16 #[.val (.long m0), .second, .val (.int i1), .val (.ref a23), .unset, .unset] [(.ref a23)])) rfl (by rw [hml]; rfl) (argsL := [(.ref a23)]) (rest := []) (lenOf own_pd3 rfl) rfl (by show 2 * 0 + _ ≤ _; exact Nat.le_of_eq rfl) (hb hby at_16) (fun _ _ => ⟨rfl, (rfl : T23.heap = T23.heap), Nat.le_of_ble_eq_true rfl, Nat.le_of_ble_eq_true rfl⟩)
    dsimp only [Pt.U, Pt.locs, Pt.cells, Pt.slots] at X24 l24 y24 z24 st24 hQ24
    subst l24 y24 z24
    obtain ⟨a24, rfl, M24, K24, A24, F24, G24⟩ := hQ24
    have N24 := Fr.app N23 M24
    refine own_go st24 ?_
    have z24 : T23.heap.size ≤ T24.heap.size := K24.1
    show own_E p e below _ T24 (mkF m 19 #[.val (.long m0), .second, .val (.int i1), .val (.ref a23), .unset, .unset] [(.ref a24)])
    refine own_astore X24 hx (hb hby at_19) rfl (l' := #[.val (.long m0), .second, .val (.int i1), .val (.ref a23), .val (.ref a24), .unset]) rfl ?_
    show own_E p e below _ T24 (mkF m 21 #[.val (.long m0), .second, .val (.int i1), .val (.ref a23), .val (.ref a24), .unset] [])
    refine own_aload X24 hx (hb hby at_21) rfl rfl ?_
    show own_E p e below _ T24 (mkF m 23 #[.val (.long m0), .second, .val (.int i1), .val (.ref a23), .val (.ref a24), .unset] [(.ref a24)])
    obtain ⟨cq25, kq25, qa25, qb25, qc25⟩ := isOf hZ (rfl : T24.heap = T24.heap) A24
    obtain ⟨_, _, ⟨T25, L25, k25, n25⟩, -, X25, ⟨Lc25, hQ25, l25, y25, z25⟩, st25⟩ := X24.virtualBack hx (y := (⟨"com/example/steady_dispatcher/steadydispatcher/Run", "isDone", "()Z"⟩ : MethodName)) (z := (⟨"com/example/steady_dispatcher/steadydispatcher/Run", "isDone", "()Z"⟩ : MethodName)) hown (mvT hZ (hw _ (List.mem_of_getElem? (i := 25) rfl))) (mvT hZ (hw _ (List.mem_of_getElem? (i := 26) rfl))) (notFace_of_selects (args := #[]) (mvT hZ (hw _ (List.mem_of_getElem? (i := 28) rfl)))) (mvT hZ (hw _ (List.mem_of_getElem? (i := 28) rfl))) (mvT hZ (hw _ (List.mem_of_getElem? (i := 27) rfl))) (by decide) (backOf (W := 0) (own_rmS l Z a0 hw [] a24 T24.heap n0 (by omega) G24) hZ (hw _ (List.mem_of_getElem? (i := 29) rfl)) (hw _ (List.mem_of_getElem? (i := 10) rfl)) (by decide) (by decide)) qa25 qc25 (g := (mkF m 23 #[.val (.long m0), .second, .val (.int i1), .val (.ref a23), .val (.ref a24), .unset] [(.ref a24)])) rfl (by rw [hml]; rfl) (Steps.refl _) (argsL := []) (rest := []) (lenOf own_pd4 rfl) rfl (by show 2 * 0 + _ ≤ _; exact Nat.le_of_eq rfl) (hb hby at_23) (fun _ _ => ⟨rfl, (rfl : T24.heap = T24.heap), Nat.le_of_ble_eq_true rfl, Nat.le_of_ble_eq_true rfl⟩)
    dsimp only [Pt.U, Pt.locs, Pt.cells, Pt.slots] at X25 l25 y25 z25 st25 hQ25
    subst l25 y25 z25
    obtain ⟨rfl, M25, e25⟩ := hQ25
    have N25 := Fr.app N24 M25
    refine own_go (fun _ k => st25.trans k) ?_
    show own_E p e below _ T25 (mkF m 26 #[.val (.long m0), .second, .val (.int i1), .val (.ref a23), .val (.ref a24), .unset] [(.int (1 : Int32))])
    refine own_ifYes X25 hx (hb hby at_26) (by decide +kernel) 31 (by decide) (by decide) ?_
    show own_E p e below _ T25 (mkF m 31 #[.val (.long m0), .second, .val (.int i1), .val (.ref a23), .val (.ref a24), .unset] [])
    refine own_aload X25 hx (hb hby at_31) rfl rfl ?_
    show own_E p e below _ T25 (mkF m 33 #[.val (.long m0), .second, .val (.int i1), .val (.ref a23), .val (.ref a24), .unset] [(.ref a24)])
    obtain ⟨cq26, kq26, qa26, qb26, qc26⟩ := isOf hZ e25 A24
    obtain ⟨_, _, ⟨T26, L26, k26, n26⟩, -, X26, ⟨Lc26, hQ26, l26, y26, z26⟩, st26⟩ := X25.virtualBack hx (y := (⟨"com/example/steady_dispatcher/steadydispatcher/Run", "delayNanos", "()J"⟩ : MethodName)) (z := (⟨"com/example/steady_dispatcher/steadydispatcher/Run", "delayNanos", "()J"⟩ : MethodName)) hown (mvT hZ (hw _ (List.mem_of_getElem? (i := 30) rfl))) (mvT hZ (hw _ (List.mem_of_getElem? (i := 31) rfl))) (notFace_of_selects (args := #[]) (mvT hZ (hw _ (List.mem_of_getElem? (i := 33) rfl)))) (mvT hZ (hw _ (List.mem_of_getElem? (i := 33) rfl))) (mvT hZ (hw _ (List.mem_of_getElem? (i := 32) rfl))) (by decide) (backOf (W := 0) (own_rmY l Z a0 hw [] a24 T24.heap n0 (by omega) G24) hZ (hw _ (List.mem_of_getElem? (i := 34) rfl)) (hw _ (List.mem_of_getElem? (i := 10) rfl)) (by decide) (by decide)) qa26 qc26 (g := (mkF m 33 #[.val (.long m0), .second, .val (.int i1), .val (.ref a23), .val (.ref a24), .unset] [(.ref a24)])) rfl (by rw [hml]; rfl) (Steps.refl _) (argsL := []) (rest := []) (lenOf own_pd5 rfl) rfl (by show 2 * 0 + _ ≤ _; exact Nat.le_of_eq rfl) (hb hby at_33) (fun _ _ => ⟨rfl, e25, Nat.le_of_ble_eq_true rfl, Nat.le_of_ble_eq_true rfl⟩)
    dsimp only [Pt.U, Pt.locs, Pt.cells, Pt.slots] at X26 l26 y26 z26 st26 hQ26
    subst l26 y26 z26
    obtain ⟨rfl, M26, e26⟩ := hQ26
    have N26 := Fr.app N25 M26
    refine own_go (fun _ k => st26.trans k) ?_
    show own_E p e below _ T26 (mkF m 36 #[.val (.long m0), .second, .val (.int i1), .val (.ref a23), .val (.ref a24), .unset] [(.long (-1 : Int64))])
    refine own_go (fun _ k => X26.ldc2J hx hown (mvT hZ (hw _ (List.mem_of_getElem? (i := 35) rfl))) rfl (hb hby at_36) k) ?_
    show own_E p e below _ T26 (mkF m 39 #[.val (.long m0), .second, .val (.int i1), .val (.ref a23), .val (.ref a24), .unset] [(.long (-1 : Int64)), (.long (-1 : Int64))])
    refine own_lcmp X26 hx (hb hby at_39) (z := (0 : Int32)) (by decide +kernel) ?_
    show own_E p e below _ T26 (mkF m 40 #[.val (.long m0), .second, .val (.int i1), .val (.ref a23), .val (.ref a24), .unset] [(.int (0 : Int32))])
    refine own_ifYes X26 hx (hb hby at_40) (by decide +kernel) 45 (by decide) (by decide) ?_
    show own_E p e below _ T26 (mkF m 45 #[.val (.long m0), .second, .val (.int i1), .val (.ref a23), .val (.ref a24), .unset] [])
    refine own_aload X26 hx (hb hby at_45) rfl rfl ?_
    show own_E p e below _ T26 (mkF m 47 #[.val (.long m0), .second, .val (.int i1), .val (.ref a23), .val (.ref a24), .unset] [(.ref a24)])
    obtain ⟨cq27, kq27, qa27, qb27, qc27⟩ := isOf hZ e26 A24
    obtain ⟨_, _, ⟨T27, L27, k27, n27⟩, -, X27, ⟨Lc27, hQ27, l27, y27, z27⟩, st27⟩ := X26.virtualBack hx (y := (⟨"com/example/steady_dispatcher/steadydispatcher/Run", "value", "()Ljava/lang/Object;"⟩ : MethodName)) (z := (⟨"com/example/steady_dispatcher/steadydispatcher/Run", "value", "()Ljava/lang/Object;"⟩ : MethodName)) hown (mvT hZ (hw _ (List.mem_of_getElem? (i := 36) rfl))) (mvT hZ (hw _ (List.mem_of_getElem? (i := 37) rfl))) (notFace_of_selects (args := #[]) (mvT hZ (hw _ (List.mem_of_getElem? (i := 39) rfl)))) (mvT hZ (hw _ (List.mem_of_getElem? (i := 39) rfl))) (mvT hZ (hw _ (List.mem_of_getElem? (i := 38) rfl))) (by decide) (backOf (W := 0) (own_rmW l Z a0 hw [] a24 (.ref a23) T24.heap n0 (by omega) rfl F24) hZ (hw _ (List.mem_of_getElem? (i := 40) rfl)) (hw _ (List.mem_of_getElem? (i := 10) rfl)) (by decide) (by decide)) qa27 qc27 (g := (mkF m 47 #[.val (.long m0), .second, .val (.int i1), .val (.ref a23), .val (.ref a24), .unset] [(.ref a24)])) rfl (by rw [hml]; rfl) (Steps.refl _) (argsL := []) (rest := []) (lenOf own_pd6 rfl) rfl (by show 2 * 0 + _ ≤ _; exact Nat.le_of_eq rfl) (hb hby at_47) (fun _ _ => ⟨rfl, e26, Nat.le_of_ble_eq_true rfl, Nat.le_of_ble_eq_true rfl⟩)
    dsimp only [Pt.U, Pt.locs, Pt.cells, Pt.slots] at X27 l27 y27 z27 st27 hQ27
    subst l27 y27 z27
    obtain ⟨rfl, M27, e27⟩ := hQ27
    have N27 := Fr.app N26 M27
    refine own_go (fun _ k => st27.trans k) ?_
    show own_E p e below _ T27 (mkF m 50 #[.val (.long m0), .second, .val (.int i1), .val (.ref a23), .val (.ref a24), .unset] [(.ref a23)])
    obtain ⟨T28, X28, e28, st28⟩ := castY X27 hx hZ hown (hw _ (List.mem_of_getElem? (i := 41) rfl)) e27 (Ins.self (A23.keep K24)) (g := (mkF m 50 #[.val (.long m0), .second, .val (.int i1), .val (.ref a23), .val (.ref a24), .unset] [(.ref a23)])) rfl rfl (hb hby at_50)
    refine own_go st28 ?_
    show own_E p e below _ T28 (mkF m 53 #[.val (.long m0), .second, .val (.int i1), .val (.ref a23), .val (.ref a24), .unset] [(.ref a23)])
    refine own_astore X28 hx (hb hby at_53) rfl (l' := #[.val (.long m0), .second, .val (.int i1), .val (.ref a23), .val (.ref a24), .val (.ref a23)]) rfl ?_
    show own_E p e below _ T28 (mkF m 55 #[.val (.long m0), .second, .val (.int i1), .val (.ref a23), .val (.ref a24), .val (.ref a23)] [])
    refine own_aload X28 hx (hb hby at_55) rfl rfl ?_
    show own_E p e below _ T28 (mkF m 57 #[.val (.long m0), .second, .val (.int i1), .val (.ref a23), .val (.ref a24), .val (.ref a23)] [(.ref a23)])
    refine own_aloadN X28 hx (hb hby at_57) rfl rfl ?_
    show own_E p e below _ T28 (mkF m 58 #[.val (.long m0), .second, .val (.int i1), .val (.ref a23), .val (.ref a24), .val (.ref a23)] [(.ref a23), (.ref a23)])
    refine own_acmpYes X28 hx (hb hby at_58) rfl rfl (Jvm.Free.XT.aa_eq_t rfl) 63 (by decide) (by decide) ?_
    show own_E p e below _ T28 (mkF m 63 #[.val (.long m0), .second, .val (.int i1), .val (.ref a23), .val (.ref a24), .val (.ref a23)] [])
    refine own_aloadN X28 hx (hb hby at_63) rfl rfl ?_
    show own_E p e below _ T28 (mkF m 64 #[.val (.long m0), .second, .val (.int i1), .val (.ref a23), .val (.ref a24), .val (.ref a23)] [(.ref a23)])
    refine own_nullNo X28 hx (hb hby at_64) ?_
    show own_E p e below _ T28 (mkF m 67 #[.val (.long m0), .second, .val (.int i1), .val (.ref a23), .val (.ref a24), .val (.ref a23)] [])
    refine own_aload X28 hx (hb hby at_67) rfl rfl ?_
    show own_E p e below _ T28 (mkF m 69 #[.val (.long m0), .second, .val (.int i1), .val (.ref a23), .val (.ref a24), .val (.ref a23)] [(.ref a23)])
    obtain ⟨cq29, kq29, qa29, qb29, qc29⟩ := isOf hZ e28 (A23.keep K24)
    obtain ⟨_, _, ⟨T29, L29, k29, n29⟩, -, X29, ⟨Lc29, hQ29, l29, y29, z29⟩, st29⟩ := X28.virtualBack hx (y := (⟨"java/lang/Long", "longValue", "()J"⟩ : MethodName)) (z := (⟨"java/lang/Long", "longValue", "()J"⟩ : MethodName)) hown (mvT hZ (hw _ (List.mem_of_getElem? (i := 43) rfl))) (mvT hZ (hw _ (List.mem_of_getElem? (i := 44) rfl))) (notFace_of_selects (args := #[]) (mvT hZ (hw _ (List.mem_of_getElem? (i := 46) rfl)))) (mvT hZ (hw _ (List.mem_of_getElem? (i := 46) rfl))) (mvT hZ (hw _ (List.mem_of_getElem? (i := 45) rfl))) (by decide) (backOf (W := 0) (own_rmX l Z a0 hw [] a23 m0 T24.heap n0 (by omega) (F23.keep K24 nin0)) hZ (hw _ (List.mem_of_getElem? (i := 47) rfl)) (hw _ (List.mem_of_getElem? (i := 2) rfl)) (by decide) (by decide)) qa29 qc29 (g := (mkF m 69 #[.val (.long m0), .second, .val (.int i1), .val (.ref a23), .val (.ref a24), .val (.ref a23)] [(.ref a23)])) rfl (by rw [hml]; rfl) (Steps.refl _) (argsL := []) (rest := []) (lenOf own_pd5 rfl) rfl (by show 2 * 0 + _ ≤ _; exact Nat.le_of_eq rfl) (hb hby at_69) (fun _ _ => ⟨rfl, e28, Nat.le_of_ble_eq_true rfl, Nat.le_of_ble_eq_true rfl⟩)
    dsimp only [Pt.U, Pt.locs, Pt.cells, Pt.slots] at X29 l29 y29 z29 st29 hQ29
    subst l29 y29 z29
    obtain ⟨rfl, M29, e29⟩ := hQ29
    have N29 := Fr.app N27 M29
    refine own_go (fun _ k => st29.trans k) ?_
    show own_E p e below _ T29 (mkF m 72 #[.val (.long m0), .second, .val (.int i1), .val (.ref a23), .val (.ref a24), .val (.ref a23)] [(.long m0)])
    refine own_lloadN X29 hx (hb hby at_72) rfl ?_
    show own_E p e below _ T29 (mkF m 73 #[.val (.long m0), .second, .val (.int i1), .val (.ref a23), .val (.ref a24), .val (.ref a23)] [(.long m0), (.long m0)])
    refine own_lcmp X29 hx (hb hby at_73) (z := (Jvm.Free.XT.cmpL m0 m0)) rfl ?_
    show own_E p e below _ T29 (mkF m 74 #[.val (.long m0), .second, .val (.int i1), .val (.ref a23), .val (.ref a24), .val (.ref a23)] [(.int (Jvm.Free.XT.cmpL m0 m0))])
    refine own_ifYes X29 hx (hb hby at_74) (Jvm.Free.XT.ll_eq_t rfl) 79 (by decide) (by decide) ?_
    show own_E p e below _ T29 (mkF m 79 #[.val (.long m0), .second, .val (.int i1), .val (.ref a23), .val (.ref a24), .val (.ref a23)] [])
    refine own_iconst X29 hx (hb hby at_79) (v := (1 : Int32)) (by decide) ?_
    show own_E p e below _ T29 (mkF m 80 #[.val (.long m0), .second, .val (.int i1), .val (.ref a23), .val (.ref a24), .val (.ref a23)] [(.int (1 : Int32))])
    refine own_retN X29 hx (t := .boolean) Bd.returns (by simp) hlk (hb hby at_80) (z' := (1 : Int32)) (by decide) (by decide) (by decide) ?_
    rw [e29]
    exact ⟨rfl, N29⟩
  · skip
    refine own_ifNo X0 hx (hb hby at_3) (Jvm.Free.XT.i0_eq_f hf) ?_
    show own_E p e below _ s₁ (mkF m 6 #[.val (.long m0), .second, .val (.int i1), .unset, .unset, .unset] [])
    refine own_aconstNull X0 hx (hb hby at_6) ?_
    show own_E p e below _ s₁ (mkF m 7 #[.val (.long m0), .second, .val (.int i1), .unset, .unset, .unset] [.null])
    refine own_goto X0 hx (hb hby at_7) 14 (by decide) (by decide) ?_
    show own_E p e below _ s₁ (mkF m 14 #[.val (.long m0), .second, .val (.int i1), .unset, .unset, .unset] [.null])
    refine own_astoreN X0 hx (hb hby at_14) rfl (l' := #[.val (.long m0), .second, .val (.int i1), .val .null, .unset, .unset]) rfl ?_
    show own_E p e below _ s₁ (mkF m 15 #[.val (.long m0), .second, .val (.int i1), .val .null, .unset, .unset] [])
    refine own_aloadN X0 hx (hb hby at_15) rfl rfl ?_
    show own_E p e below _ s₁ (mkF m 16 #[.val (.long m0), .second, .val (.int i1), .val .null, .unset, .unset] [.null])
    obtain ⟨_, _, ⟨T18, L18, k18, n18⟩, -, X18, ⟨Lc18, hQ18, l18, y18, z18⟩, st18⟩ := Jvm.LawKit.callS X0 hx (y := (⟨"com/example/steady_dispatcher/steadydispatcher/Run", "done", "(Ljava/lang/Object;)Lcom/example/steady_dispatcher/steadydispatcher/Run;"⟩ : MethodName)) hown (mvT hZ (hw _ (List.mem_of_getElem? (i := 8) rfl))) (mvT hZ (hw _ (List.mem_of_getElem? (i := 9) rfl))) (mvT hZ (hw _ (List.mem_of_getElem? (i := 10) rfl))) (mvT hZ (hw _ (List.mem_of_getElem? (i := 11) rfl))) (by decide) (backOf (W := 0) (own_rmD l Z a0 hw [] .null h0 n0 (by omega) rfl) hZ (hw _ (List.mem_of_getElem? (i := 11) rfl)) (hw _ (List.mem_of_getElem? (i := 10) rfl)) (by decide) (by decide)) (g := (mkF m 16 #[.val (.long m0), .second, .val (.int i1), .val .null, .unset, .unset] [.null])) rfl (by rw [hml]; rfl) (argsL := [.null]) (rest := []) (lenOf own_pd3 rfl) rfl (by show 2 * 0 + _ ≤ _; exact Nat.le_of_eq rfl) (hb hby at_16) (fun _ _ => ⟨rfl, e0, Nat.le_of_ble_eq_true rfl, Nat.le_of_ble_eq_true rfl⟩)
    dsimp only [Pt.U, Pt.locs, Pt.cells, Pt.slots] at X18 l18 y18 z18 st18 hQ18
    subst l18 y18 z18
    obtain ⟨a18, rfl, M18, K18, A18, F18, G18⟩ := hQ18
    have N18 := Fr.app N0 M18
    refine own_go st18 ?_
    have z18 : h0.size ≤ T18.heap.size := K18.1
    show own_E p e below _ T18 (mkF m 19 #[.val (.long m0), .second, .val (.int i1), .val .null, .unset, .unset] [(.ref a18)])
    refine own_astore X18 hx (hb hby at_19) rfl (l' := #[.val (.long m0), .second, .val (.int i1), .val .null, .val (.ref a18), .unset]) rfl ?_
    show own_E p e below _ T18 (mkF m 21 #[.val (.long m0), .second, .val (.int i1), .val .null, .val (.ref a18), .unset] [])
    refine own_aload X18 hx (hb hby at_21) rfl rfl ?_
    show own_E p e below _ T18 (mkF m 23 #[.val (.long m0), .second, .val (.int i1), .val .null, .val (.ref a18), .unset] [(.ref a18)])
    obtain ⟨cq19, kq19, qa19, qb19, qc19⟩ := isOf hZ (rfl : T18.heap = T18.heap) A18
    obtain ⟨_, _, ⟨T19, L19, k19, n19⟩, -, X19, ⟨Lc19, hQ19, l19, y19, z19⟩, st19⟩ := X18.virtualBack hx (y := (⟨"com/example/steady_dispatcher/steadydispatcher/Run", "isDone", "()Z"⟩ : MethodName)) (z := (⟨"com/example/steady_dispatcher/steadydispatcher/Run", "isDone", "()Z"⟩ : MethodName)) hown (mvT hZ (hw _ (List.mem_of_getElem? (i := 25) rfl))) (mvT hZ (hw _ (List.mem_of_getElem? (i := 26) rfl))) (notFace_of_selects (args := #[]) (mvT hZ (hw _ (List.mem_of_getElem? (i := 28) rfl)))) (mvT hZ (hw _ (List.mem_of_getElem? (i := 28) rfl))) (mvT hZ (hw _ (List.mem_of_getElem? (i := 27) rfl))) (by decide) (backOf (W := 0) (own_rmS l Z a0 hw [] a18 T18.heap n0 (by omega) G18) hZ (hw _ (List.mem_of_getElem? (i := 29) rfl)) (hw _ (List.mem_of_getElem? (i := 10) rfl)) (by decide) (by decide)) qa19 qc19 (g := (mkF m 23 #[.val (.long m0), .second, .val (.int i1), .val .null, .val (.ref a18), .unset] [(.ref a18)])) rfl (by rw [hml]; rfl) (Steps.refl _) (argsL := []) (rest := []) (lenOf own_pd4 rfl) rfl (by show 2 * 0 + _ ≤ _; exact Nat.le_of_eq rfl) (hb hby at_23) (fun _ _ => ⟨rfl, (rfl : T18.heap = T18.heap), Nat.le_of_ble_eq_true rfl, Nat.le_of_ble_eq_true rfl⟩)
    dsimp only [Pt.U, Pt.locs, Pt.cells, Pt.slots] at X19 l19 y19 z19 st19 hQ19
    subst l19 y19 z19
    obtain ⟨rfl, M19, e19⟩ := hQ19
    have N19 := Fr.app N18 M19
    refine own_go (fun _ k => st19.trans k) ?_
    show own_E p e below _ T19 (mkF m 26 #[.val (.long m0), .second, .val (.int i1), .val .null, .val (.ref a18), .unset] [(.int (1 : Int32))])
    refine own_ifYes X19 hx (hb hby at_26) (by decide +kernel) 31 (by decide) (by decide) ?_
    show own_E p e below _ T19 (mkF m 31 #[.val (.long m0), .second, .val (.int i1), .val .null, .val (.ref a18), .unset] [])
    refine own_aload X19 hx (hb hby at_31) rfl rfl ?_
    show own_E p e below _ T19 (mkF m 33 #[.val (.long m0), .second, .val (.int i1), .val .null, .val (.ref a18), .unset] [(.ref a18)])
    obtain ⟨cq20, kq20, qa20, qb20, qc20⟩ := isOf hZ e19 A18
    obtain ⟨_, _, ⟨T20, L20, k20, n20⟩, -, X20, ⟨Lc20, hQ20, l20, y20, z20⟩, st20⟩ := X19.virtualBack hx (y := (⟨"com/example/steady_dispatcher/steadydispatcher/Run", "delayNanos", "()J"⟩ : MethodName)) (z := (⟨"com/example/steady_dispatcher/steadydispatcher/Run", "delayNanos", "()J"⟩ : MethodName)) hown (mvT hZ (hw _ (List.mem_of_getElem? (i := 30) rfl))) (mvT hZ (hw _ (List.mem_of_getElem? (i := 31) rfl))) (notFace_of_selects (args := #[]) (mvT hZ (hw _ (List.mem_of_getElem? (i := 33) rfl)))) (mvT hZ (hw _ (List.mem_of_getElem? (i := 33) rfl))) (mvT hZ (hw _ (List.mem_of_getElem? (i := 32) rfl))) (by decide) (backOf (W := 0) (own_rmY l Z a0 hw [] a18 T18.heap n0 (by omega) G18) hZ (hw _ (List.mem_of_getElem? (i := 34) rfl)) (hw _ (List.mem_of_getElem? (i := 10) rfl)) (by decide) (by decide)) qa20 qc20 (g := (mkF m 33 #[.val (.long m0), .second, .val (.int i1), .val .null, .val (.ref a18), .unset] [(.ref a18)])) rfl (by rw [hml]; rfl) (Steps.refl _) (argsL := []) (rest := []) (lenOf own_pd5 rfl) rfl (by show 2 * 0 + _ ≤ _; exact Nat.le_of_eq rfl) (hb hby at_33) (fun _ _ => ⟨rfl, e19, Nat.le_of_ble_eq_true rfl, Nat.le_of_ble_eq_true rfl⟩)
    dsimp only [Pt.U, Pt.locs, Pt.cells, Pt.slots] at X20 l20 y20 z20 st20 hQ20
    subst l20 y20 z20
    obtain ⟨rfl, M20, e20⟩ := hQ20
    have N20 := Fr.app N19 M20
    refine own_go (fun _ k => st20.trans k) ?_
    show own_E p e below _ T20 (mkF m 36 #[.val (.long m0), .second, .val (.int i1), .val .null, .val (.ref a18), .unset] [(.long (-1 : Int64))])
    refine own_go (fun _ k => X20.ldc2J hx hown (mvT hZ (hw _ (List.mem_of_getElem? (i := 35) rfl))) rfl (hb hby at_36) k) ?_
    show own_E p e below _ T20 (mkF m 39 #[.val (.long m0), .second, .val (.int i1), .val .null, .val (.ref a18), .unset] [(.long (-1 : Int64)), (.long (-1 : Int64))])
    refine own_lcmp X20 hx (hb hby at_39) (z := (0 : Int32)) (by decide +kernel) ?_
    show own_E p e below _ T20 (mkF m 40 #[.val (.long m0), .second, .val (.int i1), .val .null, .val (.ref a18), .unset] [(.int (0 : Int32))])
    refine own_ifYes X20 hx (hb hby at_40) (by decide +kernel) 45 (by decide) (by decide) ?_
    show own_E p e below _ T20 (mkF m 45 #[.val (.long m0), .second, .val (.int i1), .val .null, .val (.ref a18), .unset] [])
    refine own_aload X20 hx (hb hby at_45) rfl rfl ?_
    show own_E p e below _ T20 (mkF m 47 #[.val (.long m0), .second, .val (.int i1), .val .null, .val (.ref a18), .unset] [(.ref a18)])
    obtain ⟨cq21, kq21, qa21, qb21, qc21⟩ := isOf hZ e20 A18
    obtain ⟨_, _, ⟨T21, L21, k21, n21⟩, -, X21, ⟨Lc21, hQ21, l21, y21, z21⟩, st21⟩ := X20.virtualBack hx (y := (⟨"com/example/steady_dispatcher/steadydispatcher/Run", "value", "()Ljava/lang/Object;"⟩ : MethodName)) (z := (⟨"com/example/steady_dispatcher/steadydispatcher/Run", "value", "()Ljava/lang/Object;"⟩ : MethodName)) hown (mvT hZ (hw _ (List.mem_of_getElem? (i := 36) rfl))) (mvT hZ (hw _ (List.mem_of_getElem? (i := 37) rfl))) (notFace_of_selects (args := #[]) (mvT hZ (hw _ (List.mem_of_getElem? (i := 39) rfl)))) (mvT hZ (hw _ (List.mem_of_getElem? (i := 39) rfl))) (mvT hZ (hw _ (List.mem_of_getElem? (i := 38) rfl))) (by decide) (backOf (W := 0) (own_rmW l Z a0 hw [] a18 .null T18.heap n0 (by omega) rfl F18) hZ (hw _ (List.mem_of_getElem? (i := 40) rfl)) (hw _ (List.mem_of_getElem? (i := 10) rfl)) (by decide) (by decide)) qa21 qc21 (g := (mkF m 47 #[.val (.long m0), .second, .val (.int i1), .val .null, .val (.ref a18), .unset] [(.ref a18)])) rfl (by rw [hml]; rfl) (Steps.refl _) (argsL := []) (rest := []) (lenOf own_pd6 rfl) rfl (by show 2 * 0 + _ ≤ _; exact Nat.le_of_eq rfl) (hb hby at_47) (fun _ _ => ⟨rfl, e20, Nat.le_of_ble_eq_true rfl, Nat.le_of_ble_eq_true rfl⟩)
    dsimp only [Pt.U, Pt.locs, Pt.cells, Pt.slots] at X21 l21 y21 z21 st21 hQ21
    subst l21 y21 z21
    obtain ⟨rfl, M21, e21⟩ := hQ21
    have N21 := Fr.app N20 M21
    refine own_go (fun _ k => st21.trans k) ?_
    show own_E p e below _ T21 (mkF m 50 #[.val (.long m0), .second, .val (.int i1), .val .null, .val (.ref a18), .unset] [.null])
    refine own_go (X21.checkcastNull hx (g := (mkF m 50 #[.val (.long m0), .second, .val (.int i1), .val .null, .val (.ref a18), .unset] [.null])) rfl rfl (hb hby at_50)) ?_
    show own_E p e below _ T21 (mkF m 53 #[.val (.long m0), .second, .val (.int i1), .val .null, .val (.ref a18), .unset] [.null])
    refine own_astore X21 hx (hb hby at_53) rfl (l' := #[.val (.long m0), .second, .val (.int i1), .val .null, .val (.ref a18), .val .null]) rfl ?_
    show own_E p e below _ T21 (mkF m 55 #[.val (.long m0), .second, .val (.int i1), .val .null, .val (.ref a18), .val .null] [])
    refine own_aload X21 hx (hb hby at_55) rfl rfl ?_
    show own_E p e below _ T21 (mkF m 57 #[.val (.long m0), .second, .val (.int i1), .val .null, .val (.ref a18), .val .null] [.null])
    refine own_aloadN X21 hx (hb hby at_57) rfl rfl ?_
    show own_E p e below _ T21 (mkF m 58 #[.val (.long m0), .second, .val (.int i1), .val .null, .val (.ref a18), .val .null] [.null, .null])
    refine own_acmpYes X21 hx (hb hby at_58) rfl rfl (Jvm.Free.XT.aa_eq_t rfl) 63 (by decide) (by decide) ?_
    show own_E p e below _ T21 (mkF m 63 #[.val (.long m0), .second, .val (.int i1), .val .null, .val (.ref a18), .val .null] [])
    refine own_aloadN X21 hx (hb hby at_63) rfl rfl ?_
    show own_E p e below _ T21 (mkF m 64 #[.val (.long m0), .second, .val (.int i1), .val .null, .val (.ref a18), .val .null] [.null])
    refine own_nullYes X21 hx (hb hby at_64) 79 (by decide) (by decide) ?_
    show own_E p e below _ T21 (mkF m 79 #[.val (.long m0), .second, .val (.int i1), .val .null, .val (.ref a18), .val .null] [])
    refine own_iconst X21 hx (hb hby at_79) (v := (1 : Int32)) (by decide) ?_
    show own_E p e below _ T21 (mkF m 80 #[.val (.long m0), .second, .val (.int i1), .val .null, .val (.ref a18), .val .null] [(.int (1 : Int32))])
    refine own_retN X21 hx (t := .boolean) Bd.returns (by simp) hlk (hb hby at_80) (z' := (1 : Int32)) (by decide) (by decide) (by decide) ?_
    rw [e21]
    exact ⟨rfl, N21⟩

theorem own_len {args : Array Value} {s : State} {t : Term} {a : Addr} {cl : Cell} {v : Int32} (ht : t.eval args s none [] s = some (.ref a)) (ha : s.arrayAt? a = some cl) (h : (Jvm.Cond.eq (.length t) (.int v)).value args s none s [] = some true) (hv : 0 ≤ v.toInt) : cl.slots.size = v.toInt.toNat := by
  by_cases hl : cl.slots.size < 2 ^ 31
  · have e := len_f ht ha hl
    have q := gotT (Cond.eq_ints e (Term.int_eval v)) h
    have z := len_toInt hl
    rw [q] at z
    omega
  · simp [Cond.value, Term.eval, ht, ha, hl] at h
theorem own_cacheL {args : Array Value} {s : State} {t : Term} {a : Addr} {cw : Cell} (ht : ∀ idx, t.eval args s none idx s = some (.ref a)) (ha : s.arrayAt? a = some cw) (hz : cw.slots.size = 256) (h : (Jvm.Cond.all t (Jvm.Cond.and (Jvm.Cond.exactly (Jvm.Term.elem t (Jvm.Term.index (0 : Nat))) "java/lang/Long") (Jvm.Cond.eq (Jvm.Term.field (Jvm.Term.elem t (Jvm.Term.index (0 : Nat))) "java/lang/Long" "value" "J") (Jvm.Term.op1 Jvm.Unary.i2l (Jvm.Term.sub (Jvm.Term.index (0 : Nat)) (Jvm.Term.int (128 : Int32))))))).value args s none s [] = some true) :
    ∀ k, k < 256 → ∃ b, cw.slots[k]? = some (.ref b) ∧ Exa s s.heap b "java/lang/Long" ∧ Fld s s.heap b "java/lang/Long" "value" "J" (.long (k.toInt32 - 128).toInt64) := by
  intro k hk
  obtain ⟨h1, h2⟩ := and_e (Cond.all_elim (ht _) ha h k (by omega))
  have ek : (Jvm.Term.index 0).eval args s none [k] s = some (.int k.toInt32) := rfl
  have e := len_toInt (n := k) (by omega)
  have n : ¬ k.toInt32 < 0 := by rw [Int32.lt_iff_toInt_lt, e]; simp
  have nk : k.toInt32.toNatClampNeg = k := by have := nat_of n; omega
  obtain ⟨b, c', cell, kk, e1, e2, e3, e4, e5, e6, e7⟩ := Cond.exactly_spec (beq_iff_eq.mpr h1 : (Jvm.Cond.exactly _ "java/lang/Long").holds args s none s [k] = true)
  have e1' := e1
  rw [elem_f (ht _) ek ha n, nk] at e1'
  subst e6
  refine ⟨b, e1', ⟨cell, kk, e3, e2, e4, e5, e7⟩, ?_⟩
  have ev : (Jvm.Term.op1 Jvm.Unary.i2l (Jvm.Term.sub (Jvm.Term.index (0 : Nat)) (Jvm.Term.int (128 : Int32)))).eval args s none [k] s = some (.long (k.toInt32 - 128).toInt64) := rfl
  obtain ⟨x, y, f1, f2, k1, k2⟩ := cmp_v (Or.inl h2)
  have f2' : y = .long (k.toInt32 - 128).toInt64 := (Option.some.inj (ev.symm.trans f2)).symm
  subst f2'
  obtain ⟨z, rfl⟩ := k2
  have q := gotT (eq_L f1 ev) h2
  subst q
  exact Fld.start (by rw [← fld_at e1]; exact f1)
set_option maxRecDepth 65536 in
set_option maxHeartbeats 40000000 in
theorem comes_1 {Post : Tables → Env → Array Value → State → Outcome → State → Prop} (hpost : ∀ tb e args s v u, (limb_1_1.after args s (.returned v) u = true ∧ limb_1_2.after args s (.returned v) u = true ∧ True) → FrameEnd s (.returned v) u (Jvm.fieldLocs frame_1_writes args s ++ Jvm.arrayLocs frame_1_arrays args s ++ Jvm.staticLocs frame_1_statics s) 16 128 → Post tb e args s (.returned v) u) :
    ArmFor flags0 classFile x code maxLocals ret World_1 tables_1 room_1 Calls_1 rest_1 Pre_1 Post := by
  intro l hfl _ _ p e ha hc hk s m args below hf hA hF happ hP
  obtain ⟨hcalls, hrest, hpre⟩ := hP
  obtain ⟨-, -, -, hnamed, -, -, -, hat⟩ := (Spec.applies_iff hf).mp happ
  obtain ⟨hg, hn⟩ := and_e (Cond.before_iff.mp (show (Jvm.Cond.and given_1 narrow_1).before args s = true from hpre))
  obtain ⟨hg1, hg2⟩ := and_e hg
  obtain ⟨w0, w1, rfl⟩ : ∃ w0 w1 : Value, args = #[w0, w1] := by
    have hs : args.size = 2 := by simpa [Cond.value, given_1] using hg1
    obtain ⟨L⟩ := args
    match L, hs with
    | [w0, w1], _ => exact ⟨w0, w1, rfl⟩
  have hw := fun d (hd : d ∈ tables_1) => atoms_spec (ws := Jvm.Cond.code x code maxLocals ret :: tables_1) hat d (List.mem_cons_of_mem _ hd)
  have hfit : Fit s := fun {y c} hc i hi => by
    obtain ⟨ha, rfl⟩ := Array.getElem?_eq_some_iff.mp hc
    have q := List.all_eq_true.mp ((Array.all_eq_true_iff_forall_mem.mp hF) _ (Array.getElem_mem ha)) i (List.mem_range.mpr hi)
    simpa [Array.getElem?_eq_getElem hi] using q
  obtain ⟨hk0, hr0⟩ := and_e hg2
  obtain ⟨i0, e0⟩ := isL_v hk0
  obtain rfl : w0 = (.long i0) := Option.some.inj e0
  obtain ⟨i1, e1⟩ := is_v hr0
  obtain rfl : w1 = (.int i1) := Option.some.inj e1
  obtain ⟨hsets, hown0⟩ := atoms_of _ (rest_1_c_eq ▸ (show rest_1_c.before _ s = true from hrest))
  have c2 := (Cond.before_iff.mp (hsets _ (List.mem_of_getElem? (i := 2) rfl)))
  have c4 := (Cond.before_iff.mp (hsets _ (List.mem_of_getElem? (i := 4) rfl)))
  have c5 := (Cond.before_iff.mp (hsets _ (List.mem_of_getElem? (i := 5) rfl)))
  obtain ⟨w0, ew⟩ := arr_v c2
  obtain ⟨cw, A0⟩ := Arr.start ew c2
  have S0 : Sta s s.heap "java/lang/Long$LongCache" "cache" "[Ljava/lang/Long;" (.ref w0) := Sta.start ew (Or.inl (hsets _ (List.mem_of_getElem? (i := 1) rfl)))
  have hA0 := Arr.fin (Vm.Alike.refl _) A0
  have z0 : cw.slots.size = 256 := own_len (v := 256) ew hA0 c4 (by decide)
  obtain ⟨n, o, h1, h2, h3, _, L, rfl, ⟨rfl, N⟩, hq⟩ := own_rm0 l s _ hw tables_1 i0 i1 w0 cw s.heap s.heap.size (Nat.le_refl _) S0 A0 z0 (own_cacheL (fun _ => ew) hA0 z0 c5) p e ha hc hk s m _ below hf ((Spec.applies_iff_loose hf).mp happ).1 ⟨rfl, State.Warmed39.refl s, rfl⟩ trivial
  refine ⟨n, _, h1, h2, h3, hpost _ _ _ _ _ _ ⟨Cond.after_iff.mpr rfl, Cond.after_iff.mpr (eq_i res_at (Term.int_eval (1)) rfl), trivial⟩ ⟨hq.1, hq.2.1, (hq.2.2.sift fun y hy => Or.inr (N y hy)).mono (by decide) (by decide)⟩⟩
theorem main_1_1 : Claimed_1_1 := comes_1 fun _ _ _ _ _ _ h hF => ⟨h.1, hF⟩
theorem main_1_2 : Claimed_1_2 := comes_1 fun _ _ _ _ _ _ h hF => ⟨h.2.1, hF⟩
end Jvm.Pilot.@@N@@
namespace Jvm.Pilot.@@N@@
open Jvm Jvm.ClassFile Sem Op Lib Jvm.Free Jvm.Stand Jvm.Pilot.@@N@@.Jvm.D
/-! MADE BY PROGRAM (witnessworld.py) out of the Statement's table words and the real class files: 16 classes; the members and pool entries that the words name. The judged class is class 1, her method 1. -/
namespace start1
open Jvm.ClassFile
def u (s : String) : CpInfo := .utf8 (stringToUtf16 s)
/-- a pool by its gaps: so many unusable entries, then the entry; so many at the end -/
def gap : Nat → List CpInfo → List CpInfo
  | 0, r => r
  | n + 1, r => .unusable :: gap n r
def poolList (es : List (Nat × CpInfo)) (last : Nat) : List CpInfo := es.foldr (fun e r => gap e.1 (e.2 :: r)) (gap last [])
def pool (es : List (Nat × CpInfo)) (last : Nat) : Array CpInfo := ⟨poolList es last⟩
def fileOf (pool : Array CpInfo) (this : Nat) (attrs : Array Attribute := #[]) (ms : Array MethodInfo := #[]) (fl : Nat := 33) (sup : Nat := 0) (ifs : Array Nat := #[]) (fds : Array FieldInfo := #[]) : ClassFile where
  minorVersion := 0
  majorVersion := 65
  constantPool := pool
  accessFlags := fl
  thisClass := this
  superClass := sup
  interfaces := ifs
  fields := fds
  methods := ms
  attributes := attrs
def plain (name : String) (sup : Option ClassId) : Class where
  name := name
  kind := .ordinary
  loader := none
  accessFlags := 33
  super := sup
  interfaces := #[]
  cf := none
  fields := #[]
  methods := #[]
  instanceTypes := #[]
  staticTypes := #[]
  resolved := #[]
  callSites := []
  init := .initialized
  statics := none
  mirror := none

def pool0 : Array CpInfo := pool [(5, u "<init>"), (0, u "()V"), (1, .class_ 10), (1, u "java/lang/Object")] 113

def k0c0 : Code := { maxStack := 0, maxLocals := 1, code := object_method_1_code, exceptionTable := #[], attributes := #[] }
def k0m0 : Method := { name := "<init>", desc := "()V", sig := { parameters := [], returnType := none }, accessFlags := 1, code := some k0c0 }
/-- java/lang/Object -/
def k0 : Class := { plain "java/lang/Object" none with
  accessFlags := 33
  interfaces := #[]
  cf := some (fileOf pool0 8 #[] #[{ accessFlags := 1, nameIndex := 5, descriptorIndex := 6, attributes := #[] }] 33 0 #[] #[])
  fields := #[]
  methods := #[k0m0]
  instanceTypes := #[]
  staticTypes := #[]
  resolved := Array.replicate 124 none
  statics := none }

def pool1 : Array CpInfo := pool [(2, .class_ 4), (1, u "java/lang/Object"), (0, u "<init>"), (0, u "()V"), (0, .methodref 8 9), (0, .class_ 10), (0, .nameAndType 11 12), (0, u "java/lang/Long"), (0, u "valueOf"), (0, u "(J)Ljava/lang/Long;"), (0, .methodref 14 15), (0, .class_ 16), (0, .nameAndType 17 18), (0, u "com/example/steady_dispatcher/steadydispatcher/Run"), (0, u "done"), (0, u "(Ljava/lang/Object;)Lcom/example/steady_dispatcher/steadydispatcher/Run;"), (0, .methodref 14 20), (0, .nameAndType 21 22), (0, u "isDone"), (0, u "()Z"), (0, .methodref 14 24), (0, .nameAndType 25 26), (0, u "delayNanos"), (0, u "()J"), (0, .long 18446744073709551615), (1, .methodref 14 30), (0, .nameAndType 31 32), (0, u "value"), (0, u "()Ljava/lang/Object;"), (0, .methodref 8 34), (0, .nameAndType 35 26), (0, u "longValue"), (0, .class_ 37), (0, u "com/example/steady_dispatcher/steadydispatcher/RunDonePinLaw"), (2, u "law"), (0, u "(JI)Z")] 3

def k1m0 : Method := { name := "<init>", desc := "()V", sig := { parameters := [], returnType := none }, accessFlags := 1, code := none }
def k1c1 : Code := { maxStack := 4, maxLocals := 6, code := code, exceptionTable := #[], attributes := #[] }
def k1m1 : Method := { name := "law", desc := "(JI)Z", sig := { parameters := [.long, .int], returnType := some .boolean }, accessFlags := 9, code := some k1c1 }
/-- com/example/steady_dispatcher/steadydispatcher/RunDonePinLaw -/
def k1 : Class := { plain "com/example/steady_dispatcher/steadydispatcher/RunDonePinLaw" (some 0) with
  accessFlags := 49
  interfaces := #[]
  cf := some (fileOf pool1 36 #[] #[{ accessFlags := 1, nameIndex := 5, descriptorIndex := 6, attributes := #[] }, { accessFlags := 9, nameIndex := 40, descriptorIndex := 41, attributes := #[] }] 49 2 #[] #[])
  fields := #[]
  methods := #[k1m0, k1m1]
  instanceTypes := #[]
  staticTypes := #[]
  resolved := Array.replicate 45 none
  statics := none }

def pool2 : Array CpInfo := pool [(1, .class_ 2), (0, u "java/io/Serializable"), (0, .class_ 4), (0, u "java/lang/Object")] 2

/-- java/io/Serializable -/
def k2 : Class := { plain "java/io/Serializable" (some 0) with
  accessFlags := 1537
  interfaces := #[]
  cf := some (fileOf pool2 1 #[] #[] 1537 3 #[] #[])
  fields := #[]
  methods := #[]
  instanceTypes := #[]
  staticTypes := #[]
  resolved := Array.replicate 7 none
  statics := none }

def pool3 : Array CpInfo := pool [(1, .methodref 2 3), (0, .class_ 4), (0, .nameAndType 5 6), (0, u "java/lang/Object"), (0, u "<init>"), (0, u "()V"), (1, .class_ 10), (1, u "java/lang/Number"), (2, .class_ 14), (0, u "java/io/Serializable"), (0, u "serialVersionUID"), (0, u "J")] 20

def k3c0 : Code := { maxStack := 1, maxLocals := 1, code := jdk_18_method_1_code, exceptionTable := #[], attributes := #[] }
def k3m0 : Method := { name := "<init>", desc := "()V", sig := { parameters := [], returnType := none }, accessFlags := 1, code := some k3c0 }
/-- java/lang/Number -/
def k3 : Class := { plain "java/lang/Number" (some 0) with
  accessFlags := 1057
  interfaces := #[2]
  cf := some (fileOf pool3 8 #[] #[{ accessFlags := 1, nameIndex := 5, descriptorIndex := 6, attributes := #[] }] 1057 2 #[13] #[{ accessFlags := 26, nameIndex := 15, descriptorIndex := 16, attributes := #[] }])
  fields := #[{ name := "serialVersionUID", type := .long, accessFlags := 26, slot := 0, constantValue := 0 }]
  methods := #[k3m0]
  instanceTypes := #[]
  staticTypes := #[.long]
  resolved := Array.replicate 37 none
  statics := none }

def pool4 : Array CpInfo := pool [(1, .class_ 2), (0, u "java/lang/Comparable"), (0, .class_ 4), (0, u "java/lang/Object")] 7

/-- java/lang/Comparable -/
def k4 : Class := { plain "java/lang/Comparable" (some 0) with
  accessFlags := 1537
  interfaces := #[]
  cf := some (fileOf pool4 1 #[] #[] 1537 3 #[] #[])
  fields := #[]
  methods := #[]
  instanceTypes := #[]
  staticTypes := #[]
  resolved := Array.replicate 12 none
  statics := none }

def pool5 : Array CpInfo := pool [(1, .class_ 2), (0, u "java/lang/constant/Constable"), (0, .class_ 4), (0, u "java/lang/Object")] 6

/-- java/lang/constant/Constable -/
def k5 : Class := { plain "java/lang/constant/Constable" (some 0) with
  accessFlags := 1537
  interfaces := #[]
  cf := some (fileOf pool5 1 #[] #[] 1537 3 #[] #[])
  fields := #[]
  methods := #[]
  instanceTypes := #[]
  staticTypes := #[]
  resolved := Array.replicate 11 none
  statics := none }

def pool6 : Array CpInfo := pool [(1, .class_ 2), (0, u "java/lang/constant/ConstantDesc"), (0, .class_ 4), (0, u "java/lang/Object")] 32

/-- java/lang/constant/ConstantDesc -/
def k6 : Class := { plain "java/lang/constant/ConstantDesc" (some 0) with
  accessFlags := 1537
  interfaces := #[]
  cf := some (fileOf pool6 1 #[] #[] 1537 3 #[] #[])
  fields := #[]
  methods := #[]
  instanceTypes := #[]
  staticTypes := #[]
  resolved := Array.replicate 37 none
  statics := none }

def pool7 : Array CpInfo := pool [(1, .class_ 2), (0, u "java/lang/Long"), (55, .nameAndType 59 60), (0, u "<init>"), (0, u "()V"), (24, u "valueOf"), (143, u "(J)Ljava/lang/Long;"), (0, .long 18446744073709551488), (1, .long 127), (1, .fieldref 235 236), (0, .class_ 237), (0, .nameAndType 238 239), (0, u "java/lang/Long$LongCache"), (0, u "cache"), (0, u "[Ljava/lang/Long;"), (0, .methodref 1 241), (0, .nameAndType 59 242), (0, u "(J)V"), (27, .methodref 271 58), (0, .class_ 272), (0, u "java/lang/Number"), (0, .fieldref 1 274), (0, .nameAndType 275 276), (0, u "value"), (0, u "J"), (5, u "longValue"), (0, u "()J"), (77, u "TYPE"), (0, u "Ljava/lang/Class;"), (0, .class_ 364), (0, u "java/lang/Comparable"), (0, .class_ 366), (0, u "java/lang/constant/Constable"), (0, .class_ 368), (0, u "java/lang/constant/ConstantDesc"), (0, u "MIN_VALUE"), (1, u "MAX_VALUE"), (4, u "SIZE"), (0, u "I"), (1, u "BYTES"), (1, u "serialVersionUID")] 142

def k7c0 : Code := { maxStack := 4, maxLocals := 3, code := jdk_35_method_24_code, exceptionTable := #[], attributes := #[] }
def k7m0 : Method := { name := "valueOf", desc := "(J)Ljava/lang/Long;", sig := { parameters := [.long], returnType := some (.object "java/lang/Long") }, accessFlags := 9, code := some k7c0 }
def k7c1 : Code := { maxStack := 3, maxLocals := 3, code := jdk_35_method_26_code, exceptionTable := #[], attributes := #[] }
def k7m1 : Method := { name := "<init>", desc := "(J)V", sig := { parameters := [.long], returnType := none }, accessFlags := 1, code := some k7c1 }
def k7c2 : Code := { maxStack := 2, maxLocals := 1, code := jdk_35_method_31_code, exceptionTable := #[], attributes := #[] }
def k7m2 : Method := { name := "longValue", desc := "()J", sig := { parameters := [], returnType := some .long }, accessFlags := 1, code := some k7c2 }
/-- java/lang/Long -/
def k7 : Class := { plain "java/lang/Long" (some 3) with
  accessFlags := 49
  interfaces := #[4, 5, 6]
  cf := some (fileOf pool7 1 #[.nestMembers #[235]] #[{ accessFlags := 9, nameIndex := 85, descriptorIndex := 229, attributes := #[] }, { accessFlags := 1, nameIndex := 59, descriptorIndex := 242, attributes := #[] }, { accessFlags := 1, nameIndex := 282, descriptorIndex := 283, attributes := #[] }] 49 271 #[363, 365, 367] #[{ accessFlags := 25, nameIndex := 369, descriptorIndex := 276, attributes := #[] }, { accessFlags := 25, nameIndex := 371, descriptorIndex := 276, attributes := #[] }, { accessFlags := 25, nameIndex := 361, descriptorIndex := 362, attributes := #[] }, { accessFlags := 18, nameIndex := 275, descriptorIndex := 276, attributes := #[] }, { accessFlags := 25, nameIndex := 376, descriptorIndex := 377, attributes := #[] }, { accessFlags := 25, nameIndex := 379, descriptorIndex := 377, attributes := #[] }, { accessFlags := 26, nameIndex := 381, descriptorIndex := 276, attributes := #[] }])
  fields := #[{ name := "MIN_VALUE", type := .long, accessFlags := 25, slot := 0, constantValue := 0 }, { name := "MAX_VALUE", type := .long, accessFlags := 25, slot := 1, constantValue := 0 }, { name := "TYPE", type := (.object "java/lang/Class"), accessFlags := 25, slot := 2, constantValue := 0 }, { name := "value", type := .long, accessFlags := 18, slot := 0, constantValue := 0 }, { name := "SIZE", type := .int, accessFlags := 25, slot := 3, constantValue := 0 }, { name := "BYTES", type := .int, accessFlags := 25, slot := 4, constantValue := 0 }, { name := "serialVersionUID", type := .long, accessFlags := 26, slot := 5, constantValue := 0 }]
  methods := #[k7m0, k7m1, k7m2]
  instanceTypes := #[.long]
  staticTypes := #[.long, .long, (.object "java/lang/Class"), .int, .int, .long]
  resolved := Array.replicate 524 none
  statics := none }

def pool8 : Array CpInfo := pool [(2, .class_ 4), (1, u "java/lang/Object"), (0, u "<init>"), (0, u "()V"), (0, .class_ 8), (0, u "java/lang/Long"), (7, .class_ 18), (1, u "java/lang/Long$LongCache"), (0, u "$assertionsDisabled"), (0, u "Z"), (8, u "archivedCache"), (0, u "[Ljava/lang/Long;"), (7, u "cache")] 24

def k8m0 : Method := { name := "<init>", desc := "()V", sig := { parameters := [], returnType := none }, accessFlags := 2, code := none }
/-- java/lang/Long$LongCache -/
def k8 : Class := { plain "java/lang/Long$LongCache" (some 0) with
  accessFlags := 48
  interfaces := #[]
  cf := some (fileOf pool8 16 #[.nestHost 7] #[{ accessFlags := 2, nameIndex := 5, descriptorIndex := 6, attributes := #[] }] 48 2 #[] #[{ accessFlags := 24, nameIndex := 38, descriptorIndex := 30, attributes := #[] }, { accessFlags := 8, nameIndex := 29, descriptorIndex := 30, attributes := #[] }, { accessFlags := 4120, nameIndex := 19, descriptorIndex := 20, attributes := #[] }])
  fields := #[{ name := "cache", type := (.array (.object "java/lang/Long")), accessFlags := 24, slot := 0, constantValue := 0 }, { name := "archivedCache", type := (.array (.object "java/lang/Long")), accessFlags := 8, slot := 1, constantValue := 0 }, { name := "$assertionsDisabled", type := .boolean, accessFlags := 4120, slot := 2, constantValue := 0 }]
  methods := #[k8m0]
  instanceTypes := #[]
  staticTypes := #[(.array (.object "java/lang/Long")), (.array (.object "java/lang/Long")), .boolean]
  resolved := Array.replicate 63 none
  statics := some 0 }

def pool9 : Array CpInfo := pool [(1, .methodref 2 3), (0, .class_ 4), (0, .nameAndType 5 6), (0, u "java/lang/Object"), (0, u "<init>"), (0, u "()V"), (0, .fieldref 8 9), (0, .class_ 10), (0, .nameAndType 11 12), (0, u "com/example/steady_dispatcher/steadydispatcher/Run"), (0, u "value"), (0, u "Ljava/lang/Object;"), (0, .fieldref 8 14), (0, .nameAndType 15 16), (0, u "delayNanos"), (0, u "J"), (0, .long 18446744073709551615), (1, .methodref 8 20), (0, .nameAndType 5 21), (0, u "(Ljava/lang/Object;J)V"), (31, u "isDone"), (0, u "()Z"), (6, u "DONE"), (6, u "done"), (0, u "(Ljava/lang/Object;)Lcom/example/steady_dispatcher/steadydispatcher/Run;"), (5, u "()Ljava/lang/Object;"), (1, u "()J")] 24

def k9c0 : Code := { maxStack := 3, maxLocals := 4, code := prog_12_method_1_code, exceptionTable := #[], attributes := #[] }
def k9m0 : Method := { name := "<init>", desc := "(Ljava/lang/Object;J)V", sig := { parameters := [(.object "java/lang/Object"), .long], returnType := none }, accessFlags := 2, code := some k9c0 }
def k9c1 : Code := { maxStack := 5, maxLocals := 1, code := prog_12_method_2_code, exceptionTable := #[], attributes := #[] }
def k9m1 : Method := { name := "done", desc := "(Ljava/lang/Object;)Lcom/example/steady_dispatcher/steadydispatcher/Run;", sig := { parameters := [(.object "java/lang/Object")], returnType := some (.object "com/example/steady_dispatcher/steadydispatcher/Run") }, accessFlags := 9, code := some k9c1 }
def k9c2 : Code := { maxStack := 4, maxLocals := 1, code := prog_12_method_4_code, exceptionTable := #[], attributes := #[] }
def k9m2 : Method := { name := "isDone", desc := "()Z", sig := { parameters := [], returnType := some .boolean }, accessFlags := 0, code := some k9c2 }
def k9c3 : Code := { maxStack := 1, maxLocals := 1, code := prog_12_method_5_code, exceptionTable := #[], attributes := #[] }
def k9m3 : Method := { name := "value", desc := "()Ljava/lang/Object;", sig := { parameters := [], returnType := some (.object "java/lang/Object") }, accessFlags := 0, code := some k9c3 }
def k9c4 : Code := { maxStack := 2, maxLocals := 1, code := prog_12_method_6_code, exceptionTable := #[], attributes := #[] }
def k9m4 : Method := { name := "delayNanos", desc := "()J", sig := { parameters := [], returnType := some .long }, accessFlags := 0, code := some k9c4 }
/-- com/example/steady_dispatcher/steadydispatcher/Run -/
def k9 : Class := { plain "com/example/steady_dispatcher/steadydispatcher/Run" (some 0) with
  accessFlags := 49
  interfaces := #[]
  cf := some (fileOf pool9 8 #[] #[{ accessFlags := 2, nameIndex := 5, descriptorIndex := 21, attributes := #[] }, { accessFlags := 9, nameIndex := 68, descriptorIndex := 69, attributes := #[] }, { accessFlags := 0, nameIndex := 53, descriptorIndex := 54, attributes := #[] }, { accessFlags := 0, nameIndex := 11, descriptorIndex := 75, attributes := #[] }, { accessFlags := 0, nameIndex := 15, descriptorIndex := 77, attributes := #[] }] 49 2 #[] #[{ accessFlags := 26, nameIndex := 61, descriptorIndex := 16, attributes := #[] }, { accessFlags := 18, nameIndex := 11, descriptorIndex := 12, attributes := #[] }, { accessFlags := 18, nameIndex := 15, descriptorIndex := 16, attributes := #[] }])
  fields := #[{ name := "DONE", type := .long, accessFlags := 26, slot := 0, constantValue := 0 }, { name := "value", type := (.object "java/lang/Object"), accessFlags := 18, slot := 0, constantValue := 0 }, { name := "delayNanos", type := .long, accessFlags := 18, slot := 1, constantValue := 0 }]
  methods := #[k9m0, k9m1, k9m2, k9m3, k9m4]
  instanceTypes := #[(.object "java/lang/Object"), .long]
  staticTypes := #[.long]
  resolved := Array.replicate 102 none
  statics := none }

def pool10 : Array CpInfo := pool [(1, u "java/lang/Cloneable"), (0, .class_ 1), (0, u "java/lang/Object"), (0, .class_ 3)] 3

/-- java/lang/Cloneable -/
def k10 : Class := { plain "java/lang/Cloneable" (some 0) with
  accessFlags := 1537
  interfaces := #[]
  cf := some (fileOf pool10 2 #[] #[] 1537 4 #[] #[])
  fields := #[]
  methods := #[]
  instanceTypes := #[]
  staticTypes := #[]
  resolved := Array.replicate 8 none
  statics := none }

/-- the primitive byte -/
def k11 : Class := { plain "byte" none with kind := .primitive 'B', accessFlags := 0x411 }
/-- [B -/
def k12 : Class := { plain "[B" (some 0) with kind := .array 11 .byte, interfaces := #[10, 2], accessFlags := 1041 }

/-- the primitive int -/
def k13 : Class := { plain "int" none with kind := .primitive 'I', accessFlags := 0x411 }
/-- [I -/
def k14 : Class := { plain "[I" (some 0) with kind := .array 13 .int, interfaces := #[10, 2], accessFlags := 1041 }

/-- [Ljava/lang/Long; -/
def k15 : Class := { plain "[Ljava/lang/Long;" (some 0) with kind := .array 7 (.object "java/lang/Long"), interfaces := #[10, 2], accessFlags := 1041 }

def heap : Heap := #[{ cls := 8, slots := #[.ref 1, .null, .int 0], vm := .statics 8 },
  { cls := 15, slots := #[.ref 2, .ref 3, .ref 4, .ref 5, .ref 6, .ref 7, .ref 8, .ref 9, .ref 10, .ref 11, .ref 12, .ref 13, .ref 14, .ref 15, .ref 16, .ref 17, .ref 18, .ref 19, .ref 20, .ref 21, .ref 22, .ref 23, .ref 24, .ref 25, .ref 26, .ref 27, .ref 28, .ref 29, .ref 30, .ref 31, .ref 32, .ref 33, .ref 34, .ref 35, .ref 36, .ref 37, .ref 38, .ref 39, .ref 40, .ref 41, .ref 42, .ref 43, .ref 44, .ref 45, .ref 46, .ref 47, .ref 48, .ref 49, .ref 50, .ref 51, .ref 52, .ref 53, .ref 54, .ref 55, .ref 56, .ref 57, .ref 58, .ref 59, .ref 60, .ref 61, .ref 62, .ref 63, .ref 64, .ref 65, .ref 66, .ref 67, .ref 68, .ref 69, .ref 70, .ref 71, .ref 72, .ref 73, .ref 74, .ref 75, .ref 76, .ref 77, .ref 78, .ref 79, .ref 80, .ref 81, .ref 82, .ref 83, .ref 84, .ref 85, .ref 86, .ref 87, .ref 88, .ref 89, .ref 90, .ref 91, .ref 92, .ref 93, .ref 94, .ref 95, .ref 96, .ref 97, .ref 98, .ref 99, .ref 100, .ref 101, .ref 102, .ref 103, .ref 104, .ref 105, .ref 106, .ref 107, .ref 108, .ref 109, .ref 110, .ref 111, .ref 112, .ref 113, .ref 114, .ref 115, .ref 116, .ref 117, .ref 118, .ref 119, .ref 120, .ref 121, .ref 122, .ref 123, .ref 124, .ref 125, .ref 126, .ref 127, .ref 128, .ref 129, .ref 130, .ref 131, .ref 132, .ref 133, .ref 134, .ref 135, .ref 136, .ref 137, .ref 138, .ref 139, .ref 140, .ref 141, .ref 142, .ref 143, .ref 144, .ref 145, .ref 146, .ref 147, .ref 148, .ref 149, .ref 150, .ref 151, .ref 152, .ref 153, .ref 154, .ref 155, .ref 156, .ref 157, .ref 158, .ref 159, .ref 160, .ref 161, .ref 162, .ref 163, .ref 164, .ref 165, .ref 166, .ref 167, .ref 168, .ref 169, .ref 170, .ref 171, .ref 172, .ref 173, .ref 174, .ref 175, .ref 176, .ref 177, .ref 178, .ref 179, .ref 180, .ref 181, .ref 182, .ref 183, .ref 184, .ref 185, .ref 186, .ref 187, .ref 188, .ref 189, .ref 190, .ref 191, .ref 192, .ref 193, .ref 194, .ref 195, .ref 196, .ref 197, .ref 198, .ref 199, .ref 200, .ref 201, .ref 202, .ref 203, .ref 204, .ref 205, .ref 206, .ref 207, .ref 208, .ref 209, .ref 210, .ref 211, .ref 212, .ref 213, .ref 214, .ref 215, .ref 216, .ref 217, .ref 218, .ref 219, .ref 220, .ref 221, .ref 222, .ref 223, .ref 224, .ref 225, .ref 226, .ref 227, .ref 228, .ref 229, .ref 230, .ref 231, .ref 232, .ref 233, .ref 234, .ref 235, .ref 236, .ref 237, .ref 238, .ref 239, .ref 240, .ref 241, .ref 242, .ref 243, .ref 244, .ref 245, .ref 246, .ref 247, .ref 248, .ref 249, .ref 250, .ref 251, .ref 252, .ref 253, .ref 254, .ref 255, .ref 256, .ref 257], vm := .none },
  { cls := 7, slots := #[.long (-128)], vm := .none },
  { cls := 7, slots := #[.long (-127)], vm := .none },
  { cls := 7, slots := #[.long (-126)], vm := .none },
  { cls := 7, slots := #[.long (-125)], vm := .none },
  { cls := 7, slots := #[.long (-124)], vm := .none },
  { cls := 7, slots := #[.long (-123)], vm := .none },
  { cls := 7, slots := #[.long (-122)], vm := .none },
  { cls := 7, slots := #[.long (-121)], vm := .none },
  { cls := 7, slots := #[.long (-120)], vm := .none },
  { cls := 7, slots := #[.long (-119)], vm := .none },
  { cls := 7, slots := #[.long (-118)], vm := .none },
  { cls := 7, slots := #[.long (-117)], vm := .none },
  { cls := 7, slots := #[.long (-116)], vm := .none },
  { cls := 7, slots := #[.long (-115)], vm := .none },
  { cls := 7, slots := #[.long (-114)], vm := .none },
  { cls := 7, slots := #[.long (-113)], vm := .none },
  { cls := 7, slots := #[.long (-112)], vm := .none },
  { cls := 7, slots := #[.long (-111)], vm := .none },
  { cls := 7, slots := #[.long (-110)], vm := .none },
  { cls := 7, slots := #[.long (-109)], vm := .none },
  { cls := 7, slots := #[.long (-108)], vm := .none },
  { cls := 7, slots := #[.long (-107)], vm := .none },
  { cls := 7, slots := #[.long (-106)], vm := .none },
  { cls := 7, slots := #[.long (-105)], vm := .none },
  { cls := 7, slots := #[.long (-104)], vm := .none },
  { cls := 7, slots := #[.long (-103)], vm := .none },
  { cls := 7, slots := #[.long (-102)], vm := .none },
  { cls := 7, slots := #[.long (-101)], vm := .none },
  { cls := 7, slots := #[.long (-100)], vm := .none },
  { cls := 7, slots := #[.long (-99)], vm := .none },
  { cls := 7, slots := #[.long (-98)], vm := .none },
  { cls := 7, slots := #[.long (-97)], vm := .none },
  { cls := 7, slots := #[.long (-96)], vm := .none },
  { cls := 7, slots := #[.long (-95)], vm := .none },
  { cls := 7, slots := #[.long (-94)], vm := .none },
  { cls := 7, slots := #[.long (-93)], vm := .none },
  { cls := 7, slots := #[.long (-92)], vm := .none },
  { cls := 7, slots := #[.long (-91)], vm := .none },
  { cls := 7, slots := #[.long (-90)], vm := .none },
  { cls := 7, slots := #[.long (-89)], vm := .none },
  { cls := 7, slots := #[.long (-88)], vm := .none },
  { cls := 7, slots := #[.long (-87)], vm := .none },
  { cls := 7, slots := #[.long (-86)], vm := .none },
  { cls := 7, slots := #[.long (-85)], vm := .none },
  { cls := 7, slots := #[.long (-84)], vm := .none },
  { cls := 7, slots := #[.long (-83)], vm := .none },
  { cls := 7, slots := #[.long (-82)], vm := .none },
  { cls := 7, slots := #[.long (-81)], vm := .none },
  { cls := 7, slots := #[.long (-80)], vm := .none },
  { cls := 7, slots := #[.long (-79)], vm := .none },
  { cls := 7, slots := #[.long (-78)], vm := .none },
  { cls := 7, slots := #[.long (-77)], vm := .none },
  { cls := 7, slots := #[.long (-76)], vm := .none },
  { cls := 7, slots := #[.long (-75)], vm := .none },
  { cls := 7, slots := #[.long (-74)], vm := .none },
  { cls := 7, slots := #[.long (-73)], vm := .none },
  { cls := 7, slots := #[.long (-72)], vm := .none },
  { cls := 7, slots := #[.long (-71)], vm := .none },
  { cls := 7, slots := #[.long (-70)], vm := .none },
  { cls := 7, slots := #[.long (-69)], vm := .none },
  { cls := 7, slots := #[.long (-68)], vm := .none },
  { cls := 7, slots := #[.long (-67)], vm := .none },
  { cls := 7, slots := #[.long (-66)], vm := .none },
  { cls := 7, slots := #[.long (-65)], vm := .none },
  { cls := 7, slots := #[.long (-64)], vm := .none },
  { cls := 7, slots := #[.long (-63)], vm := .none },
  { cls := 7, slots := #[.long (-62)], vm := .none },
  { cls := 7, slots := #[.long (-61)], vm := .none },
  { cls := 7, slots := #[.long (-60)], vm := .none },
  { cls := 7, slots := #[.long (-59)], vm := .none },
  { cls := 7, slots := #[.long (-58)], vm := .none },
  { cls := 7, slots := #[.long (-57)], vm := .none },
  { cls := 7, slots := #[.long (-56)], vm := .none },
  { cls := 7, slots := #[.long (-55)], vm := .none },
  { cls := 7, slots := #[.long (-54)], vm := .none },
  { cls := 7, slots := #[.long (-53)], vm := .none },
  { cls := 7, slots := #[.long (-52)], vm := .none },
  { cls := 7, slots := #[.long (-51)], vm := .none },
  { cls := 7, slots := #[.long (-50)], vm := .none },
  { cls := 7, slots := #[.long (-49)], vm := .none },
  { cls := 7, slots := #[.long (-48)], vm := .none },
  { cls := 7, slots := #[.long (-47)], vm := .none },
  { cls := 7, slots := #[.long (-46)], vm := .none },
  { cls := 7, slots := #[.long (-45)], vm := .none },
  { cls := 7, slots := #[.long (-44)], vm := .none },
  { cls := 7, slots := #[.long (-43)], vm := .none },
  { cls := 7, slots := #[.long (-42)], vm := .none },
  { cls := 7, slots := #[.long (-41)], vm := .none },
  { cls := 7, slots := #[.long (-40)], vm := .none },
  { cls := 7, slots := #[.long (-39)], vm := .none },
  { cls := 7, slots := #[.long (-38)], vm := .none },
  { cls := 7, slots := #[.long (-37)], vm := .none },
  { cls := 7, slots := #[.long (-36)], vm := .none },
  { cls := 7, slots := #[.long (-35)], vm := .none },
  { cls := 7, slots := #[.long (-34)], vm := .none },
  { cls := 7, slots := #[.long (-33)], vm := .none },
  { cls := 7, slots := #[.long (-32)], vm := .none },
  { cls := 7, slots := #[.long (-31)], vm := .none },
  { cls := 7, slots := #[.long (-30)], vm := .none },
  { cls := 7, slots := #[.long (-29)], vm := .none },
  { cls := 7, slots := #[.long (-28)], vm := .none },
  { cls := 7, slots := #[.long (-27)], vm := .none },
  { cls := 7, slots := #[.long (-26)], vm := .none },
  { cls := 7, slots := #[.long (-25)], vm := .none },
  { cls := 7, slots := #[.long (-24)], vm := .none },
  { cls := 7, slots := #[.long (-23)], vm := .none },
  { cls := 7, slots := #[.long (-22)], vm := .none },
  { cls := 7, slots := #[.long (-21)], vm := .none },
  { cls := 7, slots := #[.long (-20)], vm := .none },
  { cls := 7, slots := #[.long (-19)], vm := .none },
  { cls := 7, slots := #[.long (-18)], vm := .none },
  { cls := 7, slots := #[.long (-17)], vm := .none },
  { cls := 7, slots := #[.long (-16)], vm := .none },
  { cls := 7, slots := #[.long (-15)], vm := .none },
  { cls := 7, slots := #[.long (-14)], vm := .none },
  { cls := 7, slots := #[.long (-13)], vm := .none },
  { cls := 7, slots := #[.long (-12)], vm := .none },
  { cls := 7, slots := #[.long (-11)], vm := .none },
  { cls := 7, slots := #[.long (-10)], vm := .none },
  { cls := 7, slots := #[.long (-9)], vm := .none },
  { cls := 7, slots := #[.long (-8)], vm := .none },
  { cls := 7, slots := #[.long (-7)], vm := .none },
  { cls := 7, slots := #[.long (-6)], vm := .none },
  { cls := 7, slots := #[.long (-5)], vm := .none },
  { cls := 7, slots := #[.long (-4)], vm := .none },
  { cls := 7, slots := #[.long (-3)], vm := .none },
  { cls := 7, slots := #[.long (-2)], vm := .none },
  { cls := 7, slots := #[.long (-1)], vm := .none },
  { cls := 7, slots := #[.long (0)], vm := .none },
  { cls := 7, slots := #[.long (1)], vm := .none },
  { cls := 7, slots := #[.long (2)], vm := .none },
  { cls := 7, slots := #[.long (3)], vm := .none },
  { cls := 7, slots := #[.long (4)], vm := .none },
  { cls := 7, slots := #[.long (5)], vm := .none },
  { cls := 7, slots := #[.long (6)], vm := .none },
  { cls := 7, slots := #[.long (7)], vm := .none },
  { cls := 7, slots := #[.long (8)], vm := .none },
  { cls := 7, slots := #[.long (9)], vm := .none },
  { cls := 7, slots := #[.long (10)], vm := .none },
  { cls := 7, slots := #[.long (11)], vm := .none },
  { cls := 7, slots := #[.long (12)], vm := .none },
  { cls := 7, slots := #[.long (13)], vm := .none },
  { cls := 7, slots := #[.long (14)], vm := .none },
  { cls := 7, slots := #[.long (15)], vm := .none },
  { cls := 7, slots := #[.long (16)], vm := .none },
  { cls := 7, slots := #[.long (17)], vm := .none },
  { cls := 7, slots := #[.long (18)], vm := .none },
  { cls := 7, slots := #[.long (19)], vm := .none },
  { cls := 7, slots := #[.long (20)], vm := .none },
  { cls := 7, slots := #[.long (21)], vm := .none },
  { cls := 7, slots := #[.long (22)], vm := .none },
  { cls := 7, slots := #[.long (23)], vm := .none },
  { cls := 7, slots := #[.long (24)], vm := .none },
  { cls := 7, slots := #[.long (25)], vm := .none },
  { cls := 7, slots := #[.long (26)], vm := .none },
  { cls := 7, slots := #[.long (27)], vm := .none },
  { cls := 7, slots := #[.long (28)], vm := .none },
  { cls := 7, slots := #[.long (29)], vm := .none },
  { cls := 7, slots := #[.long (30)], vm := .none },
  { cls := 7, slots := #[.long (31)], vm := .none },
  { cls := 7, slots := #[.long (32)], vm := .none },
  { cls := 7, slots := #[.long (33)], vm := .none },
  { cls := 7, slots := #[.long (34)], vm := .none },
  { cls := 7, slots := #[.long (35)], vm := .none },
  { cls := 7, slots := #[.long (36)], vm := .none },
  { cls := 7, slots := #[.long (37)], vm := .none },
  { cls := 7, slots := #[.long (38)], vm := .none },
  { cls := 7, slots := #[.long (39)], vm := .none },
  { cls := 7, slots := #[.long (40)], vm := .none },
  { cls := 7, slots := #[.long (41)], vm := .none },
  { cls := 7, slots := #[.long (42)], vm := .none },
  { cls := 7, slots := #[.long (43)], vm := .none },
  { cls := 7, slots := #[.long (44)], vm := .none },
  { cls := 7, slots := #[.long (45)], vm := .none },
  { cls := 7, slots := #[.long (46)], vm := .none },
  { cls := 7, slots := #[.long (47)], vm := .none },
  { cls := 7, slots := #[.long (48)], vm := .none },
  { cls := 7, slots := #[.long (49)], vm := .none },
  { cls := 7, slots := #[.long (50)], vm := .none },
  { cls := 7, slots := #[.long (51)], vm := .none },
  { cls := 7, slots := #[.long (52)], vm := .none },
  { cls := 7, slots := #[.long (53)], vm := .none },
  { cls := 7, slots := #[.long (54)], vm := .none },
  { cls := 7, slots := #[.long (55)], vm := .none },
  { cls := 7, slots := #[.long (56)], vm := .none },
  { cls := 7, slots := #[.long (57)], vm := .none },
  { cls := 7, slots := #[.long (58)], vm := .none },
  { cls := 7, slots := #[.long (59)], vm := .none },
  { cls := 7, slots := #[.long (60)], vm := .none },
  { cls := 7, slots := #[.long (61)], vm := .none },
  { cls := 7, slots := #[.long (62)], vm := .none },
  { cls := 7, slots := #[.long (63)], vm := .none },
  { cls := 7, slots := #[.long (64)], vm := .none },
  { cls := 7, slots := #[.long (65)], vm := .none },
  { cls := 7, slots := #[.long (66)], vm := .none },
  { cls := 7, slots := #[.long (67)], vm := .none },
  { cls := 7, slots := #[.long (68)], vm := .none },
  { cls := 7, slots := #[.long (69)], vm := .none },
  { cls := 7, slots := #[.long (70)], vm := .none },
  { cls := 7, slots := #[.long (71)], vm := .none },
  { cls := 7, slots := #[.long (72)], vm := .none },
  { cls := 7, slots := #[.long (73)], vm := .none },
  { cls := 7, slots := #[.long (74)], vm := .none },
  { cls := 7, slots := #[.long (75)], vm := .none },
  { cls := 7, slots := #[.long (76)], vm := .none },
  { cls := 7, slots := #[.long (77)], vm := .none },
  { cls := 7, slots := #[.long (78)], vm := .none },
  { cls := 7, slots := #[.long (79)], vm := .none },
  { cls := 7, slots := #[.long (80)], vm := .none },
  { cls := 7, slots := #[.long (81)], vm := .none },
  { cls := 7, slots := #[.long (82)], vm := .none },
  { cls := 7, slots := #[.long (83)], vm := .none },
  { cls := 7, slots := #[.long (84)], vm := .none },
  { cls := 7, slots := #[.long (85)], vm := .none },
  { cls := 7, slots := #[.long (86)], vm := .none },
  { cls := 7, slots := #[.long (87)], vm := .none },
  { cls := 7, slots := #[.long (88)], vm := .none },
  { cls := 7, slots := #[.long (89)], vm := .none },
  { cls := 7, slots := #[.long (90)], vm := .none },
  { cls := 7, slots := #[.long (91)], vm := .none },
  { cls := 7, slots := #[.long (92)], vm := .none },
  { cls := 7, slots := #[.long (93)], vm := .none },
  { cls := 7, slots := #[.long (94)], vm := .none },
  { cls := 7, slots := #[.long (95)], vm := .none },
  { cls := 7, slots := #[.long (96)], vm := .none },
  { cls := 7, slots := #[.long (97)], vm := .none },
  { cls := 7, slots := #[.long (98)], vm := .none },
  { cls := 7, slots := #[.long (99)], vm := .none },
  { cls := 7, slots := #[.long (100)], vm := .none },
  { cls := 7, slots := #[.long (101)], vm := .none },
  { cls := 7, slots := #[.long (102)], vm := .none },
  { cls := 7, slots := #[.long (103)], vm := .none },
  { cls := 7, slots := #[.long (104)], vm := .none },
  { cls := 7, slots := #[.long (105)], vm := .none },
  { cls := 7, slots := #[.long (106)], vm := .none },
  { cls := 7, slots := #[.long (107)], vm := .none },
  { cls := 7, slots := #[.long (108)], vm := .none },
  { cls := 7, slots := #[.long (109)], vm := .none },
  { cls := 7, slots := #[.long (110)], vm := .none },
  { cls := 7, slots := #[.long (111)], vm := .none },
  { cls := 7, slots := #[.long (112)], vm := .none },
  { cls := 7, slots := #[.long (113)], vm := .none },
  { cls := 7, slots := #[.long (114)], vm := .none },
  { cls := 7, slots := #[.long (115)], vm := .none },
  { cls := 7, slots := #[.long (116)], vm := .none },
  { cls := 7, slots := #[.long (117)], vm := .none },
  { cls := 7, slots := #[.long (118)], vm := .none },
  { cls := 7, slots := #[.long (119)], vm := .none },
  { cls := 7, slots := #[.long (120)], vm := .none },
  { cls := 7, slots := #[.long (121)], vm := .none },
  { cls := 7, slots := #[.long (122)], vm := .none },
  { cls := 7, slots := #[.long (123)], vm := .none },
  { cls := 7, slots := #[.long (124)], vm := .none },
  { cls := 7, slots := #[.long (125)], vm := .none },
  { cls := 7, slots := #[.long (126)], vm := .none },
  { cls := 7, slots := #[.long (127)], vm := .none }]
def classes : Array Class := #[k0, k1, k2, k3, k4, k5, k6, k7, k8, k9, k10, k11, k12, k13, k14, k15]
def interned : List (Array UInt16 × Addr) := []
def slotsUsed : Nat := 515
def theMethod : MethodId := ⟨1, 1⟩
def args0 : Array Value := #[.long 5, .int 7]
def aboutOver (below : List Frame) : State where
  vm := { classes := classes, interned := interned.toArray }
  heap := heap
  slotsUsed := slotsUsed
  threads := #[{ frames := .invoking theMethod args0 :: below }]
def below0 : List Frame := [.native { method := ⟨0, 0⟩, args := #[] }]
def about1 : State := aboutOver below0
def p0 : Program := .bare "" "" ""
def e0 : Env := launch0.env 0 0 0
theorem w_frames : about1.frames = Frame.invoking theMethod args0 :: below0 := rfl
set_option maxRecDepth 65536 in
theorem w_args : argsFit about1.vm theMethod args0 = true := by decide +kernel
set_option maxRecDepth 65536 in
theorem w_heap : heapFits about1 = true := by decide +kernel
set_option maxRecDepth 65536 in
theorem w_runnable : about1.curStatus? = some .runnable := by decide +kernel
set_option maxRecDepth 65536 in
theorem w_alone : about1.alone = true := by decide +kernel
set_option maxRecDepth 65536 in
theorem w_named : about1.methodNamed? x = some theMethod := by decide +kernel
set_option maxRecDepth 65536 in
theorem w_hears : about1.hears theMethod below0 = true := by decide +kernel
set_option maxRecDepth 65536 in
theorem w_ripe : about1.ripe theMethod args0 below0 = true := by decide +kernel
theorem w_running : about1.status = .running := rfl
set_option maxRecDepth 65536 in
theorem w_room : about1.hasRoom e0.platform room_1 = true :=
  launch0.hasRoom_least _ room_1 (by decide +kernel) (by decide +kernel) (by decide +kernel) (by decide +kernel) (by decide +kernel) (by decide +kernel)
theorem allAtoms_all (ts : List Jvm.Cond) (a : Array Jvm.Value) (st : Jvm.State) : (allAtoms ts).before a st = ts.all (fun c => c.before a st) := by
  induction ts with
  | nil => rfl
  | cons c t ih =>
    show (Jvm.Cond.and c (allAtoms t)).before a st = _
    rw [Jvm.Cond.before_and, ih, List.all_cons]
def words1 : List Jvm.Cond := Jvm.Cond.code x code maxLocals ret :: tables_1
/-- a 'code' word, met by the world's own term for the bytes: nothing is compared byte by byte -/
theorem code_word {y : MethodName} {bytes : ByteArray} {mx : Nat} {rt : Option FieldType} {a : Array Value} {s : State} {m : MethodId} {meth : Method} {c : Code} (h1 : s.methodNamed? y = some m) (h2 : s.vm.method? m = some meth) (h3 : meth.code = some c) (h4 : c.code = bytes)
    (h5 : (c.maxLocals == mx && c.exceptionTable.isEmpty && decide (c.maxStack ≤ mostOperands) && decide (meth.sig.returnType = rt) && !meth.locks && decide (parseMethodDescriptor y.desc = some meth.sig)) = true) : (Jvm.Cond.code y bytes mx rt).before a s = true := by
  simp only [Bool.and_eq_true, beq_iff_eq, Bool.not_eq_true', decide_eq_true_eq] at h5
  obtain ⟨⟨⟨⟨⟨g1, g2⟩, g3⟩, g4⟩, g5⟩, g6⟩ := h5
  simp [Cond.before, Cond.holds, Cond.value, h1, h2, h3, h4, g1, g2, g3, g4, g5, g6]
def isCode : Jvm.Cond → Bool
  | .code _ _ _ _ => true
  | _ => false
theorem all_split {L : List Jvm.Cond} {P : Jvm.Cond → Bool} (h1 : L.all (fun c => isCode c || P c) = true) (h2 : ∀ c ∈ L.filter isCode, P c = true) : L.all P = true := by
  refine List.all_eq_true.mpr fun c hc => ?_
  have h := List.all_eq_true.mp h1 c hc
  rcases Bool.eq_false_or_eq_true (isCode c) with hi | hi
  · exact h2 c (List.mem_filter.mpr ⟨hc, hi⟩)
  · simpa [hi] using h
set_option maxRecDepth 65536 in
theorem w_c0 : (Jvm.Cond.code x code maxLocals ret).before args0 about1 = true := code_word (m := ⟨1, 1⟩) (meth := k1m1) (c := k1c1) (by decide +kernel) rfl rfl rfl (by decide +kernel)
set_option maxRecDepth 65536 in
theorem w_c1 : (Jvm.Cond.code ({ cls := "java/lang/Long", name := "valueOf", desc := "(J)Ljava/lang/Long;" } : Jvm.MethodName) jdk_35_method_24_code (3 : Nat) (Option.some (Jvm.ClassFile.FieldType.object "java/lang/Long"))).before args0 about1 = true := code_word (m := ⟨7, 0⟩) (meth := k7m0) (c := k7c0) (by decide +kernel) rfl rfl rfl (by decide +kernel)
set_option maxRecDepth 65536 in
theorem w_c2 : (Jvm.Cond.code ({ cls := "com/example/steady_dispatcher/steadydispatcher/Run", name := "done", desc := "(Ljava/lang/Object;)Lcom/example/steady_dispatcher/steadydispatcher/Run;" } : Jvm.MethodName) prog_12_method_2_code (1 : Nat) (Option.some (Jvm.ClassFile.FieldType.object "com/example/steady_dispatcher/steadydispatcher/Run"))).before args0 about1 = true := code_word (m := ⟨9, 1⟩) (meth := k9m1) (c := k9c1) (by decide +kernel) rfl rfl rfl (by decide +kernel)
set_option maxRecDepth 65536 in
theorem w_c3 : (Jvm.Cond.code ({ cls := "com/example/steady_dispatcher/steadydispatcher/Run", name := "<init>", desc := "(Ljava/lang/Object;J)V" } : Jvm.MethodName) prog_12_method_1_code (4 : Nat) (Option.none : Option Jvm.ClassFile.FieldType)).before args0 about1 = true := code_word (m := ⟨9, 0⟩) (meth := k9m0) (c := k9c0) (by decide +kernel) rfl rfl rfl (by decide +kernel)
set_option maxRecDepth 65536 in
theorem w_c4 : (Jvm.Cond.code ({ cls := "java/lang/Object", name := "<init>", desc := "()V" } : Jvm.MethodName) object_method_1_code (1 : Nat) (Option.none : Option Jvm.ClassFile.FieldType)).before args0 about1 = true := code_word (m := ⟨0, 0⟩) (meth := k0m0) (c := k0c0) (by decide +kernel) rfl rfl rfl (by decide +kernel)
set_option maxRecDepth 65536 in
theorem w_c5 : (Jvm.Cond.code ({ cls := "com/example/steady_dispatcher/steadydispatcher/Run", name := "isDone", desc := "()Z" } : Jvm.MethodName) prog_12_method_4_code (1 : Nat) (Option.some Jvm.ClassFile.FieldType.boolean)).before args0 about1 = true := code_word (m := ⟨9, 2⟩) (meth := k9m2) (c := k9c2) (by decide +kernel) rfl rfl rfl (by decide +kernel)
set_option maxRecDepth 65536 in
theorem w_c6 : (Jvm.Cond.code ({ cls := "com/example/steady_dispatcher/steadydispatcher/Run", name := "delayNanos", desc := "()J" } : Jvm.MethodName) prog_12_method_6_code (1 : Nat) (Option.some Jvm.ClassFile.FieldType.long)).before args0 about1 = true := code_word (m := ⟨9, 4⟩) (meth := k9m4) (c := k9c4) (by decide +kernel) rfl rfl rfl (by decide +kernel)
set_option maxRecDepth 65536 in
theorem w_c7 : (Jvm.Cond.code ({ cls := "com/example/steady_dispatcher/steadydispatcher/Run", name := "value", desc := "()Ljava/lang/Object;" } : Jvm.MethodName) prog_12_method_5_code (1 : Nat) (Option.some (Jvm.ClassFile.FieldType.object "java/lang/Object"))).before args0 about1 = true := code_word (m := ⟨9, 3⟩) (meth := k9m3) (c := k9c3) (by decide +kernel) rfl rfl rfl (by decide +kernel)
set_option maxRecDepth 65536 in
theorem w_c8 : (Jvm.Cond.code ({ cls := "java/lang/Long", name := "longValue", desc := "()J" } : Jvm.MethodName) jdk_35_method_31_code (1 : Nat) (Option.some Jvm.ClassFile.FieldType.long)).before args0 about1 = true := code_word (m := ⟨7, 2⟩) (meth := k7m2) (c := k7c2) (by decide +kernel) rfl rfl rfl (by decide +kernel)
set_option maxRecDepth 65536 in
theorem w_c9 : (Jvm.Cond.code ({ cls := "java/lang/Long", name := "<init>", desc := "(J)V" } : Jvm.MethodName) jdk_35_method_26_code (3 : Nat) (Option.none : Option Jvm.ClassFile.FieldType)).before args0 about1 = true := code_word (m := ⟨7, 1⟩) (meth := k7m1) (c := k7c1) (by decide +kernel) rfl rfl rfl (by decide +kernel)
set_option maxRecDepth 65536 in
theorem w_c10 : (Jvm.Cond.code ({ cls := "java/lang/Number", name := "<init>", desc := "()V" } : Jvm.MethodName) jdk_18_method_1_code (1 : Nat) (Option.none : Option Jvm.ClassFile.FieldType)).before args0 about1 = true := code_word (m := ⟨3, 0⟩) (meth := k3m0) (c := k3c0) (by decide +kernel) rfl rfl rfl (by decide +kernel)
def codes1 : List Jvm.Cond := [Jvm.Cond.code x code maxLocals ret, Jvm.Cond.code ({ cls := "java/lang/Long", name := "valueOf", desc := "(J)Ljava/lang/Long;" } : Jvm.MethodName) jdk_35_method_24_code (3 : Nat) (Option.some (Jvm.ClassFile.FieldType.object "java/lang/Long")), Jvm.Cond.code ({ cls := "com/example/steady_dispatcher/steadydispatcher/Run", name := "done", desc := "(Ljava/lang/Object;)Lcom/example/steady_dispatcher/steadydispatcher/Run;" } : Jvm.MethodName) prog_12_method_2_code (1 : Nat) (Option.some (Jvm.ClassFile.FieldType.object "com/example/steady_dispatcher/steadydispatcher/Run")), Jvm.Cond.code ({ cls := "com/example/steady_dispatcher/steadydispatcher/Run", name := "<init>", desc := "(Ljava/lang/Object;J)V" } : Jvm.MethodName) prog_12_method_1_code (4 : Nat) (Option.none : Option Jvm.ClassFile.FieldType), Jvm.Cond.code ({ cls := "java/lang/Object", name := "<init>", desc := "()V" } : Jvm.MethodName) object_method_1_code (1 : Nat) (Option.none : Option Jvm.ClassFile.FieldType), Jvm.Cond.code ({ cls := "com/example/steady_dispatcher/steadydispatcher/Run", name := "isDone", desc := "()Z" } : Jvm.MethodName) prog_12_method_4_code (1 : Nat) (Option.some Jvm.ClassFile.FieldType.boolean), Jvm.Cond.code ({ cls := "com/example/steady_dispatcher/steadydispatcher/Run", name := "delayNanos", desc := "()J" } : Jvm.MethodName) prog_12_method_6_code (1 : Nat) (Option.some Jvm.ClassFile.FieldType.long), Jvm.Cond.code ({ cls := "com/example/steady_dispatcher/steadydispatcher/Run", name := "value", desc := "()Ljava/lang/Object;" } : Jvm.MethodName) prog_12_method_5_code (1 : Nat) (Option.some (Jvm.ClassFile.FieldType.object "java/lang/Object")), Jvm.Cond.code ({ cls := "java/lang/Long", name := "longValue", desc := "()J" } : Jvm.MethodName) jdk_35_method_31_code (1 : Nat) (Option.some Jvm.ClassFile.FieldType.long), Jvm.Cond.code ({ cls := "java/lang/Long", name := "<init>", desc := "(J)V" } : Jvm.MethodName) jdk_35_method_26_code (3 : Nat) (Option.none : Option Jvm.ClassFile.FieldType), Jvm.Cond.code ({ cls := "java/lang/Number", name := "<init>", desc := "()V" } : Jvm.MethodName) jdk_18_method_1_code (1 : Nat) (Option.none : Option Jvm.ClassFile.FieldType)]
set_option maxRecDepth 65536 in
theorem codes_eq : words1.filter isCode = codes1 := rfl
theorem w_codes : ∀ c ∈ words1.filter isCode, c.before args0 about1 = true := by
  rw [codes_eq]
  intro c hc
  simp only [codes1, List.mem_cons, List.not_mem_nil, or_false] at hc
  rcases hc with rfl | rfl | rfl | rfl | rfl | rfl | rfl | rfl | rfl | rfl | rfl
  · exact w_c0
  · exact w_c1
  · exact w_c2
  · exact w_c3
  · exact w_c4
  · exact w_c5
  · exact w_c6
  · exact w_c7
  · exact w_c8
  · exact w_c9
  · exact w_c10
set_option maxRecDepth 65536 in
theorem w_t1 : (words1.take 24).all (fun c => isCode c || c.before args0 about1) = true := by decide +kernel
set_option maxRecDepth 65536 in
theorem w_t2 : ((words1.drop 24).take 24).all (fun c => isCode c || c.before args0 about1) = true := by decide +kernel
set_option maxRecDepth 65536 in
theorem w_t3 : ((words1.drop 24).drop 24).all (fun c => isCode c || c.before args0 about1) = true := by decide +kernel
theorem w_tables : (allAtoms (Jvm.Cond.code x code maxLocals ret :: tables_1)).before args0 about1 = true := by
  rw [allAtoms_all]
  show words1.all (fun c => c.before args0 about1) = true
  refine all_split ?_ w_codes
  rw [← List.take_append_drop 24 words1, List.all_append, w_t1, ← List.take_append_drop 24 (words1.drop 24), List.all_append, w_t2, w_t3]
  rfl
set_option maxRecDepth 65536 in
theorem w_rest : rest_1_c.before args0 about1 = true := by decide +kernel
set_option maxRecDepth 65536 in
theorem w_case : (Jvm.Cond.and given_1 narrow_1).before args0 about1 = true := by decide +kernel
theorem w_applies : (headSpec (Jvm.Cond.code x code maxLocals ret :: tables_1) room_1).applies x e0.platform about1 = true :=
  (Spec.applies_iff w_frames).mpr ⟨w_running, w_runnable, w_alone, w_named, w_hears, w_ripe, w_room, w_tables⟩
theorem atStart : AtStart classFile x code maxLocals ret World_1 tables_1 room_1 Calls_1 rest_1 Pre_1 launch0 p0 e0 about1 theMethod args0 below0 :=
  ⟨lists_1, trivial, launch0.admits_env _ _ _, launch0.least_env, fairChoices_fair.cas, fairChoices_fair.clock, w_frames, w_args, w_heap, w_applies, trivial, w_rest, w_case⟩
end start1
theorem witness_1 : WitnessClaimed_1 := ⟨start1.p0, start1.e0, start1.about1, start1.theMethod, start1.args0, start1.below0, start1.atStart⟩
end Jvm.Pilot.@@N@@
