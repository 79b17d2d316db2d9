import JvmDerived
import JvmDerived.Pilot.@@N@@Statement
import JvmDerived.Pilot.@@N@@Code
set_option linter.unusedVariables false
set_option linter.unusedSimpArgs false
@@BLOCK:TracedD.lean.txt@@
namespace Jvm.Pilot.@@N@@
open Jvm Jvm.ClassFile Sem Op Lib Jvm.Free Jvm.Stand Jvm.LawKit Jvm.RoadKit Bundle Jvm.Pilot.@@N@@.Jvm.D
section OwnKit
variable {p : Program} {l : Launch} {e : Env} {R : Room} {s : State} {m : MethodId} {args : Array Value} {below : List Frame} {meth : Method} {c : Code} {T : State} {locs : List Loc} {cells slots : Nat} {Z : State} {a0 : Array Value} {h h0 : Heap} {pc : Nat} {Ls : Array Slot} {rest : List Value} {Q : Outcome → State → Prop}
def Go (p : Program) (e : Env) (below : List Frame) (T : State) (g : JFrame) (Q : Outcome → State → Prop) : Prop := ∃ s₂ o, Steps p.tables e below (T.setTop g) s₂ ∧ s₂.status = .running ∧ Ended s₂ below o ∧ Q o s₂
theorem Go.of {T' : State} {g g' : JFrame} (st : ∀ t, Steps p.tables e below (T'.setTop g') t → Steps p.tables e below (T.setTop g) t) (k : Go p e below T' g' Q) : Go p e below T g Q := by
  obtain ⟨a, b, h1, h2⟩ := k; exact ⟨a, b, st a h1, h2⟩
theorem o_iload (X : Stand p l e R s m args below meth c T locs cells slots) (hx : p.tables.exec = Jvm.exec) {k : Nat} {v : Int32} (hd : decode c.code pc = .ok (.iload k, 2)) (hl : Ls[k]? = some (.val (.int v))) (q : Go p e below T (mkF m (pc + 2) Ls (.int v :: rest)) Q) : Go p e below T (mkF m pc Ls (rest)) Q := Go.of (fun _ k => XS.iload X.here hx rfl hd hl k) q
theorem o_iloadN (X : Stand p l e R s m args below meth c T locs cells slots) (hx : p.tables.exec = Jvm.exec) {k : Fin 4} {v : Int32} (hd : decode c.code pc = .ok (.iload_n k, 1)) (hl : Ls[k.val]? = some (.val (.int v))) (q : Go p e below T (mkF m (pc + 1) Ls (.int v :: rest)) Q) : Go p e below T (mkF m pc Ls (rest)) Q := Go.of (fun _ k => XS.iloadN X.here hx rfl hd hl k) q
theorem o_istore (X : Stand p l e R s m args below meth c T locs cells slots) (hx : p.tables.exec = Jvm.exec) {k : Nat} {v : Int32} {l' : Array Slot} (hd : decode c.code pc = .ok (.istore k, 2)) (hl : storeLocals Ls k (.int v) = some l') (q : Go p e below T (mkF m (pc + 2) l' (rest)) Q) : Go p e below T (mkF m pc Ls (.int v :: rest)) Q := Go.of (fun _ k => XS.istore X.here hx rfl hd rfl hl k) q
theorem o_istoreN (X : Stand p l e R s m args below meth c T locs cells slots) (hx : p.tables.exec = Jvm.exec) {k : Fin 4} {v : Int32} {l' : Array Slot} (hd : decode c.code pc = .ok (.istore_n k, 1)) (hl : storeLocals Ls k.val (.int v) = some l') (q : Go p e below T (mkF m (pc + 1) l' (rest)) Q) : Go p e below T (mkF m pc Ls (.int v :: rest)) Q := Go.of (fun _ k => XS.istoreN X.here hx rfl hd rfl hl k) q
theorem o_aload (X : Stand p l e R s m args below meth c T locs cells slots) (hx : p.tables.exec = Jvm.exec) {k : Nat} {v : Value} (hd : decode c.code pc = .ok (.aload k, 2)) (hl : Ls[k]? = some (.val v)) (hv : v.isRef = true) (q : Go p e below T (mkF m (pc + 2) Ls (v :: rest)) Q) : Go p e below T (mkF m pc Ls (rest)) Q := Go.of (fun _ k => XS.aload X.here hx rfl hd hl hv k) q
theorem o_aloadN (X : Stand p l e R s m args below meth c T locs cells slots) (hx : p.tables.exec = Jvm.exec) {k : Fin 4} {v : Value} (hd : decode c.code pc = .ok (.aload_n k, 1)) (hl : Ls[k.val]? = some (.val v)) (hv : v.isRef = true) (q : Go p e below T (mkF m (pc + 1) Ls (v :: rest)) Q) : Go p e below T (mkF m pc Ls (rest)) Q := Go.of (fun _ k => XS.aloadN X.here hx rfl hd hl hv k) q
theorem o_astore (X : Stand p l e R s m args below meth c T locs cells slots) (hx : p.tables.exec = Jvm.exec) {k : Nat} {v : Value} {l' : Array Slot} (hd : decode c.code pc = .ok (.astore k, 2)) (hv : v.isRef = true) (hl : storeLocals Ls k v = some l') (q : Go p e below T (mkF m (pc + 2) l' (rest)) Q) : Go p e below T (mkF m pc Ls (v :: rest)) Q := Go.of (fun _ k => XS.astore X.here hx rfl hd rfl hv hl k) q
theorem o_astoreN (X : Stand p l e R s m args below meth c T locs cells slots) (hx : p.tables.exec = Jvm.exec) {k : Fin 4} {v : Value} {l' : Array Slot} (hd : decode c.code pc = .ok (.astore_n k, 1)) (hv : v.isRef = true) (hl : storeLocals Ls k.val v = some l') (q : Go p e below T (mkF m (pc + 1) l' (rest)) Q) : Go p e below T (mkF m pc Ls (v :: rest)) Q := Go.of (fun _ k => XS.astoreN X.here hx rfl hd rfl hv hl k) q
theorem o_iconst (X : Stand p l e R s m args below meth c T locs cells slots) (hx : p.tables.exec = Jvm.exec) {i : Int} (v : Int32) (hd : decode c.code pc = .ok (.iconst i, 1)) (hv : Int32.ofInt i = v) (q : Go p e below T (mkF m (pc + 1) Ls (.int v :: rest)) Q) : Go p e below T (mkF m pc Ls rest) Q := by
  subst hv
  exact Go.of (fun _ k => XS.iconst X.here hx rfl hd k) q
theorem o_bipush (X : Stand p l e R s m args below meth c T locs cells slots) (hx : p.tables.exec = Jvm.exec) {i : Int} (v : Int32) (hd : decode c.code pc = .ok (.bipush i, 2)) (hv : (Int8.ofInt i).toInt32 = v) (q : Go p e below T (mkF m (pc + 2) Ls (.int v :: rest)) Q) : Go p e below T (mkF m pc Ls rest) Q := by
  subst hv
  exact Go.of (fun _ k => XS.bipush X.here hx rfl hd k) q
theorem o_sipush (X : Stand p l e R s m args below meth c T locs cells slots) (hx : p.tables.exec = Jvm.exec) {i : Int} (v : Int32) (hd : decode c.code pc = .ok (.sipush i, 3)) (hv : (Int16.ofInt i).toInt32 = v) (q : Go p e below T (mkF m (pc + 3) Ls (.int v :: rest)) Q) : Go p e below T (mkF m pc Ls rest) Q := by
  subst hv
  exact Go.of (fun _ k => XS.sipush X.here hx rfl hd k) q
theorem o_aconst_null (X : Stand p l e R s m args below meth c T locs cells slots) (hx : p.tables.exec = Jvm.exec)  (hd : decode c.code pc = .ok (.aconst_null, 1)) (q : Go p e below T (mkF m (pc + 1) Ls (.null :: rest)) Q) : Go p e below T (mkF m pc Ls (rest)) Q := Go.of (fun _ k => XS.aconstNull X.here hx rfl hd k) q
theorem o_iadd (X : Stand p l e R s m args below meth c T locs cells slots) (hx : p.tables.exec = Jvm.exec) {x y : Int32} (hd : decode c.code pc = .ok (.iadd, 1)) (q : Go p e below T (mkF m (pc + 1) Ls (.int (x + y) :: rest)) Q) : Go p e below T (mkF m pc Ls (.int y :: .int x :: rest)) Q := Go.of (fun _ k => XS.iadd X.here hx rfl hd rfl k) q
theorem o_isub (X : Stand p l e R s m args below meth c T locs cells slots) (hx : p.tables.exec = Jvm.exec) {x y : Int32} (hd : decode c.code pc = .ok (.isub, 1)) (q : Go p e below T (mkF m (pc + 1) Ls (.int (x - y) :: rest)) Q) : Go p e below T (mkF m pc Ls (.int y :: .int x :: rest)) Q := Go.of (fun _ k => XS.isub X.here hx rfl hd rfl k) q
theorem o_iand (X : Stand p l e R s m args below meth c T locs cells slots) (hx : p.tables.exec = Jvm.exec) {x y : Int32} (hd : decode c.code pc = .ok (.iand, 1)) (q : Go p e below T (mkF m (pc + 1) Ls (.int (x &&& y) :: rest)) Q) : Go p e below T (mkF m pc Ls (.int y :: .int x :: rest)) Q := Go.of (fun _ k => XS.iand X.here hx rfl hd rfl k) q
theorem o_irem (X : Stand p l e R s m args below meth c T locs cells slots) (hx : p.tables.exec = Jvm.exec) {x y : Int32} (hd : decode c.code pc = .ok (.irem, 1)) (hy : y ≠ 0) (q : Go p e below T (mkF m (pc + 1) Ls (.int (x % y) :: rest)) Q) : Go p e below T (mkF m pc Ls (.int y :: .int x :: rest)) Q := Go.of (fun _ k => iremM (g := mkF m pc Ls (.int y :: .int x :: rest)) X hx rfl hd rfl hy k) q
theorem o_ishl (X : Stand p l e R s m args below meth c T locs cells slots) (hx : p.tables.exec = Jvm.exec) {x y : Int32} (hd : decode c.code pc = .ok (.ishl, 1)) (q : Go p e below T (mkF m (pc + 1) Ls (.int (x <<< (y &&& 31)) :: rest)) Q) : Go p e below T (mkF m pc Ls (.int y :: .int x :: rest)) Q := Go.of (fun _ k => XS.ishl X.here hx rfl hd rfl k) q
theorem o_ishr (X : Stand p l e R s m args below meth c T locs cells slots) (hx : p.tables.exec = Jvm.exec) {x y : Int32} (hd : decode c.code pc = .ok (.ishr, 1)) (q : Go p e below T (mkF m (pc + 1) Ls (.int (x >>> (y &&& 31)) :: rest)) Q) : Go p e below T (mkF m pc Ls (.int y :: .int x :: rest)) Q := Go.of (fun _ k => XS.ishr X.here hx rfl hd rfl k) q
theorem o_iushr (X : Stand p l e R s m args below meth c T locs cells slots) (hx : p.tables.exec = Jvm.exec) {x y : Int32} (hd : decode c.code pc = .ok (.iushr, 1)) (q : Go p e below T (mkF m (pc + 1) Ls (.int ((x.toUInt32 >>> (y &&& 31).toUInt32).toInt32) :: rest)) Q) : Go p e below T (mkF m pc Ls (.int y :: .int x :: rest)) Q := Go.of (fun _ k => XS.iushr X.here hx rfl hd rfl k) q
theorem o_i2b (X : Stand p l e R s m args below meth c T locs cells slots) (hx : p.tables.exec = Jvm.exec) {v : Int32} (hd : decode c.code pc = .ok (.i2b, 1)) (q : Go p e below T (mkF m (pc + 1) Ls (.int (v.toInt8.toInt32) :: rest)) Q) : Go p e below T (mkF m pc Ls (.int v :: rest)) Q := Go.of (fun _ k => XS.i2b X.here hx rfl hd rfl k) q
theorem o_i2c (X : Stand p l e R s m args below meth c T locs cells slots) (hx : p.tables.exec = Jvm.exec) {v : Int32} (hd : decode c.code pc = .ok (.i2c, 1)) (q : Go p e below T (mkF m (pc + 1) Ls (.int (v.toUInt32.toUInt16.toUInt32.toInt32) :: rest)) Q) : Go p e below T (mkF m pc Ls (.int v :: rest)) Q := Go.of (fun _ k => XS.i2c X.here hx rfl hd rfl k) q
theorem o_dup (X : Stand p l e R s m args below meth c T locs cells slots) (hx : p.tables.exec = Jvm.exec) {v : Value} (hd : decode c.code pc = .ok (.dup, 1)) (hc : v.category = 1) (q : Go p e below T (mkF m (pc + 1) Ls (v :: v :: rest)) Q) : Go p e below T (mkF m pc Ls (v :: rest)) Q := Go.of (fun _ k => XS.dup X.here hx rfl hd rfl hc k) q
theorem o_pop (X : Stand p l e R s m args below meth c T locs cells slots) (hx : p.tables.exec = Jvm.exec) {v : Value} (hd : decode c.code pc = .ok (.pop, 1)) (hc : v.category = 1) (q : Go p e below T (mkF m (pc + 1) Ls (rest)) Q) : Go p e below T (mkF m pc Ls (v :: rest)) Q := Go.of (fun _ k => XS.pop X.here hx rfl hd rfl hc k) q
theorem o_iinc (X : Stand p l e R s m args below meth c T locs cells slots) (hx : p.tables.exec = Jvm.exec) {k : Nat} {cst : Int} {x : Int32} {l' : Array Slot} (d : Int32) (hd : decode c.code pc = .ok (.iinc k cst, 3)) (hv : Int32.ofInt cst = d) (hl : Ls[k]? = some (.val (.int x))) (hl' : storeLocals Ls k (.int (x + d)) = some l') (q : Go p e below T (mkF m (pc + 3) l' rest) Q) : Go p e below T (mkF m pc Ls rest) Q := by
  subst hv
  exact Go.of (fun _ k => XS.iinc X.here hx rfl hd hl hl' k) q
theorem o_goto (X : Stand p l e R s m args below meth c T locs cells slots) (hx : p.tables.exec = Jvm.exec) (pc' : Nat) {o : Int} (hd : decode c.code pc = .ok (.goto o, 3)) (ho : 0 ≤ (pc : Int) + o) (hp : ((pc : Int) + o).toNat = pc') (q : Go p e below T (mkF m pc' Ls rest) Q) : Go p e below T (mkF m pc Ls rest) Q := Go.of (fun _ k => XS.goto X.here hx rfl (pc0 := pc) rfl hd ho hp k) q
theorem o_ifYes (X : Stand p l e R s m args below meth c T locs cells slots) (hx : p.tables.exec = Jvm.exec) (pc' : Nat) {cd : ClassFile.Cond} {x : Int32} {o : Int} (hd : decode c.code pc = .ok (.ifCond cd o, 3)) (hc : ifCond.holds cd x = true) (ho : 0 ≤ (pc : Int) + o) (hp : ((pc : Int) + o).toNat = pc') (q : Go p e below T (mkF m pc' Ls rest) Q) : Go p e below T (mkF m pc Ls (.int x :: rest)) Q := Go.of (fun _ k => XS.ifYes X.here hx rfl (pc0 := pc) rfl hd rfl hc ho hp k) q
theorem o_ifNo (X : Stand p l e R s m args below meth c T locs cells slots) (hx : p.tables.exec = Jvm.exec) {cd : ClassFile.Cond} {x : Int32} {o : Int} (hd : decode c.code pc = .ok (.ifCond cd o, 3)) (hc : ifCond.holds cd x = false) (q : Go p e below T (mkF m (pc + 3) Ls rest) Q) : Go p e below T (mkF m pc Ls (.int x :: rest)) Q := Go.of (fun _ k => XS.ifNo X.here hx rfl hd rfl hc k) q
theorem o_icmpYes (X : Stand p l e R s m args below meth c T locs cells slots) (hx : p.tables.exec = Jvm.exec) (pc' : Nat) {cd : ClassFile.Cond} {x y : Int32} {o : Int} (hd : decode c.code pc = .ok (.if_icmp cd o, 3)) (hc : if_icmp.holds cd x y = true) (ho : 0 ≤ (pc : Int) + o) (hp : ((pc : Int) + o).toNat = pc') (q : Go p e below T (mkF m pc' Ls rest) Q) : Go p e below T (mkF m pc Ls (.int y :: .int x :: rest)) Q := Go.of (fun _ k => XS.icmpYes X.here hx rfl (pc0 := pc) rfl hd rfl hc ho hp k) q
theorem o_icmpNo (X : Stand p l e R s m args below meth c T locs cells slots) (hx : p.tables.exec = Jvm.exec) {cd : ClassFile.Cond} {x y : Int32} {o : Int} (hd : decode c.code pc = .ok (.if_icmp cd o, 3)) (hc : if_icmp.holds cd x y = false) (q : Go p e below T (mkF m (pc + 3) Ls rest) Q) : Go p e below T (mkF m pc Ls (.int y :: .int x :: rest)) Q := Go.of (fun _ k => XS.icmpNo X.here hx rfl hd rfl hc k) q
theorem o_ifnonnullYes (X : Stand p l e R s m args below meth c T locs cells slots) (hx : p.tables.exec = Jvm.exec) (pc' : Nat) {o : Int} {b : Addr} (hd : decode c.code pc = .ok (.ifnonnull o, 3)) (ho : 0 ≤ (pc : Int) + o) (hp : ((pc : Int) + o).toNat = pc') (q : Go p e below T (mkF m pc' Ls rest) Q) : Go p e below T (mkF m pc Ls (.ref b :: rest)) Q := Go.of (fun _ k => XS.ifnonnullYes X.here hx rfl (pc0 := pc) rfl hd rfl ho hp k) q
theorem o_ifnonnullNo (X : Stand p l e R s m args below meth c T locs cells slots) (hx : p.tables.exec = Jvm.exec) {o : Int} (hd : decode c.code pc = .ok (.ifnonnull o, 3)) (q : Go p e below T (mkF m (pc + 3) Ls rest) Q) : Go p e below T (mkF m pc Ls (.null :: rest)) Q := Go.of (fun _ k => XS.ifnonnullNo X.here hx rfl hd rfl k) q
theorem o_acmp (X : Stand p l e R s m args below meth c T locs cells slots) (hx : p.tables.exec = Jvm.exec) (pc' : Nat) (same : Bool) {cd : ACond} {x y : Value} {o : Int} (h1 : x.isRef = true) (h2 : y.isRef = true) (hd : decode c.code pc = .ok (.if_acmp cd o, 3)) (hq : decide (x = y) = same) (ho : 0 ≤ (pc : Int) + o) (hp : pc' = if acV cd same = true then ((pc : Int) + o).toNat else pc + 3) (q : Go p e below T (mkF m pc' Ls rest) Q) : Go p e below T (mkF m pc Ls (y :: x :: rest)) Q := Go.of (fun _ k => Jvm.RoadKit.acmp (g := mkF m pc Ls (y :: x :: rest)) X hx rfl h1 h2 (pc0 := pc) rfl hd rfl hq ho hp k) q
theorem o_ldcI (X : Stand p l e R s m args below meth c T locs cells slots) (hx : p.tables.exec = Jvm.exec) (hZ : Z.Warmed39 s.vm) {own : String} {index : Nat} {v : Int32} (hown : s.vm.findClass own = some m.cls) (w : (Cond.constant own index v).before a0 Z = true) (hd : decode c.code pc = .ok (.ldc index, 2)) (q : Go p e below T (mkF m (pc + 2) Ls (.int v :: rest)) Q) : Go p e below T (mkF m pc Ls rest) Q := Go.of (fun t k => X.ldcInt hx hown (mvT hZ w) (g := mkF m pc Ls rest) rfl hd t k) q
theorem o_getS (X : Stand p l e R s m args below meth c T locs cells slots) (hx : p.tables.exec = Jvm.exec) (hZ : Z.Warmed39 s.vm) {own R0 O n d host : String} {index : Nat} (hown : s.vm.findClass own = some m.cls) (w : (Cond.fieldLink own index R0 n d).before a0 Z = true ∨ (Cond.fieldLinkNest own index R0 n d host).before a0 Z = true) (via : Via Z R0 O n d) (eT : T.heap = h) {v : Value} (F : Sta Z h O n d v) (hd : decode c.code pc = .ok (.getstatic index, 3))
    (q : ∀ T', Stand p l e R s m args below meth c T' locs cells slots → T'.heap = h → Go p e below T' (mkF m (pc + 3) Ls (v :: rest)) Q) : Go p e below T (mkF m pc Ls rest) Q := by
  obtain ⟨T', X', e', st⟩ := getS2 X hx hZ hown w via eT F (g := mkF m pc Ls rest) rfl hd
  exact Go.of st (q T' X' e')
theorem o_getF (X : Stand p l e R s m args below meth c T locs cells slots) (hx : p.tables.exec = Jvm.exec) (hZ : Z.Warmed39 s.vm) {own R0 O n d host : String} {index : Nat} (hown : s.vm.findClass own = some m.cls) (w : (Cond.fieldLink own index R0 n d).before a0 Z = true ∨ (Cond.fieldLinkNest own index R0 n d host).before a0 Z = true) (via : Via Z R0 O n d) (eT : T.heap = h) {a : Addr} {v : Value} (F : Fld Z h a O n d v) (hd : decode c.code pc = .ok (.getfield index, 3))
    (q : ∀ T', Stand p l e R s m args below meth c T' locs cells slots → T'.heap = h → Go p e below T' (mkF m (pc + 3) Ls (v :: rest)) Q) : Go p e below T (mkF m pc Ls (.ref a :: rest)) Q := by
  obtain ⟨T', X', e', st⟩ := getF X hx hZ hown w via eT F (g := mkF m pc Ls (.ref a :: rest)) rfl rfl hd
  exact Go.of st (q T' X' e')
theorem o_putF (X : Stand p l e R s m args below meth c T locs cells slots) (hx : p.tables.exec = Jvm.exec) (hZ : Z.Warmed39 s.vm) {own R0 O n d host C : String} {index kk : Nat} {ty : FieldType} (hown : s.vm.findClass own = some m.cls) (w : (Cond.fieldLink own index R0 n d).before a0 Z = true ∨ (Cond.fieldLinkNest own index R0 n d host).before a0 Z = true) (via : Via Z R0 O n d) (eT : T.heap = h) {a : Addr} {v old : Value} (F : Fld Z h a O n d old) (E : Exa Z h a C) (L : (Cond.lays C O n d).before a0 Z = true ∨ ((Cond.laysFinal C O n d).before a0 Z = true ∧ own = O ∧ meth.name = "<init>")) (wi : (Cond.instantiable C kk).before a0 Z = true)
    (hty : parseFieldDescriptor d = some ty) (hn : narrow ty v = v) (hf : fits ty v = true) (hd : decode c.code pc = .ok (.putfield index, 3))
    (q : ∀ T' h', Stand p l e R s m args below meth c T' (locs ++ [⟨a, Jvm.RoadKit.slotOf Z O n d⟩]) cells slots → T'.heap = h' → Wr h h' a (Jvm.RoadKit.slotOf Z O n d) v → Go p e below T' (mkF m (pc + 3) Ls rest) Q) : Go p e below T (mkF m pc Ls (v :: .ref a :: rest)) Q := by
  obtain ⟨T', h', X', e', W, st⟩ := putF X hx hZ hown w via eT F E L wi hty hn hf (g := mkF m pc Ls (v :: .ref a :: rest)) rfl rfl hd
  exact Go.of st (q T' h' X' e' W)
theorem o_putFN (X : Stand p l e R s m args below meth c T locs cells slots) (hx : p.tables.exec = Jvm.exec) (hZ : Z.Warmed39 s.vm) {own R0 O n d C : String} {index kk : Nat} {ty : FieldType} (hown : s.vm.findClass own = some m.cls) (w : (Cond.fieldLink own index R0 n d).before a0 Z = true) (via : Via Z R0 O n d) (eT : T.heap = h) {a : Addr} {v v' old : Value} (F : Fld Z h a O n d old) (E : Exa Z h a C) (L : (Cond.lays C O n d).before a0 Z = true ∨ ((Cond.laysFinal C O n d).before a0 Z = true ∧ own = O ∧ meth.name = "<init>")) (wi : (Cond.instantiable C kk).before a0 Z = true)
    (hty : parseFieldDescriptor d = some ty) (hn : narrow ty v = v') (hf : fits ty v' = true) (hd : decode c.code pc = .ok (.putfield index, 3))
    (q : ∀ T' h', Stand p l e R s m args below meth c T' (locs ++ [⟨a, Jvm.RoadKit.slotOf Z O n d⟩]) cells slots → T'.heap = h' → Wr h h' a (Jvm.RoadKit.slotOf Z O n d) v' → Go p e below T' (mkF m (pc + 3) Ls rest) Q) : Go p e below T (mkF m pc Ls (v :: .ref a :: rest)) Q := by
  obtain ⟨T', h', X', e', W, st⟩ := putFN X hx hZ hown w via eT F E L wi hty hn hf (g := mkF m pc Ls (v :: .ref a :: rest)) rfl rfl hd
  exact Go.of st (q T' h' X' e' W)
theorem o_new (X : Stand p l e R s m args below meth c T locs cells slots) (hx : p.tables.exec = Jvm.exec) (hZ : Z.Warmed39 s.vm) {own C : String} {index n : Nat} (hown : s.vm.findClass own = some m.cls) (w : (Cond.classLink own index C).before a0 Z = true) (wi : (Cond.instantiable C n).before a0 Z = true) (wz : (Cond.initialized C).before a0 Z = true) (eT : T.heap = h) (hd : decode c.code pc = .ok (.new index, 3)) (hc : cells + 1 ≤ R.cells) (hl : slots + n ≤ R.slots)
    (q : ∀ T' h' a, Stand p l e R s m args below meth c T' locs (cells + 1) (slots + n) → T'.heap = h' → h.size ≤ a → Ext h h' → Exa Z h' a C → (∀ {O nm d : String} {ty : FieldType}, Laid Z a0 C O nm d → parseFieldDescriptor d = some ty → Fld Z h' a O nm d (defaultValue ty)) → Unt h' a → Go p e below T' (mkF m (pc + 3) Ls (.ref a :: rest)) Q) : Go p e below T (mkF m pc Ls rest) Q := by
  obtain ⟨T', h', X', e', E, A, D, U, st⟩ := newO X hx hZ hown w wi wz eT (g := mkF m pc Ls rest) rfl hd hc hl
  exact Go.of st (q T' h' _ X' e' (Nat.le_refl _) E A D U)
theorem o_initO (X : Stand p l e R s m args below meth c T locs cells slots) (hx : p.tables.exec = Jvm.exec) (hZ : Z.Warmed39 s.vm) {own : String} {idx : Nat} (hown : s.vm.findClass own = some m.cls) (w1 : (Cond.methodLink own idx Lib.objectInit).before a0 Z = true) (w2 : (Cond.instanceMethod Lib.objectInit).before a0 Z = true) (w3 : (Cond.code Lib.objectInit ⟨#[0xb1]⟩ 1 none).before a0 Z = true) (eT : T.heap = h) (hsize : Ls.size = c.maxLocals) {a : Addr} (hd : decode c.code pc = .ok (.invokespecial idx, 3)) (hf : 1 ≤ R.frames) {W : Nat} (hW : (rest.map fun v => v.category).sum ≤ W) (hl : W + 12 ≤ R.locals)
    (q : ∀ T', Stand p l e R s m args below meth c T' locs cells slots → T'.heap = h → Go p e below T' (mkF m (pc + 3) Ls rest) Q) : Go p e below T (mkF m pc Ls (.ref a :: rest)) Q := by
  obtain ⟨T', X', e', st⟩ := initO X hx hZ hown w1 w2 w3 eT (g := mkF m pc Ls (.ref a :: rest)) rfl hsize rfl hd hf (W := W) (by show 2 * 0 + _ ≤ W; omega) hl
  exact Go.of st (q T' X' e')
theorem o_cast (X : Stand p l e R s m args below meth c T locs cells slots) (hx : p.tables.exec = Jvm.exec) (hZ : Z.Warmed39 s.vm) {own K : String} {index : Nat} (hown : s.vm.findClass own = some m.cls) (w : (Cond.classLink own index K).before a0 Z = true) (eT : T.heap = h) {a : Addr} (F : Ins Z h a K true) (hd : decode c.code pc = .ok (.checkcast index, 3))
    (q : ∀ T', Stand p l e R s m args below meth c T' locs cells slots → T'.heap = h → Go p e below T' (mkF m (pc + 3) Ls (.ref a :: rest)) Q) : Go p e below T (mkF m pc Ls (.ref a :: rest)) Q := by
  obtain ⟨T', X', e', st⟩ := castY X hx hZ hown w eT F (g := mkF m pc Ls (.ref a :: rest)) rfl rfl hd
  exact Go.of st (q T' X' e')
theorem o_instY (X : Stand p l e R s m args below meth c T locs cells slots) (hx : p.tables.exec = Jvm.exec) (hZ : Z.Warmed39 s.vm) {own K : String} {index : Nat} (hown : s.vm.findClass own = some m.cls) (w : (Cond.classLink own index K).before a0 Z = true) (eT : T.heap = h) {a : Addr} (F : Ins Z h a K true) (hd : decode c.code pc = .ok (.instanceof index, 3))
    (q : ∀ T', Stand p l e R s m args below meth c T' locs cells slots → T'.heap = h → Go p e below T' (mkF m (pc + 3) Ls (.int 1 :: rest)) Q) : Go p e below T (mkF m pc Ls (.ref a :: rest)) Q := by
  obtain ⟨T', X', e', st⟩ := instY X hx hZ hown w eT F (g := mkF m pc Ls (.ref a :: rest)) rfl rfl hd
  exact Go.of st (q T' X' e')
theorem o_instNull (X : Stand p l e R s m args below meth c T locs cells slots) (hx : p.tables.exec = Jvm.exec) {index : Nat} (hd : decode c.code pc = .ok (.instanceof index, 3)) (q : Go p e below T (mkF m (pc + 3) Ls (.int 0 :: rest)) Q) : Go p e below T (mkF m pc Ls (.null :: rest)) Q := Go.of (fun t k => X.instanceofNull hx (g := mkF m pc Ls (.null :: rest)) rfl rfl hd t k) q
theorem o_newP (X : Stand p l e R s m args below meth c T locs cells slots) (hx : p.tables.exec = Jvm.exec) (hZ : Z.Warmed39 s.vm) {aty : ArrayType} (w : (Cond.arrayClass (newarray.typeOf aty)).before a0 Z = true) (eT : T.heap = h) (hd : decode c.code pc = .ok (.newarray aty, 2)) {n : Int32} (hn : ¬ n < 0) (cap : Nat) (hcap : n.toNatClampNeg ≤ cap) (hb : cap * 8 ≤ 536870912) (hc : cells + 1 ≤ R.cells) (hl : slots + cap ≤ R.slots)
    (q : ∀ T' h' a k, Stand p l e R s m args below meth c T' locs (cells + 1) (slots + cap) → T'.heap = h' → h.size ≤ a → Ext h h' → Arv Z h' a k (newarray.typeOf aty) n [] (defaultValue (newarray.typeOf aty)) → Go p e below T' (mkF m (pc + 2) Ls (.ref a :: rest)) Q) : Go p e below T (mkF m pc Ls (.int n :: rest)) Q := by
  obtain ⟨T', h', k', X', e', E, A, st⟩ := newP X hx hZ w eT (g := mkF m pc Ls (.int n :: rest)) rfl hd rfl hn hcap hb hc hl
  exact Go.of st (q T' h' _ k' X' e' (Nat.le_refl _) E (Arv.new A hn))
theorem o_castore (X : Stand p l e R s m args below meth c T locs cells slots) (hx : p.tables.exec = Jvm.exec) (hZ : Z.Warmed39 s.vm) (eT : T.heap = h) {a : Addr} {k : ClassId} {z j : Int32} {vs : List Value} {dv : Value} {x : Int32} (A : Arv Z h a k .char z vs dv) (hj : ¬ j < 0 ∧ j < z) (i : Nat) (hi : j.toNatClampNeg = i) (hl : i < vs.length) (hd : decode c.code pc = .ok (.castore, 1))
    (q : ∀ T' h', Stand p l e R s m args below meth c T' (locs ++ [⟨a, j.toNatClampNeg⟩]) cells slots → T'.heap = h' → Wr h h' a j.toNatClampNeg (.int (nar .char x)) → Arv Z h' a k .char z (vs.set i (.int (nar .char x))) dv → Go p e below T' (mkF m (pc + 1) Ls rest) Q) : Go p e below T (mkF m pc Ls (.int x :: .int j :: .ref a :: rest)) Q := by
  obtain ⟨cl, Ar, q1, S, N, H, G⟩ := A
  have hin := inb_of S hj
  obtain ⟨T', h', X', e', W, st⟩ := stC X hx hZ eT Ar (j := j) hin (g := mkF m pc Ls (.int x :: .int j :: .ref a :: rest)) rfl rfl hd
  exact Go.of st (q T' h' X' e' W (Arv.set Ar q1 S N H G (fits_nar_char x) W i hi hl))
theorem o_bastore (X : Stand p l e R s m args below meth c T locs cells slots) (hx : p.tables.exec = Jvm.exec) (hZ : Z.Warmed39 s.vm) (eT : T.heap = h) {a : Addr} {k : ClassId} {z j : Int32} {vs : List Value} {dv : Value} {x : Int32} (A : Arv Z h a k .byte z vs dv) (hj : ¬ j < 0 ∧ j < z) (i : Nat) (hi : j.toNatClampNeg = i) (hl : i < vs.length) (hd : decode c.code pc = .ok (.bastore, 1))
    (q : ∀ T' h', Stand p l e R s m args below meth c T' (locs ++ [⟨a, j.toNatClampNeg⟩]) cells slots → T'.heap = h' → Wr h h' a j.toNatClampNeg (.int x.toInt8.toInt32) → Arv Z h' a k .byte z (vs.set i (.int x.toInt8.toInt32)) dv → Go p e below T' (mkF m (pc + 1) Ls rest) Q) : Go p e below T (mkF m pc Ls (.int x :: .int j :: .ref a :: rest)) Q := by
  obtain ⟨cl, Ar, q1, S, N, H, G⟩ := A
  have hin := inb_of S hj
  obtain ⟨T', h', X', e', W, st⟩ := stB X hx hZ eT Ar (j := j) hin (g := mkF m pc Ls (.int x :: .int j :: .ref a :: rest)) rfl rfl hd
  exact Go.of st (q T' h' X' e' W (Arv.set Ar q1 S N H G (fits_nar_byte x) W i hi hl))
theorem o_caload (X : Stand p l e R s m args below meth c T locs cells slots) (hx : p.tables.exec = Jvm.exec) (hZ : Z.Warmed39 s.vm) (eT : T.heap = h) {a : Addr} {k : ClassId} {z j : Int32} {vs : List Value} {dv v : Value} (A : Arv Z h a k .char z vs dv) (hj : ¬ j < 0 ∧ j < z) (hv : vs.getD j.toNatClampNeg dv = v) (hd : decode c.code pc = .ok (.caload, 1)) (q : Go p e below T (mkF m (pc + 1) Ls (v :: rest)) Q) : Go p e below T (mkF m pc Ls (.int j :: .ref a :: rest)) Q := by
  obtain ⟨cl, Ar, q1, S, N, H, G⟩ := A
  have hin := inb_of S hj
  exact Go.of (fun t k => X.caload hx (j := j) (v := v) (by rw [eT]; exact Ar.1) (State.isArrayOf_alike hZ.alike Ar.2.1) Ar.2.2 hin (H.at hin hv) (g := mkF m pc Ls (.int j :: .ref a :: rest)) rfl rfl hd t k) q
theorem o_baload (X : Stand p l e R s m args below meth c T locs cells slots) (hx : p.tables.exec = Jvm.exec) (hZ : Z.Warmed39 s.vm) (eT : T.heap = h) {a : Addr} {k : ClassId} {z j : Int32} {vs : List Value} {dv v : Value} (A : Arv Z h a k .byte z vs dv) (hj : ¬ j < 0 ∧ j < z) (hv : vs.getD j.toNatClampNeg dv = v) (hd : decode c.code pc = .ok (.baload, 1)) (q : Go p e below T (mkF m (pc + 1) Ls (v :: rest)) Q) : Go p e below T (mkF m pc Ls (.int j :: .ref a :: rest)) Q := by
  obtain ⟨cl, Ar, q1, S, N, H, G⟩ := A
  have hin := inb_of S hj
  exact Go.of (fun t k => X.baloadBytes hx (j := j) (v := v) (by rw [eT]; exact Ar.1) (State.isArrayOf_alike hZ.alike Ar.2.1) Ar.2.2 hin (H.at hin hv) (g := mkF m pc Ls (.int j :: .ref a :: rest)) rfl rfl hd t k) q
theorem o_arraylength (X : Stand p l e R s m args below meth c T locs cells slots) (hx : p.tables.exec = Jvm.exec) (hZ : Z.Warmed39 s.vm) (eT : T.heap = h) {a : Addr} {k : ClassId} {z : Int32} {vs : List Value} {dv : Value} {ty : FieldType} (A : Arv Z h a k ty z vs dv) (hd : decode c.code pc = .ok (.arraylength, 1)) (q : Go p e below T (mkF m (pc + 1) Ls (.int z :: rest)) Q) : Go p e below T (mkF m pc Ls (.ref a :: rest)) Q := by
  obtain ⟨cl, Ar, q1, S, N, H, G⟩ := A
  refine Go.of (fun t k => X.arraylength hx (by rw [eT]; exact Ar.1) (State.isArrayOf_alike hZ.alike Ar.2.1) (g := mkF m pc Ls (.ref a :: rest)) rfl rfl hd t k) ?_
  rw [len_of S N]; exact q
def Lv (s : State) (Qc : Option Value → Heap → List Loc → Prop) (C S : Nat) (o : Outcome) (t : State) : Prop := ∃ v L, o = .returned v ∧ Qc v t.heap L ∧ FrameEnd s o t L C S
abbrev Ct (l : Launch) (Z : State) (y : MethodName) (bytes : ByteArray) (maxL : Nat) (ret : Option FieldType) (rm : Room) (ws : List Jvm.Cond) (as : Array Value) (h0 : Heap) (Qc : Option Value → Heap → List Loc → Prop) : Prop := MetFree l y (head1 (Jvm.Cond.code y bytes maxL ret :: ws) rm) (fun a U => a = as ∧ Z.Warmed39 U.vm ∧ U.heap = h0) (fun _ _ _ _ _ => True) (fun _ U o U' => ∃ v L, o = .returned v ∧ Qc v U'.heap L ∧ FrameEnd U o U' L rm.cells rm.slots)
theorem Ct.mono {y : MethodName} {bytes : ByteArray} {maxL : Nat} {ret : Option FieldType} {rm : Room} {ws : List Jvm.Cond} {as : Array Value} {Q1 Q2 : Option Value → Heap → List Loc → Prop} (k : Ct l Z y bytes maxL ret rm ws as h0 Q1) (w : ∀ v h L, Q1 v h L → Q2 v h L) : Ct l Z y bytes maxL ret rm ws as h0 Q2 := by
  intro p e ha hc hk s m args below hf happ hP hK
  obtain ⟨n, o, h1, h2, h3, v, L, h4, h5, h6⟩ := k p e ha hc hk s m args below hf happ hP hK
  exact ⟨n, o, h1, h2, h3, v, L, h4, w _ _ _ h5, h6⟩
theorem o_body {y : MethodName} {bytes : ByteArray} {maxL : Nat} {ret : Option FieldType} {rm : Room} {ws : List Jvm.Cond} {as : Array Value} {Qc : Option Value → Heap → List Loc → Prop} (hpl : plainFor y = true)
    (body : ∀ (p : Program) (e : Env) (s : State) (m : MethodId) (below : List Frame) (meth : Method) (c : Code) (s₁ : State), Stand p l e rm s m as below meth c s₁ [] 0 0 → p.tables.exec = Jvm.exec → c.code = bytes → c.maxLocals = maxL → meth.sig.returnType = ret → meth.locks = false → s.vm.findClass y.cls = some m.cls → meth.name = y.name → Z.Warmed39 s.vm → s₁.heap = h0 → Go p e below s₁ (entryFrame m as maxL) (Lv s Qc rm.cells rm.slots)) :
    Ct l Z y bytes maxL ret rm ws as h0 Qc := by
  refine MetFree.of_bodySF hpl hisR ?_
  intro p e s m args below meth c s₁ Bd hml0 hP hK
  obtain ⟨rfl, hZ, hh⟩ := hP
  exact body p e s m below meth c s₁ (Stand.of_body Bd) Bd.exec Bd.bytes hml0 Bd.returns Bd.notSynchronized (findClass_of_methodNamed Bd.named) (name_of_methodNamed Bd.named Bd.method).1 hZ (by rw [← hh, Bd.state]; rfl)
theorem o_top {g g' : JFrame} (q : g = g') (k : Go p e below T g' Q) : Go p e below T g Q := q ▸ k
theorem o_retV (X : Stand p l e R s m args below meth c T locs cells slots) (hx : p.tables.exec = Jvm.exec) {Qc : Option Value → Heap → List Loc → Prop} {C S : Nat} {w : Value} {t : FieldType} {i : Instr} (hret : meth.sig.returnType = some t) (hlk : meth.locks = false) (hn : narrow t w = w)
    (hi : (i = .ireturn ∧ (t = .int ∨ t = .boolean ∨ t = .byte ∨ t = .char ∨ t = .short) ∧ ∃ z, w = .int z) ∨ (i = .lreturn ∧ t = .long ∧ ∃ z, w = .long z) ∨ (i = .dreturn ∧ t = .double ∧ ∃ z, w = .double z) ∨ (i = .freturn ∧ t = .float ∧ ∃ z, w = .float z) ∨ (i = .areturn ∧ t.isReference = true ∧ w.isRef = true))
    (hd : decode c.code pc = .ok (i, 1)) (eT : T.heap = h) (q : Qc (some w) h locs) (hC : cells ≤ C) (hS : slots ≤ S) : Go p e below T (mkF m pc Ls (w :: rest)) (Lv s Qc C S) := by
  obtain ⟨fs, hr, hrun, hended, hW, hsame⟩ := X.leave (v := some w) (fun h => by rw [hret] at h; cases h) hlk
  refine ⟨_, _, retOut X hx hret hn hi hd hr, hrun, hended, some w, locs, rfl, ?_, ⟨_, rfl⟩, hW, hsame.mono hC hS⟩
  show Qc (some w) T.heap locs
  rw [eT]; exact q
theorem o_retI (X : Stand p l e R s m args below meth c T locs cells slots) (hx : p.tables.exec = Jvm.exec) {Qc : Option Value → Heap → List Loc → Prop} {C S : Nat} {z : Int32} (hret : meth.sig.returnType = some .int) (hlk : meth.locks = false) (hd : decode c.code pc = .ok (.ireturn, 1)) (eT : T.heap = h) (hC : cells ≤ C) (hS : slots ≤ S) (q : Qc (some (.int z)) h locs) : Go p e below T (mkF m pc Ls (.int z :: rest)) (Lv s Qc C S) := o_retV X hx hret hlk rfl (Or.inl ⟨rfl, Or.inl rfl, z, rfl⟩) hd eT q hC hS
theorem o_retA (X : Stand p l e R s m args below meth c T locs cells slots) (hx : p.tables.exec = Jvm.exec) {Qc : Option Value → Heap → List Loc → Prop} {C S : Nat} {w : Value} {t : FieldType} (hret : meth.sig.returnType = some t) (hlk : meth.locks = false) (ht : t.isReference = true) (hw : w.isRef = true) (hd : decode c.code pc = .ok (.areturn, 1)) (eT : T.heap = h) (hC : cells ≤ C) (hS : slots ≤ S) (q : Qc (some w) h locs) : Go p e below T (mkF m pc Ls (w :: rest)) (Lv s Qc C S) := o_retV X hx hret hlk (by rcases ref_cases hw with rfl | ⟨a, rfl⟩ <;> cases t <;> first | rfl | (cases ht; done)) (Or.inr (Or.inr (Or.inr (Or.inr ⟨rfl, ht, hw⟩)))) hd eT q hC hS
theorem o_retN (X : Stand p l e R s m args below meth c T locs cells slots) (hx : p.tables.exec = Jvm.exec) {Qc : Option Value → Heap → List Loc → Prop} {C S : Nat} {z : Int32} (t : FieldType) (hret : meth.sig.returnType = some t) (hlk : meth.locks = false) (ht : t = .boolean ∨ t = .byte ∨ t = .char ∨ t = .short) (hd : decode c.code pc = .ok (.ireturn, 1)) (eT : T.heap = h) (hC : cells ≤ C) (hS : slots ≤ S) (q : Qc (some (.int (nar t z))) h locs) : Go p e below T (mkF m pc Ls (.int z :: rest)) (Lv s Qc C S) := by
  obtain ⟨fs, hr, hrun, hended, hW, hsame⟩ := X.leave (v := some (.int (nar t z))) (fun h => by rw [hret] at h; cases h) hlk
  refine ⟨_, _, retN X hx hret ht hd hr, hrun, hended, some (.int (nar t z)), locs, rfl, ?_, ⟨_, rfl⟩, hW, hsame.mono hC hS⟩
  show Qc _ T.heap locs
  rw [eT]; exact q
theorem o_ret0 (X : Stand p l e R s m args below meth c T locs cells slots) (hx : p.tables.exec = Jvm.exec) {Qc : Option Value → Heap → List Loc → Prop} {C S : Nat} (hret : meth.sig.returnType = none) (hlk : meth.locks = false) (hd : decode c.code pc = .ok (.return_, 1)) (eT : T.heap = h) (hC : cells ≤ C) (hS : slots ≤ S) (q : Qc none h locs) : Go p e below T (mkF m pc Ls []) (Lv s Qc C S) := by
  obtain ⟨fs, hr, hrun, hended, hW, hsame⟩ := X.leave (v := none) (fun _ => rfl) hlk
  refine ⟨_, _, X.returnOut hx hret hd hr, hrun, hended, none, locs, rfl, ?_, ⟨_, rfl⟩, hW, hsame.mono hC hS⟩
  show Qc none T.heap locs
  rw [eT]; exact q
theorem o_callS (X : Stand p l e R s m args below meth c T locs cells slots) (hx : p.tables.exec = Jvm.exec) (hZ : Z.Warmed39 s.vm) {y : MethodName} {bytes : ByteArray} {maxL : Nat} {ret : Option FieldType} {rm : Room} {as : Array Value} {Qc : Option Value → Heap → List Loc → Prop} {own : String} {index W : Nat} {argsL : List Value} (hown : s.vm.findClass own = some m.cls) (wl : (Cond.methodLink own index y).before a0 Z = true) (wst : (Cond.static y).before a0 Z = true) (wz : (Cond.initialized y.cls).before a0 Z = true) (wc : (Cond.code y bytes maxL ret).before a0 Z = true) (hy : y.cls ≠ "java/lang/invoke/MethodHandle" ∧ y.cls ≠ "java/lang/invoke/VarHandle") (hM : Ct l Z y bytes maxL ret rm [] as h Qc) (eT : T.heap = h) (hsize : Ls.size = c.maxLocals) (hlen : ∀ sig, parseMethodDescriptor y.desc = some sig → argsL.length = sig.parameters.length) (has : argsL.toArray = as) {st : List Value} (hst : st = argsL.reverse ++ rest) (hW : (rest.map fun v => v.category).sum ≤ W) (hd : decode c.code pc = .ok (.invokestatic index, 3)) (hf : rm.frames + 1 ≤ R.frames) (hl : W + (maxL + 11) + rm.locals ≤ R.locals) (hc : cells + rm.cells ≤ R.cells) (hs : slots + rm.slots ≤ R.slots)
    (q : ∀ v T' h' L, Stand p l e R s m args below meth c T' (locs ++ L) (cells + rm.cells) (slots + rm.slots) → T'.heap = h' → Qc v h' L → Go p e below T' (mkF m (pc + 3) Ls (v.toList ++ rest)) Q) : Go p e below T (mkF m pc Ls st) Q := by
  obtain ⟨v, vm₁, ⟨T', L', k', n'⟩, -, X', ⟨L, hQ, l1, y1, z1⟩, st'⟩ := Jvm.LawKit.callS X hx (y := y) hown (mvT hZ wl) (mvT hZ wst) (mvT hZ wz) (mvT hZ wc) hy (backOf (W := W) hM hZ wc wz hf hl) (g := mkF m pc Ls st) rfl hsize hlen hst (by show 2 * 0 + _ ≤ W; omega) hd (fun _ _ => ⟨has, eT, hc, hs⟩)
  dsimp only [Pt.U, Pt.locs, Pt.cells, Pt.slots] at X' l1 y1 z1 st' hQ
  subst l1 y1 z1
  exact Go.of st' (q v T' _ L X' rfl hQ)
theorem o_callN (X : Stand p l e R s m args below meth c T locs cells slots) (hx : p.tables.exec = Jvm.exec) (hZ : Z.Warmed39 s.vm) {y : MethodName} {bytes : ByteArray} {maxL : Nat} {rm : Room} {as : Array Value} {Qc : Option Value → Heap → List Loc → Prop} {own : String} {index W : Nat} {argsL : List Value} {a : Addr} (hy1 : y.name = "<init>") (hown : s.vm.findClass own = some m.cls) (wl : (Cond.methodLink own index y).before a0 Z = true) (wi : (Cond.instanceMethod y).before a0 Z = true) (wz : (Cond.initialized y.cls).before a0 Z = true) (wc : (Cond.code y bytes maxL none).before a0 Z = true) (hy : y.cls ≠ "java/lang/invoke/MethodHandle" ∧ y.cls ≠ "java/lang/invoke/VarHandle") (hM : Ct l Z y bytes maxL none rm [] as h Qc) (eT : T.heap = h) (hsize : Ls.size = c.maxLocals) (hlen : ∀ sig, parseMethodDescriptor y.desc = some sig → argsL.length = sig.parameters.length) (has : (.ref a :: argsL).toArray = as) {st : List Value} (hst : st = argsL.reverse ++ .ref a :: rest) (hW : (rest.map fun v => v.category).sum ≤ W) (hd : decode c.code pc = .ok (.invokespecial index, 3)) (hf : rm.frames + 1 ≤ R.frames) (hl : W + (maxL + 11) + rm.locals ≤ R.locals) (hc : cells + rm.cells ≤ R.cells) (hs : slots + rm.slots ≤ R.slots)
    (q : ∀ v T' h' L, Stand p l e R s m args below meth c T' (locs ++ L) (cells + rm.cells) (slots + rm.slots) → T'.heap = h' → Qc v h' L → Go p e below T' (mkF m (pc + 3) Ls (v.toList ++ rest)) Q) : Go p e below T (mkF m pc Ls st) Q := by
  obtain ⟨v, vm₁, ⟨T', L', k', n'⟩, -, X', ⟨L, hQ, l1, y1, z1⟩, st'⟩ := X.specialBack hx (y := y) hy1 hown (mvT hZ wl) (mvT hZ wi) (mvT hZ wc) hy (backOf (W := W) hM hZ wc wz hf hl) (g := mkF m pc Ls st) rfl hsize (Steps.refl _) (a := a) hlen hst (by show 2 * 0 + _ ≤ W; omega) hd (fun _ _ => ⟨has, eT, hc, hs⟩)
  dsimp only [Pt.U, Pt.locs, Pt.cells, Pt.slots] at X' l1 y1 z1 st' hQ
  subst l1 y1 z1
  exact Go.of (fun _ k => st'.trans k) (q v T' _ L X' rfl hQ)
theorem o_callV (X : Stand p l e R s m args below meth c T locs cells slots) (hx : p.tables.exec = Jvm.exec) (hZ : Z.Warmed39 s.vm) {y z : MethodName} {bytes : ByteArray} {maxL : Nat} {ret : Option FieldType} {rm : Room} {as : Array Value} {Qc : Option Value → Heap → List Loc → Prop} {own C : String} {index W : Nat} {argsL : List Value} {a : Addr} (hown : s.vm.findClass own = some m.cls) (wl : (Cond.methodLink own index y).before a0 Z = true) (wd : (Cond.declares y).before a0 Z = true) (hnf : NotFace s y) (wsel : (Cond.selects C y z).before a0 Z = true) (wi : (Cond.instanceMethod z).before a0 Z = true) (wz : (Cond.initialized z.cls).before a0 Z = true) (wc : (Cond.code z bytes maxL ret).before a0 Z = true) (hy : y.cls ≠ "java/lang/invoke/MethodHandle" ∧ y.cls ≠ "java/lang/invoke/VarHandle") (hM : Ct l Z z bytes maxL ret rm [] as h Qc) (eT : T.heap = h) (Ea : Exa Z h a C) (hsize : Ls.size = c.maxLocals) (hlen : ∀ sig, parseMethodDescriptor y.desc = some sig → argsL.length = sig.parameters.length) (has : (.ref a :: argsL).toArray = as) {st : List Value} (hst : st = argsL.reverse ++ .ref a :: rest) (hW : (rest.map fun v => v.category).sum ≤ W) (hd : decode c.code pc = .ok (.invokevirtual index, 3)) (hf : rm.frames + 1 ≤ R.frames) (hl : W + (maxL + 11) + rm.locals ≤ R.locals) (hc : cells + rm.cells ≤ R.cells) (hs : slots + rm.slots ≤ R.slots)
    (q : ∀ v T' h' L, Stand p l e R s m args below meth c T' (locs ++ L) (cells + rm.cells) (slots + rm.slots) → T'.heap = h' → Qc v h' L → Go p e below T' (mkF m (pc + 3) Ls (v.toList ++ rest)) Q) : Go p e below T (mkF m pc Ls st) Q := by
  obtain ⟨cq, kq, qa, qb, qc⟩ := isOf hZ eT Ea
  obtain ⟨v, vm₁, ⟨T', L', k', n'⟩, -, X', ⟨L, hQ, l1, y1, z1⟩, st'⟩ := X.virtualBack hx (y := y) (z := z) hown (mvT hZ wl) (mvT hZ wd) hnf (mvT hZ wsel) (mvT hZ wi) hy (backOf (W := W) hM hZ wc wz hf hl) qa qc (g := mkF m pc Ls st) rfl hsize (Steps.refl _) hlen hst (by show 2 * 0 + _ ≤ W; omega) hd (fun _ _ => ⟨has, eT, hc, hs⟩)
  dsimp only [Pt.U, Pt.locs, Pt.cells, Pt.slots] at X' l1 y1 z1 st' hQ
  subst l1 y1 z1
  exact Go.of (fun _ k => st'.trans k) (q v T' _ L X' rfl hQ)
theorem o_n0 {n0 : Nat} (O : Old Z n0 h) : n0 ≤ h.size := O.1 ▸ O.2.1
theorem o_keep0 {h' : Heap} (K : Keep h h' []) : Ext h h' := ⟨K.1, fun x c q => K.2.1 x c q nin0⟩
theorem o_clone (X : Stand p l e R s m args below meth c T locs cells slots) (hx : p.tables.exec = Jvm.exec) (hZ : Z.Warmed39 s.vm) {own ad : String} {index : Nat} (hown : s.vm.findClass own = some m.cls) (w1 : (Cond.methodLink own index ⟨ad, "clone", "()Ljava/lang/Object;"⟩).before a0 Z = true) (w2 : (Cond.sameMethod ad "java/lang/Object" "clone" "()Ljava/lang/Object;").before a0 Z = true) (w3 : (Cond.native ⟨"java/lang/Object", "clone", "()Ljava/lang/Object;"⟩).before a0 Z = true) (w4 : (Cond.instanceMethod ⟨"java/lang/Object", "clone", "()Ljava/lang/Object;"⟩).before a0 Z = true) (w5 : (Cond.selects ad ⟨ad, "clone", "()Ljava/lang/Object;"⟩ ⟨"java/lang/Object", "clone", "()Ljava/lang/Object;"⟩).before a0 Z = true) (w6 : (Cond.castable ad "java/lang/Cloneable").before a0 Z = true)
    (eT : T.heap = h) {a : Addr} {k : ClassId} {ty : FieldType} {z : Int32} {vs : List Value} {dv : Value} (F : Arv Z h a k ty z vs dv) (E : Exa Z h a ad) (hsize : Ls.size = c.maxLocals) (hd : decode c.code pc = .ok (.invokevirtual index, 3)) (hf : 1 ≤ R.frames) {W : Nat} (cap : Nat) (hW : (rest.map fun v => v.category).sum ≤ W) (hl : W + 14 ≤ R.locals) (hcap : z.toNatClampNeg ≤ cap) (hc : cells + 1 ≤ R.cells) (hsl : slots + cap ≤ R.slots)
    (q : ∀ T' h' b, Stand p l e R s m args below meth c T' locs (cells + 1) (slots + cap) → T'.heap = h' → h.size ≤ b → Ext h h' → Arv Z h' b k ty z vs dv → Exa Z h' b ad → Go p e below T' (mkF m (pc + 3) Ls (.ref b :: rest)) Q) : Go p e below T (mkF m pc Ls (.ref a :: rest)) Q := by
  obtain ⟨T', h', X', e', ex, A', E', st⟩ := cloneH X hx hZ hown w1 w2 w3 w4 w5 w6 eT F.arh E (g := mkF m pc Ls (.ref a :: rest)) rfl hsize rfl hd hf (W := W) (by show 2 * 0 + _ ≤ W; omega) hl hcap hc hsl
  exact Go.of st (q T' h' _ X' e' (Nat.le_refl _) ex A' E')
def BsH (Z : State) (EL : List (String × Nat)) (h0 : Heap) (s sB : State) (h : Heap) : Prop := ∃ vm0 k, sB = s.setVm vm0 ∧ s.Since vm0 k ∧ k ≤ h.size ∧ CHr Z EL s.vm h0 vm0 h
theorem BsH.start {EL : List (String × Nat)} (H : CHv Z EL s.vm h) : BsH Z EL h s s h := ⟨s.vm, 0, rfl, (State.WarmedH.refl s).since 0, Nat.zero_le _, CHr.refl H⟩
theorem BsH.chv {EL : List (String × Nat)} {sB : State} (B : BsH Z EL h0 s sB h) : CHv Z EL sB.vm h := by
  obtain ⟨vm0, k, rfl, e2, e3, e4⟩ := B; exact e4.1
theorem BsH.ext {EL : List (String × Nat)} {sB : State} {h' : Heap} (B : BsH Z EL h0 s sB h) (q : Ext h h') : BsH Z EL h0 s sB h' := by
  obtain ⟨vm0, k, e1, e2, e3, e4⟩ := B; exact ⟨vm0, k, e1, e2, Nat.le_trans e3 q.1, e4.trans (CHr.ext q e4.1)⟩
theorem BsH.wr {EL : List (String × Nat)} {sB : State} {h' : Heap} {a : Addr} {sl : Nat} {v : Value} (B : BsH Z EL h0 s sB h) (q : Wr h h' a sl v) (S : Safe Z EL sB.vm h a) : BsH Z EL h0 s sB h' := by
  obtain ⟨vm0, k, rfl, e2, e3, e4⟩ := B; exact ⟨vm0, k, rfl, e2, Nat.le_trans e3 (Nat.le_of_eq q.size.symm), e4.trans (CHr.wr q S e4.1)⟩
theorem BsH.keep {EL : List (String × Nat)} {sB : State} {h' : Heap} {ws : List Addr} (B : BsH Z EL h0 s sB h) (q : Keep h h' ws) (S : ∀ x ∈ ws, Safe Z EL sB.vm h x) : BsH Z EL h0 s sB h' := by
  obtain ⟨vm0, k, rfl, e2, e3, e4⟩ := B; exact ⟨vm0, k, rfl, e2, Nat.le_trans e3 q.1, e4.trans (CHr.keep q S e4.1)⟩
def LvH (Z : State) (EL : List (String × Nat)) (s : State) (Qc : Option Value → Heap → List Loc → Prop) (C S : Nat) (o : Outcome) (t : State) : Prop := ∃ v L, o = .returned v ∧ Qc v t.heap L ∧ CHr Z EL s.vm s.heap t.vm t.heap ∧ ReturnedEndW s o t L C S
abbrev CtH (l : Launch) (Z : State) (EL : List (String × Nat)) (y : MethodName) (bytes : ByteArray) (maxL : Nat) (ret : Option FieldType) (rm : Room) (ws : List Jvm.Cond) (as : Array Value) (h0 : Heap) (Qc : Option Value → Heap → List Loc → Prop) : Prop := MetFree l y (head1 (Jvm.Cond.code y bytes maxL ret :: ws) rm) (fun a U => a = as ∧ Z.Warmed39 U.vm ∧ U.heap = h0 ∧ CHv Z EL U.vm h0) (fun _ _ _ _ _ => True) (fun _ U o U' => ∃ v L, o = .returned v ∧ Qc v U'.heap L ∧ CHr Z EL U.vm U.heap U'.vm U'.heap ∧ ReturnedEndW U o U' L rm.cells rm.slots)
theorem o_bodyH {EL : List (String × Nat)} {y : MethodName} {bytes : ByteArray} {maxL : Nat} {ret : Option FieldType} {rm : Room} {ws : List Jvm.Cond} {as : Array Value} {Qc : Option Value → Heap → List Loc → Prop} (hpl : plainFor y = true)
    (body : ∀ (p : Program) (e : Env) (s : State) (m : MethodId) (below : List Frame) (meth : Method) (c : Code) (s₁ : State), Stand p l e rm s m as below meth c s₁ [] 0 0 → p.tables.exec = Jvm.exec → c.code = bytes → c.maxLocals = maxL → meth.sig.returnType = ret → meth.locks = false → s.vm.findClass y.cls = some m.cls → meth.name = y.name → Z.Warmed39 s.vm → s₁.heap = h0 → s.heap = h0 → CHv Z EL s.vm h0 → Go p e below s₁ (entryFrame m as maxL) (LvH Z EL s Qc rm.cells rm.slots)) :
    CtH l Z EL y bytes maxL ret rm ws as h0 Qc := by
  refine MetFree.of_bodySF hpl hisR ?_
  intro p e s m args below meth c s₁ Bd hml0 hP hK
  obtain ⟨rfl, hZ, hh, H⟩ := hP
  exact body p e s m below meth c s₁ (Stand.of_body Bd) Bd.exec Bd.bytes hml0 Bd.returns Bd.notSynchronized (findClass_of_methodNamed Bd.named) (name_of_methodNamed Bd.named Bd.method).1 hZ (by rw [← hh, Bd.state]; rfl) hh H
theorem o_retNH {EL : List (String × Nat)} {sB : State} (X : Stand p l e R sB m args below meth c T locs cells slots) (hx : p.tables.exec = Jvm.exec) {Qc : Option Value → Heap → List Loc → Prop} {C S : Nat} {z : Int32} (hZ : Z.Warmed39 sB.vm) (hEL : EW Z a0 EL) (hh : s.heap = h0) (B : BsH Z EL h0 s sB h) (t : FieldType) (hret : meth.sig.returnType = some t) (hlk : meth.locks = false) (ht : t = .boolean ∨ t = .byte ∨ t = .char ∨ t = .short) (hd : decode c.code pc = .ok (.ireturn, 1)) (eT : T.heap = h) (hC : cells ≤ C) (hS : slots ≤ S) (q : Qc (some (.int (nar t z))) h locs) : Go p e below T (mkF m pc Ls (.int z :: rest)) (LvH Z EL s Qc C S) := by
  obtain ⟨vm0, k0, rfl, hS0, hk0, hC0⟩ := B
  have hC1 := hC0.trans (CHv.at X hZ hEL hC0.1)
  obtain ⟨fs, hr, hrun, hended, hend⟩ := X.leaveW hS0 (by rw [eT]; exact hk0) (v := some (.int (nar t z))) (fun h => by rw [hret] at h; cases h) hlk
  obtain ⟨hq1, hq2, hq3, hq4⟩ := hend
  subst eT
  exact ⟨_, _, retN X hx hret ht hd hr, hrun, hended, some (.int (nar t z)), locs, rfl, q, by show CHr Z EL s.vm s.heap T.vm T.heap; rw [hh]; exact hC1, hq1, hq2, hq3, hq4.mono hC hS⟩
theorem o_ret0H {EL : List (String × Nat)} {sB : State} (X : Stand p l e R sB m args below meth c T locs cells slots) (hx : p.tables.exec = Jvm.exec) {Qc : Option Value → Heap → List Loc → Prop} {C S : Nat} (hZ : Z.Warmed39 sB.vm) (hEL : EW Z a0 EL) (hh : s.heap = h0) (B : BsH Z EL h0 s sB h) (hret : meth.sig.returnType = none) (hlk : meth.locks = false) (hd : decode c.code pc = .ok (.return_, 1)) (eT : T.heap = h) (hC : cells ≤ C) (hS : slots ≤ S) (q : Qc none h locs) : Go p e below T (mkF m pc Ls []) (LvH Z EL s Qc C S) := by
  obtain ⟨vm0, k0, rfl, hS0, hk0, hC0⟩ := B
  have hC1 := hC0.trans (CHv.at X hZ hEL hC0.1)
  obtain ⟨fs, hr, hrun, hended, hend⟩ := X.leaveW hS0 (by rw [eT]; exact hk0) (v := none) (fun _ => rfl) hlk
  obtain ⟨hq1, hq2, hq3, hq4⟩ := hend
  subst eT
  exact ⟨_, _, X.returnOut hx hret hd hr, hrun, hended, none, locs, rfl, q, by show CHr Z EL s.vm s.heap T.vm T.heap; rw [hh]; exact hC1, hq1, hq2, hq3, hq4.mono hC hS⟩
theorem o_ldcH {EL : List (String × Nat)} {sB : State} (X : Stand p l e R sB m args below meth c T locs cells slots) (hx : p.tables.exec = Jvm.exec) (hZ : Z.Warmed39 sB.vm) {own text : String} {index : Nat} (hown : sB.vm.findClass own = some m.cls) (w : (Cond.stringLink own index text).before a0 Z = true) (wS : ∀ a ∈ Bundle.stringAtoms, a.before a0 Z = true) (eT : T.heap = h) (hEL : EW Z a0 EL) (hmem : (own, index) ∈ EL) (B : BsH Z EL h0 s sB h)
    {vs : List Value} {z : Int32} (ht : (∀ c ∈ text.toList, c.toNat < 256) ∧ text.toList.map (fun c => Value.int (Jvm.Lit.byteI c.toNat.toUInt16)) = vs) (hz : ¬ z < 0) (hl : z.toNatClampNeg = vs.length) (hd : decode c.code pc = .ok (.ldc index, 2)) (n : Nat) (hn : 4 * text.toList.length ≤ n) (hbig : n ≤ 536870912) (hc : cells + 2 ≤ R.cells) (hsl : slots + (n + 4) ≤ R.slots)
    (q : ∀ sB' a T' h' b k, Stand p l e R sB' m args below meth c T' locs (cells + 2) (slots + (n + 4)) → T'.heap = h' → Ext h h' → BsH Z EL h0 s sB' h' → Z.Warmed39 sB'.vm → sB'.vm.findClass own = some m.cls → CHr Z EL sB.vm h sB'.vm h' → Exa Z h' a "java/lang/String" → Fld Z h' a "java/lang/String" "coder" "B" (.int 0) → Fld Z h' a "java/lang/String" "value" "[B" (.ref b) → Arv Z h' b k .byte z vs (.int 0) → (∀ x, Safe Z EL sB'.vm h' x → x ≠ a ∧ x ≠ b) → Go p e below T' (mkF m (pc + 2) Ls (.ref a :: rest)) Q) : Go p e below T (mkF m pc Ls rest) Q := by
  obtain ⟨vm0, k0, rfl, hS0, hk0, hC0⟩ := B
  obtain ⟨a, T', h', k1, b, k, X', e', E, S', k', hZ', hown', E1, E2, E3, E4, -, -, hC, -, Sf, st⟩ := ldcCH X hx hZ hown w wS eT hS0 hk0 hEL hmem hC0.1 ht hz hl (g := mkF m pc Ls rest) rfl hd hn hbig hc hsl
  exact Go.of st (q _ a T' h' b k X' e' E ⟨_, _, rfl, S', k', hC0.trans hC⟩ hZ' hown' hC E1 E2 E3 E4 Sf)
theorem o_callNH {EL : List (String × Nat)} {sB : State} (X : Stand p l e R sB m args below meth c T locs cells slots) (hx : p.tables.exec = Jvm.exec) (hZ : Z.Warmed39 sB.vm) {y : MethodName} {bytes : ByteArray} {maxL : Nat} {rm : Room} {as : Array Value} {Qc : Option Value → Heap → List Loc → Prop} {own : String} {index W : Nat} {argsL : List Value} {a : Addr} (hy1 : y.name = "<init>") (hown : sB.vm.findClass own = some m.cls) (hEL : EW Z a0 EL) (B : BsH Z EL h0 s sB h) (wl : (Cond.methodLink own index y).before a0 Z = true) (wi : (Cond.instanceMethod y).before a0 Z = true) (wz : (Cond.initialized y.cls).before a0 Z = true) (wc : (Cond.code y bytes maxL none).before a0 Z = true) (hy : y.cls ≠ "java/lang/invoke/MethodHandle" ∧ y.cls ≠ "java/lang/invoke/VarHandle") (hM : CtH l Z EL y bytes maxL none rm [] as h Qc) (eT : T.heap = h) (hsize : Ls.size = c.maxLocals) (hlen : ∀ sig, parseMethodDescriptor y.desc = some sig → argsL.length = sig.parameters.length) (has : (.ref a :: argsL).toArray = as) {st : List Value} (hst : st = argsL.reverse ++ .ref a :: rest) (hW : (rest.map fun v => v.category).sum ≤ W) (hd : decode c.code pc = .ok (.invokespecial index, 3)) (hf : rm.frames + 1 ≤ R.frames) (hl : W + (maxL + 11) + rm.locals ≤ R.locals) (hc : cells + rm.cells ≤ R.cells) (hs : slots + rm.slots ≤ R.slots)
    (q : ∀ sB' v T' h' L, Stand p l e R sB' m args below meth c T' (locs ++ L) (cells + rm.cells) (slots + rm.slots) → T'.heap = h' → BsH Z EL h0 s sB' h' → Z.Warmed39 sB'.vm → sB'.vm.findClass own = some m.cls → CHr Z EL sB.vm h sB'.vm h' → Qc v h' L → Go p e below T' (mkF m (pc + 3) Ls (v.toList ++ rest)) Q) : Go p e below T (mkF m pc Ls st) Q := by
  obtain ⟨vm0, k0, rfl, hS0, hk0, hC0⟩ := B
  obtain ⟨v, vm₁, ⟨T', L', k', n'⟩, -, X', hS', hgr, ⟨L, hQ, l1, y1, z1, hC1⟩, st'⟩ := X.specialBackS hx (y := y) hy1 hown (mvT hZ wl) (mvT hZ wi) (mvT hZ wc) hy (backOfSH (W := W) hM hZ wc wz hf hl hEL hC0.1) (g := mkF m pc Ls st) rfl hsize (Steps.refl _) (a := a) hlen hst (by show 2 * 0 + _ ≤ W; omega) hd (fun _ _ => ⟨has, eT, hc, hs⟩)
  dsimp only [Pt.U, Pt.locs, Pt.cells, Pt.slots] at X' hS' hgr l1 y1 z1 st' hQ hC1
  subst l1 y1 z1
  obtain ⟨X2, S2, hZ2, hown2⟩ := rebS hS0 hk0 X' hS' (by rw [← eT]; exact hgr) hZ hown
  exact Go.of (fun _ k => st'.trans k) (q _ v T' _ L X2 rfl ⟨_, _, rfl, S2, Nat.le_refl _, hC0.trans hC1⟩ hZ2 hown2 hC1 hQ)
theorem o_callVH {EL : List (String × Nat)} {sB : State} (X : Stand p l e R sB m args below meth c T locs cells slots) (hx : p.tables.exec = Jvm.exec) (hZ : Z.Warmed39 sB.vm) {y z : MethodName} {bytes : ByteArray} {maxL : Nat} {ret : Option FieldType} {rm : Room} {as : Array Value} {Qc : Option Value → Heap → List Loc → Prop} {own C : String} {index W : Nat} {argsL : List Value} {a : Addr} (hown : sB.vm.findClass own = some m.cls) (hEL : EW Z a0 EL) (B : BsH Z EL h0 s sB h) (wl : (Cond.methodLink own index y).before a0 Z = true) (wd : (Cond.declares y).before a0 Z = true) (hnf : NotFace sB y) (wsel : (Cond.selects C y z).before a0 Z = true) (wi : (Cond.instanceMethod z).before a0 Z = true) (wz : (Cond.initialized z.cls).before a0 Z = true) (wc : (Cond.code z bytes maxL ret).before a0 Z = true) (hy : y.cls ≠ "java/lang/invoke/MethodHandle" ∧ y.cls ≠ "java/lang/invoke/VarHandle") (hM : CtH l Z EL z bytes maxL ret rm [] as h Qc) (eT : T.heap = h) (Ea : Exa Z h a C) (hsize : Ls.size = c.maxLocals) (hlen : ∀ sig, parseMethodDescriptor y.desc = some sig → argsL.length = sig.parameters.length) (has : (.ref a :: argsL).toArray = as) {st : List Value} (hst : st = argsL.reverse ++ .ref a :: rest) (hW : (rest.map fun v => v.category).sum ≤ W) (hd : decode c.code pc = .ok (.invokevirtual index, 3)) (hf : rm.frames + 1 ≤ R.frames) (hl : W + (maxL + 11) + rm.locals ≤ R.locals) (hc : cells + rm.cells ≤ R.cells) (hs : slots + rm.slots ≤ R.slots)
    (q : ∀ sB' v T' h' L, Stand p l e R sB' m args below meth c T' (locs ++ L) (cells + rm.cells) (slots + rm.slots) → T'.heap = h' → BsH Z EL h0 s sB' h' → Z.Warmed39 sB'.vm → sB'.vm.findClass own = some m.cls → CHr Z EL sB.vm h sB'.vm h' → Qc v h' L → Go p e below T' (mkF m (pc + 3) Ls (v.toList ++ rest)) Q) : Go p e below T (mkF m pc Ls st) Q := by
  obtain ⟨vm0, k0, rfl, hS0, hk0, hC0⟩ := B
  obtain ⟨cq, kq, qa, qb, qc⟩ := isOf hZ eT Ea
  obtain ⟨v, vm₁, ⟨T', L', k', n'⟩, -, X', hS', hgr, ⟨L, hQ, l1, y1, z1, hC1⟩, st'⟩ := X.virtualBackS hx (y := y) (z := z) hown (mvT hZ wl) (mvT hZ wd) hnf (mvT hZ wsel) (mvT hZ wi) hy (backOfSH (W := W) hM hZ wc wz hf hl hEL hC0.1) qa qc (g := mkF m pc Ls st) rfl hsize (Steps.refl _) hlen hst (by show 2 * 0 + _ ≤ W; omega) hd (fun _ _ => ⟨has, eT, hc, hs⟩)
  dsimp only [Pt.U, Pt.locs, Pt.cells, Pt.slots] at X' hS' hgr l1 y1 z1 st' hQ hC1
  subst l1 y1 z1
  obtain ⟨X2, S2, hZ2, hown2⟩ := rebS hS0 hk0 X' hS' (by rw [← eT]; exact hgr) hZ hown
  exact Go.of (fun _ k => st'.trans k) (q _ v T' _ L X2 rfl ⟨_, _, rfl, S2, Nat.le_refl _, hC0.trans hC1⟩ hZ2 hown2 hC1 hQ)
theorem o_decl {y : MethodName} {bytes : ByteArray} {maxL : Nat} {ret : Option FieldType} (wi : (Cond.instanceMethod y).before a0 Z = true) (wc : (Cond.code y bytes maxL ret).before a0 Z = true) : (Cond.declares y).before a0 Z = true := by
  obtain ⟨mk, methM, hnamed, hmethM, hstM, habM⟩ := Cond.instanceMethod_spec wi
  obtain ⟨m', cM, q1, -, -, -, -, -, -, hsig⟩ := Cond.code_spec hnamed wc
  cases hmethM.symm.trans q1
  simp [Cond.before, Cond.holds, Cond.value, hnamed, hmethM, hstM, hsig]
theorem o_nfC {y y' z : MethodName} {C : String} (hc : z.cls = y.cls) (h : (Cond.selects C y' z).before a0 s = true) : NotFace s y := fun r0 h0 => by
  obtain ⟨c2, r2, m2, q1, q2, q3, q4, kP, hkP, hkPi⟩ := Cond.selects_spec h
  have e1 := findClass_of_methodNamed q3
  have e2 := findClass_of_methodNamed h0
  rw [hc] at e1
  have e3 := Option.some.inj (e1.symm.trans e2)
  exact ⟨kP, by rw [← e3]; exact hkP, hkPi⟩
theorem o_samem {y : MethodName} (wi : (Cond.instanceMethod y).before a0 Z = true) (nf : NotFace Z y) (hy : y.cls ≠ "java/lang/invoke/MethodHandle" ∧ y.cls ≠ "java/lang/invoke/VarHandle") : (Cond.sameMethod y.cls y.cls y.name y.desc).before a0 Z = true := by
  obtain ⟨mk, methM, hnamed, -⟩ := Cond.instanceMethod_spec wi
  obtain ⟨kr, hkr, hni⟩ := nf mk hnamed
  have hf := State.methodFound?_of_named hnamed hy
  have hc := findClass_of_methodNamed hnamed
  have hn : Z.methodNamed? ⟨y.cls, y.name, y.desc⟩ = some mk := hnamed
  simp [Cond.before, Cond.holds, Cond.value, hc, hf, hn, hkr, hni]
theorem o_callSu (X : Stand p l e R s m args below meth c T locs cells slots) (hx : p.tables.exec = Jvm.exec) (hZ : Z.Warmed39 s.vm) {y : MethodName} {bytes : ByteArray} {maxL : Nat} {ret : Option FieldType} {rm : Room} {as : Array Value} {Qc : Option Value → Heap → List Loc → Prop} {own K : String} {index W : Nat} {argsL : List Value} {a : Addr} (hown : s.vm.findClass own = some m.cls) (wl : (Cond.methodLink own index y).before a0 Z = true) (wsm : (Cond.sameMethod y.cls y.cls y.name y.desc).before a0 Z = true) (wi : (Cond.instanceMethod y).before a0 Z = true) (wsu : (Cond.superclass own y.cls).before a0 Z = true) (wz : (Cond.initialized y.cls).before a0 Z = true) (wc : (Cond.code y bytes maxL ret).before a0 Z = true) (hn : y.name ≠ "<init>") (hM : Ct l Z y bytes maxL ret rm [] as h Qc) (eT : T.heap = h) (Ia : Ins Z h a K true) (hsize : Ls.size = c.maxLocals) (hlen : ∀ sig, parseMethodDescriptor y.desc = some sig → argsL.length = sig.parameters.length) (has : (.ref a :: argsL).toArray = as) {st : List Value} (hst : st = argsL.reverse ++ .ref a :: rest) (hW : (rest.map fun v => v.category).sum ≤ W) (hd : decode c.code pc = .ok (.invokespecial index, 3)) (hf : rm.frames + 1 ≤ R.frames) (hl : W + (maxL + 11) + rm.locals ≤ R.locals) (hc : cells + rm.cells ≤ R.cells) (hs : slots + rm.slots ≤ R.slots)
    (q : ∀ v T' h' L, Stand p l e R s m args below meth c T' (locs ++ L) (cells + rm.cells) (slots + rm.slots) → T'.heap = h' → Qc v h' L → Go p e below T' (mkF m (pc + 3) Ls (v.toList ++ rest)) Q) : Go p e below T (mkF m pc Ls st) Q := by
  obtain ⟨v, vm₁, ⟨T', L', k', n'⟩, -, X', ⟨L, hQ, l1, y1, z1⟩, st'⟩ := superBack X hx hZ (y := y) hown wl wsm wi wsu hn (backOf (W := W) hM hZ wc wz hf hl) eT Ia (g := mkF m pc Ls st) rfl hsize wc hlen hst (by show 2 * 0 + _ ≤ W; omega) hd (fun _ _ => ⟨has, eT, hc, hs⟩)
  dsimp only [Pt.U, Pt.locs, Pt.cells, Pt.slots] at X' l1 y1 z1 st' hQ
  subst l1 y1 z1
  exact Go.of (fun _ k => st'.trans k) (q v T' _ L X' rfl hQ)
theorem o_shl0 (m : Int32) : m <<< ((0 : Int32) &&& 31) = m := by rw [show ((0 : Int32) &&& 31) = 0 by decide]; simp
theorem o_shr0 (m : Int32) : m >>> ((0 : Int32) &&& 31) = m := by rw [show ((0 : Int32) &&& 31) = 0 by decide]; simp
theorem o_all {P : Int32 → Prop} {L : List Int32} {z : Int32} (hz : z ∈ L) (h : ∀ y ∈ L, P y) : P z := h z hz
def Byt (Z : State) (h : Heap) (a : Addr) (z : Int32) : Prop := ∃ (k : ClassId) (vs : List Value), vs.length = z.toNatClampNeg ∧ Arv Z h a k .byte z vs (.int 0)
theorem Byt.lt {a : Addr} {z : Int32} (F : Byt Z h a z) : a < h.size := by obtain ⟨k, vs, q, A⟩ := F; exact A.lt
theorem Byt.ext {a : Addr} {z : Int32} {h' : Heap} (F : Byt Z h a z) (E : Ext h h') : Byt Z h' a z := by obtain ⟨k, vs, q, A⟩ := F; exact ⟨k, vs, q, A.ext E⟩
theorem Byt.other {a b : Addr} {z : Int32} {h' : Heap} {sl : Nat} {v : Value} (F : Byt Z h b z) (W : Wr h h' a sl v) (n : b ≠ a) : Byt Z h' b z := by obtain ⟨k, vs, q, A⟩ := F; exact ⟨k, vs, q, A.other W n⟩
theorem Byt.keep {a : Addr} {z : Int32} {h' : Heap} {ws : List Addr} (F : Byt Z h a z) (K : Keep h h' ws) (n : a ∉ ws) : Byt Z h' a z := by obtain ⟨k, vs, q, A⟩ := F; exact ⟨k, vs, q, A.keep K n⟩
theorem Byt.of {a : Addr} {z : Int32} {k : ClassId} {vs : List Value} (A : Arv Z h a k .byte z vs (.int 0)) (q : vs.length = z.toNatClampNeg) : Byt Z h a z := ⟨k, vs, q, A⟩
theorem Byt.ns {a : Addr} {z : Int32} (F : Byt Z h a z) : ∀ cell : Cell, h[a]? = some cell → cell.vm.isStatics = false := by obtain ⟨k, vs, q, A⟩ := F; exact A.nostat
theorem o_lenB (X : Stand p l e R s m args below meth c T locs cells slots) (hx : p.tables.exec = Jvm.exec) (hZ : Z.Warmed39 s.vm) {a : Addr} {z : Int32} (eT : T.heap = h) (F : Byt Z h a z) (hd : decode c.code pc = .ok (.arraylength, 1)) (q : Go p e below T (mkF m (pc + 1) Ls (.int z :: rest)) Q) : Go p e below T (mkF m pc Ls (.ref a :: rest)) Q := by
  obtain ⟨k, vs, q1, A⟩ := F; exact o_arraylength X hx hZ eT A hd q
theorem o_newB (X : Stand p l e R s m args below meth c T locs cells slots) (hx : p.tables.exec = Jvm.exec) (hZ : Z.Warmed39 s.vm) (w : (Cond.arrayClass .byte).before a0 Z = true) (eT : T.heap = h) (hd : decode c.code pc = .ok (.newarray .byte, 2)) {n : Int32} (hn : ¬ n < 0) (cap : Nat) (hcap : n.toNatClampNeg ≤ cap) (hb : cap * 8 ≤ 536870912) (hc : cells + 1 ≤ R.cells) (hl : slots + cap ≤ R.slots)
    (q : ∀ T' h' a, Stand p l e R s m args below meth c T' locs (cells + 1) (slots + cap) → T'.heap = h' → h.size ≤ a → Ext h h' → Byt Z h' a n → Exa Z h' a "[B" → Go p e below T' (mkF m (pc + 2) Ls (.ref a :: rest)) Q) : Go p e below T (mkF m pc Ls (.int n :: rest)) Q := by
  obtain ⟨cA, kA, comp, h1, h2, h3, X', st⟩ := X.newarrayPrim hx (atype := .byte) (mvA hZ w) (g := mkF m pc Ls (.int n :: rest)) rfl hd rfl hn (Nat.le_trans (Nat.mul_le_mul hcap (by decide : componentBytes (newarray.typeOf .byte) ≤ 8)) hb) hc (Nat.le_trans (Nat.add_le_add_left hcap _) hl)
  subst eT
  rw [hZ.alike.findClass] at h1
  obtain ⟨kZ, z1, -⟩ := Vm.findClass_spec h1
  obtain ⟨k', z2, z3⟩ := hZ.alike.2.2 _ _ z1
  cases h2.symm.trans z2
  have A : Arr Z (T.heap.push (newA cA (newarray.typeOf .byte) n)) T.heap.size (newA cA (newarray.typeOf .byte) n) (newarray.typeOf .byte) := ⟨by simp [newA], ⟨by simp [newA], kZ, z1, comp, by rw [← h3, z3]⟩, by simp [newA]⟩
  have V : Arv Z (T.heap.push (newA cA (newarray.typeOf .byte) n)) T.heap.size cA .byte n ([] ++ List.replicate n.toNatClampNeg (.int 0)) (.int 0) := (Arv.new A hn).pad (pad_rep [] (.int 0) n.toNatClampNeg)
  have E : Ext T.heap (T.heap.push (newA cA (newarray.typeOf .byte) n)) := by
    refine ⟨by simp, fun a c h => ?_⟩
    rw [Array.getElem?_push]
    split
    · rename_i h'; subst h'; simp at h
    · exact h
  exact Go.of st (q _ _ T.heap.size (X'.more (Nat.le_refl _) (Nat.add_le_add_left hcap _)) rfl (Nat.le_refl _) E ⟨cA, _, by simp, V⟩ (exa_arr A h1 (by simp [newA])))
theorem o_cpB (X : Stand p l e R s m args below meth c T locs cells slots) (hx : p.tables.exec = Jvm.exec) (hZ : Z.Warmed39 s.vm) {own : String} {index : Nat} (hown : s.vm.findClass own = some m.cls) (w1 : (Cond.methodLink own index Jvm.Stand.acN).before a0 Z = true) (w2 : (Cond.native Jvm.Stand.acN).before a0 Z = true) (w3 : (Cond.static Jvm.Stand.acN).before a0 Z = true) (w4 : (Cond.initialized "java/lang/System").before a0 Z = true) (eT : T.heap = h) {a b : Addr} {z z' sp dp nn : Int32} (A : Byt Z h a z) (B : Byt Z h b z') (h1 : ¬ sp < 0) (h2 : ¬ dp < 0) (h3 : ¬ nn < 0) (h4 : sp.toNatClampNeg + nn.toNatClampNeg ≤ z.toNatClampNeg) (h5 : dp.toNatClampNeg + nn.toNatClampNeg ≤ z'.toNatClampNeg) {n0 : Nat} (N : Fr n0 locs) (ge : n0 ≤ b) (hsize : Ls.size = c.maxLocals) (hd : decode c.code pc = .ok (.invokestatic index, 3)) (hf : 1 ≤ R.frames) {W : Nat} (hW : (rest.map fun v => v.category).sum ≤ W) (hlo : W + (nativeFrameWords "java/lang/System" "arraycopy" 5 + 11) ≤ R.locals)
    (q : ∀ T' h' L, Stand p l e R s m args below meth c T' L cells slots → T'.heap = h' → Fr n0 L → Keep h h' [b] → Byt Z h' b z' → Go p e below T' (mkF m (pc + 3) Ls rest) Q) : Go p e below T (mkF m pc Ls (.int nn :: .int dp :: .ref b :: .int sp :: .ref a :: rest)) Q := by
  obtain ⟨k, vs, l1, A⟩ := A
  obtain ⟨k', vd, l2, B⟩ := B
  obtain ⟨T', h', L, X', e', N', K, V, st⟩ := cpA X hx hZ hown w1 w2 w3 w4 eT A B (Or.inl ⟨rfl, rfl⟩) h1 h2 h3 h4 h5 rfl (by rw [l2]; exact h5) N ge (g := mkF m pc Ls (.int nn :: .int dp :: .ref b :: .int sp :: .ref a :: rest)) rfl hsize rfl hd hf (W := W) (by show 2 * 0 + _ ≤ W; omega) hlo
  exact Go.of st (q T' h' L X' e' N' K ⟨k', _, by simp only [List.length_append, List.length_take, List.length_drop, List.length_map, List.length_range, l2]; omega, V⟩)
theorem o_basB (X : Stand p l e R s m args below meth c T locs cells slots) (hx : p.tables.exec = Jvm.exec) (hZ : Z.Warmed39 s.vm) {a : Addr} {z j x : Int32} (eT : T.heap = h) (F : Byt Z h a z) (hj : ¬ j < 0 ∧ j < z) (i : Nat) (hi : j.toNatClampNeg = i) (hlt : i < z.toNatClampNeg) (hd : decode c.code pc = .ok (.bastore, 1))
    (q : ∀ T' h', Stand p l e R s m args below meth c T' (locs ++ [⟨a, i⟩]) cells slots → T'.heap = h' → Keep h h' [a] → Byt Z h' a z → Go p e below T' (mkF m (pc + 1) Ls rest) Q) : Go p e below T (mkF m pc Ls (.int x :: .int j :: .ref a :: rest)) Q := by
  obtain ⟨k, vs, l1, A⟩ := F
  exact o_bastore X hx hZ eT A hj i hi (by rw [l1]; exact hlt) hd fun T' h' X' e' W V => q T' h' (by subst hi; exact X') e' (Keep.of_wr W) ⟨k, _, by rw [List.length_set]; exact l1, V⟩
abbrev CtK (l : Launch) (Z : State) (EL : List (String × Nat)) (y : MethodName) (bytes : ByteArray) (maxL : Nat) (ret : Option FieldType) (rm : Room) (ws : List Jvm.Cond) (as : Array Value) (h0 : Heap) (Qc : Option Value → Heap → List Loc → Prop) : Prop := MetFree l y (head1 (Jvm.Cond.code y bytes maxL ret :: ws) rm) (fun a U => a = as ∧ Z.Warmed39 U.vm ∧ U.heap = h0 ∧ CHv Z EL U.vm h0) (fun _ _ bl s _ => s.vm.MethodsKnown ∧ s.vm.FramesKnown bl) (fun _ U o U' => ∃ v L, o = .returned v ∧ Qc v U'.heap L ∧ CHr Z EL U.vm U.heap U'.vm U'.heap ∧ ReturnedEndW U o U' L rm.cells rm.slots)
theorem o_bodyK {EL : List (String × Nat)} {y : MethodName} {bytes : ByteArray} {maxL : Nat} {ret : Option FieldType} {rm : Room} {ws : List Jvm.Cond} {as : Array Value} {Qc : Option Value → Heap → List Loc → Prop} (hpl : plainFor y = true)
    (body : ∀ (p : Program) (e : Env) (s : State) (m : MethodId) (below : List Frame) (meth : Method) (c : Code) (s₁ : State), Stand p l e rm s m as below meth c s₁ [] 0 0 → p.tables.exec = Jvm.exec → c.code = bytes → c.maxLocals = maxL → meth.sig.returnType = ret → meth.locks = false → s.vm.findClass y.cls = some m.cls → meth.name = y.name → Z.Warmed39 s.vm → s₁.heap = h0 → s.heap = h0 → CHv Z EL s.vm h0 → s.vm.MethodsKnown → s.vm.FramesKnown below → Go p e below s₁ (entryFrame m as maxL) (LvH Z EL s Qc rm.cells rm.slots)) :
    CtK l Z EL y bytes maxL ret rm ws as h0 Qc := by
  refine MetFree.of_bodySF hpl hisR ?_
  intro p e s m args below meth c s₁ Bd hml0 hP hK
  obtain ⟨rfl, hZ, hh, H⟩ := hP
  exact body p e s m below meth c s₁ (Stand.of_body Bd) Bd.exec Bd.bytes hml0 Bd.returns Bd.notSynchronized (findClass_of_methodNamed Bd.named) (name_of_methodNamed Bd.named Bd.method).1 hZ (by rw [← hh, Bd.state]; rfl) hh H hK.1 hK.2
theorem o_callNK {EL : List (String × Nat)} {sB : State} (X : Stand p l e R sB m args below meth c T locs cells slots) (hx : p.tables.exec = Jvm.exec) (hZ : Z.Warmed39 sB.vm) {y : MethodName} {bytes : ByteArray} {maxL : Nat} {rm : Room} {as : Array Value} {Qc : Option Value → Heap → List Loc → Prop} {own : String} {index W : Nat} {argsL : List Value} {a : Addr} (hy1 : y.name = "<init>") (hown : sB.vm.findClass own = some m.cls) (hTK : sB.vm.MethodsKnown) (hBelow : sB.vm.FramesKnown below) (hEL : EW Z a0 EL) (B : BsH Z EL h0 s sB h) (wl : (Cond.methodLink own index y).before a0 Z = true) (wi : (Cond.instanceMethod y).before a0 Z = true) (wz : (Cond.initialized y.cls).before a0 Z = true) (wc : (Cond.code y bytes maxL none).before a0 Z = true) (hy : y.cls ≠ "java/lang/invoke/MethodHandle" ∧ y.cls ≠ "java/lang/invoke/VarHandle") (hM : CtK l Z EL y bytes maxL none rm [] as h Qc) (eT : T.heap = h) (hsize : Ls.size = c.maxLocals) (hlen : ∀ sig, parseMethodDescriptor y.desc = some sig → argsL.length = sig.parameters.length) (has : (.ref a :: argsL).toArray = as) {st : List Value} (hst : st = argsL.reverse ++ .ref a :: rest) (hW : (rest.map fun v => v.category).sum ≤ W) (hd : decode c.code pc = .ok (.invokespecial index, 3)) (hf : rm.frames + 1 ≤ R.frames) (hl : W + (maxL + 11) + rm.locals ≤ R.locals) (hc : cells + rm.cells ≤ R.cells) (hs : slots + rm.slots ≤ R.slots)
    (q : ∀ sB' v T' h' L, Stand p l e R sB' m args below meth c T' (locs ++ L) (cells + rm.cells) (slots + rm.slots) → T'.heap = h' → BsH Z EL h0 s sB' h' → Z.Warmed39 sB'.vm → sB'.vm.findClass own = some m.cls → CHr Z EL sB.vm h sB'.vm h' → Qc v h' L → Go p e below T' (mkF m (pc + 3) Ls (v.toList ++ rest)) Q) : Go p e below T (mkF m pc Ls st) Q := by
  obtain ⟨vm0, k0, rfl, hS0, hk0, hC0⟩ := B
  obtain ⟨v, vm₁, ⟨T', L', k', n'⟩, -, X', hS', hgr, ⟨L, hQ, l1, y1, z1, hC1⟩, st'⟩ := X.specialBackS hx (y := y) hy1 hown (mvT hZ wl) (mvT hZ wi) (mvT hZ wc) hy (backOfSKH (W := W) hM hZ wc wz hf hl hEL hC0.1 hTK hBelow) (g := mkF m pc Ls st) rfl hsize (Steps.refl _) (a := a) hlen hst (by show 2 * 0 + _ ≤ W; omega) hd (fun _ _ => ⟨has, eT, hc, hs⟩)
  dsimp only [Pt.U, Pt.locs, Pt.cells, Pt.slots] at X' hS' hgr l1 y1 z1 st' hQ hC1
  subst l1 y1 z1
  obtain ⟨X2, S2, hZ2, hown2⟩ := rebS hS0 hk0 X' hS' (by rw [← eT]; exact hgr) hZ hown
  exact Go.of (fun _ k => st'.trans k) (q _ v T' _ L X2 rfl ⟨_, _, rfl, S2, Nat.le_refl _, hC0.trans hC1⟩ hZ2 hown2 hC1 hQ)
theorem o_know {EL : List (String × Nat)} {sB : State} (B : BsH Z EL h0 s sB h) (q : s.vm.MethodsKnown) : sB.vm.MethodsKnown := by
  obtain ⟨vm0, k, rfl, hS, -⟩ := B; exact Vm.MethodsKnown.alikeC hS.1.alike q
theorem o_knowF {EL : List (String × Nat)} {sB : State} (B : BsH Z EL h0 s sB h) (q : s.vm.FramesKnown below) : sB.vm.FramesKnown below := by
  obtain ⟨vm0, k, rfl, hS, -⟩ := B; exact Vm.FramesKnown.alikeC hS.1.alike q
theorem o_narc (x : Int32) : nar .char (x &&& 255) = x &&& 255 := i2c_mask x
abbrev CtP (l : Launch) (Z : State) (y : MethodName) (bytes : ByteArray) (maxL : Nat) (ret : Option FieldType) (rm : Room) (ws : List Jvm.Cond) (as : Array Value) (h0 : Heap) (Qc : Option Value → Heap → List Loc → Prop) : Prop := MetFree l y (head1 (Jvm.Cond.code y bytes maxL ret :: ws) rm) (fun a U => a = as ∧ Z.Warmed39 U.vm ∧ U.heap = h0) (fun _ _ bl s _ => s.vm.MethodsKnown ∧ s.vm.FramesKnown bl) (fun _ U o U' => ∃ v L, o = .returned v ∧ Qc v U'.heap L ∧ FrameEnd U o U' L rm.cells rm.slots)
theorem o_bodyP {y : MethodName} {bytes : ByteArray} {maxL : Nat} {ret : Option FieldType} {rm : Room} {ws : List Jvm.Cond} {as : Array Value} {Qc : Option Value → Heap → List Loc → Prop} (hpl : plainFor y = true)
    (body : ∀ (p : Program) (e : Env) (s : State) (m : MethodId) (below : List Frame) (meth : Method) (c : Code) (s₁ : State), Stand p l e rm s m as below meth c s₁ [] 0 0 → p.tables.exec = Jvm.exec → c.code = bytes → c.maxLocals = maxL → meth.sig.returnType = ret → meth.locks = false → s.vm.findClass y.cls = some m.cls → meth.name = y.name → Z.Warmed39 s.vm → s₁.heap = h0 → s.heap = h0 → s.vm.MethodsKnown → s.vm.FramesKnown below → Go p e below s₁ (entryFrame m as maxL) (Lv s Qc rm.cells rm.slots)) :
    CtP l Z y bytes maxL ret rm ws as h0 Qc := by
  refine MetFree.of_bodySF hpl hisR ?_
  intro p e s m args below meth c s₁ Bd hml0 hP hK
  obtain ⟨rfl, hZ, hh⟩ := hP
  exact body p e s m below meth c s₁ (Stand.of_body Bd) Bd.exec Bd.bytes hml0 Bd.returns Bd.notSynchronized (findClass_of_methodNamed Bd.named) (name_of_methodNamed Bd.named Bd.method).1 hZ (by rw [← hh, Bd.state]; rfl) hh hK.1 hK.2
theorem o_callNP (X : Stand p l e R s m args below meth c T locs cells slots) (hx : p.tables.exec = Jvm.exec) (hZ : Z.Warmed39 s.vm) {y : MethodName} {bytes : ByteArray} {maxL : Nat} {rm : Room} {as : Array Value} {Qc : Option Value → Heap → List Loc → Prop} {own : String} {index W : Nat} {argsL : List Value} {a : Addr} (hy1 : y.name = "<init>") (hown : s.vm.findClass own = some m.cls) (hTK : s.vm.MethodsKnown) (hBelow : s.vm.FramesKnown below) (wl : (Cond.methodLink own index y).before a0 Z = true) (wi : (Cond.instanceMethod y).before a0 Z = true) (wz : (Cond.initialized y.cls).before a0 Z = true) (wc : (Cond.code y bytes maxL none).before a0 Z = true) (hy : y.cls ≠ "java/lang/invoke/MethodHandle" ∧ y.cls ≠ "java/lang/invoke/VarHandle") (hM : CtP l Z y bytes maxL none rm [] as h Qc) (eT : T.heap = h) (hsize : Ls.size = c.maxLocals) (hlen : ∀ sig, parseMethodDescriptor y.desc = some sig → argsL.length = sig.parameters.length) (has : (.ref a :: argsL).toArray = as) {st : List Value} (hst : st = argsL.reverse ++ .ref a :: rest) (hW : (rest.map fun v => v.category).sum ≤ W) (hd : decode c.code pc = .ok (.invokespecial index, 3)) (hf : rm.frames + 1 ≤ R.frames) (hl : W + (maxL + 11) + rm.locals ≤ R.locals) (hc : cells + rm.cells ≤ R.cells) (hs : slots + rm.slots ≤ R.slots)
    (q : ∀ v T' h' L, Stand p l e R s m args below meth c T' (locs ++ L) (cells + rm.cells) (slots + rm.slots) → T'.heap = h' → Qc v h' L → Go p e below T' (mkF m (pc + 3) Ls (v.toList ++ rest)) Q) : Go p e below T (mkF m pc Ls st) Q := by
  obtain ⟨v, vm₁, ⟨T', L', k', n'⟩, -, X', ⟨L, hQ, l1, y1, z1⟩, st'⟩ := X.specialBack hx (y := y) hy1 hown (mvT hZ wl) (mvT hZ wi) (mvT hZ wc) hy (backOfKL (W := W) hM hZ wc wz hf hl hTK hBelow) (g := mkF m pc Ls st) rfl hsize (Steps.refl _) (a := a) hlen hst (by show 2 * 0 + _ ≤ W; omega) hd (fun _ _ => ⟨has, eT, hc, hs⟩)
  dsimp only [Pt.U, Pt.locs, Pt.cells, Pt.slots] at X' l1 y1 z1 st' hQ
  subst l1 y1 z1
  exact Go.of (fun _ k => st'.trans k) (q v T' _ L X' rfl hQ)
theorem o_fitA {t : FieldType} {v : Value} (f : fits (.array t) v = true) : v.isRef = true := by cases v <;> first | rfl | (simp [fits] at f)
theorem o_fitO {t : String} {v : Value} (f : fits (.object t) v = true) : v.isRef = true := by cases v <;> first | rfl | (simp [fits] at f)
end OwnKit

theorem i2b2 (c : Int32) : (c.toInt8.toInt32).toInt8.toInt32 = c.toInt8.toInt32 := by
  rw [← Int32.toInt_inj]
  have h1 := c_i2b c
  have h2 := c_i2b c.toInt8.toInt32
  omega
theorem b2c {c : Int32} (h0 : ¬ c < 0) (h1 : ¬ (255 : Int32) < c) : ((c.toInt8.toInt32 &&& 255).toUInt32.toUInt16.toUInt32.toInt32) = c := by
  have e0 : (0 : Int32).toInt = 0 := rfl
  have e1 : (255 : Int32).toInt = 255 := rfl
  rw [Int32.lt_iff_toInt_lt, e0] at h0
  rw [Int32.lt_iff_toInt_lt, e1] at h1
  rw [i2c_mask, ← Int32.toInt_inj, c_mask c.toInt8.toInt32 255 8 (by decide) (by decide)]
  have h2 := c_i2b c
  omega
theorem b_inj {c d : Int32} (h0 : ¬ c < 0) (h1 : ¬ (255 : Int32) < c) (g0 : ¬ d < 0) (g1 : ¬ (255 : Int32) < d) (h : c.toInt8.toInt32 = d.toInt8.toInt32) : c = d := by rw [← b2c h0 h1, h, b2c g0 g1]
theorem o_same {Z : State} {h : Heap} {a b d1 d2 : Addr} {C n d : String} {k1 k2 : ClassId} {ty : FieldType} {z1 z2 : Int32} {vs1 vs2 : List Value} {dv : Value} (e : a = b) (F1 : Fld Z h a C n d (.ref d1)) (F2 : Fld Z h b C n d (.ref d2)) (V1 : Arv Z h d1 k1 ty z1 vs1 dv) (V2 : Arv Z h d2 k2 ty z2 vs2 dv) (l1 : z1.toNatClampNeg = vs1.length) (l2 : z2.toNatClampNeg = vs2.length) : vs1 = vs2 := by
  have ed : d1 = d2 := Decidable.byContradiction fun q => Fld.ne F1 F2 (fun r => q (Value.ref.inj r)) e
  subst ed
  obtain ⟨c1, A1, -, S1, -, H1, -⟩ := V1
  obtain ⟨c2, A2, -, S2, -, H2, -⟩ := V2
  cases A1.1.symm.trans A2.1
  refine List.ext_getElem (by omega) fun i h1 h2 => ?_
  have g1 := H1 i (by omega)
  have g2 := H2 i (by omega)
  rw [g1] at g2
  have g3 := Option.some.inj g2
  simpa [List.getD_eq_getElem?_getD, h1, h2] using g3
theorem o_pn_u16 : plainName "java/lang/StringUTF16" = true := by first | (simp [plainName, overriddenIn]; done) | decide +kernel
theorem o_d39_0 : decode jdk_52_method_21_code 0 = .ok (.iconst 0, 1) := by decide +kernel
theorem o_d39_1 : decode jdk_52_method_21_code 1 = .ok (.istore 5, 2) := by decide +kernel
theorem o_d39_3 : decode jdk_52_method_21_code 3 = .ok (.iload 5, 2) := by decide +kernel
theorem o_d39_5 : decode jdk_52_method_21_code 5 = .ok (.iload 4, 2) := by decide +kernel
theorem o_d39_7 : decode jdk_52_method_21_code 7 = .ok (.if_icmp .ge 37, 3) := by decide +kernel
theorem o_d39_10 : decode jdk_52_method_21_code 10 = .ok (.aload_n 0, 1) := by decide +kernel
theorem o_d39_11 : decode jdk_52_method_21_code 11 = .ok (.iload_n 1, 1) := by decide +kernel
theorem o_d39_12 : decode jdk_52_method_21_code 12 = .ok (.caload, 1) := by decide +kernel
theorem o_d39_13 : decode jdk_52_method_21_code 13 = .ok (.istore 6, 2) := by decide +kernel
theorem o_d39_15 : decode jdk_52_method_21_code 15 = .ok (.iload 6, 2) := by decide +kernel
theorem o_d39_17 : decode jdk_52_method_21_code 17 = .ok (.sipush 255, 3) := by decide +kernel
theorem o_d39_20 : decode jdk_52_method_21_code 20 = .ok (.if_icmp .le 6, 3) := by decide +kernel
theorem o_d39_26 : decode jdk_52_method_21_code 26 = .ok (.aload_n 2, 1) := by decide +kernel
theorem o_d39_27 : decode jdk_52_method_21_code 27 = .ok (.iload_n 3, 1) := by decide +kernel
theorem o_d39_28 : decode jdk_52_method_21_code 28 = .ok (.iload 6, 2) := by decide +kernel
theorem o_d39_30 : decode jdk_52_method_21_code 30 = .ok (.i2b, 1) := by decide +kernel
theorem o_d39_31 : decode jdk_52_method_21_code 31 = .ok (.bastore, 1) := by decide +kernel
theorem o_d39_32 : decode jdk_52_method_21_code 32 = .ok (.iinc 1 1, 3) := by decide +kernel
theorem o_d39_35 : decode jdk_52_method_21_code 35 = .ok (.iinc 3 1, 3) := by decide +kernel
theorem o_d39_38 : decode jdk_52_method_21_code 38 = .ok (.iinc 5 1, 3) := by decide +kernel
theorem o_d39_41 : decode jdk_52_method_21_code 41 = .ok (.goto (-38), 3) := by decide +kernel
theorem o_d39_44 : decode jdk_52_method_21_code 44 = .ok (.iload 4, 2) := by decide +kernel
theorem o_d39_46 : decode jdk_52_method_21_code 46 = .ok (.ireturn, 1) := by decide +kernel
theorem o_ix {j : Nat} {n : Int32} (h : j < n.toNatClampNeg) : (¬ (Nat.toInt32 j) < 0 ∧ (Nat.toInt32 j) < n) ∧ (Nat.toInt32 j).toNatClampNeg = j ∧ j + 1 < 2147483648 := by
  have hn : n.toNatClampNeg = n.toInt.toNat := rfl
  have h1 := Int32.toInt_lt n
  have hb : j < 2 ^ 31 := by omega
  have e := len_toInt hb
  have e0 : (0 : Int32).toInt = 0 := rfl
  refine ⟨⟨?_, ?_⟩, ?_, by omega⟩
  · rw [Int32.lt_iff_toInt_lt, e, e0]; omega
  · rw [Int32.lt_iff_toInt_lt, e]; omega
  · show (Nat.toInt32 j).toInt.toNat = j
    rw [e]; rfl
theorem o_ixs {j : Nat} (h : j + 1 < 2147483648) : Nat.toInt32 j + 1 = Nat.toInt32 (j + 1) := by
  rw [← Int32.toInt_inj]
  have e := len_toInt (show j < 2 ^ 31 by omega)
  have e2 := len_toInt (show j + 1 < 2 ^ 31 by omega)
  have g := c_iadd (Nat.toInt32 j) 1
  have r := rng32 (Nat.toInt32 j + 1)
  have e1 : (1 : Int32).toInt = 1 := rfl
  rw [e, e1] at g
  rw [e2]
  omega
theorem o_ixe {n : Int32} (h : ¬ n < 0) : Nat.toInt32 n.toNatClampNeg = n := by
  have hn : n.toNatClampNeg = n.toInt.toNat := rfl
  have h1 := Int32.toInt_lt n
  have e0 : (0 : Int32).toInt = 0 := rfl
  rw [Int32.lt_iff_toInt_lt, e0] at h
  rw [← Int32.toInt_inj, len_toInt (show n.toNatClampNeg < 2 ^ 31 by omega)]
  omega
set_option maxRecDepth 65536 in
set_option maxHeartbeats 4000000 in
theorem loopCI {p : Program} {l : Launch} {e : Env} {s : State} {m : MethodId} {as : Array Value} {below : List Frame} {meth : Method} {c : Code} {Z : State} {rm : Room} (hx : p.tables.exec = Jvm.exec) (hby : c.code = jdk_52_method_21_code) (hret : meth.sig.returnType = some .int) (hlk : meth.locks = false) (hZ : Z.Warmed39 s.vm) {a1 a2 : Addr} {k1 k2 : ClassId} {cs : List Int32} {n : Int32} {h0 : Heap} {n0 : Nat} (hne : a1 ≠ a2) (g2 : n0 ≤ a2) (hl : n.toNatClampNeg = cs.length) (hn : ¬ n < 0) (hp : ∀ c ∈ cs, ¬ (255 : Int32) < c) {Qc : Option Value → Heap → List Loc → Prop} (hQ : ∀ h L, Fr n0 L → Keep h0 h [a2] → Arv Z h a2 k2 .byte n (cs.map (fun c : Int32 => Value.int c.toInt8.toInt32)) (.int 0) → Qc (some (.int n)) h L) :
    ∀ (r j : Nat) (T : State) (L : List Loc) (h : Heap) (xs : Slot), (xs = .unset ∨ ∃ q, xs = .val (.int q)) → j + r = cs.length → Stand p l e rm s m as below meth c T L 0 0 → T.heap = h → Fr n0 L → Keep h0 h [a2] → Arv Z h a1 k1 .char n (cs.map Value.int) (.int 0) → Arv Z h a2 k2 .byte n ((cs.take j).map (fun c : Int32 => Value.int c.toInt8.toInt32) ++ List.replicate r (.int 0)) (.int 0) → Go p e below T (mkF m 3 #[.val (.ref a1), .val (.int (Nat.toInt32 j)), .val (.ref a2), .val (.int (Nat.toInt32 j)), .val (.int n), .val (.int (Nat.toInt32 j)), xs] []) (Lv s Qc rm.cells rm.slots) := by
  intro r
  induction r with
  | zero =>
    intro j T L h xs hxs hj X eT N K VA VB
    obtain rfl : j = cs.length := by omega
    refine o_iload (v := (Nat.toInt32 cs.length)) (pc := 3) X hx (hb hby o_d39_3) rfl ?_
    refine o_iload (v := n) (pc := 5) X hx (hb hby o_d39_5) rfl ?_
    refine o_icmpYes (pc := 7) X hx 44 (hb hby o_d39_7) (flt (show ¬ (Nat.toInt32 cs.length) < n by rw [← hl, o_ixe hn]; exact Int32.lt_irrefl)).2.1 (by decide) (by decide) ?_
    refine o_iload (v := n) (pc := 44) X hx (hb hby o_d39_44) rfl ?_
    refine o_retI (pc := 46) X hx hret hlk (hb hby o_d39_46) eT (Nat.zero_le _) (Nat.zero_le _) (hQ h L N K ?_)
    simpa using VB
  | succ r ih =>
    intro j T L h xs hxs hj X eT N K VA VB
    have hj' : j < n.toNatClampNeg := by omega
    obtain ⟨ix1, ix2, ix3⟩ := o_ix hj'
    have hjc : j < cs.length := by omega
    refine o_iload (v := (Nat.toInt32 j)) (pc := 3) X hx (hb hby o_d39_3) rfl ?_
    refine o_iload (v := n) (pc := 5) X hx (hb hby o_d39_5) rfl ?_
    refine o_icmpNo (pc := 7) X hx (hb hby o_d39_7) (tlt ix1.2).2.1 ?_
    refine o_aloadN (v := (.ref a1)) (pc := 10) X hx (hb hby o_d39_10) rfl rfl ?_
    refine o_iloadN (v := (Nat.toInt32 j)) (pc := 11) X hx (hb hby o_d39_11) rfl ?_
    refine o_caload (v := (.int cs[j])) (pc := 12) X hx hZ eT VA ix1 (by rw [ix2]; simp [List.getD_eq_getElem?_getD, hjc]) (hb hby o_d39_12) ?_
    refine o_istore (l' := #[.val (.ref a1), .val (.int (Nat.toInt32 j)), .val (.ref a2), .val (.int (Nat.toInt32 j)), .val (.int n), .val (.int (Nat.toInt32 j)), .val (.int cs[j])]) (pc := 13) X hx (hb hby o_d39_13) (by rcases hxs with rfl | ⟨q0, rfl⟩ <;> rfl) ?_
    refine o_iload (v := cs[j]) (pc := 15) X hx (hb hby o_d39_15) rfl ?_
    refine o_sipush (pc := 17) X hx (255 : Int32) (hb hby o_d39_17) rfl ?_
    refine o_icmpYes (pc := 20) X hx 26 (hb hby o_d39_20) (flt (hp _ (List.getElem_mem hjc))).2.2.2 (by decide) (by decide) ?_
    refine o_aloadN (v := (.ref a2)) (pc := 26) X hx (hb hby o_d39_26) rfl rfl ?_
    refine o_iloadN (v := (Nat.toInt32 j)) (pc := 27) X hx (hb hby o_d39_27) rfl ?_
    refine o_iload (v := cs[j]) (pc := 28) X hx (hb hby o_d39_28) rfl ?_
    refine o_i2b (pc := 30) X hx (hb hby o_d39_30) ?_
    refine o_bastore (pc := 31) X hx hZ eT VB ix1 j ix2 (by simp; omega) (hb hby o_d39_31) fun T1 h1 X1 e1 W1 V1 => ?_
    rw [i2b2] at V1
    have N1 := Fr.snoc X1 N g2
    have K1 : Keep h0 h1 [a2] := K.wr W1 (Or.inl (List.mem_of_getElem? (i := 0) rfl))
    refine o_iinc (x := (Nat.toInt32 j)) (l' := #[.val (.ref a1), .val (.int ((Nat.toInt32 j) + 1)), .val (.ref a2), .val (.int (Nat.toInt32 j)), .val (.int n), .val (.int (Nat.toInt32 j)), .val (.int cs[j])]) (pc := 32) X1 hx (1 : Int32) (hb hby o_d39_32) rfl rfl rfl ?_
    refine o_iinc (x := (Nat.toInt32 j)) (l' := #[.val (.ref a1), .val (.int ((Nat.toInt32 j) + 1)), .val (.ref a2), .val (.int ((Nat.toInt32 j) + 1)), .val (.int n), .val (.int (Nat.toInt32 j)), .val (.int cs[j])]) (pc := 35) X1 hx (1 : Int32) (hb hby o_d39_35) rfl rfl rfl ?_
    refine o_iinc (x := (Nat.toInt32 j)) (l' := #[.val (.ref a1), .val (.int ((Nat.toInt32 j) + 1)), .val (.ref a2), .val (.int ((Nat.toInt32 j) + 1)), .val (.int n), .val (.int ((Nat.toInt32 j) + 1)), .val (.int cs[j])]) (pc := 38) X1 hx (1 : Int32) (hb hby o_d39_38) rfl rfl rfl ?_
    refine o_goto (pc := 41) X1 hx 3 (hb hby o_d39_41) (by decide) (by decide) ?_
    rw [o_ixs ix3]
    refine ih (j + 1) T1 _ h1 _ (Or.inr ⟨_, rfl⟩) (by omega) X1 e1 N1 K1 (VA.other W1 hne) ?_
    have ev : ((cs.take j).map (fun c : Int32 => Value.int c.toInt8.toInt32) ++ List.replicate (r + 1) (Value.int 0)).set j (Value.int cs[j].toInt8.toInt32) = (cs.take (j + 1)).map (fun c : Int32 => Value.int c.toInt8.toInt32) ++ List.replicate r (Value.int 0) := by
      have l1 : ((cs.take j).map (fun c : Int32 => Value.int c.toInt8.toInt32)).length = j := by simp; omega
      rw [List.set_append_right _ _ (by omega), l1, Nat.sub_self, List.replicate_succ, List.set_cons_zero, List.take_succ_eq_append_getElem hjc, List.map_append]
      simp
    rw [ev] at V1
    exact V1
set_option maxRecDepth 65536 in
theorem rmCIL (l : Launch) (Z : State) (a0 : Array Value) (hw : ∀ d ∈ tables_1, d.before a0 Z = true) (ws : List Jvm.Cond) (a1 a2 : Addr) (k1 k2 : ClassId) (cs : List Int32) (n : Int32) (h0 : Heap) (n0 : Nat) (O0 : Old Z n0 h0) (VA : Arv Z h0 a1 k1 .char n (cs.map Value.int) (.int 0)) (VB : Arv Z h0 a2 k2 .byte n (List.replicate cs.length (.int 0)) (.int 0)) (hne : a1 ≠ a2) (g2 : n0 ≤ a2) (hl : n.toNatClampNeg = cs.length) (hn : ¬ n < 0) (hp : ∀ c ∈ cs, ¬ (255 : Int32) < c) :
    Ct l Z (⟨"java/lang/StringUTF16", "compress", "([CI[BII)I"⟩ : MethodName) jdk_52_method_21_code 7 (some .int) ({ frames := 0, cells := 0, slots := 0, locals := 0 } : Room) ws #[(.ref a1), (.int (0 : Int32)), (.ref a2), (.int (0 : Int32)), (.int n)] h0 (fun v h L => v = some (.int n) ∧ Fr n0 L ∧ Keep h0 h [a2] ∧ Arv Z h a2 k2 .byte n (cs.map (fun c : Int32 => Value.int c.toInt8.toInt32)) (.int 0)) := by
  refine o_body (plainFor_of_name o_pn_u16) ?_
  intro p e s m below meth c s₁ X0 hx hby hml hret hlk hown hnm hZ e0
  refine o_top (g' := (mkF m 0 #[.val (.ref a1), .val (.int (0 : Int32)), .val (.ref a2), .val (.int (0 : Int32)), .val (.int n), .unset, .unset] [])) (by first | (simp [entryFrame, mkF, argsToLocals, Value.category]; done) | rfl) ?_
  refine o_iconst (pc := 0) X0 hx (0 : Int32) (hb hby o_d39_0) rfl ?_
  refine o_istore (l' := #[.val (.ref a1), .val (.int (0 : Int32)), .val (.ref a2), .val (.int (0 : Int32)), .val (.int n), .val (.int (0 : Int32)), .unset]) (pc := 1) X0 hx (hb hby o_d39_1) rfl ?_
  exact loopCI hx hby hret hlk hZ hne g2 hl hn hp (fun h L N K V => ⟨rfl, N, K, V⟩) cs.length 0 s₁ [] h0 .unset (Or.inl rfl) (Nat.zero_add _) X0 e0 (Fr.nil n0) (Keep.refl h0 [a2]) VA (by simpa using VB)
theorem o_pn_java_lang_StringUTF16 : plainName "java/lang/StringUTF16" = true := by first | (simp [plainName, overriddenIn]; done) | decide +kernel
theorem o_d38_0 : decode jdk_52_method_16_code 0 = .ok (.iload_n 2, 1) := by decide +kernel
theorem o_d38_1 : decode jdk_52_method_16_code 1 = .ok (.newarray .byte, 2) := by decide +kernel
theorem o_d38_3 : decode jdk_52_method_16_code 3 = .ok (.astore_n 3, 1) := by decide +kernel
theorem o_d38_4 : decode jdk_52_method_16_code 4 = .ok (.aload_n 0, 1) := by decide +kernel
theorem o_d38_5 : decode jdk_52_method_16_code 5 = .ok (.iload_n 1, 1) := by decide +kernel
theorem o_d38_6 : decode jdk_52_method_16_code 6 = .ok (.aload_n 3, 1) := by decide +kernel
theorem o_d38_7 : decode jdk_52_method_16_code 7 = .ok (.iconst 0, 1) := by decide +kernel
theorem o_d38_8 : decode jdk_52_method_16_code 8 = .ok (.iload_n 2, 1) := by decide +kernel
theorem o_d38_9 : decode jdk_52_method_16_code 9 = .ok (.invokestatic 115, 3) := by decide +kernel
theorem o_pd0 : parseMethodDescriptor "([CI[BII)I" = some ⟨[(.array .char), .int, (.array .byte), .int, .int], some .int⟩ := by decide +kernel
theorem o_d38_12 : decode jdk_52_method_16_code 12 = .ok (.istore 4, 2) := by decide +kernel
theorem o_d38_14 : decode jdk_52_method_16_code 14 = .ok (.iload 4, 2) := by decide +kernel
theorem o_d38_16 : decode jdk_52_method_16_code 16 = .ok (.iload_n 2, 1) := by decide +kernel
theorem o_d38_17 : decode jdk_52_method_16_code 17 = .ok (.if_icmp .eq 40, 3) := by decide +kernel
theorem o_d38_57 : decode jdk_52_method_16_code 57 = .ok (.aload_n 3, 1) := by decide +kernel
theorem o_d38_58 : decode jdk_52_method_16_code 58 = .ok (.areturn, 1) := by decide +kernel
set_option maxRecDepth 65536 in
set_option maxHeartbeats 40000000 in
theorem rmCCL (l : Launch) (Z : State) (a0 : Array Value) (hw : ∀ d ∈ tables_1, d.before a0 Z = true) (ws : List Jvm.Cond) (a1 : Addr) (ka : ClassId) (cs : List Int32) (n : Int32) (h0 : Heap) (n0 : Nat) (O0 : Old Z n0 h0) (VA : Arv Z h0 a1 ka .char n (cs.map Value.int) (.int 0)) (hl : n.toNatClampNeg = cs.length) (hn : ¬ n < 0) (hp : ∀ c ∈ cs, ¬ (255 : Int32) < c) (hcap : n.toNatClampNeg ≤ 17) :
    Ct l Z (⟨"java/lang/StringUTF16", "compress", "([CII)[B"⟩ : MethodName) jdk_52_method_16_code 6 (some (.array .byte)) ({ frames := 1, cells := 1, slots := 17, locals := 18 } : Room) ws #[(.ref a1), (.int (0 : Int32)), (.int n)] h0 (fun v h L => ∃ d kd, v = some (.ref d) ∧ h0.size ≤ d ∧ Fr n0 L ∧ Ext h0 h ∧ Arv Z h d kd .byte n (cs.map (fun c : Int32 => Value.int c.toInt8.toInt32)) (.int 0)) := by
  refine o_body (plainFor_of_name o_pn_java_lang_StringUTF16) ?_
  intro p e s m below meth c s₁ X0 hx hby hml hret hlk hown hnm hZ e0
  have N0 := Fr.nil n0
  refine o_top (g' := (mkF m 0 #[.val (.ref a1), .val (.int (0 : Int32)), .val (.int n), .unset, .unset, .unset] [])) (by first | (simp [entryFrame, mkF, argsToLocals, Value.category]; done) | rfl) ?_
  refine o_iloadN (v := n) (pc := 0) X0 hx (hb hby o_d38_0) rfl ?_
  refine o_newP (pc := 1) X0 hx hZ (hw _ (List.mem_of_getElem? (i := 4) rfl)) e0 (hb hby o_d38_1) hn 17 hcap (by decide) (by decide) (by decide) fun T1 h1 b1 k1 X1 e1 g1 E1 V1 => ?_
  have O2 := O0.ext E1
  have K2 : Keep h0 h1 [] := (Keep.refl h0 []).ext E1
  refine o_astoreN (l' := #[.val (.ref a1), .val (.int (0 : Int32)), .val (.int n), .val (.ref b1), .unset, .unset]) (pc := 3) X1 hx (hb hby o_d38_3) rfl rfl ?_
  refine o_aloadN (v := (.ref a1)) (pc := 4) X1 hx (hb hby o_d38_4) rfl rfl ?_
  refine o_iloadN (v := (0 : Int32)) (pc := 5) X1 hx (hb hby o_d38_5) rfl ?_
  refine o_aloadN (v := (.ref b1)) (pc := 6) X1 hx (hb hby o_d38_6) rfl rfl ?_
  refine o_iconst (pc := 7) X1 hx (0 : Int32) (hb hby o_d38_7) rfl ?_
  refine o_iloadN (v := n) (pc := 8) X1 hx (hb hby o_d38_8) rfl ?_
  have VP3 : Arv Z h1 b1 k1 .byte n (List.replicate cs.length (.int 0)) (.int 0) := V1.pad (pad_rep [] (.int 0) cs.length)
  refine o_callS (pc := 9) X1 hx hZ (y := (⟨"java/lang/StringUTF16", "compress", "([CI[BII)I"⟩ : MethodName)) (argsL := [(.ref a1), (.int (0 : Int32)), (.ref b1), (.int (0 : Int32)), (.int n)]) (rest := []) hown (hw _ (List.mem_of_getElem? (i := 237) rfl)) (hw _ (List.mem_of_getElem? (i := 238) rfl)) (hw _ (List.mem_of_getElem? (i := 235) rfl)) (hw _ (List.mem_of_getElem? (i := 239) rfl)) (by decide) (rmCIL l Z a0 hw [] a1 b1 ka k1 cs n h1 n0 O2 (VA.ext E1) VP3 (Nat.ne_of_lt (Nat.lt_of_lt_of_le VA.lt g1)) (Nat.le_trans (o_n0 O0) g1) hl hn hp) e1 (by rw [hml]; rfl) (lenOf o_pd0 rfl) (has := rfl) (hst := rfl) (W := 0) (Nat.le_of_ble_eq_true rfl) (hb hby o_d38_9) (by decide) (by decide) (by decide) (by decide) fun v4 T4 h4 L4 X4 e4 q4 => ?_
  obtain ⟨rfl, N4q, K4, V4⟩ := q4
  have N4 := Fr.app N0 N4q
  have O5 := O2.keep K4 (allS (Nat.le_trans (o_n0 O0) g1) all0)
  have K5 : Keep h0 h4 [] := K2.trans K4 (allS (Or.inr (Nat.le_trans (Keep.refl h0 []).1 g1)) all0)
  show Go p e below T4 (mkF m 12 #[.val (.ref a1), .val (.int (0 : Int32)), .val (.int n), .val (.ref b1), .unset, .unset] [(.int n)]) _
  refine o_istore (l' := #[.val (.ref a1), .val (.int (0 : Int32)), .val (.int n), .val (.ref b1), .val (.int n), .unset]) (pc := 12) X4 hx (hb hby o_d38_12) rfl ?_
  refine o_iload (v := n) (pc := 14) X4 hx (hb hby o_d38_14) rfl ?_
  refine o_iloadN (v := n) (pc := 16) X4 hx (hb hby o_d38_16) rfl ?_
  refine o_icmpYes (pc := 17) X4 hx 57 (hb hby o_d38_17) (teq (rfl : n = n)).1 (by decide) (by decide) ?_
  refine o_aloadN (v := (.ref b1)) (pc := 57) X4 hx (hb hby o_d38_57) rfl rfl ?_
  exact o_retA (pc := 58) X4 hx hret hlk rfl rfl (hb hby o_d38_58) e4 (by decide) (by decide) ⟨b1, k1, rfl, (Nat.le_trans (Keep.refl h0 []).1 g1), N4, o_keep0 K5, V4⟩
theorem o_d40_0 : decode jdk_52_method_15_code 0 = .ok (.iload_n 1, 1) := by decide +kernel
theorem o_d40_1 : decode jdk_52_method_15_code 1 = .ok (.aload_n 0, 1) := by decide +kernel
theorem o_d40_2 : decode jdk_52_method_15_code 2 = .ok (.arraylength, 1) := by decide +kernel
theorem o_d40_3 : decode jdk_52_method_15_code 3 = .ok (.isub, 1) := by decide +kernel
theorem o_d40_4 : decode jdk_52_method_15_code 4 = .ok (.bipush 31, 2) := by decide +kernel
theorem o_d40_6 : decode jdk_52_method_15_code 6 = .ok (.iushr, 1) := by decide +kernel
theorem o_d40_7 : decode jdk_52_method_15_code 7 = .ok (.i2b, 1) := by decide +kernel
theorem o_d40_8 : decode jdk_52_method_15_code 8 = .ok (.ireturn, 1) := by decide +kernel
set_option maxRecDepth 65536 in
set_option maxHeartbeats 40000000 in
theorem rmCod (l : Launch) (Z : State) (a0 : Array Value) (hw : ∀ d ∈ tables_1, d.before a0 Z = true) (ws : List Jvm.Cond) (a1 : Addr) (k1 : ClassId) (z : Int32) (vs : List Value) (h0 : Heap) (n0 : Nat) (O0 : Old Z n0 h0) (VA : Arv Z h0 a1 k1 .byte z vs (.int (0 : Int32))) :
    Ct l Z (⟨"java/lang/StringUTF16", "coderFromArrayLen", "([BI)B"⟩ : MethodName) jdk_52_method_15_code 2 (some .byte) ({ frames := 0, cells := 0, slots := 0, locals := 0 } : Room) ws #[(.ref a1), (.int z)] h0 (fun v h L => v = some (.int (0 : Int32)) ∧ Fr n0 L ∧ h0 = h) := by
  refine o_body (plainFor_of_name o_pn_java_lang_StringUTF16) ?_
  intro p e s m below meth c s₁ X0 hx hby hml hret hlk hown hnm hZ e0
  have N0 := Fr.nil n0
  refine o_top (g' := (mkF m 0 #[.val (.ref a1), .val (.int z)] [])) (by first | (simp [entryFrame, mkF, argsToLocals, Value.category]; done) | rfl) ?_
  refine o_iloadN (v := z) (pc := 0) X0 hx (hb hby o_d40_0) rfl ?_
  refine o_aloadN (v := (.ref a1)) (pc := 1) X0 hx (hb hby o_d40_1) rfl rfl ?_
  refine o_arraylength (pc := 2) X0 hx hZ e0 VA (hb hby o_d40_2) ?_
  refine o_isub (pc := 3) X0 hx (hb hby o_d40_3) ?_
  refine o_bipush (pc := 4) X0 hx (31 : Int32) (hb hby o_d40_4) rfl ?_
  refine o_iushr (pc := 6) X0 hx (hb hby o_d40_6) ?_
  refine o_i2b (pc := 7) X0 hx (hb hby o_d40_7) ?_
  exact o_retN (pc := 8) X0 hx .byte hret hlk (by simp) (hb hby o_d40_8) e0 (by decide) (by decide) ⟨by rw [show z - z = 0 from Int32.sub_self z]; rfl, N0, rfl⟩
theorem o_pn_java_lang_String : plainName "java/lang/String" = true := by first | (simp [plainName, overriddenIn]; done) | decide +kernel
theorem o_d37_0 : decode jdk_42_method_149_code 0 = .ok (.aload_n 0, 1) := by decide +kernel
theorem o_d37_1 : decode jdk_42_method_149_code 1 = .ok (.invokespecial 1, 3) := by decide +kernel
theorem o_d37_4 : decode jdk_42_method_149_code 4 = .ok (.iload_n 3, 1) := by decide +kernel
theorem o_d37_5 : decode jdk_42_method_149_code 5 = .ok (.ifCond .ne 22, 3) := by decide +kernel
theorem o_d37_27 : decode jdk_42_method_149_code 27 = .ok (.getstatic 38, 3) := by decide +kernel
theorem o_d37_30 : decode jdk_42_method_149_code 30 = .ok (.ifCond .eq 28, 3) := by decide +kernel
theorem o_d37_33 : decode jdk_42_method_149_code 33 = .ok (.aload_n 1, 1) := by decide +kernel
theorem o_d37_34 : decode jdk_42_method_149_code 34 = .ok (.iload_n 2, 1) := by decide +kernel
theorem o_d37_35 : decode jdk_42_method_149_code 35 = .ok (.iload_n 3, 1) := by decide +kernel
theorem o_d37_36 : decode jdk_42_method_149_code 36 = .ok (.invokestatic 177, 3) := by decide +kernel
theorem o_pd1 : parseMethodDescriptor "([CII)[B" = some ⟨[(.array .char), .int, .int], some (.array .byte)⟩ := by decide +kernel
theorem o_d37_39 : decode jdk_42_method_149_code 39 = .ok (.astore 5, 2) := by decide +kernel
theorem o_d37_41 : decode jdk_42_method_149_code 41 = .ok (.aload_n 0, 1) := by decide +kernel
theorem o_d37_42 : decode jdk_42_method_149_code 42 = .ok (.aload 5, 2) := by decide +kernel
theorem o_d37_44 : decode jdk_42_method_149_code 44 = .ok (.iload_n 3, 1) := by decide +kernel
theorem o_d37_45 : decode jdk_42_method_149_code 45 = .ok (.invokestatic 47, 3) := by decide +kernel
theorem o_pd2 : parseMethodDescriptor "([BI)B" = some ⟨[(.array .byte), .int], some .byte⟩ := by decide +kernel
theorem o_d37_48 : decode jdk_42_method_149_code 48 = .ok (.putfield 15, 3) := by decide +kernel
theorem o_d37_51 : decode jdk_42_method_149_code 51 = .ok (.aload_n 0, 1) := by decide +kernel
theorem o_d37_52 : decode jdk_42_method_149_code 52 = .ok (.aload 5, 2) := by decide +kernel
theorem o_d37_54 : decode jdk_42_method_149_code 54 = .ok (.putfield 9, 3) := by decide +kernel
theorem o_d37_57 : decode jdk_42_method_149_code 57 = .ok (.return_, 1) := by decide +kernel
set_option maxRecDepth 65536 in
set_option maxHeartbeats 40000000 in
theorem rmSVL (l : Launch) (Z : State) (a0 : Array Value) (hw : ∀ d ∈ tables_1, d.before a0 Z = true) (ws : List Jvm.Cond) (a1 av : Addr) (ka : ClassId) (cs : Int32) (cl : List Int32) (n : Int32) (h0 : Heap) (n0 : Nat) (O0 : Old Z n0 h0) (E1 : Exa Z h0 a1 "java/lang/String") (G0 : Fld Z h0 a1 "java/lang/String" "coder" "B" (.int (0 : Int32))) (G1 : Fld Z h0 a1 "java/lang/String" "value" "[B" .null) (g1 : n0 ≤ a1) (VA : Arv Z h0 av ka .char n (cl.map Value.int) (.int 0)) (SC : Sta Z Z.heap "java/lang/String" "COMPACT_STRINGS" "Z" (.int cs)) (hcs : ¬ cs = (0 : Int32)) (hl : n.toNatClampNeg = cl.length) (hn : ¬ n < 0) (hp : ∀ c ∈ cl, ¬ (255 : Int32) < c) (hcap : n.toNatClampNeg ≤ 17) (hnz : ¬ n = (0 : Int32)) :
    Ct l Z (⟨"java/lang/String", "<init>", "([CIILjava/lang/Void;)V"⟩ : MethodName) jdk_42_method_149_code 6 none ({ frames := 2, cells := 1, slots := 17, locals := 35 } : Room) ws #[(.ref a1), (.ref av), (.int (0 : Int32)), (.int n), .null] h0 (fun v h L => v = none ∧ Fr n0 L ∧ Keep h0 h [a1] ∧ Fld Z h a1 "java/lang/String" "coder" "B" (.int (0 : Int32)) ∧ ∃ d kd, h0.size ≤ d ∧ Fld Z h a1 "java/lang/String" "value" "[B" (.ref d) ∧ Arv Z h d kd .byte n (cl.map (fun c : Int32 => Value.int c.toInt8.toInt32)) (.int 0)) := by
  refine o_body (plainFor_of_name o_pn_java_lang_String) ?_
  intro p e s m below meth c s₁ X0 hx hby hml hret hlk hown hnm hZ e0
  have N0 := Fr.nil n0
  refine o_top (g' := (mkF m 0 #[.val (.ref a1), .val (.ref av), .val (.int (0 : Int32)), .val (.int n), .val .null, .unset] [])) (by first | (simp [entryFrame, mkF, argsToLocals, Value.category]; done) | rfl) ?_
  refine o_aloadN (v := (.ref a1)) (pc := 0) X0 hx (hb hby o_d37_0) rfl rfl ?_
  refine o_initO (pc := 1) X0 hx hZ hown (hw _ (List.mem_of_getElem? (i := 122) rfl)) (hw _ (List.mem_of_getElem? (i := 28) rfl)) (hw _ (List.mem_of_getElem? (i := 29) rfl)) e0 (by rw [hml]; rfl) (hb hby o_d37_1) (by decide) (W := 0) (Nat.le_of_ble_eq_true rfl) (by decide) fun T6 X6 e6 => ?_
  refine o_iloadN (v := n) (pc := 4) X6 hx (hb hby o_d37_4) rfl ?_
  refine o_ifYes (pc := 5) X6 hx 27 (hb hby o_d37_5) ((if0 _ _).trans (feq hnz).2) (by decide) (by decide) ?_
  refine o_getS (pc := 27) X6 hx hZ hown (host := "") (Or.inl (hw _ (List.mem_of_getElem? (i := 57) rfl))) Via.refl e6 (SC.ext O0.2) (hb hby o_d37_27) fun T7 X7 e7 => ?_
  refine o_ifNo (pc := 30) X7 hx (hb hby o_d37_30) ((if0 _ _).trans (feq hcs).1) ?_
  refine o_aloadN (v := (.ref av)) (pc := 33) X7 hx (hb hby o_d37_33) rfl rfl ?_
  refine o_iloadN (v := (0 : Int32)) (pc := 34) X7 hx (hb hby o_d37_34) rfl ?_
  refine o_iloadN (v := n) (pc := 35) X7 hx (hb hby o_d37_35) rfl ?_
  refine o_callS (pc := 36) X7 hx hZ (y := (⟨"java/lang/StringUTF16", "compress", "([CII)[B"⟩ : MethodName)) (argsL := [(.ref av), (.int (0 : Int32)), (.int n)]) (rest := []) hown (hw _ (List.mem_of_getElem? (i := 233) rfl)) (hw _ (List.mem_of_getElem? (i := 234) rfl)) (hw _ (List.mem_of_getElem? (i := 235) rfl)) (hw _ (List.mem_of_getElem? (i := 236) rfl)) (by decide) (rmCCL l Z a0 hw [] av ka cl n h0 n0 O0 VA hl hn hp hcap) e7 (by rw [hml]; rfl) (lenOf o_pd1 rfl) (has := rfl) (hst := rfl) (W := 0) (Nat.le_of_ble_eq_true rfl) (hb hby o_d37_36) (by decide) (by decide) (by decide) (by decide) fun v8 T8 h8 L8 X8 e8 q8 => ?_
  obtain ⟨b8, k8, rfl, g8, N8q, E8, V8⟩ := q8
  have N8 := Fr.app N0 N8q
  have O9 := O0.ext E8
  have K9 : Keep h0 h8 [a1] := (Keep.refl h0 [a1]).ext E8
  show Go p e below T8 (mkF m 39 #[.val (.ref a1), .val (.ref av), .val (.int (0 : Int32)), .val (.int n), .val .null, .unset] [(.ref b8)]) _
  refine o_astore (l' := #[.val (.ref a1), .val (.ref av), .val (.int (0 : Int32)), .val (.int n), .val .null, .val (.ref b8)]) (pc := 39) X8 hx (hb hby o_d37_39) rfl rfl ?_
  refine o_aloadN (v := (.ref a1)) (pc := 41) X8 hx (hb hby o_d37_41) rfl rfl ?_
  refine o_aload (v := (.ref b8)) (pc := 42) X8 hx (hb hby o_d37_42) rfl rfl ?_
  refine o_iloadN (v := n) (pc := 44) X8 hx (hb hby o_d37_44) rfl ?_
  refine o_callS (pc := 45) X8 hx hZ (y := (⟨"java/lang/StringUTF16", "coderFromArrayLen", "([BI)B"⟩ : MethodName)) (argsL := [(.ref b8), (.int n)]) (rest := [(.ref a1)]) hown (hw _ (List.mem_of_getElem? (i := 240) rfl)) (hw _ (List.mem_of_getElem? (i := 241) rfl)) (hw _ (List.mem_of_getElem? (i := 235) rfl)) (hw _ (List.mem_of_getElem? (i := 242) rfl)) (by decide) (rmCod l Z a0 hw [] b8 k8 n _ h8 n0 O9 V8) e8 (by rw [hml]; rfl) (lenOf o_pd2 rfl) (has := rfl) (hst := rfl) (W := 1) (Nat.le_of_ble_eq_true rfl) (hb hby o_d37_45) (by decide) (by decide) (by decide) (by decide) fun v10 T10 h10 L10 X10 e10 q10 => ?_
  obtain ⟨rfl, N10q, rfl⟩ := q10
  have N10 := Fr.app N8 N10q
  show Go p e below T10 (mkF m 48 #[.val (.ref a1), .val (.ref av), .val (.int (0 : Int32)), .val (.int n), .val .null, .val (.ref b8)] [(.int (0 : Int32)), (.ref a1)]) _
  refine o_putFN (pc := 48) X10 hx hZ hown (hw _ (List.mem_of_getElem? (i := 58) rfl)) Via.refl e10 (G0.ext E8) (E1.ext E8) (Or.inr ⟨(hw _ (List.mem_of_getElem? (i := 6) rfl)), rfl, hnm⟩) (hw _ (List.mem_of_getElem? (i := 3) rfl)) (ty := .byte) (v' := (.int (0 : Int32))) (by decide) (by decide) (by decide) (hb hby o_d37_48) fun T11 h11 X11 e11 W11 => ?_
  have F11 := Fld.same W11 (G0.ext E8)
  have N11 := Fr.snoc X11 N10 g1
  have O12 := O9.wr W11 g1
  have K12 : Keep h0 h11 [a1] := K9.wr W11 (Or.inl (List.mem_of_getElem? (i := 0) rfl))
  refine o_aloadN (v := (.ref a1)) (pc := 51) X11 hx (hb hby o_d37_51) rfl rfl ?_
  refine o_aload (v := (.ref b8)) (pc := 52) X11 hx (hb hby o_d37_52) rfl rfl ?_
  refine o_putF (pc := 54) X11 hx hZ hown (host := "") (Or.inl (hw _ (List.mem_of_getElem? (i := 51) rfl))) Via.refl e11 ((G1.ext E8).other W11 (Or.inr (slot_ne (C := "java/lang/String") (Or.inr (hw _ (List.mem_of_getElem? (i := 5) rfl))) (Or.inr (hw _ (List.mem_of_getElem? (i := 6) rfl))) (by decide) (t := (.array .byte)) (t' := .byte) (by decide) (by decide)))) ((E1.ext E8).wr W11) (Or.inr ⟨(hw _ (List.mem_of_getElem? (i := 5) rfl)), rfl, hnm⟩) (hw _ (List.mem_of_getElem? (i := 3) rfl)) (ty := (.array .byte)) (by decide) rfl rfl (hb hby o_d37_54) fun T13 h13 X13 e13 W13 => ?_
  have F13 := Fld.same W13 ((G1.ext E8).other W11 (Or.inr (slot_ne (C := "java/lang/String") (Or.inr (hw _ (List.mem_of_getElem? (i := 5) rfl))) (Or.inr (hw _ (List.mem_of_getElem? (i := 6) rfl))) (by decide) (t := (.array .byte)) (t' := .byte) (by decide) (by decide))))
  have N13 := Fr.snoc X13 N11 g1
  have O14 := O12.wr W13 g1
  have K14 : Keep h0 h13 [a1] := K12.wr W13 (Or.inl (List.mem_of_getElem? (i := 0) rfl))
  exact o_ret0 (pc := 57) X13 hx hret hlk (hb hby o_d37_57) e13 (by decide) (by decide) ⟨rfl, N13, K14, (F11.other W13 (Or.inr (slot_ne (C := "java/lang/String") (Or.inr (hw _ (List.mem_of_getElem? (i := 6) rfl))) (Or.inr (hw _ (List.mem_of_getElem? (i := 5) rfl))) (by decide) (t := .byte) (t' := (.array .byte)) (by decide) (by decide)))), b8, k8, (Nat.le_trans (Keep.refl h0 [a1]).1 g8), F13, ((V8.other W11 (Ne.symm (Nat.ne_of_lt (Nat.lt_of_lt_of_le E1.lt g8)))).other W13 (Ne.symm (Nat.ne_of_lt (Nat.lt_of_lt_of_le E1.lt g8))))⟩
theorem o_d36_0 : decode jdk_42_method_3_code 0 = .ok (.aload_n 0, 1) := by decide +kernel
theorem o_d36_1 : decode jdk_42_method_3_code 1 = .ok (.aload_n 1, 1) := by decide +kernel
theorem o_d36_2 : decode jdk_42_method_3_code 2 = .ok (.iconst 0, 1) := by decide +kernel
theorem o_d36_3 : decode jdk_42_method_3_code 3 = .ok (.aload_n 1, 1) := by decide +kernel
theorem o_d36_4 : decode jdk_42_method_3_code 4 = .ok (.arraylength, 1) := by decide +kernel
theorem o_d36_5 : decode jdk_42_method_3_code 5 = .ok (.aconst_null, 1) := by decide +kernel
theorem o_d36_6 : decode jdk_42_method_3_code 6 = .ok (.invokespecial 27, 3) := by decide +kernel
theorem o_pd3 : parseMethodDescriptor "([CIILjava/lang/Void;)V" = some ⟨[(.array .char), .int, .int, (.object "java/lang/Void")], none⟩ := by decide +kernel
theorem o_d36_9 : decode jdk_42_method_3_code 9 = .ok (.return_, 1) := by decide +kernel
set_option maxRecDepth 65536 in
set_option maxHeartbeats 40000000 in
theorem rmSCL (l : Launch) (Z : State) (a0 : Array Value) (hw : ∀ d ∈ tables_1, d.before a0 Z = true) (ws : List Jvm.Cond) (a1 av : Addr) (ka : ClassId) (cs : Int32) (cl : List Int32) (n : Int32) (h0 : Heap) (n0 : Nat) (O0 : Old Z n0 h0) (E1 : Exa Z h0 a1 "java/lang/String") (G0 : Fld Z h0 a1 "java/lang/String" "coder" "B" (.int (0 : Int32))) (G1 : Fld Z h0 a1 "java/lang/String" "value" "[B" .null) (g1 : n0 ≤ a1) (VA : Arv Z h0 av ka .char n (cl.map Value.int) (.int 0)) (SC : Sta Z Z.heap "java/lang/String" "COMPACT_STRINGS" "Z" (.int cs)) (hcs : ¬ cs = (0 : Int32)) (hl : n.toNatClampNeg = cl.length) (hn : ¬ n < 0) (hp : ∀ c ∈ cl, ¬ (255 : Int32) < c) (hcap : n.toNatClampNeg ≤ 17) (hnz : ¬ n = (0 : Int32)) :
    Ct l Z (⟨"java/lang/String", "<init>", "([C)V"⟩ : MethodName) jdk_42_method_3_code 2 none ({ frames := 3, cells := 1, slots := 17, locals := 52 } : Room) ws #[(.ref a1), (.ref av)] h0 (fun v h L => v = none ∧ Fr n0 L ∧ Keep h0 h [a1] ∧ Fld Z h a1 "java/lang/String" "coder" "B" (.int (0 : Int32)) ∧ ∃ d kd, h0.size ≤ d ∧ Fld Z h a1 "java/lang/String" "value" "[B" (.ref d) ∧ Arv Z h d kd .byte n (cl.map (fun c : Int32 => Value.int c.toInt8.toInt32)) (.int 0)) := by
  refine o_body (plainFor_of_name o_pn_java_lang_String) ?_
  intro p e s m below meth c s₁ X0 hx hby hml hret hlk hown hnm hZ e0
  have N0 := Fr.nil n0
  refine o_top (g' := (mkF m 0 #[.val (.ref a1), .val (.ref av)] [])) (by first | (simp [entryFrame, mkF, argsToLocals, Value.category]; done) | rfl) ?_
  refine o_aloadN (v := (.ref a1)) (pc := 0) X0 hx (hb hby o_d36_0) rfl rfl ?_
  refine o_aloadN (v := (.ref av)) (pc := 1) X0 hx (hb hby o_d36_1) rfl rfl ?_
  refine o_iconst (pc := 2) X0 hx (0 : Int32) (hb hby o_d36_2) rfl ?_
  refine o_aloadN (v := (.ref av)) (pc := 3) X0 hx (hb hby o_d36_3) rfl rfl ?_
  refine o_arraylength (pc := 4) X0 hx hZ e0 VA (hb hby o_d36_4) ?_
  refine o_aconst_null (pc := 5) X0 hx (hb hby o_d36_5) ?_
  refine o_callN (pc := 6) X0 hx hZ (y := (⟨"java/lang/String", "<init>", "([CIILjava/lang/Void;)V"⟩ : MethodName)) (a := a1) (argsL := [(.ref av), (.int (0 : Int32)), (.int n), .null]) (rest := []) rfl hown (hw _ (List.mem_of_getElem? (i := 230) rfl)) (hw _ (List.mem_of_getElem? (i := 231) rfl)) (hw _ (List.mem_of_getElem? (i := 2) rfl)) (hw _ (List.mem_of_getElem? (i := 232) rfl)) (by decide) (rmSVL l Z a0 hw [] a1 av ka cs cl n h0 n0 O0 E1 G0 G1 g1 VA SC hcs hl hn hp hcap hnz) e0 (by rw [hml]; rfl) (lenOf o_pd3 rfl) (has := rfl) (hst := rfl) (W := 0) (Nat.le_of_ble_eq_true rfl) (hb hby o_d36_6) (by decide) (by decide) (by decide) (by decide) fun v15 T15 h15 L15 X15 e15 q15 => ?_
  obtain ⟨rfl, N15q, K15, Fc15, d15, k15, g15, Fv15, V15⟩ := q15
  have N15 := Fr.app N0 N15q
  have O16 := O0.keep K15 (allS g1 all0)
  have K16 : Keep h0 h15 [a1] := (Keep.refl h0 [a1]).trans K15 (allS (Or.inl (List.mem_of_getElem? (i := 0) rfl)) all0)
  show Go p e below T15 (mkF m 9 #[.val (.ref a1), .val (.ref av)] []) _
  exact o_ret0 (pc := 9) X15 hx hret hlk (hb hby o_d36_9) e15 (by decide) (by decide) ⟨rfl, N15, K16, Fc15, d15, k15, (Nat.le_trans (Keep.refl h0 [a1]).1 g15), Fv15, V15⟩
theorem o_d35_0 : decode jdk_43_method_13_code 0 = .ok (.aload_n 0, 1) := by decide +kernel
theorem o_d35_1 : decode jdk_43_method_13_code 1 = .ok (.arraylength, 1) := by decide +kernel
theorem o_d35_2 : decode jdk_43_method_13_code 2 = .ok (.aload_n 1, 1) := by decide +kernel
theorem o_d35_3 : decode jdk_43_method_13_code 3 = .ok (.arraylength, 1) := by decide +kernel
theorem o_d35_4 : decode jdk_43_method_13_code 4 = .ok (.if_icmp .ne 30, 3) := by decide +kernel
theorem o_d35_7 : decode jdk_43_method_13_code 7 = .ok (.iconst 0, 1) := by decide +kernel
theorem o_d35_8 : decode jdk_43_method_13_code 8 = .ok (.istore_n 2, 1) := by decide +kernel
theorem o_d35_9 : decode jdk_43_method_13_code 9 = .ok (.iload_n 2, 1) := by decide +kernel
theorem o_d35_10 : decode jdk_43_method_13_code 10 = .ok (.aload_n 0, 1) := by decide +kernel
theorem o_d35_11 : decode jdk_43_method_13_code 11 = .ok (.arraylength, 1) := by decide +kernel
theorem o_d35_12 : decode jdk_43_method_13_code 12 = .ok (.if_icmp .ge 20, 3) := by decide +kernel
theorem o_d35_15 : decode jdk_43_method_13_code 15 = .ok (.aload_n 0, 1) := by decide +kernel
theorem o_d35_16 : decode jdk_43_method_13_code 16 = .ok (.iload_n 2, 1) := by decide +kernel
theorem o_d35_17 : decode jdk_43_method_13_code 17 = .ok (.baload, 1) := by decide +kernel
theorem o_d35_18 : decode jdk_43_method_13_code 18 = .ok (.aload_n 1, 1) := by decide +kernel
theorem o_d35_19 : decode jdk_43_method_13_code 19 = .ok (.iload_n 2, 1) := by decide +kernel
theorem o_d35_20 : decode jdk_43_method_13_code 20 = .ok (.baload, 1) := by decide +kernel
theorem o_d35_21 : decode jdk_43_method_13_code 21 = .ok (.if_icmp .eq 5, 3) := by decide +kernel
theorem o_d35_24 : decode jdk_43_method_13_code 24 = .ok (.iconst 0, 1) := by decide +kernel
theorem o_d35_25 : decode jdk_43_method_13_code 25 = .ok (.ireturn, 1) := by decide +kernel
theorem o_d35_26 : decode jdk_43_method_13_code 26 = .ok (.iinc 2 1, 3) := by decide +kernel
theorem o_d35_29 : decode jdk_43_method_13_code 29 = .ok (.goto (-20), 3) := by decide +kernel
theorem o_d35_32 : decode jdk_43_method_13_code 32 = .ok (.iconst 1, 1) := by decide +kernel
theorem o_d35_33 : decode jdk_43_method_13_code 33 = .ok (.ireturn, 1) := by decide +kernel
set_option maxRecDepth 65536 in
set_option maxHeartbeats 4000000 in
theorem loopLE {p : Program} {l : Launch} {e : Env} {s : State} {m : MethodId} {as : Array Value} {below : List Frame} {meth : Method} {c : Code} {Z : State} {rm : Room} {T : State} {h0 : Heap} (X : Stand p l e rm s m as below meth c T [] 0 0) (hx : p.tables.exec = Jvm.exec) (hby : c.code = jdk_43_method_13_code) (hret : meth.sig.returnType = some .boolean) (hlk : meth.locks = false) (hZ : Z.Warmed39 s.vm) (eT : T.heap = h0) {d1 d2 : Addr} {k1 k2 : ClassId} {xs ys : List Int32} {n : Int32} (V1 : Arv Z h0 d1 k1 .byte n (xs.map Value.int) (.int 0)) (V2 : Arv Z h0 d2 k2 .byte n (ys.map Value.int) (.int 0)) (hl1 : n.toNatClampNeg = xs.length) (hl2 : n.toNatClampNeg = ys.length) (hn : ¬ n < 0) {Qc : Option Value → Heap → List Loc → Prop} (q1 : xs = ys → Qc (some (.int 1)) h0 []) (q0 : xs ≠ ys → Qc (some (.int 0)) h0 []) :
    ∀ (r j : Nat), j + r = xs.length → xs.take j = ys.take j → Go p e below T (mkF m 9 #[.val (.ref d1), .val (.ref d2), .val (.int (Nat.toInt32 j))] []) (Lv s Qc rm.cells rm.slots) := by
  intro r
  induction r with
  | zero =>
    intro j hj ht
    obtain rfl : j = xs.length := by omega
    have exy : xs = ys := by
      have a1 := List.take_length (l := xs)
      have a2 : ys.take xs.length = ys := by rw [← hl1, hl2]; exact List.take_length
      rw [a1, a2] at ht; exact ht
    refine o_iloadN (v := (Nat.toInt32 xs.length)) (pc := 9) X hx (hb hby o_d35_9) rfl ?_
    refine o_aloadN (v := (.ref d1)) (pc := 10) X hx (hb hby o_d35_10) rfl rfl ?_
    refine o_arraylength (pc := 11) X hx hZ eT V1 (hb hby o_d35_11) ?_
    refine o_icmpYes (pc := 12) X hx 32 (hb hby o_d35_12) (flt (show ¬ (Nat.toInt32 xs.length) < n by rw [← hl1, o_ixe hn]; exact Int32.lt_irrefl)).2.1 (by decide) (by decide) ?_
    refine o_iconst (pc := 32) X hx (1 : Int32) (hb hby o_d35_32) rfl ?_
    exact o_retN (pc := 33) X hx .boolean hret hlk (by simp) (hb hby o_d35_33) eT (Nat.zero_le _) (Nat.zero_le _) (q1 exy)
  | succ r ih =>
    intro j hj ht
    obtain ⟨ix1, ix2, ix3⟩ := o_ix (n := n) (j := j) (by omega)
    have hx1 : j < xs.length := by omega
    have hy1 : j < ys.length := by omega
    refine o_iloadN (v := (Nat.toInt32 j)) (pc := 9) X hx (hb hby o_d35_9) rfl ?_
    refine o_aloadN (v := (.ref d1)) (pc := 10) X hx (hb hby o_d35_10) rfl rfl ?_
    refine o_arraylength (pc := 11) X hx hZ eT V1 (hb hby o_d35_11) ?_
    refine o_icmpNo (pc := 12) X hx (hb hby o_d35_12) (tlt ix1.2).2.1 ?_
    refine o_aloadN (v := (.ref d1)) (pc := 15) X hx (hb hby o_d35_15) rfl rfl ?_
    refine o_iloadN (v := (Nat.toInt32 j)) (pc := 16) X hx (hb hby o_d35_16) rfl ?_
    refine o_baload (v := (.int xs[j])) (pc := 17) X hx hZ eT V1 ix1 (by rw [ix2]; simp [List.getD_eq_getElem?_getD, hx1]) (hb hby o_d35_17) ?_
    refine o_aloadN (v := (.ref d2)) (pc := 18) X hx (hb hby o_d35_18) rfl rfl ?_
    refine o_iloadN (v := (Nat.toInt32 j)) (pc := 19) X hx (hb hby o_d35_19) rfl ?_
    refine o_baload (v := (.int ys[j])) (pc := 20) X hx hZ eT V2 ix1 (by rw [ix2]; simp [List.getD_eq_getElem?_getD, hy1]) (hb hby o_d35_20) ?_
    by_cases hc : xs[j] = ys[j]
    · refine o_icmpYes (pc := 21) X hx 26 (hb hby o_d35_21) (teq hc).1 (by decide) (by decide) ?_
      refine o_iinc (x := (Nat.toInt32 j)) (l' := #[.val (.ref d1), .val (.ref d2), .val (.int ((Nat.toInt32 j) + 1))]) (pc := 26) X hx (1 : Int32) (hb hby o_d35_26) rfl rfl rfl ?_
      refine o_goto (pc := 29) X hx 9 (hb hby o_d35_29) (by decide) (by decide) ?_
      rw [o_ixs ix3]
      exact ih (j + 1) (by omega) (by rw [List.take_succ_eq_append_getElem hx1, List.take_succ_eq_append_getElem hy1, ht, hc])
    · refine o_icmpNo (pc := 21) X hx (hb hby o_d35_21) (feq hc).1 ?_
      refine o_iconst (pc := 24) X hx (0 : Int32) (hb hby o_d35_24) rfl ?_
      exact o_retN (pc := 25) X hx .boolean hret hlk (by simp) (hb hby o_d35_25) eT (Nat.zero_le _) (Nat.zero_le _) (q0 fun q => hc (by subst q; rfl))
theorem o_pn_l1 : plainName "java/lang/StringLatin1" = true := by first | (simp [plainName, overriddenIn]; done) | decide +kernel
theorem o_mapinj {xs ys : List Int32} (h : xs.map Value.int = ys.map Value.int) : xs = ys := by
  induction xs generalizing ys with
  | nil => cases ys with
    | nil => rfl
    | cons y r => simp at h
  | cons x r ih => cases ys with
    | nil => simp at h
    | cons y q => simp only [List.map_cons, List.cons.injEq, Value.int.injEq] at h; rw [h.1, ih h.2]
set_option maxRecDepth 65536 in
theorem rmLEL (l : Launch) (Z : State) (a0 : Array Value) (hw : ∀ d ∈ tables_1, d.before a0 Z = true) (ws : List Jvm.Cond) (d1 d2 : Addr) (k1 k2 : ClassId) (xs ys : List Int32) (n : Int32) (h0 : Heap) (n0 : Nat) (O0 : Old Z n0 h0) (V1 : Arv Z h0 d1 k1 .byte n (xs.map Value.int) (.int 0)) (V2 : Arv Z h0 d2 k2 .byte n (ys.map Value.int) (.int 0)) (hl1 : n.toNatClampNeg = xs.length) (hl2 : n.toNatClampNeg = ys.length) (hn : ¬ n < 0) :
    Ct l Z (⟨"java/lang/StringLatin1", "equals", "([B[B)Z"⟩ : MethodName) jdk_43_method_13_code 3 (some .boolean) ({ frames := 0, cells := 0, slots := 0, locals := 0 } : Room) ws #[(.ref d1), (.ref d2)] h0 (fun v h L => v = some (.int (if xs = ys then (1 : Int32) else 0)) ∧ Fr n0 L ∧ h0 = h) := by
  refine o_body (plainFor_of_name o_pn_l1) ?_
  intro p e s m below meth c s₁ X0 hx hby hml hret hlk hown hnm hZ e0
  refine o_top (g' := (mkF m 0 #[.val (.ref d1), .val (.ref d2), .unset] [])) (by first | (simp [entryFrame, mkF, argsToLocals, Value.category]; done) | rfl) ?_
  refine o_aloadN (v := (.ref d1)) (pc := 0) X0 hx (hb hby o_d35_0) rfl rfl ?_
  refine o_arraylength (pc := 1) X0 hx hZ e0 V1 (hb hby o_d35_1) ?_
  refine o_aloadN (v := (.ref d2)) (pc := 2) X0 hx (hb hby o_d35_2) rfl rfl ?_
  refine o_arraylength (pc := 3) X0 hx hZ e0 V2 (hb hby o_d35_3) ?_
  refine o_icmpNo (pc := 4) X0 hx (hb hby o_d35_4) (teq (rfl : n = n)).2 ?_
  refine o_iconst (pc := 7) X0 hx (0 : Int32) (hb hby o_d35_7) rfl ?_
  refine o_istoreN (l' := #[.val (.ref d1), .val (.ref d2), .val (.int (0 : Int32))]) (pc := 8) X0 hx (hb hby o_d35_8) rfl ?_
  exact loopLE X0 hx hby hret hlk hZ e0 V1 V2 hl1 hl2 hn (fun q => ⟨by rw [if_pos q], Fr.nil n0, rfl⟩) (fun q => ⟨by rw [if_neg q], Fr.nil n0, rfl⟩) xs.length 0 (Nat.zero_add _) rfl
theorem o_d34_0 : decode jdk_42_method_66_code 0 = .ok (.aload_n 0, 1) := by decide +kernel
theorem o_d34_1 : decode jdk_42_method_66_code 1 = .ok (.aload_n 1, 1) := by decide +kernel
theorem o_d34_2 : decode jdk_42_method_66_code 2 = .ok (.if_acmp .ne 5, 3) := by decide +kernel
theorem o_d34_5 : decode jdk_42_method_66_code 5 = .ok (.iconst 1, 1) := by decide +kernel
theorem o_d34_6 : decode jdk_42_method_66_code 6 = .ok (.ireturn, 1) := by decide +kernel
theorem o_d34_7 : decode jdk_42_method_66_code 7 = .ok (.aload_n 1, 1) := by decide +kernel
theorem o_d34_8 : decode jdk_42_method_66_code 8 = .ok (.instanceof 10, 3) := by decide +kernel
theorem o_d34_11 : decode jdk_42_method_66_code 11 = .ok (.ifCond .eq 43, 3) := by decide +kernel
theorem o_d34_14 : decode jdk_42_method_66_code 14 = .ok (.aload_n 1, 1) := by decide +kernel
theorem o_d34_15 : decode jdk_42_method_66_code 15 = .ok (.checkcast 10, 3) := by decide +kernel
theorem o_d34_18 : decode jdk_42_method_66_code 18 = .ok (.astore_n 2, 1) := by decide +kernel
theorem o_d34_19 : decode jdk_42_method_66_code 19 = .ok (.getstatic 38, 3) := by decide +kernel
theorem o_d34_22 : decode jdk_42_method_66_code 22 = .ok (.ifCond .eq 14, 3) := by decide +kernel
theorem o_d34_25 : decode jdk_42_method_66_code 25 = .ok (.aload_n 0, 1) := by decide +kernel
theorem o_d34_26 : decode jdk_42_method_66_code 26 = .ok (.getfield 15, 3) := by decide +kernel
theorem o_d34_29 : decode jdk_42_method_66_code 29 = .ok (.aload_n 2, 1) := by decide +kernel
theorem o_d34_30 : decode jdk_42_method_66_code 30 = .ok (.getfield 15, 3) := by decide +kernel
theorem o_d34_33 : decode jdk_42_method_66_code 33 = .ok (.if_icmp .ne 21, 3) := by decide +kernel
theorem o_d34_36 : decode jdk_42_method_66_code 36 = .ok (.aload_n 0, 1) := by decide +kernel
theorem o_d34_37 : decode jdk_42_method_66_code 37 = .ok (.getfield 9, 3) := by decide +kernel
theorem o_d34_40 : decode jdk_42_method_66_code 40 = .ok (.aload_n 2, 1) := by decide +kernel
theorem o_d34_41 : decode jdk_42_method_66_code 41 = .ok (.getfield 9, 3) := by decide +kernel
theorem o_d34_44 : decode jdk_42_method_66_code 44 = .ok (.invokestatic 541, 3) := by decide +kernel
theorem o_pd4 : parseMethodDescriptor "([B[B)Z" = some ⟨[(.array .byte), (.array .byte)], some .boolean⟩ := by decide +kernel
theorem o_d34_47 : decode jdk_42_method_66_code 47 = .ok (.ifCond .eq 7, 3) := by decide +kernel
theorem o_d34_54 : decode jdk_42_method_66_code 54 = .ok (.iconst 0, 1) := by decide +kernel
theorem o_d34_55 : decode jdk_42_method_66_code 55 = .ok (.ireturn, 1) := by decide +kernel
theorem o_d34_50 : decode jdk_42_method_66_code 50 = .ok (.iconst 1, 1) := by decide +kernel
theorem o_d34_51 : decode jdk_42_method_66_code 51 = .ok (.goto 4, 3) := by decide +kernel
set_option maxRecDepth 65536 in
set_option maxHeartbeats 40000000 in
theorem rmEQL (l : Launch) (Z : State) (a0 : Array Value) (hw : ∀ d ∈ tables_1, d.before a0 Z = true) (ws : List Jvm.Cond) (a1 a2 d1 d2 : Addr) (k1 k2 : ClassId) (cs : Int32) (xs ys : List Int32) (n : Int32) (h0 : Heap) (n0 : Nat) (O0 : Old Z n0 h0) (E1 : Exa Z h0 a1 "java/lang/String") (C1 : Fld Z h0 a1 "java/lang/String" "coder" "B" (.int (0 : Int32))) (F1 : Fld Z h0 a1 "java/lang/String" "value" "[B" (.ref d1)) (E2 : Exa Z h0 a2 "java/lang/String") (C2 : Fld Z h0 a2 "java/lang/String" "coder" "B" (.int (0 : Int32))) (F2 : Fld Z h0 a2 "java/lang/String" "value" "[B" (.ref d2)) (Vd1 : Arv Z h0 d1 k1 .byte n (xs.map Value.int) (.int 0)) (Vd2 : Arv Z h0 d2 k2 .byte n (ys.map Value.int) (.int 0)) (SC : Sta Z Z.heap "java/lang/String" "COMPACT_STRINGS" "Z" (.int cs)) (hcs : ¬ cs = (0 : Int32)) (hl1 : n.toNatClampNeg = xs.length) (hl2 : n.toNatClampNeg = ys.length) (hn : ¬ n < 0) :
    Ct l Z (⟨"java/lang/String", "equals", "(Ljava/lang/Object;)Z"⟩ : MethodName) jdk_42_method_66_code 3 (some .boolean) ({ frames := 1, cells := 0, slots := 0, locals := 14 } : Room) ws #[(.ref a1), (.ref a2)] h0 (fun v h L => v = some (.int (if xs = ys then (1 : Int32) else 0)) ∧ Fr n0 L ∧ h0 = h) := by
  refine o_body (plainFor_of_name o_pn_java_lang_String) ?_
  intro p e s m below meth c s₁ X0 hx hby hml hret hlk hown hnm hZ e0
  have N0 := Fr.nil n0
  refine o_top (g' := (mkF m 0 #[.val (.ref a1), .val (.ref a2), .unset] [])) (by first | (simp [entryFrame, mkF, argsToLocals, Value.category]; done) | rfl) ?_
  refine o_aloadN (v := (.ref a1)) (pc := 0) X0 hx (hb hby o_d34_0) rfl rfl ?_
  refine o_aloadN (v := (.ref a2)) (pc := 1) X0 hx (hb hby o_d34_1) rfl rfl ?_
  by_cases hc17 : a1 = a2
  · skip
    refine o_acmp (x := (.ref a1)) (y := (.ref a2)) (pc := 2) X0 hx 5 true rfl rfl (hb hby o_d34_2) (decide_eq_true (congrArg Value.ref hc17)) (by decide) (by decide) ?_
    refine o_iconst (pc := 5) X0 hx (1 : Int32) (hb hby o_d34_5) rfl ?_
    exact o_retN (pc := 6) X0 hx .boolean hret hlk (by simp) (hb hby o_d34_6) e0 (by decide) (by decide) ⟨by rw [if_pos (o_mapinj (o_same hc17 F1 F2 Vd1 Vd2 (by simpa using hl1) (by simpa using hl2)))]; rfl, N0, rfl⟩
  · skip
    refine o_acmp (x := (.ref a1)) (y := (.ref a2)) (pc := 2) X0 hx 7 false rfl rfl (hb hby o_d34_2) (decide_eq_false fun q => hc17 (Value.ref.inj q)) (by decide) (by decide) ?_
    refine o_aloadN (v := (.ref a2)) (pc := 7) X0 hx (hb hby o_d34_7) rfl rfl ?_
    refine o_instY (pc := 8) X0 hx hZ hown (hw _ (List.mem_of_getElem? (i := 218) rfl)) e0 (Ins.self E2) (hb hby o_d34_8) fun T18 X18 e18 => ?_
    refine o_ifNo (pc := 11) X18 hx (hb hby o_d34_11) ((if0 _ _).trans (feq (by decide : ¬ ((1 : Int32) = (0 : Int32)))).1) ?_
    refine o_aloadN (v := (.ref a2)) (pc := 14) X18 hx (hb hby o_d34_14) rfl rfl ?_
    refine o_cast (pc := 15) X18 hx hZ hown (hw _ (List.mem_of_getElem? (i := 218) rfl)) e18 (Ins.self E2) (hb hby o_d34_15) fun T19 X19 e19 => ?_
    refine o_astoreN (l' := #[.val (.ref a1), .val (.ref a2), .val (.ref a2)]) (pc := 18) X19 hx (hb hby o_d34_18) rfl rfl ?_
    refine o_getS (pc := 19) X19 hx hZ hown (host := "") (Or.inl (hw _ (List.mem_of_getElem? (i := 57) rfl))) Via.refl e19 (SC.ext O0.2) (hb hby o_d34_19) fun T20 X20 e20 => ?_
    refine o_ifNo (pc := 22) X20 hx (hb hby o_d34_22) ((if0 _ _).trans (feq hcs).1) ?_
    refine o_aloadN (v := (.ref a1)) (pc := 25) X20 hx (hb hby o_d34_25) rfl rfl ?_
    refine o_getF (pc := 26) X20 hx hZ hown (host := "") (Or.inl (hw _ (List.mem_of_getElem? (i := 58) rfl))) Via.refl e20 C1 (hb hby o_d34_26) fun T21 X21 e21 => ?_
    refine o_aloadN (v := (.ref a2)) (pc := 29) X21 hx (hb hby o_d34_29) rfl rfl ?_
    refine o_getF (pc := 30) X21 hx hZ hown (host := "") (Or.inl (hw _ (List.mem_of_getElem? (i := 58) rfl))) Via.refl e21 C2 (hb hby o_d34_30) fun T22 X22 e22 => ?_
    refine o_icmpNo (pc := 33) X22 hx (hb hby o_d34_33) (teq (by decide : (0 : Int32) = (0 : Int32))).2 ?_
    refine o_aloadN (v := (.ref a1)) (pc := 36) X22 hx (hb hby o_d34_36) rfl rfl ?_
    refine o_getF (pc := 37) X22 hx hZ hown (host := "") (Or.inl (hw _ (List.mem_of_getElem? (i := 51) rfl))) Via.refl e22 F1 (hb hby o_d34_37) fun T23 X23 e23 => ?_
    refine o_aloadN (v := (.ref a2)) (pc := 40) X23 hx (hb hby o_d34_40) rfl rfl ?_
    refine o_getF (pc := 41) X23 hx hZ hown (host := "") (Or.inl (hw _ (List.mem_of_getElem? (i := 51) rfl))) Via.refl e23 F2 (hb hby o_d34_41) fun T24 X24 e24 => ?_
    refine o_callS (pc := 44) X24 hx hZ (y := (⟨"java/lang/StringLatin1", "equals", "([B[B)Z"⟩ : MethodName)) (argsL := [(.ref d1), (.ref d2)]) (rest := []) hown (hw _ (List.mem_of_getElem? (i := 219) rfl)) (hw _ (List.mem_of_getElem? (i := 220) rfl)) (hw _ (List.mem_of_getElem? (i := 221) rfl)) (hw _ (List.mem_of_getElem? (i := 222) rfl)) (by decide) (rmLEL l Z a0 hw [] d1 d2 k1 k2 xs ys n h0 n0 O0 Vd1 Vd2 hl1 hl2 hn) e24 (by rw [hml]; rfl) (lenOf o_pd4 rfl) (has := rfl) (hst := rfl) (W := 0) (Nat.le_of_ble_eq_true rfl) (hb hby o_d34_44) (by decide) (by decide) (by decide) (by decide) fun v25 T25 h25 L25 X25 e25 q25 => ?_
    obtain ⟨rfl, N25q, rfl⟩ := q25
    have N25 := Fr.app N0 N25q
    show Go p e below T25 (mkF m 47 #[.val (.ref a1), .val (.ref a2), .val (.ref a2)] [(.int (if xs = ys then (1 : Int32) else 0))]) _
    by_cases hc26 : (if xs = ys then (1 : Int32) else 0) = (0 : Int32)
    · skip
      refine o_ifYes (pc := 47) X25 hx 54 (hb hby o_d34_47) ((if0 _ _).trans (teq hc26).1) (by decide) (by decide) ?_
      refine o_iconst (pc := 54) X25 hx (0 : Int32) (hb hby o_d34_54) rfl ?_
      exact o_retN (pc := 55) X25 hx .boolean hret hlk (by simp) (hb hby o_d34_55) e25 (by decide) (by decide) ⟨by by_cases q : xs = ys; (rw [if_pos q] at hc26 ⊢; first | rfl | exact absurd hc26 (by decide)); (rw [if_neg q] at hc26 ⊢; first | rfl | exact absurd rfl hc26), N25, rfl⟩
    · skip
      refine o_ifNo (pc := 47) X25 hx (hb hby o_d34_47) ((if0 _ _).trans (feq hc26).1) ?_
      refine o_iconst (pc := 50) X25 hx (1 : Int32) (hb hby o_d34_50) rfl ?_
      refine o_goto (pc := 51) X25 hx 55 (hb hby o_d34_51) (by decide) (by decide) ?_
      exact o_retN (pc := 55) X25 hx .boolean hret hlk (by simp) (hb hby o_d34_55) e25 (by decide) (by decide) ⟨by by_cases q : xs = ys; (rw [if_pos q] at hc26 ⊢; first | rfl | exact absurd hc26 (by decide)); (rw [if_neg q] at hc26 ⊢; first | rfl | exact absurd rfl hc26), N25, rfl⟩
theorem o_d8_0 : decode jdk_42_method_152_code 0 = .ok (.getstatic 38, 3) := by decide +kernel
theorem o_d8_3 : decode jdk_42_method_152_code 3 = .ok (.ifCond .eq 10, 3) := by decide +kernel
theorem o_d8_6 : decode jdk_42_method_152_code 6 = .ok (.aload_n 0, 1) := by decide +kernel
theorem o_d8_7 : decode jdk_42_method_152_code 7 = .ok (.getfield 15, 3) := by decide +kernel
theorem o_d8_10 : decode jdk_42_method_152_code 10 = .ok (.goto 4, 3) := by decide +kernel
theorem o_d8_14 : decode jdk_42_method_152_code 14 = .ok (.ireturn, 1) := by decide +kernel
set_option maxRecDepth 65536 in
set_option maxHeartbeats 40000000 in
theorem rmCoder (l : Launch) (Z : State) (a0 : Array Value) (hw : ∀ d ∈ tables_1, d.before a0 Z = true) (ws : List Jvm.Cond) (a2 : Addr) (cs : Int32) (h0 : Heap) (n0 : Nat) (O0 : Old Z n0 h0) (C2 : Fld Z h0 a2 "java/lang/String" "coder" "B" (.int (0 : Int32))) (SC : Sta Z Z.heap "java/lang/String" "COMPACT_STRINGS" "Z" (.int cs)) (hcs : ¬ cs = (0 : Int32)) :
    Ct l Z (⟨"java/lang/String", "coder", "()B"⟩ : MethodName) jdk_42_method_152_code 1 (some .byte) ({ frames := 0, cells := 0, slots := 0, locals := 0 } : Room) ws #[(.ref a2)] h0 (fun v h L => v = some (.int (0 : Int32)) ∧ Fr n0 L ∧ h0 = h) := by
  refine o_body (plainFor_of_name o_pn_java_lang_String) ?_
  intro p e s m below meth c s₁ X0 hx hby hml hret hlk hown hnm hZ e0
  have N0 := Fr.nil n0
  refine o_top (g' := (mkF m 0 #[.val (.ref a2)] [])) (by first | (simp [entryFrame, mkF, argsToLocals, Value.category]; done) | rfl) ?_
  refine o_getS (pc := 0) X0 hx hZ hown (host := "") (Or.inl (hw _ (List.mem_of_getElem? (i := 57) rfl))) Via.refl e0 (SC.ext O0.2) (hb hby o_d8_0) fun T27 X27 e27 => ?_
  refine o_ifNo (pc := 3) X27 hx (hb hby o_d8_3) ((if0 _ _).trans (feq hcs).1) ?_
  refine o_aloadN (v := (.ref a2)) (pc := 6) X27 hx (hb hby o_d8_6) rfl rfl ?_
  refine o_getF (pc := 7) X27 hx hZ hown (host := "") (Or.inl (hw _ (List.mem_of_getElem? (i := 58) rfl))) Via.refl e27 C2 (hb hby o_d8_7) fun T28 X28 e28 => ?_
  refine o_goto (pc := 10) X28 hx 14 (hb hby o_d8_10) (by decide) (by decide) ?_
  exact o_retN (pc := 14) X28 hx .byte hret hlk (by simp) (hb hby o_d8_14) e28 (by decide) (by decide) ⟨rfl, N0, rfl⟩
theorem o_d7_0 : decode jdk_42_method_54_code 0 = .ok (.aload_n 0, 1) := by decide +kernel
theorem o_d7_1 : decode jdk_42_method_54_code 1 = .ok (.getfield 9, 3) := by decide +kernel
theorem o_d7_4 : decode jdk_42_method_54_code 4 = .ok (.arraylength, 1) := by decide +kernel
theorem o_d7_5 : decode jdk_42_method_54_code 5 = .ok (.aload_n 0, 1) := by decide +kernel
theorem o_d7_6 : decode jdk_42_method_54_code 6 = .ok (.invokevirtual 335, 3) := by decide +kernel
theorem o_pd5 : parseMethodDescriptor "()B" = some ⟨[], some .byte⟩ := by decide +kernel
theorem o_d7_9 : decode jdk_42_method_54_code 9 = .ok (.ishr, 1) := by decide +kernel
theorem o_d7_10 : decode jdk_42_method_54_code 10 = .ok (.ireturn, 1) := by decide +kernel
set_option maxRecDepth 65536 in
set_option maxHeartbeats 40000000 in
theorem rmLen (l : Launch) (Z : State) (a0 : Array Value) (hw : ∀ d ∈ tables_1, d.before a0 Z = true) (ws : List Jvm.Cond) (a2 d2 : Addr) (z : Int32) (cs : Int32) (h0 : Heap) (n0 : Nat) (O0 : Old Z n0 h0) (E2 : Exa Z h0 a2 "java/lang/String") (C2 : Fld Z h0 a2 "java/lang/String" "coder" "B" (.int (0 : Int32))) (F2 : Fld Z h0 a2 "java/lang/String" "value" "[B" (.ref d2)) (V2 : Byt Z h0 d2 z) (SC : Sta Z Z.heap "java/lang/String" "COMPACT_STRINGS" "Z" (.int cs)) (hcs : ¬ cs = (0 : Int32)) :
    Ct l Z (⟨"java/lang/String", "length", "()I"⟩ : MethodName) jdk_42_method_54_code 1 (some .int) ({ frames := 1, cells := 0, slots := 0, locals := 13 } : Room) ws #[(.ref a2)] h0 (fun v h L => v = some (.int z) ∧ Fr n0 L ∧ h0 = h) := by
  refine o_body (plainFor_of_name o_pn_java_lang_String) ?_
  intro p e s m below meth c s₁ X0 hx hby hml hret hlk hown hnm hZ e0
  have N0 := Fr.nil n0
  refine o_top (g' := (mkF m 0 #[.val (.ref a2)] [])) (by first | (simp [entryFrame, mkF, argsToLocals, Value.category]; done) | rfl) ?_
  refine o_aloadN (v := (.ref a2)) (pc := 0) X0 hx (hb hby o_d7_0) rfl rfl ?_
  refine o_getF (pc := 1) X0 hx hZ hown (host := "") (Or.inl (hw _ (List.mem_of_getElem? (i := 51) rfl))) Via.refl e0 F2 (hb hby o_d7_1) fun T29 X29 e29 => ?_
  refine o_lenB (pc := 4) X29 hx hZ e29 V2 (hb hby o_d7_4) ?_
  refine o_aloadN (v := (.ref a2)) (pc := 5) X29 hx (hb hby o_d7_5) rfl rfl ?_
  refine o_callV (pc := 6) X29 hx hZ (y := (⟨"java/lang/String", "coder", "()B"⟩ : MethodName)) (z := (⟨"java/lang/String", "coder", "()B"⟩ : MethodName)) (C := "java/lang/String") (a := a2) (argsL := []) (rest := [(.int z)]) hown (hw _ (List.mem_of_getElem? (i := 52) rfl)) (hw _ (List.mem_of_getElem? (i := 53) rfl)) (notFace_of_selects (args := #[]) (mvT hZ (hw _ (List.mem_of_getElem? (i := 55) rfl)))) (hw _ (List.mem_of_getElem? (i := 55) rfl)) (hw _ (List.mem_of_getElem? (i := 54) rfl)) (hw _ (List.mem_of_getElem? (i := 2) rfl)) (hw _ (List.mem_of_getElem? (i := 56) rfl)) (by decide) (rmCoder l Z a0 hw [] a2 cs h0 n0 O0 C2 SC hcs) e29 E2 (by rw [hml]; rfl) (lenOf o_pd5 rfl) (has := rfl) (hst := rfl) (W := 1) (Nat.le_of_ble_eq_true rfl) (hb hby o_d7_6) (by decide) (by decide) (by decide) (by decide) fun v30 T30 h30 L30 X30 e30 q30 => ?_
  obtain ⟨rfl, N30q, rfl⟩ := q30
  have N30 := Fr.app N0 N30q
  show Go p e below T30 (mkF m 9 #[.val (.ref a2)] [(.int (0 : Int32)), (.int z)]) _
  refine o_ishr (pc := 9) X30 hx (hb hby o_d7_9) ?_
  rw [o_shr0 z]
  exact o_retI (pc := 10) X30 hx hret hlk (hb hby o_d7_10) e30 (by decide) (by decide) ⟨rfl, N30, rfl⟩
theorem o_d15_0 : decode jdk_29_method_65_code 0 = .ok (.iload_n 0, 1) := by decide +kernel
theorem o_d15_1 : decode jdk_29_method_65_code 1 = .ok (.iload_n 1, 1) := by decide +kernel
theorem o_d15_2 : decode jdk_29_method_65_code 2 = .ok (.if_icmp .lt 7, 3) := by decide +kernel
theorem o_d15_9 : decode jdk_29_method_65_code 9 = .ok (.iload_n 1, 1) := by decide +kernel
theorem o_d15_10 : decode jdk_29_method_65_code 10 = .ok (.ireturn, 1) := by decide +kernel
theorem o_d15_5 : decode jdk_29_method_65_code 5 = .ok (.iload_n 0, 1) := by decide +kernel
theorem o_d15_6 : decode jdk_29_method_65_code 6 = .ok (.goto 4, 3) := by decide +kernel
set_option maxRecDepth 65536 in
set_option maxHeartbeats 40000000 in
theorem rm_max (l : Launch) (Z : State) (a0 : Array Value) (hw : ∀ d ∈ tables_1, d.before a0 Z = true) (ws : List Jvm.Cond) (x y : Int32) (h0 : Heap) (n0 : Nat) (O0 : Old Z n0 h0) :
    Ct l Z (⟨"java/lang/Math", "max", "(II)I"⟩ : MethodName) jdk_29_method_65_code 2 (some .int) ({ frames := 0, cells := 0, slots := 0, locals := 0 } : Room) ws #[(.int x), (.int y)] h0 (fun v h L => v = some (.int (if x < y then y else x)) ∧ Fr n0 L ∧ h0 = h) := by
  refine o_body (Jvm.Free.JP.mathPlain rfl (by decide +kernel)) ?_
  intro p e s m below meth c s₁ X0 hx hby hml hret hlk hown hnm hZ e0
  have N0 := Fr.nil n0
  refine o_top (g' := (mkF m 0 #[.val (.int x), .val (.int y)] [])) (by first | (simp [entryFrame, mkF, argsToLocals, Value.category]; done) | rfl) ?_
  refine o_iloadN (v := x) (pc := 0) X0 hx (hb hby o_d15_0) rfl ?_
  refine o_iloadN (v := y) (pc := 1) X0 hx (hb hby o_d15_1) rfl ?_
  by_cases hc31 : x < y
  · skip
    refine o_icmpYes (pc := 2) X0 hx 9 (hb hby o_d15_2) (tlt hc31).1 (by decide) (by decide) ?_
    refine o_iloadN (v := y) (pc := 9) X0 hx (hb hby o_d15_9) rfl ?_
    exact o_retI (pc := 10) X0 hx hret hlk (hb hby o_d15_10) e0 (by decide) (by decide) ⟨by simp [hc31], N0, rfl⟩
  · skip
    refine o_icmpNo (pc := 2) X0 hx (hb hby o_d15_2) (flt hc31).1 ?_
    refine o_iloadN (v := x) (pc := 5) X0 hx (hb hby o_d15_5) rfl ?_
    refine o_goto (pc := 6) X0 hx 10 (hb hby o_d15_6) (by decide) (by decide) ?_
    exact o_retI (pc := 10) X0 hx hret hlk (hb hby o_d15_10) e0 (by decide) (by decide) ⟨by simp [hc31], N0, rfl⟩
theorem o_d17_0 : decode jdk_29_method_69_code 0 = .ok (.iload_n 0, 1) := by decide +kernel
theorem o_d17_1 : decode jdk_29_method_69_code 1 = .ok (.iload_n 1, 1) := by decide +kernel
theorem o_d17_2 : decode jdk_29_method_69_code 2 = .ok (.if_icmp .gt 7, 3) := by decide +kernel
theorem o_d17_9 : decode jdk_29_method_69_code 9 = .ok (.iload_n 1, 1) := by decide +kernel
theorem o_d17_10 : decode jdk_29_method_69_code 10 = .ok (.ireturn, 1) := by decide +kernel
theorem o_d17_5 : decode jdk_29_method_69_code 5 = .ok (.iload_n 0, 1) := by decide +kernel
theorem o_d17_6 : decode jdk_29_method_69_code 6 = .ok (.goto 4, 3) := by decide +kernel
set_option maxRecDepth 65536 in
set_option maxHeartbeats 40000000 in
theorem rm_min (l : Launch) (Z : State) (a0 : Array Value) (hw : ∀ d ∈ tables_1, d.before a0 Z = true) (ws : List Jvm.Cond) (x y : Int32) (h0 : Heap) (n0 : Nat) (O0 : Old Z n0 h0) :
    Ct l Z (⟨"java/lang/Math", "min", "(II)I"⟩ : MethodName) jdk_29_method_69_code 2 (some .int) ({ frames := 0, cells := 0, slots := 0, locals := 0 } : Room) ws #[(.int x), (.int y)] h0 (fun v h L => v = some (.int (if y < x then y else x)) ∧ Fr n0 L ∧ h0 = h) := by
  refine o_body (Jvm.Free.JP.mathPlain rfl (by decide +kernel)) ?_
  intro p e s m below meth c s₁ X0 hx hby hml hret hlk hown hnm hZ e0
  have N0 := Fr.nil n0
  refine o_top (g' := (mkF m 0 #[.val (.int x), .val (.int y)] [])) (by first | (simp [entryFrame, mkF, argsToLocals, Value.category]; done) | rfl) ?_
  refine o_iloadN (v := x) (pc := 0) X0 hx (hb hby o_d17_0) rfl ?_
  refine o_iloadN (v := y) (pc := 1) X0 hx (hb hby o_d17_1) rfl ?_
  by_cases hc32 : y < x
  · skip
    refine o_icmpYes (pc := 2) X0 hx 9 (hb hby o_d17_2) (tlt hc32).2.2.1 (by decide) (by decide) ?_
    refine o_iloadN (v := y) (pc := 9) X0 hx (hb hby o_d17_9) rfl ?_
    exact o_retI (pc := 10) X0 hx hret hlk (hb hby o_d17_10) e0 (by decide) (by decide) ⟨by simp [hc32], N0, rfl⟩
  · skip
    refine o_icmpNo (pc := 2) X0 hx (hb hby o_d17_2) (flt hc32).2.2.1 ?_
    refine o_iloadN (v := x) (pc := 5) X0 hx (hb hby o_d17_5) rfl ?_
    refine o_goto (pc := 6) X0 hx 10 (hb hby o_d17_6) (by decide) (by decide) ?_
    exact o_retI (pc := 10) X0 hx hret hlk (hb hby o_d17_10) e0 (by decide) (by decide) ⟨by simp [hc32], N0, rfl⟩
theorem o_pn_jdk_internal_util_ArraysSupport : plainName "jdk/internal/util/ArraysSupport" = true := by first | (simp [plainName, overriddenIn]; done) | decide +kernel
theorem o_d14_0 : decode jdk_48_method_27_code 0 = .ok (.iload_n 0, 1) := by decide +kernel
theorem o_d14_1 : decode jdk_48_method_27_code 1 = .ok (.iload_n 1, 1) := by decide +kernel
theorem o_d14_2 : decode jdk_48_method_27_code 2 = .ok (.iload_n 2, 1) := by decide +kernel
theorem o_d14_3 : decode jdk_48_method_27_code 3 = .ok (.invokestatic 194, 3) := by decide +kernel
theorem o_pd6 : parseMethodDescriptor "(II)I" = some ⟨[.int, .int], some .int⟩ := by decide +kernel
theorem o_d14_6 : decode jdk_48_method_27_code 6 = .ok (.iadd, 1) := by decide +kernel
theorem o_d14_7 : decode jdk_48_method_27_code 7 = .ok (.istore_n 3, 1) := by decide +kernel
theorem o_d14_8 : decode jdk_48_method_27_code 8 = .ok (.iconst 0, 1) := by decide +kernel
theorem o_d14_9 : decode jdk_48_method_27_code 9 = .ok (.iload_n 3, 1) := by decide +kernel
theorem o_d14_10 : decode jdk_48_method_27_code 10 = .ok (.if_icmp .ge 11, 3) := by decide +kernel
theorem o_d14_13 : decode jdk_48_method_27_code 13 = .ok (.iload_n 3, 1) := by decide +kernel
theorem o_d14_14 : decode jdk_48_method_27_code 14 = .ok (.ldc 200, 2) := by decide +kernel
theorem o_d14_16 : decode jdk_48_method_27_code 16 = .ok (.if_icmp .gt 5, 3) := by decide +kernel
theorem o_d14_19 : decode jdk_48_method_27_code 19 = .ok (.iload_n 3, 1) := by decide +kernel
theorem o_d14_20 : decode jdk_48_method_27_code 20 = .ok (.ireturn, 1) := by decide +kernel
set_option maxRecDepth 65536 in
set_option maxHeartbeats 40000000 in
theorem rmNL (l : Launch) (Z : State) (a0 : Array Value) (hw : ∀ d ∈ tables_1, d.before a0 Z = true) (ws : List Jvm.Cond) (g : Int32) (h0 : Heap) (n0 : Nat) (O0 : Old Z n0 h0) (hg : g < (18 : Int32)) :
    Ct l Z (⟨"jdk/internal/util/ArraysSupport", "newLength", "(III)I"⟩ : MethodName) jdk_48_method_27_code 4 (some .int) ({ frames := 1, cells := 0, slots := 0, locals := 14 } : Room) ws #[(.int (16 : Int32)), (.int g), (.int (18 : Int32))] h0 (fun v h L => v = some (.int (34 : Int32)) ∧ Fr n0 L ∧ h0 = h) := by
  refine o_body (plainFor_of_name o_pn_jdk_internal_util_ArraysSupport) ?_
  intro p e s m below meth c s₁ X0 hx hby hml hret hlk hown hnm hZ e0
  have N0 := Fr.nil n0
  refine o_top (g' := (mkF m 0 #[.val (.int (16 : Int32)), .val (.int g), .val (.int (18 : Int32)), .unset] [])) (by first | (simp [entryFrame, mkF, argsToLocals, Value.category]; done) | rfl) ?_
  refine o_iloadN (v := (16 : Int32)) (pc := 0) X0 hx (hb hby o_d14_0) rfl ?_
  refine o_iloadN (v := g) (pc := 1) X0 hx (hb hby o_d14_1) rfl ?_
  refine o_iloadN (v := (18 : Int32)) (pc := 2) X0 hx (hb hby o_d14_2) rfl ?_
  refine o_callS (pc := 3) X0 hx hZ (y := (⟨"java/lang/Math", "max", "(II)I"⟩ : MethodName)) (argsL := [(.int g), (.int (18 : Int32))]) (rest := [(.int (16 : Int32))]) hown (hw _ (List.mem_of_getElem? (i := 95) rfl)) (hw _ (List.mem_of_getElem? (i := 96) rfl)) (hw _ (List.mem_of_getElem? (i := 97) rfl)) (hw _ (List.mem_of_getElem? (i := 98) rfl)) (by decide) (rm_max l Z a0 hw [] g (18 : Int32) h0 n0 O0) e0 (by rw [hml]; rfl) (lenOf o_pd6 rfl) (has := rfl) (hst := rfl) (W := 1) (Nat.le_of_ble_eq_true rfl) (hb hby o_d14_3) (by decide) (by decide) (by decide) (by decide) fun v33 T33 h33 L33 X33 e33 q33 => ?_
  obtain ⟨rfl, N33q, rfl⟩ := q33
  have N33 := Fr.app N0 N33q
  rw [if_pos hg]
  show Go p e below T33 (mkF m 6 #[.val (.int (16 : Int32)), .val (.int g), .val (.int (18 : Int32)), .unset] [(.int (18 : Int32)), (.int (16 : Int32))]) _
  refine o_iadd (pc := 6) X33 hx (hb hby o_d14_6) ?_
  rw [show ((16 : Int32) + (18 : Int32)) = (34 : Int32) from rfl]
  refine o_istoreN (l' := #[.val (.int (16 : Int32)), .val (.int g), .val (.int (18 : Int32)), .val (.int (34 : Int32))]) (pc := 7) X33 hx (hb hby o_d14_7) rfl ?_
  refine o_iconst (pc := 8) X33 hx (0 : Int32) (hb hby o_d14_8) rfl ?_
  refine o_iloadN (v := (34 : Int32)) (pc := 9) X33 hx (hb hby o_d14_9) rfl ?_
  refine o_icmpNo (pc := 10) X33 hx (hb hby o_d14_10) (tlt (by decide : (0 : Int32) < (34 : Int32))).2.1 ?_
  refine o_iloadN (v := (34 : Int32)) (pc := 13) X33 hx (hb hby o_d14_13) rfl ?_
  refine o_ldcI (pc := 14) X33 hx hZ hown (hw _ (List.mem_of_getElem? (i := 99) rfl)) (hb hby o_d14_14) ?_
  refine o_icmpNo (pc := 16) X33 hx (hb hby o_d14_16) (flt (by decide : ¬ ((2147483639 : Int32) < (34 : Int32)))).2.2.1 ?_
  refine o_iloadN (v := (34 : Int32)) (pc := 19) X33 hx (hb hby o_d14_19) rfl ?_
  exact o_retI (pc := 20) X33 hx hret hlk (hb hby o_d14_20) e33 (by decide) (by decide) ⟨rfl, N33, rfl⟩
theorem o_pn_java_lang_AbstractStringBuilder : plainName "java/lang/AbstractStringBuilder" = true := by first | (simp [plainName, overriddenIn]; done) | decide +kernel
theorem o_d13_0 : decode jdk_68_method_10_code 0 = .ok (.aload_n 0, 1) := by decide +kernel
theorem o_d13_1 : decode jdk_68_method_10_code 1 = .ok (.getfield 15, 3) := by decide +kernel
theorem o_d13_4 : decode jdk_68_method_10_code 4 = .ok (.arraylength, 1) := by decide +kernel
theorem o_d13_5 : decode jdk_68_method_10_code 5 = .ok (.istore_n 2, 1) := by decide +kernel
theorem o_d13_6 : decode jdk_68_method_10_code 6 = .ok (.iload_n 1, 1) := by decide +kernel
theorem o_d13_7 : decode jdk_68_method_10_code 7 = .ok (.aload_n 0, 1) := by decide +kernel
theorem o_d13_8 : decode jdk_68_method_10_code 8 = .ok (.getfield 22, 3) := by decide +kernel
theorem o_d13_11 : decode jdk_68_method_10_code 11 = .ok (.ishl, 1) := by decide +kernel
theorem o_d13_12 : decode jdk_68_method_10_code 12 = .ok (.istore_n 3, 1) := by decide +kernel
theorem o_d13_13 : decode jdk_68_method_10_code 13 = .ok (.iload_n 3, 1) := by decide +kernel
theorem o_d13_14 : decode jdk_68_method_10_code 14 = .ok (.iload_n 2, 1) := by decide +kernel
theorem o_d13_15 : decode jdk_68_method_10_code 15 = .ok (.isub, 1) := by decide +kernel
theorem o_d13_16 : decode jdk_68_method_10_code 16 = .ok (.istore 4, 2) := by decide +kernel
theorem o_d13_18 : decode jdk_68_method_10_code 18 = .ok (.iload_n 2, 1) := by decide +kernel
theorem o_d13_19 : decode jdk_68_method_10_code 19 = .ok (.iload 4, 2) := by decide +kernel
theorem o_d13_21 : decode jdk_68_method_10_code 21 = .ok (.iload_n 2, 1) := by decide +kernel
theorem o_d13_22 : decode jdk_68_method_10_code 22 = .ok (.iconst 2, 1) := by decide +kernel
theorem o_d13_23 : decode jdk_68_method_10_code 23 = .ok (.aload_n 0, 1) := by decide +kernel
theorem o_d13_24 : decode jdk_68_method_10_code 24 = .ok (.getfield 22, 3) := by decide +kernel
theorem o_d13_27 : decode jdk_68_method_10_code 27 = .ok (.ishl, 1) := by decide +kernel
theorem o_d13_28 : decode jdk_68_method_10_code 28 = .ok (.iadd, 1) := by decide +kernel
theorem o_d13_29 : decode jdk_68_method_10_code 29 = .ok (.invokestatic 114, 3) := by decide +kernel
theorem o_pd7 : parseMethodDescriptor "(III)I" = some ⟨[.int, .int, .int], some .int⟩ := by decide +kernel
theorem o_d13_32 : decode jdk_68_method_10_code 32 = .ok (.istore 5, 2) := by decide +kernel
theorem o_d13_34 : decode jdk_68_method_10_code 34 = .ok (.iload 5, 2) := by decide +kernel
theorem o_d13_36 : decode jdk_68_method_10_code 36 = .ok (.ldc 39, 2) := by decide +kernel
theorem o_d13_38 : decode jdk_68_method_10_code 38 = .ok (.if_icmp .ne 13, 3) := by decide +kernel
theorem o_d13_51 : decode jdk_68_method_10_code 51 = .ok (.iload 5, 2) := by decide +kernel
theorem o_d13_53 : decode jdk_68_method_10_code 53 = .ok (.aload_n 0, 1) := by decide +kernel
theorem o_d13_54 : decode jdk_68_method_10_code 54 = .ok (.getfield 22, 3) := by decide +kernel
theorem o_d13_57 : decode jdk_68_method_10_code 57 = .ok (.ishr, 1) := by decide +kernel
theorem o_d13_58 : decode jdk_68_method_10_code 58 = .ok (.ireturn, 1) := by decide +kernel
set_option maxRecDepth 65536 in
set_option maxHeartbeats 40000000 in
theorem rmNC (l : Launch) (Z : State) (a0 : Array Value) (hw : ∀ d ∈ tables_1, d.before a0 Z = true) (ws : List Jvm.Cond) (a1 d : Addr) (k mm : Int32) (h0 : Heap) (n0 : Nat) (O0 : Old Z n0 h0) (E1 : Exa Z h0 a1 "java/lang/StringBuilder") (G0 : Fld Z h0 a1 "java/lang/AbstractStringBuilder" "value" "[B" (.ref d)) (G1 : Fld Z h0 a1 "java/lang/AbstractStringBuilder" "coder" "B" (.int (0 : Int32))) (G2 : Fld Z h0 a1 "java/lang/AbstractStringBuilder" "count" "I" (.int k)) (VD : Byt Z h0 d (16 : Int32)) (ED : Exa Z h0 d "[B") (g1 : n0 ≤ a1) (gd : n0 ≤ d) (hne : a1 ≠ d) (hm : (0 : Int32) < mm - (16 : Int32)) (hm2 : (mm - (16 : Int32)) < (18 : Int32)) :
    Ct l Z (⟨"java/lang/AbstractStringBuilder", "newCapacity", "(I)I"⟩ : MethodName) jdk_68_method_10_code 6 (some .int) ({ frames := 2, cells := 0, slots := 0, locals := 29 } : Room) ws #[(.ref a1), (.int mm)] h0 (fun v h L => v = some (.int (34 : Int32)) ∧ Fr n0 L ∧ h0 = h) := by
  refine o_body (plainFor_of_name o_pn_java_lang_AbstractStringBuilder) ?_
  intro p e s m below meth c s₁ X0 hx hby hml hret hlk hown hnm hZ e0
  have N0 := Fr.nil n0
  refine o_top (g' := (mkF m 0 #[.val (.ref a1), .val (.int mm), .unset, .unset, .unset, .unset] [])) (by first | (simp [entryFrame, mkF, argsToLocals, Value.category]; done) | rfl) ?_
  refine o_aloadN (v := (.ref a1)) (pc := 0) X0 hx (hb hby o_d13_0) rfl rfl ?_
  refine o_getF (pc := 1) X0 hx hZ hown (host := "") (Or.inl (hw _ (List.mem_of_getElem? (i := 31) rfl))) Via.refl e0 G0 (hb hby o_d13_1) fun T34 X34 e34 => ?_
  refine o_lenB (pc := 4) X34 hx hZ e34 VD (hb hby o_d13_4) ?_
  refine o_istoreN (l' := #[.val (.ref a1), .val (.int mm), .val (.int (16 : Int32)), .unset, .unset, .unset]) (pc := 5) X34 hx (hb hby o_d13_5) rfl ?_
  refine o_iloadN (v := mm) (pc := 6) X34 hx (hb hby o_d13_6) rfl ?_
  refine o_aloadN (v := (.ref a1)) (pc := 7) X34 hx (hb hby o_d13_7) rfl rfl ?_
  refine o_getF (pc := 8) X34 hx hZ hown (host := "") (Or.inl (hw _ (List.mem_of_getElem? (i := 33) rfl))) Via.refl e34 G1 (hb hby o_d13_8) fun T35 X35 e35 => ?_
  refine o_ishl (pc := 11) X35 hx (hb hby o_d13_11) ?_
  rw [o_shl0 mm]
  refine o_istoreN (l' := #[.val (.ref a1), .val (.int mm), .val (.int (16 : Int32)), .val (.int mm), .unset, .unset]) (pc := 12) X35 hx (hb hby o_d13_12) rfl ?_
  refine o_iloadN (v := mm) (pc := 13) X35 hx (hb hby o_d13_13) rfl ?_
  refine o_iloadN (v := (16 : Int32)) (pc := 14) X35 hx (hb hby o_d13_14) rfl ?_
  refine o_isub (pc := 15) X35 hx (hb hby o_d13_15) ?_
  refine o_istore (l' := #[.val (.ref a1), .val (.int mm), .val (.int (16 : Int32)), .val (.int mm), .val (.int (mm - (16 : Int32))), .unset]) (pc := 16) X35 hx (hb hby o_d13_16) rfl ?_
  refine o_iloadN (v := (16 : Int32)) (pc := 18) X35 hx (hb hby o_d13_18) rfl ?_
  refine o_iload (v := (mm - (16 : Int32))) (pc := 19) X35 hx (hb hby o_d13_19) rfl ?_
  refine o_iloadN (v := (16 : Int32)) (pc := 21) X35 hx (hb hby o_d13_21) rfl ?_
  refine o_iconst (pc := 22) X35 hx (2 : Int32) (hb hby o_d13_22) rfl ?_
  refine o_aloadN (v := (.ref a1)) (pc := 23) X35 hx (hb hby o_d13_23) rfl rfl ?_
  refine o_getF (pc := 24) X35 hx hZ hown (host := "") (Or.inl (hw _ (List.mem_of_getElem? (i := 33) rfl))) Via.refl e35 G1 (hb hby o_d13_24) fun T36 X36 e36 => ?_
  refine o_ishl (pc := 27) X36 hx (hb hby o_d13_27) ?_
  rw [show ((2 : Int32) <<< ((0 : Int32) &&& 31)) = (2 : Int32) by decide]
  refine o_iadd (pc := 28) X36 hx (hb hby o_d13_28) ?_
  rw [show ((16 : Int32) + (2 : Int32)) = (18 : Int32) from rfl]
  refine o_callS (pc := 29) X36 hx hZ (y := (⟨"jdk/internal/util/ArraysSupport", "newLength", "(III)I"⟩ : MethodName)) (argsL := [(.int (16 : Int32)), (.int (mm - (16 : Int32))), (.int (18 : Int32))]) (rest := []) hown (hw _ (List.mem_of_getElem? (i := 91) rfl)) (hw _ (List.mem_of_getElem? (i := 92) rfl)) (hw _ (List.mem_of_getElem? (i := 93) rfl)) (hw _ (List.mem_of_getElem? (i := 94) rfl)) (by decide) (rmNL l Z a0 hw [] (mm - (16 : Int32)) h0 n0 O0 hm2) e36 (by rw [hml]; rfl) (lenOf o_pd7 rfl) (has := rfl) (hst := rfl) (W := 0) (Nat.le_of_ble_eq_true rfl) (hb hby o_d13_29) (by decide) (by decide) (by decide) (by decide) fun v37 T37 h37 L37 X37 e37 q37 => ?_
  obtain ⟨rfl, N37q, rfl⟩ := q37
  have N37 := Fr.app N0 N37q
  show Go p e below T37 (mkF m 32 #[.val (.ref a1), .val (.int mm), .val (.int (16 : Int32)), .val (.int mm), .val (.int (mm - (16 : Int32))), .unset] [(.int (34 : Int32))]) _
  refine o_istore (l' := #[.val (.ref a1), .val (.int mm), .val (.int (16 : Int32)), .val (.int mm), .val (.int (mm - (16 : Int32))), .val (.int (34 : Int32))]) (pc := 32) X37 hx (hb hby o_d13_32) rfl ?_
  refine o_iload (v := (34 : Int32)) (pc := 34) X37 hx (hb hby o_d13_34) rfl ?_
  refine o_ldcI (pc := 36) X37 hx hZ hown (hw _ (List.mem_of_getElem? (i := 100) rfl)) (hb hby o_d13_36) ?_
  refine o_icmpYes (pc := 38) X37 hx 51 (hb hby o_d13_38) (feq (by decide : ¬ ((34 : Int32) = (2147483647 : Int32)))).2 (by decide) (by decide) ?_
  refine o_iload (v := (34 : Int32)) (pc := 51) X37 hx (hb hby o_d13_51) rfl ?_
  refine o_aloadN (v := (.ref a1)) (pc := 53) X37 hx (hb hby o_d13_53) rfl rfl ?_
  refine o_getF (pc := 54) X37 hx hZ hown (host := "") (Or.inl (hw _ (List.mem_of_getElem? (i := 33) rfl))) Via.refl e37 G1 (hb hby o_d13_54) fun T38 X38 e38 => ?_
  refine o_ishr (pc := 57) X38 hx (hb hby o_d13_57) ?_
  rw [show ((34 : Int32) >>> ((0 : Int32) &&& 31)) = (34 : Int32) by decide]
  exact o_retI (pc := 58) X38 hx hret hlk (hb hby o_d13_58) e38 (by decide) (by decide) ⟨rfl, N37, rfl⟩
theorem o_pn_java_util_Arrays : plainName "java/util/Arrays" = true := by first | (simp [plainName, overriddenIn]; done) | decide +kernel
theorem o_d16_0 : decode jdk_65_method_121_code 0 = .ok (.iload_n 1, 1) := by decide +kernel
theorem o_d16_1 : decode jdk_65_method_121_code 1 = .ok (.aload_n 0, 1) := by decide +kernel
theorem o_d16_2 : decode jdk_65_method_121_code 2 = .ok (.arraylength, 1) := by decide +kernel
theorem o_d16_3 : decode jdk_65_method_121_code 3 = .ok (.if_icmp .ne 11, 3) := by decide +kernel
theorem o_d16_14 : decode jdk_65_method_121_code 14 = .ok (.iload_n 1, 1) := by decide +kernel
theorem o_d16_15 : decode jdk_65_method_121_code 15 = .ok (.newarray .byte, 2) := by decide +kernel
theorem o_d16_17 : decode jdk_65_method_121_code 17 = .ok (.astore_n 2, 1) := by decide +kernel
theorem o_d16_18 : decode jdk_65_method_121_code 18 = .ok (.aload_n 0, 1) := by decide +kernel
theorem o_d16_19 : decode jdk_65_method_121_code 19 = .ok (.iconst 0, 1) := by decide +kernel
theorem o_d16_20 : decode jdk_65_method_121_code 20 = .ok (.aload_n 2, 1) := by decide +kernel
theorem o_d16_21 : decode jdk_65_method_121_code 21 = .ok (.iconst 0, 1) := by decide +kernel
theorem o_d16_22 : decode jdk_65_method_121_code 22 = .ok (.aload_n 0, 1) := by decide +kernel
theorem o_d16_23 : decode jdk_65_method_121_code 23 = .ok (.arraylength, 1) := by decide +kernel
theorem o_d16_24 : decode jdk_65_method_121_code 24 = .ok (.iload_n 1, 1) := by decide +kernel
theorem o_d16_25 : decode jdk_65_method_121_code 25 = .ok (.invokestatic 304, 3) := by decide +kernel
theorem o_d16_28 : decode jdk_65_method_121_code 28 = .ok (.invokestatic 150, 3) := by decide +kernel
theorem o_d16_31 : decode jdk_65_method_121_code 31 = .ok (.aload_n 2, 1) := by decide +kernel
theorem o_d16_32 : decode jdk_65_method_121_code 32 = .ok (.areturn, 1) := by decide +kernel
set_option maxRecDepth 65536 in
set_option maxHeartbeats 40000000 in
theorem rmCO (l : Launch) (Z : State) (a0 : Array Value) (hw : ∀ d ∈ tables_1, d.before a0 Z = true) (ws : List Jvm.Cond) (d : Addr) (h0 : Heap) (n0 : Nat) (O0 : Old Z n0 h0) (VD : Byt Z h0 d (16 : Int32)) :
    Ct l Z (⟨"java/util/Arrays", "copyOf", "([BI)[B"⟩ : MethodName) jdk_65_method_121_code 3 (some (.array .byte)) ({ frames := 1, cells := 1, slots := 34, locals := 40 } : Room) ws #[(.ref d), (.int (34 : Int32))] h0 (fun v h L => ∃ b, v = some (.ref b) ∧ h0.size ≤ b ∧ Fr n0 L ∧ Ext h0 h ∧ Byt Z h b (34 : Int32) ∧ Exa Z h b "[B") := by
  refine o_body (plainFor_of_name o_pn_java_util_Arrays) ?_
  intro p e s m below meth c s₁ X0 hx hby hml hret hlk hown hnm hZ e0
  have N0 := Fr.nil n0
  refine o_top (g' := (mkF m 0 #[.val (.ref d), .val (.int (34 : Int32)), .unset] [])) (by first | (simp [entryFrame, mkF, argsToLocals, Value.category]; done) | rfl) ?_
  refine o_iloadN (v := (34 : Int32)) (pc := 0) X0 hx (hb hby o_d16_0) rfl ?_
  refine o_aloadN (v := (.ref d)) (pc := 1) X0 hx (hb hby o_d16_1) rfl rfl ?_
  refine o_lenB (pc := 2) X0 hx hZ e0 VD (hb hby o_d16_2) ?_
  refine o_icmpYes (pc := 3) X0 hx 14 (hb hby o_d16_3) (feq (by decide : ¬ ((34 : Int32) = (16 : Int32)))).2 (by decide) (by decide) ?_
  refine o_iloadN (v := (34 : Int32)) (pc := 14) X0 hx (hb hby o_d16_14) rfl ?_
  refine o_newB (pc := 15) X0 hx hZ (hw _ (List.mem_of_getElem? (i := 4) rfl)) e0 (hb hby o_d16_15) (by decide) 34 (by decide) (by decide) (by decide) (by decide) fun T39 h39 b39 X39 e39 g39 E39 V39 Y39 => ?_
  have O40 := O0.ext E39
  have K40 : Keep h0 h39 [] := (Keep.refl h0 []).ext E39
  refine o_astoreN (l' := #[.val (.ref d), .val (.int (34 : Int32)), .val (.ref b39)]) (pc := 17) X39 hx (hb hby o_d16_17) rfl rfl ?_
  refine o_aloadN (v := (.ref d)) (pc := 18) X39 hx (hb hby o_d16_18) rfl rfl ?_
  refine o_iconst (pc := 19) X39 hx (0 : Int32) (hb hby o_d16_19) rfl ?_
  refine o_aloadN (v := (.ref b39)) (pc := 20) X39 hx (hb hby o_d16_20) rfl rfl ?_
  refine o_iconst (pc := 21) X39 hx (0 : Int32) (hb hby o_d16_21) rfl ?_
  refine o_aloadN (v := (.ref d)) (pc := 22) X39 hx (hb hby o_d16_22) rfl rfl ?_
  refine o_lenB (pc := 23) X39 hx hZ e39 (VD.ext E39) (hb hby o_d16_23) ?_
  refine o_iloadN (v := (34 : Int32)) (pc := 24) X39 hx (hb hby o_d16_24) rfl ?_
  refine o_callS (pc := 25) X39 hx hZ (y := (⟨"java/lang/Math", "min", "(II)I"⟩ : MethodName)) (argsL := [(.int (16 : Int32)), (.int (34 : Int32))]) (rest := [(.int (0 : Int32)), (.ref b39), (.int (0 : Int32)), (.ref d)]) hown (hw _ (List.mem_of_getElem? (i := 105) rfl)) (hw _ (List.mem_of_getElem? (i := 106) rfl)) (hw _ (List.mem_of_getElem? (i := 97) rfl)) (hw _ (List.mem_of_getElem? (i := 107) rfl)) (by decide) (rm_min l Z a0 hw [] (16 : Int32) (34 : Int32) h39 n0 O40) e39 (by rw [hml]; rfl) (lenOf o_pd6 rfl) (has := rfl) (hst := rfl) (W := 4) (Nat.le_of_ble_eq_true rfl) (hb hby o_d16_25) (by decide) (by decide) (by decide) (by decide) fun v41 T41 h41 L41 X41 e41 q41 => ?_
  obtain ⟨rfl, N41q, rfl⟩ := q41
  have N41 := Fr.app N0 N41q
  rw [if_neg (by decide)]
  show Go p e below T41 (mkF m 28 #[.val (.ref d), .val (.int (34 : Int32)), .val (.ref b39)] [(.int (16 : Int32)), (.int (0 : Int32)), (.ref b39), (.int (0 : Int32)), (.ref d)]) _
  refine o_cpB (pc := 28) X41 hx hZ hown (hw _ (List.mem_of_getElem? (i := 108) rfl)) (hw _ (List.mem_of_getElem? (i := 85) rfl)) (hw _ (List.mem_of_getElem? (i := 83) rfl)) (hw _ (List.mem_of_getElem? (i := 84) rfl)) e41 (VD.ext E39) V39 (by decide) (by decide) (by decide) (by decide) (by decide) N41 (Nat.le_trans (o_n0 O0) g39) (by rw [hml]; rfl) (hb hby o_d16_28) (by decide) (W := 0) (Nat.le_of_ble_eq_true rfl) (by decide) fun T42 h42 L42 X42 e42 N42 K42 V42 => ?_
  have O43 := O40.keep K42 (allS (Nat.le_trans (o_n0 O0) g39) all0)
  have K43 : Keep h0 h42 [] := K40.trans K42 (allS (Or.inr (Nat.le_trans (Keep.refl h0 []).1 g39)) all0)
  refine o_aloadN (v := (.ref b39)) (pc := 31) X42 hx (hb hby o_d16_31) rfl rfl ?_
  exact o_retA (pc := 32) X42 hx hret hlk rfl rfl (hb hby o_d16_32) e42 (by decide) (by decide) ⟨b39, rfl, (Nat.le_trans (Keep.refl h0 []).1 g39), N42, o_keep0 K43, V42, (Y39.keep K42)⟩
theorem o_d9_0 : decode jdk_68_method_9_code 0 = .ok (.aload_n 0, 1) := by decide +kernel
theorem o_d9_1 : decode jdk_68_method_9_code 1 = .ok (.getfield 15, 3) := by decide +kernel
theorem o_d9_4 : decode jdk_68_method_9_code 4 = .ok (.arraylength, 1) := by decide +kernel
theorem o_d9_5 : decode jdk_68_method_9_code 5 = .ok (.aload_n 0, 1) := by decide +kernel
theorem o_d9_6 : decode jdk_68_method_9_code 6 = .ok (.getfield 22, 3) := by decide +kernel
theorem o_d9_9 : decode jdk_68_method_9_code 9 = .ok (.ishr, 1) := by decide +kernel
theorem o_d9_10 : decode jdk_68_method_9_code 10 = .ok (.istore_n 2, 1) := by decide +kernel
theorem o_d9_11 : decode jdk_68_method_9_code 11 = .ok (.iload_n 1, 1) := by decide +kernel
theorem o_d9_12 : decode jdk_68_method_9_code 12 = .ok (.iload_n 2, 1) := by decide +kernel
theorem o_d9_13 : decode jdk_68_method_9_code 13 = .ok (.isub, 1) := by decide +kernel
theorem o_d9_14 : decode jdk_68_method_9_code 14 = .ok (.ifCond .le 24, 3) := by decide +kernel
theorem o_d9_38 : decode jdk_68_method_9_code 38 = .ok (.return_, 1) := by decide +kernel
set_option maxRecDepth 65536 in
set_option maxHeartbeats 40000000 in
theorem rmEC0 (l : Launch) (Z : State) (a0 : Array Value) (hw : ∀ d ∈ tables_1, d.before a0 Z = true) (ws : List Jvm.Cond) (a1 d : Addr) (k mm : Int32) (h0 : Heap) (n0 : Nat) (O0 : Old Z n0 h0) (E1 : Exa Z h0 a1 "java/lang/StringBuilder") (G0 : Fld Z h0 a1 "java/lang/AbstractStringBuilder" "value" "[B" (.ref d)) (G1 : Fld Z h0 a1 "java/lang/AbstractStringBuilder" "coder" "B" (.int (0 : Int32))) (G2 : Fld Z h0 a1 "java/lang/AbstractStringBuilder" "count" "I" (.int k)) (VD : Byt Z h0 d (16 : Int32)) (ED : Exa Z h0 d "[B") (g1 : n0 ≤ a1) (gd : n0 ≤ d) (hne : a1 ≠ d) (hm : ¬ (0 : Int32) < mm - (16 : Int32)) :
    Ct l Z (⟨"java/lang/AbstractStringBuilder", "ensureCapacityInternal", "(I)V"⟩ : MethodName) jdk_68_method_9_code 3 none ({ frames := 0, cells := 0, slots := 0, locals := 0 } : Room) ws #[(.ref a1), (.int mm)] h0 (fun v h L => v = none ∧ Fr n0 L ∧ h0 = h) := by
  refine o_body (plainFor_of_name o_pn_java_lang_AbstractStringBuilder) ?_
  intro p e s m below meth c s₁ X0 hx hby hml hret hlk hown hnm hZ e0
  have N0 := Fr.nil n0
  refine o_top (g' := (mkF m 0 #[.val (.ref a1), .val (.int mm), .unset] [])) (by first | (simp [entryFrame, mkF, argsToLocals, Value.category]; done) | rfl) ?_
  refine o_aloadN (v := (.ref a1)) (pc := 0) X0 hx (hb hby o_d9_0) rfl rfl ?_
  refine o_getF (pc := 1) X0 hx hZ hown (host := "") (Or.inl (hw _ (List.mem_of_getElem? (i := 31) rfl))) Via.refl e0 G0 (hb hby o_d9_1) fun T44 X44 e44 => ?_
  refine o_lenB (pc := 4) X44 hx hZ e44 VD (hb hby o_d9_4) ?_
  refine o_aloadN (v := (.ref a1)) (pc := 5) X44 hx (hb hby o_d9_5) rfl rfl ?_
  refine o_getF (pc := 6) X44 hx hZ hown (host := "") (Or.inl (hw _ (List.mem_of_getElem? (i := 33) rfl))) Via.refl e44 G1 (hb hby o_d9_6) fun T45 X45 e45 => ?_
  refine o_ishr (pc := 9) X45 hx (hb hby o_d9_9) ?_
  rw [show ((16 : Int32) >>> ((0 : Int32) &&& 31)) = (16 : Int32) by decide]
  refine o_istoreN (l' := #[.val (.ref a1), .val (.int mm), .val (.int (16 : Int32))]) (pc := 10) X45 hx (hb hby o_d9_10) rfl ?_
  refine o_iloadN (v := mm) (pc := 11) X45 hx (hb hby o_d9_11) rfl ?_
  refine o_iloadN (v := (16 : Int32)) (pc := 12) X45 hx (hb hby o_d9_12) rfl ?_
  refine o_isub (pc := 13) X45 hx (hb hby o_d9_13) ?_
  refine o_ifYes (pc := 14) X45 hx 38 (hb hby o_d9_14) ((if0 _ _).trans (flt hm).2.2.2) (by decide) (by decide) ?_
  exact o_ret0 (pc := 38) X45 hx hret hlk (hb hby o_d9_38) e45 (by decide) (by decide) ⟨rfl, N0, rfl⟩
theorem o_d9_17 : decode jdk_68_method_9_code 17 = .ok (.aload_n 0, 1) := by decide +kernel
theorem o_d9_18 : decode jdk_68_method_9_code 18 = .ok (.aload_n 0, 1) := by decide +kernel
theorem o_d9_19 : decode jdk_68_method_9_code 19 = .ok (.getfield 15, 3) := by decide +kernel
theorem o_d9_22 : decode jdk_68_method_9_code 22 = .ok (.aload_n 0, 1) := by decide +kernel
theorem o_d9_23 : decode jdk_68_method_9_code 23 = .ok (.iload_n 1, 1) := by decide +kernel
theorem o_d9_24 : decode jdk_68_method_9_code 24 = .ok (.invokevirtual 104, 3) := by decide +kernel
theorem o_pd8 : parseMethodDescriptor "(I)I" = some ⟨[.int], some .int⟩ := by decide +kernel
theorem o_d9_27 : decode jdk_68_method_9_code 27 = .ok (.aload_n 0, 1) := by decide +kernel
theorem o_d9_28 : decode jdk_68_method_9_code 28 = .ok (.getfield 22, 3) := by decide +kernel
theorem o_d9_31 : decode jdk_68_method_9_code 31 = .ok (.ishl, 1) := by decide +kernel
theorem o_d9_32 : decode jdk_68_method_9_code 32 = .ok (.invokestatic 108, 3) := by decide +kernel
theorem o_pd9 : parseMethodDescriptor "([BI)[B" = some ⟨[(.array .byte), .int], some (.array .byte)⟩ := by decide +kernel
theorem o_d9_35 : decode jdk_68_method_9_code 35 = .ok (.putfield 15, 3) := by decide +kernel
set_option maxRecDepth 65536 in
set_option maxHeartbeats 40000000 in
theorem rmEC1 (l : Launch) (Z : State) (a0 : Array Value) (hw : ∀ d ∈ tables_1, d.before a0 Z = true) (ws : List Jvm.Cond) (a1 d : Addr) (k mm : Int32) (h0 : Heap) (n0 : Nat) (O0 : Old Z n0 h0) (E1 : Exa Z h0 a1 "java/lang/StringBuilder") (G0 : Fld Z h0 a1 "java/lang/AbstractStringBuilder" "value" "[B" (.ref d)) (G1 : Fld Z h0 a1 "java/lang/AbstractStringBuilder" "coder" "B" (.int (0 : Int32))) (G2 : Fld Z h0 a1 "java/lang/AbstractStringBuilder" "count" "I" (.int k)) (VD : Byt Z h0 d (16 : Int32)) (ED : Exa Z h0 d "[B") (g1 : n0 ≤ a1) (gd : n0 ≤ d) (hne : a1 ≠ d) (hm : (0 : Int32) < mm - (16 : Int32)) (hm2 : (mm - (16 : Int32)) < (18 : Int32)) :
    Ct l Z (⟨"java/lang/AbstractStringBuilder", "ensureCapacityInternal", "(I)V"⟩ : MethodName) jdk_68_method_9_code 3 none ({ frames := 3, cells := 1, slots := 34, locals := 55 } : Room) ws #[(.ref a1), (.int mm)] h0 (fun v h L => ∃ b, v = none ∧ h0.size ≤ b ∧ Fr n0 L ∧ Keep h0 h [a1] ∧ Fld Z h a1 "java/lang/AbstractStringBuilder" "value" "[B" (.ref b) ∧ Fld Z h a1 "java/lang/AbstractStringBuilder" "coder" "B" (.int (0 : Int32)) ∧ Fld Z h a1 "java/lang/AbstractStringBuilder" "count" "I" (.int k) ∧ Byt Z h b (34 : Int32) ∧ Exa Z h b "[B") := by
  refine o_body (plainFor_of_name o_pn_java_lang_AbstractStringBuilder) ?_
  intro p e s m below meth c s₁ X0 hx hby hml hret hlk hown hnm hZ e0
  have N0 := Fr.nil n0
  refine o_top (g' := (mkF m 0 #[.val (.ref a1), .val (.int mm), .unset] [])) (by first | (simp [entryFrame, mkF, argsToLocals, Value.category]; done) | rfl) ?_
  refine o_aloadN (v := (.ref a1)) (pc := 0) X0 hx (hb hby o_d9_0) rfl rfl ?_
  refine o_getF (pc := 1) X0 hx hZ hown (host := "") (Or.inl (hw _ (List.mem_of_getElem? (i := 31) rfl))) Via.refl e0 G0 (hb hby o_d9_1) fun T46 X46 e46 => ?_
  refine o_lenB (pc := 4) X46 hx hZ e46 VD (hb hby o_d9_4) ?_
  refine o_aloadN (v := (.ref a1)) (pc := 5) X46 hx (hb hby o_d9_5) rfl rfl ?_
  refine o_getF (pc := 6) X46 hx hZ hown (host := "") (Or.inl (hw _ (List.mem_of_getElem? (i := 33) rfl))) Via.refl e46 G1 (hb hby o_d9_6) fun T47 X47 e47 => ?_
  refine o_ishr (pc := 9) X47 hx (hb hby o_d9_9) ?_
  rw [show ((16 : Int32) >>> ((0 : Int32) &&& 31)) = (16 : Int32) by decide]
  refine o_istoreN (l' := #[.val (.ref a1), .val (.int mm), .val (.int (16 : Int32))]) (pc := 10) X47 hx (hb hby o_d9_10) rfl ?_
  refine o_iloadN (v := mm) (pc := 11) X47 hx (hb hby o_d9_11) rfl ?_
  refine o_iloadN (v := (16 : Int32)) (pc := 12) X47 hx (hb hby o_d9_12) rfl ?_
  refine o_isub (pc := 13) X47 hx (hb hby o_d9_13) ?_
  refine o_ifNo (pc := 14) X47 hx (hb hby o_d9_14) ((if0 _ _).trans (tlt hm).2.2.2) ?_
  refine o_aloadN (v := (.ref a1)) (pc := 17) X47 hx (hb hby o_d9_17) rfl rfl ?_
  refine o_aloadN (v := (.ref a1)) (pc := 18) X47 hx (hb hby o_d9_18) rfl rfl ?_
  refine o_getF (pc := 19) X47 hx hZ hown (host := "") (Or.inl (hw _ (List.mem_of_getElem? (i := 31) rfl))) Via.refl e47 G0 (hb hby o_d9_19) fun T48 X48 e48 => ?_
  refine o_aloadN (v := (.ref a1)) (pc := 22) X48 hx (hb hby o_d9_22) rfl rfl ?_
  refine o_iloadN (v := mm) (pc := 23) X48 hx (hb hby o_d9_23) rfl ?_
  refine o_callV (pc := 24) X48 hx hZ (y := (⟨"java/lang/AbstractStringBuilder", "newCapacity", "(I)I"⟩ : MethodName)) (z := (⟨"java/lang/AbstractStringBuilder", "newCapacity", "(I)I"⟩ : MethodName)) (C := "java/lang/StringBuilder") (a := a1) (argsL := [(.int mm)]) (rest := [(.ref d), (.ref a1)]) hown (hw _ (List.mem_of_getElem? (i := 86) rfl)) (o_decl (hw _ (List.mem_of_getElem? (i := 87) rfl)) (hw _ (List.mem_of_getElem? (i := 90) rfl))) (notFace_of_selects (args := #[]) (mvT hZ (hw _ (List.mem_of_getElem? (i := 89) rfl)))) (hw _ (List.mem_of_getElem? (i := 89) rfl)) (hw _ (List.mem_of_getElem? (i := 87) rfl)) (hw _ (List.mem_of_getElem? (i := 25) rfl)) (hw _ (List.mem_of_getElem? (i := 90) rfl)) (by decide) (rmNC l Z a0 hw [] a1 d k mm h0 n0 O0 E1 G0 G1 G2 VD ED g1 gd hne hm hm2) e48 E1 (by rw [hml]; rfl) (lenOf o_pd8 rfl) (has := rfl) (hst := rfl) (W := 2) (Nat.le_of_ble_eq_true rfl) (hb hby o_d9_24) (by decide) (by decide) (by decide) (by decide) fun v49 T49 h49 L49 X49 e49 q49 => ?_
  obtain ⟨rfl, N49q, rfl⟩ := q49
  have N49 := Fr.app N0 N49q
  show Go p e below T49 (mkF m 27 #[.val (.ref a1), .val (.int mm), .val (.int (16 : Int32))] [(.int (34 : Int32)), (.ref d), (.ref a1)]) _
  refine o_aloadN (v := (.ref a1)) (pc := 27) X49 hx (hb hby o_d9_27) rfl rfl ?_
  refine o_getF (pc := 28) X49 hx hZ hown (host := "") (Or.inl (hw _ (List.mem_of_getElem? (i := 33) rfl))) Via.refl e49 G1 (hb hby o_d9_28) fun T50 X50 e50 => ?_
  refine o_ishl (pc := 31) X50 hx (hb hby o_d9_31) ?_
  rw [show ((34 : Int32) <<< ((0 : Int32) &&& 31)) = (34 : Int32) by decide]
  refine o_callS (pc := 32) X50 hx hZ (y := (⟨"java/util/Arrays", "copyOf", "([BI)[B"⟩ : MethodName)) (argsL := [(.ref d), (.int (34 : Int32))]) (rest := [(.ref a1)]) hown (hw _ (List.mem_of_getElem? (i := 101) rfl)) (hw _ (List.mem_of_getElem? (i := 102) rfl)) (hw _ (List.mem_of_getElem? (i := 103) rfl)) (hw _ (List.mem_of_getElem? (i := 104) rfl)) (by decide) (rmCO l Z a0 hw [] d h0 n0 O0 VD) e50 (by rw [hml]; rfl) (lenOf o_pd9 rfl) (has := rfl) (hst := rfl) (W := 1) (Nat.le_of_ble_eq_true rfl) (hb hby o_d9_32) (by decide) (by decide) (by decide) (by decide) fun v51 T51 h51 L51 X51 e51 q51 => ?_
  obtain ⟨b51, rfl, g51, N51q, E51, V51, Y51⟩ := q51
  have N51 := Fr.app N49 N51q
  have O52 := O0.ext E51
  have K52 : Keep h0 h51 [a1] := (Keep.refl h0 [a1]).ext E51
  show Go p e below T51 (mkF m 35 #[.val (.ref a1), .val (.int mm), .val (.int (16 : Int32))] [(.ref b51), (.ref a1)]) _
  refine o_putF (pc := 35) X51 hx hZ hown (host := "") (Or.inl (hw _ (List.mem_of_getElem? (i := 31) rfl))) Via.refl e51 (G0.ext E51) (E1.ext E51) (Or.inl (hw _ (List.mem_of_getElem? (i := 32) rfl))) (hw _ (List.mem_of_getElem? (i := 16) rfl)) (ty := (.array .byte)) (by decide) rfl rfl (hb hby o_d9_35) fun T53 h53 X53 e53 W53 => ?_
  have F53 := Fld.same W53 (G0.ext E51)
  have N53 := Fr.snoc X53 N51 g1
  have O54 := O52.wr W53 g1
  have K54 : Keep h0 h53 [a1] := K52.wr W53 (Or.inl (List.mem_of_getElem? (i := 0) rfl))
  exact o_ret0 (pc := 38) X53 hx hret hlk (hb hby o_d9_38) e53 (by decide) (by decide) ⟨b51, rfl, (Nat.le_trans (Keep.refl h0 [a1]).1 g51), N53, K54, F53, ((G1.ext E51).other W53 (Or.inr (slot_ne (C := "java/lang/StringBuilder") (Or.inl (hw _ (List.mem_of_getElem? (i := 34) rfl))) (Or.inl (hw _ (List.mem_of_getElem? (i := 32) rfl))) (by decide) (t := .byte) (t' := (.array .byte)) (by decide) (by decide)))), ((G2.ext E51).other W53 (Or.inr (slot_ne (C := "java/lang/StringBuilder") (Or.inl (hw _ (List.mem_of_getElem? (i := 60) rfl))) (Or.inl (hw _ (List.mem_of_getElem? (i := 32) rfl))) (by decide) (t := .int) (t' := (.array .byte)) (by decide) (by decide)))), (V51.other W53 (Ne.symm (Nat.ne_of_lt (Nat.lt_of_lt_of_le E1.lt g51)))), (Y51.wr W53)⟩
theorem o_d11_0 : decode jdk_68_method_71_code 0 = .ok (.getstatic 18, 3) := by decide +kernel
theorem o_d11_3 : decode jdk_68_method_71_code 3 = .ok (.ifCond .eq 18, 3) := by decide +kernel
theorem o_d11_6 : decode jdk_68_method_71_code 6 = .ok (.aload_n 0, 1) := by decide +kernel
theorem o_d11_7 : decode jdk_68_method_71_code 7 = .ok (.getfield 22, 3) := by decide +kernel
theorem o_d11_10 : decode jdk_68_method_71_code 10 = .ok (.aload_n 1, 1) := by decide +kernel
theorem o_d11_11 : decode jdk_68_method_71_code 11 = .ok (.invokevirtual 40, 3) := by decide +kernel
theorem o_d11_14 : decode jdk_68_method_71_code 14 = .ok (.if_icmp .eq 7, 3) := by decide +kernel
theorem o_d11_21 : decode jdk_68_method_71_code 21 = .ok (.return_, 1) := by decide +kernel
set_option maxRecDepth 65536 in
set_option maxHeartbeats 40000000 in
theorem rmIF (l : Launch) (Z : State) (a0 : Array Value) (hw : ∀ d ∈ tables_1, d.before a0 Z = true) (ws : List Jvm.Cond) (a1 a2 : Addr) (cs : Int32) (h0 : Heap) (n0 : Nat) (O0 : Old Z n0 h0) (G1 : Fld Z h0 a1 "java/lang/AbstractStringBuilder" "coder" "B" (.int (0 : Int32))) (E2 : Exa Z h0 a2 "java/lang/String") (C2 : Fld Z h0 a2 "java/lang/String" "coder" "B" (.int (0 : Int32))) (SC : Sta Z Z.heap "java/lang/String" "COMPACT_STRINGS" "Z" (.int cs)) (hcs : ¬ cs = (0 : Int32)) :
    Ct l Z (⟨"java/lang/AbstractStringBuilder", "inflateIfNeededFor", "(Ljava/lang/String;)V"⟩ : MethodName) jdk_68_method_71_code 2 none ({ frames := 1, cells := 0, slots := 0, locals := 13 } : Room) ws #[(.ref a1), (.ref a2)] h0 (fun v h L => v = none ∧ Fr n0 L ∧ h0 = h) := by
  refine o_body (plainFor_of_name o_pn_java_lang_AbstractStringBuilder) ?_
  intro p e s m below meth c s₁ X0 hx hby hml hret hlk hown hnm hZ e0
  have N0 := Fr.nil n0
  refine o_top (g' := (mkF m 0 #[.val (.ref a1), .val (.ref a2)] [])) (by first | (simp [entryFrame, mkF, argsToLocals, Value.category]; done) | rfl) ?_
  refine o_getS (pc := 0) X0 hx hZ hown (host := "") (Or.inl (hw _ (List.mem_of_getElem? (i := 30) rfl))) Via.refl e0 (SC.ext O0.2) (hb hby o_d11_0) fun T55 X55 e55 => ?_
  refine o_ifNo (pc := 3) X55 hx (hb hby o_d11_3) ((if0 _ _).trans (feq hcs).1) ?_
  refine o_aloadN (v := (.ref a1)) (pc := 6) X55 hx (hb hby o_d11_6) rfl rfl ?_
  refine o_getF (pc := 7) X55 hx hZ hown (host := "") (Or.inl (hw _ (List.mem_of_getElem? (i := 33) rfl))) Via.refl e55 G1 (hb hby o_d11_7) fun T56 X56 e56 => ?_
  refine o_aloadN (v := (.ref a2)) (pc := 10) X56 hx (hb hby o_d11_10) rfl rfl ?_
  refine o_callV (pc := 11) X56 hx hZ (y := (⟨"java/lang/String", "coder", "()B"⟩ : MethodName)) (z := (⟨"java/lang/String", "coder", "()B"⟩ : MethodName)) (C := "java/lang/String") (a := a2) (argsL := []) (rest := [(.int (0 : Int32))]) hown (hw _ (List.mem_of_getElem? (i := 76) rfl)) (hw _ (List.mem_of_getElem? (i := 53) rfl)) (notFace_of_selects (args := #[]) (mvT hZ (hw _ (List.mem_of_getElem? (i := 55) rfl)))) (hw _ (List.mem_of_getElem? (i := 55) rfl)) (hw _ (List.mem_of_getElem? (i := 54) rfl)) (hw _ (List.mem_of_getElem? (i := 2) rfl)) (hw _ (List.mem_of_getElem? (i := 56) rfl)) (by decide) (rmCoder l Z a0 hw [] a2 cs h0 n0 O0 C2 SC hcs) e56 E2 (by rw [hml]; rfl) (lenOf o_pd5 rfl) (has := rfl) (hst := rfl) (W := 1) (Nat.le_of_ble_eq_true rfl) (hb hby o_d11_11) (by decide) (by decide) (by decide) (by decide) fun v57 T57 h57 L57 X57 e57 q57 => ?_
  obtain ⟨rfl, N57q, rfl⟩ := q57
  have N57 := Fr.app N0 N57q
  show Go p e below T57 (mkF m 14 #[.val (.ref a1), .val (.ref a2)] [(.int (0 : Int32)), (.int (0 : Int32))]) _
  refine o_icmpYes (pc := 14) X57 hx 21 (hb hby o_d11_14) (teq (by decide : (0 : Int32) = (0 : Int32))).1 (by decide) (by decide) ?_
  exact o_ret0 (pc := 21) X57 hx hret hlk (hb hby o_d11_21) e57 (by decide) (by decide) ⟨rfl, N57, rfl⟩
theorem o_d12_0 : decode jdk_42_method_147_code 0 = .ok (.aload_n 0, 1) := by decide +kernel
theorem o_d12_1 : decode jdk_42_method_147_code 1 = .ok (.invokevirtual 335, 3) := by decide +kernel
theorem o_d12_4 : decode jdk_42_method_147_code 4 = .ok (.iload_n 3, 1) := by decide +kernel
theorem o_d12_5 : decode jdk_42_method_147_code 5 = .ok (.if_icmp .ne 23, 3) := by decide +kernel
theorem o_d12_8 : decode jdk_42_method_147_code 8 = .ok (.aload_n 0, 1) := by decide +kernel
theorem o_d12_9 : decode jdk_42_method_147_code 9 = .ok (.getfield 9, 3) := by decide +kernel
theorem o_d12_12 : decode jdk_42_method_147_code 12 = .ok (.iconst 0, 1) := by decide +kernel
theorem o_d12_13 : decode jdk_42_method_147_code 13 = .ok (.aload_n 1, 1) := by decide +kernel
theorem o_d12_14 : decode jdk_42_method_147_code 14 = .ok (.iload_n 2, 1) := by decide +kernel
theorem o_d12_15 : decode jdk_42_method_147_code 15 = .ok (.iload_n 3, 1) := by decide +kernel
theorem o_d12_16 : decode jdk_42_method_147_code 16 = .ok (.ishl, 1) := by decide +kernel
theorem o_d12_17 : decode jdk_42_method_147_code 17 = .ok (.aload_n 0, 1) := by decide +kernel
theorem o_d12_18 : decode jdk_42_method_147_code 18 = .ok (.getfield 9, 3) := by decide +kernel
theorem o_d12_21 : decode jdk_42_method_147_code 21 = .ok (.arraylength, 1) := by decide +kernel
theorem o_d12_22 : decode jdk_42_method_147_code 22 = .ok (.invokestatic 212, 3) := by decide +kernel
theorem o_d12_25 : decode jdk_42_method_147_code 25 = .ok (.goto 18, 3) := by decide +kernel
theorem o_d12_43 : decode jdk_42_method_147_code 43 = .ok (.return_, 1) := by decide +kernel
set_option maxRecDepth 65536 in
set_option maxHeartbeats 40000000 in
theorem rmGB0 (l : Launch) (Z : State) (a0 : Array Value) (hw : ∀ d ∈ tables_1, d.before a0 Z = true) (ws : List Jvm.Cond) (a2 d2 d : Addr) (z : Int32) (cs : Int32) (h0 : Heap) (n0 : Nat) (O0 : Old Z n0 h0) (E2 : Exa Z h0 a2 "java/lang/String") (C2 : Fld Z h0 a2 "java/lang/String" "coder" "B" (.int (0 : Int32))) (F2 : Fld Z h0 a2 "java/lang/String" "value" "[B" (.ref d2)) (V2 : Byt Z h0 d2 z) (SC : Sta Z Z.heap "java/lang/String" "COMPACT_STRINGS" "Z" (.int cs)) (hcs : ¬ cs = (0 : Int32)) (VD : Byt Z h0 d (16 : Int32)) (gd : n0 ≤ d) (hz : z ∈ ([13] : List Int32)) :
    Ct l Z (⟨"java/lang/String", "getBytes", "([BIB)V"⟩ : MethodName) jdk_42_method_147_code 4 none ({ frames := 1, cells := 0, slots := 0, locals := 40 } : Room) ws #[(.ref a2), (.ref d), (.int (0 : Int32)), (.int (0 : Int32))] h0 (fun v h L => v = none ∧ Fr n0 L ∧ Keep h0 h [d] ∧ Byt Z h d (16 : Int32)) := by
  refine o_body (plainFor_of_name o_pn_java_lang_String) ?_
  intro p e s m below meth c s₁ X0 hx hby hml hret hlk hown hnm hZ e0
  have N0 := Fr.nil n0
  refine o_top (g' := (mkF m 0 #[.val (.ref a2), .val (.ref d), .val (.int (0 : Int32)), .val (.int (0 : Int32))] [])) (by first | (simp [entryFrame, mkF, argsToLocals, Value.category]; done) | rfl) ?_
  refine o_aloadN (v := (.ref a2)) (pc := 0) X0 hx (hb hby o_d12_0) rfl rfl ?_
  refine o_callV (pc := 1) X0 hx hZ (y := (⟨"java/lang/String", "coder", "()B"⟩ : MethodName)) (z := (⟨"java/lang/String", "coder", "()B"⟩ : MethodName)) (C := "java/lang/String") (a := a2) (argsL := []) (rest := []) hown (hw _ (List.mem_of_getElem? (i := 52) rfl)) (hw _ (List.mem_of_getElem? (i := 53) rfl)) (notFace_of_selects (args := #[]) (mvT hZ (hw _ (List.mem_of_getElem? (i := 55) rfl)))) (hw _ (List.mem_of_getElem? (i := 55) rfl)) (hw _ (List.mem_of_getElem? (i := 54) rfl)) (hw _ (List.mem_of_getElem? (i := 2) rfl)) (hw _ (List.mem_of_getElem? (i := 56) rfl)) (by decide) (rmCoder l Z a0 hw [] a2 cs h0 n0 O0 C2 SC hcs) e0 E2 (by rw [hml]; rfl) (lenOf o_pd5 rfl) (has := rfl) (hst := rfl) (W := 0) (Nat.le_of_ble_eq_true rfl) (hb hby o_d12_1) (by decide) (by decide) (by decide) (by decide) fun v58 T58 h58 L58 X58 e58 q58 => ?_
  obtain ⟨rfl, N58q, rfl⟩ := q58
  have N58 := Fr.app N0 N58q
  show Go p e below T58 (mkF m 4 #[.val (.ref a2), .val (.ref d), .val (.int (0 : Int32)), .val (.int (0 : Int32))] [(.int (0 : Int32))]) _
  refine o_iloadN (v := (0 : Int32)) (pc := 4) X58 hx (hb hby o_d12_4) rfl ?_
  refine o_icmpNo (pc := 5) X58 hx (hb hby o_d12_5) (teq (by decide : (0 : Int32) = (0 : Int32))).2 ?_
  refine o_aloadN (v := (.ref a2)) (pc := 8) X58 hx (hb hby o_d12_8) rfl rfl ?_
  refine o_getF (pc := 9) X58 hx hZ hown (host := "") (Or.inl (hw _ (List.mem_of_getElem? (i := 51) rfl))) Via.refl e58 F2 (hb hby o_d12_9) fun T59 X59 e59 => ?_
  refine o_iconst (pc := 12) X59 hx (0 : Int32) (hb hby o_d12_12) rfl ?_
  refine o_aloadN (v := (.ref d)) (pc := 13) X59 hx (hb hby o_d12_13) rfl rfl ?_
  refine o_iloadN (v := (0 : Int32)) (pc := 14) X59 hx (hb hby o_d12_14) rfl ?_
  refine o_iloadN (v := (0 : Int32)) (pc := 15) X59 hx (hb hby o_d12_15) rfl ?_
  refine o_ishl (pc := 16) X59 hx (hb hby o_d12_16) ?_
  rw [show ((0 : Int32) <<< ((0 : Int32) &&& 31)) = (0 : Int32) by decide]
  refine o_aloadN (v := (.ref a2)) (pc := 17) X59 hx (hb hby o_d12_17) rfl rfl ?_
  refine o_getF (pc := 18) X59 hx hZ hown (host := "") (Or.inl (hw _ (List.mem_of_getElem? (i := 51) rfl))) Via.refl e59 F2 (hb hby o_d12_18) fun T60 X60 e60 => ?_
  refine o_lenB (pc := 21) X60 hx hZ e60 V2 (hb hby o_d12_21) ?_
  refine o_cpB (pc := 22) X60 hx hZ hown (hw _ (List.mem_of_getElem? (i := 82) rfl)) (hw _ (List.mem_of_getElem? (i := 85) rfl)) (hw _ (List.mem_of_getElem? (i := 83) rfl)) (hw _ (List.mem_of_getElem? (i := 84) rfl)) e60 V2 VD (by decide) (by decide) (o_all (P := fun z => ¬ z < 0) hz (by decide)) (o_all (P := fun z => (0 : Int32).toNatClampNeg + z.toNatClampNeg ≤ z.toNatClampNeg) hz (by decide)) (o_all (P := fun z => (0 : Int32).toNatClampNeg + z.toNatClampNeg ≤ (16 : Int32).toNatClampNeg) hz (by decide)) N58 gd (by rw [hml]; rfl) (hb hby o_d12_22) (by decide) (W := 0) (Nat.le_of_ble_eq_true rfl) (by decide) fun T61 h61 L61 X61 e61 N61 K61 V61 => ?_
  have O62 := O0.keep K61 (allS gd all0)
  have K62 : Keep h0 h61 [d] := (Keep.refl h0 [d]).trans K61 (allS (Or.inl (List.mem_of_getElem? (i := 0) rfl)) all0)
  refine o_goto (pc := 25) X61 hx 43 (hb hby o_d12_25) (by decide) (by decide) ?_
  exact o_ret0 (pc := 43) X61 hx hret hlk (hb hby o_d12_43) e61 (by decide) (by decide) ⟨rfl, N61, K62, V61⟩
theorem o_d10_0 : decode jdk_68_method_73_code 0 = .ok (.aload_n 0, 1) := by decide +kernel
theorem o_d10_1 : decode jdk_68_method_73_code 1 = .ok (.aload_n 2, 1) := by decide +kernel
theorem o_d10_2 : decode jdk_68_method_73_code 2 = .ok (.invokevirtual 397, 3) := by decide +kernel
theorem o_pd10 : parseMethodDescriptor "(Ljava/lang/String;)V" = some ⟨[(.object "java/lang/String")], none⟩ := by decide +kernel
theorem o_d10_5 : decode jdk_68_method_73_code 5 = .ok (.aload_n 2, 1) := by decide +kernel
theorem o_d10_6 : decode jdk_68_method_73_code 6 = .ok (.aload_n 0, 1) := by decide +kernel
theorem o_d10_7 : decode jdk_68_method_73_code 7 = .ok (.getfield 15, 3) := by decide +kernel
theorem o_d10_10 : decode jdk_68_method_73_code 10 = .ok (.iload_n 1, 1) := by decide +kernel
theorem o_d10_11 : decode jdk_68_method_73_code 11 = .ok (.aload_n 0, 1) := by decide +kernel
theorem o_d10_12 : decode jdk_68_method_73_code 12 = .ok (.getfield 22, 3) := by decide +kernel
theorem o_d10_15 : decode jdk_68_method_73_code 15 = .ok (.invokevirtual 399, 3) := by decide +kernel
theorem o_pd11 : parseMethodDescriptor "([BIB)V" = some ⟨[(.array .byte), .int, .byte], none⟩ := by decide +kernel
theorem o_d10_18 : decode jdk_68_method_73_code 18 = .ok (.return_, 1) := by decide +kernel
set_option maxRecDepth 65536 in
set_option maxHeartbeats 40000000 in
theorem rmPS0 (l : Launch) (Z : State) (a0 : Array Value) (hw : ∀ d ∈ tables_1, d.before a0 Z = true) (ws : List Jvm.Cond) (a1 d a2 d2 : Addr) (kc z : Int32) (cs : Int32) (h0 : Heap) (n0 : Nat) (O0 : Old Z n0 h0) (E1 : Exa Z h0 a1 "java/lang/StringBuilder") (G0 : Fld Z h0 a1 "java/lang/AbstractStringBuilder" "value" "[B" (.ref d)) (G1 : Fld Z h0 a1 "java/lang/AbstractStringBuilder" "coder" "B" (.int (0 : Int32))) (G2 : Fld Z h0 a1 "java/lang/AbstractStringBuilder" "count" "I" (.int kc)) (VD : Byt Z h0 d (16 : Int32)) (ED : Exa Z h0 d "[B") (g1 : n0 ≤ a1) (gd : n0 ≤ d) (hne : a1 ≠ d) (E2 : Exa Z h0 a2 "java/lang/String") (C2 : Fld Z h0 a2 "java/lang/String" "coder" "B" (.int (0 : Int32))) (F2 : Fld Z h0 a2 "java/lang/String" "value" "[B" (.ref d2)) (V2 : Byt Z h0 d2 z) (SC : Sta Z Z.heap "java/lang/String" "COMPACT_STRINGS" "Z" (.int cs)) (hcs : ¬ cs = (0 : Int32)) (hz : z ∈ ([13] : List Int32)) :
    Ct l Z (⟨"java/lang/AbstractStringBuilder", "putStringAt", "(ILjava/lang/String;)V"⟩ : MethodName) jdk_68_method_73_code 3 none ({ frames := 2, cells := 0, slots := 0, locals := 55 } : Room) ws #[(.ref a1), (.int (0 : Int32)), (.ref a2)] h0 (fun v h L => v = none ∧ Fr n0 L ∧ Keep h0 h [d] ∧ Byt Z h d (16 : Int32)) := by
  refine o_body (plainFor_of_name o_pn_java_lang_AbstractStringBuilder) ?_
  intro p e s m below meth c s₁ X0 hx hby hml hret hlk hown hnm hZ e0
  have N0 := Fr.nil n0
  refine o_top (g' := (mkF m 0 #[.val (.ref a1), .val (.int (0 : Int32)), .val (.ref a2)] [])) (by first | (simp [entryFrame, mkF, argsToLocals, Value.category]; done) | rfl) ?_
  refine o_aloadN (v := (.ref a1)) (pc := 0) X0 hx (hb hby o_d10_0) rfl rfl ?_
  refine o_aloadN (v := (.ref a2)) (pc := 1) X0 hx (hb hby o_d10_1) rfl rfl ?_
  refine o_callV (pc := 2) X0 hx hZ (y := (⟨"java/lang/AbstractStringBuilder", "inflateIfNeededFor", "(Ljava/lang/String;)V"⟩ : MethodName)) (z := (⟨"java/lang/AbstractStringBuilder", "inflateIfNeededFor", "(Ljava/lang/String;)V"⟩ : MethodName)) (C := "java/lang/StringBuilder") (a := a1) (argsL := [(.ref a2)]) (rest := []) hown (hw _ (List.mem_of_getElem? (i := 71) rfl)) (o_decl (hw _ (List.mem_of_getElem? (i := 72) rfl)) (hw _ (List.mem_of_getElem? (i := 75) rfl))) (notFace_of_selects (args := #[]) (mvT hZ (hw _ (List.mem_of_getElem? (i := 74) rfl)))) (hw _ (List.mem_of_getElem? (i := 74) rfl)) (hw _ (List.mem_of_getElem? (i := 72) rfl)) (hw _ (List.mem_of_getElem? (i := 25) rfl)) (hw _ (List.mem_of_getElem? (i := 75) rfl)) (by decide) (rmIF l Z a0 hw [] a1 a2 cs h0 n0 O0 G1 E2 C2 SC hcs) e0 E1 (by rw [hml]; rfl) (lenOf o_pd10 rfl) (has := rfl) (hst := rfl) (W := 0) (Nat.le_of_ble_eq_true rfl) (hb hby o_d10_2) (by decide) (by decide) (by decide) (by decide) fun v63 T63 h63 L63 X63 e63 q63 => ?_
  obtain ⟨rfl, N63q, rfl⟩ := q63
  have N63 := Fr.app N0 N63q
  show Go p e below T63 (mkF m 5 #[.val (.ref a1), .val (.int (0 : Int32)), .val (.ref a2)] []) _
  refine o_aloadN (v := (.ref a2)) (pc := 5) X63 hx (hb hby o_d10_5) rfl rfl ?_
  refine o_aloadN (v := (.ref a1)) (pc := 6) X63 hx (hb hby o_d10_6) rfl rfl ?_
  refine o_getF (pc := 7) X63 hx hZ hown (host := "") (Or.inl (hw _ (List.mem_of_getElem? (i := 31) rfl))) Via.refl e63 G0 (hb hby o_d10_7) fun T64 X64 e64 => ?_
  refine o_iloadN (v := (0 : Int32)) (pc := 10) X64 hx (hb hby o_d10_10) rfl ?_
  refine o_aloadN (v := (.ref a1)) (pc := 11) X64 hx (hb hby o_d10_11) rfl rfl ?_
  refine o_getF (pc := 12) X64 hx hZ hown (host := "") (Or.inl (hw _ (List.mem_of_getElem? (i := 33) rfl))) Via.refl e64 G1 (hb hby o_d10_12) fun T65 X65 e65 => ?_
  refine o_callV (pc := 15) X65 hx hZ (y := (⟨"java/lang/String", "getBytes", "([BIB)V"⟩ : MethodName)) (z := (⟨"java/lang/String", "getBytes", "([BIB)V"⟩ : MethodName)) (C := "java/lang/String") (a := a2) (argsL := [(.ref d), (.int (0 : Int32)), (.int (0 : Int32))]) (rest := []) hown (hw _ (List.mem_of_getElem? (i := 77) rfl)) (hw _ (List.mem_of_getElem? (i := 78) rfl)) (notFace_of_selects (args := #[]) (mvT hZ (hw _ (List.mem_of_getElem? (i := 80) rfl)))) (hw _ (List.mem_of_getElem? (i := 80) rfl)) (hw _ (List.mem_of_getElem? (i := 79) rfl)) (hw _ (List.mem_of_getElem? (i := 2) rfl)) (hw _ (List.mem_of_getElem? (i := 81) rfl)) (by decide) (rmGB0 l Z a0 hw [] a2 d2 d z cs h0 n0 O0 E2 C2 F2 V2 SC hcs VD gd hz) e65 E2 (by rw [hml]; rfl) (lenOf o_pd11 rfl) (has := rfl) (hst := rfl) (W := 0) (Nat.le_of_ble_eq_true rfl) (hb hby o_d10_15) (by decide) (by decide) (by decide) (by decide) fun v66 T66 h66 L66 X66 e66 q66 => ?_
  obtain ⟨rfl, N66q, K66, V66⟩ := q66
  have N66 := Fr.app N63 N66q
  have O67 := O0.keep K66 (allS gd all0)
  have K67 : Keep h0 h66 [d] := (Keep.refl h0 [d]).trans K66 (allS (Or.inl (List.mem_of_getElem? (i := 0) rfl)) all0)
  show Go p e below T66 (mkF m 18 #[.val (.ref a1), .val (.int (0 : Int32)), .val (.ref a2)] []) _
  exact o_ret0 (pc := 18) X66 hx hret hlk (hb hby o_d10_18) e66 (by decide) (by decide) ⟨rfl, N66, K67, V66⟩
theorem o_d6_0 : decode jdk_68_method_22_code 0 = .ok (.aload_n 1, 1) := by decide +kernel
theorem o_d6_1 : decode jdk_68_method_22_code 1 = .ok (.ifnonnull 8, 3) := by decide +kernel
theorem o_d6_9 : decode jdk_68_method_22_code 9 = .ok (.aload_n 1, 1) := by decide +kernel
theorem o_d6_10 : decode jdk_68_method_22_code 10 = .ok (.invokevirtual 32, 3) := by decide +kernel
theorem o_pd12 : parseMethodDescriptor "()I" = some ⟨[], some .int⟩ := by decide +kernel
theorem o_d6_13 : decode jdk_68_method_22_code 13 = .ok (.istore_n 2, 1) := by decide +kernel
theorem o_d6_14 : decode jdk_68_method_22_code 14 = .ok (.aload_n 0, 1) := by decide +kernel
theorem o_d6_15 : decode jdk_68_method_22_code 15 = .ok (.aload_n 0, 1) := by decide +kernel
theorem o_d6_16 : decode jdk_68_method_22_code 16 = .ok (.getfield 79, 3) := by decide +kernel
theorem o_d6_19 : decode jdk_68_method_22_code 19 = .ok (.iload_n 2, 1) := by decide +kernel
theorem o_d6_20 : decode jdk_68_method_22_code 20 = .ok (.iadd, 1) := by decide +kernel
theorem o_d6_21 : decode jdk_68_method_22_code 21 = .ok (.invokevirtual 100, 3) := by decide +kernel
theorem o_pd13 : parseMethodDescriptor "(I)V" = some ⟨[.int], none⟩ := by decide +kernel
theorem o_d6_24 : decode jdk_68_method_22_code 24 = .ok (.aload_n 0, 1) := by decide +kernel
theorem o_d6_25 : decode jdk_68_method_22_code 25 = .ok (.aload_n 0, 1) := by decide +kernel
theorem o_d6_26 : decode jdk_68_method_22_code 26 = .ok (.getfield 79, 3) := by decide +kernel
theorem o_d6_29 : decode jdk_68_method_22_code 29 = .ok (.aload_n 1, 1) := by decide +kernel
theorem o_d6_30 : decode jdk_68_method_22_code 30 = .ok (.invokevirtual 208, 3) := by decide +kernel
theorem o_pd14 : parseMethodDescriptor "(ILjava/lang/String;)V" = some ⟨[.int, (.object "java/lang/String")], none⟩ := by decide +kernel
theorem o_d6_33 : decode jdk_68_method_22_code 33 = .ok (.aload_n 0, 1) := by decide +kernel
theorem o_d6_34 : decode jdk_68_method_22_code 34 = .ok (.dup, 1) := by decide +kernel
theorem o_d6_35 : decode jdk_68_method_22_code 35 = .ok (.getfield 79, 3) := by decide +kernel
theorem o_d6_38 : decode jdk_68_method_22_code 38 = .ok (.iload_n 2, 1) := by decide +kernel
theorem o_d6_39 : decode jdk_68_method_22_code 39 = .ok (.iadd, 1) := by decide +kernel
theorem o_d6_40 : decode jdk_68_method_22_code 40 = .ok (.putfield 79, 3) := by decide +kernel
theorem o_d6_43 : decode jdk_68_method_22_code 43 = .ok (.aload_n 0, 1) := by decide +kernel
theorem o_d6_44 : decode jdk_68_method_22_code 44 = .ok (.areturn, 1) := by decide +kernel
set_option maxRecDepth 65536 in
set_option maxHeartbeats 40000000 in
theorem rmAP0 (l : Launch) (Z : State) (a0 : Array Value) (hw : ∀ d ∈ tables_1, d.before a0 Z = true) (ws : List Jvm.Cond) (a1 d a2 d2 : Addr) (z : Int32) (cs : Int32) (h0 : Heap) (n0 : Nat) (O0 : Old Z n0 h0) (E1 : Exa Z h0 a1 "java/lang/StringBuilder") (G0 : Fld Z h0 a1 "java/lang/AbstractStringBuilder" "value" "[B" (.ref d)) (G1 : Fld Z h0 a1 "java/lang/AbstractStringBuilder" "coder" "B" (.int (0 : Int32))) (G2 : Fld Z h0 a1 "java/lang/AbstractStringBuilder" "count" "I" (.int (0 : Int32))) (VD : Byt Z h0 d (16 : Int32)) (ED : Exa Z h0 d "[B") (g1 : n0 ≤ a1) (gd : n0 ≤ d) (hne : a1 ≠ d) (E2 : Exa Z h0 a2 "java/lang/String") (C2 : Fld Z h0 a2 "java/lang/String" "coder" "B" (.int (0 : Int32))) (F2 : Fld Z h0 a2 "java/lang/String" "value" "[B" (.ref d2)) (V2 : Byt Z h0 d2 z) (SC : Sta Z Z.heap "java/lang/String" "COMPACT_STRINGS" "Z" (.int cs)) (hcs : ¬ cs = (0 : Int32)) (hz : z ∈ ([13] : List Int32)) (n12 : a2 ≠ a1) (nd2 : a2 ≠ d) (n1d : d2 ≠ a1) (ndd : d2 ≠ d) :
    Ct l Z (⟨"java/lang/AbstractStringBuilder", "append", "(Ljava/lang/String;)Ljava/lang/AbstractStringBuilder;"⟩ : MethodName) jdk_68_method_22_code 3 (some (.object "java/lang/AbstractStringBuilder")) ({ frames := 3, cells := 0, slots := 0, locals := 69 } : Room) ws #[(.ref a1), (.ref a2)] h0 (fun v h L => v = some (.ref a1) ∧ Fr n0 L ∧ Keep h0 h [a1, d] ∧ Fld Z h a1 "java/lang/AbstractStringBuilder" "value" "[B" (.ref d) ∧ Fld Z h a1 "java/lang/AbstractStringBuilder" "coder" "B" (.int (0 : Int32)) ∧ Fld Z h a1 "java/lang/AbstractStringBuilder" "count" "I" (.int ((0 : Int32) + z)) ∧ Byt Z h d (16 : Int32) ∧ Exa Z h d "[B") := by
  refine o_body (plainFor_of_name o_pn_java_lang_AbstractStringBuilder) ?_
  intro p e s m below meth c s₁ X0 hx hby hml hret hlk hown hnm hZ e0
  have N0 := Fr.nil n0
  refine o_top (g' := (mkF m 0 #[.val (.ref a1), .val (.ref a2), .unset] [])) (by first | (simp [entryFrame, mkF, argsToLocals, Value.category]; done) | rfl) ?_
  refine o_aloadN (v := (.ref a2)) (pc := 0) X0 hx (hb hby o_d6_0) rfl rfl ?_
  refine o_ifnonnullYes (pc := 1) X0 hx 9 (hb hby o_d6_1) (by decide) (by decide) ?_
  refine o_aloadN (v := (.ref a2)) (pc := 9) X0 hx (hb hby o_d6_9) rfl rfl ?_
  refine o_callV (pc := 10) X0 hx hZ (y := (⟨"java/lang/String", "length", "()I"⟩ : MethodName)) (z := (⟨"java/lang/String", "length", "()I"⟩ : MethodName)) (C := "java/lang/String") (a := a2) (argsL := []) (rest := []) hown (hw _ (List.mem_of_getElem? (i := 46) rfl)) (hw _ (List.mem_of_getElem? (i := 47) rfl)) (notFace_of_selects (args := #[]) (mvT hZ (hw _ (List.mem_of_getElem? (i := 49) rfl)))) (hw _ (List.mem_of_getElem? (i := 49) rfl)) (hw _ (List.mem_of_getElem? (i := 48) rfl)) (hw _ (List.mem_of_getElem? (i := 2) rfl)) (hw _ (List.mem_of_getElem? (i := 50) rfl)) (by decide) (rmLen l Z a0 hw [] a2 d2 z cs h0 n0 O0 E2 C2 F2 V2 SC hcs) e0 E2 (by rw [hml]; rfl) (lenOf o_pd12 rfl) (has := rfl) (hst := rfl) (W := 0) (Nat.le_of_ble_eq_true rfl) (hb hby o_d6_10) (by decide) (by decide) (by decide) (by decide) fun v68 T68 h68 L68 X68 e68 q68 => ?_
  obtain ⟨rfl, N68q, rfl⟩ := q68
  have N68 := Fr.app N0 N68q
  show Go p e below T68 (mkF m 13 #[.val (.ref a1), .val (.ref a2), .unset] [(.int z)]) _
  refine o_istoreN (l' := #[.val (.ref a1), .val (.ref a2), .val (.int z)]) (pc := 13) X68 hx (hb hby o_d6_13) rfl ?_
  refine o_aloadN (v := (.ref a1)) (pc := 14) X68 hx (hb hby o_d6_14) rfl rfl ?_
  refine o_aloadN (v := (.ref a1)) (pc := 15) X68 hx (hb hby o_d6_15) rfl rfl ?_
  refine o_getF (pc := 16) X68 hx hZ hown (host := "") (Or.inl (hw _ (List.mem_of_getElem? (i := 59) rfl))) Via.refl e68 G2 (hb hby o_d6_16) fun T69 X69 e69 => ?_
  refine o_iloadN (v := z) (pc := 19) X69 hx (hb hby o_d6_19) rfl ?_
  refine o_iadd (pc := 20) X69 hx (hb hby o_d6_20) ?_
  refine o_callV (pc := 21) X69 hx hZ (y := (⟨"java/lang/AbstractStringBuilder", "ensureCapacityInternal", "(I)V"⟩ : MethodName)) (z := (⟨"java/lang/AbstractStringBuilder", "ensureCapacityInternal", "(I)V"⟩ : MethodName)) (C := "java/lang/StringBuilder") (a := a1) (argsL := [(.int ((0 : Int32) + z))]) (rest := []) hown (hw _ (List.mem_of_getElem? (i := 61) rfl)) (o_decl (hw _ (List.mem_of_getElem? (i := 62) rfl)) (hw _ (List.mem_of_getElem? (i := 65) rfl))) (notFace_of_selects (args := #[]) (mvT hZ (hw _ (List.mem_of_getElem? (i := 64) rfl)))) (hw _ (List.mem_of_getElem? (i := 64) rfl)) (hw _ (List.mem_of_getElem? (i := 62) rfl)) (hw _ (List.mem_of_getElem? (i := 25) rfl)) (hw _ (List.mem_of_getElem? (i := 65) rfl)) (by decide) (rmEC0 l Z a0 hw [] a1 d (0 : Int32) ((0 : Int32) + z) h0 n0 O0 E1 G0 G1 G2 VD ED g1 gd hne (o_all (P := fun z => ¬ (0 : Int32) < ((0 : Int32) + z) - (16 : Int32)) hz (by decide))) e69 E1 (by rw [hml]; rfl) (lenOf o_pd13 rfl) (has := rfl) (hst := rfl) (W := 0) (Nat.le_of_ble_eq_true rfl) (hb hby o_d6_21) (by decide) (by decide) (by decide) (by decide) fun v70 T70 h70 L70 X70 e70 q70 => ?_
  obtain ⟨rfl, N70q, rfl⟩ := q70
  have N70 := Fr.app N68 N70q
  show Go p e below T70 (mkF m 24 #[.val (.ref a1), .val (.ref a2), .val (.int z)] []) _
  refine o_aloadN (v := (.ref a1)) (pc := 24) X70 hx (hb hby o_d6_24) rfl rfl ?_
  refine o_aloadN (v := (.ref a1)) (pc := 25) X70 hx (hb hby o_d6_25) rfl rfl ?_
  refine o_getF (pc := 26) X70 hx hZ hown (host := "") (Or.inl (hw _ (List.mem_of_getElem? (i := 59) rfl))) Via.refl e70 G2 (hb hby o_d6_26) fun T71 X71 e71 => ?_
  refine o_aloadN (v := (.ref a2)) (pc := 29) X71 hx (hb hby o_d6_29) rfl rfl ?_
  refine o_callV (pc := 30) X71 hx hZ (y := (⟨"java/lang/AbstractStringBuilder", "putStringAt", "(ILjava/lang/String;)V"⟩ : MethodName)) (z := (⟨"java/lang/AbstractStringBuilder", "putStringAt", "(ILjava/lang/String;)V"⟩ : MethodName)) (C := "java/lang/StringBuilder") (a := a1) (argsL := [(.int (0 : Int32)), (.ref a2)]) (rest := []) hown (hw _ (List.mem_of_getElem? (i := 66) rfl)) (o_decl (hw _ (List.mem_of_getElem? (i := 67) rfl)) (hw _ (List.mem_of_getElem? (i := 70) rfl))) (notFace_of_selects (args := #[]) (mvT hZ (hw _ (List.mem_of_getElem? (i := 69) rfl)))) (hw _ (List.mem_of_getElem? (i := 69) rfl)) (hw _ (List.mem_of_getElem? (i := 67) rfl)) (hw _ (List.mem_of_getElem? (i := 25) rfl)) (hw _ (List.mem_of_getElem? (i := 70) rfl)) (by decide) (rmPS0 l Z a0 hw [] a1 d a2 d2 (0 : Int32) z cs h0 n0 O0 E1 G0 G1 G2 VD ED g1 gd hne E2 C2 F2 V2 SC hcs hz) e71 E1 (by rw [hml]; rfl) (lenOf o_pd14 rfl) (has := rfl) (hst := rfl) (W := 0) (Nat.le_of_ble_eq_true rfl) (hb hby o_d6_30) (by decide) (by decide) (by decide) (by decide) fun v72 T72 h72 L72 X72 e72 q72 => ?_
  obtain ⟨rfl, N72q, K72, V72⟩ := q72
  have N72 := Fr.app N70 N72q
  have O73 := O0.keep K72 (allS gd all0)
  have K73 : Keep h0 h72 [a1, d] := (Keep.refl h0 [a1, d]).trans K72 (allS (Or.inl (List.mem_of_getElem? (i := 1) rfl)) all0)
  show Go p e below T72 (mkF m 33 #[.val (.ref a1), .val (.ref a2), .val (.int z)] []) _
  refine o_aloadN (v := (.ref a1)) (pc := 33) X72 hx (hb hby o_d6_33) rfl rfl ?_
  refine o_dup (pc := 34) X72 hx (hb hby o_d6_34) rfl ?_
  refine o_getF (pc := 35) X72 hx hZ hown (host := "") (Or.inl (hw _ (List.mem_of_getElem? (i := 59) rfl))) Via.refl e72 (G2.keep K72 (ninS hne nin0)) (hb hby o_d6_35) fun T74 X74 e74 => ?_
  refine o_iloadN (v := z) (pc := 38) X74 hx (hb hby o_d6_38) rfl ?_
  refine o_iadd (pc := 39) X74 hx (hb hby o_d6_39) ?_
  refine o_putF (pc := 40) X74 hx hZ hown (host := "") (Or.inl (hw _ (List.mem_of_getElem? (i := 59) rfl))) Via.refl e74 (G2.keep K72 (ninS hne nin0)) (E1.keep K72) (Or.inl (hw _ (List.mem_of_getElem? (i := 60) rfl))) (hw _ (List.mem_of_getElem? (i := 16) rfl)) (ty := .int) (by decide) rfl rfl (hb hby o_d6_40) fun T75 h75 X75 e75 W75 => ?_
  have F75 := Fld.same W75 (G2.keep K72 (ninS hne nin0))
  have N75 := Fr.snoc X75 N72 g1
  have O76 := O73.wr W75 g1
  have K76 : Keep h0 h75 [a1, d] := K73.wr W75 (Or.inl (List.mem_of_getElem? (i := 0) rfl))
  refine o_aloadN (v := (.ref a1)) (pc := 43) X75 hx (hb hby o_d6_43) rfl rfl ?_
  exact o_retA (pc := 44) X75 hx hret hlk rfl rfl (hb hby o_d6_44) e75 (by decide) (by decide) ⟨rfl, N75, K76, ((G0.keep K72 (ninS hne nin0)).other W75 (Or.inr (slot_ne (C := "java/lang/StringBuilder") (Or.inl (hw _ (List.mem_of_getElem? (i := 32) rfl))) (Or.inl (hw _ (List.mem_of_getElem? (i := 60) rfl))) (by decide) (t := (.array .byte)) (t' := .int) (by decide) (by decide)))), ((G1.keep K72 (ninS hne nin0)).other W75 (Or.inr (slot_ne (C := "java/lang/StringBuilder") (Or.inl (hw _ (List.mem_of_getElem? (i := 34) rfl))) (Or.inl (hw _ (List.mem_of_getElem? (i := 60) rfl))) (by decide) (t := .byte) (t' := .int) (by decide) (by decide)))), F75, (V72.other W75 (Ne.symm hne)), ((ED.keep K72).wr W75)⟩
theorem o_pn_java_lang_StringBuilder : plainName "java/lang/StringBuilder" = true := by first | (simp [plainName, overriddenIn]; done) | decide +kernel
theorem o_d5_0 : decode jdk_67_method_7_code 0 = .ok (.aload_n 0, 1) := by decide +kernel
theorem o_d5_1 : decode jdk_67_method_7_code 1 = .ok (.aload_n 1, 1) := by decide +kernel
theorem o_d5_2 : decode jdk_67_method_7_code 2 = .ok (.invokespecial 29, 3) := by decide +kernel
theorem o_pd15 : parseMethodDescriptor "(Ljava/lang/String;)Ljava/lang/AbstractStringBuilder;" = some ⟨[(.object "java/lang/String")], some (.object "java/lang/AbstractStringBuilder")⟩ := by decide +kernel
theorem o_d5_5 : decode jdk_67_method_7_code 5 = .ok (.pop, 1) := by decide +kernel
theorem o_d5_6 : decode jdk_67_method_7_code 6 = .ok (.aload_n 0, 1) := by decide +kernel
theorem o_d5_7 : decode jdk_67_method_7_code 7 = .ok (.areturn, 1) := by decide +kernel
set_option maxRecDepth 65536 in
set_option maxHeartbeats 40000000 in
theorem rmAB0 (l : Launch) (Z : State) (a0 : Array Value) (hw : ∀ d ∈ tables_1, d.before a0 Z = true) (ws : List Jvm.Cond) (a1 d a2 d2 : Addr) (z : Int32) (cs : Int32) (h0 : Heap) (n0 : Nat) (O0 : Old Z n0 h0) (E1 : Exa Z h0 a1 "java/lang/StringBuilder") (G0 : Fld Z h0 a1 "java/lang/AbstractStringBuilder" "value" "[B" (.ref d)) (G1 : Fld Z h0 a1 "java/lang/AbstractStringBuilder" "coder" "B" (.int (0 : Int32))) (G2 : Fld Z h0 a1 "java/lang/AbstractStringBuilder" "count" "I" (.int (0 : Int32))) (VD : Byt Z h0 d (16 : Int32)) (ED : Exa Z h0 d "[B") (g1 : n0 ≤ a1) (gd : n0 ≤ d) (hne : a1 ≠ d) (E2 : Exa Z h0 a2 "java/lang/String") (C2 : Fld Z h0 a2 "java/lang/String" "coder" "B" (.int (0 : Int32))) (F2 : Fld Z h0 a2 "java/lang/String" "value" "[B" (.ref d2)) (V2 : Byt Z h0 d2 z) (SC : Sta Z Z.heap "java/lang/String" "COMPACT_STRINGS" "Z" (.int cs)) (hcs : ¬ cs = (0 : Int32)) (hz : z ∈ ([13] : List Int32)) (n12 : a2 ≠ a1) (nd2 : a2 ≠ d) (n1d : d2 ≠ a1) (ndd : d2 ≠ d) :
    Ct l Z (⟨"java/lang/StringBuilder", "append", "(Ljava/lang/String;)Ljava/lang/StringBuilder;"⟩ : MethodName) jdk_67_method_7_code 2 (some (.object "java/lang/StringBuilder")) ({ frames := 4, cells := 0, slots := 0, locals := 83 } : Room) ws #[(.ref a1), (.ref a2)] h0 (fun v h L => v = some (.ref a1) ∧ Fr n0 L ∧ Keep h0 h [a1, d] ∧ Fld Z h a1 "java/lang/AbstractStringBuilder" "value" "[B" (.ref d) ∧ Fld Z h a1 "java/lang/AbstractStringBuilder" "coder" "B" (.int (0 : Int32)) ∧ Fld Z h a1 "java/lang/AbstractStringBuilder" "count" "I" (.int ((0 : Int32) + z)) ∧ Byt Z h d (16 : Int32) ∧ Exa Z h d "[B") := by
  refine o_body (plainFor_of_name o_pn_java_lang_StringBuilder) ?_
  intro p e s m below meth c s₁ X0 hx hby hml hret hlk hown hnm hZ e0
  have N0 := Fr.nil n0
  refine o_top (g' := (mkF m 0 #[.val (.ref a1), .val (.ref a2)] [])) (by first | (simp [entryFrame, mkF, argsToLocals, Value.category]; done) | rfl) ?_
  refine o_aloadN (v := (.ref a1)) (pc := 0) X0 hx (hb hby o_d5_0) rfl rfl ?_
  refine o_aloadN (v := (.ref a2)) (pc := 1) X0 hx (hb hby o_d5_1) rfl rfl ?_
  refine o_callSu (pc := 2) X0 hx hZ (y := (⟨"java/lang/AbstractStringBuilder", "append", "(Ljava/lang/String;)Ljava/lang/AbstractStringBuilder;"⟩ : MethodName)) (K := "java/lang/StringBuilder") (a := a1) (argsL := [(.ref a2)]) (rest := []) hown (hw _ (List.mem_of_getElem? (i := 41) rfl)) (o_samem (hw _ (List.mem_of_getElem? (i := 42) rfl)) (o_nfC (y' := (⟨"java/lang/AbstractStringBuilder", "ensureCapacityInternal", "(I)V"⟩ : MethodName)) (z := (⟨"java/lang/AbstractStringBuilder", "ensureCapacityInternal", "(I)V"⟩ : MethodName)) rfl (hw _ (List.mem_of_getElem? (i := 64) rfl))) (by decide)) (hw _ (List.mem_of_getElem? (i := 42) rfl)) (hw _ (List.mem_of_getElem? (i := 43) rfl)) (hw _ (List.mem_of_getElem? (i := 25) rfl)) (hw _ (List.mem_of_getElem? (i := 45) rfl)) (by decide) (rmAP0 l Z a0 hw [] a1 d a2 d2 z cs h0 n0 O0 E1 G0 G1 G2 VD ED g1 gd hne E2 C2 F2 V2 SC hcs hz n12 nd2 n1d ndd) e0 (Ins.self E1) (by rw [hml]; rfl) (lenOf o_pd15 rfl) (has := rfl) (hst := rfl) (W := 0) (Nat.le_of_ble_eq_true rfl) (hb hby o_d5_2) (by decide) (by decide) (by decide) (by decide) fun v77 T77 h77 L77 X77 e77 q77 => ?_
  obtain ⟨rfl, N77q, K77, F77v, F77c, F77n, V77, Y77⟩ := q77
  have N77 := Fr.app N0 N77q
  have O78 := O0.keep K77 (allS g1 (allS gd all0))
  have K78 : Keep h0 h77 [a1, d] := (Keep.refl h0 [a1, d]).trans K77 (allS (Or.inl (List.mem_of_getElem? (i := 0) rfl)) (allS (Or.inl (List.mem_of_getElem? (i := 1) rfl)) all0))
  show Go p e below T77 (mkF m 5 #[.val (.ref a1), .val (.ref a2)] [(.ref a1)]) _
  refine o_pop (pc := 5) X77 hx (hb hby o_d5_5) rfl ?_
  refine o_aloadN (v := (.ref a1)) (pc := 6) X77 hx (hb hby o_d5_6) rfl rfl ?_
  exact o_retA (pc := 7) X77 hx hret hlk rfl rfl (hb hby o_d5_7) e77 (by decide) (by decide) ⟨rfl, N77, K78, F77v, F77c, F77n, V77, Y77⟩
set_option maxRecDepth 65536 in
set_option maxHeartbeats 40000000 in
theorem rmGBA (l : Launch) (Z : State) (a0 : Array Value) (hw : ∀ d ∈ tables_1, d.before a0 Z = true) (ws : List Jvm.Cond) (a2 d2 d : Addr) (z : Int32) (cs : Int32) (h0 : Heap) (n0 : Nat) (O0 : Old Z n0 h0) (E2 : Exa Z h0 a2 "java/lang/String") (C2 : Fld Z h0 a2 "java/lang/String" "coder" "B" (.int (0 : Int32))) (F2 : Fld Z h0 a2 "java/lang/String" "value" "[B" (.ref d2)) (V2 : Byt Z h0 d2 z) (SC : Sta Z Z.heap "java/lang/String" "COMPACT_STRINGS" "Z" (.int cs)) (hcs : ¬ cs = (0 : Int32)) (VD : Byt Z h0 d (16 : Int32)) (gd : n0 ≤ d) (hz : z ∈ ([0, 1, 2, 3] : List Int32)) :
    Ct l Z (⟨"java/lang/String", "getBytes", "([BIB)V"⟩ : MethodName) jdk_42_method_147_code 4 none ({ frames := 1, cells := 0, slots := 0, locals := 40 } : Room) ws #[(.ref a2), (.ref d), (.int (13 : Int32)), (.int (0 : Int32))] h0 (fun v h L => v = none ∧ Fr n0 L ∧ Keep h0 h [d] ∧ Byt Z h d (16 : Int32)) := by
  refine o_body (plainFor_of_name o_pn_java_lang_String) ?_
  intro p e s m below meth c s₁ X0 hx hby hml hret hlk hown hnm hZ e0
  have N0 := Fr.nil n0
  refine o_top (g' := (mkF m 0 #[.val (.ref a2), .val (.ref d), .val (.int (13 : Int32)), .val (.int (0 : Int32))] [])) (by first | (simp [entryFrame, mkF, argsToLocals, Value.category]; done) | rfl) ?_
  refine o_aloadN (v := (.ref a2)) (pc := 0) X0 hx (hb hby o_d12_0) rfl rfl ?_
  refine o_callV (pc := 1) X0 hx hZ (y := (⟨"java/lang/String", "coder", "()B"⟩ : MethodName)) (z := (⟨"java/lang/String", "coder", "()B"⟩ : MethodName)) (C := "java/lang/String") (a := a2) (argsL := []) (rest := []) hown (hw _ (List.mem_of_getElem? (i := 52) rfl)) (hw _ (List.mem_of_getElem? (i := 53) rfl)) (notFace_of_selects (args := #[]) (mvT hZ (hw _ (List.mem_of_getElem? (i := 55) rfl)))) (hw _ (List.mem_of_getElem? (i := 55) rfl)) (hw _ (List.mem_of_getElem? (i := 54) rfl)) (hw _ (List.mem_of_getElem? (i := 2) rfl)) (hw _ (List.mem_of_getElem? (i := 56) rfl)) (by decide) (rmCoder l Z a0 hw [] a2 cs h0 n0 O0 C2 SC hcs) e0 E2 (by rw [hml]; rfl) (lenOf o_pd5 rfl) (has := rfl) (hst := rfl) (W := 0) (Nat.le_of_ble_eq_true rfl) (hb hby o_d12_1) (by decide) (by decide) (by decide) (by decide) fun v79 T79 h79 L79 X79 e79 q79 => ?_
  obtain ⟨rfl, N79q, rfl⟩ := q79
  have N79 := Fr.app N0 N79q
  show Go p e below T79 (mkF m 4 #[.val (.ref a2), .val (.ref d), .val (.int (13 : Int32)), .val (.int (0 : Int32))] [(.int (0 : Int32))]) _
  refine o_iloadN (v := (0 : Int32)) (pc := 4) X79 hx (hb hby o_d12_4) rfl ?_
  refine o_icmpNo (pc := 5) X79 hx (hb hby o_d12_5) (teq (by decide : (0 : Int32) = (0 : Int32))).2 ?_
  refine o_aloadN (v := (.ref a2)) (pc := 8) X79 hx (hb hby o_d12_8) rfl rfl ?_
  refine o_getF (pc := 9) X79 hx hZ hown (host := "") (Or.inl (hw _ (List.mem_of_getElem? (i := 51) rfl))) Via.refl e79 F2 (hb hby o_d12_9) fun T80 X80 e80 => ?_
  refine o_iconst (pc := 12) X80 hx (0 : Int32) (hb hby o_d12_12) rfl ?_
  refine o_aloadN (v := (.ref d)) (pc := 13) X80 hx (hb hby o_d12_13) rfl rfl ?_
  refine o_iloadN (v := (13 : Int32)) (pc := 14) X80 hx (hb hby o_d12_14) rfl ?_
  refine o_iloadN (v := (0 : Int32)) (pc := 15) X80 hx (hb hby o_d12_15) rfl ?_
  refine o_ishl (pc := 16) X80 hx (hb hby o_d12_16) ?_
  rw [show ((13 : Int32) <<< ((0 : Int32) &&& 31)) = (13 : Int32) by decide]
  refine o_aloadN (v := (.ref a2)) (pc := 17) X80 hx (hb hby o_d12_17) rfl rfl ?_
  refine o_getF (pc := 18) X80 hx hZ hown (host := "") (Or.inl (hw _ (List.mem_of_getElem? (i := 51) rfl))) Via.refl e80 F2 (hb hby o_d12_18) fun T81 X81 e81 => ?_
  refine o_lenB (pc := 21) X81 hx hZ e81 V2 (hb hby o_d12_21) ?_
  refine o_cpB (pc := 22) X81 hx hZ hown (hw _ (List.mem_of_getElem? (i := 82) rfl)) (hw _ (List.mem_of_getElem? (i := 85) rfl)) (hw _ (List.mem_of_getElem? (i := 83) rfl)) (hw _ (List.mem_of_getElem? (i := 84) rfl)) e81 V2 VD (by decide) (by decide) (o_all (P := fun z => ¬ z < 0) hz (by decide)) (o_all (P := fun z => (0 : Int32).toNatClampNeg + z.toNatClampNeg ≤ z.toNatClampNeg) hz (by decide)) (o_all (P := fun z => (13 : Int32).toNatClampNeg + z.toNatClampNeg ≤ (16 : Int32).toNatClampNeg) hz (by decide)) N79 gd (by rw [hml]; rfl) (hb hby o_d12_22) (by decide) (W := 0) (Nat.le_of_ble_eq_true rfl) (by decide) fun T82 h82 L82 X82 e82 N82 K82 V82 => ?_
  have O83 := O0.keep K82 (allS gd all0)
  have K83 : Keep h0 h82 [d] := (Keep.refl h0 [d]).trans K82 (allS (Or.inl (List.mem_of_getElem? (i := 0) rfl)) all0)
  refine o_goto (pc := 25) X82 hx 43 (hb hby o_d12_25) (by decide) (by decide) ?_
  exact o_ret0 (pc := 43) X82 hx hret hlk (hb hby o_d12_43) e82 (by decide) (by decide) ⟨rfl, N82, K83, V82⟩
set_option maxRecDepth 65536 in
set_option maxHeartbeats 40000000 in
theorem rmPSA (l : Launch) (Z : State) (a0 : Array Value) (hw : ∀ d ∈ tables_1, d.before a0 Z = true) (ws : List Jvm.Cond) (a1 d a2 d2 : Addr) (kc z : Int32) (cs : Int32) (h0 : Heap) (n0 : Nat) (O0 : Old Z n0 h0) (E1 : Exa Z h0 a1 "java/lang/StringBuilder") (G0 : Fld Z h0 a1 "java/lang/AbstractStringBuilder" "value" "[B" (.ref d)) (G1 : Fld Z h0 a1 "java/lang/AbstractStringBuilder" "coder" "B" (.int (0 : Int32))) (G2 : Fld Z h0 a1 "java/lang/AbstractStringBuilder" "count" "I" (.int kc)) (VD : Byt Z h0 d (16 : Int32)) (ED : Exa Z h0 d "[B") (g1 : n0 ≤ a1) (gd : n0 ≤ d) (hne : a1 ≠ d) (E2 : Exa Z h0 a2 "java/lang/String") (C2 : Fld Z h0 a2 "java/lang/String" "coder" "B" (.int (0 : Int32))) (F2 : Fld Z h0 a2 "java/lang/String" "value" "[B" (.ref d2)) (V2 : Byt Z h0 d2 z) (SC : Sta Z Z.heap "java/lang/String" "COMPACT_STRINGS" "Z" (.int cs)) (hcs : ¬ cs = (0 : Int32)) (hz : z ∈ ([0, 1, 2, 3] : List Int32)) :
    Ct l Z (⟨"java/lang/AbstractStringBuilder", "putStringAt", "(ILjava/lang/String;)V"⟩ : MethodName) jdk_68_method_73_code 3 none ({ frames := 2, cells := 0, slots := 0, locals := 55 } : Room) ws #[(.ref a1), (.int (13 : Int32)), (.ref a2)] h0 (fun v h L => v = none ∧ Fr n0 L ∧ Keep h0 h [d] ∧ Byt Z h d (16 : Int32)) := by
  refine o_body (plainFor_of_name o_pn_java_lang_AbstractStringBuilder) ?_
  intro p e s m below meth c s₁ X0 hx hby hml hret hlk hown hnm hZ e0
  have N0 := Fr.nil n0
  refine o_top (g' := (mkF m 0 #[.val (.ref a1), .val (.int (13 : Int32)), .val (.ref a2)] [])) (by first | (simp [entryFrame, mkF, argsToLocals, Value.category]; done) | rfl) ?_
  refine o_aloadN (v := (.ref a1)) (pc := 0) X0 hx (hb hby o_d10_0) rfl rfl ?_
  refine o_aloadN (v := (.ref a2)) (pc := 1) X0 hx (hb hby o_d10_1) rfl rfl ?_
  refine o_callV (pc := 2) X0 hx hZ (y := (⟨"java/lang/AbstractStringBuilder", "inflateIfNeededFor", "(Ljava/lang/String;)V"⟩ : MethodName)) (z := (⟨"java/lang/AbstractStringBuilder", "inflateIfNeededFor", "(Ljava/lang/String;)V"⟩ : MethodName)) (C := "java/lang/StringBuilder") (a := a1) (argsL := [(.ref a2)]) (rest := []) hown (hw _ (List.mem_of_getElem? (i := 71) rfl)) (o_decl (hw _ (List.mem_of_getElem? (i := 72) rfl)) (hw _ (List.mem_of_getElem? (i := 75) rfl))) (notFace_of_selects (args := #[]) (mvT hZ (hw _ (List.mem_of_getElem? (i := 74) rfl)))) (hw _ (List.mem_of_getElem? (i := 74) rfl)) (hw _ (List.mem_of_getElem? (i := 72) rfl)) (hw _ (List.mem_of_getElem? (i := 25) rfl)) (hw _ (List.mem_of_getElem? (i := 75) rfl)) (by decide) (rmIF l Z a0 hw [] a1 a2 cs h0 n0 O0 G1 E2 C2 SC hcs) e0 E1 (by rw [hml]; rfl) (lenOf o_pd10 rfl) (has := rfl) (hst := rfl) (W := 0) (Nat.le_of_ble_eq_true rfl) (hb hby o_d10_2) (by decide) (by decide) (by decide) (by decide) fun v84 T84 h84 L84 X84 e84 q84 => ?_
  obtain ⟨rfl, N84q, rfl⟩ := q84
  have N84 := Fr.app N0 N84q
  show Go p e below T84 (mkF m 5 #[.val (.ref a1), .val (.int (13 : Int32)), .val (.ref a2)] []) _
  refine o_aloadN (v := (.ref a2)) (pc := 5) X84 hx (hb hby o_d10_5) rfl rfl ?_
  refine o_aloadN (v := (.ref a1)) (pc := 6) X84 hx (hb hby o_d10_6) rfl rfl ?_
  refine o_getF (pc := 7) X84 hx hZ hown (host := "") (Or.inl (hw _ (List.mem_of_getElem? (i := 31) rfl))) Via.refl e84 G0 (hb hby o_d10_7) fun T85 X85 e85 => ?_
  refine o_iloadN (v := (13 : Int32)) (pc := 10) X85 hx (hb hby o_d10_10) rfl ?_
  refine o_aloadN (v := (.ref a1)) (pc := 11) X85 hx (hb hby o_d10_11) rfl rfl ?_
  refine o_getF (pc := 12) X85 hx hZ hown (host := "") (Or.inl (hw _ (List.mem_of_getElem? (i := 33) rfl))) Via.refl e85 G1 (hb hby o_d10_12) fun T86 X86 e86 => ?_
  refine o_callV (pc := 15) X86 hx hZ (y := (⟨"java/lang/String", "getBytes", "([BIB)V"⟩ : MethodName)) (z := (⟨"java/lang/String", "getBytes", "([BIB)V"⟩ : MethodName)) (C := "java/lang/String") (a := a2) (argsL := [(.ref d), (.int (13 : Int32)), (.int (0 : Int32))]) (rest := []) hown (hw _ (List.mem_of_getElem? (i := 77) rfl)) (hw _ (List.mem_of_getElem? (i := 78) rfl)) (notFace_of_selects (args := #[]) (mvT hZ (hw _ (List.mem_of_getElem? (i := 80) rfl)))) (hw _ (List.mem_of_getElem? (i := 80) rfl)) (hw _ (List.mem_of_getElem? (i := 79) rfl)) (hw _ (List.mem_of_getElem? (i := 2) rfl)) (hw _ (List.mem_of_getElem? (i := 81) rfl)) (by decide) (rmGBA l Z a0 hw [] a2 d2 d z cs h0 n0 O0 E2 C2 F2 V2 SC hcs VD gd hz) e86 E2 (by rw [hml]; rfl) (lenOf o_pd11 rfl) (has := rfl) (hst := rfl) (W := 0) (Nat.le_of_ble_eq_true rfl) (hb hby o_d10_15) (by decide) (by decide) (by decide) (by decide) fun v87 T87 h87 L87 X87 e87 q87 => ?_
  obtain ⟨rfl, N87q, K87, V87⟩ := q87
  have N87 := Fr.app N84 N87q
  have O88 := O0.keep K87 (allS gd all0)
  have K88 : Keep h0 h87 [d] := (Keep.refl h0 [d]).trans K87 (allS (Or.inl (List.mem_of_getElem? (i := 0) rfl)) all0)
  show Go p e below T87 (mkF m 18 #[.val (.ref a1), .val (.int (13 : Int32)), .val (.ref a2)] []) _
  exact o_ret0 (pc := 18) X87 hx hret hlk (hb hby o_d10_18) e87 (by decide) (by decide) ⟨rfl, N87, K88, V87⟩
set_option maxRecDepth 65536 in
set_option maxHeartbeats 40000000 in
theorem rmAPA (l : Launch) (Z : State) (a0 : Array Value) (hw : ∀ d ∈ tables_1, d.before a0 Z = true) (ws : List Jvm.Cond) (a1 d a2 d2 : Addr) (z : Int32) (cs : Int32) (h0 : Heap) (n0 : Nat) (O0 : Old Z n0 h0) (E1 : Exa Z h0 a1 "java/lang/StringBuilder") (G0 : Fld Z h0 a1 "java/lang/AbstractStringBuilder" "value" "[B" (.ref d)) (G1 : Fld Z h0 a1 "java/lang/AbstractStringBuilder" "coder" "B" (.int (0 : Int32))) (G2 : Fld Z h0 a1 "java/lang/AbstractStringBuilder" "count" "I" (.int (13 : Int32))) (VD : Byt Z h0 d (16 : Int32)) (ED : Exa Z h0 d "[B") (g1 : n0 ≤ a1) (gd : n0 ≤ d) (hne : a1 ≠ d) (E2 : Exa Z h0 a2 "java/lang/String") (C2 : Fld Z h0 a2 "java/lang/String" "coder" "B" (.int (0 : Int32))) (F2 : Fld Z h0 a2 "java/lang/String" "value" "[B" (.ref d2)) (V2 : Byt Z h0 d2 z) (SC : Sta Z Z.heap "java/lang/String" "COMPACT_STRINGS" "Z" (.int cs)) (hcs : ¬ cs = (0 : Int32)) (hz : z ∈ ([0, 1, 2, 3] : List Int32)) (n12 : a2 ≠ a1) (nd2 : a2 ≠ d) (n1d : d2 ≠ a1) (ndd : d2 ≠ d) :
    Ct l Z (⟨"java/lang/AbstractStringBuilder", "append", "(Ljava/lang/String;)Ljava/lang/AbstractStringBuilder;"⟩ : MethodName) jdk_68_method_22_code 3 (some (.object "java/lang/AbstractStringBuilder")) ({ frames := 3, cells := 0, slots := 0, locals := 69 } : Room) ws #[(.ref a1), (.ref a2)] h0 (fun v h L => v = some (.ref a1) ∧ Fr n0 L ∧ Keep h0 h [a1, d] ∧ Fld Z h a1 "java/lang/AbstractStringBuilder" "value" "[B" (.ref d) ∧ Fld Z h a1 "java/lang/AbstractStringBuilder" "coder" "B" (.int (0 : Int32)) ∧ Fld Z h a1 "java/lang/AbstractStringBuilder" "count" "I" (.int ((13 : Int32) + z)) ∧ Byt Z h d (16 : Int32) ∧ Exa Z h d "[B") := by
  refine o_body (plainFor_of_name o_pn_java_lang_AbstractStringBuilder) ?_
  intro p e s m below meth c s₁ X0 hx hby hml hret hlk hown hnm hZ e0
  have N0 := Fr.nil n0
  refine o_top (g' := (mkF m 0 #[.val (.ref a1), .val (.ref a2), .unset] [])) (by first | (simp [entryFrame, mkF, argsToLocals, Value.category]; done) | rfl) ?_
  refine o_aloadN (v := (.ref a2)) (pc := 0) X0 hx (hb hby o_d6_0) rfl rfl ?_
  refine o_ifnonnullYes (pc := 1) X0 hx 9 (hb hby o_d6_1) (by decide) (by decide) ?_
  refine o_aloadN (v := (.ref a2)) (pc := 9) X0 hx (hb hby o_d6_9) rfl rfl ?_
  refine o_callV (pc := 10) X0 hx hZ (y := (⟨"java/lang/String", "length", "()I"⟩ : MethodName)) (z := (⟨"java/lang/String", "length", "()I"⟩ : MethodName)) (C := "java/lang/String") (a := a2) (argsL := []) (rest := []) hown (hw _ (List.mem_of_getElem? (i := 46) rfl)) (hw _ (List.mem_of_getElem? (i := 47) rfl)) (notFace_of_selects (args := #[]) (mvT hZ (hw _ (List.mem_of_getElem? (i := 49) rfl)))) (hw _ (List.mem_of_getElem? (i := 49) rfl)) (hw _ (List.mem_of_getElem? (i := 48) rfl)) (hw _ (List.mem_of_getElem? (i := 2) rfl)) (hw _ (List.mem_of_getElem? (i := 50) rfl)) (by decide) (rmLen l Z a0 hw [] a2 d2 z cs h0 n0 O0 E2 C2 F2 V2 SC hcs) e0 E2 (by rw [hml]; rfl) (lenOf o_pd12 rfl) (has := rfl) (hst := rfl) (W := 0) (Nat.le_of_ble_eq_true rfl) (hb hby o_d6_10) (by decide) (by decide) (by decide) (by decide) fun v89 T89 h89 L89 X89 e89 q89 => ?_
  obtain ⟨rfl, N89q, rfl⟩ := q89
  have N89 := Fr.app N0 N89q
  show Go p e below T89 (mkF m 13 #[.val (.ref a1), .val (.ref a2), .unset] [(.int z)]) _
  refine o_istoreN (l' := #[.val (.ref a1), .val (.ref a2), .val (.int z)]) (pc := 13) X89 hx (hb hby o_d6_13) rfl ?_
  refine o_aloadN (v := (.ref a1)) (pc := 14) X89 hx (hb hby o_d6_14) rfl rfl ?_
  refine o_aloadN (v := (.ref a1)) (pc := 15) X89 hx (hb hby o_d6_15) rfl rfl ?_
  refine o_getF (pc := 16) X89 hx hZ hown (host := "") (Or.inl (hw _ (List.mem_of_getElem? (i := 59) rfl))) Via.refl e89 G2 (hb hby o_d6_16) fun T90 X90 e90 => ?_
  refine o_iloadN (v := z) (pc := 19) X90 hx (hb hby o_d6_19) rfl ?_
  refine o_iadd (pc := 20) X90 hx (hb hby o_d6_20) ?_
  refine o_callV (pc := 21) X90 hx hZ (y := (⟨"java/lang/AbstractStringBuilder", "ensureCapacityInternal", "(I)V"⟩ : MethodName)) (z := (⟨"java/lang/AbstractStringBuilder", "ensureCapacityInternal", "(I)V"⟩ : MethodName)) (C := "java/lang/StringBuilder") (a := a1) (argsL := [(.int ((13 : Int32) + z))]) (rest := []) hown (hw _ (List.mem_of_getElem? (i := 61) rfl)) (o_decl (hw _ (List.mem_of_getElem? (i := 62) rfl)) (hw _ (List.mem_of_getElem? (i := 65) rfl))) (notFace_of_selects (args := #[]) (mvT hZ (hw _ (List.mem_of_getElem? (i := 64) rfl)))) (hw _ (List.mem_of_getElem? (i := 64) rfl)) (hw _ (List.mem_of_getElem? (i := 62) rfl)) (hw _ (List.mem_of_getElem? (i := 25) rfl)) (hw _ (List.mem_of_getElem? (i := 65) rfl)) (by decide) (rmEC0 l Z a0 hw [] a1 d (13 : Int32) ((13 : Int32) + z) h0 n0 O0 E1 G0 G1 G2 VD ED g1 gd hne (o_all (P := fun z => ¬ (0 : Int32) < ((13 : Int32) + z) - (16 : Int32)) hz (by decide))) e90 E1 (by rw [hml]; rfl) (lenOf o_pd13 rfl) (has := rfl) (hst := rfl) (W := 0) (Nat.le_of_ble_eq_true rfl) (hb hby o_d6_21) (by decide) (by decide) (by decide) (by decide) fun v91 T91 h91 L91 X91 e91 q91 => ?_
  obtain ⟨rfl, N91q, rfl⟩ := q91
  have N91 := Fr.app N89 N91q
  show Go p e below T91 (mkF m 24 #[.val (.ref a1), .val (.ref a2), .val (.int z)] []) _
  refine o_aloadN (v := (.ref a1)) (pc := 24) X91 hx (hb hby o_d6_24) rfl rfl ?_
  refine o_aloadN (v := (.ref a1)) (pc := 25) X91 hx (hb hby o_d6_25) rfl rfl ?_
  refine o_getF (pc := 26) X91 hx hZ hown (host := "") (Or.inl (hw _ (List.mem_of_getElem? (i := 59) rfl))) Via.refl e91 G2 (hb hby o_d6_26) fun T92 X92 e92 => ?_
  refine o_aloadN (v := (.ref a2)) (pc := 29) X92 hx (hb hby o_d6_29) rfl rfl ?_
  refine o_callV (pc := 30) X92 hx hZ (y := (⟨"java/lang/AbstractStringBuilder", "putStringAt", "(ILjava/lang/String;)V"⟩ : MethodName)) (z := (⟨"java/lang/AbstractStringBuilder", "putStringAt", "(ILjava/lang/String;)V"⟩ : MethodName)) (C := "java/lang/StringBuilder") (a := a1) (argsL := [(.int (13 : Int32)), (.ref a2)]) (rest := []) hown (hw _ (List.mem_of_getElem? (i := 66) rfl)) (o_decl (hw _ (List.mem_of_getElem? (i := 67) rfl)) (hw _ (List.mem_of_getElem? (i := 70) rfl))) (notFace_of_selects (args := #[]) (mvT hZ (hw _ (List.mem_of_getElem? (i := 69) rfl)))) (hw _ (List.mem_of_getElem? (i := 69) rfl)) (hw _ (List.mem_of_getElem? (i := 67) rfl)) (hw _ (List.mem_of_getElem? (i := 25) rfl)) (hw _ (List.mem_of_getElem? (i := 70) rfl)) (by decide) (rmPSA l Z a0 hw [] a1 d a2 d2 (13 : Int32) z cs h0 n0 O0 E1 G0 G1 G2 VD ED g1 gd hne E2 C2 F2 V2 SC hcs hz) e92 E1 (by rw [hml]; rfl) (lenOf o_pd14 rfl) (has := rfl) (hst := rfl) (W := 0) (Nat.le_of_ble_eq_true rfl) (hb hby o_d6_30) (by decide) (by decide) (by decide) (by decide) fun v93 T93 h93 L93 X93 e93 q93 => ?_
  obtain ⟨rfl, N93q, K93, V93⟩ := q93
  have N93 := Fr.app N91 N93q
  have O94 := O0.keep K93 (allS gd all0)
  have K94 : Keep h0 h93 [a1, d] := (Keep.refl h0 [a1, d]).trans K93 (allS (Or.inl (List.mem_of_getElem? (i := 1) rfl)) all0)
  show Go p e below T93 (mkF m 33 #[.val (.ref a1), .val (.ref a2), .val (.int z)] []) _
  refine o_aloadN (v := (.ref a1)) (pc := 33) X93 hx (hb hby o_d6_33) rfl rfl ?_
  refine o_dup (pc := 34) X93 hx (hb hby o_d6_34) rfl ?_
  refine o_getF (pc := 35) X93 hx hZ hown (host := "") (Or.inl (hw _ (List.mem_of_getElem? (i := 59) rfl))) Via.refl e93 (G2.keep K93 (ninS hne nin0)) (hb hby o_d6_35) fun T95 X95 e95 => ?_
  refine o_iloadN (v := z) (pc := 38) X95 hx (hb hby o_d6_38) rfl ?_
  refine o_iadd (pc := 39) X95 hx (hb hby o_d6_39) ?_
  refine o_putF (pc := 40) X95 hx hZ hown (host := "") (Or.inl (hw _ (List.mem_of_getElem? (i := 59) rfl))) Via.refl e95 (G2.keep K93 (ninS hne nin0)) (E1.keep K93) (Or.inl (hw _ (List.mem_of_getElem? (i := 60) rfl))) (hw _ (List.mem_of_getElem? (i := 16) rfl)) (ty := .int) (by decide) rfl rfl (hb hby o_d6_40) fun T96 h96 X96 e96 W96 => ?_
  have F96 := Fld.same W96 (G2.keep K93 (ninS hne nin0))
  have N96 := Fr.snoc X96 N93 g1
  have O97 := O94.wr W96 g1
  have K97 : Keep h0 h96 [a1, d] := K94.wr W96 (Or.inl (List.mem_of_getElem? (i := 0) rfl))
  refine o_aloadN (v := (.ref a1)) (pc := 43) X96 hx (hb hby o_d6_43) rfl rfl ?_
  exact o_retA (pc := 44) X96 hx hret hlk rfl rfl (hb hby o_d6_44) e96 (by decide) (by decide) ⟨rfl, N96, K97, ((G0.keep K93 (ninS hne nin0)).other W96 (Or.inr (slot_ne (C := "java/lang/StringBuilder") (Or.inl (hw _ (List.mem_of_getElem? (i := 32) rfl))) (Or.inl (hw _ (List.mem_of_getElem? (i := 60) rfl))) (by decide) (t := (.array .byte)) (t' := .int) (by decide) (by decide)))), ((G1.keep K93 (ninS hne nin0)).other W96 (Or.inr (slot_ne (C := "java/lang/StringBuilder") (Or.inl (hw _ (List.mem_of_getElem? (i := 34) rfl))) (Or.inl (hw _ (List.mem_of_getElem? (i := 60) rfl))) (by decide) (t := .byte) (t' := .int) (by decide) (by decide)))), F96, (V93.other W96 (Ne.symm hne)), ((ED.keep K93).wr W96)⟩
set_option maxRecDepth 65536 in
set_option maxHeartbeats 40000000 in
theorem rmABA (l : Launch) (Z : State) (a0 : Array Value) (hw : ∀ d ∈ tables_1, d.before a0 Z = true) (ws : List Jvm.Cond) (a1 d a2 d2 : Addr) (z : Int32) (cs : Int32) (h0 : Heap) (n0 : Nat) (O0 : Old Z n0 h0) (E1 : Exa Z h0 a1 "java/lang/StringBuilder") (G0 : Fld Z h0 a1 "java/lang/AbstractStringBuilder" "value" "[B" (.ref d)) (G1 : Fld Z h0 a1 "java/lang/AbstractStringBuilder" "coder" "B" (.int (0 : Int32))) (G2 : Fld Z h0 a1 "java/lang/AbstractStringBuilder" "count" "I" (.int (13 : Int32))) (VD : Byt Z h0 d (16 : Int32)) (ED : Exa Z h0 d "[B") (g1 : n0 ≤ a1) (gd : n0 ≤ d) (hne : a1 ≠ d) (E2 : Exa Z h0 a2 "java/lang/String") (C2 : Fld Z h0 a2 "java/lang/String" "coder" "B" (.int (0 : Int32))) (F2 : Fld Z h0 a2 "java/lang/String" "value" "[B" (.ref d2)) (V2 : Byt Z h0 d2 z) (SC : Sta Z Z.heap "java/lang/String" "COMPACT_STRINGS" "Z" (.int cs)) (hcs : ¬ cs = (0 : Int32)) (hz : z ∈ ([0, 1, 2, 3] : List Int32)) (n12 : a2 ≠ a1) (nd2 : a2 ≠ d) (n1d : d2 ≠ a1) (ndd : d2 ≠ d) :
    Ct l Z (⟨"java/lang/StringBuilder", "append", "(Ljava/lang/String;)Ljava/lang/StringBuilder;"⟩ : MethodName) jdk_67_method_7_code 2 (some (.object "java/lang/StringBuilder")) ({ frames := 4, cells := 0, slots := 0, locals := 83 } : Room) ws #[(.ref a1), (.ref a2)] h0 (fun v h L => v = some (.ref a1) ∧ Fr n0 L ∧ Keep h0 h [a1, d] ∧ Fld Z h a1 "java/lang/AbstractStringBuilder" "value" "[B" (.ref d) ∧ Fld Z h a1 "java/lang/AbstractStringBuilder" "coder" "B" (.int (0 : Int32)) ∧ Fld Z h a1 "java/lang/AbstractStringBuilder" "count" "I" (.int ((13 : Int32) + z)) ∧ Byt Z h d (16 : Int32) ∧ Exa Z h d "[B") := by
  refine o_body (plainFor_of_name o_pn_java_lang_StringBuilder) ?_
  intro p e s m below meth c s₁ X0 hx hby hml hret hlk hown hnm hZ e0
  have N0 := Fr.nil n0
  refine o_top (g' := (mkF m 0 #[.val (.ref a1), .val (.ref a2)] [])) (by first | (simp [entryFrame, mkF, argsToLocals, Value.category]; done) | rfl) ?_
  refine o_aloadN (v := (.ref a1)) (pc := 0) X0 hx (hb hby o_d5_0) rfl rfl ?_
  refine o_aloadN (v := (.ref a2)) (pc := 1) X0 hx (hb hby o_d5_1) rfl rfl ?_
  refine o_callSu (pc := 2) X0 hx hZ (y := (⟨"java/lang/AbstractStringBuilder", "append", "(Ljava/lang/String;)Ljava/lang/AbstractStringBuilder;"⟩ : MethodName)) (K := "java/lang/StringBuilder") (a := a1) (argsL := [(.ref a2)]) (rest := []) hown (hw _ (List.mem_of_getElem? (i := 41) rfl)) (o_samem (hw _ (List.mem_of_getElem? (i := 42) rfl)) (o_nfC (y' := (⟨"java/lang/AbstractStringBuilder", "ensureCapacityInternal", "(I)V"⟩ : MethodName)) (z := (⟨"java/lang/AbstractStringBuilder", "ensureCapacityInternal", "(I)V"⟩ : MethodName)) rfl (hw _ (List.mem_of_getElem? (i := 64) rfl))) (by decide)) (hw _ (List.mem_of_getElem? (i := 42) rfl)) (hw _ (List.mem_of_getElem? (i := 43) rfl)) (hw _ (List.mem_of_getElem? (i := 25) rfl)) (hw _ (List.mem_of_getElem? (i := 45) rfl)) (by decide) (rmAPA l Z a0 hw [] a1 d a2 d2 z cs h0 n0 O0 E1 G0 G1 G2 VD ED g1 gd hne E2 C2 F2 V2 SC hcs hz n12 nd2 n1d ndd) e0 (Ins.self E1) (by rw [hml]; rfl) (lenOf o_pd15 rfl) (has := rfl) (hst := rfl) (W := 0) (Nat.le_of_ble_eq_true rfl) (hb hby o_d5_2) (by decide) (by decide) (by decide) (by decide) fun v98 T98 h98 L98 X98 e98 q98 => ?_
  obtain ⟨rfl, N98q, K98, F98v, F98c, F98n, V98, Y98⟩ := q98
  have N98 := Fr.app N0 N98q
  have O99 := O0.keep K98 (allS g1 (allS gd all0))
  have K99 : Keep h0 h98 [a1, d] := (Keep.refl h0 [a1, d]).trans K98 (allS (Or.inl (List.mem_of_getElem? (i := 0) rfl)) (allS (Or.inl (List.mem_of_getElem? (i := 1) rfl)) all0))
  show Go p e below T98 (mkF m 5 #[.val (.ref a1), .val (.ref a2)] [(.ref a1)]) _
  refine o_pop (pc := 5) X98 hx (hb hby o_d5_5) rfl ?_
  refine o_aloadN (v := (.ref a1)) (pc := 6) X98 hx (hb hby o_d5_6) rfl rfl ?_
  exact o_retA (pc := 7) X98 hx hret hlk rfl rfl (hb hby o_d5_7) e98 (by decide) (by decide) ⟨rfl, N98, K99, F98v, F98c, F98n, V98, Y98⟩
set_option maxRecDepth 65536 in
set_option maxHeartbeats 40000000 in
theorem rmGBB (l : Launch) (Z : State) (a0 : Array Value) (hw : ∀ d ∈ tables_1, d.before a0 Z = true) (ws : List Jvm.Cond) (a2 d2 d : Addr) (z : Int32) (cs : Int32) (h0 : Heap) (n0 : Nat) (O0 : Old Z n0 h0) (E2 : Exa Z h0 a2 "java/lang/String") (C2 : Fld Z h0 a2 "java/lang/String" "coder" "B" (.int (0 : Int32))) (F2 : Fld Z h0 a2 "java/lang/String" "value" "[B" (.ref d2)) (V2 : Byt Z h0 d2 z) (SC : Sta Z Z.heap "java/lang/String" "COMPACT_STRINGS" "Z" (.int cs)) (hcs : ¬ cs = (0 : Int32)) (VD : Byt Z h0 d (34 : Int32)) (gd : n0 ≤ d) (hz : z ∈ ([4, 5, 6, 7, 8, 9, 10, 11, 12, 13, 14, 15, 16, 17] : List Int32)) :
    Ct l Z (⟨"java/lang/String", "getBytes", "([BIB)V"⟩ : MethodName) jdk_42_method_147_code 4 none ({ frames := 1, cells := 0, slots := 0, locals := 40 } : Room) ws #[(.ref a2), (.ref d), (.int (13 : Int32)), (.int (0 : Int32))] h0 (fun v h L => v = none ∧ Fr n0 L ∧ Keep h0 h [d] ∧ Byt Z h d (34 : Int32)) := by
  refine o_body (plainFor_of_name o_pn_java_lang_String) ?_
  intro p e s m below meth c s₁ X0 hx hby hml hret hlk hown hnm hZ e0
  have N0 := Fr.nil n0
  refine o_top (g' := (mkF m 0 #[.val (.ref a2), .val (.ref d), .val (.int (13 : Int32)), .val (.int (0 : Int32))] [])) (by first | (simp [entryFrame, mkF, argsToLocals, Value.category]; done) | rfl) ?_
  refine o_aloadN (v := (.ref a2)) (pc := 0) X0 hx (hb hby o_d12_0) rfl rfl ?_
  refine o_callV (pc := 1) X0 hx hZ (y := (⟨"java/lang/String", "coder", "()B"⟩ : MethodName)) (z := (⟨"java/lang/String", "coder", "()B"⟩ : MethodName)) (C := "java/lang/String") (a := a2) (argsL := []) (rest := []) hown (hw _ (List.mem_of_getElem? (i := 52) rfl)) (hw _ (List.mem_of_getElem? (i := 53) rfl)) (notFace_of_selects (args := #[]) (mvT hZ (hw _ (List.mem_of_getElem? (i := 55) rfl)))) (hw _ (List.mem_of_getElem? (i := 55) rfl)) (hw _ (List.mem_of_getElem? (i := 54) rfl)) (hw _ (List.mem_of_getElem? (i := 2) rfl)) (hw _ (List.mem_of_getElem? (i := 56) rfl)) (by decide) (rmCoder l Z a0 hw [] a2 cs h0 n0 O0 C2 SC hcs) e0 E2 (by rw [hml]; rfl) (lenOf o_pd5 rfl) (has := rfl) (hst := rfl) (W := 0) (Nat.le_of_ble_eq_true rfl) (hb hby o_d12_1) (by decide) (by decide) (by decide) (by decide) fun v100 T100 h100 L100 X100 e100 q100 => ?_
  obtain ⟨rfl, N100q, rfl⟩ := q100
  have N100 := Fr.app N0 N100q
  show Go p e below T100 (mkF m 4 #[.val (.ref a2), .val (.ref d), .val (.int (13 : Int32)), .val (.int (0 : Int32))] [(.int (0 : Int32))]) _
  refine o_iloadN (v := (0 : Int32)) (pc := 4) X100 hx (hb hby o_d12_4) rfl ?_
  refine o_icmpNo (pc := 5) X100 hx (hb hby o_d12_5) (teq (by decide : (0 : Int32) = (0 : Int32))).2 ?_
  refine o_aloadN (v := (.ref a2)) (pc := 8) X100 hx (hb hby o_d12_8) rfl rfl ?_
  refine o_getF (pc := 9) X100 hx hZ hown (host := "") (Or.inl (hw _ (List.mem_of_getElem? (i := 51) rfl))) Via.refl e100 F2 (hb hby o_d12_9) fun T101 X101 e101 => ?_
  refine o_iconst (pc := 12) X101 hx (0 : Int32) (hb hby o_d12_12) rfl ?_
  refine o_aloadN (v := (.ref d)) (pc := 13) X101 hx (hb hby o_d12_13) rfl rfl ?_
  refine o_iloadN (v := (13 : Int32)) (pc := 14) X101 hx (hb hby o_d12_14) rfl ?_
  refine o_iloadN (v := (0 : Int32)) (pc := 15) X101 hx (hb hby o_d12_15) rfl ?_
  refine o_ishl (pc := 16) X101 hx (hb hby o_d12_16) ?_
  rw [show ((13 : Int32) <<< ((0 : Int32) &&& 31)) = (13 : Int32) by decide]
  refine o_aloadN (v := (.ref a2)) (pc := 17) X101 hx (hb hby o_d12_17) rfl rfl ?_
  refine o_getF (pc := 18) X101 hx hZ hown (host := "") (Or.inl (hw _ (List.mem_of_getElem? (i := 51) rfl))) Via.refl e101 F2 (hb hby o_d12_18) fun T102 X102 e102 => ?_
  refine o_lenB (pc := 21) X102 hx hZ e102 V2 (hb hby o_d12_21) ?_
  refine o_cpB (pc := 22) X102 hx hZ hown (hw _ (List.mem_of_getElem? (i := 82) rfl)) (hw _ (List.mem_of_getElem? (i := 85) rfl)) (hw _ (List.mem_of_getElem? (i := 83) rfl)) (hw _ (List.mem_of_getElem? (i := 84) rfl)) e102 V2 VD (by decide) (by decide) (o_all (P := fun z => ¬ z < 0) hz (by decide)) (o_all (P := fun z => (0 : Int32).toNatClampNeg + z.toNatClampNeg ≤ z.toNatClampNeg) hz (by decide)) (o_all (P := fun z => (13 : Int32).toNatClampNeg + z.toNatClampNeg ≤ (34 : Int32).toNatClampNeg) hz (by decide)) N100 gd (by rw [hml]; rfl) (hb hby o_d12_22) (by decide) (W := 0) (Nat.le_of_ble_eq_true rfl) (by decide) fun T103 h103 L103 X103 e103 N103 K103 V103 => ?_
  have O104 := O0.keep K103 (allS gd all0)
  have K104 : Keep h0 h103 [d] := (Keep.refl h0 [d]).trans K103 (allS (Or.inl (List.mem_of_getElem? (i := 0) rfl)) all0)
  refine o_goto (pc := 25) X103 hx 43 (hb hby o_d12_25) (by decide) (by decide) ?_
  exact o_ret0 (pc := 43) X103 hx hret hlk (hb hby o_d12_43) e103 (by decide) (by decide) ⟨rfl, N103, K104, V103⟩
set_option maxRecDepth 65536 in
set_option maxHeartbeats 40000000 in
theorem rmPSB (l : Launch) (Z : State) (a0 : Array Value) (hw : ∀ d ∈ tables_1, d.before a0 Z = true) (ws : List Jvm.Cond) (a1 d a2 d2 : Addr) (kc z : Int32) (cs : Int32) (h0 : Heap) (n0 : Nat) (O0 : Old Z n0 h0) (E1 : Exa Z h0 a1 "java/lang/StringBuilder") (G0 : Fld Z h0 a1 "java/lang/AbstractStringBuilder" "value" "[B" (.ref d)) (G1 : Fld Z h0 a1 "java/lang/AbstractStringBuilder" "coder" "B" (.int (0 : Int32))) (G2 : Fld Z h0 a1 "java/lang/AbstractStringBuilder" "count" "I" (.int kc)) (VD : Byt Z h0 d (34 : Int32)) (ED : Exa Z h0 d "[B") (g1 : n0 ≤ a1) (gd : n0 ≤ d) (hne : a1 ≠ d) (E2 : Exa Z h0 a2 "java/lang/String") (C2 : Fld Z h0 a2 "java/lang/String" "coder" "B" (.int (0 : Int32))) (F2 : Fld Z h0 a2 "java/lang/String" "value" "[B" (.ref d2)) (V2 : Byt Z h0 d2 z) (SC : Sta Z Z.heap "java/lang/String" "COMPACT_STRINGS" "Z" (.int cs)) (hcs : ¬ cs = (0 : Int32)) (hz : z ∈ ([4, 5, 6, 7, 8, 9, 10, 11, 12, 13, 14, 15, 16, 17] : List Int32)) :
    Ct l Z (⟨"java/lang/AbstractStringBuilder", "putStringAt", "(ILjava/lang/String;)V"⟩ : MethodName) jdk_68_method_73_code 3 none ({ frames := 2, cells := 0, slots := 0, locals := 55 } : Room) ws #[(.ref a1), (.int (13 : Int32)), (.ref a2)] h0 (fun v h L => v = none ∧ Fr n0 L ∧ Keep h0 h [d] ∧ Byt Z h d (34 : Int32)) := by
  refine o_body (plainFor_of_name o_pn_java_lang_AbstractStringBuilder) ?_
  intro p e s m below meth c s₁ X0 hx hby hml hret hlk hown hnm hZ e0
  have N0 := Fr.nil n0
  refine o_top (g' := (mkF m 0 #[.val (.ref a1), .val (.int (13 : Int32)), .val (.ref a2)] [])) (by first | (simp [entryFrame, mkF, argsToLocals, Value.category]; done) | rfl) ?_
  refine o_aloadN (v := (.ref a1)) (pc := 0) X0 hx (hb hby o_d10_0) rfl rfl ?_
  refine o_aloadN (v := (.ref a2)) (pc := 1) X0 hx (hb hby o_d10_1) rfl rfl ?_
  refine o_callV (pc := 2) X0 hx hZ (y := (⟨"java/lang/AbstractStringBuilder", "inflateIfNeededFor", "(Ljava/lang/String;)V"⟩ : MethodName)) (z := (⟨"java/lang/AbstractStringBuilder", "inflateIfNeededFor", "(Ljava/lang/String;)V"⟩ : MethodName)) (C := "java/lang/StringBuilder") (a := a1) (argsL := [(.ref a2)]) (rest := []) hown (hw _ (List.mem_of_getElem? (i := 71) rfl)) (o_decl (hw _ (List.mem_of_getElem? (i := 72) rfl)) (hw _ (List.mem_of_getElem? (i := 75) rfl))) (notFace_of_selects (args := #[]) (mvT hZ (hw _ (List.mem_of_getElem? (i := 74) rfl)))) (hw _ (List.mem_of_getElem? (i := 74) rfl)) (hw _ (List.mem_of_getElem? (i := 72) rfl)) (hw _ (List.mem_of_getElem? (i := 25) rfl)) (hw _ (List.mem_of_getElem? (i := 75) rfl)) (by decide) (rmIF l Z a0 hw [] a1 a2 cs h0 n0 O0 G1 E2 C2 SC hcs) e0 E1 (by rw [hml]; rfl) (lenOf o_pd10 rfl) (has := rfl) (hst := rfl) (W := 0) (Nat.le_of_ble_eq_true rfl) (hb hby o_d10_2) (by decide) (by decide) (by decide) (by decide) fun v105 T105 h105 L105 X105 e105 q105 => ?_
  obtain ⟨rfl, N105q, rfl⟩ := q105
  have N105 := Fr.app N0 N105q
  show Go p e below T105 (mkF m 5 #[.val (.ref a1), .val (.int (13 : Int32)), .val (.ref a2)] []) _
  refine o_aloadN (v := (.ref a2)) (pc := 5) X105 hx (hb hby o_d10_5) rfl rfl ?_
  refine o_aloadN (v := (.ref a1)) (pc := 6) X105 hx (hb hby o_d10_6) rfl rfl ?_
  refine o_getF (pc := 7) X105 hx hZ hown (host := "") (Or.inl (hw _ (List.mem_of_getElem? (i := 31) rfl))) Via.refl e105 G0 (hb hby o_d10_7) fun T106 X106 e106 => ?_
  refine o_iloadN (v := (13 : Int32)) (pc := 10) X106 hx (hb hby o_d10_10) rfl ?_
  refine o_aloadN (v := (.ref a1)) (pc := 11) X106 hx (hb hby o_d10_11) rfl rfl ?_
  refine o_getF (pc := 12) X106 hx hZ hown (host := "") (Or.inl (hw _ (List.mem_of_getElem? (i := 33) rfl))) Via.refl e106 G1 (hb hby o_d10_12) fun T107 X107 e107 => ?_
  refine o_callV (pc := 15) X107 hx hZ (y := (⟨"java/lang/String", "getBytes", "([BIB)V"⟩ : MethodName)) (z := (⟨"java/lang/String", "getBytes", "([BIB)V"⟩ : MethodName)) (C := "java/lang/String") (a := a2) (argsL := [(.ref d), (.int (13 : Int32)), (.int (0 : Int32))]) (rest := []) hown (hw _ (List.mem_of_getElem? (i := 77) rfl)) (hw _ (List.mem_of_getElem? (i := 78) rfl)) (notFace_of_selects (args := #[]) (mvT hZ (hw _ (List.mem_of_getElem? (i := 80) rfl)))) (hw _ (List.mem_of_getElem? (i := 80) rfl)) (hw _ (List.mem_of_getElem? (i := 79) rfl)) (hw _ (List.mem_of_getElem? (i := 2) rfl)) (hw _ (List.mem_of_getElem? (i := 81) rfl)) (by decide) (rmGBB l Z a0 hw [] a2 d2 d z cs h0 n0 O0 E2 C2 F2 V2 SC hcs VD gd hz) e107 E2 (by rw [hml]; rfl) (lenOf o_pd11 rfl) (has := rfl) (hst := rfl) (W := 0) (Nat.le_of_ble_eq_true rfl) (hb hby o_d10_15) (by decide) (by decide) (by decide) (by decide) fun v108 T108 h108 L108 X108 e108 q108 => ?_
  obtain ⟨rfl, N108q, K108, V108⟩ := q108
  have N108 := Fr.app N105 N108q
  have O109 := O0.keep K108 (allS gd all0)
  have K109 : Keep h0 h108 [d] := (Keep.refl h0 [d]).trans K108 (allS (Or.inl (List.mem_of_getElem? (i := 0) rfl)) all0)
  show Go p e below T108 (mkF m 18 #[.val (.ref a1), .val (.int (13 : Int32)), .val (.ref a2)] []) _
  exact o_ret0 (pc := 18) X108 hx hret hlk (hb hby o_d10_18) e108 (by decide) (by decide) ⟨rfl, N108, K109, V108⟩
set_option maxRecDepth 65536 in
set_option maxHeartbeats 40000000 in
theorem rmAPB (l : Launch) (Z : State) (a0 : Array Value) (hw : ∀ d ∈ tables_1, d.before a0 Z = true) (ws : List Jvm.Cond) (a1 d a2 d2 : Addr) (z : Int32) (cs : Int32) (h0 : Heap) (n0 : Nat) (O0 : Old Z n0 h0) (E1 : Exa Z h0 a1 "java/lang/StringBuilder") (G0 : Fld Z h0 a1 "java/lang/AbstractStringBuilder" "value" "[B" (.ref d)) (G1 : Fld Z h0 a1 "java/lang/AbstractStringBuilder" "coder" "B" (.int (0 : Int32))) (G2 : Fld Z h0 a1 "java/lang/AbstractStringBuilder" "count" "I" (.int (13 : Int32))) (VD : Byt Z h0 d (16 : Int32)) (ED : Exa Z h0 d "[B") (g1 : n0 ≤ a1) (gd : n0 ≤ d) (hne : a1 ≠ d) (E2 : Exa Z h0 a2 "java/lang/String") (C2 : Fld Z h0 a2 "java/lang/String" "coder" "B" (.int (0 : Int32))) (F2 : Fld Z h0 a2 "java/lang/String" "value" "[B" (.ref d2)) (V2 : Byt Z h0 d2 z) (SC : Sta Z Z.heap "java/lang/String" "COMPACT_STRINGS" "Z" (.int cs)) (hcs : ¬ cs = (0 : Int32)) (hz : z ∈ ([4, 5, 6, 7, 8, 9, 10, 11, 12, 13, 14, 15, 16, 17] : List Int32)) (n12 : a2 ≠ a1) (nd2 : a2 ≠ d) (n1d : d2 ≠ a1) (ndd : d2 ≠ d) :
    Ct l Z (⟨"java/lang/AbstractStringBuilder", "append", "(Ljava/lang/String;)Ljava/lang/AbstractStringBuilder;"⟩ : MethodName) jdk_68_method_22_code 3 (some (.object "java/lang/AbstractStringBuilder")) ({ frames := 4, cells := 1, slots := 34, locals := 69 } : Room) ws #[(.ref a1), (.ref a2)] h0 (fun v h L => ∃ b, v = some (.ref a1) ∧ h0.size ≤ b ∧ Fr n0 L ∧ Keep h0 h [a1] ∧ Fld Z h a1 "java/lang/AbstractStringBuilder" "value" "[B" (.ref b) ∧ Fld Z h a1 "java/lang/AbstractStringBuilder" "coder" "B" (.int (0 : Int32)) ∧ Fld Z h a1 "java/lang/AbstractStringBuilder" "count" "I" (.int ((13 : Int32) + z)) ∧ Byt Z h b (34 : Int32) ∧ Exa Z h b "[B") := by
  refine o_body (plainFor_of_name o_pn_java_lang_AbstractStringBuilder) ?_
  intro p e s m below meth c s₁ X0 hx hby hml hret hlk hown hnm hZ e0
  have N0 := Fr.nil n0
  refine o_top (g' := (mkF m 0 #[.val (.ref a1), .val (.ref a2), .unset] [])) (by first | (simp [entryFrame, mkF, argsToLocals, Value.category]; done) | rfl) ?_
  refine o_aloadN (v := (.ref a2)) (pc := 0) X0 hx (hb hby o_d6_0) rfl rfl ?_
  refine o_ifnonnullYes (pc := 1) X0 hx 9 (hb hby o_d6_1) (by decide) (by decide) ?_
  refine o_aloadN (v := (.ref a2)) (pc := 9) X0 hx (hb hby o_d6_9) rfl rfl ?_
  refine o_callV (pc := 10) X0 hx hZ (y := (⟨"java/lang/String", "length", "()I"⟩ : MethodName)) (z := (⟨"java/lang/String", "length", "()I"⟩ : MethodName)) (C := "java/lang/String") (a := a2) (argsL := []) (rest := []) hown (hw _ (List.mem_of_getElem? (i := 46) rfl)) (hw _ (List.mem_of_getElem? (i := 47) rfl)) (notFace_of_selects (args := #[]) (mvT hZ (hw _ (List.mem_of_getElem? (i := 49) rfl)))) (hw _ (List.mem_of_getElem? (i := 49) rfl)) (hw _ (List.mem_of_getElem? (i := 48) rfl)) (hw _ (List.mem_of_getElem? (i := 2) rfl)) (hw _ (List.mem_of_getElem? (i := 50) rfl)) (by decide) (rmLen l Z a0 hw [] a2 d2 z cs h0 n0 O0 E2 C2 F2 V2 SC hcs) e0 E2 (by rw [hml]; rfl) (lenOf o_pd12 rfl) (has := rfl) (hst := rfl) (W := 0) (Nat.le_of_ble_eq_true rfl) (hb hby o_d6_10) (by decide) (by decide) (by decide) (by decide) fun v110 T110 h110 L110 X110 e110 q110 => ?_
  obtain ⟨rfl, N110q, rfl⟩ := q110
  have N110 := Fr.app N0 N110q
  show Go p e below T110 (mkF m 13 #[.val (.ref a1), .val (.ref a2), .unset] [(.int z)]) _
  refine o_istoreN (l' := #[.val (.ref a1), .val (.ref a2), .val (.int z)]) (pc := 13) X110 hx (hb hby o_d6_13) rfl ?_
  refine o_aloadN (v := (.ref a1)) (pc := 14) X110 hx (hb hby o_d6_14) rfl rfl ?_
  refine o_aloadN (v := (.ref a1)) (pc := 15) X110 hx (hb hby o_d6_15) rfl rfl ?_
  refine o_getF (pc := 16) X110 hx hZ hown (host := "") (Or.inl (hw _ (List.mem_of_getElem? (i := 59) rfl))) Via.refl e110 G2 (hb hby o_d6_16) fun T111 X111 e111 => ?_
  refine o_iloadN (v := z) (pc := 19) X111 hx (hb hby o_d6_19) rfl ?_
  refine o_iadd (pc := 20) X111 hx (hb hby o_d6_20) ?_
  refine o_callV (pc := 21) X111 hx hZ (y := (⟨"java/lang/AbstractStringBuilder", "ensureCapacityInternal", "(I)V"⟩ : MethodName)) (z := (⟨"java/lang/AbstractStringBuilder", "ensureCapacityInternal", "(I)V"⟩ : MethodName)) (C := "java/lang/StringBuilder") (a := a1) (argsL := [(.int ((13 : Int32) + z))]) (rest := []) hown (hw _ (List.mem_of_getElem? (i := 61) rfl)) (o_decl (hw _ (List.mem_of_getElem? (i := 62) rfl)) (hw _ (List.mem_of_getElem? (i := 65) rfl))) (notFace_of_selects (args := #[]) (mvT hZ (hw _ (List.mem_of_getElem? (i := 64) rfl)))) (hw _ (List.mem_of_getElem? (i := 64) rfl)) (hw _ (List.mem_of_getElem? (i := 62) rfl)) (hw _ (List.mem_of_getElem? (i := 25) rfl)) (hw _ (List.mem_of_getElem? (i := 65) rfl)) (by decide) (rmEC1 l Z a0 hw [] a1 d (13 : Int32) ((13 : Int32) + z) h0 n0 O0 E1 G0 G1 G2 VD ED g1 gd hne (o_all (P := fun z => (0 : Int32) < ((13 : Int32) + z) - (16 : Int32)) hz (by decide)) (o_all (P := fun z => (((13 : Int32) + z) - (16 : Int32)) < (18 : Int32)) hz (by decide))) e111 E1 (by rw [hml]; rfl) (lenOf o_pd13 rfl) (has := rfl) (hst := rfl) (W := 0) (Nat.le_of_ble_eq_true rfl) (hb hby o_d6_21) (by decide) (by decide) (by decide) (by decide) fun v112 T112 h112 L112 X112 e112 q112 => ?_
  obtain ⟨b112, rfl, g112, N112q, K112, F112v, F112c, F112n, V112, Y112⟩ := q112
  have N112 := Fr.app N110 N112q
  have O113 := O0.keep K112 (allS g1 all0)
  have K113 : Keep h0 h112 [a1] := (Keep.refl h0 [a1]).trans K112 (allS (Or.inl (List.mem_of_getElem? (i := 0) rfl)) all0)
  show Go p e below T112 (mkF m 24 #[.val (.ref a1), .val (.ref a2), .val (.int z)] []) _
  refine o_aloadN (v := (.ref a1)) (pc := 24) X112 hx (hb hby o_d6_24) rfl rfl ?_
  refine o_aloadN (v := (.ref a1)) (pc := 25) X112 hx (hb hby o_d6_25) rfl rfl ?_
  refine o_getF (pc := 26) X112 hx hZ hown (host := "") (Or.inl (hw _ (List.mem_of_getElem? (i := 59) rfl))) Via.refl e112 F112n (hb hby o_d6_26) fun T114 X114 e114 => ?_
  refine o_aloadN (v := (.ref a2)) (pc := 29) X114 hx (hb hby o_d6_29) rfl rfl ?_
  refine o_callV (pc := 30) X114 hx hZ (y := (⟨"java/lang/AbstractStringBuilder", "putStringAt", "(ILjava/lang/String;)V"⟩ : MethodName)) (z := (⟨"java/lang/AbstractStringBuilder", "putStringAt", "(ILjava/lang/String;)V"⟩ : MethodName)) (C := "java/lang/StringBuilder") (a := a1) (argsL := [(.int (13 : Int32)), (.ref a2)]) (rest := []) hown (hw _ (List.mem_of_getElem? (i := 66) rfl)) (o_decl (hw _ (List.mem_of_getElem? (i := 67) rfl)) (hw _ (List.mem_of_getElem? (i := 70) rfl))) (notFace_of_selects (args := #[]) (mvT hZ (hw _ (List.mem_of_getElem? (i := 69) rfl)))) (hw _ (List.mem_of_getElem? (i := 69) rfl)) (hw _ (List.mem_of_getElem? (i := 67) rfl)) (hw _ (List.mem_of_getElem? (i := 25) rfl)) (hw _ (List.mem_of_getElem? (i := 70) rfl)) (by decide) (rmPSB l Z a0 hw [] a1 b112 a2 d2 (13 : Int32) z cs h112 n0 O113 (E1.keep K112) F112v F112c F112n V112 Y112 g1 (Nat.le_trans (o_n0 O0) g112) (Nat.ne_of_lt (Nat.lt_of_lt_of_le E1.lt g112)) (E2.keep K112) (C2.keep K112 (ninS n12 nin0)) (F2.keep K112 (ninS n12 nin0)) (V2.keep K112 (ninS n1d nin0)) SC hcs hz) e114 (E1.keep K112) (by rw [hml]; rfl) (lenOf o_pd14 rfl) (has := rfl) (hst := rfl) (W := 0) (Nat.le_of_ble_eq_true rfl) (hb hby o_d6_30) (by decide) (by decide) (by decide) (by decide) fun v115 T115 h115 L115 X115 e115 q115 => ?_
  obtain ⟨rfl, N115q, K115, V115⟩ := q115
  have N115 := Fr.app N112 N115q
  have O116 := O113.keep K115 (allS (Nat.le_trans (o_n0 O0) g112) all0)
  have K116 : Keep h0 h115 [a1] := K113.trans K115 (allS (Or.inr (Nat.le_trans (Keep.refl h0 [a1]).1 g112)) all0)
  show Go p e below T115 (mkF m 33 #[.val (.ref a1), .val (.ref a2), .val (.int z)] []) _
  refine o_aloadN (v := (.ref a1)) (pc := 33) X115 hx (hb hby o_d6_33) rfl rfl ?_
  refine o_dup (pc := 34) X115 hx (hb hby o_d6_34) rfl ?_
  refine o_getF (pc := 35) X115 hx hZ hown (host := "") (Or.inl (hw _ (List.mem_of_getElem? (i := 59) rfl))) Via.refl e115 (F112n.keep K115 (ninS (Nat.ne_of_lt (Nat.lt_of_lt_of_le E1.lt g112)) nin0)) (hb hby o_d6_35) fun T117 X117 e117 => ?_
  refine o_iloadN (v := z) (pc := 38) X117 hx (hb hby o_d6_38) rfl ?_
  refine o_iadd (pc := 39) X117 hx (hb hby o_d6_39) ?_
  refine o_putF (pc := 40) X117 hx hZ hown (host := "") (Or.inl (hw _ (List.mem_of_getElem? (i := 59) rfl))) Via.refl e117 (F112n.keep K115 (ninS (Nat.ne_of_lt (Nat.lt_of_lt_of_le E1.lt g112)) nin0)) ((E1.keep K112).keep K115) (Or.inl (hw _ (List.mem_of_getElem? (i := 60) rfl))) (hw _ (List.mem_of_getElem? (i := 16) rfl)) (ty := .int) (by decide) rfl rfl (hb hby o_d6_40) fun T118 h118 X118 e118 W118 => ?_
  have F118 := Fld.same W118 (F112n.keep K115 (ninS (Nat.ne_of_lt (Nat.lt_of_lt_of_le E1.lt g112)) nin0))
  have N118 := Fr.snoc X118 N115 g1
  have O119 := O116.wr W118 g1
  have K119 : Keep h0 h118 [a1] := K116.wr W118 (Or.inl (List.mem_of_getElem? (i := 0) rfl))
  refine o_aloadN (v := (.ref a1)) (pc := 43) X118 hx (hb hby o_d6_43) rfl rfl ?_
  exact o_retA (pc := 44) X118 hx hret hlk rfl rfl (hb hby o_d6_44) e118 (by decide) (by decide) ⟨b112, rfl, (Nat.le_trans (Keep.refl h0 [a1]).1 g112), N118, K119, ((F112v.keep K115 (ninS (Nat.ne_of_lt (Nat.lt_of_lt_of_le E1.lt g112)) nin0)).other W118 (Or.inr (slot_ne (C := "java/lang/StringBuilder") (Or.inl (hw _ (List.mem_of_getElem? (i := 32) rfl))) (Or.inl (hw _ (List.mem_of_getElem? (i := 60) rfl))) (by decide) (t := (.array .byte)) (t' := .int) (by decide) (by decide)))), ((F112c.keep K115 (ninS (Nat.ne_of_lt (Nat.lt_of_lt_of_le E1.lt g112)) nin0)).other W118 (Or.inr (slot_ne (C := "java/lang/StringBuilder") (Or.inl (hw _ (List.mem_of_getElem? (i := 34) rfl))) (Or.inl (hw _ (List.mem_of_getElem? (i := 60) rfl))) (by decide) (t := .byte) (t' := .int) (by decide) (by decide)))), F118, (V115.other W118 (Ne.symm (Nat.ne_of_lt (Nat.lt_of_lt_of_le E1.lt g112)))), ((Y112.keep K115).wr W118)⟩
set_option maxRecDepth 65536 in
set_option maxHeartbeats 40000000 in
theorem rmABB (l : Launch) (Z : State) (a0 : Array Value) (hw : ∀ d ∈ tables_1, d.before a0 Z = true) (ws : List Jvm.Cond) (a1 d a2 d2 : Addr) (z : Int32) (cs : Int32) (h0 : Heap) (n0 : Nat) (O0 : Old Z n0 h0) (E1 : Exa Z h0 a1 "java/lang/StringBuilder") (G0 : Fld Z h0 a1 "java/lang/AbstractStringBuilder" "value" "[B" (.ref d)) (G1 : Fld Z h0 a1 "java/lang/AbstractStringBuilder" "coder" "B" (.int (0 : Int32))) (G2 : Fld Z h0 a1 "java/lang/AbstractStringBuilder" "count" "I" (.int (13 : Int32))) (VD : Byt Z h0 d (16 : Int32)) (ED : Exa Z h0 d "[B") (g1 : n0 ≤ a1) (gd : n0 ≤ d) (hne : a1 ≠ d) (E2 : Exa Z h0 a2 "java/lang/String") (C2 : Fld Z h0 a2 "java/lang/String" "coder" "B" (.int (0 : Int32))) (F2 : Fld Z h0 a2 "java/lang/String" "value" "[B" (.ref d2)) (V2 : Byt Z h0 d2 z) (SC : Sta Z Z.heap "java/lang/String" "COMPACT_STRINGS" "Z" (.int cs)) (hcs : ¬ cs = (0 : Int32)) (hz : z ∈ ([4, 5, 6, 7, 8, 9, 10, 11, 12, 13, 14, 15, 16, 17] : List Int32)) (n12 : a2 ≠ a1) (nd2 : a2 ≠ d) (n1d : d2 ≠ a1) (ndd : d2 ≠ d) :
    Ct l Z (⟨"java/lang/StringBuilder", "append", "(Ljava/lang/String;)Ljava/lang/StringBuilder;"⟩ : MethodName) jdk_67_method_7_code 2 (some (.object "java/lang/StringBuilder")) ({ frames := 5, cells := 1, slots := 34, locals := 83 } : Room) ws #[(.ref a1), (.ref a2)] h0 (fun v h L => ∃ b, v = some (.ref a1) ∧ h0.size ≤ b ∧ Fr n0 L ∧ Keep h0 h [a1] ∧ Fld Z h a1 "java/lang/AbstractStringBuilder" "value" "[B" (.ref b) ∧ Fld Z h a1 "java/lang/AbstractStringBuilder" "coder" "B" (.int (0 : Int32)) ∧ Fld Z h a1 "java/lang/AbstractStringBuilder" "count" "I" (.int ((13 : Int32) + z)) ∧ Byt Z h b (34 : Int32) ∧ Exa Z h b "[B") := by
  refine o_body (plainFor_of_name o_pn_java_lang_StringBuilder) ?_
  intro p e s m below meth c s₁ X0 hx hby hml hret hlk hown hnm hZ e0
  have N0 := Fr.nil n0
  refine o_top (g' := (mkF m 0 #[.val (.ref a1), .val (.ref a2)] [])) (by first | (simp [entryFrame, mkF, argsToLocals, Value.category]; done) | rfl) ?_
  refine o_aloadN (v := (.ref a1)) (pc := 0) X0 hx (hb hby o_d5_0) rfl rfl ?_
  refine o_aloadN (v := (.ref a2)) (pc := 1) X0 hx (hb hby o_d5_1) rfl rfl ?_
  refine o_callSu (pc := 2) X0 hx hZ (y := (⟨"java/lang/AbstractStringBuilder", "append", "(Ljava/lang/String;)Ljava/lang/AbstractStringBuilder;"⟩ : MethodName)) (K := "java/lang/StringBuilder") (a := a1) (argsL := [(.ref a2)]) (rest := []) hown (hw _ (List.mem_of_getElem? (i := 41) rfl)) (o_samem (hw _ (List.mem_of_getElem? (i := 42) rfl)) (o_nfC (y' := (⟨"java/lang/AbstractStringBuilder", "ensureCapacityInternal", "(I)V"⟩ : MethodName)) (z := (⟨"java/lang/AbstractStringBuilder", "ensureCapacityInternal", "(I)V"⟩ : MethodName)) rfl (hw _ (List.mem_of_getElem? (i := 64) rfl))) (by decide)) (hw _ (List.mem_of_getElem? (i := 42) rfl)) (hw _ (List.mem_of_getElem? (i := 43) rfl)) (hw _ (List.mem_of_getElem? (i := 25) rfl)) (hw _ (List.mem_of_getElem? (i := 45) rfl)) (by decide) (rmAPB l Z a0 hw [] a1 d a2 d2 z cs h0 n0 O0 E1 G0 G1 G2 VD ED g1 gd hne E2 C2 F2 V2 SC hcs hz n12 nd2 n1d ndd) e0 (Ins.self E1) (by rw [hml]; rfl) (lenOf o_pd15 rfl) (has := rfl) (hst := rfl) (W := 0) (Nat.le_of_ble_eq_true rfl) (hb hby o_d5_2) (by decide) (by decide) (by decide) (by decide) fun v120 T120 h120 L120 X120 e120 q120 => ?_
  obtain ⟨b120, rfl, g120, N120q, K120, F120v, F120c, F120n, V120, Y120⟩ := q120
  have N120 := Fr.app N0 N120q
  have O121 := O0.keep K120 (allS g1 all0)
  have K121 : Keep h0 h120 [a1] := (Keep.refl h0 [a1]).trans K120 (allS (Or.inl (List.mem_of_getElem? (i := 0) rfl)) all0)
  show Go p e below T120 (mkF m 5 #[.val (.ref a1), .val (.ref a2)] [(.ref a1)]) _
  refine o_pop (pc := 5) X120 hx (hb hby o_d5_5) rfl ?_
  refine o_aloadN (v := (.ref a1)) (pc := 6) X120 hx (hb hby o_d5_6) rfl rfl ?_
  exact o_retA (pc := 7) X120 hx hret hlk rfl rfl (hb hby o_d5_7) e120 (by decide) (by decide) ⟨b120, rfl, (Nat.le_trans (Keep.refl h0 [a1]).1 g120), N120, K121, F120v, F120c, F120n, V120, Y120⟩
theorem o_d24_0 : decode jdk_68_method_68_code 0 = .ok (.getstatic 18, 3) := by decide +kernel
theorem o_d24_3 : decode jdk_68_method_68_code 3 = .ok (.ifCond .eq 14, 3) := by decide +kernel
theorem o_d24_6 : decode jdk_68_method_68_code 6 = .ok (.aload_n 0, 1) := by decide +kernel
theorem o_d24_7 : decode jdk_68_method_68_code 7 = .ok (.getfield 22, 3) := by decide +kernel
theorem o_d24_10 : decode jdk_68_method_68_code 10 = .ok (.ifCond .ne 7, 3) := by decide +kernel
theorem o_d24_13 : decode jdk_68_method_68_code 13 = .ok (.iconst 1, 1) := by decide +kernel
theorem o_d24_14 : decode jdk_68_method_68_code 14 = .ok (.goto 4, 3) := by decide +kernel
theorem o_d24_18 : decode jdk_68_method_68_code 18 = .ok (.ireturn, 1) := by decide +kernel
set_option maxRecDepth 65536 in
set_option maxHeartbeats 40000000 in
theorem rmIL (l : Launch) (Z : State) (a0 : Array Value) (hw : ∀ d ∈ tables_1, d.before a0 Z = true) (ws : List Jvm.Cond) (a1 : Addr) (cs : Int32) (h0 : Heap) (n0 : Nat) (O0 : Old Z n0 h0) (G1 : Fld Z h0 a1 "java/lang/AbstractStringBuilder" "coder" "B" (.int (0 : Int32))) (SC : Sta Z Z.heap "java/lang/String" "COMPACT_STRINGS" "Z" (.int cs)) (hcs : ¬ cs = (0 : Int32)) :
    Ct l Z (⟨"java/lang/AbstractStringBuilder", "isLatin1", "()Z"⟩ : MethodName) jdk_68_method_68_code 1 (some .boolean) ({ frames := 0, cells := 0, slots := 0, locals := 0 } : Room) ws #[(.ref a1)] h0 (fun v h L => v = some (.int (1 : Int32)) ∧ Fr n0 L ∧ h0 = h) := by
  refine o_body (plainFor_of_name o_pn_java_lang_AbstractStringBuilder) ?_
  intro p e s m below meth c s₁ X0 hx hby hml hret hlk hown hnm hZ e0
  have N0 := Fr.nil n0
  refine o_top (g' := (mkF m 0 #[.val (.ref a1)] [])) (by first | (simp [entryFrame, mkF, argsToLocals, Value.category]; done) | rfl) ?_
  refine o_getS (pc := 0) X0 hx hZ hown (host := "") (Or.inl (hw _ (List.mem_of_getElem? (i := 30) rfl))) Via.refl e0 (SC.ext O0.2) (hb hby o_d24_0) fun T122 X122 e122 => ?_
  refine o_ifNo (pc := 3) X122 hx (hb hby o_d24_3) ((if0 _ _).trans (feq hcs).1) ?_
  refine o_aloadN (v := (.ref a1)) (pc := 6) X122 hx (hb hby o_d24_6) rfl rfl ?_
  refine o_getF (pc := 7) X122 hx hZ hown (host := "") (Or.inl (hw _ (List.mem_of_getElem? (i := 33) rfl))) Via.refl e122 G1 (hb hby o_d24_7) fun T123 X123 e123 => ?_
  refine o_ifNo (pc := 10) X123 hx (hb hby o_d24_10) ((if0 _ _).trans (teq (by decide : (0 : Int32) = (0 : Int32))).2) ?_
  refine o_iconst (pc := 13) X123 hx (1 : Int32) (hb hby o_d24_13) rfl ?_
  refine o_goto (pc := 14) X123 hx 18 (hb hby o_d24_14) (by decide) (by decide) ?_
  exact o_retN (pc := 18) X123 hx .boolean hret hlk (by simp) (hb hby o_d24_18) e123 (by decide) (by decide) ⟨rfl, N0, rfl⟩
theorem o_d41_0 : decode jdk_68_method_26_code 0 = .ok (.aload_n 0, 1) := by decide +kernel
theorem o_d41_1 : decode jdk_68_method_26_code 1 = .ok (.aload_n 0, 1) := by decide +kernel
theorem o_d41_2 : decode jdk_68_method_26_code 2 = .ok (.getfield 79, 3) := by decide +kernel
theorem o_d41_5 : decode jdk_68_method_26_code 5 = .ok (.iconst 4, 1) := by decide +kernel
theorem o_d41_6 : decode jdk_68_method_26_code 6 = .ok (.iadd, 1) := by decide +kernel
theorem o_d41_7 : decode jdk_68_method_26_code 7 = .ok (.invokevirtual 100, 3) := by decide +kernel
theorem o_d41_10 : decode jdk_68_method_26_code 10 = .ok (.aload_n 0, 1) := by decide +kernel
theorem o_d41_11 : decode jdk_68_method_26_code 11 = .ok (.getfield 79, 3) := by decide +kernel
theorem o_d41_14 : decode jdk_68_method_26_code 14 = .ok (.istore_n 1, 1) := by decide +kernel
theorem o_d41_15 : decode jdk_68_method_26_code 15 = .ok (.aload_n 0, 1) := by decide +kernel
theorem o_d41_16 : decode jdk_68_method_26_code 16 = .ok (.getfield 15, 3) := by decide +kernel
theorem o_d41_19 : decode jdk_68_method_26_code 19 = .ok (.astore_n 2, 1) := by decide +kernel
theorem o_d41_20 : decode jdk_68_method_26_code 20 = .ok (.aload_n 0, 1) := by decide +kernel
theorem o_d41_21 : decode jdk_68_method_26_code 21 = .ok (.invokevirtual 83, 3) := by decide +kernel
theorem o_pd16 : parseMethodDescriptor "()Z" = some ⟨[], some .boolean⟩ := by decide +kernel
theorem o_d41_24 : decode jdk_68_method_26_code 24 = .ok (.ifCond .eq 38, 3) := by decide +kernel
theorem o_d41_27 : decode jdk_68_method_26_code 27 = .ok (.aload_n 2, 1) := by decide +kernel
theorem o_d41_28 : decode jdk_68_method_26_code 28 = .ok (.iload_n 1, 1) := by decide +kernel
theorem o_d41_29 : decode jdk_68_method_26_code 29 = .ok (.iinc 1 1, 3) := by decide +kernel
theorem o_d41_32 : decode jdk_68_method_26_code 32 = .ok (.bipush 110, 2) := by decide +kernel
theorem o_d41_34 : decode jdk_68_method_26_code 34 = .ok (.bastore, 1) := by decide +kernel
theorem o_d41_35 : decode jdk_68_method_26_code 35 = .ok (.aload_n 2, 1) := by decide +kernel
theorem o_d41_36 : decode jdk_68_method_26_code 36 = .ok (.iload_n 1, 1) := by decide +kernel
theorem o_d41_37 : decode jdk_68_method_26_code 37 = .ok (.iinc 1 1, 3) := by decide +kernel
theorem o_d41_40 : decode jdk_68_method_26_code 40 = .ok (.bipush 117, 2) := by decide +kernel
theorem o_d41_42 : decode jdk_68_method_26_code 42 = .ok (.bastore, 1) := by decide +kernel
theorem o_d41_43 : decode jdk_68_method_26_code 43 = .ok (.aload_n 2, 1) := by decide +kernel
theorem o_d41_44 : decode jdk_68_method_26_code 44 = .ok (.iload_n 1, 1) := by decide +kernel
theorem o_d41_45 : decode jdk_68_method_26_code 45 = .ok (.iinc 1 1, 3) := by decide +kernel
theorem o_d41_48 : decode jdk_68_method_26_code 48 = .ok (.bipush 108, 2) := by decide +kernel
theorem o_d41_50 : decode jdk_68_method_26_code 50 = .ok (.bastore, 1) := by decide +kernel
theorem o_d41_51 : decode jdk_68_method_26_code 51 = .ok (.aload_n 2, 1) := by decide +kernel
theorem o_d41_52 : decode jdk_68_method_26_code 52 = .ok (.iload_n 1, 1) := by decide +kernel
theorem o_d41_53 : decode jdk_68_method_26_code 53 = .ok (.iinc 1 1, 3) := by decide +kernel
theorem o_d41_56 : decode jdk_68_method_26_code 56 = .ok (.bipush 108, 2) := by decide +kernel
theorem o_d41_58 : decode jdk_68_method_26_code 58 = .ok (.bastore, 1) := by decide +kernel
theorem o_d41_59 : decode jdk_68_method_26_code 59 = .ok (.goto 17, 3) := by decide +kernel
theorem o_d41_76 : decode jdk_68_method_26_code 76 = .ok (.aload_n 0, 1) := by decide +kernel
theorem o_d41_77 : decode jdk_68_method_26_code 77 = .ok (.iload_n 1, 1) := by decide +kernel
theorem o_d41_78 : decode jdk_68_method_26_code 78 = .ok (.putfield 79, 3) := by decide +kernel
theorem o_d41_81 : decode jdk_68_method_26_code 81 = .ok (.aload_n 0, 1) := by decide +kernel
theorem o_d41_82 : decode jdk_68_method_26_code 82 = .ok (.areturn, 1) := by decide +kernel
set_option maxRecDepth 65536 in
set_option maxHeartbeats 40000000 in
theorem rmAN (l : Launch) (Z : State) (a0 : Array Value) (hw : ∀ d ∈ tables_1, d.before a0 Z = true) (ws : List Jvm.Cond) (a1 d : Addr) (cs : Int32) (h0 : Heap) (n0 : Nat) (O0 : Old Z n0 h0) (E1 : Exa Z h0 a1 "java/lang/StringBuilder") (G0 : Fld Z h0 a1 "java/lang/AbstractStringBuilder" "value" "[B" (.ref d)) (G1 : Fld Z h0 a1 "java/lang/AbstractStringBuilder" "coder" "B" (.int (0 : Int32))) (G2 : Fld Z h0 a1 "java/lang/AbstractStringBuilder" "count" "I" (.int (13 : Int32))) (VD : Byt Z h0 d (16 : Int32)) (ED : Exa Z h0 d "[B") (g1 : n0 ≤ a1) (gd : n0 ≤ d) (hne : a1 ≠ d) (SC : Sta Z Z.heap "java/lang/String" "COMPACT_STRINGS" "Z" (.int cs)) (hcs : ¬ cs = (0 : Int32)) :
    Ct l Z (⟨"java/lang/AbstractStringBuilder", "appendNull", "()Ljava/lang/AbstractStringBuilder;"⟩ : MethodName) jdk_68_method_26_code 3 (some (.object "java/lang/AbstractStringBuilder")) ({ frames := 4, cells := 1, slots := 34, locals := 69 } : Room) ws #[(.ref a1)] h0 (fun v h L => ∃ b, v = some (.ref a1) ∧ h0.size ≤ b ∧ Fr n0 L ∧ Keep h0 h [a1] ∧ Fld Z h a1 "java/lang/AbstractStringBuilder" "value" "[B" (.ref b) ∧ Fld Z h a1 "java/lang/AbstractStringBuilder" "coder" "B" (.int (0 : Int32)) ∧ Fld Z h a1 "java/lang/AbstractStringBuilder" "count" "I" (.int (17 : Int32)) ∧ Byt Z h b (34 : Int32) ∧ Exa Z h b "[B") := by
  refine o_body (plainFor_of_name o_pn_java_lang_AbstractStringBuilder) ?_
  intro p e s m below meth c s₁ X0 hx hby hml hret hlk hown hnm hZ e0
  have N0 := Fr.nil n0
  refine o_top (g' := (mkF m 0 #[.val (.ref a1), .unset, .unset] [])) (by first | (simp [entryFrame, mkF, argsToLocals, Value.category]; done) | rfl) ?_
  refine o_aloadN (v := (.ref a1)) (pc := 0) X0 hx (hb hby o_d41_0) rfl rfl ?_
  refine o_aloadN (v := (.ref a1)) (pc := 1) X0 hx (hb hby o_d41_1) rfl rfl ?_
  refine o_getF (pc := 2) X0 hx hZ hown (host := "") (Or.inl (hw _ (List.mem_of_getElem? (i := 59) rfl))) Via.refl e0 G2 (hb hby o_d41_2) fun T124 X124 e124 => ?_
  refine o_iconst (pc := 5) X124 hx (4 : Int32) (hb hby o_d41_5) rfl ?_
  refine o_iadd (pc := 6) X124 hx (hb hby o_d41_6) ?_
  rw [show ((13 : Int32) + (4 : Int32)) = (17 : Int32) from rfl]
  refine o_callV (pc := 7) X124 hx hZ (y := (⟨"java/lang/AbstractStringBuilder", "ensureCapacityInternal", "(I)V"⟩ : MethodName)) (z := (⟨"java/lang/AbstractStringBuilder", "ensureCapacityInternal", "(I)V"⟩ : MethodName)) (C := "java/lang/StringBuilder") (a := a1) (argsL := [(.int (17 : Int32))]) (rest := []) hown (hw _ (List.mem_of_getElem? (i := 61) rfl)) (o_decl (hw _ (List.mem_of_getElem? (i := 62) rfl)) (hw _ (List.mem_of_getElem? (i := 65) rfl))) (notFace_of_selects (args := #[]) (mvT hZ (hw _ (List.mem_of_getElem? (i := 64) rfl)))) (hw _ (List.mem_of_getElem? (i := 64) rfl)) (hw _ (List.mem_of_getElem? (i := 62) rfl)) (hw _ (List.mem_of_getElem? (i := 25) rfl)) (hw _ (List.mem_of_getElem? (i := 65) rfl)) (by decide) (rmEC1 l Z a0 hw [] a1 d (13 : Int32) (17 : Int32) h0 n0 O0 E1 G0 G1 G2 VD ED g1 gd hne (by decide) (by decide)) e124 E1 (by rw [hml]; rfl) (lenOf o_pd13 rfl) (has := rfl) (hst := rfl) (W := 0) (Nat.le_of_ble_eq_true rfl) (hb hby o_d41_7) (by decide) (by decide) (by decide) (by decide) fun v125 T125 h125 L125 X125 e125 q125 => ?_
  obtain ⟨b125, rfl, g125, N125q, K125, F125v, F125c, F125n, V125, Y125⟩ := q125
  have N125 := Fr.app N0 N125q
  have O126 := O0.keep K125 (allS g1 all0)
  have K126 : Keep h0 h125 [a1] := (Keep.refl h0 [a1]).trans K125 (allS (Or.inl (List.mem_of_getElem? (i := 0) rfl)) all0)
  show Go p e below T125 (mkF m 10 #[.val (.ref a1), .unset, .unset] []) _
  refine o_aloadN (v := (.ref a1)) (pc := 10) X125 hx (hb hby o_d41_10) rfl rfl ?_
  refine o_getF (pc := 11) X125 hx hZ hown (host := "") (Or.inl (hw _ (List.mem_of_getElem? (i := 59) rfl))) Via.refl e125 F125n (hb hby o_d41_11) fun T127 X127 e127 => ?_
  refine o_istoreN (l' := #[.val (.ref a1), .val (.int (13 : Int32)), .unset]) (pc := 14) X127 hx (hb hby o_d41_14) rfl ?_
  refine o_aloadN (v := (.ref a1)) (pc := 15) X127 hx (hb hby o_d41_15) rfl rfl ?_
  refine o_getF (pc := 16) X127 hx hZ hown (host := "") (Or.inl (hw _ (List.mem_of_getElem? (i := 31) rfl))) Via.refl e127 F125v (hb hby o_d41_16) fun T128 X128 e128 => ?_
  refine o_astoreN (l' := #[.val (.ref a1), .val (.int (13 : Int32)), .val (.ref b125)]) (pc := 19) X128 hx (hb hby o_d41_19) rfl rfl ?_
  refine o_aloadN (v := (.ref a1)) (pc := 20) X128 hx (hb hby o_d41_20) rfl rfl ?_
  refine o_callV (pc := 21) X128 hx hZ (y := (⟨"java/lang/AbstractStringBuilder", "isLatin1", "()Z"⟩ : MethodName)) (z := (⟨"java/lang/AbstractStringBuilder", "isLatin1", "()Z"⟩ : MethodName)) (C := "java/lang/StringBuilder") (a := a1) (argsL := []) (rest := []) hown (hw _ (List.mem_of_getElem? (i := 249) rfl)) (hw _ (List.mem_of_getElem? (i := 137) rfl)) (notFace_of_selects (args := #[]) (mvT hZ (hw _ (List.mem_of_getElem? (i := 139) rfl)))) (hw _ (List.mem_of_getElem? (i := 139) rfl)) (hw _ (List.mem_of_getElem? (i := 138) rfl)) (hw _ (List.mem_of_getElem? (i := 25) rfl)) (hw _ (List.mem_of_getElem? (i := 140) rfl)) (by decide) (rmIL l Z a0 hw [] a1 cs h125 n0 O126 F125c SC hcs) e128 (E1.keep K125) (by rw [hml]; rfl) (lenOf o_pd16 rfl) (has := rfl) (hst := rfl) (W := 0) (Nat.le_of_ble_eq_true rfl) (hb hby o_d41_21) (by decide) (by decide) (by decide) (by decide) fun v129 T129 h129 L129 X129 e129 q129 => ?_
  obtain ⟨rfl, N129q, rfl⟩ := q129
  have N129 := Fr.app N125 N129q
  show Go p e below T129 (mkF m 24 #[.val (.ref a1), .val (.int (13 : Int32)), .val (.ref b125)] [(.int (1 : Int32))]) _
  refine o_ifNo (pc := 24) X129 hx (hb hby o_d41_24) ((if0 _ _).trans (feq (by decide : ¬ ((1 : Int32) = (0 : Int32)))).1) ?_
  refine o_aloadN (v := (.ref b125)) (pc := 27) X129 hx (hb hby o_d41_27) rfl rfl ?_
  refine o_iloadN (v := (13 : Int32)) (pc := 28) X129 hx (hb hby o_d41_28) rfl ?_
  refine o_iinc (x := (13 : Int32)) (l' := #[.val (.ref a1), .val (.int ((13 : Int32) + (1 : Int32))), .val (.ref b125)]) (pc := 29) X129 hx (1 : Int32) (hb hby o_d41_29) rfl rfl rfl ?_
  rw [show ((13 : Int32) + (1 : Int32)) = (14 : Int32) from rfl]
  refine o_bipush (pc := 32) X129 hx (110 : Int32) (hb hby o_d41_32) rfl ?_
  refine o_basB (pc := 34) X129 hx hZ e129 V125 ⟨by decide, by decide⟩ 13 rfl (by decide) (hb hby o_d41_34) fun T130 h130 X130 e130 K130 V130 => ?_
  have N130 := Fr.snoc X130 N129 (Nat.le_trans (o_n0 O0) g125)
  have O131 := O126.keep K130 (allS (Nat.le_trans (o_n0 O0) g125) all0)
  have K131 : Keep h0 h130 [a1] := K126.trans K130 (allS (Or.inr (Nat.le_trans (Keep.refl h0 [a1]).1 g125)) all0)
  refine o_aloadN (v := (.ref b125)) (pc := 35) X130 hx (hb hby o_d41_35) rfl rfl ?_
  refine o_iloadN (v := (14 : Int32)) (pc := 36) X130 hx (hb hby o_d41_36) rfl ?_
  refine o_iinc (x := (14 : Int32)) (l' := #[.val (.ref a1), .val (.int ((14 : Int32) + (1 : Int32))), .val (.ref b125)]) (pc := 37) X130 hx (1 : Int32) (hb hby o_d41_37) rfl rfl rfl ?_
  rw [show ((14 : Int32) + (1 : Int32)) = (15 : Int32) from rfl]
  refine o_bipush (pc := 40) X130 hx (117 : Int32) (hb hby o_d41_40) rfl ?_
  refine o_basB (pc := 42) X130 hx hZ e130 V130 ⟨by decide, by decide⟩ 14 rfl (by decide) (hb hby o_d41_42) fun T132 h132 X132 e132 K132 V132 => ?_
  have N132 := Fr.snoc X132 N130 (Nat.le_trans (o_n0 O0) g125)
  have O133 := O131.keep K132 (allS (Nat.le_trans (o_n0 O0) g125) all0)
  have K133 : Keep h0 h132 [a1] := K131.trans K132 (allS (Or.inr (Nat.le_trans (Keep.refl h0 [a1]).1 g125)) all0)
  refine o_aloadN (v := (.ref b125)) (pc := 43) X132 hx (hb hby o_d41_43) rfl rfl ?_
  refine o_iloadN (v := (15 : Int32)) (pc := 44) X132 hx (hb hby o_d41_44) rfl ?_
  refine o_iinc (x := (15 : Int32)) (l' := #[.val (.ref a1), .val (.int ((15 : Int32) + (1 : Int32))), .val (.ref b125)]) (pc := 45) X132 hx (1 : Int32) (hb hby o_d41_45) rfl rfl rfl ?_
  rw [show ((15 : Int32) + (1 : Int32)) = (16 : Int32) from rfl]
  refine o_bipush (pc := 48) X132 hx (108 : Int32) (hb hby o_d41_48) rfl ?_
  refine o_basB (pc := 50) X132 hx hZ e132 V132 ⟨by decide, by decide⟩ 15 rfl (by decide) (hb hby o_d41_50) fun T134 h134 X134 e134 K134 V134 => ?_
  have N134 := Fr.snoc X134 N132 (Nat.le_trans (o_n0 O0) g125)
  have O135 := O133.keep K134 (allS (Nat.le_trans (o_n0 O0) g125) all0)
  have K135 : Keep h0 h134 [a1] := K133.trans K134 (allS (Or.inr (Nat.le_trans (Keep.refl h0 [a1]).1 g125)) all0)
  refine o_aloadN (v := (.ref b125)) (pc := 51) X134 hx (hb hby o_d41_51) rfl rfl ?_
  refine o_iloadN (v := (16 : Int32)) (pc := 52) X134 hx (hb hby o_d41_52) rfl ?_
  refine o_iinc (x := (16 : Int32)) (l' := #[.val (.ref a1), .val (.int ((16 : Int32) + (1 : Int32))), .val (.ref b125)]) (pc := 53) X134 hx (1 : Int32) (hb hby o_d41_53) rfl rfl rfl ?_
  rw [show ((16 : Int32) + (1 : Int32)) = (17 : Int32) from rfl]
  refine o_bipush (pc := 56) X134 hx (108 : Int32) (hb hby o_d41_56) rfl ?_
  refine o_basB (pc := 58) X134 hx hZ e134 V134 ⟨by decide, by decide⟩ 16 rfl (by decide) (hb hby o_d41_58) fun T136 h136 X136 e136 K136 V136 => ?_
  have N136 := Fr.snoc X136 N134 (Nat.le_trans (o_n0 O0) g125)
  have O137 := O135.keep K136 (allS (Nat.le_trans (o_n0 O0) g125) all0)
  have K137 : Keep h0 h136 [a1] := K135.trans K136 (allS (Or.inr (Nat.le_trans (Keep.refl h0 [a1]).1 g125)) all0)
  refine o_goto (pc := 59) X136 hx 76 (hb hby o_d41_59) (by decide) (by decide) ?_
  refine o_aloadN (v := (.ref a1)) (pc := 76) X136 hx (hb hby o_d41_76) rfl rfl ?_
  refine o_iloadN (v := (17 : Int32)) (pc := 77) X136 hx (hb hby o_d41_77) rfl ?_
  refine o_putF (pc := 78) X136 hx hZ hown (host := "") (Or.inl (hw _ (List.mem_of_getElem? (i := 59) rfl))) Via.refl e136 ((((F125n.keep K130 (ninS (Nat.ne_of_lt (Nat.lt_of_lt_of_le E1.lt g125)) nin0)).keep K132 (ninS (Nat.ne_of_lt (Nat.lt_of_lt_of_le E1.lt g125)) nin0)).keep K134 (ninS (Nat.ne_of_lt (Nat.lt_of_lt_of_le E1.lt g125)) nin0)).keep K136 (ninS (Nat.ne_of_lt (Nat.lt_of_lt_of_le E1.lt g125)) nin0)) (((((E1.keep K125).keep K130).keep K132).keep K134).keep K136) (Or.inl (hw _ (List.mem_of_getElem? (i := 60) rfl))) (hw _ (List.mem_of_getElem? (i := 16) rfl)) (ty := .int) (by decide) rfl rfl (hb hby o_d41_78) fun T138 h138 X138 e138 W138 => ?_
  have F138 := Fld.same W138 ((((F125n.keep K130 (ninS (Nat.ne_of_lt (Nat.lt_of_lt_of_le E1.lt g125)) nin0)).keep K132 (ninS (Nat.ne_of_lt (Nat.lt_of_lt_of_le E1.lt g125)) nin0)).keep K134 (ninS (Nat.ne_of_lt (Nat.lt_of_lt_of_le E1.lt g125)) nin0)).keep K136 (ninS (Nat.ne_of_lt (Nat.lt_of_lt_of_le E1.lt g125)) nin0))
  have N138 := Fr.snoc X138 N136 g1
  have O139 := O137.wr W138 g1
  have K139 : Keep h0 h138 [a1] := K137.wr W138 (Or.inl (List.mem_of_getElem? (i := 0) rfl))
  refine o_aloadN (v := (.ref a1)) (pc := 81) X138 hx (hb hby o_d41_81) rfl rfl ?_
  exact o_retA (pc := 82) X138 hx hret hlk rfl rfl (hb hby o_d41_82) e138 (by decide) (by decide) ⟨b125, rfl, (Nat.le_trans (Keep.refl h0 [a1]).1 g125), N138, K139, (((((F125v.keep K130 (ninS (Nat.ne_of_lt (Nat.lt_of_lt_of_le E1.lt g125)) nin0)).keep K132 (ninS (Nat.ne_of_lt (Nat.lt_of_lt_of_le E1.lt g125)) nin0)).keep K134 (ninS (Nat.ne_of_lt (Nat.lt_of_lt_of_le E1.lt g125)) nin0)).keep K136 (ninS (Nat.ne_of_lt (Nat.lt_of_lt_of_le E1.lt g125)) nin0)).other W138 (Or.inr (slot_ne (C := "java/lang/StringBuilder") (Or.inl (hw _ (List.mem_of_getElem? (i := 32) rfl))) (Or.inl (hw _ (List.mem_of_getElem? (i := 60) rfl))) (by decide) (t := (.array .byte)) (t' := .int) (by decide) (by decide)))), (((((F125c.keep K130 (ninS (Nat.ne_of_lt (Nat.lt_of_lt_of_le E1.lt g125)) nin0)).keep K132 (ninS (Nat.ne_of_lt (Nat.lt_of_lt_of_le E1.lt g125)) nin0)).keep K134 (ninS (Nat.ne_of_lt (Nat.lt_of_lt_of_le E1.lt g125)) nin0)).keep K136 (ninS (Nat.ne_of_lt (Nat.lt_of_lt_of_le E1.lt g125)) nin0)).other W138 (Or.inr (slot_ne (C := "java/lang/StringBuilder") (Or.inl (hw _ (List.mem_of_getElem? (i := 34) rfl))) (Or.inl (hw _ (List.mem_of_getElem? (i := 60) rfl))) (by decide) (t := .byte) (t' := .int) (by decide) (by decide)))), F138, (V136.other W138 (Ne.symm (Nat.ne_of_lt (Nat.lt_of_lt_of_le E1.lt g125)))), (((((Y125.keep K130).keep K132).keep K134).keep K136).wr W138)⟩
theorem o_d6_4 : decode jdk_68_method_22_code 4 = .ok (.aload_n 0, 1) := by decide +kernel
theorem o_d6_5 : decode jdk_68_method_22_code 5 = .ok (.invokevirtual 204, 3) := by decide +kernel
theorem o_pd17 : parseMethodDescriptor "()Ljava/lang/AbstractStringBuilder;" = some ⟨[], some (.object "java/lang/AbstractStringBuilder")⟩ := by decide +kernel
theorem o_d6_8 : decode jdk_68_method_22_code 8 = .ok (.areturn, 1) := by decide +kernel
set_option maxRecDepth 65536 in
set_option maxHeartbeats 40000000 in
theorem rmAPN (l : Launch) (Z : State) (a0 : Array Value) (hw : ∀ d ∈ tables_1, d.before a0 Z = true) (ws : List Jvm.Cond) (a1 d : Addr) (cs : Int32) (h0 : Heap) (n0 : Nat) (O0 : Old Z n0 h0) (E1 : Exa Z h0 a1 "java/lang/StringBuilder") (G0 : Fld Z h0 a1 "java/lang/AbstractStringBuilder" "value" "[B" (.ref d)) (G1 : Fld Z h0 a1 "java/lang/AbstractStringBuilder" "coder" "B" (.int (0 : Int32))) (G2 : Fld Z h0 a1 "java/lang/AbstractStringBuilder" "count" "I" (.int (13 : Int32))) (VD : Byt Z h0 d (16 : Int32)) (ED : Exa Z h0 d "[B") (g1 : n0 ≤ a1) (gd : n0 ≤ d) (hne : a1 ≠ d) (SC : Sta Z Z.heap "java/lang/String" "COMPACT_STRINGS" "Z" (.int cs)) (hcs : ¬ cs = (0 : Int32)) :
    Ct l Z (⟨"java/lang/AbstractStringBuilder", "append", "(Ljava/lang/String;)Ljava/lang/AbstractStringBuilder;"⟩ : MethodName) jdk_68_method_22_code 3 (some (.object "java/lang/AbstractStringBuilder")) ({ frames := 5, cells := 1, slots := 34, locals := 83 } : Room) ws #[(.ref a1), .null] h0 (fun v h L => ∃ b, v = some (.ref a1) ∧ h0.size ≤ b ∧ Fr n0 L ∧ Keep h0 h [a1] ∧ Fld Z h a1 "java/lang/AbstractStringBuilder" "value" "[B" (.ref b) ∧ Fld Z h a1 "java/lang/AbstractStringBuilder" "coder" "B" (.int (0 : Int32)) ∧ Fld Z h a1 "java/lang/AbstractStringBuilder" "count" "I" (.int (17 : Int32)) ∧ Byt Z h b (34 : Int32) ∧ Exa Z h b "[B") := by
  refine o_body (plainFor_of_name o_pn_java_lang_AbstractStringBuilder) ?_
  intro p e s m below meth c s₁ X0 hx hby hml hret hlk hown hnm hZ e0
  have N0 := Fr.nil n0
  refine o_top (g' := (mkF m 0 #[.val (.ref a1), .val .null, .unset] [])) (by first | (simp [entryFrame, mkF, argsToLocals, Value.category]; done) | rfl) ?_
  refine o_aloadN (v := .null) (pc := 0) X0 hx (hb hby o_d6_0) rfl rfl ?_
  refine o_ifnonnullNo (pc := 1) X0 hx (hb hby o_d6_1) ?_
  refine o_aloadN (v := (.ref a1)) (pc := 4) X0 hx (hb hby o_d6_4) rfl rfl ?_
  refine o_callV (pc := 5) X0 hx hZ (y := (⟨"java/lang/AbstractStringBuilder", "appendNull", "()Ljava/lang/AbstractStringBuilder;"⟩ : MethodName)) (z := (⟨"java/lang/AbstractStringBuilder", "appendNull", "()Ljava/lang/AbstractStringBuilder;"⟩ : MethodName)) (C := "java/lang/StringBuilder") (a := a1) (argsL := []) (rest := []) hown (hw _ (List.mem_of_getElem? (i := 244) rfl)) (o_decl (hw _ (List.mem_of_getElem? (i := 245) rfl)) (hw _ (List.mem_of_getElem? (i := 248) rfl))) (notFace_of_selects (args := #[]) (mvT hZ (hw _ (List.mem_of_getElem? (i := 247) rfl)))) (hw _ (List.mem_of_getElem? (i := 247) rfl)) (hw _ (List.mem_of_getElem? (i := 245) rfl)) (hw _ (List.mem_of_getElem? (i := 25) rfl)) (hw _ (List.mem_of_getElem? (i := 248) rfl)) (by decide) (rmAN l Z a0 hw [] a1 d cs h0 n0 O0 E1 G0 G1 G2 VD ED g1 gd hne SC hcs) e0 E1 (by rw [hml]; rfl) (lenOf o_pd17 rfl) (has := rfl) (hst := rfl) (W := 0) (Nat.le_of_ble_eq_true rfl) (hb hby o_d6_5) (by decide) (by decide) (by decide) (by decide) fun v140 T140 h140 L140 X140 e140 q140 => ?_
  obtain ⟨b140, rfl, g140, N140q, K140, F140v, F140c, F140n, V140, Y140⟩ := q140
  have N140 := Fr.app N0 N140q
  have O141 := O0.keep K140 (allS g1 all0)
  have K141 : Keep h0 h140 [a1] := (Keep.refl h0 [a1]).trans K140 (allS (Or.inl (List.mem_of_getElem? (i := 0) rfl)) all0)
  show Go p e below T140 (mkF m 8 #[.val (.ref a1), .val .null, .unset] [(.ref a1)]) _
  exact o_retA (pc := 8) X140 hx hret hlk rfl rfl (hb hby o_d6_8) e140 (by decide) (by decide) ⟨b140, rfl, (Nat.le_trans (Keep.refl h0 [a1]).1 g140), N140, K141, F140v, F140c, F140n, V140, Y140⟩
set_option maxRecDepth 65536 in
set_option maxHeartbeats 40000000 in
theorem rmABN (l : Launch) (Z : State) (a0 : Array Value) (hw : ∀ d ∈ tables_1, d.before a0 Z = true) (ws : List Jvm.Cond) (a1 d : Addr) (cs : Int32) (h0 : Heap) (n0 : Nat) (O0 : Old Z n0 h0) (E1 : Exa Z h0 a1 "java/lang/StringBuilder") (G0 : Fld Z h0 a1 "java/lang/AbstractStringBuilder" "value" "[B" (.ref d)) (G1 : Fld Z h0 a1 "java/lang/AbstractStringBuilder" "coder" "B" (.int (0 : Int32))) (G2 : Fld Z h0 a1 "java/lang/AbstractStringBuilder" "count" "I" (.int (13 : Int32))) (VD : Byt Z h0 d (16 : Int32)) (ED : Exa Z h0 d "[B") (g1 : n0 ≤ a1) (gd : n0 ≤ d) (hne : a1 ≠ d) (SC : Sta Z Z.heap "java/lang/String" "COMPACT_STRINGS" "Z" (.int cs)) (hcs : ¬ cs = (0 : Int32)) :
    Ct l Z (⟨"java/lang/StringBuilder", "append", "(Ljava/lang/String;)Ljava/lang/StringBuilder;"⟩ : MethodName) jdk_67_method_7_code 2 (some (.object "java/lang/StringBuilder")) ({ frames := 6, cells := 1, slots := 34, locals := 97 } : Room) ws #[(.ref a1), .null] h0 (fun v h L => ∃ b, v = some (.ref a1) ∧ h0.size ≤ b ∧ Fr n0 L ∧ Keep h0 h [a1] ∧ Fld Z h a1 "java/lang/AbstractStringBuilder" "value" "[B" (.ref b) ∧ Fld Z h a1 "java/lang/AbstractStringBuilder" "coder" "B" (.int (0 : Int32)) ∧ Fld Z h a1 "java/lang/AbstractStringBuilder" "count" "I" (.int (17 : Int32)) ∧ Byt Z h b (34 : Int32) ∧ Exa Z h b "[B") := by
  refine o_body (plainFor_of_name o_pn_java_lang_StringBuilder) ?_
  intro p e s m below meth c s₁ X0 hx hby hml hret hlk hown hnm hZ e0
  have N0 := Fr.nil n0
  refine o_top (g' := (mkF m 0 #[.val (.ref a1), .val .null] [])) (by first | (simp [entryFrame, mkF, argsToLocals, Value.category]; done) | rfl) ?_
  refine o_aloadN (v := (.ref a1)) (pc := 0) X0 hx (hb hby o_d5_0) rfl rfl ?_
  refine o_aloadN (v := .null) (pc := 1) X0 hx (hb hby o_d5_1) rfl rfl ?_
  refine o_callSu (pc := 2) X0 hx hZ (y := (⟨"java/lang/AbstractStringBuilder", "append", "(Ljava/lang/String;)Ljava/lang/AbstractStringBuilder;"⟩ : MethodName)) (K := "java/lang/StringBuilder") (a := a1) (argsL := [.null]) (rest := []) hown (hw _ (List.mem_of_getElem? (i := 41) rfl)) (o_samem (hw _ (List.mem_of_getElem? (i := 42) rfl)) (o_nfC (y' := (⟨"java/lang/AbstractStringBuilder", "ensureCapacityInternal", "(I)V"⟩ : MethodName)) (z := (⟨"java/lang/AbstractStringBuilder", "ensureCapacityInternal", "(I)V"⟩ : MethodName)) rfl (hw _ (List.mem_of_getElem? (i := 64) rfl))) (by decide)) (hw _ (List.mem_of_getElem? (i := 42) rfl)) (hw _ (List.mem_of_getElem? (i := 43) rfl)) (hw _ (List.mem_of_getElem? (i := 25) rfl)) (hw _ (List.mem_of_getElem? (i := 45) rfl)) (by decide) (rmAPN l Z a0 hw [] a1 d cs h0 n0 O0 E1 G0 G1 G2 VD ED g1 gd hne SC hcs) e0 (Ins.self E1) (by rw [hml]; rfl) (lenOf o_pd15 rfl) (has := rfl) (hst := rfl) (W := 0) (Nat.le_of_ble_eq_true rfl) (hb hby o_d5_2) (by decide) (by decide) (by decide) (by decide) fun v142 T142 h142 L142 X142 e142 q142 => ?_
  obtain ⟨b142, rfl, g142, N142q, K142, F142v, F142c, F142n, V142, Y142⟩ := q142
  have N142 := Fr.app N0 N142q
  have O143 := O0.keep K142 (allS g1 all0)
  have K143 : Keep h0 h142 [a1] := (Keep.refl h0 [a1]).trans K142 (allS (Or.inl (List.mem_of_getElem? (i := 0) rfl)) all0)
  show Go p e below T142 (mkF m 5 #[.val (.ref a1), .val .null] [(.ref a1)]) _
  refine o_pop (pc := 5) X142 hx (hb hby o_d5_5) rfl ?_
  refine o_aloadN (v := (.ref a1)) (pc := 6) X142 hx (hb hby o_d5_6) rfl rfl ?_
  exact o_retA (pc := 7) X142 hx hret hlk rfl rfl (hb hby o_d5_7) e142 (by decide) (by decide) ⟨b142, rfl, (Nat.le_trans (Keep.refl h0 [a1]).1 g142), N142, K143, F142v, F142c, F142n, V142, Y142⟩
theorem o_d3_0 : decode jdk_68_method_2_code 0 = .ok (.aload_n 0, 1) := by decide +kernel
theorem o_d3_1 : decode jdk_68_method_2_code 1 = .ok (.invokespecial 3, 3) := by decide +kernel
theorem o_d3_4 : decode jdk_68_method_2_code 4 = .ok (.getstatic 18, 3) := by decide +kernel
theorem o_d3_7 : decode jdk_68_method_2_code 7 = .ok (.ifCond .eq 18, 3) := by decide +kernel
theorem o_d3_10 : decode jdk_68_method_2_code 10 = .ok (.aload_n 0, 1) := by decide +kernel
theorem o_d3_11 : decode jdk_68_method_2_code 11 = .ok (.iload_n 1, 1) := by decide +kernel
theorem o_d3_12 : decode jdk_68_method_2_code 12 = .ok (.newarray .byte, 2) := by decide +kernel
theorem o_d3_14 : decode jdk_68_method_2_code 14 = .ok (.putfield 15, 3) := by decide +kernel
theorem o_d3_17 : decode jdk_68_method_2_code 17 = .ok (.aload_n 0, 1) := by decide +kernel
theorem o_d3_18 : decode jdk_68_method_2_code 18 = .ok (.iconst 0, 1) := by decide +kernel
theorem o_d3_19 : decode jdk_68_method_2_code 19 = .ok (.putfield 22, 3) := by decide +kernel
theorem o_d3_22 : decode jdk_68_method_2_code 22 = .ok (.goto 16, 3) := by decide +kernel
theorem o_d3_38 : decode jdk_68_method_2_code 38 = .ok (.return_, 1) := by decide +kernel
set_option maxRecDepth 65536 in
set_option maxHeartbeats 40000000 in
theorem rmAI (l : Launch) (Z : State) (a0 : Array Value) (hw : ∀ d ∈ tables_1, d.before a0 Z = true) (ws : List Jvm.Cond) (a1 : Addr) (cs : Int32) (h0 : Heap) (n0 : Nat) (O0 : Old Z n0 h0) (E1 : Exa Z h0 a1 "java/lang/StringBuilder") (G0 : Fld Z h0 a1 "java/lang/AbstractStringBuilder" "value" "[B" .null) (G1 : Fld Z h0 a1 "java/lang/AbstractStringBuilder" "coder" "B" (.int (0 : Int32))) (G2 : Fld Z h0 a1 "java/lang/AbstractStringBuilder" "count" "I" (.int (0 : Int32))) (g1 : n0 ≤ a1) (SC : Sta Z Z.heap "java/lang/String" "COMPACT_STRINGS" "Z" (.int cs)) (hcs : ¬ cs = (0 : Int32)) :
    Ct l Z (⟨"java/lang/AbstractStringBuilder", "<init>", "(I)V"⟩ : MethodName) jdk_68_method_2_code 2 none ({ frames := 1, cells := 1, slots := 16, locals := 12 } : Room) ws #[(.ref a1), (.int (16 : Int32))] h0 (fun v h L => ∃ b, v = none ∧ h0.size ≤ b ∧ Fr n0 L ∧ Keep h0 h [a1] ∧ Fld Z h a1 "java/lang/AbstractStringBuilder" "value" "[B" (.ref b) ∧ Fld Z h a1 "java/lang/AbstractStringBuilder" "coder" "B" (.int (0 : Int32)) ∧ Fld Z h a1 "java/lang/AbstractStringBuilder" "count" "I" (.int (0 : Int32)) ∧ Byt Z h b (16 : Int32) ∧ Exa Z h b "[B") := by
  refine o_body (plainFor_of_name o_pn_java_lang_AbstractStringBuilder) ?_
  intro p e s m below meth c s₁ X0 hx hby hml hret hlk hown hnm hZ e0
  have N0 := Fr.nil n0
  refine o_top (g' := (mkF m 0 #[.val (.ref a1), .val (.int (16 : Int32))] [])) (by first | (simp [entryFrame, mkF, argsToLocals, Value.category]; done) | rfl) ?_
  refine o_aloadN (v := (.ref a1)) (pc := 0) X0 hx (hb hby o_d3_0) rfl rfl ?_
  refine o_initO (pc := 1) X0 hx hZ hown (hw _ (List.mem_of_getElem? (i := 27) rfl)) (hw _ (List.mem_of_getElem? (i := 28) rfl)) (hw _ (List.mem_of_getElem? (i := 29) rfl)) e0 (by rw [hml]; rfl) (hb hby o_d3_1) (by decide) (W := 0) (Nat.le_of_ble_eq_true rfl) (by decide) fun T144 X144 e144 => ?_
  refine o_getS (pc := 4) X144 hx hZ hown (host := "") (Or.inl (hw _ (List.mem_of_getElem? (i := 30) rfl))) Via.refl e144 (SC.ext O0.2) (hb hby o_d3_4) fun T145 X145 e145 => ?_
  refine o_ifNo (pc := 7) X145 hx (hb hby o_d3_7) ((if0 _ _).trans (feq hcs).1) ?_
  refine o_aloadN (v := (.ref a1)) (pc := 10) X145 hx (hb hby o_d3_10) rfl rfl ?_
  refine o_iloadN (v := (16 : Int32)) (pc := 11) X145 hx (hb hby o_d3_11) rfl ?_
  refine o_newB (pc := 12) X145 hx hZ (hw _ (List.mem_of_getElem? (i := 4) rfl)) e145 (hb hby o_d3_12) (by decide) 16 (by decide) (by decide) (by decide) (by decide) fun T146 h146 b146 X146 e146 g146 E146 V146 Y146 => ?_
  have O147 := O0.ext E146
  have K147 : Keep h0 h146 [a1] := (Keep.refl h0 [a1]).ext E146
  refine o_putF (pc := 14) X146 hx hZ hown (host := "") (Or.inl (hw _ (List.mem_of_getElem? (i := 31) rfl))) Via.refl e146 (G0.ext E146) (E1.ext E146) (Or.inl (hw _ (List.mem_of_getElem? (i := 32) rfl))) (hw _ (List.mem_of_getElem? (i := 16) rfl)) (ty := (.array .byte)) (by decide) rfl rfl (hb hby o_d3_14) fun T148 h148 X148 e148 W148 => ?_
  have F148 := Fld.same W148 (G0.ext E146)
  have N148 := Fr.snoc X148 N0 g1
  have O149 := O147.wr W148 g1
  have K149 : Keep h0 h148 [a1] := K147.wr W148 (Or.inl (List.mem_of_getElem? (i := 0) rfl))
  refine o_aloadN (v := (.ref a1)) (pc := 17) X148 hx (hb hby o_d3_17) rfl rfl ?_
  refine o_iconst (pc := 18) X148 hx (0 : Int32) (hb hby o_d3_18) rfl ?_
  refine o_putFN (pc := 19) X148 hx hZ hown (hw _ (List.mem_of_getElem? (i := 33) rfl)) Via.refl e148 ((G1.ext E146).other W148 (Or.inr (slot_ne (C := "java/lang/StringBuilder") (Or.inl (hw _ (List.mem_of_getElem? (i := 34) rfl))) (Or.inl (hw _ (List.mem_of_getElem? (i := 32) rfl))) (by decide) (t := .byte) (t' := (.array .byte)) (by decide) (by decide)))) ((E1.ext E146).wr W148) (Or.inl (hw _ (List.mem_of_getElem? (i := 34) rfl))) (hw _ (List.mem_of_getElem? (i := 16) rfl)) (ty := .byte) (v' := (.int (0 : Int32))) (by decide) (by decide) (by decide) (hb hby o_d3_19) fun T150 h150 X150 e150 W150 => ?_
  have F150 := Fld.same W150 ((G1.ext E146).other W148 (Or.inr (slot_ne (C := "java/lang/StringBuilder") (Or.inl (hw _ (List.mem_of_getElem? (i := 34) rfl))) (Or.inl (hw _ (List.mem_of_getElem? (i := 32) rfl))) (by decide) (t := .byte) (t' := (.array .byte)) (by decide) (by decide))))
  have N150 := Fr.snoc X150 N148 g1
  have O151 := O149.wr W150 g1
  have K151 : Keep h0 h150 [a1] := K149.wr W150 (Or.inl (List.mem_of_getElem? (i := 0) rfl))
  refine o_goto (pc := 22) X150 hx 38 (hb hby o_d3_22) (by decide) (by decide) ?_
  exact o_ret0 (pc := 38) X150 hx hret hlk (hb hby o_d3_38) e150 (by decide) (by decide) ⟨b146, rfl, (Nat.le_trans (Keep.refl h0 [a1]).1 g146), N150, K151, (F148.other W150 (Or.inr (slot_ne (C := "java/lang/StringBuilder") (Or.inl (hw _ (List.mem_of_getElem? (i := 32) rfl))) (Or.inl (hw _ (List.mem_of_getElem? (i := 34) rfl))) (by decide) (t := (.array .byte)) (t' := .byte) (by decide) (by decide)))), F150, (((G2.ext E146).other W148 (Or.inr (slot_ne (C := "java/lang/StringBuilder") (Or.inl (hw _ (List.mem_of_getElem? (i := 60) rfl))) (Or.inl (hw _ (List.mem_of_getElem? (i := 32) rfl))) (by decide) (t := .int) (t' := (.array .byte)) (by decide) (by decide)))).other W150 (Or.inr (slot_ne (C := "java/lang/StringBuilder") (Or.inl (hw _ (List.mem_of_getElem? (i := 60) rfl))) (Or.inl (hw _ (List.mem_of_getElem? (i := 34) rfl))) (by decide) (t := .int) (t' := .byte) (by decide) (by decide)))), ((V146.other W148 (Ne.symm (Nat.ne_of_lt (Nat.lt_of_lt_of_le E1.lt g146)))).other W150 (Ne.symm (Nat.ne_of_lt (Nat.lt_of_lt_of_le E1.lt g146)))), ((Y146.wr W148).wr W150)⟩
theorem o_d2_0 : decode jdk_67_method_1_code 0 = .ok (.aload_n 0, 1) := by decide +kernel
theorem o_d2_1 : decode jdk_67_method_1_code 1 = .ok (.bipush 16, 2) := by decide +kernel
theorem o_d2_3 : decode jdk_67_method_1_code 3 = .ok (.invokespecial 1, 3) := by decide +kernel
theorem o_d2_6 : decode jdk_67_method_1_code 6 = .ok (.return_, 1) := by decide +kernel
set_option maxRecDepth 65536 in
set_option maxHeartbeats 40000000 in
theorem rmBI (l : Launch) (Z : State) (a0 : Array Value) (hw : ∀ d ∈ tables_1, d.before a0 Z = true) (ws : List Jvm.Cond) (a1 : Addr) (cs : Int32) (h0 : Heap) (n0 : Nat) (O0 : Old Z n0 h0) (E1 : Exa Z h0 a1 "java/lang/StringBuilder") (G0 : Fld Z h0 a1 "java/lang/AbstractStringBuilder" "value" "[B" .null) (G1 : Fld Z h0 a1 "java/lang/AbstractStringBuilder" "coder" "B" (.int (0 : Int32))) (G2 : Fld Z h0 a1 "java/lang/AbstractStringBuilder" "count" "I" (.int (0 : Int32))) (g1 : n0 ≤ a1) (SC : Sta Z Z.heap "java/lang/String" "COMPACT_STRINGS" "Z" (.int cs)) (hcs : ¬ cs = (0 : Int32)) :
    Ct l Z (⟨"java/lang/StringBuilder", "<init>", "()V"⟩ : MethodName) jdk_67_method_1_code 1 none ({ frames := 2, cells := 1, slots := 16, locals := 25 } : Room) ws #[(.ref a1)] h0 (fun v h L => ∃ b, v = none ∧ h0.size ≤ b ∧ Fr n0 L ∧ Keep h0 h [a1] ∧ Fld Z h a1 "java/lang/AbstractStringBuilder" "value" "[B" (.ref b) ∧ Fld Z h a1 "java/lang/AbstractStringBuilder" "coder" "B" (.int (0 : Int32)) ∧ Fld Z h a1 "java/lang/AbstractStringBuilder" "count" "I" (.int (0 : Int32)) ∧ Byt Z h b (16 : Int32) ∧ Exa Z h b "[B") := by
  refine o_body (plainFor_of_name o_pn_java_lang_StringBuilder) ?_
  intro p e s m below meth c s₁ X0 hx hby hml hret hlk hown hnm hZ e0
  have N0 := Fr.nil n0
  refine o_top (g' := (mkF m 0 #[.val (.ref a1)] [])) (by first | (simp [entryFrame, mkF, argsToLocals, Value.category]; done) | rfl) ?_
  refine o_aloadN (v := (.ref a1)) (pc := 0) X0 hx (hb hby o_d2_0) rfl rfl ?_
  refine o_bipush (pc := 1) X0 hx (16 : Int32) (hb hby o_d2_1) rfl ?_
  refine o_callN (pc := 3) X0 hx hZ (y := (⟨"java/lang/AbstractStringBuilder", "<init>", "(I)V"⟩ : MethodName)) (a := a1) (argsL := [(.int (16 : Int32))]) (rest := []) rfl hown (hw _ (List.mem_of_getElem? (i := 21) rfl)) (hw _ (List.mem_of_getElem? (i := 22) rfl)) (hw _ (List.mem_of_getElem? (i := 25) rfl)) (hw _ (List.mem_of_getElem? (i := 26) rfl)) (by decide) (rmAI l Z a0 hw [] a1 cs h0 n0 O0 E1 G0 G1 G2 g1 SC hcs) e0 (by rw [hml]; rfl) (lenOf o_pd13 rfl) (has := rfl) (hst := rfl) (W := 0) (Nat.le_of_ble_eq_true rfl) (hb hby o_d2_3) (by decide) (by decide) (by decide) (by decide) fun v152 T152 h152 L152 X152 e152 q152 => ?_
  obtain ⟨b152, rfl, g152, N152q, K152, F152v, F152c, F152n, V152, Y152⟩ := q152
  have N152 := Fr.app N0 N152q
  have O153 := O0.keep K152 (allS g1 all0)
  have K153 : Keep h0 h152 [a1] := (Keep.refl h0 [a1]).trans K152 (allS (Or.inl (List.mem_of_getElem? (i := 0) rfl)) all0)
  show Go p e below T152 (mkF m 6 #[.val (.ref a1)] []) _
  exact o_ret0 (pc := 6) X152 hx hret hlk (hb hby o_d2_6) e152 (by decide) (by decide) ⟨b152, rfl, (Nat.le_trans (Keep.refl h0 [a1]).1 g152), N152, K153, F152v, F152c, F152n, V152, Y152⟩
theorem o_d21_0 : decode jdk_68_method_64_code 0 = .ok (.aload_n 0, 1) := by decide +kernel
theorem o_d21_1 : decode jdk_68_method_64_code 1 = .ok (.getfield 15, 3) := by decide +kernel
theorem o_d21_4 : decode jdk_68_method_64_code 4 = .ok (.areturn, 1) := by decide +kernel
set_option maxRecDepth 65536 in
set_option maxHeartbeats 40000000 in
theorem rmGV (l : Launch) (Z : State) (a0 : Array Value) (hw : ∀ d ∈ tables_1, d.before a0 Z = true) (ws : List Jvm.Cond) (a1 : Addr) (d : Addr) (h0 : Heap) (n0 : Nat) (O0 : Old Z n0 h0) (G : Fld Z h0 a1 "java/lang/AbstractStringBuilder" "value" "[B" (.ref d)) :
    Ct l Z (⟨"java/lang/AbstractStringBuilder", "getValue", "()[B"⟩ : MethodName) jdk_68_method_64_code 1 (some (.array .byte)) ({ frames := 0, cells := 0, slots := 0, locals := 0 } : Room) ws #[(.ref a1)] h0 (fun v h L => v = some (.ref d) ∧ Fr n0 L ∧ h0 = h) := by
  refine o_body (plainFor_of_name o_pn_java_lang_AbstractStringBuilder) ?_
  intro p e s m below meth c s₁ X0 hx hby hml hret hlk hown hnm hZ e0
  have N0 := Fr.nil n0
  refine o_top (g' := (mkF m 0 #[.val (.ref a1)] [])) (by first | (simp [entryFrame, mkF, argsToLocals, Value.category]; done) | rfl) ?_
  refine o_aloadN (v := (.ref a1)) (pc := 0) X0 hx (hb hby o_d21_0) rfl rfl ?_
  refine o_getF (pc := 1) X0 hx hZ hown (host := "") (Or.inl (hw _ (List.mem_of_getElem? (i := 31) rfl))) Via.refl e0 G (hb hby o_d21_1) fun T154 X154 e154 => ?_
  exact o_retA (pc := 4) X154 hx hret hlk rfl rfl (hb hby o_d21_4) e154 (by decide) (by decide) ⟨rfl, N0, rfl⟩
theorem o_d23_0 : decode jdk_68_method_6_code 0 = .ok (.aload_n 0, 1) := by decide +kernel
theorem o_d23_1 : decode jdk_68_method_6_code 1 = .ok (.getfield 79, 3) := by decide +kernel
theorem o_d23_4 : decode jdk_68_method_6_code 4 = .ok (.ireturn, 1) := by decide +kernel
set_option maxRecDepth 65536 in
set_option maxHeartbeats 40000000 in
theorem rmAL (l : Launch) (Z : State) (a0 : Array Value) (hw : ∀ d ∈ tables_1, d.before a0 Z = true) (ws : List Jvm.Cond) (a1 : Addr) (k : Int32) (h0 : Heap) (n0 : Nat) (O0 : Old Z n0 h0) (G : Fld Z h0 a1 "java/lang/AbstractStringBuilder" "count" "I" (.int k)) :
    Ct l Z (⟨"java/lang/AbstractStringBuilder", "length", "()I"⟩ : MethodName) jdk_68_method_6_code 1 (some .int) ({ frames := 0, cells := 0, slots := 0, locals := 0 } : Room) ws #[(.ref a1)] h0 (fun v h L => v = some (.int k) ∧ Fr n0 L ∧ h0 = h) := by
  refine o_body (plainFor_of_name o_pn_java_lang_AbstractStringBuilder) ?_
  intro p e s m below meth c s₁ X0 hx hby hml hret hlk hown hnm hZ e0
  have N0 := Fr.nil n0
  refine o_top (g' := (mkF m 0 #[.val (.ref a1)] [])) (by first | (simp [entryFrame, mkF, argsToLocals, Value.category]; done) | rfl) ?_
  refine o_aloadN (v := (.ref a1)) (pc := 0) X0 hx (hb hby o_d23_0) rfl rfl ?_
  refine o_getF (pc := 1) X0 hx hZ hown (host := "") (Or.inl (hw _ (List.mem_of_getElem? (i := 59) rfl))) Via.refl e0 G (hb hby o_d23_1) fun T155 X155 e155 => ?_
  exact o_retI (pc := 4) X155 hx hret hlk (hb hby o_d23_4) e155 (by decide) (by decide) ⟨rfl, N0, rfl⟩
theorem o_d22_0 : decode jdk_67_method_93_code 0 = .ok (.aload_n 0, 1) := by decide +kernel
theorem o_d22_1 : decode jdk_67_method_93_code 1 = .ok (.invokespecial 343, 3) := by decide +kernel
theorem o_d22_4 : decode jdk_67_method_93_code 4 = .ok (.ireturn, 1) := by decide +kernel
set_option maxRecDepth 65536 in
set_option maxHeartbeats 40000000 in
theorem rmBL (l : Launch) (Z : State) (a0 : Array Value) (hw : ∀ d ∈ tables_1, d.before a0 Z = true) (ws : List Jvm.Cond) (a1 : Addr) (k : Int32) (h0 : Heap) (n0 : Nat) (O0 : Old Z n0 h0) (E1 : Exa Z h0 a1 "java/lang/StringBuilder") (G : Fld Z h0 a1 "java/lang/AbstractStringBuilder" "count" "I" (.int k)) :
    Ct l Z (⟨"java/lang/StringBuilder", "length", "()I"⟩ : MethodName) jdk_67_method_93_code 1 (some .int) ({ frames := 1, cells := 0, slots := 0, locals := 12 } : Room) ws #[(.ref a1)] h0 (fun v h L => v = some (.int k) ∧ Fr n0 L ∧ h0 = h) := by
  refine o_body (plainFor_of_name o_pn_java_lang_StringBuilder) ?_
  intro p e s m below meth c s₁ X0 hx hby hml hret hlk hown hnm hZ e0
  have N0 := Fr.nil n0
  refine o_top (g' := (mkF m 0 #[.val (.ref a1)] [])) (by first | (simp [entryFrame, mkF, argsToLocals, Value.category]; done) | rfl) ?_
  refine o_aloadN (v := (.ref a1)) (pc := 0) X0 hx (hb hby o_d22_0) rfl rfl ?_
  refine o_callSu (pc := 1) X0 hx hZ (y := (⟨"java/lang/AbstractStringBuilder", "length", "()I"⟩ : MethodName)) (K := "java/lang/StringBuilder") (a := a1) (argsL := []) (rest := []) hown (hw _ (List.mem_of_getElem? (i := 134) rfl)) (o_samem (hw _ (List.mem_of_getElem? (i := 130) rfl)) (o_nfC (y' := (⟨"java/lang/AbstractStringBuilder", "ensureCapacityInternal", "(I)V"⟩ : MethodName)) (z := (⟨"java/lang/AbstractStringBuilder", "ensureCapacityInternal", "(I)V"⟩ : MethodName)) rfl (hw _ (List.mem_of_getElem? (i := 64) rfl))) (by decide)) (hw _ (List.mem_of_getElem? (i := 130) rfl)) (hw _ (List.mem_of_getElem? (i := 43) rfl)) (hw _ (List.mem_of_getElem? (i := 25) rfl)) (hw _ (List.mem_of_getElem? (i := 135) rfl)) (by decide) (rmAL l Z a0 hw [] a1 k h0 n0 O0 G) e0 (Ins.self E1) (by rw [hml]; rfl) (lenOf o_pd12 rfl) (has := rfl) (hst := rfl) (W := 0) (Nat.le_of_ble_eq_true rfl) (hb hby o_d22_1) (by decide) (by decide) (by decide) (by decide) fun v156 T156 h156 L156 X156 e156 q156 => ?_
  obtain ⟨rfl, N156q, rfl⟩ := q156
  have N156 := Fr.app N0 N156q
  show Go p e below T156 (mkF m 4 #[.val (.ref a1)] [(.int k)]) _
  exact o_retI (pc := 4) X156 hx hret hlk (hb hby o_d22_4) e156 (by decide) (by decide) ⟨rfl, N156, rfl⟩
theorem o_d27_0 : decode jdk_65_method_131_code 0 = .ok (.iload_n 1, 1) := by decide +kernel
theorem o_d27_1 : decode jdk_65_method_131_code 1 = .ok (.iload_n 0, 1) := by decide +kernel
theorem o_d27_2 : decode jdk_65_method_131_code 2 = .ok (.if_icmp .ge 35, 3) := by decide +kernel
theorem o_d27_37 : decode jdk_65_method_131_code 37 = .ok (.return_, 1) := by decide +kernel
set_option maxRecDepth 65536 in
set_option maxHeartbeats 40000000 in
theorem rmCL (l : Launch) (Z : State) (a0 : Array Value) (hw : ∀ d ∈ tables_1, d.before a0 Z = true) (ws : List Jvm.Cond) (k : Int32) (h0 : Heap) (n0 : Nat) (O0 : Old Z n0 h0) (hk : ¬ k < (0 : Int32)) :
    Ct l Z (⟨"java/util/Arrays", "checkLength", "(II)V"⟩ : MethodName) jdk_65_method_131_code 2 none ({ frames := 0, cells := 0, slots := 0, locals := 0 } : Room) ws #[(.int (0 : Int32)), (.int k)] h0 (fun v h L => v = none ∧ Fr n0 L ∧ h0 = h) := by
  refine o_body (plainFor_of_name o_pn_java_util_Arrays) ?_
  intro p e s m below meth c s₁ X0 hx hby hml hret hlk hown hnm hZ e0
  have N0 := Fr.nil n0
  refine o_top (g' := (mkF m 0 #[.val (.int (0 : Int32)), .val (.int k)] [])) (by first | (simp [entryFrame, mkF, argsToLocals, Value.category]; done) | rfl) ?_
  refine o_iloadN (v := k) (pc := 0) X0 hx (hb hby o_d27_0) rfl ?_
  refine o_iloadN (v := (0 : Int32)) (pc := 1) X0 hx (hb hby o_d27_1) rfl ?_
  refine o_icmpYes (pc := 2) X0 hx 37 (hb hby o_d27_2) (flt hk).2.1 (by decide) (by decide) ?_
  exact o_ret0 (pc := 37) X0 hx hret hlk (hb hby o_d27_37) e0 (by decide) (by decide) ⟨rfl, N0, rfl⟩
theorem o_d26_0 : decode jdk_65_method_133_code 0 = .ok (.iload_n 1, 1) := by decide +kernel
theorem o_d26_1 : decode jdk_65_method_133_code 1 = .ok (.iload_n 2, 1) := by decide +kernel
theorem o_d26_2 : decode jdk_65_method_133_code 2 = .ok (.invokestatic 343, 3) := by decide +kernel
theorem o_pd18 : parseMethodDescriptor "(II)V" = some ⟨[.int, .int], none⟩ := by decide +kernel
theorem o_d26_5 : decode jdk_65_method_133_code 5 = .ok (.iload_n 2, 1) := by decide +kernel
theorem o_d26_6 : decode jdk_65_method_133_code 6 = .ok (.iload_n 1, 1) := by decide +kernel
theorem o_d26_7 : decode jdk_65_method_133_code 7 = .ok (.isub, 1) := by decide +kernel
theorem o_d26_8 : decode jdk_65_method_133_code 8 = .ok (.istore_n 3, 1) := by decide +kernel
theorem o_d26_9 : decode jdk_65_method_133_code 9 = .ok (.iload_n 3, 1) := by decide +kernel
theorem o_d26_10 : decode jdk_65_method_133_code 10 = .ok (.newarray .byte, 2) := by decide +kernel
theorem o_d26_12 : decode jdk_65_method_133_code 12 = .ok (.astore 4, 2) := by decide +kernel
theorem o_d26_14 : decode jdk_65_method_133_code 14 = .ok (.aload_n 0, 1) := by decide +kernel
theorem o_d26_15 : decode jdk_65_method_133_code 15 = .ok (.iload_n 1, 1) := by decide +kernel
theorem o_d26_16 : decode jdk_65_method_133_code 16 = .ok (.aload 4, 2) := by decide +kernel
theorem o_d26_18 : decode jdk_65_method_133_code 18 = .ok (.iconst 0, 1) := by decide +kernel
theorem o_d26_19 : decode jdk_65_method_133_code 19 = .ok (.aload_n 0, 1) := by decide +kernel
theorem o_d26_20 : decode jdk_65_method_133_code 20 = .ok (.arraylength, 1) := by decide +kernel
theorem o_d26_21 : decode jdk_65_method_133_code 21 = .ok (.iload_n 1, 1) := by decide +kernel
theorem o_d26_22 : decode jdk_65_method_133_code 22 = .ok (.isub, 1) := by decide +kernel
theorem o_d26_23 : decode jdk_65_method_133_code 23 = .ok (.iload_n 3, 1) := by decide +kernel
theorem o_d26_24 : decode jdk_65_method_133_code 24 = .ok (.invokestatic 304, 3) := by decide +kernel
theorem o_d26_27 : decode jdk_65_method_133_code 27 = .ok (.invokestatic 150, 3) := by decide +kernel
theorem o_d26_30 : decode jdk_65_method_133_code 30 = .ok (.aload 4, 2) := by decide +kernel
theorem o_d26_32 : decode jdk_65_method_133_code 32 = .ok (.areturn, 1) := by decide +kernel
set_option maxRecDepth 65536 in
set_option maxHeartbeats 40000000 in
theorem rmCBA (l : Launch) (Z : State) (a0 : Array Value) (hw : ∀ d ∈ tables_1, d.before a0 Z = true) (ws : List Jvm.Cond) (d : Addr) (k : Int32) (h0 : Heap) (n0 : Nat) (O0 : Old Z n0 h0) (VD : Byt Z h0 d (16 : Int32)) (hk : k ∈ ([13, 14, 15] : List Int32)) :
    Ct l Z (⟨"java/util/Arrays", "copyOfRangeByte", "([BII)[B"⟩ : MethodName) jdk_65_method_133_code 5 (some (.array .byte)) ({ frames := 1, cells := 1, slots := 30, locals := 40 } : Room) ws #[(.ref d), (.int (0 : Int32)), (.int k)] h0 (fun v h L => ∃ b, v = some (.ref b) ∧ h0.size ≤ b ∧ Fr n0 L ∧ Ext h0 h ∧ Byt Z h b k) := by
  refine o_body (plainFor_of_name o_pn_java_util_Arrays) ?_
  intro p e s m below meth c s₁ X0 hx hby hml hret hlk hown hnm hZ e0
  have N0 := Fr.nil n0
  refine o_top (g' := (mkF m 0 #[.val (.ref d), .val (.int (0 : Int32)), .val (.int k), .unset, .unset] [])) (by first | (simp [entryFrame, mkF, argsToLocals, Value.category]; done) | rfl) ?_
  refine o_iloadN (v := (0 : Int32)) (pc := 0) X0 hx (hb hby o_d26_0) rfl ?_
  refine o_iloadN (v := k) (pc := 1) X0 hx (hb hby o_d26_1) rfl ?_
  refine o_callS (pc := 2) X0 hx hZ (y := (⟨"java/util/Arrays", "checkLength", "(II)V"⟩ : MethodName)) (argsL := [(.int (0 : Int32)), (.int k)]) (rest := []) hown (hw _ (List.mem_of_getElem? (i := 147) rfl)) (hw _ (List.mem_of_getElem? (i := 148) rfl)) (hw _ (List.mem_of_getElem? (i := 103) rfl)) (hw _ (List.mem_of_getElem? (i := 149) rfl)) (by decide) (rmCL l Z a0 hw [] k h0 n0 O0 (o_all (P := fun k => ¬ k < (0 : Int32)) hk (by decide))) e0 (by rw [hml]; rfl) (lenOf o_pd18 rfl) (has := rfl) (hst := rfl) (W := 0) (Nat.le_of_ble_eq_true rfl) (hb hby o_d26_2) (by decide) (by decide) (by decide) (by decide) fun v157 T157 h157 L157 X157 e157 q157 => ?_
  obtain ⟨rfl, N157q, rfl⟩ := q157
  have N157 := Fr.app N0 N157q
  show Go p e below T157 (mkF m 5 #[.val (.ref d), .val (.int (0 : Int32)), .val (.int k), .unset, .unset] []) _
  refine o_iloadN (v := k) (pc := 5) X157 hx (hb hby o_d26_5) rfl ?_
  refine o_iloadN (v := (0 : Int32)) (pc := 6) X157 hx (hb hby o_d26_6) rfl ?_
  refine o_isub (pc := 7) X157 hx (hb hby o_d26_7) ?_
  rw [Int32.sub_zero]
  refine o_istoreN (l' := #[.val (.ref d), .val (.int (0 : Int32)), .val (.int k), .val (.int k), .unset]) (pc := 8) X157 hx (hb hby o_d26_8) rfl ?_
  refine o_iloadN (v := k) (pc := 9) X157 hx (hb hby o_d26_9) rfl ?_
  refine o_newB (pc := 10) X157 hx hZ (hw _ (List.mem_of_getElem? (i := 4) rfl)) e157 (hb hby o_d26_10) (o_all (P := fun k => ¬ k < 0) hk (by decide)) 30 (o_all (P := fun k => k.toNatClampNeg ≤ 30) hk (by decide)) (by decide) (by decide) (by decide) fun T158 h158 b158 X158 e158 g158 E158 V158 Y158 => ?_
  have O159 := O0.ext E158
  have K159 : Keep h0 h158 [] := (Keep.refl h0 []).ext E158
  refine o_astore (l' := #[.val (.ref d), .val (.int (0 : Int32)), .val (.int k), .val (.int k), .val (.ref b158)]) (pc := 12) X158 hx (hb hby o_d26_12) rfl rfl ?_
  refine o_aloadN (v := (.ref d)) (pc := 14) X158 hx (hb hby o_d26_14) rfl rfl ?_
  refine o_iloadN (v := (0 : Int32)) (pc := 15) X158 hx (hb hby o_d26_15) rfl ?_
  refine o_aload (v := (.ref b158)) (pc := 16) X158 hx (hb hby o_d26_16) rfl rfl ?_
  refine o_iconst (pc := 18) X158 hx (0 : Int32) (hb hby o_d26_18) rfl ?_
  refine o_aloadN (v := (.ref d)) (pc := 19) X158 hx (hb hby o_d26_19) rfl rfl ?_
  refine o_lenB (pc := 20) X158 hx hZ e158 (VD.ext E158) (hb hby o_d26_20) ?_
  refine o_iloadN (v := (0 : Int32)) (pc := 21) X158 hx (hb hby o_d26_21) rfl ?_
  refine o_isub (pc := 22) X158 hx (hb hby o_d26_22) ?_
  rw [show ((16 : Int32) - (0 : Int32)) = (16 : Int32) from rfl]
  refine o_iloadN (v := k) (pc := 23) X158 hx (hb hby o_d26_23) rfl ?_
  refine o_callS (pc := 24) X158 hx hZ (y := (⟨"java/lang/Math", "min", "(II)I"⟩ : MethodName)) (argsL := [(.int (16 : Int32)), (.int k)]) (rest := [(.int (0 : Int32)), (.ref b158), (.int (0 : Int32)), (.ref d)]) hown (hw _ (List.mem_of_getElem? (i := 105) rfl)) (hw _ (List.mem_of_getElem? (i := 106) rfl)) (hw _ (List.mem_of_getElem? (i := 97) rfl)) (hw _ (List.mem_of_getElem? (i := 107) rfl)) (by decide) (rm_min l Z a0 hw [] (16 : Int32) k h158 n0 O159) e158 (by rw [hml]; rfl) (lenOf o_pd6 rfl) (has := rfl) (hst := rfl) (W := 4) (Nat.le_of_ble_eq_true rfl) (hb hby o_d26_24) (by decide) (by decide) (by decide) (by decide) fun v160 T160 h160 L160 X160 e160 q160 => ?_
  obtain ⟨rfl, N160q, rfl⟩ := q160
  have N160 := Fr.app N157 N160q
  rw [if_pos (o_all (P := fun k => k < (16 : Int32)) hk (by decide))]
  show Go p e below T160 (mkF m 27 #[.val (.ref d), .val (.int (0 : Int32)), .val (.int k), .val (.int k), .val (.ref b158)] [(.int k), (.int (0 : Int32)), (.ref b158), (.int (0 : Int32)), (.ref d)]) _
  refine o_cpB (pc := 27) X160 hx hZ hown (hw _ (List.mem_of_getElem? (i := 108) rfl)) (hw _ (List.mem_of_getElem? (i := 85) rfl)) (hw _ (List.mem_of_getElem? (i := 83) rfl)) (hw _ (List.mem_of_getElem? (i := 84) rfl)) e160 (VD.ext E158) V158 (by decide) (by decide) (o_all (P := fun k => ¬ k < 0) hk (by decide)) (o_all (P := fun k => (0 : Int32).toNatClampNeg + k.toNatClampNeg ≤ (16 : Int32).toNatClampNeg) hk (by decide)) (o_all (P := fun k => (0 : Int32).toNatClampNeg + k.toNatClampNeg ≤ k.toNatClampNeg) hk (by decide)) N160 (Nat.le_trans (o_n0 O0) g158) (by rw [hml]; rfl) (hb hby o_d26_27) (by decide) (W := 0) (Nat.le_of_ble_eq_true rfl) (by decide) fun T161 h161 L161 X161 e161 N161 K161 V161 => ?_
  have O162 := O159.keep K161 (allS (Nat.le_trans (o_n0 O0) g158) all0)
  have K162 : Keep h0 h161 [] := K159.trans K161 (allS (Or.inr (Nat.le_trans (Keep.refl h0 []).1 g158)) all0)
  refine o_aload (v := (.ref b158)) (pc := 30) X161 hx (hb hby o_d26_30) rfl rfl ?_
  exact o_retA (pc := 32) X161 hx hret hlk rfl rfl (hb hby o_d26_32) e161 (by decide) (by decide) ⟨b158, rfl, (Nat.le_trans (Keep.refl h0 []).1 g158), N161, o_keep0 K162, V161⟩
theorem o_d25_0 : decode jdk_65_method_132_code 0 = .ok (.iload_n 1, 1) := by decide +kernel
theorem o_d25_1 : decode jdk_65_method_132_code 1 = .ok (.ifCond .ne 9, 3) := by decide +kernel
theorem o_d25_4 : decode jdk_65_method_132_code 4 = .ok (.iload_n 2, 1) := by decide +kernel
theorem o_d25_5 : decode jdk_65_method_132_code 5 = .ok (.aload_n 0, 1) := by decide +kernel
theorem o_d25_6 : decode jdk_65_method_132_code 6 = .ok (.arraylength, 1) := by decide +kernel
theorem o_d25_7 : decode jdk_65_method_132_code 7 = .ok (.if_icmp .eq 10, 3) := by decide +kernel
theorem o_d25_17 : decode jdk_65_method_132_code 17 = .ok (.aload_n 0, 1) := by decide +kernel
theorem o_d25_18 : decode jdk_65_method_132_code 18 = .ok (.invokevirtual 310, 3) := by decide +kernel
theorem o_d25_21 : decode jdk_65_method_132_code 21 = .ok (.checkcast 311, 3) := by decide +kernel
theorem o_d25_24 : decode jdk_65_method_132_code 24 = .ok (.areturn, 1) := by decide +kernel
theorem o_d25_10 : decode jdk_65_method_132_code 10 = .ok (.aload_n 0, 1) := by decide +kernel
theorem o_d25_11 : decode jdk_65_method_132_code 11 = .ok (.iload_n 1, 1) := by decide +kernel
theorem o_d25_12 : decode jdk_65_method_132_code 12 = .ok (.iload_n 2, 1) := by decide +kernel
theorem o_d25_13 : decode jdk_65_method_132_code 13 = .ok (.invokestatic 339, 3) := by decide +kernel
theorem o_pd19 : parseMethodDescriptor "([BII)[B" = some ⟨[(.array .byte), .int, .int], some (.array .byte)⟩ := by decide +kernel
theorem o_d25_16 : decode jdk_65_method_132_code 16 = .ok (.areturn, 1) := by decide +kernel
set_option maxRecDepth 65536 in
set_option maxHeartbeats 40000000 in
theorem rmCRA (l : Launch) (Z : State) (a0 : Array Value) (hw : ∀ d ∈ tables_1, d.before a0 Z = true) (ws : List Jvm.Cond) (d : Addr) (k : Int32) (h0 : Heap) (n0 : Nat) (O0 : Old Z n0 h0) (VD : Byt Z h0 d (16 : Int32)) (ED : Exa Z h0 d "[B") (hk : k ∈ ([13, 14, 15, 16] : List Int32)) :
    Ct l Z (⟨"java/util/Arrays", "copyOfRange", "([BII)[B"⟩ : MethodName) jdk_65_method_132_code 3 (some (.array .byte)) ({ frames := 2, cells := 1, slots := 30, locals := 56 } : Room) ws #[(.ref d), (.int (0 : Int32)), (.int k)] h0 (fun v h L => ∃ b, v = some (.ref b) ∧ h0.size ≤ b ∧ Fr n0 L ∧ Ext h0 h ∧ Byt Z h b k) := by
  refine o_body (plainFor_of_name o_pn_java_util_Arrays) ?_
  intro p e s m below meth c s₁ X0 hx hby hml hret hlk hown hnm hZ e0
  have N0 := Fr.nil n0
  refine o_top (g' := (mkF m 0 #[.val (.ref d), .val (.int (0 : Int32)), .val (.int k)] [])) (by first | (simp [entryFrame, mkF, argsToLocals, Value.category]; done) | rfl) ?_
  refine o_iloadN (v := (0 : Int32)) (pc := 0) X0 hx (hb hby o_d25_0) rfl ?_
  refine o_ifNo (pc := 1) X0 hx (hb hby o_d25_1) ((if0 _ _).trans (teq (by decide : (0 : Int32) = (0 : Int32))).2) ?_
  refine o_iloadN (v := k) (pc := 4) X0 hx (hb hby o_d25_4) rfl ?_
  refine o_aloadN (v := (.ref d)) (pc := 5) X0 hx (hb hby o_d25_5) rfl rfl ?_
  refine o_lenB (pc := 6) X0 hx hZ e0 VD (hb hby o_d25_6) ?_
  by_cases hc163 : k = (16 : Int32)
  · skip
    refine o_icmpYes (pc := 7) X0 hx 17 (hb hby o_d25_7) (teq hc163).1 (by decide) (by decide) ?_
    refine o_aloadN (v := (.ref d)) (pc := 17) X0 hx (hb hby o_d25_17) rfl rfl ?_
    obtain ⟨kq164, vq164, lq164, Vq164⟩ := VD
    refine o_clone (pc := 18) X0 hx hZ hown (hw _ (List.mem_of_getElem? (i := 253) rfl)) (hw _ (List.mem_of_getElem? (i := 254) rfl)) (hw _ (List.mem_of_getElem? (i := 258) rfl)) (hw _ (List.mem_of_getElem? (i := 256) rfl)) (hw _ (List.mem_of_getElem? (i := 257) rfl)) (hw _ (List.mem_of_getElem? (i := 259) rfl)) e0 Vq164 ED (by rw [hml]; rfl) (hb hby o_d25_18) (by decide) (W := 0) 16 (Nat.le_of_ble_eq_true rfl) (by decide) (by decide) (by decide) (by decide) fun T164 h164 b164 X164 e164 g164 E164 V164 Y164 => ?_
    have O165 := O0.ext E164
    have K165 : Keep h0 h164 [] := (Keep.refl h0 []).ext E164
    have B164q : Byt Z h164 b164 k := hc163 ▸ Byt.of V164 lq164
    refine o_cast (pc := 21) X164 hx hZ hown (hw _ (List.mem_of_getElem? (i := 260) rfl)) e164 (Ins.self Y164) (hb hby o_d25_21) fun T166 X166 e166 => ?_
    exact o_retA (pc := 24) X166 hx hret hlk rfl rfl (hb hby o_d25_24) e166 (by decide) (by decide) ⟨b164, rfl, (Nat.le_trans (Keep.refl h0 []).1 g164), N0, o_keep0 K165, B164q⟩
  · skip
    refine o_icmpNo (pc := 7) X0 hx (hb hby o_d25_7) (feq hc163).1 ?_
    refine o_aloadN (v := (.ref d)) (pc := 10) X0 hx (hb hby o_d25_10) rfl rfl ?_
    refine o_iloadN (v := (0 : Int32)) (pc := 11) X0 hx (hb hby o_d25_11) rfl ?_
    refine o_iloadN (v := k) (pc := 12) X0 hx (hb hby o_d25_12) rfl ?_
    refine o_callS (pc := 13) X0 hx hZ (y := (⟨"java/util/Arrays", "copyOfRangeByte", "([BII)[B"⟩ : MethodName)) (argsL := [(.ref d), (.int (0 : Int32)), (.int k)]) (rest := []) hown (hw _ (List.mem_of_getElem? (i := 144) rfl)) (hw _ (List.mem_of_getElem? (i := 145) rfl)) (hw _ (List.mem_of_getElem? (i := 103) rfl)) (hw _ (List.mem_of_getElem? (i := 146) rfl)) (by decide) (rmCBA l Z a0 hw [] d k h0 n0 O0 VD (o_all (P := fun k => ¬ k = (16 : Int32) → k ∈ ([13, 14, 15] : List Int32)) hk (by decide) hc163)) e0 (by rw [hml]; rfl) (lenOf o_pd19 rfl) (has := rfl) (hst := rfl) (W := 0) (Nat.le_of_ble_eq_true rfl) (hb hby o_d25_13) (by decide) (by decide) (by decide) (by decide) fun v167 T167 h167 L167 X167 e167 q167 => ?_
    obtain ⟨b167, rfl, g167, N167q, E167, V167⟩ := q167
    have N167 := Fr.app N0 N167q
    have O168 := O0.ext E167
    have K168 : Keep h0 h167 [] := (Keep.refl h0 []).ext E167
    show Go p e below T167 (mkF m 16 #[.val (.ref d), .val (.int (0 : Int32)), .val (.int k)] [(.ref b167)]) _
    exact o_retA (pc := 16) X167 hx hret hlk rfl rfl (hb hby o_d25_16) e167 (by decide) (by decide) ⟨b167, rfl, (Nat.le_trans (Keep.refl h0 []).1 g167), N167, o_keep0 K168, V167⟩
theorem o_d20_0 : decode jdk_42_method_150_code 0 = .ok (.aload_n 0, 1) := by decide +kernel
theorem o_d20_1 : decode jdk_42_method_150_code 1 = .ok (.invokespecial 1, 3) := by decide +kernel
theorem o_d20_4 : decode jdk_42_method_150_code 4 = .ok (.aload_n 1, 1) := by decide +kernel
theorem o_d20_5 : decode jdk_42_method_150_code 5 = .ok (.invokevirtual 552, 3) := by decide +kernel
theorem o_pd20 : parseMethodDescriptor "()[B" = some ⟨[], some (.array .byte)⟩ := by decide +kernel
theorem o_d20_8 : decode jdk_42_method_150_code 8 = .ok (.astore_n 3, 1) := by decide +kernel
theorem o_d20_9 : decode jdk_42_method_150_code 9 = .ok (.aload_n 1, 1) := by decide +kernel
theorem o_d20_10 : decode jdk_42_method_150_code 10 = .ok (.invokevirtual 549, 3) := by decide +kernel
theorem o_d20_13 : decode jdk_42_method_150_code 13 = .ok (.istore 4, 2) := by decide +kernel
theorem o_d20_15 : decode jdk_42_method_150_code 15 = .ok (.aload_n 1, 1) := by decide +kernel
theorem o_d20_16 : decode jdk_42_method_150_code 16 = .ok (.invokevirtual 1047, 3) := by decide +kernel
theorem o_d20_19 : decode jdk_42_method_150_code 19 = .ok (.ifCond .eq 22, 3) := by decide +kernel
theorem o_d20_22 : decode jdk_42_method_150_code 22 = .ok (.aload_n 0, 1) := by decide +kernel
theorem o_d20_23 : decode jdk_42_method_150_code 23 = .ok (.iconst 0, 1) := by decide +kernel
theorem o_d20_24 : decode jdk_42_method_150_code 24 = .ok (.putfield 15, 3) := by decide +kernel
theorem o_d20_27 : decode jdk_42_method_150_code 27 = .ok (.aload_n 0, 1) := by decide +kernel
theorem o_d20_28 : decode jdk_42_method_150_code 28 = .ok (.aload_n 3, 1) := by decide +kernel
theorem o_d20_29 : decode jdk_42_method_150_code 29 = .ok (.iconst 0, 1) := by decide +kernel
theorem o_d20_30 : decode jdk_42_method_150_code 30 = .ok (.iload 4, 2) := by decide +kernel
theorem o_d20_32 : decode jdk_42_method_150_code 32 = .ok (.invokestatic 54, 3) := by decide +kernel
theorem o_d20_35 : decode jdk_42_method_150_code 35 = .ok (.putfield 9, 3) := by decide +kernel
theorem o_d20_38 : decode jdk_42_method_150_code 38 = .ok (.goto 59, 3) := by decide +kernel
theorem o_d20_97 : decode jdk_42_method_150_code 97 = .ok (.return_, 1) := by decide +kernel
set_option maxRecDepth 65536 in
set_option maxHeartbeats 40000000 in
theorem rmS1A (l : Launch) (Z : State) (a0 : Array Value) (hw : ∀ d ∈ tables_1, d.before a0 Z = true) (ws : List Jvm.Cond) (a1 sb d : Addr) (k : Int32) (cs : Int32) (h0 : Heap) (n0 : Nat) (O0 : Old Z n0 h0) (E1 : Exa Z h0 sb "java/lang/StringBuilder") (G0 : Fld Z h0 sb "java/lang/AbstractStringBuilder" "value" "[B" (.ref d)) (G1 : Fld Z h0 sb "java/lang/AbstractStringBuilder" "coder" "B" (.int (0 : Int32))) (G2 : Fld Z h0 sb "java/lang/AbstractStringBuilder" "count" "I" (.int k)) (VD : Byt Z h0 d (16 : Int32)) (ED : Exa Z h0 d "[B") (hne : sb ≠ d) (Es : Exa Z h0 a1 "java/lang/String") (Gc : Fld Z h0 a1 "java/lang/String" "coder" "B" (.int (0 : Int32))) (Gv : Fld Z h0 a1 "java/lang/String" "value" "[B" .null) (g1 : n0 ≤ a1) (n1 : sb ≠ a1) (n2 : d ≠ a1) (SC : Sta Z Z.heap "java/lang/String" "COMPACT_STRINGS" "Z" (.int cs)) (hcs : ¬ cs = (0 : Int32)) (hk : k ∈ ([13, 14, 15, 16] : List Int32)) :
    Ct l Z (⟨"java/lang/String", "<init>", "(Ljava/lang/AbstractStringBuilder;Ljava/lang/Void;)V"⟩ : MethodName) jdk_42_method_150_code 5 none ({ frames := 3, cells := 1, slots := 30, locals := 71 } : Room) ws #[(.ref a1), (.ref sb), .null] h0 (fun v h L => v = none ∧ Fr n0 L ∧ Keep h0 h [a1]) := by
  refine o_body (plainFor_of_name o_pn_java_lang_String) ?_
  intro p e s m below meth c s₁ X0 hx hby hml hret hlk hown hnm hZ e0
  have N0 := Fr.nil n0
  refine o_top (g' := (mkF m 0 #[.val (.ref a1), .val (.ref sb), .val .null, .unset, .unset] [])) (by first | (simp [entryFrame, mkF, argsToLocals, Value.category]; done) | rfl) ?_
  refine o_aloadN (v := (.ref a1)) (pc := 0) X0 hx (hb hby o_d20_0) rfl rfl ?_
  refine o_initO (pc := 1) X0 hx hZ hown (hw _ (List.mem_of_getElem? (i := 122) rfl)) (hw _ (List.mem_of_getElem? (i := 28) rfl)) (hw _ (List.mem_of_getElem? (i := 29) rfl)) e0 (by rw [hml]; rfl) (hb hby o_d20_1) (by decide) (W := 0) (Nat.le_of_ble_eq_true rfl) (by decide) fun T169 X169 e169 => ?_
  refine o_aloadN (v := (.ref sb)) (pc := 4) X169 hx (hb hby o_d20_4) rfl rfl ?_
  refine o_callV (pc := 5) X169 hx hZ (y := (⟨"java/lang/AbstractStringBuilder", "getValue", "()[B"⟩ : MethodName)) (z := (⟨"java/lang/AbstractStringBuilder", "getValue", "()[B"⟩ : MethodName)) (C := "java/lang/StringBuilder") (a := sb) (argsL := []) (rest := []) hown (hw _ (List.mem_of_getElem? (i := 123) rfl)) (hw _ (List.mem_of_getElem? (i := 124) rfl)) (notFace_of_selects (args := #[]) (mvT hZ (hw _ (List.mem_of_getElem? (i := 126) rfl)))) (hw _ (List.mem_of_getElem? (i := 126) rfl)) (hw _ (List.mem_of_getElem? (i := 125) rfl)) (hw _ (List.mem_of_getElem? (i := 25) rfl)) (hw _ (List.mem_of_getElem? (i := 127) rfl)) (by decide) (rmGV l Z a0 hw [] sb d h0 n0 O0 G0) e169 E1 (by rw [hml]; rfl) (lenOf o_pd20 rfl) (has := rfl) (hst := rfl) (W := 0) (Nat.le_of_ble_eq_true rfl) (hb hby o_d20_5) (by decide) (by decide) (by decide) (by decide) fun v170 T170 h170 L170 X170 e170 q170 => ?_
  obtain ⟨rfl, N170q, rfl⟩ := q170
  have N170 := Fr.app N0 N170q
  show Go p e below T170 (mkF m 8 #[.val (.ref a1), .val (.ref sb), .val .null, .unset, .unset] [(.ref d)]) _
  refine o_astoreN (l' := #[.val (.ref a1), .val (.ref sb), .val .null, .val (.ref d), .unset]) (pc := 8) X170 hx (hb hby o_d20_8) rfl rfl ?_
  refine o_aloadN (v := (.ref sb)) (pc := 9) X170 hx (hb hby o_d20_9) rfl rfl ?_
  refine o_callV (pc := 10) X170 hx hZ (y := (⟨"java/lang/AbstractStringBuilder", "length", "()I"⟩ : MethodName)) (z := (⟨"java/lang/StringBuilder", "length", "()I"⟩ : MethodName)) (C := "java/lang/StringBuilder") (a := sb) (argsL := []) (rest := []) hown (hw _ (List.mem_of_getElem? (i := 128) rfl)) (hw _ (List.mem_of_getElem? (i := 129) rfl)) (o_nfC (a0 := #[]) (y' := (⟨"java/lang/AbstractStringBuilder", "ensureCapacityInternal", "(I)V"⟩ : MethodName)) (z := (⟨"java/lang/AbstractStringBuilder", "ensureCapacityInternal", "(I)V"⟩ : MethodName)) rfl (mvT hZ (hw _ (List.mem_of_getElem? (i := 64) rfl)))) (hw _ (List.mem_of_getElem? (i := 131) rfl)) (hw _ (List.mem_of_getElem? (i := 132) rfl)) (hw _ (List.mem_of_getElem? (i := 17) rfl)) (hw _ (List.mem_of_getElem? (i := 133) rfl)) (by decide) (rmBL l Z a0 hw [] sb k h0 n0 O0 E1 G2) e170 E1 (by rw [hml]; rfl) (lenOf o_pd12 rfl) (has := rfl) (hst := rfl) (W := 0) (Nat.le_of_ble_eq_true rfl) (hb hby o_d20_10) (by decide) (by decide) (by decide) (by decide) fun v171 T171 h171 L171 X171 e171 q171 => ?_
  obtain ⟨rfl, N171q, rfl⟩ := q171
  have N171 := Fr.app N170 N171q
  show Go p e below T171 (mkF m 13 #[.val (.ref a1), .val (.ref sb), .val .null, .val (.ref d), .unset] [(.int k)]) _
  refine o_istore (l' := #[.val (.ref a1), .val (.ref sb), .val .null, .val (.ref d), .val (.int k)]) (pc := 13) X171 hx (hb hby o_d20_13) rfl ?_
  refine o_aloadN (v := (.ref sb)) (pc := 15) X171 hx (hb hby o_d20_15) rfl rfl ?_
  refine o_callV (pc := 16) X171 hx hZ (y := (⟨"java/lang/AbstractStringBuilder", "isLatin1", "()Z"⟩ : MethodName)) (z := (⟨"java/lang/AbstractStringBuilder", "isLatin1", "()Z"⟩ : MethodName)) (C := "java/lang/StringBuilder") (a := sb) (argsL := []) (rest := []) hown (hw _ (List.mem_of_getElem? (i := 136) rfl)) (hw _ (List.mem_of_getElem? (i := 137) rfl)) (notFace_of_selects (args := #[]) (mvT hZ (hw _ (List.mem_of_getElem? (i := 139) rfl)))) (hw _ (List.mem_of_getElem? (i := 139) rfl)) (hw _ (List.mem_of_getElem? (i := 138) rfl)) (hw _ (List.mem_of_getElem? (i := 25) rfl)) (hw _ (List.mem_of_getElem? (i := 140) rfl)) (by decide) (rmIL l Z a0 hw [] sb cs h0 n0 O0 G1 SC hcs) e171 E1 (by rw [hml]; rfl) (lenOf o_pd16 rfl) (has := rfl) (hst := rfl) (W := 0) (Nat.le_of_ble_eq_true rfl) (hb hby o_d20_16) (by decide) (by decide) (by decide) (by decide) fun v172 T172 h172 L172 X172 e172 q172 => ?_
  obtain ⟨rfl, N172q, rfl⟩ := q172
  have N172 := Fr.app N171 N172q
  show Go p e below T172 (mkF m 19 #[.val (.ref a1), .val (.ref sb), .val .null, .val (.ref d), .val (.int k)] [(.int (1 : Int32))]) _
  refine o_ifNo (pc := 19) X172 hx (hb hby o_d20_19) ((if0 _ _).trans (feq (by decide : ¬ ((1 : Int32) = (0 : Int32)))).1) ?_
  refine o_aloadN (v := (.ref a1)) (pc := 22) X172 hx (hb hby o_d20_22) rfl rfl ?_
  refine o_iconst (pc := 23) X172 hx (0 : Int32) (hb hby o_d20_23) rfl ?_
  refine o_putFN (pc := 24) X172 hx hZ hown (hw _ (List.mem_of_getElem? (i := 58) rfl)) Via.refl e172 Gc Es (Or.inr ⟨(hw _ (List.mem_of_getElem? (i := 6) rfl)), rfl, hnm⟩) (hw _ (List.mem_of_getElem? (i := 3) rfl)) (ty := .byte) (v' := (.int (0 : Int32))) (by decide) (by decide) (by decide) (hb hby o_d20_24) fun T173 h173 X173 e173 W173 => ?_
  have F173 := Fld.same W173 Gc
  have N173 := Fr.snoc X173 N172 g1
  have O174 := O0.wr W173 g1
  have K174 : Keep h0 h173 [a1] := (Keep.refl h0 [a1]).wr W173 (Or.inl (List.mem_of_getElem? (i := 0) rfl))
  refine o_aloadN (v := (.ref a1)) (pc := 27) X173 hx (hb hby o_d20_27) rfl rfl ?_
  refine o_aloadN (v := (.ref d)) (pc := 28) X173 hx (hb hby o_d20_28) rfl rfl ?_
  refine o_iconst (pc := 29) X173 hx (0 : Int32) (hb hby o_d20_29) rfl ?_
  refine o_iload (v := k) (pc := 30) X173 hx (hb hby o_d20_30) rfl ?_
  refine o_callS (pc := 32) X173 hx hZ (y := (⟨"java/util/Arrays", "copyOfRange", "([BII)[B"⟩ : MethodName)) (argsL := [(.ref d), (.int (0 : Int32)), (.int k)]) (rest := [(.ref a1)]) hown (hw _ (List.mem_of_getElem? (i := 141) rfl)) (hw _ (List.mem_of_getElem? (i := 142) rfl)) (hw _ (List.mem_of_getElem? (i := 103) rfl)) (hw _ (List.mem_of_getElem? (i := 143) rfl)) (by decide) (rmCRA l Z a0 hw [] d k h173 n0 O174 (VD.other W173 n2) (ED.wr W173) hk) e173 (by rw [hml]; rfl) (lenOf o_pd19 rfl) (has := rfl) (hst := rfl) (W := 1) (Nat.le_of_ble_eq_true rfl) (hb hby o_d20_32) (by decide) (by decide) (by decide) (by decide) fun v175 T175 h175 L175 X175 e175 q175 => ?_
  obtain ⟨b175, rfl, g175, N175q, E175, V175⟩ := q175
  have N175 := Fr.app N173 N175q
  have O176 := O174.ext E175
  have K176 : Keep h0 h175 [a1] := K174.ext E175
  show Go p e below T175 (mkF m 35 #[.val (.ref a1), .val (.ref sb), .val .null, .val (.ref d), .val (.int k)] [(.ref b175), (.ref a1)]) _
  refine o_putF (pc := 35) X175 hx hZ hown (host := "") (Or.inl (hw _ (List.mem_of_getElem? (i := 51) rfl))) Via.refl e175 ((Gv.other W173 (Or.inr (slot_ne (C := "java/lang/String") (Or.inr (hw _ (List.mem_of_getElem? (i := 5) rfl))) (Or.inr (hw _ (List.mem_of_getElem? (i := 6) rfl))) (by decide) (t := (.array .byte)) (t' := .byte) (by decide) (by decide)))).ext E175) ((Es.wr W173).ext E175) (Or.inr ⟨(hw _ (List.mem_of_getElem? (i := 5) rfl)), rfl, hnm⟩) (hw _ (List.mem_of_getElem? (i := 3) rfl)) (ty := (.array .byte)) (by decide) rfl rfl (hb hby o_d20_35) fun T177 h177 X177 e177 W177 => ?_
  have F177 := Fld.same W177 ((Gv.other W173 (Or.inr (slot_ne (C := "java/lang/String") (Or.inr (hw _ (List.mem_of_getElem? (i := 5) rfl))) (Or.inr (hw _ (List.mem_of_getElem? (i := 6) rfl))) (by decide) (t := (.array .byte)) (t' := .byte) (by decide) (by decide)))).ext E175)
  have N177 := Fr.snoc X177 N175 g1
  have O178 := O176.wr W177 g1
  have K178 : Keep h0 h177 [a1] := K176.wr W177 (Or.inl (List.mem_of_getElem? (i := 0) rfl))
  refine o_goto (pc := 38) X177 hx 97 (hb hby o_d20_38) (by decide) (by decide) ?_
  exact o_ret0 (pc := 97) X177 hx hret hlk (hb hby o_d20_97) e177 (by decide) (by decide) ⟨rfl, N177, K178⟩
theorem o_d19_0 : decode jdk_42_method_53_code 0 = .ok (.aload_n 0, 1) := by decide +kernel
theorem o_d19_1 : decode jdk_42_method_53_code 1 = .ok (.aload_n 1, 1) := by decide +kernel
theorem o_d19_2 : decode jdk_42_method_53_code 2 = .ok (.aconst_null, 1) := by decide +kernel
theorem o_d19_3 : decode jdk_42_method_53_code 3 = .ok (.invokespecial 489, 3) := by decide +kernel
theorem o_pd21 : parseMethodDescriptor "(Ljava/lang/AbstractStringBuilder;Ljava/lang/Void;)V" = some ⟨[(.object "java/lang/AbstractStringBuilder"), (.object "java/lang/Void")], none⟩ := by decide +kernel
theorem o_d19_6 : decode jdk_42_method_53_code 6 = .ok (.return_, 1) := by decide +kernel
set_option maxRecDepth 65536 in
set_option maxHeartbeats 40000000 in
theorem rmS2A (l : Launch) (Z : State) (a0 : Array Value) (hw : ∀ d ∈ tables_1, d.before a0 Z = true) (ws : List Jvm.Cond) (a1 sb d : Addr) (k : Int32) (cs : Int32) (h0 : Heap) (n0 : Nat) (O0 : Old Z n0 h0) (E1 : Exa Z h0 sb "java/lang/StringBuilder") (G0 : Fld Z h0 sb "java/lang/AbstractStringBuilder" "value" "[B" (.ref d)) (G1 : Fld Z h0 sb "java/lang/AbstractStringBuilder" "coder" "B" (.int (0 : Int32))) (G2 : Fld Z h0 sb "java/lang/AbstractStringBuilder" "count" "I" (.int k)) (VD : Byt Z h0 d (16 : Int32)) (ED : Exa Z h0 d "[B") (hne : sb ≠ d) (Es : Exa Z h0 a1 "java/lang/String") (Gc : Fld Z h0 a1 "java/lang/String" "coder" "B" (.int (0 : Int32))) (Gv : Fld Z h0 a1 "java/lang/String" "value" "[B" .null) (g1 : n0 ≤ a1) (n1 : sb ≠ a1) (n2 : d ≠ a1) (SC : Sta Z Z.heap "java/lang/String" "COMPACT_STRINGS" "Z" (.int cs)) (hcs : ¬ cs = (0 : Int32)) (hk : k ∈ ([13, 14, 15, 16] : List Int32)) :
    Ct l Z (⟨"java/lang/String", "<init>", "(Ljava/lang/StringBuilder;)V"⟩ : MethodName) jdk_42_method_53_code 2 none ({ frames := 4, cells := 1, slots := 30, locals := 87 } : Room) ws #[(.ref a1), (.ref sb)] h0 (fun v h L => v = none ∧ Fr n0 L ∧ Keep h0 h [a1]) := by
  refine o_body (plainFor_of_name o_pn_java_lang_String) ?_
  intro p e s m below meth c s₁ X0 hx hby hml hret hlk hown hnm hZ e0
  have N0 := Fr.nil n0
  refine o_top (g' := (mkF m 0 #[.val (.ref a1), .val (.ref sb)] [])) (by first | (simp [entryFrame, mkF, argsToLocals, Value.category]; done) | rfl) ?_
  refine o_aloadN (v := (.ref a1)) (pc := 0) X0 hx (hb hby o_d19_0) rfl rfl ?_
  refine o_aloadN (v := (.ref sb)) (pc := 1) X0 hx (hb hby o_d19_1) rfl rfl ?_
  refine o_aconst_null (pc := 2) X0 hx (hb hby o_d19_2) ?_
  refine o_callN (pc := 3) X0 hx hZ (y := (⟨"java/lang/String", "<init>", "(Ljava/lang/AbstractStringBuilder;Ljava/lang/Void;)V"⟩ : MethodName)) (a := a1) (argsL := [(.ref sb), .null]) (rest := []) rfl hown (hw _ (List.mem_of_getElem? (i := 119) rfl)) (hw _ (List.mem_of_getElem? (i := 120) rfl)) (hw _ (List.mem_of_getElem? (i := 2) rfl)) (hw _ (List.mem_of_getElem? (i := 121) rfl)) (by decide) (rmS1A l Z a0 hw [] a1 sb d k cs h0 n0 O0 E1 G0 G1 G2 VD ED hne Es Gc Gv g1 n1 n2 SC hcs hk) e0 (by rw [hml]; rfl) (lenOf o_pd21 rfl) (has := rfl) (hst := rfl) (W := 0) (Nat.le_of_ble_eq_true rfl) (hb hby o_d19_3) (by decide) (by decide) (by decide) (by decide) fun v179 T179 h179 L179 X179 e179 q179 => ?_
  obtain ⟨rfl, N179q, K179⟩ := q179
  have N179 := Fr.app N0 N179q
  have O180 := O0.keep K179 (allS g1 all0)
  have K180 : Keep h0 h179 [a1] := (Keep.refl h0 [a1]).trans K179 (allS (Or.inl (List.mem_of_getElem? (i := 0) rfl)) all0)
  show Go p e below T179 (mkF m 6 #[.val (.ref a1), .val (.ref sb)] []) _
  exact o_ret0 (pc := 6) X179 hx hret hlk (hb hby o_d19_6) e179 (by decide) (by decide) ⟨rfl, N179, K180⟩
theorem o_d18_0 : decode jdk_67_method_42_code 0 = .ok (.new 18, 3) := by decide +kernel
theorem o_d18_3 : decode jdk_67_method_42_code 3 = .ok (.dup, 1) := by decide +kernel
theorem o_d18_4 : decode jdk_67_method_42_code 4 = .ok (.aload_n 0, 1) := by decide +kernel
theorem o_d18_5 : decode jdk_67_method_42_code 5 = .ok (.invokespecial 137, 3) := by decide +kernel
theorem o_pd22 : parseMethodDescriptor "(Ljava/lang/StringBuilder;)V" = some ⟨[(.object "java/lang/StringBuilder")], none⟩ := by decide +kernel
theorem o_d18_8 : decode jdk_67_method_42_code 8 = .ok (.areturn, 1) := by decide +kernel
set_option maxRecDepth 65536 in
set_option maxHeartbeats 40000000 in
theorem rmTSA (l : Launch) (Z : State) (a0 : Array Value) (hw : ∀ d ∈ tables_1, d.before a0 Z = true) (ws : List Jvm.Cond) (sb d : Addr) (k : Int32) (cs : Int32) (h0 : Heap) (n0 : Nat) (O0 : Old Z n0 h0) (E1 : Exa Z h0 sb "java/lang/StringBuilder") (G0 : Fld Z h0 sb "java/lang/AbstractStringBuilder" "value" "[B" (.ref d)) (G1 : Fld Z h0 sb "java/lang/AbstractStringBuilder" "coder" "B" (.int (0 : Int32))) (G2 : Fld Z h0 sb "java/lang/AbstractStringBuilder" "count" "I" (.int k)) (VD : Byt Z h0 d (16 : Int32)) (ED : Exa Z h0 d "[B") (hne : sb ≠ d) (SC : Sta Z Z.heap "java/lang/String" "COMPACT_STRINGS" "Z" (.int cs)) (hcs : ¬ cs = (0 : Int32)) (hk : k ∈ ([13, 14, 15, 16] : List Int32)) :
    Ct l Z (⟨"java/lang/StringBuilder", "toString", "()Ljava/lang/String;"⟩ : MethodName) jdk_67_method_42_code 1 (some (.object "java/lang/String")) ({ frames := 5, cells := 2, slots := 34, locals := 101 } : Room) ws #[(.ref sb)] h0 (fun v h L => ∃ b, v = some (.ref b) ∧ h0.size ≤ b ∧ Fr n0 L ∧ Ext h0 h) := by
  refine o_body (plainFor_of_name o_pn_java_lang_StringBuilder) ?_
  intro p e s m below meth c s₁ X0 hx hby hml hret hlk hown hnm hZ e0
  have N0 := Fr.nil n0
  refine o_top (g' := (mkF m 0 #[.val (.ref sb)] [])) (by first | (simp [entryFrame, mkF, argsToLocals, Value.category]; done) | rfl) ?_
  refine o_new (pc := 0) X0 hx hZ hown (hw _ (List.mem_of_getElem? (i := 114) rfl)) (hw _ (List.mem_of_getElem? (i := 3) rfl)) (hw _ (List.mem_of_getElem? (i := 2) rfl)) e0 (hb hby o_d18_0) (by decide) (by decide) fun T181 h181 b181 X181 e181 g181 E181 A181 D181 U181 => ?_
  have O182 := O0.ext E181
  have K182 : Keep h0 h181 [] := (Keep.refl h0 []).ext E181
  have F181_value : Fld Z h181 b181 "java/lang/String" "value" "[B" .null := D181 (Or.inr (hw _ (List.mem_of_getElem? (i := 5) rfl))) (ty := (.array .byte)) (by decide)
  have F181_coder : Fld Z h181 b181 "java/lang/String" "coder" "B" (.int (0 : Int32)) := D181 (Or.inr (hw _ (List.mem_of_getElem? (i := 6) rfl))) (ty := .byte) (by decide)
  refine o_dup (pc := 3) X181 hx (hb hby o_d18_3) rfl ?_
  refine o_aloadN (v := (.ref sb)) (pc := 4) X181 hx (hb hby o_d18_4) rfl rfl ?_
  refine o_callN (pc := 5) X181 hx hZ (y := (⟨"java/lang/String", "<init>", "(Ljava/lang/StringBuilder;)V"⟩ : MethodName)) (a := b181) (argsL := [(.ref sb)]) (rest := [(.ref b181)]) rfl hown (hw _ (List.mem_of_getElem? (i := 115) rfl)) (hw _ (List.mem_of_getElem? (i := 116) rfl)) (hw _ (List.mem_of_getElem? (i := 2) rfl)) (hw _ (List.mem_of_getElem? (i := 118) rfl)) (by decide) (rmS2A l Z a0 hw [] b181 sb d k cs h181 n0 O182 (E1.ext E181) (G0.ext E181) (G1.ext E181) (G2.ext E181) (VD.ext E181) (ED.ext E181) hne A181 F181_coder F181_value (Nat.le_trans (o_n0 O0) g181) (Nat.ne_of_lt (Nat.lt_of_lt_of_le E1.lt g181)) (Nat.ne_of_lt (Nat.lt_of_lt_of_le VD.lt g181)) SC hcs hk) e181 (by rw [hml]; rfl) (lenOf o_pd22 rfl) (has := rfl) (hst := rfl) (W := 1) (Nat.le_of_ble_eq_true rfl) (hb hby o_d18_5) (by decide) (by decide) (by decide) (by decide) fun v183 T183 h183 L183 X183 e183 q183 => ?_
  obtain ⟨rfl, N183q, K183⟩ := q183
  have N183 := Fr.app N0 N183q
  have O184 := O182.keep K183 (allS (Nat.le_trans (o_n0 O0) g181) all0)
  have K184 : Keep h0 h183 [] := K182.trans K183 (allS (Or.inr (Nat.le_trans (Keep.refl h0 []).1 g181)) all0)
  show Go p e below T183 (mkF m 8 #[.val (.ref sb)] [(.ref b181)]) _
  exact o_retA (pc := 8) X183 hx hret hlk rfl rfl (hb hby o_d18_8) e183 (by decide) (by decide) ⟨b181, rfl, (Nat.le_trans (Keep.refl h0 []).1 g181), N183, o_keep0 K184⟩
set_option maxRecDepth 65536 in
set_option maxHeartbeats 40000000 in
theorem rmCBB (l : Launch) (Z : State) (a0 : Array Value) (hw : ∀ d ∈ tables_1, d.before a0 Z = true) (ws : List Jvm.Cond) (d : Addr) (k : Int32) (h0 : Heap) (n0 : Nat) (O0 : Old Z n0 h0) (VD : Byt Z h0 d (34 : Int32)) (hk : k ∈ ([17, 18, 19, 20, 21, 22, 23, 24, 25, 26, 27, 28, 29, 30] : List Int32)) :
    Ct l Z (⟨"java/util/Arrays", "copyOfRangeByte", "([BII)[B"⟩ : MethodName) jdk_65_method_133_code 5 (some (.array .byte)) ({ frames := 1, cells := 1, slots := 30, locals := 40 } : Room) ws #[(.ref d), (.int (0 : Int32)), (.int k)] h0 (fun v h L => ∃ b, v = some (.ref b) ∧ h0.size ≤ b ∧ Fr n0 L ∧ Ext h0 h ∧ Byt Z h b k) := by
  refine o_body (plainFor_of_name o_pn_java_util_Arrays) ?_
  intro p e s m below meth c s₁ X0 hx hby hml hret hlk hown hnm hZ e0
  have N0 := Fr.nil n0
  refine o_top (g' := (mkF m 0 #[.val (.ref d), .val (.int (0 : Int32)), .val (.int k), .unset, .unset] [])) (by first | (simp [entryFrame, mkF, argsToLocals, Value.category]; done) | rfl) ?_
  refine o_iloadN (v := (0 : Int32)) (pc := 0) X0 hx (hb hby o_d26_0) rfl ?_
  refine o_iloadN (v := k) (pc := 1) X0 hx (hb hby o_d26_1) rfl ?_
  refine o_callS (pc := 2) X0 hx hZ (y := (⟨"java/util/Arrays", "checkLength", "(II)V"⟩ : MethodName)) (argsL := [(.int (0 : Int32)), (.int k)]) (rest := []) hown (hw _ (List.mem_of_getElem? (i := 147) rfl)) (hw _ (List.mem_of_getElem? (i := 148) rfl)) (hw _ (List.mem_of_getElem? (i := 103) rfl)) (hw _ (List.mem_of_getElem? (i := 149) rfl)) (by decide) (rmCL l Z a0 hw [] k h0 n0 O0 (o_all (P := fun k => ¬ k < (0 : Int32)) hk (by decide))) e0 (by rw [hml]; rfl) (lenOf o_pd18 rfl) (has := rfl) (hst := rfl) (W := 0) (Nat.le_of_ble_eq_true rfl) (hb hby o_d26_2) (by decide) (by decide) (by decide) (by decide) fun v185 T185 h185 L185 X185 e185 q185 => ?_
  obtain ⟨rfl, N185q, rfl⟩ := q185
  have N185 := Fr.app N0 N185q
  show Go p e below T185 (mkF m 5 #[.val (.ref d), .val (.int (0 : Int32)), .val (.int k), .unset, .unset] []) _
  refine o_iloadN (v := k) (pc := 5) X185 hx (hb hby o_d26_5) rfl ?_
  refine o_iloadN (v := (0 : Int32)) (pc := 6) X185 hx (hb hby o_d26_6) rfl ?_
  refine o_isub (pc := 7) X185 hx (hb hby o_d26_7) ?_
  rw [Int32.sub_zero]
  refine o_istoreN (l' := #[.val (.ref d), .val (.int (0 : Int32)), .val (.int k), .val (.int k), .unset]) (pc := 8) X185 hx (hb hby o_d26_8) rfl ?_
  refine o_iloadN (v := k) (pc := 9) X185 hx (hb hby o_d26_9) rfl ?_
  refine o_newB (pc := 10) X185 hx hZ (hw _ (List.mem_of_getElem? (i := 4) rfl)) e185 (hb hby o_d26_10) (o_all (P := fun k => ¬ k < 0) hk (by decide)) 30 (o_all (P := fun k => k.toNatClampNeg ≤ 30) hk (by decide)) (by decide) (by decide) (by decide) fun T186 h186 b186 X186 e186 g186 E186 V186 Y186 => ?_
  have O187 := O0.ext E186
  have K187 : Keep h0 h186 [] := (Keep.refl h0 []).ext E186
  refine o_astore (l' := #[.val (.ref d), .val (.int (0 : Int32)), .val (.int k), .val (.int k), .val (.ref b186)]) (pc := 12) X186 hx (hb hby o_d26_12) rfl rfl ?_
  refine o_aloadN (v := (.ref d)) (pc := 14) X186 hx (hb hby o_d26_14) rfl rfl ?_
  refine o_iloadN (v := (0 : Int32)) (pc := 15) X186 hx (hb hby o_d26_15) rfl ?_
  refine o_aload (v := (.ref b186)) (pc := 16) X186 hx (hb hby o_d26_16) rfl rfl ?_
  refine o_iconst (pc := 18) X186 hx (0 : Int32) (hb hby o_d26_18) rfl ?_
  refine o_aloadN (v := (.ref d)) (pc := 19) X186 hx (hb hby o_d26_19) rfl rfl ?_
  refine o_lenB (pc := 20) X186 hx hZ e186 (VD.ext E186) (hb hby o_d26_20) ?_
  refine o_iloadN (v := (0 : Int32)) (pc := 21) X186 hx (hb hby o_d26_21) rfl ?_
  refine o_isub (pc := 22) X186 hx (hb hby o_d26_22) ?_
  rw [show ((34 : Int32) - (0 : Int32)) = (34 : Int32) from rfl]
  refine o_iloadN (v := k) (pc := 23) X186 hx (hb hby o_d26_23) rfl ?_
  refine o_callS (pc := 24) X186 hx hZ (y := (⟨"java/lang/Math", "min", "(II)I"⟩ : MethodName)) (argsL := [(.int (34 : Int32)), (.int k)]) (rest := [(.int (0 : Int32)), (.ref b186), (.int (0 : Int32)), (.ref d)]) hown (hw _ (List.mem_of_getElem? (i := 105) rfl)) (hw _ (List.mem_of_getElem? (i := 106) rfl)) (hw _ (List.mem_of_getElem? (i := 97) rfl)) (hw _ (List.mem_of_getElem? (i := 107) rfl)) (by decide) (rm_min l Z a0 hw [] (34 : Int32) k h186 n0 O187) e186 (by rw [hml]; rfl) (lenOf o_pd6 rfl) (has := rfl) (hst := rfl) (W := 4) (Nat.le_of_ble_eq_true rfl) (hb hby o_d26_24) (by decide) (by decide) (by decide) (by decide) fun v188 T188 h188 L188 X188 e188 q188 => ?_
  obtain ⟨rfl, N188q, rfl⟩ := q188
  have N188 := Fr.app N185 N188q
  rw [if_pos (o_all (P := fun k => k < (34 : Int32)) hk (by decide))]
  show Go p e below T188 (mkF m 27 #[.val (.ref d), .val (.int (0 : Int32)), .val (.int k), .val (.int k), .val (.ref b186)] [(.int k), (.int (0 : Int32)), (.ref b186), (.int (0 : Int32)), (.ref d)]) _
  refine o_cpB (pc := 27) X188 hx hZ hown (hw _ (List.mem_of_getElem? (i := 108) rfl)) (hw _ (List.mem_of_getElem? (i := 85) rfl)) (hw _ (List.mem_of_getElem? (i := 83) rfl)) (hw _ (List.mem_of_getElem? (i := 84) rfl)) e188 (VD.ext E186) V186 (by decide) (by decide) (o_all (P := fun k => ¬ k < 0) hk (by decide)) (o_all (P := fun k => (0 : Int32).toNatClampNeg + k.toNatClampNeg ≤ (34 : Int32).toNatClampNeg) hk (by decide)) (o_all (P := fun k => (0 : Int32).toNatClampNeg + k.toNatClampNeg ≤ k.toNatClampNeg) hk (by decide)) N188 (Nat.le_trans (o_n0 O0) g186) (by rw [hml]; rfl) (hb hby o_d26_27) (by decide) (W := 0) (Nat.le_of_ble_eq_true rfl) (by decide) fun T189 h189 L189 X189 e189 N189 K189 V189 => ?_
  have O190 := O187.keep K189 (allS (Nat.le_trans (o_n0 O0) g186) all0)
  have K190 : Keep h0 h189 [] := K187.trans K189 (allS (Or.inr (Nat.le_trans (Keep.refl h0 []).1 g186)) all0)
  refine o_aload (v := (.ref b186)) (pc := 30) X189 hx (hb hby o_d26_30) rfl rfl ?_
  exact o_retA (pc := 32) X189 hx hret hlk rfl rfl (hb hby o_d26_32) e189 (by decide) (by decide) ⟨b186, rfl, (Nat.le_trans (Keep.refl h0 []).1 g186), N189, o_keep0 K190, V189⟩
set_option maxRecDepth 65536 in
set_option maxHeartbeats 40000000 in
theorem rmCRB (l : Launch) (Z : State) (a0 : Array Value) (hw : ∀ d ∈ tables_1, d.before a0 Z = true) (ws : List Jvm.Cond) (d : Addr) (k : Int32) (h0 : Heap) (n0 : Nat) (O0 : Old Z n0 h0) (VD : Byt Z h0 d (34 : Int32)) (ED : Exa Z h0 d "[B") (hk : k ∈ ([17, 18, 19, 20, 21, 22, 23, 24, 25, 26, 27, 28, 29, 30] : List Int32)) :
    Ct l Z (⟨"java/util/Arrays", "copyOfRange", "([BII)[B"⟩ : MethodName) jdk_65_method_132_code 3 (some (.array .byte)) ({ frames := 2, cells := 1, slots := 30, locals := 56 } : Room) ws #[(.ref d), (.int (0 : Int32)), (.int k)] h0 (fun v h L => ∃ b, v = some (.ref b) ∧ h0.size ≤ b ∧ Fr n0 L ∧ Ext h0 h ∧ Byt Z h b k) := by
  refine o_body (plainFor_of_name o_pn_java_util_Arrays) ?_
  intro p e s m below meth c s₁ X0 hx hby hml hret hlk hown hnm hZ e0
  have N0 := Fr.nil n0
  refine o_top (g' := (mkF m 0 #[.val (.ref d), .val (.int (0 : Int32)), .val (.int k)] [])) (by first | (simp [entryFrame, mkF, argsToLocals, Value.category]; done) | rfl) ?_
  refine o_iloadN (v := (0 : Int32)) (pc := 0) X0 hx (hb hby o_d25_0) rfl ?_
  refine o_ifNo (pc := 1) X0 hx (hb hby o_d25_1) ((if0 _ _).trans (teq (by decide : (0 : Int32) = (0 : Int32))).2) ?_
  refine o_iloadN (v := k) (pc := 4) X0 hx (hb hby o_d25_4) rfl ?_
  refine o_aloadN (v := (.ref d)) (pc := 5) X0 hx (hb hby o_d25_5) rfl rfl ?_
  refine o_lenB (pc := 6) X0 hx hZ e0 VD (hb hby o_d25_6) ?_
  refine o_icmpNo (pc := 7) X0 hx (hb hby o_d25_7) (feq (o_all (P := fun k => ¬ k = (34 : Int32)) hk (by decide))).1 ?_
  refine o_aloadN (v := (.ref d)) (pc := 10) X0 hx (hb hby o_d25_10) rfl rfl ?_
  refine o_iloadN (v := (0 : Int32)) (pc := 11) X0 hx (hb hby o_d25_11) rfl ?_
  refine o_iloadN (v := k) (pc := 12) X0 hx (hb hby o_d25_12) rfl ?_
  refine o_callS (pc := 13) X0 hx hZ (y := (⟨"java/util/Arrays", "copyOfRangeByte", "([BII)[B"⟩ : MethodName)) (argsL := [(.ref d), (.int (0 : Int32)), (.int k)]) (rest := []) hown (hw _ (List.mem_of_getElem? (i := 144) rfl)) (hw _ (List.mem_of_getElem? (i := 145) rfl)) (hw _ (List.mem_of_getElem? (i := 103) rfl)) (hw _ (List.mem_of_getElem? (i := 146) rfl)) (by decide) (rmCBB l Z a0 hw [] d k h0 n0 O0 VD hk) e0 (by rw [hml]; rfl) (lenOf o_pd19 rfl) (has := rfl) (hst := rfl) (W := 0) (Nat.le_of_ble_eq_true rfl) (hb hby o_d25_13) (by decide) (by decide) (by decide) (by decide) fun v191 T191 h191 L191 X191 e191 q191 => ?_
  obtain ⟨b191, rfl, g191, N191q, E191, V191⟩ := q191
  have N191 := Fr.app N0 N191q
  have O192 := O0.ext E191
  have K192 : Keep h0 h191 [] := (Keep.refl h0 []).ext E191
  show Go p e below T191 (mkF m 16 #[.val (.ref d), .val (.int (0 : Int32)), .val (.int k)] [(.ref b191)]) _
  exact o_retA (pc := 16) X191 hx hret hlk rfl rfl (hb hby o_d25_16) e191 (by decide) (by decide) ⟨b191, rfl, (Nat.le_trans (Keep.refl h0 []).1 g191), N191, o_keep0 K192, V191⟩
set_option maxRecDepth 65536 in
set_option maxHeartbeats 40000000 in
theorem rmS1B (l : Launch) (Z : State) (a0 : Array Value) (hw : ∀ d ∈ tables_1, d.before a0 Z = true) (ws : List Jvm.Cond) (a1 sb d : Addr) (k : Int32) (cs : Int32) (h0 : Heap) (n0 : Nat) (O0 : Old Z n0 h0) (E1 : Exa Z h0 sb "java/lang/StringBuilder") (G0 : Fld Z h0 sb "java/lang/AbstractStringBuilder" "value" "[B" (.ref d)) (G1 : Fld Z h0 sb "java/lang/AbstractStringBuilder" "coder" "B" (.int (0 : Int32))) (G2 : Fld Z h0 sb "java/lang/AbstractStringBuilder" "count" "I" (.int k)) (VD : Byt Z h0 d (34 : Int32)) (ED : Exa Z h0 d "[B") (hne : sb ≠ d) (Es : Exa Z h0 a1 "java/lang/String") (Gc : Fld Z h0 a1 "java/lang/String" "coder" "B" (.int (0 : Int32))) (Gv : Fld Z h0 a1 "java/lang/String" "value" "[B" .null) (g1 : n0 ≤ a1) (n1 : sb ≠ a1) (n2 : d ≠ a1) (SC : Sta Z Z.heap "java/lang/String" "COMPACT_STRINGS" "Z" (.int cs)) (hcs : ¬ cs = (0 : Int32)) (hk : k ∈ ([17, 18, 19, 20, 21, 22, 23, 24, 25, 26, 27, 28, 29, 30] : List Int32)) :
    Ct l Z (⟨"java/lang/String", "<init>", "(Ljava/lang/AbstractStringBuilder;Ljava/lang/Void;)V"⟩ : MethodName) jdk_42_method_150_code 5 none ({ frames := 3, cells := 1, slots := 30, locals := 71 } : Room) ws #[(.ref a1), (.ref sb), .null] h0 (fun v h L => v = none ∧ Fr n0 L ∧ Keep h0 h [a1]) := by
  refine o_body (plainFor_of_name o_pn_java_lang_String) ?_
  intro p e s m below meth c s₁ X0 hx hby hml hret hlk hown hnm hZ e0
  have N0 := Fr.nil n0
  refine o_top (g' := (mkF m 0 #[.val (.ref a1), .val (.ref sb), .val .null, .unset, .unset] [])) (by first | (simp [entryFrame, mkF, argsToLocals, Value.category]; done) | rfl) ?_
  refine o_aloadN (v := (.ref a1)) (pc := 0) X0 hx (hb hby o_d20_0) rfl rfl ?_
  refine o_initO (pc := 1) X0 hx hZ hown (hw _ (List.mem_of_getElem? (i := 122) rfl)) (hw _ (List.mem_of_getElem? (i := 28) rfl)) (hw _ (List.mem_of_getElem? (i := 29) rfl)) e0 (by rw [hml]; rfl) (hb hby o_d20_1) (by decide) (W := 0) (Nat.le_of_ble_eq_true rfl) (by decide) fun T193 X193 e193 => ?_
  refine o_aloadN (v := (.ref sb)) (pc := 4) X193 hx (hb hby o_d20_4) rfl rfl ?_
  refine o_callV (pc := 5) X193 hx hZ (y := (⟨"java/lang/AbstractStringBuilder", "getValue", "()[B"⟩ : MethodName)) (z := (⟨"java/lang/AbstractStringBuilder", "getValue", "()[B"⟩ : MethodName)) (C := "java/lang/StringBuilder") (a := sb) (argsL := []) (rest := []) hown (hw _ (List.mem_of_getElem? (i := 123) rfl)) (hw _ (List.mem_of_getElem? (i := 124) rfl)) (notFace_of_selects (args := #[]) (mvT hZ (hw _ (List.mem_of_getElem? (i := 126) rfl)))) (hw _ (List.mem_of_getElem? (i := 126) rfl)) (hw _ (List.mem_of_getElem? (i := 125) rfl)) (hw _ (List.mem_of_getElem? (i := 25) rfl)) (hw _ (List.mem_of_getElem? (i := 127) rfl)) (by decide) (rmGV l Z a0 hw [] sb d h0 n0 O0 G0) e193 E1 (by rw [hml]; rfl) (lenOf o_pd20 rfl) (has := rfl) (hst := rfl) (W := 0) (Nat.le_of_ble_eq_true rfl) (hb hby o_d20_5) (by decide) (by decide) (by decide) (by decide) fun v194 T194 h194 L194 X194 e194 q194 => ?_
  obtain ⟨rfl, N194q, rfl⟩ := q194
  have N194 := Fr.app N0 N194q
  show Go p e below T194 (mkF m 8 #[.val (.ref a1), .val (.ref sb), .val .null, .unset, .unset] [(.ref d)]) _
  refine o_astoreN (l' := #[.val (.ref a1), .val (.ref sb), .val .null, .val (.ref d), .unset]) (pc := 8) X194 hx (hb hby o_d20_8) rfl rfl ?_
  refine o_aloadN (v := (.ref sb)) (pc := 9) X194 hx (hb hby o_d20_9) rfl rfl ?_
  refine o_callV (pc := 10) X194 hx hZ (y := (⟨"java/lang/AbstractStringBuilder", "length", "()I"⟩ : MethodName)) (z := (⟨"java/lang/StringBuilder", "length", "()I"⟩ : MethodName)) (C := "java/lang/StringBuilder") (a := sb) (argsL := []) (rest := []) hown (hw _ (List.mem_of_getElem? (i := 128) rfl)) (hw _ (List.mem_of_getElem? (i := 129) rfl)) (o_nfC (a0 := #[]) (y' := (⟨"java/lang/AbstractStringBuilder", "ensureCapacityInternal", "(I)V"⟩ : MethodName)) (z := (⟨"java/lang/AbstractStringBuilder", "ensureCapacityInternal", "(I)V"⟩ : MethodName)) rfl (mvT hZ (hw _ (List.mem_of_getElem? (i := 64) rfl)))) (hw _ (List.mem_of_getElem? (i := 131) rfl)) (hw _ (List.mem_of_getElem? (i := 132) rfl)) (hw _ (List.mem_of_getElem? (i := 17) rfl)) (hw _ (List.mem_of_getElem? (i := 133) rfl)) (by decide) (rmBL l Z a0 hw [] sb k h0 n0 O0 E1 G2) e194 E1 (by rw [hml]; rfl) (lenOf o_pd12 rfl) (has := rfl) (hst := rfl) (W := 0) (Nat.le_of_ble_eq_true rfl) (hb hby o_d20_10) (by decide) (by decide) (by decide) (by decide) fun v195 T195 h195 L195 X195 e195 q195 => ?_
  obtain ⟨rfl, N195q, rfl⟩ := q195
  have N195 := Fr.app N194 N195q
  show Go p e below T195 (mkF m 13 #[.val (.ref a1), .val (.ref sb), .val .null, .val (.ref d), .unset] [(.int k)]) _
  refine o_istore (l' := #[.val (.ref a1), .val (.ref sb), .val .null, .val (.ref d), .val (.int k)]) (pc := 13) X195 hx (hb hby o_d20_13) rfl ?_
  refine o_aloadN (v := (.ref sb)) (pc := 15) X195 hx (hb hby o_d20_15) rfl rfl ?_
  refine o_callV (pc := 16) X195 hx hZ (y := (⟨"java/lang/AbstractStringBuilder", "isLatin1", "()Z"⟩ : MethodName)) (z := (⟨"java/lang/AbstractStringBuilder", "isLatin1", "()Z"⟩ : MethodName)) (C := "java/lang/StringBuilder") (a := sb) (argsL := []) (rest := []) hown (hw _ (List.mem_of_getElem? (i := 136) rfl)) (hw _ (List.mem_of_getElem? (i := 137) rfl)) (notFace_of_selects (args := #[]) (mvT hZ (hw _ (List.mem_of_getElem? (i := 139) rfl)))) (hw _ (List.mem_of_getElem? (i := 139) rfl)) (hw _ (List.mem_of_getElem? (i := 138) rfl)) (hw _ (List.mem_of_getElem? (i := 25) rfl)) (hw _ (List.mem_of_getElem? (i := 140) rfl)) (by decide) (rmIL l Z a0 hw [] sb cs h0 n0 O0 G1 SC hcs) e195 E1 (by rw [hml]; rfl) (lenOf o_pd16 rfl) (has := rfl) (hst := rfl) (W := 0) (Nat.le_of_ble_eq_true rfl) (hb hby o_d20_16) (by decide) (by decide) (by decide) (by decide) fun v196 T196 h196 L196 X196 e196 q196 => ?_
  obtain ⟨rfl, N196q, rfl⟩ := q196
  have N196 := Fr.app N195 N196q
  show Go p e below T196 (mkF m 19 #[.val (.ref a1), .val (.ref sb), .val .null, .val (.ref d), .val (.int k)] [(.int (1 : Int32))]) _
  refine o_ifNo (pc := 19) X196 hx (hb hby o_d20_19) ((if0 _ _).trans (feq (by decide : ¬ ((1 : Int32) = (0 : Int32)))).1) ?_
  refine o_aloadN (v := (.ref a1)) (pc := 22) X196 hx (hb hby o_d20_22) rfl rfl ?_
  refine o_iconst (pc := 23) X196 hx (0 : Int32) (hb hby o_d20_23) rfl ?_
  refine o_putFN (pc := 24) X196 hx hZ hown (hw _ (List.mem_of_getElem? (i := 58) rfl)) Via.refl e196 Gc Es (Or.inr ⟨(hw _ (List.mem_of_getElem? (i := 6) rfl)), rfl, hnm⟩) (hw _ (List.mem_of_getElem? (i := 3) rfl)) (ty := .byte) (v' := (.int (0 : Int32))) (by decide) (by decide) (by decide) (hb hby o_d20_24) fun T197 h197 X197 e197 W197 => ?_
  have F197 := Fld.same W197 Gc
  have N197 := Fr.snoc X197 N196 g1
  have O198 := O0.wr W197 g1
  have K198 : Keep h0 h197 [a1] := (Keep.refl h0 [a1]).wr W197 (Or.inl (List.mem_of_getElem? (i := 0) rfl))
  refine o_aloadN (v := (.ref a1)) (pc := 27) X197 hx (hb hby o_d20_27) rfl rfl ?_
  refine o_aloadN (v := (.ref d)) (pc := 28) X197 hx (hb hby o_d20_28) rfl rfl ?_
  refine o_iconst (pc := 29) X197 hx (0 : Int32) (hb hby o_d20_29) rfl ?_
  refine o_iload (v := k) (pc := 30) X197 hx (hb hby o_d20_30) rfl ?_
  refine o_callS (pc := 32) X197 hx hZ (y := (⟨"java/util/Arrays", "copyOfRange", "([BII)[B"⟩ : MethodName)) (argsL := [(.ref d), (.int (0 : Int32)), (.int k)]) (rest := [(.ref a1)]) hown (hw _ (List.mem_of_getElem? (i := 141) rfl)) (hw _ (List.mem_of_getElem? (i := 142) rfl)) (hw _ (List.mem_of_getElem? (i := 103) rfl)) (hw _ (List.mem_of_getElem? (i := 143) rfl)) (by decide) (rmCRB l Z a0 hw [] d k h197 n0 O198 (VD.other W197 n2) (ED.wr W197) hk) e197 (by rw [hml]; rfl) (lenOf o_pd19 rfl) (has := rfl) (hst := rfl) (W := 1) (Nat.le_of_ble_eq_true rfl) (hb hby o_d20_32) (by decide) (by decide) (by decide) (by decide) fun v199 T199 h199 L199 X199 e199 q199 => ?_
  obtain ⟨b199, rfl, g199, N199q, E199, V199⟩ := q199
  have N199 := Fr.app N197 N199q
  have O200 := O198.ext E199
  have K200 : Keep h0 h199 [a1] := K198.ext E199
  show Go p e below T199 (mkF m 35 #[.val (.ref a1), .val (.ref sb), .val .null, .val (.ref d), .val (.int k)] [(.ref b199), (.ref a1)]) _
  refine o_putF (pc := 35) X199 hx hZ hown (host := "") (Or.inl (hw _ (List.mem_of_getElem? (i := 51) rfl))) Via.refl e199 ((Gv.other W197 (Or.inr (slot_ne (C := "java/lang/String") (Or.inr (hw _ (List.mem_of_getElem? (i := 5) rfl))) (Or.inr (hw _ (List.mem_of_getElem? (i := 6) rfl))) (by decide) (t := (.array .byte)) (t' := .byte) (by decide) (by decide)))).ext E199) ((Es.wr W197).ext E199) (Or.inr ⟨(hw _ (List.mem_of_getElem? (i := 5) rfl)), rfl, hnm⟩) (hw _ (List.mem_of_getElem? (i := 3) rfl)) (ty := (.array .byte)) (by decide) rfl rfl (hb hby o_d20_35) fun T201 h201 X201 e201 W201 => ?_
  have F201 := Fld.same W201 ((Gv.other W197 (Or.inr (slot_ne (C := "java/lang/String") (Or.inr (hw _ (List.mem_of_getElem? (i := 5) rfl))) (Or.inr (hw _ (List.mem_of_getElem? (i := 6) rfl))) (by decide) (t := (.array .byte)) (t' := .byte) (by decide) (by decide)))).ext E199)
  have N201 := Fr.snoc X201 N199 g1
  have O202 := O200.wr W201 g1
  have K202 : Keep h0 h201 [a1] := K200.wr W201 (Or.inl (List.mem_of_getElem? (i := 0) rfl))
  refine o_goto (pc := 38) X201 hx 97 (hb hby o_d20_38) (by decide) (by decide) ?_
  exact o_ret0 (pc := 97) X201 hx hret hlk (hb hby o_d20_97) e201 (by decide) (by decide) ⟨rfl, N201, K202⟩
set_option maxRecDepth 65536 in
set_option maxHeartbeats 40000000 in
theorem rmS2B (l : Launch) (Z : State) (a0 : Array Value) (hw : ∀ d ∈ tables_1, d.before a0 Z = true) (ws : List Jvm.Cond) (a1 sb d : Addr) (k : Int32) (cs : Int32) (h0 : Heap) (n0 : Nat) (O0 : Old Z n0 h0) (E1 : Exa Z h0 sb "java/lang/StringBuilder") (G0 : Fld Z h0 sb "java/lang/AbstractStringBuilder" "value" "[B" (.ref d)) (G1 : Fld Z h0 sb "java/lang/AbstractStringBuilder" "coder" "B" (.int (0 : Int32))) (G2 : Fld Z h0 sb "java/lang/AbstractStringBuilder" "count" "I" (.int k)) (VD : Byt Z h0 d (34 : Int32)) (ED : Exa Z h0 d "[B") (hne : sb ≠ d) (Es : Exa Z h0 a1 "java/lang/String") (Gc : Fld Z h0 a1 "java/lang/String" "coder" "B" (.int (0 : Int32))) (Gv : Fld Z h0 a1 "java/lang/String" "value" "[B" .null) (g1 : n0 ≤ a1) (n1 : sb ≠ a1) (n2 : d ≠ a1) (SC : Sta Z Z.heap "java/lang/String" "COMPACT_STRINGS" "Z" (.int cs)) (hcs : ¬ cs = (0 : Int32)) (hk : k ∈ ([17, 18, 19, 20, 21, 22, 23, 24, 25, 26, 27, 28, 29, 30] : List Int32)) :
    Ct l Z (⟨"java/lang/String", "<init>", "(Ljava/lang/StringBuilder;)V"⟩ : MethodName) jdk_42_method_53_code 2 none ({ frames := 4, cells := 1, slots := 30, locals := 87 } : Room) ws #[(.ref a1), (.ref sb)] h0 (fun v h L => v = none ∧ Fr n0 L ∧ Keep h0 h [a1]) := by
  refine o_body (plainFor_of_name o_pn_java_lang_String) ?_
  intro p e s m below meth c s₁ X0 hx hby hml hret hlk hown hnm hZ e0
  have N0 := Fr.nil n0
  refine o_top (g' := (mkF m 0 #[.val (.ref a1), .val (.ref sb)] [])) (by first | (simp [entryFrame, mkF, argsToLocals, Value.category]; done) | rfl) ?_
  refine o_aloadN (v := (.ref a1)) (pc := 0) X0 hx (hb hby o_d19_0) rfl rfl ?_
  refine o_aloadN (v := (.ref sb)) (pc := 1) X0 hx (hb hby o_d19_1) rfl rfl ?_
  refine o_aconst_null (pc := 2) X0 hx (hb hby o_d19_2) ?_
  refine o_callN (pc := 3) X0 hx hZ (y := (⟨"java/lang/String", "<init>", "(Ljava/lang/AbstractStringBuilder;Ljava/lang/Void;)V"⟩ : MethodName)) (a := a1) (argsL := [(.ref sb), .null]) (rest := []) rfl hown (hw _ (List.mem_of_getElem? (i := 119) rfl)) (hw _ (List.mem_of_getElem? (i := 120) rfl)) (hw _ (List.mem_of_getElem? (i := 2) rfl)) (hw _ (List.mem_of_getElem? (i := 121) rfl)) (by decide) (rmS1B l Z a0 hw [] a1 sb d k cs h0 n0 O0 E1 G0 G1 G2 VD ED hne Es Gc Gv g1 n1 n2 SC hcs hk) e0 (by rw [hml]; rfl) (lenOf o_pd21 rfl) (has := rfl) (hst := rfl) (W := 0) (Nat.le_of_ble_eq_true rfl) (hb hby o_d19_3) (by decide) (by decide) (by decide) (by decide) fun v203 T203 h203 L203 X203 e203 q203 => ?_
  obtain ⟨rfl, N203q, K203⟩ := q203
  have N203 := Fr.app N0 N203q
  have O204 := O0.keep K203 (allS g1 all0)
  have K204 : Keep h0 h203 [a1] := (Keep.refl h0 [a1]).trans K203 (allS (Or.inl (List.mem_of_getElem? (i := 0) rfl)) all0)
  show Go p e below T203 (mkF m 6 #[.val (.ref a1), .val (.ref sb)] []) _
  exact o_ret0 (pc := 6) X203 hx hret hlk (hb hby o_d19_6) e203 (by decide) (by decide) ⟨rfl, N203, K204⟩
set_option maxRecDepth 65536 in
set_option maxHeartbeats 40000000 in
theorem rmTSB (l : Launch) (Z : State) (a0 : Array Value) (hw : ∀ d ∈ tables_1, d.before a0 Z = true) (ws : List Jvm.Cond) (sb d : Addr) (k : Int32) (cs : Int32) (h0 : Heap) (n0 : Nat) (O0 : Old Z n0 h0) (E1 : Exa Z h0 sb "java/lang/StringBuilder") (G0 : Fld Z h0 sb "java/lang/AbstractStringBuilder" "value" "[B" (.ref d)) (G1 : Fld Z h0 sb "java/lang/AbstractStringBuilder" "coder" "B" (.int (0 : Int32))) (G2 : Fld Z h0 sb "java/lang/AbstractStringBuilder" "count" "I" (.int k)) (VD : Byt Z h0 d (34 : Int32)) (ED : Exa Z h0 d "[B") (hne : sb ≠ d) (SC : Sta Z Z.heap "java/lang/String" "COMPACT_STRINGS" "Z" (.int cs)) (hcs : ¬ cs = (0 : Int32)) (hk : k ∈ ([17, 18, 19, 20, 21, 22, 23, 24, 25, 26, 27, 28, 29, 30] : List Int32)) :
    Ct l Z (⟨"java/lang/StringBuilder", "toString", "()Ljava/lang/String;"⟩ : MethodName) jdk_67_method_42_code 1 (some (.object "java/lang/String")) ({ frames := 5, cells := 2, slots := 34, locals := 101 } : Room) ws #[(.ref sb)] h0 (fun v h L => ∃ b, v = some (.ref b) ∧ h0.size ≤ b ∧ Fr n0 L ∧ Ext h0 h) := by
  refine o_body (plainFor_of_name o_pn_java_lang_StringBuilder) ?_
  intro p e s m below meth c s₁ X0 hx hby hml hret hlk hown hnm hZ e0
  have N0 := Fr.nil n0
  refine o_top (g' := (mkF m 0 #[.val (.ref sb)] [])) (by first | (simp [entryFrame, mkF, argsToLocals, Value.category]; done) | rfl) ?_
  refine o_new (pc := 0) X0 hx hZ hown (hw _ (List.mem_of_getElem? (i := 114) rfl)) (hw _ (List.mem_of_getElem? (i := 3) rfl)) (hw _ (List.mem_of_getElem? (i := 2) rfl)) e0 (hb hby o_d18_0) (by decide) (by decide) fun T205 h205 b205 X205 e205 g205 E205 A205 D205 U205 => ?_
  have O206 := O0.ext E205
  have K206 : Keep h0 h205 [] := (Keep.refl h0 []).ext E205
  have F205_value : Fld Z h205 b205 "java/lang/String" "value" "[B" .null := D205 (Or.inr (hw _ (List.mem_of_getElem? (i := 5) rfl))) (ty := (.array .byte)) (by decide)
  have F205_coder : Fld Z h205 b205 "java/lang/String" "coder" "B" (.int (0 : Int32)) := D205 (Or.inr (hw _ (List.mem_of_getElem? (i := 6) rfl))) (ty := .byte) (by decide)
  refine o_dup (pc := 3) X205 hx (hb hby o_d18_3) rfl ?_
  refine o_aloadN (v := (.ref sb)) (pc := 4) X205 hx (hb hby o_d18_4) rfl rfl ?_
  refine o_callN (pc := 5) X205 hx hZ (y := (⟨"java/lang/String", "<init>", "(Ljava/lang/StringBuilder;)V"⟩ : MethodName)) (a := b205) (argsL := [(.ref sb)]) (rest := [(.ref b205)]) rfl hown (hw _ (List.mem_of_getElem? (i := 115) rfl)) (hw _ (List.mem_of_getElem? (i := 116) rfl)) (hw _ (List.mem_of_getElem? (i := 2) rfl)) (hw _ (List.mem_of_getElem? (i := 118) rfl)) (by decide) (rmS2B l Z a0 hw [] b205 sb d k cs h205 n0 O206 (E1.ext E205) (G0.ext E205) (G1.ext E205) (G2.ext E205) (VD.ext E205) (ED.ext E205) hne A205 F205_coder F205_value (Nat.le_trans (o_n0 O0) g205) (Nat.ne_of_lt (Nat.lt_of_lt_of_le E1.lt g205)) (Nat.ne_of_lt (Nat.lt_of_lt_of_le VD.lt g205)) SC hcs hk) e205 (by rw [hml]; rfl) (lenOf o_pd22 rfl) (has := rfl) (hst := rfl) (W := 1) (Nat.le_of_ble_eq_true rfl) (hb hby o_d18_5) (by decide) (by decide) (by decide) (by decide) fun v207 T207 h207 L207 X207 e207 q207 => ?_
  obtain ⟨rfl, N207q, K207⟩ := q207
  have N207 := Fr.app N0 N207q
  have O208 := O206.keep K207 (allS (Nat.le_trans (o_n0 O0) g205) all0)
  have K208 : Keep h0 h207 [] := K206.trans K207 (allS (Or.inr (Nat.le_trans (Keep.refl h0 []).1 g205)) all0)
  show Go p e below T207 (mkF m 8 #[.val (.ref sb)] [(.ref b205)]) _
  exact o_retA (pc := 8) X207 hx hret hlk rfl rfl (hb hby o_d18_8) e207 (by decide) (by decide) ⟨b205, rfl, (Nat.le_trans (Keep.refl h0 []).1 g205), N207, o_keep0 K208⟩
theorem c_and (x : Int32) : ¬ (255 : Int32) < (x &&& (255 : Int32)) := by
  rw [Int32.lt_iff_toInt_lt, c_mask x 255 8 (by decide) (by decide)]
  have e1 : (255 : Int32).toInt = 255 := rfl
  omega
theorem c_and0 (x : Int32) : ¬ (x &&& (255 : Int32)) < 0 := by
  rw [Int32.lt_iff_toInt_lt, c_mask x 255 8 (by decide) (by decide)]
  have e1 : (0 : Int32).toInt = 0 := rfl
  omega
theorem c_byte {k x : Int32} (hk : k.toInt8.toInt32 = k) (h0 : ¬ k < 0) (h1 : ¬ (255 : Int32) < k) : k = (x &&& (255 : Int32)).toInt8.toInt32 ↔ k = (x &&& (255 : Int32)) := by
  refine ⟨fun q => b_inj h0 h1 (c_and0 x) (c_and x) (by rw [hk]; exact q), fun q => by rw [← q]; exact hk.symm⟩
theorem rem4 (x : Int32) : (x &&& (2147483647 : Int32)) % (4 : Int32) = (0 : Int32) ∨ (x &&& (2147483647 : Int32)) % (4 : Int32) = (1 : Int32) ∨ (x &&& (2147483647 : Int32)) % (4 : Int32) = (2 : Int32) ∨ (x &&& (2147483647 : Int32)) % (4 : Int32) = (3 : Int32) := by
  have h := c_mask x 2147483647 31 (by decide) (by decide)
  have g := (c_irem (x &&& 2147483647) 4 4 (by decide)).1 (by rw [h]; omega)
  have e0 : (0 : Int32).toInt = 0 := rfl
  have e1 : (1 : Int32).toInt = 1 := rfl
  have e2 : (2 : Int32).toInt = 2 := rfl
  have e3 : (3 : Int32).toInt = 3 := rfl
  simp only [← Int32.toInt_inj, e0, e1, e2, e3]
  omega
theorem rem8 (x : Int32) : (x &&& (2147483647 : Int32)) % (8 : Int32) = (0 : Int32) ∨ (x &&& (2147483647 : Int32)) % (8 : Int32) = (1 : Int32) ∨ (x &&& (2147483647 : Int32)) % (8 : Int32) = (2 : Int32) ∨ (x &&& (2147483647 : Int32)) % (8 : Int32) = (3 : Int32) ∨ (x &&& (2147483647 : Int32)) % (8 : Int32) = (4 : Int32) ∨ (x &&& (2147483647 : Int32)) % (8 : Int32) = (5 : Int32) ∨ (x &&& (2147483647 : Int32)) % (8 : Int32) = (6 : Int32) ∨ (x &&& (2147483647 : Int32)) % (8 : Int32) = (7 : Int32) := by
  have h := c_mask x 2147483647 31 (by decide) (by decide)
  have g := (c_irem (x &&& 2147483647) 8 8 (by decide)).1 (by rw [h]; omega)
  have e0 : (0 : Int32).toInt = 0 := rfl
  have e1 : (1 : Int32).toInt = 1 := rfl
  have e2 : (2 : Int32).toInt = 2 := rfl
  have e3 : (3 : Int32).toInt = 3 := rfl
  have e4 : (4 : Int32).toInt = 4 := rfl
  have e5 : (5 : Int32).toInt = 5 := rfl
  have e6 : (6 : Int32).toInt = 6 := rfl
  have e7 : (7 : Int32).toInt = 7 := rfl
  simp only [← Int32.toInt_inj, e0, e1, e2, e3, e4, e5, e6, e7]
  omega
theorem rem10 (x : Int32) : (x &&& (2147483647 : Int32)) % (10 : Int32) = (0 : Int32) ∨ (x &&& (2147483647 : Int32)) % (10 : Int32) = (1 : Int32) ∨ (x &&& (2147483647 : Int32)) % (10 : Int32) = (2 : Int32) ∨ (x &&& (2147483647 : Int32)) % (10 : Int32) = (3 : Int32) ∨ (x &&& (2147483647 : Int32)) % (10 : Int32) = (4 : Int32) ∨ (x &&& (2147483647 : Int32)) % (10 : Int32) = (5 : Int32) ∨ (x &&& (2147483647 : Int32)) % (10 : Int32) = (6 : Int32) ∨ (x &&& (2147483647 : Int32)) % (10 : Int32) = (7 : Int32) ∨ (x &&& (2147483647 : Int32)) % (10 : Int32) = (8 : Int32) ∨ (x &&& (2147483647 : Int32)) % (10 : Int32) = (9 : Int32) := by
  have h := c_mask x 2147483647 31 (by decide) (by decide)
  have g := (c_irem (x &&& 2147483647) 10 10 (by decide)).1 (by rw [h]; omega)
  have e0 : (0 : Int32).toInt = 0 := rfl
  have e1 : (1 : Int32).toInt = 1 := rfl
  have e2 : (2 : Int32).toInt = 2 := rfl
  have e3 : (3 : Int32).toInt = 3 := rfl
  have e4 : (4 : Int32).toInt = 4 := rfl
  have e5 : (5 : Int32).toInt = 5 := rfl
  have e6 : (6 : Int32).toInt = 6 := rfl
  have e7 : (7 : Int32).toInt = 7 := rfl
  have e8 : (8 : Int32).toInt = 8 := rfl
  have e9 : (9 : Int32).toInt = 9 := rfl
  simp only [← Int32.toInt_inj, e0, e1, e2, e3, e4, e5, e6, e7, e8, e9]
  omega
theorem rem12 (x : Int32) : (x &&& (2147483647 : Int32)) % (12 : Int32) = (0 : Int32) ∨ (x &&& (2147483647 : Int32)) % (12 : Int32) = (1 : Int32) ∨ (x &&& (2147483647 : Int32)) % (12 : Int32) = (2 : Int32) ∨ (x &&& (2147483647 : Int32)) % (12 : Int32) = (3 : Int32) ∨ (x &&& (2147483647 : Int32)) % (12 : Int32) = (4 : Int32) ∨ (x &&& (2147483647 : Int32)) % (12 : Int32) = (5 : Int32) ∨ (x &&& (2147483647 : Int32)) % (12 : Int32) = (6 : Int32) ∨ (x &&& (2147483647 : Int32)) % (12 : Int32) = (7 : Int32) ∨ (x &&& (2147483647 : Int32)) % (12 : Int32) = (8 : Int32) ∨ (x &&& (2147483647 : Int32)) % (12 : Int32) = (9 : Int32) ∨ (x &&& (2147483647 : Int32)) % (12 : Int32) = (10 : Int32) ∨ (x &&& (2147483647 : Int32)) % (12 : Int32) = (11 : Int32) := by
  have h := c_mask x 2147483647 31 (by decide) (by decide)
  have g := (c_irem (x &&& 2147483647) 12 12 (by decide)).1 (by rw [h]; omega)
  have e0 : (0 : Int32).toInt = 0 := rfl
  have e1 : (1 : Int32).toInt = 1 := rfl
  have e2 : (2 : Int32).toInt = 2 := rfl
  have e3 : (3 : Int32).toInt = 3 := rfl
  have e4 : (4 : Int32).toInt = 4 := rfl
  have e5 : (5 : Int32).toInt = 5 := rfl
  have e6 : (6 : Int32).toInt = 6 := rfl
  have e7 : (7 : Int32).toInt = 7 := rfl
  have e8 : (8 : Int32).toInt = 8 := rfl
  have e9 : (9 : Int32).toInt = 9 := rfl
  have e10 : (10 : Int32).toInt = 10 := rfl
  have e11 : (11 : Int32).toInt = 11 := rfl
  simp only [← Int32.toInt_inj, e0, e1, e2, e3, e4, e5, e6, e7, e8, e9, e10, e11]
  omega
theorem rem17 (x : Int32) : (x &&& (2147483647 : Int32)) % (17 : Int32) = (0 : Int32) ∨ (x &&& (2147483647 : Int32)) % (17 : Int32) = (1 : Int32) ∨ (x &&& (2147483647 : Int32)) % (17 : Int32) = (2 : Int32) ∨ (x &&& (2147483647 : Int32)) % (17 : Int32) = (3 : Int32) ∨ (x &&& (2147483647 : Int32)) % (17 : Int32) = (4 : Int32) ∨ (x &&& (2147483647 : Int32)) % (17 : Int32) = (5 : Int32) ∨ (x &&& (2147483647 : Int32)) % (17 : Int32) = (6 : Int32) ∨ (x &&& (2147483647 : Int32)) % (17 : Int32) = (7 : Int32) ∨ (x &&& (2147483647 : Int32)) % (17 : Int32) = (8 : Int32) ∨ (x &&& (2147483647 : Int32)) % (17 : Int32) = (9 : Int32) ∨ (x &&& (2147483647 : Int32)) % (17 : Int32) = (10 : Int32) ∨ (x &&& (2147483647 : Int32)) % (17 : Int32) = (11 : Int32) ∨ (x &&& (2147483647 : Int32)) % (17 : Int32) = (12 : Int32) ∨ (x &&& (2147483647 : Int32)) % (17 : Int32) = (13 : Int32) ∨ (x &&& (2147483647 : Int32)) % (17 : Int32) = (14 : Int32) ∨ (x &&& (2147483647 : Int32)) % (17 : Int32) = (15 : Int32) ∨ (x &&& (2147483647 : Int32)) % (17 : Int32) = (16 : Int32) := by
  have h := c_mask x 2147483647 31 (by decide) (by decide)
  have g := (c_irem (x &&& 2147483647) 17 17 (by decide)).1 (by rw [h]; omega)
  have e0 : (0 : Int32).toInt = 0 := rfl
  have e1 : (1 : Int32).toInt = 1 := rfl
  have e2 : (2 : Int32).toInt = 2 := rfl
  have e3 : (3 : Int32).toInt = 3 := rfl
  have e4 : (4 : Int32).toInt = 4 := rfl
  have e5 : (5 : Int32).toInt = 5 := rfl
  have e6 : (6 : Int32).toInt = 6 := rfl
  have e7 : (7 : Int32).toInt = 7 := rfl
  have e8 : (8 : Int32).toInt = 8 := rfl
  have e9 : (9 : Int32).toInt = 9 := rfl
  have e10 : (10 : Int32).toInt = 10 := rfl
  have e11 : (11 : Int32).toInt = 11 := rfl
  have e12 : (12 : Int32).toInt = 12 := rfl
  have e13 : (13 : Int32).toInt = 13 := rfl
  have e14 : (14 : Int32).toInt = 14 := rfl
  have e15 : (15 : Int32).toInt = 15 := rfl
  have e16 : (16 : Int32).toInt = 16 := rfl
  simp only [← Int32.toInt_inj, e0, e1, e2, e3, e4, e5, e6, e7, e8, e9, e10, e11, e12, e13, e14, e15, e16]
  omega
section OwnExc
open LibCode.Throwable Jvm.Free.Exc
def oW (rc : String) : List Jvm.Cond := [.initialized tN, .superclass tN "java/lang/Object", .instanceMethod tFill, .codeSync tFill Fill.code 1 (some (.object tN)), .instanceMethod tFill0, .native tFill0, .instanceMethod tInit0, .code tInit0 Init0.code 1 none, .instanceMethod oInit, .code oInit ⟨#[0xb1]⟩ 1 none,
  .methodLink tN 1 oInit, .methodLink tN 27 tFill, .methodLink tN 202 tFill0, .fieldLink tN 7 tN "cause" thD, .fieldLink tN 17 tN "stackTrace" steD, .fieldLink tN 24 tN "suppressedExceptions" listD, .fieldLink tN 13 tN "UNASSIGNED_STACK" steD, .laysStatic tN "UNASSIGNED_STACK" steD, .fieldLink tN 20 tN "SUPPRESSED_SENTINEL" listD, .laysStatic tN "SUPPRESSED_SENTINEL" listD,
  .declares tFill, .selects rc tFill0 tFill0, .selects rc tFill tFill, .lays rc tN "cause" thD, .lays rc tN "stackTrace" steD, .lays rc tN "suppressedExceptions" listD, .lays rc tN "detailMessage" msgD, .fieldLink tN 198 tN "backtrace" obD, .lays rc tN "backtrace" obD, .arrayOver (.object "java/lang/Object"), .soleField tN "backtrace", .soleField tN "depth", .lays rc tN "depth" "I"]
theorem o_slot {Z : State} {O n d : String} {cf : ClassId} {k : Class} {i : Nat} {f : Field} (q : Z.fieldFound? O n d = some (cf, k, i, f)) : Jvm.RoadKit.slotOf Z O n d = f.slot := by
  show ((Z.fieldFound? O n d).map (·.2.2.2.slot)).getD 0 = f.slot
  rw [q]; rfl
theorem o_sig {d : String} {sig g : MethodDescriptor} (h : parseMethodDescriptor d = some sig) (q : parseMethodDescriptor d = some g) : sig = g := Option.some.inj (h.symm.trans q)
theorem o_parts {args : Array Value} {s : State} {pl : Platform} {rc : String} (howns : pl.frameOwnsMonitors = true) (hfin : pl.finalization = false) (hpl : pl.magicAccessors = ({} : Platform).magicAccessors) (h : ∀ c ∈ oW rc, c.before args s = true) :
    ∃ T : ThrowableC, T.Links pl s ∧ s.vm.findClass tN = some T.cT ∧ s.methodNamed? tFill = some T.fill ∧ s.methodNamed? tFill0 = some T.fill0 ∧ s.fieldFound? tN "stackTrace" steD = some (T.cT, T.kT, T.i17, T.fStack) ∧ s.fieldFound? tN "UNASSIGNED_STACK" steD = some (T.cT, T.kT, T.i13, T.fUnassigned) ∧ T.fStack.name = "stackTrace" ∧ T.fStack.type = .array (.object "java/lang/StackTraceElement") := by
  have w : ∀ (k : Nat) {d : Jvm.Cond}, (oW rc)[k]? = some d → d.holds args s none s [] = true := fun k d q => h d (List.mem_of_getElem? q)
  -- the class
  obtain ⟨⟨cT, j0⟩, M0, nat1, nat2, nat3, nat4, nat5, nat6⟩ := Cond.native_spec (w 5 rfl)
  have F : s.vm.findClass tN = some cT := findClass_of_methodNamed nat1
  obtain ⟨K, cK, nK⟩ := Vm.findClass_spec F
  obtain ⟨-, K', -, -, cK', -, -, -, -, face⟩ := Cond.superclass_spec F (w 1 rfl)
  cases cK.symm.trans cK'
  -- its methods
  obtain ⟨jf, Mf, f1, f2, f3, f4, f5, -, -⟩ := Cond.ownMethod (x := tFill) F cK (w 2 rfl)
  obtain ⟨_, Cf, g1, g2, g3, g4, g5, g6, -, g8⟩ := Cond.codeSync_spec f1 (w 3 rfl)
  cases f2.symm.trans g1
  obtain ⟨_, _, z1, z2, z3, z4, z5, z6, z7⟩ := Cond.ownMethod (x := tFill0) F cK (w 4 rfl)
  cases nat1.symm.trans z1
  cases nat2.symm.trans z2
  obtain ⟨mo, Mo, o1, o2, o3, o4⟩ := Cond.instanceMethod_spec (w 8 rfl)
  obtain ⟨_, Co, p1, p2, p3, -, -, p6, -, p8⟩ := Cond.code_spec o1 (w 9 rfl)
  cases o2.symm.trans p1
  obtain ⟨Ko, cKo, nKo⟩ := Vm.findClass_spec (findClass_of_methodNamed o1)
  obtain ⟨nmo, dso⟩ := name_of_methodNamed o1 o2
  -- its links
  obtain ⟨x1, y1, file, l1, r1, q0, b1⟩ := Cond.linkedMethod F cK o1 (w 10 rfl) pl hpl
  obtain ⟨x27, y27, file', l27, r27, q27, b27⟩ := Cond.linkedMethod F cK f1 (w 11 rfl) pl hpl
  obtain ⟨x202, y202, file'', l202, r202, q202, b202⟩ := Cond.linkedMethod F cK nat1 (w 12 rfl) pl hpl
  cases q0.symm.trans q27
  cases q0.symm.trans q202
  -- its fields
  obtain ⟨_, _, fc, lc, rc', ac, sc, fin, -, -, -⟩ := Cond.ownField (t := .object tN) F cK (by decide +kernel) (w 13 rfl) (w 23 rfl) pl hpl
  obtain ⟨_, _, fs, ls, rs, as', ss, fis, ns, ts, ffs⟩ := Cond.ownField (t := .array (.object "java/lang/StackTraceElement")) F cK (by decide +kernel) (w 14 rfl) (w 24 rfl) pl hpl
  obtain ⟨_, _, fu, lu, ru, au, su, fiu, -, -, ffu⟩ := Cond.ownField (t := .object "java/util/List") F cK (by decide +kernel) (w 15 rfl) (w 25 rfl) pl hpl
  obtain ⟨_, _, ga, aS, _, la, ra, aa, sa, -, -, sta, -, -, -, -, ffa⟩ := Cond.ownStatic (t := .array (.object "java/lang/StackTraceElement")) F cK (by decide +kernel) (w 16 rfl) (w 17 rfl) pl hpl
  obtain ⟨_, _, gb, _, _, lb, rb, ab, sb, -, -, -, -, -, -, -, -⟩ := Cond.ownStatic (t := .object "java/util/List") F cK (by decide +kernel) (w 18 rfl) (w 19 rfl) pl hpl
  obtain ⟨-, -, -, -, -, fm, -, -, -, sm, fim, -⟩ := Cond.lays_spec (w 26 rfl)
  have apart : fs.slot ≠ fu.slot := by
    rw [← o_slot ffs, ← o_slot ffu]
    exact Jvm.RoadKit.slot_ne (a0 := args) (C := rc) (Or.inl (w 24 rfl)) (Or.inl (w 25 rfl)) (by decide) (t := .array (.object "java/lang/StackTraceElement")) (t' := .object "java/util/List") (by decide +kernel) (by decide +kernel)
  have sgF : Mf.sig = (⟨[], some (.object tN)⟩ : MethodDescriptor) := o_sig g8 (by decide +kernel)
  have sg0 : M0.sig = (⟨[.int], some (.object tN)⟩ : MethodDescriptor) := o_sig nat6 (by decide +kernel)
  have sgO : Mo.sig = (⟨[], none⟩ : MethodDescriptor) := o_sig p8 (by decide +kernel)
  have pF : Mf.sig.parameters = [] := by simp [sgF]
  have p0 : M0.sig.parameters = [.int] := by simp [sg0]
  have pO : Mo.sig.parameters.length = 0 := by simp [sgO]
  have spO : lookupSpecial s.vm mo.cls "<init>" Mo.desc = .method mo := by rw [dso]; exact lookupSpecial_of_named o1 o2 o3
  -- a class without its own constructor's atoms: the entries that nobody reads here are filled with what is at hand
  refine ⟨{ cT := cT, kT := K, cO := cT, aS := aS, fillIdx := jf, fill0Idx := j0, initSIdx := j0, obj := mo, kObj := Ko, methFill := Mf, methFill0 := M0, methInitS := M0, methObj := Mo, codeFill := Cf, codeInitS := Cf, codeObj := Co, fBack := fc, fDepth := fc, fStack := fs, fCause := fc, fSupp := fu, fMsg := fm, fUnassigned := ga, fSentinel := gb, cfT := file, ci1 := x1, n1 := y1, ci27 := x27, n27 := y27, ci202 := x202, n202 := y202, ci7 := _, i7 := _, ci13 := _, i13 := _, ci17 := _, i17 := _, ci20 := _, i20 := _, ci24 := _, i24 := _ },
    ⟨howns, hfin, cK, nK, Vm.findClass_boot F cK, face, Cond.initialized_spec F cK (w 0 rfl), sta,
      f3, g2, g3, g4, g6, f4, f5, g5, pF,
      z3, z6, z7, p0, z4, nat3, nat4, nat5, z5,
      ss, fis, sa, cKo, nKo, o2, nmo, o3, o4, spO, pO, p2, p3, p6,
      sc, fin, sb, su, fiu, sm, fim, apart, q0, l1, r1, b1, l27, r27, b27, l202, r202, b202, lc, rc', ac, la, ra, aa, ls, rs, as', lb, rb, ab, lu, ru, au⟩, F, f1, nat1, ffs, ffa, ns, ts⟩
variable {p : Program} {l : Launch} {e : Env} {R : Room} {s : State} {m : MethodId} {args : Array Value} {below : List Frame} {meth : Method} {c : Code} {T : State} {locs : List Loc} {cells slots : Nat} {Z : State} {a0 : Array Value} {h h0 : Heap} {pc : Nat} {Ls : Array Slot} {rest : List Value} {Q : Outcome → State → Prop}
theorem oW_ok (rc : String) : (oW rc).all xOk = true := rfl
theorem o_keepX (X : Stand p l e R s m args below meth c T locs cells slots) {a : Addr} (hL : ∀ y ∈ locs, y.base = a) (eT : T.heap = h) : Keep s.heap h [a] := by
  subst eT
  refine ⟨X.same.2.1, fun x cl q ne => ?_, fun x cl q => ?_⟩
  · obtain ⟨c', h1, h2, -, h4⟩ := X.same.2.2.2.2.2 x cl q
    have hsl : c'.slots = cl.slots := Array.ext_getElem? fun i => h4 i fun hm => ne (by have := hL _ hm; simpa using this)
    have hcc : c' = cl := by rw [h2, hsl]
    rw [← hcc]; exact h1
  · obtain ⟨c', h1, h2, h3, -⟩ := X.same.2.2.2.2.2 x cl q
    exact ⟨c', h1, by rw [h2], by rw [h2], h3⟩
theorem o_sel {y : MethodName} {C : String} {cl : ClassId} {y0 : MethodId} (ad : l.admits e) (F : s.vm.findClass C = some cl) (N : s.methodNamed? y = some y0) (hc : y.cls ≠ "java/lang/invoke/MethodHandle" ∧ y.cls ≠ "java/lang/invoke/VarHandle") (w : (Cond.selects C y y).holds args s none s [] = true) : selectMethod e.platform s.vm cl y0 = .method y0 := by
  obtain ⟨_, _, _, k1, k2, k3, k4, -⟩ := Cond.selects_spec w
  rw [F] at k1
  rw [State.methodFound?_of_named N hc] at k2
  rw [N] at k3
  cases k1; cases k2; cases k3
  rw [Launch.admits_selectMethod ad, k4]
theorem o_field {cT : ClassId} {kT : Class} {rc nn dd : String} {t : FieldType} (F : s.vm.findClass tN = some cT) (K : s.vm.classes[cT]? = some kT) (ht : parseFieldDescriptor dd = some t) (w : (Cond.lays rc tN nn dd).holds args s none s [] = true) : ∃ i f, s.fieldFound? tN nn dd = some (cT, kT, i, f) ∧ kT.fields[i]? = some f ∧ f.isStatic = false ∧ f.name = nn ∧ f.type = t := by
  obtain ⟨-, -, _, _, i, f, -, -, ff, st, -⟩ := Cond.lays_spec w
  have z1 := Cond.lays_declared w ff
  have z2 := State.fieldFound?_spec ff
  rw [F] at z1; cases z1
  rw [K] at z2; cases z2.1
  exact ⟨i, f, ff, z2.2, st, (State.fieldFound?_type ff ht).1, (State.fieldFound?_type ff ht).2⟩
theorem o_takes {cell : Cell} {kX : Class} {rc O nn dd : String} {c' : ClassId} {k' : Class} {i : Nat} {f : Field} {v : Value} (F : s.vm.findClass rc = some cell.cls) (K : s.vm.classes[cell.cls]? = some kX) (ho : kX.kind = .ordinary) (hz : cell.slots.size = kX.instanceTypes.size) (hv : cell.vm = .none) (ff : s.fieldFound? O nn dd = some (c', k', i, f)) (w : (Cond.lays rc O nn dd).holds args s none s [] = true) (fv : fits f.type v = true) : Jvm.Takes s cell f v := by
  have q := Takes.of_laid (v := v) K ho (Cond.laysAt F K ff w).1 fv
  exact ⟨by rw [hz]; simpa using q.1, by rw [hv]; exact q.2⟩
set_option maxHeartbeats 4000000 in
theorem o_fill (X : Stand p l e R s m args below meth c T locs cells slots) (hx : p.tables.exec = Jvm.exec) (hst : l.stackTraces = true) (hZ : Z.Warmed39 s.vm) {rc : String} {n : Nat} (hown : s.vm.findClass tN = some m.cls) (W : ∀ d ∈ oW rc, d.before a0 Z = true) (wi : (Cond.instantiable rc n).before a0 Z = true) (hT0 : ThS Z s.heap) (hTK : s.vm.MethodsKnown) (hBelow : s.vm.FramesKnown below) (eT : T.heap = h) {a : Addr} (E : Exa Z h a rc) (N : Unt h a) (B : Fld Z h a tN "backtrace" obD .null) (u : RefV) (FS : Fld Z h a tN "stackTrace" steD u.v) (SU : Sta Z h tN "UNASSIGNED_STACK" steD u.v) (hLa : ∀ y ∈ locs, y.base = a) (hsize : Ls.size = c.maxLocals) (hd : decode c.code pc = .ok (.invokevirtual 27, 3)) (hf : 3 ≤ R.frames) {Wd : Nat} (hW : (rest.map fun v => v.category).sum ≤ Wd) (hlo : Wd + 42 ≤ R.locals) (hc : cells + 1 ≤ R.cells) (hsl : slots + 2752 ≤ R.slots)
    (q : ∀ T' h' L, Stand p l e R s m args below meth c T' (locs ++ L) (cells + 1) (slots + 2752) → T'.heap = h' → (∀ y ∈ L, y.base = a) → Keep s.heap h' [a] → Exa Z h' a rc → (∀ O nn dd v, Fld Z h a O nn dd v → Jvm.RoadKit.slotOf Z tN "backtrace" obD ≠ Jvm.RoadKit.slotOf Z O nn dd → Jvm.RoadKit.slotOf Z tN "depth" "I" ≠ Jvm.RoadKit.slotOf Z O nn dd → Jvm.RoadKit.slotOf Z tN "stackTrace" steD ≠ Jvm.RoadKit.slotOf Z O nn dd → Fld Z h' a O nn dd v) → Go p e below T' (mkF m (pc + 3) Ls (.ref a :: rest)) Q) : Go p e below T (mkF m pc Ls (.ref a :: rest)) Q := by
  have W' : ∀ d ∈ oW rc, d.before args s = true := fun d hd => mvX hT0 hZ (List.all_eq_true.mp (oW_ok rc) d hd) (W d hd)
  have ep := X.admits.platform
  have htr : e.platform.stackTraces = true := by rw [ep]; exact hst
  obtain ⟨TT, L, Yf, YF, YF0, YS, YU, nmS, tyS'⟩ := o_parts (args := args) (pl := e.platform) (by rw [ep]) (by rw [ep]) (by rw [ep]) W'
  subst eT
  obtain ⟨cell, kc, h1, h2, h3, h4, h5⟩ := E
  obtain ⟨c2, u1, u2, u3⟩ := N
  cases h1.symm.trans u1
  have hfound : s.vm.findClass rc = some cell.cls := by rw [hZ.alike.findClass]; exact h2
  obtain ⟨kX, hk, hek⟩ := hZ.alike.2.2 _ _ h3
  obtain ⟨c4, k2, i1, i2, hord0, -⟩ := Cond.instantiable_spec wi
  cases h2.symm.trans i1
  cases h3.symm.trans i2
  have hord : kX.kind = .ordinary := by rw [hek]; exact hord0
  have hsz : cell.slots.size = kX.instanceTypes.size := by rw [hek]; exact h5 hord0
  have hsel0 := o_sel X.admits hfound YF0 (by decide) (W' (.selects rc tFill0 tFill0) (by simp [oW]))
  obtain ⟨c5, cf5, kf5, i5, f5, b1, b2, -, -, -, -, b7⟩ := FS
  cases h1.symm.trans b1
  obtain ⟨k5, b2', -⟩ := State.fieldFound?_setVm (s := Z) hZ.alike b2
  have e5 : s.fieldFound? tN "stackTrace" steD = some (cf5, k5, i5, f5) := b2'
  cases e5.symm.trans YS
  obtain ⟨cfU, iU, kU, fU, stU, cellS, g1, g2, g3, g4, g5, g6, g7⟩ := SU
  obtain ⟨k6, g1', ek6⟩ := State.fieldFound?_setVm (s := Z) hZ.alike g1
  have e6 : s.fieldFound? tN "UNASSIGNED_STACK" steD = some (cfU, k6, iU, fU) := g1'
  cases e6.symm.trans YU
  have eS : TT.aS = stU := by
    have z1 := L.statics
    have z2 : TT.kT.statics = some stU := by rw [ek6]; exact g4
    exact Option.some.inj (z1.symm.trans z2)
  have hneS : TT.aS ≠ a := fun q0 => by
    rw [← eS, q0] at g5
    cases h1.symm.trans g5
    rw [u2] at g6; cases g6
  have hknS : cellS.vm ≠ .unknown := fun q0 => by rw [q0] at g6; cases g6
  -- the two fields that the native writes
  obtain ⟨kb, ib, fB, lB, rB, aB, sB, -, nB, tB, hffB⟩ := Cond.ownField (t := .object "java/lang/Object") Yf L.cls (by decide +kernel) (W' (.fieldLink tN 198 tN "backtrace" obD) (by simp [oW])) (W' (.lays rc tN "backtrace" obD) (by simp [oW])) e.platform (by rw [ep])
  obtain ⟨iD, fD, hffD, aD, sD, nD, tD⟩ := o_field Yf L.cls (t := .int) (by decide +kernel) (W' (.lays rc tN "depth" "I") (by simp [oW]))
  have oneB := Cond.soleField_find Yf L.cls (W' (.soleField tN "backtrace") (by simp [oW])) aB nB sB
  have oneD := Cond.soleField_find Yf L.cls (W' (.soleField tN "depth") (by simp [oW])) aD nD sD
  obtain ⟨_, cO, kO, -, -, kO1, kO2, kO3⟩ := Cond.arrayOver_spec (W' (.arrayOver (.object "java/lang/Object")) (by simp [oW]))
  have tk : ∀ {O nn dd : String} {c' : ClassId} {k' : Class} {i : Nat} {f : Field} {v : Value}, s.fieldFound? O nn dd = some (c', k', i, f) → (Cond.lays rc O nn dd).holds args s none s [] = true → fits f.type v = true → Jvm.Takes s cell f v := fun ff w fv => o_takes hfound hk hord hsz u2 ff w fv
  have fS' : fits TT.fStack.type u.v = true := by rw [tyS']; exact fits_refV_array _ u
  obtain ⟨c7, cf7, kf7, i7, f7, v1, v2, -, -, -, -, v7⟩ := B
  cases h1.symm.trans v1
  obtain ⟨k8, v2', -⟩ := State.fieldFound?_setVm (s := Z) hZ.alike v2
  have e8 : s.fieldFound? tN "backtrace" obD = some (cf7, k8, i7, f7) := v2'
  cases e8.symm.trans hffB
  have hSE := W' (.selects rc tFill tFill) (by simp [oW])
  obtain ⟨v6, vm6, ⟨T6, L6, c6, n6⟩, hW6, X6, ⟨hv6, C6, nn, hn, hD6, q1, q2, q3, q4, hL6, hc6, hn6'⟩, st⟩ := X.virtualBack hx (own := tN) (C := rc) (index := 27) (y := tFill) (z := tFill) hown (W' (.methodLink tN 27 tFill) (by simp [oW])) (W' (.declares tFill) (by simp [oW])) (notFace_of_selects hSE) hSE (W' (.instanceMethod tFill) (by simp [oW])) (by decide)
    (fillPaysAny (l := l) (W := Wd) hx htr TT L YF (u0 := u) (self := a) (cell := cell) (cellS := cellS) (fun _ => by rw [u2]; simp) (by rw [u2]; simp) (by rw [u3]) (by rw [u3]) b7 hsel0 hneS hknS g7 (tk YS (W' (.lays rc tN "stackTrace" steD) (by simp [oW])) fS')
      ⟨{ ci198 := kb, i198 := ib, fBack := fB }, ⟨lB, rB, aB, sB⟩, v7⟩ hTK hBelow Yf kO3 kO1 kO2 oneB oneD
      (fun x => tk hffB (W' (.lays rc tN "backtrace" obD) (by simp [oW])) (by rw [tB]; rfl)) (fun x => tk hffD (W' (.lays rc tN "depth" "I") (by simp [oW])) (by rw [tD]; rfl)) (by omega) (by omega))
    (b := a) (cB := cell.cls) hfound ⟨cell, h1, rfl, by rw [u2]; rfl⟩ (g := mkF m pc Ls (.ref a :: rest)) rfl hsize (Steps.refl _) (argsL := []) (rest := rest)
    (fun sig hs => by rw [show parseMethodDescriptor tFill.desc = some ⟨[], some (.object tN)⟩ from by decide +kernel] at hs; rw [← Option.some.inj hs]; rfl) rfl (by show 2 * 0 + _ ≤ Wd; omega) hd
    (fun vmx hWx => ⟨rfl, hc, hsl, h1, by rw [eS]; exact g5⟩)
  dsimp only [Pt.U, Pt.locs, Pt.cells, Pt.slots] at X6 hD6 hL6 hc6 hn6' st
  subst hv6 hL6 hc6 hn6'
  have hLb : ∀ y ∈ ([⟨a, fB.slot⟩, ⟨a, fD.slot⟩, ⟨a, TT.fStack.slot⟩] : List Loc), y.base = a := fun y hy => by
    simp at hy
    rcases hy with rfl | rfl | rfl <;> rfl
  have X7 := X6.more (Nat.le_refl _) (Nat.add_le_add_left hn slots)
  refine Go.of (fun _ k => st.trans k) (q T6 T6.heap _ X7 rfl hLb (o_keepX X7 (fun y hy => (List.mem_append.mp hy).elim (hLa y) (hLb y)) rfl) ⟨C6, kc, hD6, by rw [q1]; exact h2, by rw [q1]; exact h3, by rw [q2]; exact h4, fun ho => by rw [q3]; exact h5 ho⟩ ?_)
  intro O n1 d1 w F nb nd ns
  obtain ⟨c9, cf9, kf9, i9, f9, w1, w2, w3, w4, w5, w6, w7⟩ := F
  cases h1.symm.trans w1
  rw [o_slot v2, o_slot w2] at nb
  rw [o_slot w2] at nd ns
  have zD : Jvm.RoadKit.slotOf Z tN "depth" "I" = fD.slot := by
    obtain ⟨kk, y1⟩ := ff_back hZ.alike hffD
    exact o_slot y1
  rw [zD] at nd
  rw [o_slot b2] at ns
  exact ⟨C6, cf9, kf9, i9, f9, hD6, w2, w3, by rw [q2]; exact w4, by rw [q2]; exact w5, by rw [q1]; exact w6, by rw [q4 _ (Ne.symm nb) (Ne.symm nd) (Ne.symm ns)]; exact w7⟩
set_option maxRecDepth 65536 in
theorem o_oW {Z : State} {a0 : Array Value} (hw : ∀ d ∈ tables_1, d.before a0 Z = true) : ∀ d ∈ oW "com/example/twinstate/twinstate/TransactionRolledBackException", d.before a0 Z = true := by
  intro d hd
  simp only [oW, List.mem_cons, List.not_mem_nil, or_false] at hd
  rcases hd with rfl | rfl | rfl | rfl | rfl | rfl | rfl | rfl | rfl | rfl | rfl | rfl | rfl | rfl | rfl | rfl | rfl | rfl | rfl | rfl | rfl | rfl | rfl | rfl | rfl | rfl | rfl | rfl | rfl | rfl | rfl | rfl | rfl
  · exact (hw _ (List.mem_of_getElem? (i := 165) rfl))
  · exact (hw _ (List.mem_of_getElem? (i := 183) rfl))
  · exact (hw _ (List.mem_of_getElem? (i := 178) rfl))
  · exact (hw _ (List.mem_of_getElem? (i := 184) rfl))
  · exact (hw _ (List.mem_of_getElem? (i := 185) rfl))
  · exact (hw _ (List.mem_of_getElem? (i := 186) rfl))
  · exact (hw _ (List.mem_of_getElem? (i := 187) rfl))
  · exact (hw _ (List.mem_of_getElem? (i := 188) rfl))
  · exact (hw _ (List.mem_of_getElem? (i := 28) rfl))
  · exact (hw _ (List.mem_of_getElem? (i := 29) rfl))
  · exact (hw _ (List.mem_of_getElem? (i := 167) rfl))
  · exact (hw _ (List.mem_of_getElem? (i := 176) rfl))
  · exact (hw _ (List.mem_of_getElem? (i := 189) rfl))
  · exact (hw _ (List.mem_of_getElem? (i := 168) rfl))
  · exact (hw _ (List.mem_of_getElem? (i := 171) rfl))
  · exact (hw _ (List.mem_of_getElem? (i := 174) rfl))
  · exact (hw _ (List.mem_of_getElem? (i := 170) rfl))
  · exact (hw _ (List.mem_of_getElem? (i := 196) rfl))
  · exact (hw _ (List.mem_of_getElem? (i := 173) rfl))
  · exact (hw _ (List.mem_of_getElem? (i := 197) rfl))
  · exact (hw _ (List.mem_of_getElem? (i := 177) rfl))
  · exact (hw _ (List.mem_of_getElem? (i := 198) rfl))
  · exact (hw _ (List.mem_of_getElem? (i := 179) rfl))
  · exact (hw _ (List.mem_of_getElem? (i := 169) rfl))
  · exact (hw _ (List.mem_of_getElem? (i := 172) rfl))
  · exact (hw _ (List.mem_of_getElem? (i := 175) rfl))
  · exact (hw _ (List.mem_of_getElem? (i := 199) rfl))
  · exact (hw _ (List.mem_of_getElem? (i := 194) rfl))
  · exact (hw _ (List.mem_of_getElem? (i := 200) rfl))
  · exact (hw _ (List.mem_of_getElem? (i := 180) rfl))
  · exact (hw _ (List.mem_of_getElem? (i := 181) rfl))
  · exact (hw _ (List.mem_of_getElem? (i := 182) rfl))
  · exact (hw _ (List.mem_of_getElem? (i := 201) rfl))
end OwnExc
theorem o_pn_java_lang_Throwable : plainName "java/lang/Throwable" = true := by first | (simp [plainName, overriddenIn]; done) | decide +kernel
theorem o_d30_0 : decode jdk_78_method_2_code 0 = .ok (.aload_n 0, 1) := by decide +kernel
theorem o_d30_1 : decode jdk_78_method_2_code 1 = .ok (.invokespecial 1, 3) := by decide +kernel
theorem o_d30_4 : decode jdk_78_method_2_code 4 = .ok (.aload_n 0, 1) := by decide +kernel
theorem o_d30_5 : decode jdk_78_method_2_code 5 = .ok (.aload_n 0, 1) := by decide +kernel
theorem o_d30_6 : decode jdk_78_method_2_code 6 = .ok (.putfield 7, 3) := by decide +kernel
theorem o_d30_9 : decode jdk_78_method_2_code 9 = .ok (.aload_n 0, 1) := by decide +kernel
theorem o_d30_10 : decode jdk_78_method_2_code 10 = .ok (.getstatic 13, 3) := by decide +kernel
theorem o_d30_13 : decode jdk_78_method_2_code 13 = .ok (.putfield 17, 3) := by decide +kernel
theorem o_d30_16 : decode jdk_78_method_2_code 16 = .ok (.aload_n 0, 1) := by decide +kernel
theorem o_d30_17 : decode jdk_78_method_2_code 17 = .ok (.getstatic 20, 3) := by decide +kernel
theorem o_d30_20 : decode jdk_78_method_2_code 20 = .ok (.putfield 24, 3) := by decide +kernel
theorem o_d30_23 : decode jdk_78_method_2_code 23 = .ok (.aload_n 0, 1) := by decide +kernel
theorem o_d30_24 : decode jdk_78_method_2_code 24 = .ok (.invokevirtual 27, 3) := by decide +kernel
theorem o_d30_27 : decode jdk_78_method_2_code 27 = .ok (.pop, 1) := by decide +kernel
theorem o_d30_28 : decode jdk_78_method_2_code 28 = .ok (.aload_n 0, 1) := by decide +kernel
theorem o_d30_29 : decode jdk_78_method_2_code 29 = .ok (.aload_n 1, 1) := by decide +kernel
theorem o_d30_30 : decode jdk_78_method_2_code 30 = .ok (.putfield 31, 3) := by decide +kernel
theorem o_d30_33 : decode jdk_78_method_2_code 33 = .ok (.return_, 1) := by decide +kernel
set_option maxRecDepth 65536 in
set_option maxHeartbeats 40000000 in
theorem rmTh (l : Launch) (Z : State) (a0 : Array Value) (hw : ∀ d ∈ tables_1, d.before a0 Z = true) (ws : List Jvm.Cond) (a1 b : Addr) (u w : Value) (h0 : Heap) (n0 : Nat) (O0 : Old Z n0 h0) (E1 : Exa Z h0 a1 "com/example/twinstate/twinstate/TransactionRolledBackException") (U1 : Unt h0 a1) (G0 : Fld Z h0 a1 "java/lang/Throwable" "cause" "Ljava/lang/Throwable;" .null) (G1 : Fld Z h0 a1 "java/lang/Throwable" "stackTrace" "[Ljava/lang/StackTraceElement;" .null) (G2 : Fld Z h0 a1 "java/lang/Throwable" "suppressedExceptions" "Ljava/util/List;" .null) (G3 : Fld Z h0 a1 "java/lang/Throwable" "backtrace" "Ljava/lang/Object;" .null) (G4 : Fld Z h0 a1 "java/lang/Throwable" "depth" "I" (.int (0 : Int32))) (G5 : Fld Z h0 a1 "java/lang/Throwable" "detailMessage" "Ljava/lang/String;" .null) (Gr : Fld Z h0 a1 "com/example/twinstate/twinstate/TransactionRolledBackException" "reason" "Ljava/lang/String;" .null) (g1 : n0 ≤ a1) (HT : ThS Z h0) (hst : l.stackTraces = true) (SU : Sta Z Z.heap "java/lang/Throwable" "UNASSIGNED_STACK" "[Ljava/lang/StackTraceElement;" u) (SW : Sta Z Z.heap "java/lang/Throwable" "SUPPRESSED_SENTINEL" "Ljava/util/List;" w) (hu : u.isRef = true) (hw2 : w.isRef = true) :
    CtP l Z (⟨"java/lang/Throwable", "<init>", "(Ljava/lang/String;)V"⟩ : MethodName) jdk_78_method_2_code 2 none ({ frames := 3, cells := 1, slots := 2752, locals := 42 } : Room) ws #[(.ref a1), (.ref b)] h0 (fun v h L => v = none ∧ Fr n0 L ∧ Keep h0 h [a1] ∧ Fld Z h a1 "com/example/twinstate/twinstate/TransactionRolledBackException" "reason" "Ljava/lang/String;" .null) := by
  refine o_bodyP (plainFor_of_name o_pn_java_lang_Throwable) ?_
  intro p e s m below meth c s₁ X0 hx hby hml hret hlk hown hnm hZ e0 hh hTK hBe
  have N0 := Fr.nil n0
  refine o_top (g' := (mkF m 0 #[.val (.ref a1), .val (.ref b)] [])) (by first | (simp [entryFrame, mkF, argsToLocals, Value.category]; done) | rfl) ?_
  rcases ref_cases hu with rfl | ⟨ux, rfl⟩ <;> rcases ref_cases hw2 with rfl | ⟨wx, rfl⟩
  · skip
    refine o_aloadN (v := (.ref a1)) (pc := 0) X0 hx (hb hby o_d30_0) rfl rfl ?_
    refine o_initO (pc := 1) X0 hx hZ hown (hw _ (List.mem_of_getElem? (i := 167) rfl)) (hw _ (List.mem_of_getElem? (i := 28) rfl)) (hw _ (List.mem_of_getElem? (i := 29) rfl)) e0 (by rw [hml]; rfl) (hb hby o_d30_1) (by decide) (W := 0) (Nat.le_of_ble_eq_true rfl) (by decide) fun T209 X209 e209 => ?_
    refine o_aloadN (v := (.ref a1)) (pc := 4) X209 hx (hb hby o_d30_4) rfl rfl ?_
    refine o_aloadN (v := (.ref a1)) (pc := 5) X209 hx (hb hby o_d30_5) rfl rfl ?_
    refine o_putF (pc := 6) X209 hx hZ hown (host := "") (Or.inl (hw _ (List.mem_of_getElem? (i := 168) rfl))) Via.refl e209 G0 E1 (Or.inl (hw _ (List.mem_of_getElem? (i := 169) rfl))) (hw _ (List.mem_of_getElem? (i := 10) rfl)) (ty := (.object "java/lang/Throwable")) (by decide) rfl rfl (hb hby o_d30_6) fun T210 h210 X210 e210 W210 => ?_
    have F210 := Fld.same W210 G0
    have N210 := Fr.snoc X210 N0 g1
    have O211 := O0.wr W210 g1
    have K211 : Keep h0 h210 [a1] := (Keep.refl h0 [a1]).wr W210 (Or.inl (List.mem_of_getElem? (i := 0) rfl))
    refine o_aloadN (v := (.ref a1)) (pc := 9) X210 hx (hb hby o_d30_9) rfl rfl ?_
    refine o_getS (pc := 10) X210 hx hZ hown (host := "") (Or.inl (hw _ (List.mem_of_getElem? (i := 170) rfl))) Via.refl e210 (SU.ext O211.2) (hb hby o_d30_10) fun T212 X212 e212 => ?_
    refine o_putF (pc := 13) X212 hx hZ hown (host := "") (Or.inl (hw _ (List.mem_of_getElem? (i := 171) rfl))) Via.refl e212 (G1.other W210 (Or.inr (slot_ne (C := "com/example/twinstate/twinstate/TransactionRolledBackException") (Or.inl (hw _ (List.mem_of_getElem? (i := 172) rfl))) (Or.inl (hw _ (List.mem_of_getElem? (i := 169) rfl))) (by decide) (t := (.array (.object "java/lang/StackTraceElement"))) (t' := (.object "java/lang/Throwable")) (by decide) (by decide)))) (E1.wr W210) (Or.inl (hw _ (List.mem_of_getElem? (i := 172) rfl))) (hw _ (List.mem_of_getElem? (i := 10) rfl)) (ty := (.array (.object "java/lang/StackTraceElement"))) (by decide) rfl rfl (hb hby o_d30_13) fun T213 h213 X213 e213 W213 => ?_
    have F213 := Fld.same W213 (G1.other W210 (Or.inr (slot_ne (C := "com/example/twinstate/twinstate/TransactionRolledBackException") (Or.inl (hw _ (List.mem_of_getElem? (i := 172) rfl))) (Or.inl (hw _ (List.mem_of_getElem? (i := 169) rfl))) (by decide) (t := (.array (.object "java/lang/StackTraceElement"))) (t' := (.object "java/lang/Throwable")) (by decide) (by decide))))
    have N213 := Fr.snoc X213 N210 g1
    have O214 := O211.wr W213 g1
    have K214 : Keep h0 h213 [a1] := K211.wr W213 (Or.inl (List.mem_of_getElem? (i := 0) rfl))
    refine o_aloadN (v := (.ref a1)) (pc := 16) X213 hx (hb hby o_d30_16) rfl rfl ?_
    refine o_getS (pc := 17) X213 hx hZ hown (host := "") (Or.inl (hw _ (List.mem_of_getElem? (i := 173) rfl))) Via.refl e213 (SW.ext O214.2) (hb hby o_d30_17) fun T215 X215 e215 => ?_
    refine o_putF (pc := 20) X215 hx hZ hown (host := "") (Or.inl (hw _ (List.mem_of_getElem? (i := 174) rfl))) Via.refl e215 ((G2.other W210 (Or.inr (slot_ne (C := "com/example/twinstate/twinstate/TransactionRolledBackException") (Or.inl (hw _ (List.mem_of_getElem? (i := 175) rfl))) (Or.inl (hw _ (List.mem_of_getElem? (i := 169) rfl))) (by decide) (t := (.object "java/util/List")) (t' := (.object "java/lang/Throwable")) (by decide) (by decide)))).other W213 (Or.inr (slot_ne (C := "com/example/twinstate/twinstate/TransactionRolledBackException") (Or.inl (hw _ (List.mem_of_getElem? (i := 175) rfl))) (Or.inl (hw _ (List.mem_of_getElem? (i := 172) rfl))) (by decide) (t := (.object "java/util/List")) (t' := (.array (.object "java/lang/StackTraceElement"))) (by decide) (by decide)))) ((E1.wr W210).wr W213) (Or.inl (hw _ (List.mem_of_getElem? (i := 175) rfl))) (hw _ (List.mem_of_getElem? (i := 10) rfl)) (ty := (.object "java/util/List")) (by decide) rfl rfl (hb hby o_d30_20) fun T216 h216 X216 e216 W216 => ?_
    have F216 := Fld.same W216 ((G2.other W210 (Or.inr (slot_ne (C := "com/example/twinstate/twinstate/TransactionRolledBackException") (Or.inl (hw _ (List.mem_of_getElem? (i := 175) rfl))) (Or.inl (hw _ (List.mem_of_getElem? (i := 169) rfl))) (by decide) (t := (.object "java/util/List")) (t' := (.object "java/lang/Throwable")) (by decide) (by decide)))).other W213 (Or.inr (slot_ne (C := "com/example/twinstate/twinstate/TransactionRolledBackException") (Or.inl (hw _ (List.mem_of_getElem? (i := 175) rfl))) (Or.inl (hw _ (List.mem_of_getElem? (i := 172) rfl))) (by decide) (t := (.object "java/util/List")) (t' := (.array (.object "java/lang/StackTraceElement"))) (by decide) (by decide))))
    have N216 := Fr.snoc X216 N213 g1
    have O217 := O214.wr W216 g1
    have K217 : Keep h0 h216 [a1] := K214.wr W216 (Or.inl (List.mem_of_getElem? (i := 0) rfl))
    refine o_aloadN (v := (.ref a1)) (pc := 23) X216 hx (hb hby o_d30_23) rfl rfl ?_
    refine o_fill (pc := 24) X216 hx hst hZ (rc := "com/example/twinstate/twinstate/TransactionRolledBackException") (n := 7) hown (o_oW hw) (hw _ (List.mem_of_getElem? (i := 10) rfl)) (by rw [hh]; exact HT) hTK hBe e216 (((E1.wr W210).wr W213).wr W216) (((U1.wr W210).wr W213).wr W216) (((G3.other W210 (Or.inr (slot_ne (C := "com/example/twinstate/twinstate/TransactionRolledBackException") (Or.inl (hw _ (List.mem_of_getElem? (i := 200) rfl))) (Or.inl (hw _ (List.mem_of_getElem? (i := 169) rfl))) (by decide) (t := (.object "java/lang/Object")) (t' := (.object "java/lang/Throwable")) (by decide) (by decide)))).other W213 (Or.inr (slot_ne (C := "com/example/twinstate/twinstate/TransactionRolledBackException") (Or.inl (hw _ (List.mem_of_getElem? (i := 200) rfl))) (Or.inl (hw _ (List.mem_of_getElem? (i := 172) rfl))) (by decide) (t := (.object "java/lang/Object")) (t' := (.array (.object "java/lang/StackTraceElement"))) (by decide) (by decide)))).other W216 (Or.inr (slot_ne (C := "com/example/twinstate/twinstate/TransactionRolledBackException") (Or.inl (hw _ (List.mem_of_getElem? (i := 200) rfl))) (Or.inl (hw _ (List.mem_of_getElem? (i := 175) rfl))) (by decide) (t := (.object "java/lang/Object")) (t' := (.object "java/util/List")) (by decide) (by decide)))) (⟨.null, rfl⟩ : RefV) (F213.other W216 (Or.inr (slot_ne (C := "com/example/twinstate/twinstate/TransactionRolledBackException") (Or.inl (hw _ (List.mem_of_getElem? (i := 172) rfl))) (Or.inl (hw _ (List.mem_of_getElem? (i := 175) rfl))) (by decide) (t := (.array (.object "java/lang/StackTraceElement"))) (t' := (.object "java/util/List")) (by decide) (by decide)))) (SU.ext O217.2) (by intro y hy; simp at hy; rcases hy with rfl | rfl | rfl <;> rfl) (by rw [hml]; rfl) (hb hby o_d30_24) (by decide) (Wd := 0) (Nat.le_of_ble_eq_true rfl) (by decide) (by decide) (by decide) fun T218 h218 L218 X218 e218 HL218 K218 Ex218 HP218 => ?_
    have Q218_0 : Fld Z h218 a1 "java/lang/Throwable" "detailMessage" "Ljava/lang/String;" .null := HP218 _ _ _ _ (((G5.other W210 (Or.inr (slot_ne (C := "com/example/twinstate/twinstate/TransactionRolledBackException") (Or.inl (hw _ (List.mem_of_getElem? (i := 199) rfl))) (Or.inl (hw _ (List.mem_of_getElem? (i := 169) rfl))) (by decide) (t := (.object "java/lang/String")) (t' := (.object "java/lang/Throwable")) (by decide) (by decide)))).other W213 (Or.inr (slot_ne (C := "com/example/twinstate/twinstate/TransactionRolledBackException") (Or.inl (hw _ (List.mem_of_getElem? (i := 199) rfl))) (Or.inl (hw _ (List.mem_of_getElem? (i := 172) rfl))) (by decide) (t := (.object "java/lang/String")) (t' := (.array (.object "java/lang/StackTraceElement"))) (by decide) (by decide)))).other W216 (Or.inr (slot_ne (C := "com/example/twinstate/twinstate/TransactionRolledBackException") (Or.inl (hw _ (List.mem_of_getElem? (i := 199) rfl))) (Or.inl (hw _ (List.mem_of_getElem? (i := 175) rfl))) (by decide) (t := (.object "java/lang/String")) (t' := (.object "java/util/List")) (by decide) (by decide)))) (slot_ne (C := "com/example/twinstate/twinstate/TransactionRolledBackException") (Or.inl (hw _ (List.mem_of_getElem? (i := 200) rfl))) (Or.inl (hw _ (List.mem_of_getElem? (i := 199) rfl))) (by decide) (t := (.object "java/lang/Object")) (t' := (.object "java/lang/String")) (by decide) (by decide)) (slot_ne (C := "com/example/twinstate/twinstate/TransactionRolledBackException") (Or.inl (hw _ (List.mem_of_getElem? (i := 201) rfl))) (Or.inl (hw _ (List.mem_of_getElem? (i := 199) rfl))) (by decide) (t := .int) (t' := (.object "java/lang/String")) (by decide) (by decide)) (slot_ne (C := "com/example/twinstate/twinstate/TransactionRolledBackException") (Or.inl (hw _ (List.mem_of_getElem? (i := 172) rfl))) (Or.inl (hw _ (List.mem_of_getElem? (i := 199) rfl))) (by decide) (t := (.array (.object "java/lang/StackTraceElement"))) (t' := (.object "java/lang/String")) (by decide) (by decide))
    have Q218_1 : Fld Z h218 a1 "com/example/twinstate/twinstate/TransactionRolledBackException" "reason" "Ljava/lang/String;" .null := HP218 _ _ _ _ (((Gr.other W210 (Or.inr (slot_ne (C := "com/example/twinstate/twinstate/TransactionRolledBackException") (Or.inr (hw _ (List.mem_of_getElem? (i := 205) rfl))) (Or.inl (hw _ (List.mem_of_getElem? (i := 169) rfl))) (by decide) (t := (.object "java/lang/String")) (t' := (.object "java/lang/Throwable")) (by decide) (by decide)))).other W213 (Or.inr (slot_ne (C := "com/example/twinstate/twinstate/TransactionRolledBackException") (Or.inr (hw _ (List.mem_of_getElem? (i := 205) rfl))) (Or.inl (hw _ (List.mem_of_getElem? (i := 172) rfl))) (by decide) (t := (.object "java/lang/String")) (t' := (.array (.object "java/lang/StackTraceElement"))) (by decide) (by decide)))).other W216 (Or.inr (slot_ne (C := "com/example/twinstate/twinstate/TransactionRolledBackException") (Or.inr (hw _ (List.mem_of_getElem? (i := 205) rfl))) (Or.inl (hw _ (List.mem_of_getElem? (i := 175) rfl))) (by decide) (t := (.object "java/lang/String")) (t' := (.object "java/util/List")) (by decide) (by decide)))) (slot_ne (C := "com/example/twinstate/twinstate/TransactionRolledBackException") (Or.inl (hw _ (List.mem_of_getElem? (i := 200) rfl))) (Or.inr (hw _ (List.mem_of_getElem? (i := 205) rfl))) (by decide) (t := (.object "java/lang/Object")) (t' := (.object "java/lang/String")) (by decide) (by decide)) (slot_ne (C := "com/example/twinstate/twinstate/TransactionRolledBackException") (Or.inl (hw _ (List.mem_of_getElem? (i := 201) rfl))) (Or.inr (hw _ (List.mem_of_getElem? (i := 205) rfl))) (by decide) (t := .int) (t' := (.object "java/lang/String")) (by decide) (by decide)) (slot_ne (C := "com/example/twinstate/twinstate/TransactionRolledBackException") (Or.inl (hw _ (List.mem_of_getElem? (i := 172) rfl))) (Or.inr (hw _ (List.mem_of_getElem? (i := 205) rfl))) (by decide) (t := (.array (.object "java/lang/StackTraceElement"))) (t' := (.object "java/lang/String")) (by decide) (by decide))
    have N218 := Fr.app N216 (fun y hy => by rw [HL218 y hy]; exact g1)
    rw [hh] at K218
    have O218 := O0.keep K218 (allS g1 all0)
    refine o_pop (pc := 27) X218 hx (hb hby o_d30_27) rfl ?_
    refine o_aloadN (v := (.ref a1)) (pc := 28) X218 hx (hb hby o_d30_28) rfl rfl ?_
    refine o_aloadN (v := (.ref b)) (pc := 29) X218 hx (hb hby o_d30_29) rfl rfl ?_
    refine o_putF (pc := 30) X218 hx hZ hown (host := "") (Or.inl (hw _ (List.mem_of_getElem? (i := 203) rfl))) Via.refl e218 Q218_0 Ex218 (Or.inl (hw _ (List.mem_of_getElem? (i := 199) rfl))) (hw _ (List.mem_of_getElem? (i := 10) rfl)) (ty := (.object "java/lang/String")) (by decide) rfl rfl (hb hby o_d30_30) fun T219 h219 X219 e219 W219 => ?_
    have F219 := Fld.same W219 Q218_0
    have N219 := Fr.snoc X219 N218 g1
    have O220 := O218.wr W219 g1
    have K220 : Keep h0 h219 [a1] := K218.wr W219 (Or.inl (List.mem_of_getElem? (i := 0) rfl))
    exact o_ret0 (pc := 33) X219 hx hret hlk (hb hby o_d30_33) e219 (by decide) (by decide) ⟨rfl, N219, K220, (Q218_1.other W219 (Or.inr (slot_ne (C := "com/example/twinstate/twinstate/TransactionRolledBackException") (Or.inr (hw _ (List.mem_of_getElem? (i := 205) rfl))) (Or.inl (hw _ (List.mem_of_getElem? (i := 199) rfl))) (by decide) (t := (.object "java/lang/String")) (t' := (.object "java/lang/String")) (by decide) (by decide))))⟩
  · skip
    refine o_aloadN (v := (.ref a1)) (pc := 0) X0 hx (hb hby o_d30_0) rfl rfl ?_
    refine o_initO (pc := 1) X0 hx hZ hown (hw _ (List.mem_of_getElem? (i := 167) rfl)) (hw _ (List.mem_of_getElem? (i := 28) rfl)) (hw _ (List.mem_of_getElem? (i := 29) rfl)) e0 (by rw [hml]; rfl) (hb hby o_d30_1) (by decide) (W := 0) (Nat.le_of_ble_eq_true rfl) (by decide) fun T221 X221 e221 => ?_
    refine o_aloadN (v := (.ref a1)) (pc := 4) X221 hx (hb hby o_d30_4) rfl rfl ?_
    refine o_aloadN (v := (.ref a1)) (pc := 5) X221 hx (hb hby o_d30_5) rfl rfl ?_
    refine o_putF (pc := 6) X221 hx hZ hown (host := "") (Or.inl (hw _ (List.mem_of_getElem? (i := 168) rfl))) Via.refl e221 G0 E1 (Or.inl (hw _ (List.mem_of_getElem? (i := 169) rfl))) (hw _ (List.mem_of_getElem? (i := 10) rfl)) (ty := (.object "java/lang/Throwable")) (by decide) rfl rfl (hb hby o_d30_6) fun T222 h222 X222 e222 W222 => ?_
    have F222 := Fld.same W222 G0
    have N222 := Fr.snoc X222 N0 g1
    have O223 := O0.wr W222 g1
    have K223 : Keep h0 h222 [a1] := (Keep.refl h0 [a1]).wr W222 (Or.inl (List.mem_of_getElem? (i := 0) rfl))
    refine o_aloadN (v := (.ref a1)) (pc := 9) X222 hx (hb hby o_d30_9) rfl rfl ?_
    refine o_getS (pc := 10) X222 hx hZ hown (host := "") (Or.inl (hw _ (List.mem_of_getElem? (i := 170) rfl))) Via.refl e222 (SU.ext O223.2) (hb hby o_d30_10) fun T224 X224 e224 => ?_
    refine o_putF (pc := 13) X224 hx hZ hown (host := "") (Or.inl (hw _ (List.mem_of_getElem? (i := 171) rfl))) Via.refl e224 (G1.other W222 (Or.inr (slot_ne (C := "com/example/twinstate/twinstate/TransactionRolledBackException") (Or.inl (hw _ (List.mem_of_getElem? (i := 172) rfl))) (Or.inl (hw _ (List.mem_of_getElem? (i := 169) rfl))) (by decide) (t := (.array (.object "java/lang/StackTraceElement"))) (t' := (.object "java/lang/Throwable")) (by decide) (by decide)))) (E1.wr W222) (Or.inl (hw _ (List.mem_of_getElem? (i := 172) rfl))) (hw _ (List.mem_of_getElem? (i := 10) rfl)) (ty := (.array (.object "java/lang/StackTraceElement"))) (by decide) rfl rfl (hb hby o_d30_13) fun T225 h225 X225 e225 W225 => ?_
    have F225 := Fld.same W225 (G1.other W222 (Or.inr (slot_ne (C := "com/example/twinstate/twinstate/TransactionRolledBackException") (Or.inl (hw _ (List.mem_of_getElem? (i := 172) rfl))) (Or.inl (hw _ (List.mem_of_getElem? (i := 169) rfl))) (by decide) (t := (.array (.object "java/lang/StackTraceElement"))) (t' := (.object "java/lang/Throwable")) (by decide) (by decide))))
    have N225 := Fr.snoc X225 N222 g1
    have O226 := O223.wr W225 g1
    have K226 : Keep h0 h225 [a1] := K223.wr W225 (Or.inl (List.mem_of_getElem? (i := 0) rfl))
    refine o_aloadN (v := (.ref a1)) (pc := 16) X225 hx (hb hby o_d30_16) rfl rfl ?_
    refine o_getS (pc := 17) X225 hx hZ hown (host := "") (Or.inl (hw _ (List.mem_of_getElem? (i := 173) rfl))) Via.refl e225 (SW.ext O226.2) (hb hby o_d30_17) fun T227 X227 e227 => ?_
    refine o_putF (pc := 20) X227 hx hZ hown (host := "") (Or.inl (hw _ (List.mem_of_getElem? (i := 174) rfl))) Via.refl e227 ((G2.other W222 (Or.inr (slot_ne (C := "com/example/twinstate/twinstate/TransactionRolledBackException") (Or.inl (hw _ (List.mem_of_getElem? (i := 175) rfl))) (Or.inl (hw _ (List.mem_of_getElem? (i := 169) rfl))) (by decide) (t := (.object "java/util/List")) (t' := (.object "java/lang/Throwable")) (by decide) (by decide)))).other W225 (Or.inr (slot_ne (C := "com/example/twinstate/twinstate/TransactionRolledBackException") (Or.inl (hw _ (List.mem_of_getElem? (i := 175) rfl))) (Or.inl (hw _ (List.mem_of_getElem? (i := 172) rfl))) (by decide) (t := (.object "java/util/List")) (t' := (.array (.object "java/lang/StackTraceElement"))) (by decide) (by decide)))) ((E1.wr W222).wr W225) (Or.inl (hw _ (List.mem_of_getElem? (i := 175) rfl))) (hw _ (List.mem_of_getElem? (i := 10) rfl)) (ty := (.object "java/util/List")) (by decide) rfl rfl (hb hby o_d30_20) fun T228 h228 X228 e228 W228 => ?_
    have F228 := Fld.same W228 ((G2.other W222 (Or.inr (slot_ne (C := "com/example/twinstate/twinstate/TransactionRolledBackException") (Or.inl (hw _ (List.mem_of_getElem? (i := 175) rfl))) (Or.inl (hw _ (List.mem_of_getElem? (i := 169) rfl))) (by decide) (t := (.object "java/util/List")) (t' := (.object "java/lang/Throwable")) (by decide) (by decide)))).other W225 (Or.inr (slot_ne (C := "com/example/twinstate/twinstate/TransactionRolledBackException") (Or.inl (hw _ (List.mem_of_getElem? (i := 175) rfl))) (Or.inl (hw _ (List.mem_of_getElem? (i := 172) rfl))) (by decide) (t := (.object "java/util/List")) (t' := (.array (.object "java/lang/StackTraceElement"))) (by decide) (by decide))))
    have N228 := Fr.snoc X228 N225 g1
    have O229 := O226.wr W228 g1
    have K229 : Keep h0 h228 [a1] := K226.wr W228 (Or.inl (List.mem_of_getElem? (i := 0) rfl))
    refine o_aloadN (v := (.ref a1)) (pc := 23) X228 hx (hb hby o_d30_23) rfl rfl ?_
    refine o_fill (pc := 24) X228 hx hst hZ (rc := "com/example/twinstate/twinstate/TransactionRolledBackException") (n := 7) hown (o_oW hw) (hw _ (List.mem_of_getElem? (i := 10) rfl)) (by rw [hh]; exact HT) hTK hBe e228 (((E1.wr W222).wr W225).wr W228) (((U1.wr W222).wr W225).wr W228) (((G3.other W222 (Or.inr (slot_ne (C := "com/example/twinstate/twinstate/TransactionRolledBackException") (Or.inl (hw _ (List.mem_of_getElem? (i := 200) rfl))) (Or.inl (hw _ (List.mem_of_getElem? (i := 169) rfl))) (by decide) (t := (.object "java/lang/Object")) (t' := (.object "java/lang/Throwable")) (by decide) (by decide)))).other W225 (Or.inr (slot_ne (C := "com/example/twinstate/twinstate/TransactionRolledBackException") (Or.inl (hw _ (List.mem_of_getElem? (i := 200) rfl))) (Or.inl (hw _ (List.mem_of_getElem? (i := 172) rfl))) (by decide) (t := (.object "java/lang/Object")) (t' := (.array (.object "java/lang/StackTraceElement"))) (by decide) (by decide)))).other W228 (Or.inr (slot_ne (C := "com/example/twinstate/twinstate/TransactionRolledBackException") (Or.inl (hw _ (List.mem_of_getElem? (i := 200) rfl))) (Or.inl (hw _ (List.mem_of_getElem? (i := 175) rfl))) (by decide) (t := (.object "java/lang/Object")) (t' := (.object "java/util/List")) (by decide) (by decide)))) (⟨.null, rfl⟩ : RefV) (F225.other W228 (Or.inr (slot_ne (C := "com/example/twinstate/twinstate/TransactionRolledBackException") (Or.inl (hw _ (List.mem_of_getElem? (i := 172) rfl))) (Or.inl (hw _ (List.mem_of_getElem? (i := 175) rfl))) (by decide) (t := (.array (.object "java/lang/StackTraceElement"))) (t' := (.object "java/util/List")) (by decide) (by decide)))) (SU.ext O229.2) (by intro y hy; simp at hy; rcases hy with rfl | rfl | rfl <;> rfl) (by rw [hml]; rfl) (hb hby o_d30_24) (by decide) (Wd := 0) (Nat.le_of_ble_eq_true rfl) (by decide) (by decide) (by decide) fun T230 h230 L230 X230 e230 HL230 K230 Ex230 HP230 => ?_
    have Q230_0 : Fld Z h230 a1 "java/lang/Throwable" "detailMessage" "Ljava/lang/String;" .null := HP230 _ _ _ _ (((G5.other W222 (Or.inr (slot_ne (C := "com/example/twinstate/twinstate/TransactionRolledBackException") (Or.inl (hw _ (List.mem_of_getElem? (i := 199) rfl))) (Or.inl (hw _ (List.mem_of_getElem? (i := 169) rfl))) (by decide) (t := (.object "java/lang/String")) (t' := (.object "java/lang/Throwable")) (by decide) (by decide)))).other W225 (Or.inr (slot_ne (C := "com/example/twinstate/twinstate/TransactionRolledBackException") (Or.inl (hw _ (List.mem_of_getElem? (i := 199) rfl))) (Or.inl (hw _ (List.mem_of_getElem? (i := 172) rfl))) (by decide) (t := (.object "java/lang/String")) (t' := (.array (.object "java/lang/StackTraceElement"))) (by decide) (by decide)))).other W228 (Or.inr (slot_ne (C := "com/example/twinstate/twinstate/TransactionRolledBackException") (Or.inl (hw _ (List.mem_of_getElem? (i := 199) rfl))) (Or.inl (hw _ (List.mem_of_getElem? (i := 175) rfl))) (by decide) (t := (.object "java/lang/String")) (t' := (.object "java/util/List")) (by decide) (by decide)))) (slot_ne (C := "com/example/twinstate/twinstate/TransactionRolledBackException") (Or.inl (hw _ (List.mem_of_getElem? (i := 200) rfl))) (Or.inl (hw _ (List.mem_of_getElem? (i := 199) rfl))) (by decide) (t := (.object "java/lang/Object")) (t' := (.object "java/lang/String")) (by decide) (by decide)) (slot_ne (C := "com/example/twinstate/twinstate/TransactionRolledBackException") (Or.inl (hw _ (List.mem_of_getElem? (i := 201) rfl))) (Or.inl (hw _ (List.mem_of_getElem? (i := 199) rfl))) (by decide) (t := .int) (t' := (.object "java/lang/String")) (by decide) (by decide)) (slot_ne (C := "com/example/twinstate/twinstate/TransactionRolledBackException") (Or.inl (hw _ (List.mem_of_getElem? (i := 172) rfl))) (Or.inl (hw _ (List.mem_of_getElem? (i := 199) rfl))) (by decide) (t := (.array (.object "java/lang/StackTraceElement"))) (t' := (.object "java/lang/String")) (by decide) (by decide))
    have Q230_1 : Fld Z h230 a1 "com/example/twinstate/twinstate/TransactionRolledBackException" "reason" "Ljava/lang/String;" .null := HP230 _ _ _ _ (((Gr.other W222 (Or.inr (slot_ne (C := "com/example/twinstate/twinstate/TransactionRolledBackException") (Or.inr (hw _ (List.mem_of_getElem? (i := 205) rfl))) (Or.inl (hw _ (List.mem_of_getElem? (i := 169) rfl))) (by decide) (t := (.object "java/lang/String")) (t' := (.object "java/lang/Throwable")) (by decide) (by decide)))).other W225 (Or.inr (slot_ne (C := "com/example/twinstate/twinstate/TransactionRolledBackException") (Or.inr (hw _ (List.mem_of_getElem? (i := 205) rfl))) (Or.inl (hw _ (List.mem_of_getElem? (i := 172) rfl))) (by decide) (t := (.object "java/lang/String")) (t' := (.array (.object "java/lang/StackTraceElement"))) (by decide) (by decide)))).other W228 (Or.inr (slot_ne (C := "com/example/twinstate/twinstate/TransactionRolledBackException") (Or.inr (hw _ (List.mem_of_getElem? (i := 205) rfl))) (Or.inl (hw _ (List.mem_of_getElem? (i := 175) rfl))) (by decide) (t := (.object "java/lang/String")) (t' := (.object "java/util/List")) (by decide) (by decide)))) (slot_ne (C := "com/example/twinstate/twinstate/TransactionRolledBackException") (Or.inl (hw _ (List.mem_of_getElem? (i := 200) rfl))) (Or.inr (hw _ (List.mem_of_getElem? (i := 205) rfl))) (by decide) (t := (.object "java/lang/Object")) (t' := (.object "java/lang/String")) (by decide) (by decide)) (slot_ne (C := "com/example/twinstate/twinstate/TransactionRolledBackException") (Or.inl (hw _ (List.mem_of_getElem? (i := 201) rfl))) (Or.inr (hw _ (List.mem_of_getElem? (i := 205) rfl))) (by decide) (t := .int) (t' := (.object "java/lang/String")) (by decide) (by decide)) (slot_ne (C := "com/example/twinstate/twinstate/TransactionRolledBackException") (Or.inl (hw _ (List.mem_of_getElem? (i := 172) rfl))) (Or.inr (hw _ (List.mem_of_getElem? (i := 205) rfl))) (by decide) (t := (.array (.object "java/lang/StackTraceElement"))) (t' := (.object "java/lang/String")) (by decide) (by decide))
    have N230 := Fr.app N228 (fun y hy => by rw [HL230 y hy]; exact g1)
    rw [hh] at K230
    have O230 := O0.keep K230 (allS g1 all0)
    refine o_pop (pc := 27) X230 hx (hb hby o_d30_27) rfl ?_
    refine o_aloadN (v := (.ref a1)) (pc := 28) X230 hx (hb hby o_d30_28) rfl rfl ?_
    refine o_aloadN (v := (.ref b)) (pc := 29) X230 hx (hb hby o_d30_29) rfl rfl ?_
    refine o_putF (pc := 30) X230 hx hZ hown (host := "") (Or.inl (hw _ (List.mem_of_getElem? (i := 203) rfl))) Via.refl e230 Q230_0 Ex230 (Or.inl (hw _ (List.mem_of_getElem? (i := 199) rfl))) (hw _ (List.mem_of_getElem? (i := 10) rfl)) (ty := (.object "java/lang/String")) (by decide) rfl rfl (hb hby o_d30_30) fun T231 h231 X231 e231 W231 => ?_
    have F231 := Fld.same W231 Q230_0
    have N231 := Fr.snoc X231 N230 g1
    have O232 := O230.wr W231 g1
    have K232 : Keep h0 h231 [a1] := K230.wr W231 (Or.inl (List.mem_of_getElem? (i := 0) rfl))
    exact o_ret0 (pc := 33) X231 hx hret hlk (hb hby o_d30_33) e231 (by decide) (by decide) ⟨rfl, N231, K232, (Q230_1.other W231 (Or.inr (slot_ne (C := "com/example/twinstate/twinstate/TransactionRolledBackException") (Or.inr (hw _ (List.mem_of_getElem? (i := 205) rfl))) (Or.inl (hw _ (List.mem_of_getElem? (i := 199) rfl))) (by decide) (t := (.object "java/lang/String")) (t' := (.object "java/lang/String")) (by decide) (by decide))))⟩
  · skip
    refine o_aloadN (v := (.ref a1)) (pc := 0) X0 hx (hb hby o_d30_0) rfl rfl ?_
    refine o_initO (pc := 1) X0 hx hZ hown (hw _ (List.mem_of_getElem? (i := 167) rfl)) (hw _ (List.mem_of_getElem? (i := 28) rfl)) (hw _ (List.mem_of_getElem? (i := 29) rfl)) e0 (by rw [hml]; rfl) (hb hby o_d30_1) (by decide) (W := 0) (Nat.le_of_ble_eq_true rfl) (by decide) fun T233 X233 e233 => ?_
    refine o_aloadN (v := (.ref a1)) (pc := 4) X233 hx (hb hby o_d30_4) rfl rfl ?_
    refine o_aloadN (v := (.ref a1)) (pc := 5) X233 hx (hb hby o_d30_5) rfl rfl ?_
    refine o_putF (pc := 6) X233 hx hZ hown (host := "") (Or.inl (hw _ (List.mem_of_getElem? (i := 168) rfl))) Via.refl e233 G0 E1 (Or.inl (hw _ (List.mem_of_getElem? (i := 169) rfl))) (hw _ (List.mem_of_getElem? (i := 10) rfl)) (ty := (.object "java/lang/Throwable")) (by decide) rfl rfl (hb hby o_d30_6) fun T234 h234 X234 e234 W234 => ?_
    have F234 := Fld.same W234 G0
    have N234 := Fr.snoc X234 N0 g1
    have O235 := O0.wr W234 g1
    have K235 : Keep h0 h234 [a1] := (Keep.refl h0 [a1]).wr W234 (Or.inl (List.mem_of_getElem? (i := 0) rfl))
    refine o_aloadN (v := (.ref a1)) (pc := 9) X234 hx (hb hby o_d30_9) rfl rfl ?_
    refine o_getS (pc := 10) X234 hx hZ hown (host := "") (Or.inl (hw _ (List.mem_of_getElem? (i := 170) rfl))) Via.refl e234 (SU.ext O235.2) (hb hby o_d30_10) fun T236 X236 e236 => ?_
    refine o_putF (pc := 13) X236 hx hZ hown (host := "") (Or.inl (hw _ (List.mem_of_getElem? (i := 171) rfl))) Via.refl e236 (G1.other W234 (Or.inr (slot_ne (C := "com/example/twinstate/twinstate/TransactionRolledBackException") (Or.inl (hw _ (List.mem_of_getElem? (i := 172) rfl))) (Or.inl (hw _ (List.mem_of_getElem? (i := 169) rfl))) (by decide) (t := (.array (.object "java/lang/StackTraceElement"))) (t' := (.object "java/lang/Throwable")) (by decide) (by decide)))) (E1.wr W234) (Or.inl (hw _ (List.mem_of_getElem? (i := 172) rfl))) (hw _ (List.mem_of_getElem? (i := 10) rfl)) (ty := (.array (.object "java/lang/StackTraceElement"))) (by decide) rfl rfl (hb hby o_d30_13) fun T237 h237 X237 e237 W237 => ?_
    have F237 := Fld.same W237 (G1.other W234 (Or.inr (slot_ne (C := "com/example/twinstate/twinstate/TransactionRolledBackException") (Or.inl (hw _ (List.mem_of_getElem? (i := 172) rfl))) (Or.inl (hw _ (List.mem_of_getElem? (i := 169) rfl))) (by decide) (t := (.array (.object "java/lang/StackTraceElement"))) (t' := (.object "java/lang/Throwable")) (by decide) (by decide))))
    have N237 := Fr.snoc X237 N234 g1
    have O238 := O235.wr W237 g1
    have K238 : Keep h0 h237 [a1] := K235.wr W237 (Or.inl (List.mem_of_getElem? (i := 0) rfl))
    refine o_aloadN (v := (.ref a1)) (pc := 16) X237 hx (hb hby o_d30_16) rfl rfl ?_
    refine o_getS (pc := 17) X237 hx hZ hown (host := "") (Or.inl (hw _ (List.mem_of_getElem? (i := 173) rfl))) Via.refl e237 (SW.ext O238.2) (hb hby o_d30_17) fun T239 X239 e239 => ?_
    refine o_putF (pc := 20) X239 hx hZ hown (host := "") (Or.inl (hw _ (List.mem_of_getElem? (i := 174) rfl))) Via.refl e239 ((G2.other W234 (Or.inr (slot_ne (C := "com/example/twinstate/twinstate/TransactionRolledBackException") (Or.inl (hw _ (List.mem_of_getElem? (i := 175) rfl))) (Or.inl (hw _ (List.mem_of_getElem? (i := 169) rfl))) (by decide) (t := (.object "java/util/List")) (t' := (.object "java/lang/Throwable")) (by decide) (by decide)))).other W237 (Or.inr (slot_ne (C := "com/example/twinstate/twinstate/TransactionRolledBackException") (Or.inl (hw _ (List.mem_of_getElem? (i := 175) rfl))) (Or.inl (hw _ (List.mem_of_getElem? (i := 172) rfl))) (by decide) (t := (.object "java/util/List")) (t' := (.array (.object "java/lang/StackTraceElement"))) (by decide) (by decide)))) ((E1.wr W234).wr W237) (Or.inl (hw _ (List.mem_of_getElem? (i := 175) rfl))) (hw _ (List.mem_of_getElem? (i := 10) rfl)) (ty := (.object "java/util/List")) (by decide) rfl rfl (hb hby o_d30_20) fun T240 h240 X240 e240 W240 => ?_
    have F240 := Fld.same W240 ((G2.other W234 (Or.inr (slot_ne (C := "com/example/twinstate/twinstate/TransactionRolledBackException") (Or.inl (hw _ (List.mem_of_getElem? (i := 175) rfl))) (Or.inl (hw _ (List.mem_of_getElem? (i := 169) rfl))) (by decide) (t := (.object "java/util/List")) (t' := (.object "java/lang/Throwable")) (by decide) (by decide)))).other W237 (Or.inr (slot_ne (C := "com/example/twinstate/twinstate/TransactionRolledBackException") (Or.inl (hw _ (List.mem_of_getElem? (i := 175) rfl))) (Or.inl (hw _ (List.mem_of_getElem? (i := 172) rfl))) (by decide) (t := (.object "java/util/List")) (t' := (.array (.object "java/lang/StackTraceElement"))) (by decide) (by decide))))
    have N240 := Fr.snoc X240 N237 g1
    have O241 := O238.wr W240 g1
    have K241 : Keep h0 h240 [a1] := K238.wr W240 (Or.inl (List.mem_of_getElem? (i := 0) rfl))
    refine o_aloadN (v := (.ref a1)) (pc := 23) X240 hx (hb hby o_d30_23) rfl rfl ?_
    refine o_fill (pc := 24) X240 hx hst hZ (rc := "com/example/twinstate/twinstate/TransactionRolledBackException") (n := 7) hown (o_oW hw) (hw _ (List.mem_of_getElem? (i := 10) rfl)) (by rw [hh]; exact HT) hTK hBe e240 (((E1.wr W234).wr W237).wr W240) (((U1.wr W234).wr W237).wr W240) (((G3.other W234 (Or.inr (slot_ne (C := "com/example/twinstate/twinstate/TransactionRolledBackException") (Or.inl (hw _ (List.mem_of_getElem? (i := 200) rfl))) (Or.inl (hw _ (List.mem_of_getElem? (i := 169) rfl))) (by decide) (t := (.object "java/lang/Object")) (t' := (.object "java/lang/Throwable")) (by decide) (by decide)))).other W237 (Or.inr (slot_ne (C := "com/example/twinstate/twinstate/TransactionRolledBackException") (Or.inl (hw _ (List.mem_of_getElem? (i := 200) rfl))) (Or.inl (hw _ (List.mem_of_getElem? (i := 172) rfl))) (by decide) (t := (.object "java/lang/Object")) (t' := (.array (.object "java/lang/StackTraceElement"))) (by decide) (by decide)))).other W240 (Or.inr (slot_ne (C := "com/example/twinstate/twinstate/TransactionRolledBackException") (Or.inl (hw _ (List.mem_of_getElem? (i := 200) rfl))) (Or.inl (hw _ (List.mem_of_getElem? (i := 175) rfl))) (by decide) (t := (.object "java/lang/Object")) (t' := (.object "java/util/List")) (by decide) (by decide)))) (⟨(.ref ux), rfl⟩ : RefV) (F237.other W240 (Or.inr (slot_ne (C := "com/example/twinstate/twinstate/TransactionRolledBackException") (Or.inl (hw _ (List.mem_of_getElem? (i := 172) rfl))) (Or.inl (hw _ (List.mem_of_getElem? (i := 175) rfl))) (by decide) (t := (.array (.object "java/lang/StackTraceElement"))) (t' := (.object "java/util/List")) (by decide) (by decide)))) (SU.ext O241.2) (by intro y hy; simp at hy; rcases hy with rfl | rfl | rfl <;> rfl) (by rw [hml]; rfl) (hb hby o_d30_24) (by decide) (Wd := 0) (Nat.le_of_ble_eq_true rfl) (by decide) (by decide) (by decide) fun T242 h242 L242 X242 e242 HL242 K242 Ex242 HP242 => ?_
    have Q242_0 : Fld Z h242 a1 "java/lang/Throwable" "detailMessage" "Ljava/lang/String;" .null := HP242 _ _ _ _ (((G5.other W234 (Or.inr (slot_ne (C := "com/example/twinstate/twinstate/TransactionRolledBackException") (Or.inl (hw _ (List.mem_of_getElem? (i := 199) rfl))) (Or.inl (hw _ (List.mem_of_getElem? (i := 169) rfl))) (by decide) (t := (.object "java/lang/String")) (t' := (.object "java/lang/Throwable")) (by decide) (by decide)))).other W237 (Or.inr (slot_ne (C := "com/example/twinstate/twinstate/TransactionRolledBackException") (Or.inl (hw _ (List.mem_of_getElem? (i := 199) rfl))) (Or.inl (hw _ (List.mem_of_getElem? (i := 172) rfl))) (by decide) (t := (.object "java/lang/String")) (t' := (.array (.object "java/lang/StackTraceElement"))) (by decide) (by decide)))).other W240 (Or.inr (slot_ne (C := "com/example/twinstate/twinstate/TransactionRolledBackException") (Or.inl (hw _ (List.mem_of_getElem? (i := 199) rfl))) (Or.inl (hw _ (List.mem_of_getElem? (i := 175) rfl))) (by decide) (t := (.object "java/lang/String")) (t' := (.object "java/util/List")) (by decide) (by decide)))) (slot_ne (C := "com/example/twinstate/twinstate/TransactionRolledBackException") (Or.inl (hw _ (List.mem_of_getElem? (i := 200) rfl))) (Or.inl (hw _ (List.mem_of_getElem? (i := 199) rfl))) (by decide) (t := (.object "java/lang/Object")) (t' := (.object "java/lang/String")) (by decide) (by decide)) (slot_ne (C := "com/example/twinstate/twinstate/TransactionRolledBackException") (Or.inl (hw _ (List.mem_of_getElem? (i := 201) rfl))) (Or.inl (hw _ (List.mem_of_getElem? (i := 199) rfl))) (by decide) (t := .int) (t' := (.object "java/lang/String")) (by decide) (by decide)) (slot_ne (C := "com/example/twinstate/twinstate/TransactionRolledBackException") (Or.inl (hw _ (List.mem_of_getElem? (i := 172) rfl))) (Or.inl (hw _ (List.mem_of_getElem? (i := 199) rfl))) (by decide) (t := (.array (.object "java/lang/StackTraceElement"))) (t' := (.object "java/lang/String")) (by decide) (by decide))
    have Q242_1 : Fld Z h242 a1 "com/example/twinstate/twinstate/TransactionRolledBackException" "reason" "Ljava/lang/String;" .null := HP242 _ _ _ _ (((Gr.other W234 (Or.inr (slot_ne (C := "com/example/twinstate/twinstate/TransactionRolledBackException") (Or.inr (hw _ (List.mem_of_getElem? (i := 205) rfl))) (Or.inl (hw _ (List.mem_of_getElem? (i := 169) rfl))) (by decide) (t := (.object "java/lang/String")) (t' := (.object "java/lang/Throwable")) (by decide) (by decide)))).other W237 (Or.inr (slot_ne (C := "com/example/twinstate/twinstate/TransactionRolledBackException") (Or.inr (hw _ (List.mem_of_getElem? (i := 205) rfl))) (Or.inl (hw _ (List.mem_of_getElem? (i := 172) rfl))) (by decide) (t := (.object "java/lang/String")) (t' := (.array (.object "java/lang/StackTraceElement"))) (by decide) (by decide)))).other W240 (Or.inr (slot_ne (C := "com/example/twinstate/twinstate/TransactionRolledBackException") (Or.inr (hw _ (List.mem_of_getElem? (i := 205) rfl))) (Or.inl (hw _ (List.mem_of_getElem? (i := 175) rfl))) (by decide) (t := (.object "java/lang/String")) (t' := (.object "java/util/List")) (by decide) (by decide)))) (slot_ne (C := "com/example/twinstate/twinstate/TransactionRolledBackException") (Or.inl (hw _ (List.mem_of_getElem? (i := 200) rfl))) (Or.inr (hw _ (List.mem_of_getElem? (i := 205) rfl))) (by decide) (t := (.object "java/lang/Object")) (t' := (.object "java/lang/String")) (by decide) (by decide)) (slot_ne (C := "com/example/twinstate/twinstate/TransactionRolledBackException") (Or.inl (hw _ (List.mem_of_getElem? (i := 201) rfl))) (Or.inr (hw _ (List.mem_of_getElem? (i := 205) rfl))) (by decide) (t := .int) (t' := (.object "java/lang/String")) (by decide) (by decide)) (slot_ne (C := "com/example/twinstate/twinstate/TransactionRolledBackException") (Or.inl (hw _ (List.mem_of_getElem? (i := 172) rfl))) (Or.inr (hw _ (List.mem_of_getElem? (i := 205) rfl))) (by decide) (t := (.array (.object "java/lang/StackTraceElement"))) (t' := (.object "java/lang/String")) (by decide) (by decide))
    have N242 := Fr.app N240 (fun y hy => by rw [HL242 y hy]; exact g1)
    rw [hh] at K242
    have O242 := O0.keep K242 (allS g1 all0)
    refine o_pop (pc := 27) X242 hx (hb hby o_d30_27) rfl ?_
    refine o_aloadN (v := (.ref a1)) (pc := 28) X242 hx (hb hby o_d30_28) rfl rfl ?_
    refine o_aloadN (v := (.ref b)) (pc := 29) X242 hx (hb hby o_d30_29) rfl rfl ?_
    refine o_putF (pc := 30) X242 hx hZ hown (host := "") (Or.inl (hw _ (List.mem_of_getElem? (i := 203) rfl))) Via.refl e242 Q242_0 Ex242 (Or.inl (hw _ (List.mem_of_getElem? (i := 199) rfl))) (hw _ (List.mem_of_getElem? (i := 10) rfl)) (ty := (.object "java/lang/String")) (by decide) rfl rfl (hb hby o_d30_30) fun T243 h243 X243 e243 W243 => ?_
    have F243 := Fld.same W243 Q242_0
    have N243 := Fr.snoc X243 N242 g1
    have O244 := O242.wr W243 g1
    have K244 : Keep h0 h243 [a1] := K242.wr W243 (Or.inl (List.mem_of_getElem? (i := 0) rfl))
    exact o_ret0 (pc := 33) X243 hx hret hlk (hb hby o_d30_33) e243 (by decide) (by decide) ⟨rfl, N243, K244, (Q242_1.other W243 (Or.inr (slot_ne (C := "com/example/twinstate/twinstate/TransactionRolledBackException") (Or.inr (hw _ (List.mem_of_getElem? (i := 205) rfl))) (Or.inl (hw _ (List.mem_of_getElem? (i := 199) rfl))) (by decide) (t := (.object "java/lang/String")) (t' := (.object "java/lang/String")) (by decide) (by decide))))⟩
  · skip
    refine o_aloadN (v := (.ref a1)) (pc := 0) X0 hx (hb hby o_d30_0) rfl rfl ?_
    refine o_initO (pc := 1) X0 hx hZ hown (hw _ (List.mem_of_getElem? (i := 167) rfl)) (hw _ (List.mem_of_getElem? (i := 28) rfl)) (hw _ (List.mem_of_getElem? (i := 29) rfl)) e0 (by rw [hml]; rfl) (hb hby o_d30_1) (by decide) (W := 0) (Nat.le_of_ble_eq_true rfl) (by decide) fun T245 X245 e245 => ?_
    refine o_aloadN (v := (.ref a1)) (pc := 4) X245 hx (hb hby o_d30_4) rfl rfl ?_
    refine o_aloadN (v := (.ref a1)) (pc := 5) X245 hx (hb hby o_d30_5) rfl rfl ?_
    refine o_putF (pc := 6) X245 hx hZ hown (host := "") (Or.inl (hw _ (List.mem_of_getElem? (i := 168) rfl))) Via.refl e245 G0 E1 (Or.inl (hw _ (List.mem_of_getElem? (i := 169) rfl))) (hw _ (List.mem_of_getElem? (i := 10) rfl)) (ty := (.object "java/lang/Throwable")) (by decide) rfl rfl (hb hby o_d30_6) fun T246 h246 X246 e246 W246 => ?_
    have F246 := Fld.same W246 G0
    have N246 := Fr.snoc X246 N0 g1
    have O247 := O0.wr W246 g1
    have K247 : Keep h0 h246 [a1] := (Keep.refl h0 [a1]).wr W246 (Or.inl (List.mem_of_getElem? (i := 0) rfl))
    refine o_aloadN (v := (.ref a1)) (pc := 9) X246 hx (hb hby o_d30_9) rfl rfl ?_
    refine o_getS (pc := 10) X246 hx hZ hown (host := "") (Or.inl (hw _ (List.mem_of_getElem? (i := 170) rfl))) Via.refl e246 (SU.ext O247.2) (hb hby o_d30_10) fun T248 X248 e248 => ?_
    refine o_putF (pc := 13) X248 hx hZ hown (host := "") (Or.inl (hw _ (List.mem_of_getElem? (i := 171) rfl))) Via.refl e248 (G1.other W246 (Or.inr (slot_ne (C := "com/example/twinstate/twinstate/TransactionRolledBackException") (Or.inl (hw _ (List.mem_of_getElem? (i := 172) rfl))) (Or.inl (hw _ (List.mem_of_getElem? (i := 169) rfl))) (by decide) (t := (.array (.object "java/lang/StackTraceElement"))) (t' := (.object "java/lang/Throwable")) (by decide) (by decide)))) (E1.wr W246) (Or.inl (hw _ (List.mem_of_getElem? (i := 172) rfl))) (hw _ (List.mem_of_getElem? (i := 10) rfl)) (ty := (.array (.object "java/lang/StackTraceElement"))) (by decide) rfl rfl (hb hby o_d30_13) fun T249 h249 X249 e249 W249 => ?_
    have F249 := Fld.same W249 (G1.other W246 (Or.inr (slot_ne (C := "com/example/twinstate/twinstate/TransactionRolledBackException") (Or.inl (hw _ (List.mem_of_getElem? (i := 172) rfl))) (Or.inl (hw _ (List.mem_of_getElem? (i := 169) rfl))) (by decide) (t := (.array (.object "java/lang/StackTraceElement"))) (t' := (.object "java/lang/Throwable")) (by decide) (by decide))))
    have N249 := Fr.snoc X249 N246 g1
    have O250 := O247.wr W249 g1
    have K250 : Keep h0 h249 [a1] := K247.wr W249 (Or.inl (List.mem_of_getElem? (i := 0) rfl))
    refine o_aloadN (v := (.ref a1)) (pc := 16) X249 hx (hb hby o_d30_16) rfl rfl ?_
    refine o_getS (pc := 17) X249 hx hZ hown (host := "") (Or.inl (hw _ (List.mem_of_getElem? (i := 173) rfl))) Via.refl e249 (SW.ext O250.2) (hb hby o_d30_17) fun T251 X251 e251 => ?_
    refine o_putF (pc := 20) X251 hx hZ hown (host := "") (Or.inl (hw _ (List.mem_of_getElem? (i := 174) rfl))) Via.refl e251 ((G2.other W246 (Or.inr (slot_ne (C := "com/example/twinstate/twinstate/TransactionRolledBackException") (Or.inl (hw _ (List.mem_of_getElem? (i := 175) rfl))) (Or.inl (hw _ (List.mem_of_getElem? (i := 169) rfl))) (by decide) (t := (.object "java/util/List")) (t' := (.object "java/lang/Throwable")) (by decide) (by decide)))).other W249 (Or.inr (slot_ne (C := "com/example/twinstate/twinstate/TransactionRolledBackException") (Or.inl (hw _ (List.mem_of_getElem? (i := 175) rfl))) (Or.inl (hw _ (List.mem_of_getElem? (i := 172) rfl))) (by decide) (t := (.object "java/util/List")) (t' := (.array (.object "java/lang/StackTraceElement"))) (by decide) (by decide)))) ((E1.wr W246).wr W249) (Or.inl (hw _ (List.mem_of_getElem? (i := 175) rfl))) (hw _ (List.mem_of_getElem? (i := 10) rfl)) (ty := (.object "java/util/List")) (by decide) rfl rfl (hb hby o_d30_20) fun T252 h252 X252 e252 W252 => ?_
    have F252 := Fld.same W252 ((G2.other W246 (Or.inr (slot_ne (C := "com/example/twinstate/twinstate/TransactionRolledBackException") (Or.inl (hw _ (List.mem_of_getElem? (i := 175) rfl))) (Or.inl (hw _ (List.mem_of_getElem? (i := 169) rfl))) (by decide) (t := (.object "java/util/List")) (t' := (.object "java/lang/Throwable")) (by decide) (by decide)))).other W249 (Or.inr (slot_ne (C := "com/example/twinstate/twinstate/TransactionRolledBackException") (Or.inl (hw _ (List.mem_of_getElem? (i := 175) rfl))) (Or.inl (hw _ (List.mem_of_getElem? (i := 172) rfl))) (by decide) (t := (.object "java/util/List")) (t' := (.array (.object "java/lang/StackTraceElement"))) (by decide) (by decide))))
    have N252 := Fr.snoc X252 N249 g1
    have O253 := O250.wr W252 g1
    have K253 : Keep h0 h252 [a1] := K250.wr W252 (Or.inl (List.mem_of_getElem? (i := 0) rfl))
    refine o_aloadN (v := (.ref a1)) (pc := 23) X252 hx (hb hby o_d30_23) rfl rfl ?_
    refine o_fill (pc := 24) X252 hx hst hZ (rc := "com/example/twinstate/twinstate/TransactionRolledBackException") (n := 7) hown (o_oW hw) (hw _ (List.mem_of_getElem? (i := 10) rfl)) (by rw [hh]; exact HT) hTK hBe e252 (((E1.wr W246).wr W249).wr W252) (((U1.wr W246).wr W249).wr W252) (((G3.other W246 (Or.inr (slot_ne (C := "com/example/twinstate/twinstate/TransactionRolledBackException") (Or.inl (hw _ (List.mem_of_getElem? (i := 200) rfl))) (Or.inl (hw _ (List.mem_of_getElem? (i := 169) rfl))) (by decide) (t := (.object "java/lang/Object")) (t' := (.object "java/lang/Throwable")) (by decide) (by decide)))).other W249 (Or.inr (slot_ne (C := "com/example/twinstate/twinstate/TransactionRolledBackException") (Or.inl (hw _ (List.mem_of_getElem? (i := 200) rfl))) (Or.inl (hw _ (List.mem_of_getElem? (i := 172) rfl))) (by decide) (t := (.object "java/lang/Object")) (t' := (.array (.object "java/lang/StackTraceElement"))) (by decide) (by decide)))).other W252 (Or.inr (slot_ne (C := "com/example/twinstate/twinstate/TransactionRolledBackException") (Or.inl (hw _ (List.mem_of_getElem? (i := 200) rfl))) (Or.inl (hw _ (List.mem_of_getElem? (i := 175) rfl))) (by decide) (t := (.object "java/lang/Object")) (t' := (.object "java/util/List")) (by decide) (by decide)))) (⟨(.ref ux), rfl⟩ : RefV) (F249.other W252 (Or.inr (slot_ne (C := "com/example/twinstate/twinstate/TransactionRolledBackException") (Or.inl (hw _ (List.mem_of_getElem? (i := 172) rfl))) (Or.inl (hw _ (List.mem_of_getElem? (i := 175) rfl))) (by decide) (t := (.array (.object "java/lang/StackTraceElement"))) (t' := (.object "java/util/List")) (by decide) (by decide)))) (SU.ext O253.2) (by intro y hy; simp at hy; rcases hy with rfl | rfl | rfl <;> rfl) (by rw [hml]; rfl) (hb hby o_d30_24) (by decide) (Wd := 0) (Nat.le_of_ble_eq_true rfl) (by decide) (by decide) (by decide) fun T254 h254 L254 X254 e254 HL254 K254 Ex254 HP254 => ?_
    have Q254_0 : Fld Z h254 a1 "java/lang/Throwable" "detailMessage" "Ljava/lang/String;" .null := HP254 _ _ _ _ (((G5.other W246 (Or.inr (slot_ne (C := "com/example/twinstate/twinstate/TransactionRolledBackException") (Or.inl (hw _ (List.mem_of_getElem? (i := 199) rfl))) (Or.inl (hw _ (List.mem_of_getElem? (i := 169) rfl))) (by decide) (t := (.object "java/lang/String")) (t' := (.object "java/lang/Throwable")) (by decide) (by decide)))).other W249 (Or.inr (slot_ne (C := "com/example/twinstate/twinstate/TransactionRolledBackException") (Or.inl (hw _ (List.mem_of_getElem? (i := 199) rfl))) (Or.inl (hw _ (List.mem_of_getElem? (i := 172) rfl))) (by decide) (t := (.object "java/lang/String")) (t' := (.array (.object "java/lang/StackTraceElement"))) (by decide) (by decide)))).other W252 (Or.inr (slot_ne (C := "com/example/twinstate/twinstate/TransactionRolledBackException") (Or.inl (hw _ (List.mem_of_getElem? (i := 199) rfl))) (Or.inl (hw _ (List.mem_of_getElem? (i := 175) rfl))) (by decide) (t := (.object "java/lang/String")) (t' := (.object "java/util/List")) (by decide) (by decide)))) (slot_ne (C := "com/example/twinstate/twinstate/TransactionRolledBackException") (Or.inl (hw _ (List.mem_of_getElem? (i := 200) rfl))) (Or.inl (hw _ (List.mem_of_getElem? (i := 199) rfl))) (by decide) (t := (.object "java/lang/Object")) (t' := (.object "java/lang/String")) (by decide) (by decide)) (slot_ne (C := "com/example/twinstate/twinstate/TransactionRolledBackException") (Or.inl (hw _ (List.mem_of_getElem? (i := 201) rfl))) (Or.inl (hw _ (List.mem_of_getElem? (i := 199) rfl))) (by decide) (t := .int) (t' := (.object "java/lang/String")) (by decide) (by decide)) (slot_ne (C := "com/example/twinstate/twinstate/TransactionRolledBackException") (Or.inl (hw _ (List.mem_of_getElem? (i := 172) rfl))) (Or.inl (hw _ (List.mem_of_getElem? (i := 199) rfl))) (by decide) (t := (.array (.object "java/lang/StackTraceElement"))) (t' := (.object "java/lang/String")) (by decide) (by decide))
    have Q254_1 : Fld Z h254 a1 "com/example/twinstate/twinstate/TransactionRolledBackException" "reason" "Ljava/lang/String;" .null := HP254 _ _ _ _ (((Gr.other W246 (Or.inr (slot_ne (C := "com/example/twinstate/twinstate/TransactionRolledBackException") (Or.inr (hw _ (List.mem_of_getElem? (i := 205) rfl))) (Or.inl (hw _ (List.mem_of_getElem? (i := 169) rfl))) (by decide) (t := (.object "java/lang/String")) (t' := (.object "java/lang/Throwable")) (by decide) (by decide)))).other W249 (Or.inr (slot_ne (C := "com/example/twinstate/twinstate/TransactionRolledBackException") (Or.inr (hw _ (List.mem_of_getElem? (i := 205) rfl))) (Or.inl (hw _ (List.mem_of_getElem? (i := 172) rfl))) (by decide) (t := (.object "java/lang/String")) (t' := (.array (.object "java/lang/StackTraceElement"))) (by decide) (by decide)))).other W252 (Or.inr (slot_ne (C := "com/example/twinstate/twinstate/TransactionRolledBackException") (Or.inr (hw _ (List.mem_of_getElem? (i := 205) rfl))) (Or.inl (hw _ (List.mem_of_getElem? (i := 175) rfl))) (by decide) (t := (.object "java/lang/String")) (t' := (.object "java/util/List")) (by decide) (by decide)))) (slot_ne (C := "com/example/twinstate/twinstate/TransactionRolledBackException") (Or.inl (hw _ (List.mem_of_getElem? (i := 200) rfl))) (Or.inr (hw _ (List.mem_of_getElem? (i := 205) rfl))) (by decide) (t := (.object "java/lang/Object")) (t' := (.object "java/lang/String")) (by decide) (by decide)) (slot_ne (C := "com/example/twinstate/twinstate/TransactionRolledBackException") (Or.inl (hw _ (List.mem_of_getElem? (i := 201) rfl))) (Or.inr (hw _ (List.mem_of_getElem? (i := 205) rfl))) (by decide) (t := .int) (t' := (.object "java/lang/String")) (by decide) (by decide)) (slot_ne (C := "com/example/twinstate/twinstate/TransactionRolledBackException") (Or.inl (hw _ (List.mem_of_getElem? (i := 172) rfl))) (Or.inr (hw _ (List.mem_of_getElem? (i := 205) rfl))) (by decide) (t := (.array (.object "java/lang/StackTraceElement"))) (t' := (.object "java/lang/String")) (by decide) (by decide))
    have N254 := Fr.app N252 (fun y hy => by rw [HL254 y hy]; exact g1)
    rw [hh] at K254
    have O254 := O0.keep K254 (allS g1 all0)
    refine o_pop (pc := 27) X254 hx (hb hby o_d30_27) rfl ?_
    refine o_aloadN (v := (.ref a1)) (pc := 28) X254 hx (hb hby o_d30_28) rfl rfl ?_
    refine o_aloadN (v := (.ref b)) (pc := 29) X254 hx (hb hby o_d30_29) rfl rfl ?_
    refine o_putF (pc := 30) X254 hx hZ hown (host := "") (Or.inl (hw _ (List.mem_of_getElem? (i := 203) rfl))) Via.refl e254 Q254_0 Ex254 (Or.inl (hw _ (List.mem_of_getElem? (i := 199) rfl))) (hw _ (List.mem_of_getElem? (i := 10) rfl)) (ty := (.object "java/lang/String")) (by decide) rfl rfl (hb hby o_d30_30) fun T255 h255 X255 e255 W255 => ?_
    have F255 := Fld.same W255 Q254_0
    have N255 := Fr.snoc X255 N254 g1
    have O256 := O254.wr W255 g1
    have K256 : Keep h0 h255 [a1] := K254.wr W255 (Or.inl (List.mem_of_getElem? (i := 0) rfl))
    exact o_ret0 (pc := 33) X255 hx hret hlk (hb hby o_d30_33) e255 (by decide) (by decide) ⟨rfl, N255, K256, (Q254_1.other W255 (Or.inr (slot_ne (C := "com/example/twinstate/twinstate/TransactionRolledBackException") (Or.inr (hw _ (List.mem_of_getElem? (i := 205) rfl))) (Or.inl (hw _ (List.mem_of_getElem? (i := 199) rfl))) (by decide) (t := (.object "java/lang/String")) (t' := (.object "java/lang/String")) (by decide) (by decide))))⟩
theorem o_pn_java_lang_Exception : plainName "java/lang/Exception" = true := by first | (simp [plainName, overriddenIn]; done) | decide +kernel
theorem o_d29_0 : decode jdk_59_method_2_code 0 = .ok (.aload_n 0, 1) := by decide +kernel
theorem o_d29_1 : decode jdk_59_method_2_code 1 = .ok (.aload_n 1, 1) := by decide +kernel
theorem o_d29_2 : decode jdk_59_method_2_code 2 = .ok (.invokespecial 7, 3) := by decide +kernel
theorem o_d29_5 : decode jdk_59_method_2_code 5 = .ok (.return_, 1) := by decide +kernel
set_option maxRecDepth 65536 in
set_option maxHeartbeats 40000000 in
theorem rmEx (l : Launch) (Z : State) (a0 : Array Value) (hw : ∀ d ∈ tables_1, d.before a0 Z = true) (ws : List Jvm.Cond) (a1 b : Addr) (u w : Value) (h0 : Heap) (n0 : Nat) (O0 : Old Z n0 h0) (E1 : Exa Z h0 a1 "com/example/twinstate/twinstate/TransactionRolledBackException") (U1 : Unt h0 a1) (G0 : Fld Z h0 a1 "java/lang/Throwable" "cause" "Ljava/lang/Throwable;" .null) (G1 : Fld Z h0 a1 "java/lang/Throwable" "stackTrace" "[Ljava/lang/StackTraceElement;" .null) (G2 : Fld Z h0 a1 "java/lang/Throwable" "suppressedExceptions" "Ljava/util/List;" .null) (G3 : Fld Z h0 a1 "java/lang/Throwable" "backtrace" "Ljava/lang/Object;" .null) (G4 : Fld Z h0 a1 "java/lang/Throwable" "depth" "I" (.int (0 : Int32))) (G5 : Fld Z h0 a1 "java/lang/Throwable" "detailMessage" "Ljava/lang/String;" .null) (Gr : Fld Z h0 a1 "com/example/twinstate/twinstate/TransactionRolledBackException" "reason" "Ljava/lang/String;" .null) (g1 : n0 ≤ a1) (HT : ThS Z h0) (hst : l.stackTraces = true) (SU : Sta Z Z.heap "java/lang/Throwable" "UNASSIGNED_STACK" "[Ljava/lang/StackTraceElement;" u) (SW : Sta Z Z.heap "java/lang/Throwable" "SUPPRESSED_SENTINEL" "Ljava/util/List;" w) (hu : u.isRef = true) (hw2 : w.isRef = true) :
    CtP l Z (⟨"java/lang/Exception", "<init>", "(Ljava/lang/String;)V"⟩ : MethodName) jdk_59_method_2_code 2 none ({ frames := 4, cells := 1, slots := 2752, locals := 55 } : Room) ws #[(.ref a1), (.ref b)] h0 (fun v h L => v = none ∧ Fr n0 L ∧ Keep h0 h [a1] ∧ Fld Z h a1 "com/example/twinstate/twinstate/TransactionRolledBackException" "reason" "Ljava/lang/String;" .null) := by
  refine o_bodyP (plainFor_of_name o_pn_java_lang_Exception) ?_
  intro p e s m below meth c s₁ X0 hx hby hml hret hlk hown hnm hZ e0 hh hTK hBe
  have N0 := Fr.nil n0
  refine o_top (g' := (mkF m 0 #[.val (.ref a1), .val (.ref b)] [])) (by first | (simp [entryFrame, mkF, argsToLocals, Value.category]; done) | rfl) ?_
  refine o_aloadN (v := (.ref a1)) (pc := 0) X0 hx (hb hby o_d29_0) rfl rfl ?_
  refine o_aloadN (v := (.ref b)) (pc := 1) X0 hx (hb hby o_d29_1) rfl rfl ?_
  refine o_callNP (pc := 2) X0 hx hZ (y := (⟨"java/lang/Throwable", "<init>", "(Ljava/lang/String;)V"⟩ : MethodName)) (a := a1) (argsL := [(.ref b)]) (rest := []) rfl hown hTK hBe (hw _ (List.mem_of_getElem? (i := 161) rfl)) (hw _ (List.mem_of_getElem? (i := 162) rfl)) (hw _ (List.mem_of_getElem? (i := 165) rfl)) (hw _ (List.mem_of_getElem? (i := 166) rfl)) (by decide) (rmTh l Z a0 hw [] a1 b u w h0 n0 O0 E1 U1 G0 G1 G2 G3 G4 G5 Gr g1 HT hst SU SW hu hw2) e0 (by rw [hml]; rfl) (lenOf o_pd10 rfl) (has := rfl) (hst := rfl) (W := 0) (Nat.le_of_ble_eq_true rfl) (hb hby o_d29_2) (by decide) (by decide) (by decide) (by decide) fun v257 T257 h257 L257 X257 e257 q257 => ?_
  obtain ⟨rfl, N257q, K257, FR257⟩ := q257
  have N257 := Fr.app N0 N257q
  have O258 := O0.keep K257 (allS g1 all0)
  have K258 : Keep h0 h257 [a1] := (Keep.refl h0 [a1]).trans K257 (allS (Or.inl (List.mem_of_getElem? (i := 0) rfl)) all0)
  show Go p e below T257 (mkF m 5 #[.val (.ref a1), .val (.ref b)] []) _
  exact o_ret0 (pc := 5) X257 hx hret hlk (hb hby o_d29_5) e257 (by decide) (by decide) ⟨rfl, N257, K258, FR257⟩
theorem o_pn_java_lang_RuntimeException : plainName "java/lang/RuntimeException" = true := by first | (simp [plainName, overriddenIn]; done) | decide +kernel
theorem o_d28_0 : decode jdk_58_method_2_code 0 = .ok (.aload_n 0, 1) := by decide +kernel
theorem o_d28_1 : decode jdk_58_method_2_code 1 = .ok (.aload_n 1, 1) := by decide +kernel
theorem o_d28_2 : decode jdk_58_method_2_code 2 = .ok (.invokespecial 7, 3) := by decide +kernel
theorem o_d28_5 : decode jdk_58_method_2_code 5 = .ok (.return_, 1) := by decide +kernel
set_option maxRecDepth 65536 in
set_option maxHeartbeats 40000000 in
theorem rmRx (l : Launch) (Z : State) (a0 : Array Value) (hw : ∀ d ∈ tables_1, d.before a0 Z = true) (ws : List Jvm.Cond) (a1 b : Addr) (u w : Value) (h0 : Heap) (n0 : Nat) (O0 : Old Z n0 h0) (E1 : Exa Z h0 a1 "com/example/twinstate/twinstate/TransactionRolledBackException") (U1 : Unt h0 a1) (G0 : Fld Z h0 a1 "java/lang/Throwable" "cause" "Ljava/lang/Throwable;" .null) (G1 : Fld Z h0 a1 "java/lang/Throwable" "stackTrace" "[Ljava/lang/StackTraceElement;" .null) (G2 : Fld Z h0 a1 "java/lang/Throwable" "suppressedExceptions" "Ljava/util/List;" .null) (G3 : Fld Z h0 a1 "java/lang/Throwable" "backtrace" "Ljava/lang/Object;" .null) (G4 : Fld Z h0 a1 "java/lang/Throwable" "depth" "I" (.int (0 : Int32))) (G5 : Fld Z h0 a1 "java/lang/Throwable" "detailMessage" "Ljava/lang/String;" .null) (Gr : Fld Z h0 a1 "com/example/twinstate/twinstate/TransactionRolledBackException" "reason" "Ljava/lang/String;" .null) (g1 : n0 ≤ a1) (HT : ThS Z h0) (hst : l.stackTraces = true) (SU : Sta Z Z.heap "java/lang/Throwable" "UNASSIGNED_STACK" "[Ljava/lang/StackTraceElement;" u) (SW : Sta Z Z.heap "java/lang/Throwable" "SUPPRESSED_SENTINEL" "Ljava/util/List;" w) (hu : u.isRef = true) (hw2 : w.isRef = true) :
    CtP l Z (⟨"java/lang/RuntimeException", "<init>", "(Ljava/lang/String;)V"⟩ : MethodName) jdk_58_method_2_code 2 none ({ frames := 5, cells := 1, slots := 2752, locals := 68 } : Room) ws #[(.ref a1), (.ref b)] h0 (fun v h L => v = none ∧ Fr n0 L ∧ Keep h0 h [a1] ∧ Fld Z h a1 "com/example/twinstate/twinstate/TransactionRolledBackException" "reason" "Ljava/lang/String;" .null) := by
  refine o_bodyP (plainFor_of_name o_pn_java_lang_RuntimeException) ?_
  intro p e s m below meth c s₁ X0 hx hby hml hret hlk hown hnm hZ e0 hh hTK hBe
  have N0 := Fr.nil n0
  refine o_top (g' := (mkF m 0 #[.val (.ref a1), .val (.ref b)] [])) (by first | (simp [entryFrame, mkF, argsToLocals, Value.category]; done) | rfl) ?_
  refine o_aloadN (v := (.ref a1)) (pc := 0) X0 hx (hb hby o_d28_0) rfl rfl ?_
  refine o_aloadN (v := (.ref b)) (pc := 1) X0 hx (hb hby o_d28_1) rfl rfl ?_
  refine o_callNP (pc := 2) X0 hx hZ (y := (⟨"java/lang/Exception", "<init>", "(Ljava/lang/String;)V"⟩ : MethodName)) (a := a1) (argsL := [(.ref b)]) (rest := []) rfl hown hTK hBe (hw _ (List.mem_of_getElem? (i := 155) rfl)) (hw _ (List.mem_of_getElem? (i := 156) rfl)) (hw _ (List.mem_of_getElem? (i := 159) rfl)) (hw _ (List.mem_of_getElem? (i := 160) rfl)) (by decide) (rmEx l Z a0 hw [] a1 b u w h0 n0 O0 E1 U1 G0 G1 G2 G3 G4 G5 Gr g1 HT hst SU SW hu hw2) e0 (by rw [hml]; rfl) (lenOf o_pd10 rfl) (has := rfl) (hst := rfl) (W := 0) (Nat.le_of_ble_eq_true rfl) (hb hby o_d28_2) (by decide) (by decide) (by decide) (by decide) fun v259 T259 h259 L259 X259 e259 q259 => ?_
  obtain ⟨rfl, N259q, K259, FR259⟩ := q259
  have N259 := Fr.app N0 N259q
  have O260 := O0.keep K259 (allS g1 all0)
  have K260 : Keep h0 h259 [a1] := (Keep.refl h0 [a1]).trans K259 (allS (Or.inl (List.mem_of_getElem? (i := 0) rfl)) all0)
  show Go p e below T259 (mkF m 5 #[.val (.ref a1), .val (.ref b)] []) _
  exact o_ret0 (pc := 5) X259 hx hret hlk (hb hby o_d28_5) e259 (by decide) (by decide) ⟨rfl, N259, K260, FR259⟩
theorem o_EW {Z : State} {a0 : Array Value} (hw : ∀ d ∈ tables_1, d.before a0 Z = true) : EW Z a0 consts_1 :=
  (EW.cons (hw _ (List.mem_of_getElem? (i := 35) rfl)) (by decide) (EW.cons (hw _ (List.mem_of_getElem? (i := 211) rfl)) (by decide) (EW.cons (hw _ (List.mem_of_getElem? (i := 223) rfl)) (by decide) (EW.cons (hw _ (List.mem_of_getElem? (i := 224) rfl)) (by decide) (EW.cons (hw _ (List.mem_of_getElem? (i := 1) rfl)) (by decide) (EW.cons (hw _ (List.mem_of_getElem? (i := 250) rfl)) (by decide) (EW.cons (hw _ (List.mem_of_getElem? (i := 251) rfl)) (by decide) (EW.cons (hw _ (List.mem_of_getElem? (i := 217) rfl)) (by decide) (EW.cons (hw _ (List.mem_of_getElem? (i := 243) rfl)) (by decide) (EW.cons (hw _ (List.mem_of_getElem? (i := 252) rfl)) (by decide) (EW.cons (hw _ (List.mem_of_getElem? (i := 262) rfl)) (by decide) EW.nil)))))))))))
theorem o_pn_com_example_twinstate_twinstate_TransactionRolledBackException : plainName "com/example/twinstate/twinstate/TransactionRolledBackException" = true := by first | (simp [plainName, overriddenIn]; done) | decide +kernel
theorem o_d1_0 : decode prog_10_method_1_code 0 = .ok (.aload_n 0, 1) := by decide +kernel
theorem o_d1_1 : decode prog_10_method_1_code 1 = .ok (.new 1, 3) := by decide +kernel
theorem o_d1_4 : decode prog_10_method_1_code 4 = .ok (.dup, 1) := by decide +kernel
theorem o_d1_5 : decode prog_10_method_1_code 5 = .ok (.invokespecial 3, 3) := by decide +kernel
theorem o_pd23 : parseMethodDescriptor "()V" = some ⟨[], none⟩ := by decide +kernel
theorem o_d1_8 : decode prog_10_method_1_code 8 = .ok (.ldc 7, 2) := by decide +kernel
theorem o_wS {Z : State} {a0 : Array Value} (hw : ∀ d ∈ tables_1, d.before a0 Z = true) : ∀ a ∈ Bundle.stringAtoms, a.before a0 Z = true := by
  intro a ha
  simp only [Bundle.stringAtoms, List.mem_cons, List.not_mem_nil, or_false] at ha
  rcases ha with rfl | rfl | rfl | rfl | rfl | rfl | rfl
  · exact (hw _ (List.mem_of_getElem? (i := 2) rfl))
  · exact (hw _ (List.mem_of_getElem? (i := 3) rfl))
  · exact (hw _ (List.mem_of_getElem? (i := 4) rfl))
  · exact (hw _ (List.mem_of_getElem? (i := 5) rfl))
  · exact (hw _ (List.mem_of_getElem? (i := 6) rfl))
  · exact (hw _ (List.mem_of_getElem? (i := 7) rfl))
  · exact (hw _ (List.mem_of_getElem? (i := 8) rfl))
theorem o_d1_10 : decode prog_10_method_1_code 10 = .ok (.invokevirtual 9, 3) := by decide +kernel
theorem o_pd24 : parseMethodDescriptor "(Ljava/lang/String;)Ljava/lang/StringBuilder;" = some ⟨[(.object "java/lang/String")], some (.object "java/lang/StringBuilder")⟩ := by decide +kernel
theorem o_d1_13 : decode prog_10_method_1_code 13 = .ok (.aload_n 1, 1) := by decide +kernel
theorem o_d1_14 : decode prog_10_method_1_code 14 = .ok (.invokevirtual 9, 3) := by decide +kernel
theorem o_d1_17 : decode prog_10_method_1_code 17 = .ok (.invokevirtual 13, 3) := by decide +kernel
theorem o_pd25 : parseMethodDescriptor "()Ljava/lang/String;" = some ⟨[], some (.object "java/lang/String")⟩ := by decide +kernel
theorem o_d1_20 : decode prog_10_method_1_code 20 = .ok (.invokespecial 17, 3) := by decide +kernel
theorem o_d1_23 : decode prog_10_method_1_code 23 = .ok (.aload_n 0, 1) := by decide +kernel
theorem o_d1_24 : decode prog_10_method_1_code 24 = .ok (.aload_n 1, 1) := by decide +kernel
theorem o_d1_25 : decode prog_10_method_1_code 25 = .ok (.putfield 22, 3) := by decide +kernel
theorem o_d1_28 : decode prog_10_method_1_code 28 = .ok (.return_, 1) := by decide +kernel
set_option maxRecDepth 65536 in
set_option maxHeartbeats 40000000 in
theorem rmIA (l : Launch) (Z : State) (a0 : Array Value) (hw : ∀ d ∈ tables_1, d.before a0 Z = true) (ws : List Jvm.Cond) (a1 a2 d2 : Addr) (z : Int32) (u w : Value) (cs : Int32) (h0 : Heap) (n0 : Nat) (O0 : Old Z n0 h0) (E1 : Exa Z h0 a1 "com/example/twinstate/twinstate/TransactionRolledBackException") (U1 : Unt h0 a1) (G0 : Fld Z h0 a1 "java/lang/Throwable" "cause" "Ljava/lang/Throwable;" .null) (G1 : Fld Z h0 a1 "java/lang/Throwable" "stackTrace" "[Ljava/lang/StackTraceElement;" .null) (G2 : Fld Z h0 a1 "java/lang/Throwable" "suppressedExceptions" "Ljava/util/List;" .null) (G3 : Fld Z h0 a1 "java/lang/Throwable" "backtrace" "Ljava/lang/Object;" .null) (G4 : Fld Z h0 a1 "java/lang/Throwable" "depth" "I" (.int (0 : Int32))) (G5 : Fld Z h0 a1 "java/lang/Throwable" "detailMessage" "Ljava/lang/String;" .null) (Gr : Fld Z h0 a1 "com/example/twinstate/twinstate/TransactionRolledBackException" "reason" "Ljava/lang/String;" .null) (g1 : n0 ≤ a1) (HT : ThS Z h0) (hst : l.stackTraces = true) (SU : Sta Z Z.heap "java/lang/Throwable" "UNASSIGNED_STACK" "[Ljava/lang/StackTraceElement;" u) (SW : Sta Z Z.heap "java/lang/Throwable" "SUPPRESSED_SENTINEL" "Ljava/util/List;" w) (hu : u.isRef = true) (hw2 : w.isRef = true) (SC : Sta Z Z.heap "java/lang/String" "COMPACT_STRINGS" "Z" (.int cs)) (hcs : ¬ cs = (0 : Int32)) (E2 : Exa Z h0 a2 "java/lang/String") (C2 : Fld Z h0 a2 "java/lang/String" "coder" "B" (.int (0 : Int32))) (F2 : Fld Z h0 a2 "java/lang/String" "value" "[B" (.ref d2)) (V2 : Byt Z h0 d2 z) (hz : z ∈ ([0, 1, 2, 3] : List Int32)) (n12 : a2 ≠ a1) (n1d : d2 ≠ a1) :
    CtK l Z consts_1 (⟨"com/example/twinstate/twinstate/TransactionRolledBackException", "<init>", "(Ljava/lang/String;)V"⟩ : MethodName) prog_10_method_1_code 2 none ({ frames := 6, cells := 7, slots := 2862, locals := 114 } : Room) ws #[(.ref a1), (.ref a2)] h0 (fun v h L => v = none ∧ Fr n0 L ∧ Keep h0 h [a1] ∧ Fld Z h a1 "com/example/twinstate/twinstate/TransactionRolledBackException" "reason" "Ljava/lang/String;" (.ref a2)) := by
  refine o_bodyK (plainFor_of_name o_pn_com_example_twinstate_twinstate_TransactionRolledBackException) ?_
  intro p e s m below meth c s₁ X0 hx hby hml hret hlk hown hnm hZ e0 hh H0 hTK hBe
  have N0 := Fr.nil n0
  have B0 := BsH.start H0
  have hZ0 := hZ
  refine o_top (g' := (mkF m 0 #[.val (.ref a1), .val (.ref a2)] [])) (by first | (simp [entryFrame, mkF, argsToLocals, Value.category]; done) | rfl) ?_
  refine o_aloadN (v := (.ref a1)) (pc := 0) X0 hx (hb hby o_d1_0) rfl rfl ?_
  refine o_new (pc := 1) X0 hx hZ hown (hw _ (List.mem_of_getElem? (i := 15) rfl)) (hw _ (List.mem_of_getElem? (i := 16) rfl)) (hw _ (List.mem_of_getElem? (i := 17) rfl)) e0 (hb hby o_d1_1) (by decide) (by decide) fun T261 h261 b261 X261 e261 g261 E261 A261 D261 U261 => ?_
  have O262 := O0.ext E261
  have B262 := B0.ext E261
  have K262 : Keep h0 h261 [a1] := (Keep.refl h0 [a1]).ext E261
  have F261_value : Fld Z h261 b261 "java/lang/AbstractStringBuilder" "value" "[B" .null := D261 (Or.inl (hw _ (List.mem_of_getElem? (i := 32) rfl))) (ty := (.array .byte)) (by decide)
  have F261_coder : Fld Z h261 b261 "java/lang/AbstractStringBuilder" "coder" "B" (.int (0 : Int32)) := D261 (Or.inl (hw _ (List.mem_of_getElem? (i := 34) rfl))) (ty := .byte) (by decide)
  have F261_count : Fld Z h261 b261 "java/lang/AbstractStringBuilder" "count" "I" (.int (0 : Int32)) := D261 (Or.inl (hw _ (List.mem_of_getElem? (i := 60) rfl))) (ty := .int) (by decide)
  refine o_dup (pc := 4) X261 hx (hb hby o_d1_4) rfl ?_
  refine o_callN (pc := 5) X261 hx hZ (y := (⟨"java/lang/StringBuilder", "<init>", "()V"⟩ : MethodName)) (a := b261) (argsL := []) (rest := [(.ref b261), (.ref a1)]) rfl hown (hw _ (List.mem_of_getElem? (i := 18) rfl)) (hw _ (List.mem_of_getElem? (i := 19) rfl)) (hw _ (List.mem_of_getElem? (i := 17) rfl)) (hw _ (List.mem_of_getElem? (i := 20) rfl)) (by decide) (rmBI l Z a0 hw [] b261 cs h261 n0 O262 A261 F261_value F261_coder F261_count (Nat.le_trans (o_n0 O0) g261) SC hcs) e261 (by rw [hml]; rfl) (lenOf o_pd23 rfl) (has := rfl) (hst := rfl) (W := 2) (Nat.le_of_ble_eq_true rfl) (hb hby o_d1_5) (by decide) (by decide) (by decide) (by decide) fun v263 T263 h263 L263 X263 e263 q263 => ?_
  obtain ⟨b263, rfl, g263, N263q, K263, F263v, F263c, F263n, V263, Y263⟩ := q263
  have N263 := Fr.app N0 N263q
  have O264 := O262.keep K263 (allS (Nat.le_trans (o_n0 O0) g261) all0)
  have B264 := B262.keep K263 (allS (Safe.exa hZ0.alike A261 (by decide) (by decide)) all0)
  have K264 : Keep h0 h263 [a1] := K262.trans K263 (allS (Or.inr (Nat.le_trans (Keep.refl h0 [a1]).1 g261)) all0)
  show Go p e below T263 (mkF m 8 #[.val (.ref a1), .val (.ref a2)] [(.ref b261), (.ref a1)]) _
  refine o_ldcH (pc := 8) X263 hx hZ hown (hw _ (List.mem_of_getElem? (i := 35) rfl)) (o_wS hw) e263 (o_EW hw) (List.mem_of_getElem? (i := 0) rfl) B264 (vs := [(.int (114 : Int32)), (.int (111 : Int32)), (.int (108 : Int32)), (.int (108 : Int32)), (.int (101 : Int32)), (.int (100 : Int32)), (.int (32 : Int32)), (.int (98 : Int32)), (.int (97 : Int32)), (.int (99 : Int32)), (.int (107 : Int32)), (.int (58 : Int32)), (.int (32 : Int32))]) (z := (13 : Int32)) ⟨by decide, rfl⟩ (by decide) rfl (hb hby o_d1_8) 52 (by decide) (by decide) (by decide) (by decide) fun sB265 b265 T265 h265 d265 k265 X265 e265 E265 B265 hZ265 hown265 hC265 Le265 Lc265 Lv265 La265 Sf265 => ?_
  have O266 := O264.ext E265
  have K266 : Keep h0 h265 [a1] := K264.ext E265
  refine o_callV (pc := 10) X265 hx hZ265 (y := (⟨"java/lang/StringBuilder", "append", "(Ljava/lang/String;)Ljava/lang/StringBuilder;"⟩ : MethodName)) (z := (⟨"java/lang/StringBuilder", "append", "(Ljava/lang/String;)Ljava/lang/StringBuilder;"⟩ : MethodName)) (C := "java/lang/StringBuilder") (a := b261) (argsL := [(.ref b265)]) (rest := [(.ref a1)]) hown265 (hw _ (List.mem_of_getElem? (i := 36) rfl)) (hw _ (List.mem_of_getElem? (i := 37) rfl)) (notFace_of_selects (args := #[]) (mvT hZ265 (hw _ (List.mem_of_getElem? (i := 39) rfl)))) (hw _ (List.mem_of_getElem? (i := 39) rfl)) (hw _ (List.mem_of_getElem? (i := 38) rfl)) (hw _ (List.mem_of_getElem? (i := 17) rfl)) (hw _ (List.mem_of_getElem? (i := 40) rfl)) (by decide) (rmAB0 l Z a0 hw [] b261 b263 b265 d265 (13 : Int32) cs h265 n0 O266 ((A261.keep K263).ext E265) (F263v.ext E265) (F263c.ext E265) (F263n.ext E265) (V263.ext E265) (Y263.ext E265) (Nat.le_trans (o_n0 O0) g261) (Nat.le_trans (o_n0 O262) g263) (Nat.ne_of_lt (Nat.lt_of_lt_of_le A261.lt g263)) Le265 Lc265 Lv265 (Byt.of La265 rfl) SC hcs (by decide) (Ne.symm (Sf265 _ (Safe.exa hZ265.alike ((A261.keep K263).ext E265) (by decide) (by decide))).1) (Ne.symm (Sf265 _ (CHr.safe hC265 V263.lt (Safe.keep K263 (allS (Safe.exa hZ0.alike A261 (by decide) (by decide)) all0) B262.chv (Safe.new g263)))).1) (Ne.symm (Sf265 _ (Safe.exa hZ265.alike ((A261.keep K263).ext E265) (by decide) (by decide))).2) (Ne.symm (Sf265 _ (CHr.safe hC265 V263.lt (Safe.keep K263 (allS (Safe.exa hZ0.alike A261 (by decide) (by decide)) all0) B262.chv (Safe.new g263)))).2)) e265 ((A261.keep K263).ext E265) (by rw [hml]; rfl) (lenOf o_pd24 rfl) (has := rfl) (hst := rfl) (W := 1) (Nat.le_of_ble_eq_true rfl) (hb hby o_d1_10) (by decide) (by decide) (by decide) (by decide) fun v267 T267 h267 L267 X267 e267 q267 => ?_
  obtain ⟨rfl, N267q, K267, F267v, F267c, F267n, V267, Y267⟩ := q267
  have N267 := Fr.app N263 N267q
  have O268 := O266.keep K267 (allS (Nat.le_trans (o_n0 O0) g261) (allS (Nat.le_trans (o_n0 O262) g263) all0))
  have B268 := B265.keep K267 (allS (Safe.exa hZ265.alike ((A261.keep K263).ext E265) (by decide) (by decide)) (allS (CHr.safe hC265 V263.lt (Safe.keep K263 (allS (Safe.exa hZ0.alike A261 (by decide) (by decide)) all0) B262.chv (Safe.new g263))) all0))
  have K268 : Keep h0 h267 [a1] := K266.trans K267 (allS (Or.inr (Nat.le_trans (Keep.refl h0 [a1]).1 g261)) (allS (Or.inr (Nat.le_trans K262.1 g263)) all0))
  show Go p e below T267 (mkF m 13 #[.val (.ref a1), .val (.ref a2)] [(.ref b261), (.ref a1)]) _
  refine o_aloadN (v := (.ref a2)) (pc := 13) X267 hx (hb hby o_d1_13) rfl rfl ?_
  refine o_callV (pc := 14) X267 hx hZ265 (y := (⟨"java/lang/StringBuilder", "append", "(Ljava/lang/String;)Ljava/lang/StringBuilder;"⟩ : MethodName)) (z := (⟨"java/lang/StringBuilder", "append", "(Ljava/lang/String;)Ljava/lang/StringBuilder;"⟩ : MethodName)) (C := "java/lang/StringBuilder") (a := b261) (argsL := [(.ref a2)]) (rest := [(.ref a1)]) hown265 (hw _ (List.mem_of_getElem? (i := 36) rfl)) (hw _ (List.mem_of_getElem? (i := 37) rfl)) (notFace_of_selects (args := #[]) (mvT hZ265 (hw _ (List.mem_of_getElem? (i := 39) rfl)))) (hw _ (List.mem_of_getElem? (i := 39) rfl)) (hw _ (List.mem_of_getElem? (i := 38) rfl)) (hw _ (List.mem_of_getElem? (i := 17) rfl)) (hw _ (List.mem_of_getElem? (i := 40) rfl)) (by decide) (rmABA l Z a0 hw [] b261 b263 a2 d2 z cs h267 n0 O268 (((A261.keep K263).ext E265).keep K267) F267v F267c F267n V267 Y267 (Nat.le_trans (o_n0 O0) g261) (Nat.le_trans (o_n0 O262) g263) (Nat.ne_of_lt (Nat.lt_of_lt_of_le A261.lt g263)) ((((E2.ext E261).keep K263).ext E265).keep K267) ((((C2.ext E261).keep K263 (ninS (Nat.ne_of_lt (Nat.lt_of_lt_of_le E2.lt g261)) nin0)).ext E265).keep K267 (ninS (Nat.ne_of_lt (Nat.lt_of_lt_of_le E2.lt g261)) (ninS (Nat.ne_of_lt (Nat.lt_of_lt_of_le (E2.ext E261).lt g263)) nin0))) ((((F2.ext E261).keep K263 (ninS (Nat.ne_of_lt (Nat.lt_of_lt_of_le E2.lt g261)) nin0)).ext E265).keep K267 (ninS (Nat.ne_of_lt (Nat.lt_of_lt_of_le E2.lt g261)) (ninS (Nat.ne_of_lt (Nat.lt_of_lt_of_le (E2.ext E261).lt g263)) nin0))) ((((V2.ext E261).keep K263 (ninS (Nat.ne_of_lt (Nat.lt_of_lt_of_le V2.lt g261)) nin0)).ext E265).keep K267 (ninS (Nat.ne_of_lt (Nat.lt_of_lt_of_le V2.lt g261)) (ninS (Nat.ne_of_lt (Nat.lt_of_lt_of_le (V2.ext E261).lt g263)) nin0))) SC hcs hz (Nat.ne_of_lt (Nat.lt_of_lt_of_le E2.lt g261)) (Nat.ne_of_lt (Nat.lt_of_lt_of_le (E2.ext E261).lt g263)) (Nat.ne_of_lt (Nat.lt_of_lt_of_le V2.lt g261)) (Nat.ne_of_lt (Nat.lt_of_lt_of_le (V2.ext E261).lt g263))) e267 (((A261.keep K263).ext E265).keep K267) (by rw [hml]; rfl) (lenOf o_pd24 rfl) (has := rfl) (hst := rfl) (W := 1) (Nat.le_of_ble_eq_true rfl) (hb hby o_d1_14) (by decide) (by decide) (by decide) (by decide) fun v269 T269 h269 L269 X269 e269 q269 => ?_
  obtain ⟨rfl, N269q, K269, F269v, F269c, F269n, V269, Y269⟩ := q269
  have N269 := Fr.app N267 N269q
  have O270 := O268.keep K269 (allS (Nat.le_trans (o_n0 O0) g261) (allS (Nat.le_trans (o_n0 O262) g263) all0))
  have B270 := B268.keep K269 (allS (Safe.exa hZ265.alike (((A261.keep K263).ext E265).keep K267) (by decide) (by decide)) (allS (Safe.keep K267 (allS (Safe.exa hZ265.alike ((A261.keep K263).ext E265) (by decide) (by decide)) (allS (CHr.safe hC265 V263.lt (Safe.keep K263 (allS (Safe.exa hZ0.alike A261 (by decide) (by decide)) all0) B262.chv (Safe.new g263))) all0)) B265.chv (CHr.safe hC265 Y263.lt (Safe.keep K263 (allS (Safe.exa hZ0.alike A261 (by decide) (by decide)) all0) B262.chv (Safe.new g263)))) all0))
  have K270 : Keep h0 h269 [a1] := K268.trans K269 (allS (Or.inr (Nat.le_trans (Keep.refl h0 [a1]).1 g261)) (allS (Or.inr (Nat.le_trans K262.1 g263)) all0))
  show Go p e below T269 (mkF m 17 #[.val (.ref a1), .val (.ref a2)] [(.ref b261), (.ref a1)]) _
  refine o_callV (pc := 17) X269 hx hZ265 (y := (⟨"java/lang/StringBuilder", "toString", "()Ljava/lang/String;"⟩ : MethodName)) (z := (⟨"java/lang/StringBuilder", "toString", "()Ljava/lang/String;"⟩ : MethodName)) (C := "java/lang/StringBuilder") (a := b261) (argsL := []) (rest := [(.ref a1)]) hown265 (hw _ (List.mem_of_getElem? (i := 109) rfl)) (hw _ (List.mem_of_getElem? (i := 110) rfl)) (notFace_of_selects (args := #[]) (mvT hZ265 (hw _ (List.mem_of_getElem? (i := 112) rfl)))) (hw _ (List.mem_of_getElem? (i := 112) rfl)) (hw _ (List.mem_of_getElem? (i := 111) rfl)) (hw _ (List.mem_of_getElem? (i := 17) rfl)) (hw _ (List.mem_of_getElem? (i := 113) rfl)) (by decide) (rmTSA l Z a0 hw [] b261 b263 ((13 : Int32) + z) cs h269 n0 O270 ((((A261.keep K263).ext E265).keep K267).keep K269) F269v F269c F269n V269 Y269 (Nat.ne_of_lt (Nat.lt_of_lt_of_le A261.lt g263)) SC hcs (o_all (P := fun z => ((13 : Int32) + z) ∈ ([13, 14, 15, 16] : List Int32)) hz (by decide))) e269 ((((A261.keep K263).ext E265).keep K267).keep K269) (by rw [hml]; rfl) (lenOf o_pd25 rfl) (has := rfl) (hst := rfl) (W := 1) (Nat.le_of_ble_eq_true rfl) (hb hby o_d1_17) (by decide) (by decide) (by decide) (by decide) fun v271 T271 h271 L271 X271 e271 q271 => ?_
  obtain ⟨b271, rfl, g271, N271q, E271⟩ := q271
  have N271 := Fr.app N269 N271q
  have O272 := O270.ext E271
  have B272 := B270.ext E271
  have K272 : Keep h0 h271 [a1] := K270.ext E271
  show Go p e below T271 (mkF m 20 #[.val (.ref a1), .val (.ref a2)] [(.ref b271), (.ref a1)]) _
  refine o_callNP (pc := 20) X271 hx hZ265 (y := (⟨"java/lang/RuntimeException", "<init>", "(Ljava/lang/String;)V"⟩ : MethodName)) (a := a1) (argsL := [(.ref b271)]) (rest := []) rfl hown265 (o_know B272 hTK) (o_knowF B272 hBe) (hw _ (List.mem_of_getElem? (i := 150) rfl)) (hw _ (List.mem_of_getElem? (i := 151) rfl)) (hw _ (List.mem_of_getElem? (i := 153) rfl)) (hw _ (List.mem_of_getElem? (i := 154) rfl)) (by decide) (rmRx l Z a0 hw [] a1 b271 u w h271 n0 O272 ((((((E1.ext E261).keep K263).ext E265).keep K267).keep K269).ext E271) ((Unt.keep K269 (ninS (Nat.ne_of_lt (Nat.lt_of_lt_of_le E1.lt g261)) (ninS (Nat.ne_of_lt (Nat.lt_of_lt_of_le (E1.ext E261).lt g263)) nin0)) (Unt.keep K267 (ninS (Nat.ne_of_lt (Nat.lt_of_lt_of_le E1.lt g261)) (ninS (Nat.ne_of_lt (Nat.lt_of_lt_of_le (E1.ext E261).lt g263)) nin0)) ((Unt.keep K263 (ninS (Nat.ne_of_lt (Nat.lt_of_lt_of_le E1.lt g261)) nin0) (U1.ext E261)).ext E265))).ext E271) ((((((G0.ext E261).keep K263 (ninS (Nat.ne_of_lt (Nat.lt_of_lt_of_le E1.lt g261)) nin0)).ext E265).keep K267 (ninS (Nat.ne_of_lt (Nat.lt_of_lt_of_le E1.lt g261)) (ninS (Nat.ne_of_lt (Nat.lt_of_lt_of_le (E1.ext E261).lt g263)) nin0))).keep K269 (ninS (Nat.ne_of_lt (Nat.lt_of_lt_of_le E1.lt g261)) (ninS (Nat.ne_of_lt (Nat.lt_of_lt_of_le (E1.ext E261).lt g263)) nin0))).ext E271) ((((((G1.ext E261).keep K263 (ninS (Nat.ne_of_lt (Nat.lt_of_lt_of_le E1.lt g261)) nin0)).ext E265).keep K267 (ninS (Nat.ne_of_lt (Nat.lt_of_lt_of_le E1.lt g261)) (ninS (Nat.ne_of_lt (Nat.lt_of_lt_of_le (E1.ext E261).lt g263)) nin0))).keep K269 (ninS (Nat.ne_of_lt (Nat.lt_of_lt_of_le E1.lt g261)) (ninS (Nat.ne_of_lt (Nat.lt_of_lt_of_le (E1.ext E261).lt g263)) nin0))).ext E271) ((((((G2.ext E261).keep K263 (ninS (Nat.ne_of_lt (Nat.lt_of_lt_of_le E1.lt g261)) nin0)).ext E265).keep K267 (ninS (Nat.ne_of_lt (Nat.lt_of_lt_of_le E1.lt g261)) (ninS (Nat.ne_of_lt (Nat.lt_of_lt_of_le (E1.ext E261).lt g263)) nin0))).keep K269 (ninS (Nat.ne_of_lt (Nat.lt_of_lt_of_le E1.lt g261)) (ninS (Nat.ne_of_lt (Nat.lt_of_lt_of_le (E1.ext E261).lt g263)) nin0))).ext E271) ((((((G3.ext E261).keep K263 (ninS (Nat.ne_of_lt (Nat.lt_of_lt_of_le E1.lt g261)) nin0)).ext E265).keep K267 (ninS (Nat.ne_of_lt (Nat.lt_of_lt_of_le E1.lt g261)) (ninS (Nat.ne_of_lt (Nat.lt_of_lt_of_le (E1.ext E261).lt g263)) nin0))).keep K269 (ninS (Nat.ne_of_lt (Nat.lt_of_lt_of_le E1.lt g261)) (ninS (Nat.ne_of_lt (Nat.lt_of_lt_of_le (E1.ext E261).lt g263)) nin0))).ext E271) ((((((G4.ext E261).keep K263 (ninS (Nat.ne_of_lt (Nat.lt_of_lt_of_le E1.lt g261)) nin0)).ext E265).keep K267 (ninS (Nat.ne_of_lt (Nat.lt_of_lt_of_le E1.lt g261)) (ninS (Nat.ne_of_lt (Nat.lt_of_lt_of_le (E1.ext E261).lt g263)) nin0))).keep K269 (ninS (Nat.ne_of_lt (Nat.lt_of_lt_of_le E1.lt g261)) (ninS (Nat.ne_of_lt (Nat.lt_of_lt_of_le (E1.ext E261).lt g263)) nin0))).ext E271) ((((((G5.ext E261).keep K263 (ninS (Nat.ne_of_lt (Nat.lt_of_lt_of_le E1.lt g261)) nin0)).ext E265).keep K267 (ninS (Nat.ne_of_lt (Nat.lt_of_lt_of_le E1.lt g261)) (ninS (Nat.ne_of_lt (Nat.lt_of_lt_of_le (E1.ext E261).lt g263)) nin0))).keep K269 (ninS (Nat.ne_of_lt (Nat.lt_of_lt_of_le E1.lt g261)) (ninS (Nat.ne_of_lt (Nat.lt_of_lt_of_le (E1.ext E261).lt g263)) nin0))).ext E271) ((((((Gr.ext E261).keep K263 (ninS (Nat.ne_of_lt (Nat.lt_of_lt_of_le E1.lt g261)) nin0)).ext E265).keep K267 (ninS (Nat.ne_of_lt (Nat.lt_of_lt_of_le E1.lt g261)) (ninS (Nat.ne_of_lt (Nat.lt_of_lt_of_le (E1.ext E261).lt g263)) nin0))).keep K269 (ninS (Nat.ne_of_lt (Nat.lt_of_lt_of_le E1.lt g261)) (ninS (Nat.ne_of_lt (Nat.lt_of_lt_of_le (E1.ext E261).lt g263)) nin0))).ext E271) g1 ((ThS.keep K269 (nsS (((A261.keep K263).ext E265).keep K267).nostat (nsS ((Y263.ext E265).keep K267).nostat ns0)) (ThS.keep K267 (nsS ((A261.keep K263).ext E265).nostat (nsS (Y263.ext E265).nostat ns0)) ((ThS.keep K263 (nsS A261.nostat ns0) (HT.ext E261)).ext E265))).ext E271) hst SU SW hu hw2) e271 (by rw [hml]; rfl) (lenOf o_pd10 rfl) (has := rfl) (hst := rfl) (W := 0) (Nat.le_of_ble_eq_true rfl) (hb hby o_d1_20) (by decide) (by decide) (by decide) (by decide) fun v273 T273 h273 L273 X273 e273 q273 => ?_
  obtain ⟨rfl, N273q, K273, FR273⟩ := q273
  have N273 := Fr.app N271 N273q
  have O274 := O272.keep K273 (allS g1 all0)
  have B274 := B272.keep K273 (allS (Safe.exa hZ265.alike ((((((E1.ext E261).keep K263).ext E265).keep K267).keep K269).ext E271) (by decide) (by decide)) all0)
  have K274 : Keep h0 h273 [a1] := K272.trans K273 (allS (Or.inl (List.mem_of_getElem? (i := 0) rfl)) all0)
  show Go p e below T273 (mkF m 23 #[.val (.ref a1), .val (.ref a2)] []) _
  refine o_aloadN (v := (.ref a1)) (pc := 23) X273 hx (hb hby o_d1_23) rfl rfl ?_
  refine o_aloadN (v := (.ref a2)) (pc := 24) X273 hx (hb hby o_d1_24) rfl rfl ?_
  refine o_putF (pc := 25) X273 hx hZ265 hown265 (host := "") (Or.inl (hw _ (List.mem_of_getElem? (i := 204) rfl))) Via.refl e273 FR273 (((((((E1.ext E261).keep K263).ext E265).keep K267).keep K269).ext E271).keep K273) (Or.inr ⟨(hw _ (List.mem_of_getElem? (i := 205) rfl)), rfl, hnm⟩) (hw _ (List.mem_of_getElem? (i := 10) rfl)) (ty := (.object "java/lang/String")) (by decide) rfl rfl (hb hby o_d1_25) fun T275 h275 X275 e275 W275 => ?_
  have F275 := Fld.same W275 FR273
  have N275 := Fr.snoc X275 N273 g1
  have O276 := O274.wr W275 g1
  have B276 := B274.wr W275 (Safe.exa hZ265.alike (((((((E1.ext E261).keep K263).ext E265).keep K267).keep K269).ext E271).keep K273) (by decide) (by decide))
  have K276 : Keep h0 h275 [a1] := K274.wr W275 (Or.inl (List.mem_of_getElem? (i := 0) rfl))
  exact o_ret0H (pc := 28) X275 hx hZ265 (o_EW hw) hh B276 hret hlk (hb hby o_d1_28) e275 (by decide) (by decide) ⟨rfl, N275, K276, F275⟩
set_option maxRecDepth 65536 in
set_option maxHeartbeats 40000000 in
theorem rmIB (l : Launch) (Z : State) (a0 : Array Value) (hw : ∀ d ∈ tables_1, d.before a0 Z = true) (ws : List Jvm.Cond) (a1 a2 d2 : Addr) (z : Int32) (u w : Value) (cs : Int32) (h0 : Heap) (n0 : Nat) (O0 : Old Z n0 h0) (E1 : Exa Z h0 a1 "com/example/twinstate/twinstate/TransactionRolledBackException") (U1 : Unt h0 a1) (G0 : Fld Z h0 a1 "java/lang/Throwable" "cause" "Ljava/lang/Throwable;" .null) (G1 : Fld Z h0 a1 "java/lang/Throwable" "stackTrace" "[Ljava/lang/StackTraceElement;" .null) (G2 : Fld Z h0 a1 "java/lang/Throwable" "suppressedExceptions" "Ljava/util/List;" .null) (G3 : Fld Z h0 a1 "java/lang/Throwable" "backtrace" "Ljava/lang/Object;" .null) (G4 : Fld Z h0 a1 "java/lang/Throwable" "depth" "I" (.int (0 : Int32))) (G5 : Fld Z h0 a1 "java/lang/Throwable" "detailMessage" "Ljava/lang/String;" .null) (Gr : Fld Z h0 a1 "com/example/twinstate/twinstate/TransactionRolledBackException" "reason" "Ljava/lang/String;" .null) (g1 : n0 ≤ a1) (HT : ThS Z h0) (hst : l.stackTraces = true) (SU : Sta Z Z.heap "java/lang/Throwable" "UNASSIGNED_STACK" "[Ljava/lang/StackTraceElement;" u) (SW : Sta Z Z.heap "java/lang/Throwable" "SUPPRESSED_SENTINEL" "Ljava/util/List;" w) (hu : u.isRef = true) (hw2 : w.isRef = true) (SC : Sta Z Z.heap "java/lang/String" "COMPACT_STRINGS" "Z" (.int cs)) (hcs : ¬ cs = (0 : Int32)) (E2 : Exa Z h0 a2 "java/lang/String") (C2 : Fld Z h0 a2 "java/lang/String" "coder" "B" (.int (0 : Int32))) (F2 : Fld Z h0 a2 "java/lang/String" "value" "[B" (.ref d2)) (V2 : Byt Z h0 d2 z) (hz : z ∈ ([4, 5, 6, 7, 8, 9, 10, 11, 12, 13, 14, 15, 16, 17] : List Int32)) (n12 : a2 ≠ a1) (n1d : d2 ≠ a1) :
    CtK l Z consts_1 (⟨"com/example/twinstate/twinstate/TransactionRolledBackException", "<init>", "(Ljava/lang/String;)V"⟩ : MethodName) prog_10_method_1_code 2 none ({ frames := 6, cells := 8, slots := 2896, locals := 114 } : Room) ws #[(.ref a1), (.ref a2)] h0 (fun v h L => v = none ∧ Fr n0 L ∧ Keep h0 h [a1] ∧ Fld Z h a1 "com/example/twinstate/twinstate/TransactionRolledBackException" "reason" "Ljava/lang/String;" (.ref a2)) := by
  refine o_bodyK (plainFor_of_name o_pn_com_example_twinstate_twinstate_TransactionRolledBackException) ?_
  intro p e s m below meth c s₁ X0 hx hby hml hret hlk hown hnm hZ e0 hh H0 hTK hBe
  have N0 := Fr.nil n0
  have B0 := BsH.start H0
  have hZ0 := hZ
  refine o_top (g' := (mkF m 0 #[.val (.ref a1), .val (.ref a2)] [])) (by first | (simp [entryFrame, mkF, argsToLocals, Value.category]; done) | rfl) ?_
  refine o_aloadN (v := (.ref a1)) (pc := 0) X0 hx (hb hby o_d1_0) rfl rfl ?_
  refine o_new (pc := 1) X0 hx hZ hown (hw _ (List.mem_of_getElem? (i := 15) rfl)) (hw _ (List.mem_of_getElem? (i := 16) rfl)) (hw _ (List.mem_of_getElem? (i := 17) rfl)) e0 (hb hby o_d1_1) (by decide) (by decide) fun T277 h277 b277 X277 e277 g277 E277 A277 D277 U277 => ?_
  have O278 := O0.ext E277
  have B278 := B0.ext E277
  have K278 : Keep h0 h277 [a1] := (Keep.refl h0 [a1]).ext E277
  have F277_value : Fld Z h277 b277 "java/lang/AbstractStringBuilder" "value" "[B" .null := D277 (Or.inl (hw _ (List.mem_of_getElem? (i := 32) rfl))) (ty := (.array .byte)) (by decide)
  have F277_coder : Fld Z h277 b277 "java/lang/AbstractStringBuilder" "coder" "B" (.int (0 : Int32)) := D277 (Or.inl (hw _ (List.mem_of_getElem? (i := 34) rfl))) (ty := .byte) (by decide)
  have F277_count : Fld Z h277 b277 "java/lang/AbstractStringBuilder" "count" "I" (.int (0 : Int32)) := D277 (Or.inl (hw _ (List.mem_of_getElem? (i := 60) rfl))) (ty := .int) (by decide)
  refine o_dup (pc := 4) X277 hx (hb hby o_d1_4) rfl ?_
  refine o_callN (pc := 5) X277 hx hZ (y := (⟨"java/lang/StringBuilder", "<init>", "()V"⟩ : MethodName)) (a := b277) (argsL := []) (rest := [(.ref b277), (.ref a1)]) rfl hown (hw _ (List.mem_of_getElem? (i := 18) rfl)) (hw _ (List.mem_of_getElem? (i := 19) rfl)) (hw _ (List.mem_of_getElem? (i := 17) rfl)) (hw _ (List.mem_of_getElem? (i := 20) rfl)) (by decide) (rmBI l Z a0 hw [] b277 cs h277 n0 O278 A277 F277_value F277_coder F277_count (Nat.le_trans (o_n0 O0) g277) SC hcs) e277 (by rw [hml]; rfl) (lenOf o_pd23 rfl) (has := rfl) (hst := rfl) (W := 2) (Nat.le_of_ble_eq_true rfl) (hb hby o_d1_5) (by decide) (by decide) (by decide) (by decide) fun v279 T279 h279 L279 X279 e279 q279 => ?_
  obtain ⟨b279, rfl, g279, N279q, K279, F279v, F279c, F279n, V279, Y279⟩ := q279
  have N279 := Fr.app N0 N279q
  have O280 := O278.keep K279 (allS (Nat.le_trans (o_n0 O0) g277) all0)
  have B280 := B278.keep K279 (allS (Safe.exa hZ0.alike A277 (by decide) (by decide)) all0)
  have K280 : Keep h0 h279 [a1] := K278.trans K279 (allS (Or.inr (Nat.le_trans (Keep.refl h0 [a1]).1 g277)) all0)
  show Go p e below T279 (mkF m 8 #[.val (.ref a1), .val (.ref a2)] [(.ref b277), (.ref a1)]) _
  refine o_ldcH (pc := 8) X279 hx hZ hown (hw _ (List.mem_of_getElem? (i := 35) rfl)) (o_wS hw) e279 (o_EW hw) (List.mem_of_getElem? (i := 0) rfl) B280 (vs := [(.int (114 : Int32)), (.int (111 : Int32)), (.int (108 : Int32)), (.int (108 : Int32)), (.int (101 : Int32)), (.int (100 : Int32)), (.int (32 : Int32)), (.int (98 : Int32)), (.int (97 : Int32)), (.int (99 : Int32)), (.int (107 : Int32)), (.int (58 : Int32)), (.int (32 : Int32))]) (z := (13 : Int32)) ⟨by decide, rfl⟩ (by decide) rfl (hb hby o_d1_8) 52 (by decide) (by decide) (by decide) (by decide) fun sB281 b281 T281 h281 d281 k281 X281 e281 E281 B281 hZ281 hown281 hC281 Le281 Lc281 Lv281 La281 Sf281 => ?_
  have O282 := O280.ext E281
  have K282 : Keep h0 h281 [a1] := K280.ext E281
  refine o_callV (pc := 10) X281 hx hZ281 (y := (⟨"java/lang/StringBuilder", "append", "(Ljava/lang/String;)Ljava/lang/StringBuilder;"⟩ : MethodName)) (z := (⟨"java/lang/StringBuilder", "append", "(Ljava/lang/String;)Ljava/lang/StringBuilder;"⟩ : MethodName)) (C := "java/lang/StringBuilder") (a := b277) (argsL := [(.ref b281)]) (rest := [(.ref a1)]) hown281 (hw _ (List.mem_of_getElem? (i := 36) rfl)) (hw _ (List.mem_of_getElem? (i := 37) rfl)) (notFace_of_selects (args := #[]) (mvT hZ281 (hw _ (List.mem_of_getElem? (i := 39) rfl)))) (hw _ (List.mem_of_getElem? (i := 39) rfl)) (hw _ (List.mem_of_getElem? (i := 38) rfl)) (hw _ (List.mem_of_getElem? (i := 17) rfl)) (hw _ (List.mem_of_getElem? (i := 40) rfl)) (by decide) (rmAB0 l Z a0 hw [] b277 b279 b281 d281 (13 : Int32) cs h281 n0 O282 ((A277.keep K279).ext E281) (F279v.ext E281) (F279c.ext E281) (F279n.ext E281) (V279.ext E281) (Y279.ext E281) (Nat.le_trans (o_n0 O0) g277) (Nat.le_trans (o_n0 O278) g279) (Nat.ne_of_lt (Nat.lt_of_lt_of_le A277.lt g279)) Le281 Lc281 Lv281 (Byt.of La281 rfl) SC hcs (by decide) (Ne.symm (Sf281 _ (Safe.exa hZ281.alike ((A277.keep K279).ext E281) (by decide) (by decide))).1) (Ne.symm (Sf281 _ (CHr.safe hC281 V279.lt (Safe.keep K279 (allS (Safe.exa hZ0.alike A277 (by decide) (by decide)) all0) B278.chv (Safe.new g279)))).1) (Ne.symm (Sf281 _ (Safe.exa hZ281.alike ((A277.keep K279).ext E281) (by decide) (by decide))).2) (Ne.symm (Sf281 _ (CHr.safe hC281 V279.lt (Safe.keep K279 (allS (Safe.exa hZ0.alike A277 (by decide) (by decide)) all0) B278.chv (Safe.new g279)))).2)) e281 ((A277.keep K279).ext E281) (by rw [hml]; rfl) (lenOf o_pd24 rfl) (has := rfl) (hst := rfl) (W := 1) (Nat.le_of_ble_eq_true rfl) (hb hby o_d1_10) (by decide) (by decide) (by decide) (by decide) fun v283 T283 h283 L283 X283 e283 q283 => ?_
  obtain ⟨rfl, N283q, K283, F283v, F283c, F283n, V283, Y283⟩ := q283
  have N283 := Fr.app N279 N283q
  have O284 := O282.keep K283 (allS (Nat.le_trans (o_n0 O0) g277) (allS (Nat.le_trans (o_n0 O278) g279) all0))
  have B284 := B281.keep K283 (allS (Safe.exa hZ281.alike ((A277.keep K279).ext E281) (by decide) (by decide)) (allS (CHr.safe hC281 V279.lt (Safe.keep K279 (allS (Safe.exa hZ0.alike A277 (by decide) (by decide)) all0) B278.chv (Safe.new g279))) all0))
  have K284 : Keep h0 h283 [a1] := K282.trans K283 (allS (Or.inr (Nat.le_trans (Keep.refl h0 [a1]).1 g277)) (allS (Or.inr (Nat.le_trans K278.1 g279)) all0))
  show Go p e below T283 (mkF m 13 #[.val (.ref a1), .val (.ref a2)] [(.ref b277), (.ref a1)]) _
  refine o_aloadN (v := (.ref a2)) (pc := 13) X283 hx (hb hby o_d1_13) rfl rfl ?_
  refine o_callV (pc := 14) X283 hx hZ281 (y := (⟨"java/lang/StringBuilder", "append", "(Ljava/lang/String;)Ljava/lang/StringBuilder;"⟩ : MethodName)) (z := (⟨"java/lang/StringBuilder", "append", "(Ljava/lang/String;)Ljava/lang/StringBuilder;"⟩ : MethodName)) (C := "java/lang/StringBuilder") (a := b277) (argsL := [(.ref a2)]) (rest := [(.ref a1)]) hown281 (hw _ (List.mem_of_getElem? (i := 36) rfl)) (hw _ (List.mem_of_getElem? (i := 37) rfl)) (notFace_of_selects (args := #[]) (mvT hZ281 (hw _ (List.mem_of_getElem? (i := 39) rfl)))) (hw _ (List.mem_of_getElem? (i := 39) rfl)) (hw _ (List.mem_of_getElem? (i := 38) rfl)) (hw _ (List.mem_of_getElem? (i := 17) rfl)) (hw _ (List.mem_of_getElem? (i := 40) rfl)) (by decide) (rmABB l Z a0 hw [] b277 b279 a2 d2 z cs h283 n0 O284 (((A277.keep K279).ext E281).keep K283) F283v F283c F283n V283 Y283 (Nat.le_trans (o_n0 O0) g277) (Nat.le_trans (o_n0 O278) g279) (Nat.ne_of_lt (Nat.lt_of_lt_of_le A277.lt g279)) ((((E2.ext E277).keep K279).ext E281).keep K283) ((((C2.ext E277).keep K279 (ninS (Nat.ne_of_lt (Nat.lt_of_lt_of_le E2.lt g277)) nin0)).ext E281).keep K283 (ninS (Nat.ne_of_lt (Nat.lt_of_lt_of_le E2.lt g277)) (ninS (Nat.ne_of_lt (Nat.lt_of_lt_of_le (E2.ext E277).lt g279)) nin0))) ((((F2.ext E277).keep K279 (ninS (Nat.ne_of_lt (Nat.lt_of_lt_of_le E2.lt g277)) nin0)).ext E281).keep K283 (ninS (Nat.ne_of_lt (Nat.lt_of_lt_of_le E2.lt g277)) (ninS (Nat.ne_of_lt (Nat.lt_of_lt_of_le (E2.ext E277).lt g279)) nin0))) ((((V2.ext E277).keep K279 (ninS (Nat.ne_of_lt (Nat.lt_of_lt_of_le V2.lt g277)) nin0)).ext E281).keep K283 (ninS (Nat.ne_of_lt (Nat.lt_of_lt_of_le V2.lt g277)) (ninS (Nat.ne_of_lt (Nat.lt_of_lt_of_le (V2.ext E277).lt g279)) nin0))) SC hcs hz (Nat.ne_of_lt (Nat.lt_of_lt_of_le E2.lt g277)) (Nat.ne_of_lt (Nat.lt_of_lt_of_le (E2.ext E277).lt g279)) (Nat.ne_of_lt (Nat.lt_of_lt_of_le V2.lt g277)) (Nat.ne_of_lt (Nat.lt_of_lt_of_le (V2.ext E277).lt g279))) e283 (((A277.keep K279).ext E281).keep K283) (by rw [hml]; rfl) (lenOf o_pd24 rfl) (has := rfl) (hst := rfl) (W := 1) (Nat.le_of_ble_eq_true rfl) (hb hby o_d1_14) (by decide) (by decide) (by decide) (by decide) fun v285 T285 h285 L285 X285 e285 q285 => ?_
  obtain ⟨b285, rfl, g285, N285q, K285, F285v, F285c, F285n, V285, Y285⟩ := q285
  have N285 := Fr.app N283 N285q
  have O286 := O284.keep K285 (allS (Nat.le_trans (o_n0 O0) g277) all0)
  have B286 := B284.keep K285 (allS (Safe.exa hZ281.alike (((A277.keep K279).ext E281).keep K283) (by decide) (by decide)) all0)
  have K286 : Keep h0 h285 [a1] := K284.trans K285 (allS (Or.inr (Nat.le_trans (Keep.refl h0 [a1]).1 g277)) all0)
  show Go p e below T285 (mkF m 17 #[.val (.ref a1), .val (.ref a2)] [(.ref b277), (.ref a1)]) _
  refine o_callV (pc := 17) X285 hx hZ281 (y := (⟨"java/lang/StringBuilder", "toString", "()Ljava/lang/String;"⟩ : MethodName)) (z := (⟨"java/lang/StringBuilder", "toString", "()Ljava/lang/String;"⟩ : MethodName)) (C := "java/lang/StringBuilder") (a := b277) (argsL := []) (rest := [(.ref a1)]) hown281 (hw _ (List.mem_of_getElem? (i := 109) rfl)) (hw _ (List.mem_of_getElem? (i := 110) rfl)) (notFace_of_selects (args := #[]) (mvT hZ281 (hw _ (List.mem_of_getElem? (i := 112) rfl)))) (hw _ (List.mem_of_getElem? (i := 112) rfl)) (hw _ (List.mem_of_getElem? (i := 111) rfl)) (hw _ (List.mem_of_getElem? (i := 17) rfl)) (hw _ (List.mem_of_getElem? (i := 113) rfl)) (by decide) (rmTSB l Z a0 hw [] b277 b285 ((13 : Int32) + z) cs h285 n0 O286 ((((A277.keep K279).ext E281).keep K283).keep K285) F285v F285c F285n V285 Y285 (Nat.ne_of_lt (Nat.lt_of_lt_of_le (((A277.keep K279).ext E281).keep K283).lt g285)) SC hcs (o_all (P := fun z => ((13 : Int32) + z) ∈ ([17, 18, 19, 20, 21, 22, 23, 24, 25, 26, 27, 28, 29, 30] : List Int32)) hz (by decide))) e285 ((((A277.keep K279).ext E281).keep K283).keep K285) (by rw [hml]; rfl) (lenOf o_pd25 rfl) (has := rfl) (hst := rfl) (W := 1) (Nat.le_of_ble_eq_true rfl) (hb hby o_d1_17) (by decide) (by decide) (by decide) (by decide) fun v287 T287 h287 L287 X287 e287 q287 => ?_
  obtain ⟨b287, rfl, g287, N287q, E287⟩ := q287
  have N287 := Fr.app N285 N287q
  have O288 := O286.ext E287
  have B288 := B286.ext E287
  have K288 : Keep h0 h287 [a1] := K286.ext E287
  show Go p e below T287 (mkF m 20 #[.val (.ref a1), .val (.ref a2)] [(.ref b287), (.ref a1)]) _
  refine o_callNP (pc := 20) X287 hx hZ281 (y := (⟨"java/lang/RuntimeException", "<init>", "(Ljava/lang/String;)V"⟩ : MethodName)) (a := a1) (argsL := [(.ref b287)]) (rest := []) rfl hown281 (o_know B288 hTK) (o_knowF B288 hBe) (hw _ (List.mem_of_getElem? (i := 150) rfl)) (hw _ (List.mem_of_getElem? (i := 151) rfl)) (hw _ (List.mem_of_getElem? (i := 153) rfl)) (hw _ (List.mem_of_getElem? (i := 154) rfl)) (by decide) (rmRx l Z a0 hw [] a1 b287 u w h287 n0 O288 ((((((E1.ext E277).keep K279).ext E281).keep K283).keep K285).ext E287) ((Unt.keep K285 (ninS (Nat.ne_of_lt (Nat.lt_of_lt_of_le E1.lt g277)) nin0) (Unt.keep K283 (ninS (Nat.ne_of_lt (Nat.lt_of_lt_of_le E1.lt g277)) (ninS (Nat.ne_of_lt (Nat.lt_of_lt_of_le (E1.ext E277).lt g279)) nin0)) ((Unt.keep K279 (ninS (Nat.ne_of_lt (Nat.lt_of_lt_of_le E1.lt g277)) nin0) (U1.ext E277)).ext E281))).ext E287) ((((((G0.ext E277).keep K279 (ninS (Nat.ne_of_lt (Nat.lt_of_lt_of_le E1.lt g277)) nin0)).ext E281).keep K283 (ninS (Nat.ne_of_lt (Nat.lt_of_lt_of_le E1.lt g277)) (ninS (Nat.ne_of_lt (Nat.lt_of_lt_of_le (E1.ext E277).lt g279)) nin0))).keep K285 (ninS (Nat.ne_of_lt (Nat.lt_of_lt_of_le E1.lt g277)) nin0)).ext E287) ((((((G1.ext E277).keep K279 (ninS (Nat.ne_of_lt (Nat.lt_of_lt_of_le E1.lt g277)) nin0)).ext E281).keep K283 (ninS (Nat.ne_of_lt (Nat.lt_of_lt_of_le E1.lt g277)) (ninS (Nat.ne_of_lt (Nat.lt_of_lt_of_le (E1.ext E277).lt g279)) nin0))).keep K285 (ninS (Nat.ne_of_lt (Nat.lt_of_lt_of_le E1.lt g277)) nin0)).ext E287) ((((((G2.ext E277).keep K279 (ninS (Nat.ne_of_lt (Nat.lt_of_lt_of_le E1.lt g277)) nin0)).ext E281).keep K283 (ninS (Nat.ne_of_lt (Nat.lt_of_lt_of_le E1.lt g277)) (ninS (Nat.ne_of_lt (Nat.lt_of_lt_of_le (E1.ext E277).lt g279)) nin0))).keep K285 (ninS (Nat.ne_of_lt (Nat.lt_of_lt_of_le E1.lt g277)) nin0)).ext E287) ((((((G3.ext E277).keep K279 (ninS (Nat.ne_of_lt (Nat.lt_of_lt_of_le E1.lt g277)) nin0)).ext E281).keep K283 (ninS (Nat.ne_of_lt (Nat.lt_of_lt_of_le E1.lt g277)) (ninS (Nat.ne_of_lt (Nat.lt_of_lt_of_le (E1.ext E277).lt g279)) nin0))).keep K285 (ninS (Nat.ne_of_lt (Nat.lt_of_lt_of_le E1.lt g277)) nin0)).ext E287) ((((((G4.ext E277).keep K279 (ninS (Nat.ne_of_lt (Nat.lt_of_lt_of_le E1.lt g277)) nin0)).ext E281).keep K283 (ninS (Nat.ne_of_lt (Nat.lt_of_lt_of_le E1.lt g277)) (ninS (Nat.ne_of_lt (Nat.lt_of_lt_of_le (E1.ext E277).lt g279)) nin0))).keep K285 (ninS (Nat.ne_of_lt (Nat.lt_of_lt_of_le E1.lt g277)) nin0)).ext E287) ((((((G5.ext E277).keep K279 (ninS (Nat.ne_of_lt (Nat.lt_of_lt_of_le E1.lt g277)) nin0)).ext E281).keep K283 (ninS (Nat.ne_of_lt (Nat.lt_of_lt_of_le E1.lt g277)) (ninS (Nat.ne_of_lt (Nat.lt_of_lt_of_le (E1.ext E277).lt g279)) nin0))).keep K285 (ninS (Nat.ne_of_lt (Nat.lt_of_lt_of_le E1.lt g277)) nin0)).ext E287) ((((((Gr.ext E277).keep K279 (ninS (Nat.ne_of_lt (Nat.lt_of_lt_of_le E1.lt g277)) nin0)).ext E281).keep K283 (ninS (Nat.ne_of_lt (Nat.lt_of_lt_of_le E1.lt g277)) (ninS (Nat.ne_of_lt (Nat.lt_of_lt_of_le (E1.ext E277).lt g279)) nin0))).keep K285 (ninS (Nat.ne_of_lt (Nat.lt_of_lt_of_le E1.lt g277)) nin0)).ext E287) g1 ((ThS.keep K285 (nsS (((A277.keep K279).ext E281).keep K283).nostat ns0) (ThS.keep K283 (nsS ((A277.keep K279).ext E281).nostat (nsS (Y279.ext E281).nostat ns0)) ((ThS.keep K279 (nsS A277.nostat ns0) (HT.ext E277)).ext E281))).ext E287) hst SU SW hu hw2) e287 (by rw [hml]; rfl) (lenOf o_pd10 rfl) (has := rfl) (hst := rfl) (W := 0) (Nat.le_of_ble_eq_true rfl) (hb hby o_d1_20) (by decide) (by decide) (by decide) (by decide) fun v289 T289 h289 L289 X289 e289 q289 => ?_
  obtain ⟨rfl, N289q, K289, FR289⟩ := q289
  have N289 := Fr.app N287 N289q
  have O290 := O288.keep K289 (allS g1 all0)
  have B290 := B288.keep K289 (allS (Safe.exa hZ281.alike ((((((E1.ext E277).keep K279).ext E281).keep K283).keep K285).ext E287) (by decide) (by decide)) all0)
  have K290 : Keep h0 h289 [a1] := K288.trans K289 (allS (Or.inl (List.mem_of_getElem? (i := 0) rfl)) all0)
  show Go p e below T289 (mkF m 23 #[.val (.ref a1), .val (.ref a2)] []) _
  refine o_aloadN (v := (.ref a1)) (pc := 23) X289 hx (hb hby o_d1_23) rfl rfl ?_
  refine o_aloadN (v := (.ref a2)) (pc := 24) X289 hx (hb hby o_d1_24) rfl rfl ?_
  refine o_putF (pc := 25) X289 hx hZ281 hown281 (host := "") (Or.inl (hw _ (List.mem_of_getElem? (i := 204) rfl))) Via.refl e289 FR289 (((((((E1.ext E277).keep K279).ext E281).keep K283).keep K285).ext E287).keep K289) (Or.inr ⟨(hw _ (List.mem_of_getElem? (i := 205) rfl)), rfl, hnm⟩) (hw _ (List.mem_of_getElem? (i := 10) rfl)) (ty := (.object "java/lang/String")) (by decide) rfl rfl (hb hby o_d1_25) fun T291 h291 X291 e291 W291 => ?_
  have F291 := Fld.same W291 FR289
  have N291 := Fr.snoc X291 N289 g1
  have O292 := O290.wr W291 g1
  have B292 := B290.wr W291 (Safe.exa hZ281.alike (((((((E1.ext E277).keep K279).ext E281).keep K283).keep K285).ext E287).keep K289) (by decide) (by decide))
  have K292 : Keep h0 h291 [a1] := K290.wr W291 (Or.inl (List.mem_of_getElem? (i := 0) rfl))
  exact o_ret0H (pc := 28) X291 hx hZ281 (o_EW hw) hh B292 hret hlk (hb hby o_d1_28) e291 (by decide) (by decide) ⟨rfl, N291, K292, F291⟩
set_option maxRecDepth 65536 in
set_option maxHeartbeats 40000000 in
theorem rmIN (l : Launch) (Z : State) (a0 : Array Value) (hw : ∀ d ∈ tables_1, d.before a0 Z = true) (ws : List Jvm.Cond) (a1 : Addr) (u w : Value) (cs : Int32) (h0 : Heap) (n0 : Nat) (O0 : Old Z n0 h0) (E1 : Exa Z h0 a1 "com/example/twinstate/twinstate/TransactionRolledBackException") (U1 : Unt h0 a1) (G0 : Fld Z h0 a1 "java/lang/Throwable" "cause" "Ljava/lang/Throwable;" .null) (G1 : Fld Z h0 a1 "java/lang/Throwable" "stackTrace" "[Ljava/lang/StackTraceElement;" .null) (G2 : Fld Z h0 a1 "java/lang/Throwable" "suppressedExceptions" "Ljava/util/List;" .null) (G3 : Fld Z h0 a1 "java/lang/Throwable" "backtrace" "Ljava/lang/Object;" .null) (G4 : Fld Z h0 a1 "java/lang/Throwable" "depth" "I" (.int (0 : Int32))) (G5 : Fld Z h0 a1 "java/lang/Throwable" "detailMessage" "Ljava/lang/String;" .null) (Gr : Fld Z h0 a1 "com/example/twinstate/twinstate/TransactionRolledBackException" "reason" "Ljava/lang/String;" .null) (g1 : n0 ≤ a1) (HT : ThS Z h0) (hst : l.stackTraces = true) (SU : Sta Z Z.heap "java/lang/Throwable" "UNASSIGNED_STACK" "[Ljava/lang/StackTraceElement;" u) (SW : Sta Z Z.heap "java/lang/Throwable" "SUPPRESSED_SENTINEL" "Ljava/util/List;" w) (hu : u.isRef = true) (hw2 : w.isRef = true) (SC : Sta Z Z.heap "java/lang/String" "COMPACT_STRINGS" "Z" (.int cs)) (hcs : ¬ cs = (0 : Int32)) :
    CtK l Z consts_1 (⟨"com/example/twinstate/twinstate/TransactionRolledBackException", "<init>", "(Ljava/lang/String;)V"⟩ : MethodName) prog_10_method_1_code 2 none ({ frames := 7, cells := 8, slots := 2896, locals := 114 } : Room) ws #[(.ref a1), .null] h0 (fun v h L => v = none ∧ Fr n0 L ∧ Keep h0 h [a1] ∧ Fld Z h a1 "com/example/twinstate/twinstate/TransactionRolledBackException" "reason" "Ljava/lang/String;" .null) := by
  refine o_bodyK (plainFor_of_name o_pn_com_example_twinstate_twinstate_TransactionRolledBackException) ?_
  intro p e s m below meth c s₁ X0 hx hby hml hret hlk hown hnm hZ e0 hh H0 hTK hBe
  have N0 := Fr.nil n0
  have B0 := BsH.start H0
  have hZ0 := hZ
  refine o_top (g' := (mkF m 0 #[.val (.ref a1), .val .null] [])) (by first | (simp [entryFrame, mkF, argsToLocals, Value.category]; done) | rfl) ?_
  refine o_aloadN (v := (.ref a1)) (pc := 0) X0 hx (hb hby o_d1_0) rfl rfl ?_
  refine o_new (pc := 1) X0 hx hZ hown (hw _ (List.mem_of_getElem? (i := 15) rfl)) (hw _ (List.mem_of_getElem? (i := 16) rfl)) (hw _ (List.mem_of_getElem? (i := 17) rfl)) e0 (hb hby o_d1_1) (by decide) (by decide) fun T293 h293 b293 X293 e293 g293 E293 A293 D293 U293 => ?_
  have O294 := O0.ext E293
  have B294 := B0.ext E293
  have K294 : Keep h0 h293 [a1] := (Keep.refl h0 [a1]).ext E293
  have F293_value : Fld Z h293 b293 "java/lang/AbstractStringBuilder" "value" "[B" .null := D293 (Or.inl (hw _ (List.mem_of_getElem? (i := 32) rfl))) (ty := (.array .byte)) (by decide)
  have F293_coder : Fld Z h293 b293 "java/lang/AbstractStringBuilder" "coder" "B" (.int (0 : Int32)) := D293 (Or.inl (hw _ (List.mem_of_getElem? (i := 34) rfl))) (ty := .byte) (by decide)
  have F293_count : Fld Z h293 b293 "java/lang/AbstractStringBuilder" "count" "I" (.int (0 : Int32)) := D293 (Or.inl (hw _ (List.mem_of_getElem? (i := 60) rfl))) (ty := .int) (by decide)
  refine o_dup (pc := 4) X293 hx (hb hby o_d1_4) rfl ?_
  refine o_callN (pc := 5) X293 hx hZ (y := (⟨"java/lang/StringBuilder", "<init>", "()V"⟩ : MethodName)) (a := b293) (argsL := []) (rest := [(.ref b293), (.ref a1)]) rfl hown (hw _ (List.mem_of_getElem? (i := 18) rfl)) (hw _ (List.mem_of_getElem? (i := 19) rfl)) (hw _ (List.mem_of_getElem? (i := 17) rfl)) (hw _ (List.mem_of_getElem? (i := 20) rfl)) (by decide) (rmBI l Z a0 hw [] b293 cs h293 n0 O294 A293 F293_value F293_coder F293_count (Nat.le_trans (o_n0 O0) g293) SC hcs) e293 (by rw [hml]; rfl) (lenOf o_pd23 rfl) (has := rfl) (hst := rfl) (W := 2) (Nat.le_of_ble_eq_true rfl) (hb hby o_d1_5) (by decide) (by decide) (by decide) (by decide) fun v295 T295 h295 L295 X295 e295 q295 => ?_
  obtain ⟨b295, rfl, g295, N295q, K295, F295v, F295c, F295n, V295, Y295⟩ := q295
  have N295 := Fr.app N0 N295q
  have O296 := O294.keep K295 (allS (Nat.le_trans (o_n0 O0) g293) all0)
  have B296 := B294.keep K295 (allS (Safe.exa hZ0.alike A293 (by decide) (by decide)) all0)
  have K296 : Keep h0 h295 [a1] := K294.trans K295 (allS (Or.inr (Nat.le_trans (Keep.refl h0 [a1]).1 g293)) all0)
  show Go p e below T295 (mkF m 8 #[.val (.ref a1), .val .null] [(.ref b293), (.ref a1)]) _
  refine o_ldcH (pc := 8) X295 hx hZ hown (hw _ (List.mem_of_getElem? (i := 35) rfl)) (o_wS hw) e295 (o_EW hw) (List.mem_of_getElem? (i := 0) rfl) B296 (vs := [(.int (114 : Int32)), (.int (111 : Int32)), (.int (108 : Int32)), (.int (108 : Int32)), (.int (101 : Int32)), (.int (100 : Int32)), (.int (32 : Int32)), (.int (98 : Int32)), (.int (97 : Int32)), (.int (99 : Int32)), (.int (107 : Int32)), (.int (58 : Int32)), (.int (32 : Int32))]) (z := (13 : Int32)) ⟨by decide, rfl⟩ (by decide) rfl (hb hby o_d1_8) 52 (by decide) (by decide) (by decide) (by decide) fun sB297 b297 T297 h297 d297 k297 X297 e297 E297 B297 hZ297 hown297 hC297 Le297 Lc297 Lv297 La297 Sf297 => ?_
  have O298 := O296.ext E297
  have K298 : Keep h0 h297 [a1] := K296.ext E297
  refine o_callV (pc := 10) X297 hx hZ297 (y := (⟨"java/lang/StringBuilder", "append", "(Ljava/lang/String;)Ljava/lang/StringBuilder;"⟩ : MethodName)) (z := (⟨"java/lang/StringBuilder", "append", "(Ljava/lang/String;)Ljava/lang/StringBuilder;"⟩ : MethodName)) (C := "java/lang/StringBuilder") (a := b293) (argsL := [(.ref b297)]) (rest := [(.ref a1)]) hown297 (hw _ (List.mem_of_getElem? (i := 36) rfl)) (hw _ (List.mem_of_getElem? (i := 37) rfl)) (notFace_of_selects (args := #[]) (mvT hZ297 (hw _ (List.mem_of_getElem? (i := 39) rfl)))) (hw _ (List.mem_of_getElem? (i := 39) rfl)) (hw _ (List.mem_of_getElem? (i := 38) rfl)) (hw _ (List.mem_of_getElem? (i := 17) rfl)) (hw _ (List.mem_of_getElem? (i := 40) rfl)) (by decide) (rmAB0 l Z a0 hw [] b293 b295 b297 d297 (13 : Int32) cs h297 n0 O298 ((A293.keep K295).ext E297) (F295v.ext E297) (F295c.ext E297) (F295n.ext E297) (V295.ext E297) (Y295.ext E297) (Nat.le_trans (o_n0 O0) g293) (Nat.le_trans (o_n0 O294) g295) (Nat.ne_of_lt (Nat.lt_of_lt_of_le A293.lt g295)) Le297 Lc297 Lv297 (Byt.of La297 rfl) SC hcs (by decide) (Ne.symm (Sf297 _ (Safe.exa hZ297.alike ((A293.keep K295).ext E297) (by decide) (by decide))).1) (Ne.symm (Sf297 _ (CHr.safe hC297 V295.lt (Safe.keep K295 (allS (Safe.exa hZ0.alike A293 (by decide) (by decide)) all0) B294.chv (Safe.new g295)))).1) (Ne.symm (Sf297 _ (Safe.exa hZ297.alike ((A293.keep K295).ext E297) (by decide) (by decide))).2) (Ne.symm (Sf297 _ (CHr.safe hC297 V295.lt (Safe.keep K295 (allS (Safe.exa hZ0.alike A293 (by decide) (by decide)) all0) B294.chv (Safe.new g295)))).2)) e297 ((A293.keep K295).ext E297) (by rw [hml]; rfl) (lenOf o_pd24 rfl) (has := rfl) (hst := rfl) (W := 1) (Nat.le_of_ble_eq_true rfl) (hb hby o_d1_10) (by decide) (by decide) (by decide) (by decide) fun v299 T299 h299 L299 X299 e299 q299 => ?_
  obtain ⟨rfl, N299q, K299, F299v, F299c, F299n, V299, Y299⟩ := q299
  have N299 := Fr.app N295 N299q
  have O300 := O298.keep K299 (allS (Nat.le_trans (o_n0 O0) g293) (allS (Nat.le_trans (o_n0 O294) g295) all0))
  have B300 := B297.keep K299 (allS (Safe.exa hZ297.alike ((A293.keep K295).ext E297) (by decide) (by decide)) (allS (CHr.safe hC297 V295.lt (Safe.keep K295 (allS (Safe.exa hZ0.alike A293 (by decide) (by decide)) all0) B294.chv (Safe.new g295))) all0))
  have K300 : Keep h0 h299 [a1] := K298.trans K299 (allS (Or.inr (Nat.le_trans (Keep.refl h0 [a1]).1 g293)) (allS (Or.inr (Nat.le_trans K294.1 g295)) all0))
  show Go p e below T299 (mkF m 13 #[.val (.ref a1), .val .null] [(.ref b293), (.ref a1)]) _
  refine o_aloadN (v := .null) (pc := 13) X299 hx (hb hby o_d1_13) rfl rfl ?_
  refine o_callV (pc := 14) X299 hx hZ297 (y := (⟨"java/lang/StringBuilder", "append", "(Ljava/lang/String;)Ljava/lang/StringBuilder;"⟩ : MethodName)) (z := (⟨"java/lang/StringBuilder", "append", "(Ljava/lang/String;)Ljava/lang/StringBuilder;"⟩ : MethodName)) (C := "java/lang/StringBuilder") (a := b293) (argsL := [.null]) (rest := [(.ref a1)]) hown297 (hw _ (List.mem_of_getElem? (i := 36) rfl)) (hw _ (List.mem_of_getElem? (i := 37) rfl)) (notFace_of_selects (args := #[]) (mvT hZ297 (hw _ (List.mem_of_getElem? (i := 39) rfl)))) (hw _ (List.mem_of_getElem? (i := 39) rfl)) (hw _ (List.mem_of_getElem? (i := 38) rfl)) (hw _ (List.mem_of_getElem? (i := 17) rfl)) (hw _ (List.mem_of_getElem? (i := 40) rfl)) (by decide) (rmABN l Z a0 hw [] b293 b295 cs h299 n0 O300 (((A293.keep K295).ext E297).keep K299) F299v F299c F299n V299 Y299 (Nat.le_trans (o_n0 O0) g293) (Nat.le_trans (o_n0 O294) g295) (Nat.ne_of_lt (Nat.lt_of_lt_of_le A293.lt g295)) SC hcs) e299 (((A293.keep K295).ext E297).keep K299) (by rw [hml]; rfl) (lenOf o_pd24 rfl) (has := rfl) (hst := rfl) (W := 1) (Nat.le_of_ble_eq_true rfl) (hb hby o_d1_14) (by decide) (by decide) (by decide) (by decide) fun v301 T301 h301 L301 X301 e301 q301 => ?_
  obtain ⟨b301, rfl, g301, N301q, K301, F301v, F301c, F301n, V301, Y301⟩ := q301
  have N301 := Fr.app N299 N301q
  have O302 := O300.keep K301 (allS (Nat.le_trans (o_n0 O0) g293) all0)
  have B302 := B300.keep K301 (allS (Safe.exa hZ297.alike (((A293.keep K295).ext E297).keep K299) (by decide) (by decide)) all0)
  have K302 : Keep h0 h301 [a1] := K300.trans K301 (allS (Or.inr (Nat.le_trans (Keep.refl h0 [a1]).1 g293)) all0)
  show Go p e below T301 (mkF m 17 #[.val (.ref a1), .val .null] [(.ref b293), (.ref a1)]) _
  refine o_callV (pc := 17) X301 hx hZ297 (y := (⟨"java/lang/StringBuilder", "toString", "()Ljava/lang/String;"⟩ : MethodName)) (z := (⟨"java/lang/StringBuilder", "toString", "()Ljava/lang/String;"⟩ : MethodName)) (C := "java/lang/StringBuilder") (a := b293) (argsL := []) (rest := [(.ref a1)]) hown297 (hw _ (List.mem_of_getElem? (i := 109) rfl)) (hw _ (List.mem_of_getElem? (i := 110) rfl)) (notFace_of_selects (args := #[]) (mvT hZ297 (hw _ (List.mem_of_getElem? (i := 112) rfl)))) (hw _ (List.mem_of_getElem? (i := 112) rfl)) (hw _ (List.mem_of_getElem? (i := 111) rfl)) (hw _ (List.mem_of_getElem? (i := 17) rfl)) (hw _ (List.mem_of_getElem? (i := 113) rfl)) (by decide) (rmTSB l Z a0 hw [] b293 b301 (17 : Int32) cs h301 n0 O302 ((((A293.keep K295).ext E297).keep K299).keep K301) F301v F301c F301n V301 Y301 (Nat.ne_of_lt (Nat.lt_of_lt_of_le (((A293.keep K295).ext E297).keep K299).lt g301)) SC hcs (by decide)) e301 ((((A293.keep K295).ext E297).keep K299).keep K301) (by rw [hml]; rfl) (lenOf o_pd25 rfl) (has := rfl) (hst := rfl) (W := 1) (Nat.le_of_ble_eq_true rfl) (hb hby o_d1_17) (by decide) (by decide) (by decide) (by decide) fun v303 T303 h303 L303 X303 e303 q303 => ?_
  obtain ⟨b303, rfl, g303, N303q, E303⟩ := q303
  have N303 := Fr.app N301 N303q
  have O304 := O302.ext E303
  have B304 := B302.ext E303
  have K304 : Keep h0 h303 [a1] := K302.ext E303
  show Go p e below T303 (mkF m 20 #[.val (.ref a1), .val .null] [(.ref b303), (.ref a1)]) _
  refine o_callNP (pc := 20) X303 hx hZ297 (y := (⟨"java/lang/RuntimeException", "<init>", "(Ljava/lang/String;)V"⟩ : MethodName)) (a := a1) (argsL := [(.ref b303)]) (rest := []) rfl hown297 (o_know B304 hTK) (o_knowF B304 hBe) (hw _ (List.mem_of_getElem? (i := 150) rfl)) (hw _ (List.mem_of_getElem? (i := 151) rfl)) (hw _ (List.mem_of_getElem? (i := 153) rfl)) (hw _ (List.mem_of_getElem? (i := 154) rfl)) (by decide) (rmRx l Z a0 hw [] a1 b303 u w h303 n0 O304 ((((((E1.ext E293).keep K295).ext E297).keep K299).keep K301).ext E303) ((Unt.keep K301 (ninS (Nat.ne_of_lt (Nat.lt_of_lt_of_le E1.lt g293)) nin0) (Unt.keep K299 (ninS (Nat.ne_of_lt (Nat.lt_of_lt_of_le E1.lt g293)) (ninS (Nat.ne_of_lt (Nat.lt_of_lt_of_le (E1.ext E293).lt g295)) nin0)) ((Unt.keep K295 (ninS (Nat.ne_of_lt (Nat.lt_of_lt_of_le E1.lt g293)) nin0) (U1.ext E293)).ext E297))).ext E303) ((((((G0.ext E293).keep K295 (ninS (Nat.ne_of_lt (Nat.lt_of_lt_of_le E1.lt g293)) nin0)).ext E297).keep K299 (ninS (Nat.ne_of_lt (Nat.lt_of_lt_of_le E1.lt g293)) (ninS (Nat.ne_of_lt (Nat.lt_of_lt_of_le (E1.ext E293).lt g295)) nin0))).keep K301 (ninS (Nat.ne_of_lt (Nat.lt_of_lt_of_le E1.lt g293)) nin0)).ext E303) ((((((G1.ext E293).keep K295 (ninS (Nat.ne_of_lt (Nat.lt_of_lt_of_le E1.lt g293)) nin0)).ext E297).keep K299 (ninS (Nat.ne_of_lt (Nat.lt_of_lt_of_le E1.lt g293)) (ninS (Nat.ne_of_lt (Nat.lt_of_lt_of_le (E1.ext E293).lt g295)) nin0))).keep K301 (ninS (Nat.ne_of_lt (Nat.lt_of_lt_of_le E1.lt g293)) nin0)).ext E303) ((((((G2.ext E293).keep K295 (ninS (Nat.ne_of_lt (Nat.lt_of_lt_of_le E1.lt g293)) nin0)).ext E297).keep K299 (ninS (Nat.ne_of_lt (Nat.lt_of_lt_of_le E1.lt g293)) (ninS (Nat.ne_of_lt (Nat.lt_of_lt_of_le (E1.ext E293).lt g295)) nin0))).keep K301 (ninS (Nat.ne_of_lt (Nat.lt_of_lt_of_le E1.lt g293)) nin0)).ext E303) ((((((G3.ext E293).keep K295 (ninS (Nat.ne_of_lt (Nat.lt_of_lt_of_le E1.lt g293)) nin0)).ext E297).keep K299 (ninS (Nat.ne_of_lt (Nat.lt_of_lt_of_le E1.lt g293)) (ninS (Nat.ne_of_lt (Nat.lt_of_lt_of_le (E1.ext E293).lt g295)) nin0))).keep K301 (ninS (Nat.ne_of_lt (Nat.lt_of_lt_of_le E1.lt g293)) nin0)).ext E303) ((((((G4.ext E293).keep K295 (ninS (Nat.ne_of_lt (Nat.lt_of_lt_of_le E1.lt g293)) nin0)).ext E297).keep K299 (ninS (Nat.ne_of_lt (Nat.lt_of_lt_of_le E1.lt g293)) (ninS (Nat.ne_of_lt (Nat.lt_of_lt_of_le (E1.ext E293).lt g295)) nin0))).keep K301 (ninS (Nat.ne_of_lt (Nat.lt_of_lt_of_le E1.lt g293)) nin0)).ext E303) ((((((G5.ext E293).keep K295 (ninS (Nat.ne_of_lt (Nat.lt_of_lt_of_le E1.lt g293)) nin0)).ext E297).keep K299 (ninS (Nat.ne_of_lt (Nat.lt_of_lt_of_le E1.lt g293)) (ninS (Nat.ne_of_lt (Nat.lt_of_lt_of_le (E1.ext E293).lt g295)) nin0))).keep K301 (ninS (Nat.ne_of_lt (Nat.lt_of_lt_of_le E1.lt g293)) nin0)).ext E303) ((((((Gr.ext E293).keep K295 (ninS (Nat.ne_of_lt (Nat.lt_of_lt_of_le E1.lt g293)) nin0)).ext E297).keep K299 (ninS (Nat.ne_of_lt (Nat.lt_of_lt_of_le E1.lt g293)) (ninS (Nat.ne_of_lt (Nat.lt_of_lt_of_le (E1.ext E293).lt g295)) nin0))).keep K301 (ninS (Nat.ne_of_lt (Nat.lt_of_lt_of_le E1.lt g293)) nin0)).ext E303) g1 ((ThS.keep K301 (nsS (((A293.keep K295).ext E297).keep K299).nostat ns0) (ThS.keep K299 (nsS ((A293.keep K295).ext E297).nostat (nsS (Y295.ext E297).nostat ns0)) ((ThS.keep K295 (nsS A293.nostat ns0) (HT.ext E293)).ext E297))).ext E303) hst SU SW hu hw2) e303 (by rw [hml]; rfl) (lenOf o_pd10 rfl) (has := rfl) (hst := rfl) (W := 0) (Nat.le_of_ble_eq_true rfl) (hb hby o_d1_20) (by decide) (by decide) (by decide) (by decide) fun v305 T305 h305 L305 X305 e305 q305 => ?_
  obtain ⟨rfl, N305q, K305, FR305⟩ := q305
  have N305 := Fr.app N303 N305q
  have O306 := O304.keep K305 (allS g1 all0)
  have B306 := B304.keep K305 (allS (Safe.exa hZ297.alike ((((((E1.ext E293).keep K295).ext E297).keep K299).keep K301).ext E303) (by decide) (by decide)) all0)
  have K306 : Keep h0 h305 [a1] := K304.trans K305 (allS (Or.inl (List.mem_of_getElem? (i := 0) rfl)) all0)
  show Go p e below T305 (mkF m 23 #[.val (.ref a1), .val .null] []) _
  refine o_aloadN (v := (.ref a1)) (pc := 23) X305 hx (hb hby o_d1_23) rfl rfl ?_
  refine o_aloadN (v := .null) (pc := 24) X305 hx (hb hby o_d1_24) rfl rfl ?_
  refine o_putF (pc := 25) X305 hx hZ297 hown297 (host := "") (Or.inl (hw _ (List.mem_of_getElem? (i := 204) rfl))) Via.refl e305 FR305 (((((((E1.ext E293).keep K295).ext E297).keep K299).keep K301).ext E303).keep K305) (Or.inr ⟨(hw _ (List.mem_of_getElem? (i := 205) rfl)), rfl, hnm⟩) (hw _ (List.mem_of_getElem? (i := 10) rfl)) (ty := (.object "java/lang/String")) (by decide) rfl rfl (hb hby o_d1_25) fun T307 h307 X307 e307 W307 => ?_
  have F307 := Fld.same W307 FR305
  have N307 := Fr.snoc X307 N305 g1
  have O308 := O306.wr W307 g1
  have B308 := B306.wr W307 (Safe.exa hZ297.alike (((((((E1.ext E293).keep K295).ext E297).keep K299).keep K301).ext E303).keep K305) (by decide) (by decide))
  have K308 : Keep h0 h307 [a1] := K306.wr W307 (Or.inl (List.mem_of_getElem? (i := 0) rfl))
  exact o_ret0H (pc := 28) X307 hx hZ297 (o_EW hw) hh B308 hret hlk (hb hby o_d1_28) e307 (by decide) (by decide) ⟨rfl, N307, K308, F307⟩
set_option maxRecDepth 65536 in
set_option maxHeartbeats 40000000 in
theorem rmEQN (l : Launch) (Z : State) (a0 : Array Value) (hw : ∀ d ∈ tables_1, d.before a0 Z = true) (ws : List Jvm.Cond) (a1 : Addr) (h0 : Heap) (n0 : Nat) (O0 : Old Z n0 h0) :
    Ct l Z (⟨"java/lang/String", "equals", "(Ljava/lang/Object;)Z"⟩ : MethodName) jdk_42_method_66_code 3 (some .boolean) ({ frames := 0, cells := 0, slots := 0, locals := 0 } : Room) ws #[(.ref a1), .null] h0 (fun v h L => v = some (.int (0 : Int32)) ∧ Fr n0 L ∧ h0 = h) := by
  refine o_body (plainFor_of_name o_pn_java_lang_String) ?_
  intro p e s m below meth c s₁ X0 hx hby hml hret hlk hown hnm hZ e0
  have N0 := Fr.nil n0
  refine o_top (g' := (mkF m 0 #[.val (.ref a1), .val .null, .unset] [])) (by first | (simp [entryFrame, mkF, argsToLocals, Value.category]; done) | rfl) ?_
  refine o_aloadN (v := (.ref a1)) (pc := 0) X0 hx (hb hby o_d34_0) rfl rfl ?_
  refine o_aloadN (v := .null) (pc := 1) X0 hx (hb hby o_d34_1) rfl rfl ?_
  refine o_acmp (x := (.ref a1)) (y := .null) (pc := 2) X0 hx 7 false rfl rfl (hb hby o_d34_2) (decide_eq_false nofun) (by decide) (by decide) ?_
  refine o_aloadN (v := .null) (pc := 7) X0 hx (hb hby o_d34_7) rfl rfl ?_
  refine o_instNull (pc := 8) X0 hx (hb hby o_d34_8) ?_
  refine o_ifYes (pc := 11) X0 hx 54 (hb hby o_d34_11) ((if0 _ _).trans (teq (by decide : (0 : Int32) = (0 : Int32))).1) (by decide) (by decide) ?_
  refine o_iconst (pc := 54) X0 hx (0 : Int32) (hb hby o_d34_54) rfl ?_
  exact o_retN (pc := 55) X0 hx .boolean hret hlk (by simp) (hb hby o_d34_55) e0 (by decide) (by decide) ⟨rfl, N0, rfl⟩
theorem o_samez {Z : State} {h : Heap} {a b d1 d2 : Addr} {C n d : String} {z1 z2 : Int32} (e : a = b) (F1 : Fld Z h a C n d (.ref d1)) (F2 : Fld Z h b C n d (.ref d2)) (V1 : Byt Z h d1 z1) (V2 : Byt Z h d2 z2) : z1.toNatClampNeg = z2.toNatClampNeg := by
  have ed : d1 = d2 := Decidable.byContradiction fun q => Fld.ne F1 F2 (fun r => q (Value.ref.inj r)) e
  subst ed
  obtain ⟨k1, v1, -, c1, A1, -, S1, -⟩ := V1
  obtain ⟨k2, v2, -, c2, A2, -, S2, -⟩ := V2
  cases A1.1.symm.trans A2.1
  exact S1.symm.trans S2
theorem o_pn_java_lang_StringLatin1 : plainName "java/lang/StringLatin1" = true := by first | (simp [plainName, overriddenIn]; done) | decide +kernel
theorem o_d35_34 : decode jdk_43_method_13_code 34 = .ok (.iconst 0, 1) := by decide +kernel
theorem o_d35_35 : decode jdk_43_method_13_code 35 = .ok (.ireturn, 1) := by decide +kernel
set_option maxRecDepth 65536 in
set_option maxHeartbeats 40000000 in
theorem rmLEne (l : Launch) (Z : State) (a0 : Array Value) (hw : ∀ d ∈ tables_1, d.before a0 Z = true) (ws : List Jvm.Cond) (d1 d2 : Addr) (z1 z2 : Int32) (h0 : Heap) (n0 : Nat) (O0 : Old Z n0 h0) (V1 : Byt Z h0 d1 z1) (V2 : Byt Z h0 d2 z2) (hz : z1.toNatClampNeg ≠ z2.toNatClampNeg) :
    Ct l Z (⟨"java/lang/StringLatin1", "equals", "([B[B)Z"⟩ : MethodName) jdk_43_method_13_code 3 (some .boolean) ({ frames := 0, cells := 0, slots := 0, locals := 0 } : Room) ws #[(.ref d1), (.ref d2)] h0 (fun v h L => v = some (.int (0 : Int32)) ∧ Fr n0 L ∧ h0 = h) := by
  refine o_body (plainFor_of_name o_pn_java_lang_StringLatin1) ?_
  intro p e s m below meth c s₁ X0 hx hby hml hret hlk hown hnm hZ e0
  have N0 := Fr.nil n0
  refine o_top (g' := (mkF m 0 #[.val (.ref d1), .val (.ref d2), .unset] [])) (by first | (simp [entryFrame, mkF, argsToLocals, Value.category]; done) | rfl) ?_
  refine o_aloadN (v := (.ref d1)) (pc := 0) X0 hx (hb hby o_d35_0) rfl rfl ?_
  refine o_lenB (pc := 1) X0 hx hZ e0 V1 (hb hby o_d35_1) ?_
  refine o_aloadN (v := (.ref d2)) (pc := 2) X0 hx (hb hby o_d35_2) rfl rfl ?_
  refine o_lenB (pc := 3) X0 hx hZ e0 V2 (hb hby o_d35_3) ?_
  refine o_icmpYes (pc := 4) X0 hx 34 (hb hby o_d35_4) (feq (fun q => hz (by rw [q]))).2 (by decide) (by decide) ?_
  refine o_iconst (pc := 34) X0 hx (0 : Int32) (hb hby o_d35_34) rfl ?_
  exact o_retN (pc := 35) X0 hx .boolean hret hlk (by simp) (hb hby o_d35_35) e0 (by decide) (by decide) ⟨rfl, N0, rfl⟩
set_option maxRecDepth 65536 in
set_option maxHeartbeats 40000000 in
theorem rmEQne (l : Launch) (Z : State) (a0 : Array Value) (hw : ∀ d ∈ tables_1, d.before a0 Z = true) (ws : List Jvm.Cond) (a1 a2 d1 d2 : Addr) (z1 z2 : Int32) (cs : Int32) (h0 : Heap) (n0 : Nat) (O0 : Old Z n0 h0) (E1 : Exa Z h0 a1 "java/lang/String") (C1 : Fld Z h0 a1 "java/lang/String" "coder" "B" (.int (0 : Int32))) (F1 : Fld Z h0 a1 "java/lang/String" "value" "[B" (.ref d1)) (V1 : Byt Z h0 d1 z1) (E2 : Exa Z h0 a2 "java/lang/String") (C2 : Fld Z h0 a2 "java/lang/String" "coder" "B" (.int (0 : Int32))) (F2 : Fld Z h0 a2 "java/lang/String" "value" "[B" (.ref d2)) (V2 : Byt Z h0 d2 z2) (SC : Sta Z Z.heap "java/lang/String" "COMPACT_STRINGS" "Z" (.int cs)) (hcs : ¬ cs = (0 : Int32)) (hz : z1.toNatClampNeg ≠ z2.toNatClampNeg) :
    Ct l Z (⟨"java/lang/String", "equals", "(Ljava/lang/Object;)Z"⟩ : MethodName) jdk_42_method_66_code 3 (some .boolean) ({ frames := 1, cells := 0, slots := 0, locals := 14 } : Room) ws #[(.ref a1), (.ref a2)] h0 (fun v h L => v = some (.int (0 : Int32)) ∧ Fr n0 L ∧ h0 = h) := by
  refine o_body (plainFor_of_name o_pn_java_lang_String) ?_
  intro p e s m below meth c s₁ X0 hx hby hml hret hlk hown hnm hZ e0
  have N0 := Fr.nil n0
  refine o_top (g' := (mkF m 0 #[.val (.ref a1), .val (.ref a2), .unset] [])) (by first | (simp [entryFrame, mkF, argsToLocals, Value.category]; done) | rfl) ?_
  refine o_aloadN (v := (.ref a1)) (pc := 0) X0 hx (hb hby o_d34_0) rfl rfl ?_
  refine o_aloadN (v := (.ref a2)) (pc := 1) X0 hx (hb hby o_d34_1) rfl rfl ?_
  by_cases hc309 : a1 = a2
  · skip
    refine o_acmp (x := (.ref a1)) (y := (.ref a2)) (pc := 2) X0 hx 5 true rfl rfl (hb hby o_d34_2) (decide_eq_true (congrArg Value.ref hc309)) (by decide) (by decide) ?_
    refine o_iconst (pc := 5) X0 hx (1 : Int32) (hb hby o_d34_5) rfl ?_
    exact o_retN (pc := 6) X0 hx .boolean hret hlk (by simp) (hb hby o_d34_6) e0 (by decide) (by decide) ⟨absurd (o_samez hc309 F1 F2 V1 V2) hz, N0, rfl⟩
  · skip
    refine o_acmp (x := (.ref a1)) (y := (.ref a2)) (pc := 2) X0 hx 7 false rfl rfl (hb hby o_d34_2) (decide_eq_false fun q => hc309 (Value.ref.inj q)) (by decide) (by decide) ?_
    refine o_aloadN (v := (.ref a2)) (pc := 7) X0 hx (hb hby o_d34_7) rfl rfl ?_
    refine o_instY (pc := 8) X0 hx hZ hown (hw _ (List.mem_of_getElem? (i := 218) rfl)) e0 (Ins.self E2) (hb hby o_d34_8) fun T310 X310 e310 => ?_
    refine o_ifNo (pc := 11) X310 hx (hb hby o_d34_11) ((if0 _ _).trans (feq (by decide : ¬ ((1 : Int32) = (0 : Int32)))).1) ?_
    refine o_aloadN (v := (.ref a2)) (pc := 14) X310 hx (hb hby o_d34_14) rfl rfl ?_
    refine o_cast (pc := 15) X310 hx hZ hown (hw _ (List.mem_of_getElem? (i := 218) rfl)) e310 (Ins.self E2) (hb hby o_d34_15) fun T311 X311 e311 => ?_
    refine o_astoreN (l' := #[.val (.ref a1), .val (.ref a2), .val (.ref a2)]) (pc := 18) X311 hx (hb hby o_d34_18) rfl rfl ?_
    refine o_getS (pc := 19) X311 hx hZ hown (host := "") (Or.inl (hw _ (List.mem_of_getElem? (i := 57) rfl))) Via.refl e311 (SC.ext O0.2) (hb hby o_d34_19) fun T312 X312 e312 => ?_
    refine o_ifNo (pc := 22) X312 hx (hb hby o_d34_22) ((if0 _ _).trans (feq hcs).1) ?_
    refine o_aloadN (v := (.ref a1)) (pc := 25) X312 hx (hb hby o_d34_25) rfl rfl ?_
    refine o_getF (pc := 26) X312 hx hZ hown (host := "") (Or.inl (hw _ (List.mem_of_getElem? (i := 58) rfl))) Via.refl e312 C1 (hb hby o_d34_26) fun T313 X313 e313 => ?_
    refine o_aloadN (v := (.ref a2)) (pc := 29) X313 hx (hb hby o_d34_29) rfl rfl ?_
    refine o_getF (pc := 30) X313 hx hZ hown (host := "") (Or.inl (hw _ (List.mem_of_getElem? (i := 58) rfl))) Via.refl e313 C2 (hb hby o_d34_30) fun T314 X314 e314 => ?_
    refine o_icmpNo (pc := 33) X314 hx (hb hby o_d34_33) (teq (by decide : (0 : Int32) = (0 : Int32))).2 ?_
    refine o_aloadN (v := (.ref a1)) (pc := 36) X314 hx (hb hby o_d34_36) rfl rfl ?_
    refine o_getF (pc := 37) X314 hx hZ hown (host := "") (Or.inl (hw _ (List.mem_of_getElem? (i := 51) rfl))) Via.refl e314 F1 (hb hby o_d34_37) fun T315 X315 e315 => ?_
    refine o_aloadN (v := (.ref a2)) (pc := 40) X315 hx (hb hby o_d34_40) rfl rfl ?_
    refine o_getF (pc := 41) X315 hx hZ hown (host := "") (Or.inl (hw _ (List.mem_of_getElem? (i := 51) rfl))) Via.refl e315 F2 (hb hby o_d34_41) fun T316 X316 e316 => ?_
    refine o_callS (pc := 44) X316 hx hZ (y := (⟨"java/lang/StringLatin1", "equals", "([B[B)Z"⟩ : MethodName)) (argsL := [(.ref d1), (.ref d2)]) (rest := []) hown (hw _ (List.mem_of_getElem? (i := 219) rfl)) (hw _ (List.mem_of_getElem? (i := 220) rfl)) (hw _ (List.mem_of_getElem? (i := 221) rfl)) (hw _ (List.mem_of_getElem? (i := 222) rfl)) (by decide) (rmLEne l Z a0 hw [] d1 d2 z1 z2 h0 n0 O0 V1 V2 hz) e316 (by rw [hml]; rfl) (lenOf o_pd4 rfl) (has := rfl) (hst := rfl) (W := 0) (Nat.le_of_ble_eq_true rfl) (hb hby o_d34_44) (by decide) (by decide) (by decide) (by decide) fun v317 T317 h317 L317 X317 e317 q317 => ?_
    obtain ⟨rfl, N317q, rfl⟩ := q317
    have N317 := Fr.app N0 N317q
    show Go p e below T317 (mkF m 47 #[.val (.ref a1), .val (.ref a2), .val (.ref a2)] [(.int (0 : Int32))]) _
    refine o_ifYes (pc := 47) X317 hx 54 (hb hby o_d34_47) ((if0 _ _).trans (teq (by decide : (0 : Int32) = (0 : Int32))).1) (by decide) (by decide) ?_
    refine o_iconst (pc := 54) X317 hx (0 : Int32) (hb hby o_d34_54) rfl ?_
    exact o_retN (pc := 55) X317 hx .boolean hret hlk (by simp) (hb hby o_d34_55) e317 (by decide) (by decide) ⟨rfl, N317, rfl⟩
theorem o_d33_0 : decode prog_10_method_3_code 0 = .ok (.ldc 28, 2) := by decide +kernel
theorem o_d33_2 : decode prog_10_method_3_code 2 = .ok (.aload_n 0, 1) := by decide +kernel
theorem o_d33_3 : decode prog_10_method_3_code 3 = .ok (.getfield 22, 3) := by decide +kernel
theorem o_d33_6 : decode prog_10_method_3_code 6 = .ok (.invokevirtual 30, 3) := by decide +kernel
theorem o_pd26 : parseMethodDescriptor "(Ljava/lang/Object;)Z" = some ⟨[(.object "java/lang/Object")], some .boolean⟩ := by decide +kernel
theorem o_d33_9 : decode prog_10_method_3_code 9 = .ok (.ifCond .ne 27, 3) := by decide +kernel
theorem o_d33_12 : decode prog_10_method_3_code 12 = .ok (.ldc 36, 2) := by decide +kernel
theorem o_d33_14 : decode prog_10_method_3_code 14 = .ok (.aload_n 0, 1) := by decide +kernel
theorem o_d33_15 : decode prog_10_method_3_code 15 = .ok (.getfield 22, 3) := by decide +kernel
theorem o_d33_18 : decode prog_10_method_3_code 18 = .ok (.invokevirtual 30, 3) := by decide +kernel
theorem o_d33_21 : decode prog_10_method_3_code 21 = .ok (.ifCond .ne 15, 3) := by decide +kernel
theorem o_d33_24 : decode prog_10_method_3_code 24 = .ok (.ldc 38, 2) := by decide +kernel
theorem o_d33_26 : decode prog_10_method_3_code 26 = .ok (.aload_n 0, 1) := by decide +kernel
theorem o_d33_27 : decode prog_10_method_3_code 27 = .ok (.getfield 22, 3) := by decide +kernel
theorem o_d33_30 : decode prog_10_method_3_code 30 = .ok (.invokevirtual 30, 3) := by decide +kernel
theorem o_d33_33 : decode prog_10_method_3_code 33 = .ok (.ifCond .eq 7, 3) := by decide +kernel
theorem o_d33_40 : decode prog_10_method_3_code 40 = .ok (.iconst 0, 1) := by decide +kernel
theorem o_d33_41 : decode prog_10_method_3_code 41 = .ok (.ireturn, 1) := by decide +kernel
set_option maxRecDepth 65536 in
set_option maxHeartbeats 40000000 in
theorem rmRN (l : Launch) (Z : State) (a0 : Array Value) (hw : ∀ d ∈ tables_1, d.before a0 Z = true) (ws : List Jvm.Cond) (a1 : Addr) (cs : Int32) (h0 : Heap) (n0 : Nat) (O0 : Old Z n0 h0) (FR : Fld Z h0 a1 "com/example/twinstate/twinstate/TransactionRolledBackException" "reason" "Ljava/lang/String;" .null) (SC : Sta Z Z.heap "java/lang/String" "COMPACT_STRINGS" "Z" (.int cs)) (hcs : ¬ cs = (0 : Int32)) :
    CtH l Z consts_1 (⟨"com/example/twinstate/twinstate/TransactionRolledBackException", "rerunnable", "()Z"⟩ : MethodName) prog_10_method_3_code 1 (some .boolean) ({ frames := 1, cells := 6, slots := 152, locals := 14 } : Room) ws #[(.ref a1)] h0 (fun v h L => v = some (.int (0 : Int32)) ∧ Fr n0 L ∧ Ext h0 h) := by
  refine o_bodyH (plainFor_of_name o_pn_com_example_twinstate_twinstate_TransactionRolledBackException) ?_
  intro p e s m below meth c s₁ X0 hx hby hml hret hlk hown hnm hZ e0 hh H0
  have N0 := Fr.nil n0
  have B0 := BsH.start H0
  have hZ0 := hZ
  refine o_top (g' := (mkF m 0 #[.val (.ref a1)] [])) (by first | (simp [entryFrame, mkF, argsToLocals, Value.category]; done) | rfl) ?_
  refine o_ldcH (pc := 0) X0 hx hZ hown (hw _ (List.mem_of_getElem? (i := 211) rfl)) (o_wS hw) e0 (o_EW hw) (List.mem_of_getElem? (i := 1) rfl) B0 (vs := [(.int (100 : Int32)), (.int (101 : Int32)), (.int (97 : Int32)), (.int (100 : Int32)), (.int (108 : Int32)), (.int (111 : Int32)), (.int (99 : Int32)), (.int (107 : Int32))]) (z := (8 : Int32)) ⟨by decide, rfl⟩ (by decide) rfl (hb hby o_d33_0) 32 (by decide) (by decide) (by decide) (by decide) fun sB318 b318 T318 h318 d318 k318 X318 e318 E318 B318 hZ318 hown318 hC318 Le318 Lc318 Lv318 La318 Sf318 => ?_
  have O319 := O0.ext E318
  have K319 : Keep h0 h318 [] := (Keep.refl h0 []).ext E318
  refine o_aloadN (v := (.ref a1)) (pc := 2) X318 hx (hb hby o_d33_2) rfl rfl ?_
  refine o_getF (pc := 3) X318 hx hZ318 hown318 (host := "") (Or.inl (hw _ (List.mem_of_getElem? (i := 204) rfl))) Via.refl e318 (FR.ext E318) (hb hby o_d33_3) fun T320 X320 e320 => ?_
  refine o_callV (pc := 6) X320 hx hZ318 (y := (⟨"java/lang/String", "equals", "(Ljava/lang/Object;)Z"⟩ : MethodName)) (z := (⟨"java/lang/String", "equals", "(Ljava/lang/Object;)Z"⟩ : MethodName)) (C := "java/lang/String") (a := b318) (argsL := [.null]) (rest := []) hown318 (hw _ (List.mem_of_getElem? (i := 212) rfl)) (hw _ (List.mem_of_getElem? (i := 213) rfl)) (notFace_of_selects (args := #[]) (mvT hZ318 (hw _ (List.mem_of_getElem? (i := 215) rfl)))) (hw _ (List.mem_of_getElem? (i := 215) rfl)) (hw _ (List.mem_of_getElem? (i := 214) rfl)) (hw _ (List.mem_of_getElem? (i := 2) rfl)) (hw _ (List.mem_of_getElem? (i := 216) rfl)) (by decide) (rmEQN l Z a0 hw [] b318 h318 n0 O319) e320 Le318 (by rw [hml]; rfl) (lenOf o_pd26 rfl) (has := rfl) (hst := rfl) (W := 0) (Nat.le_of_ble_eq_true rfl) (hb hby o_d33_6) (by decide) (by decide) (by decide) (by decide) fun v321 T321 h321 L321 X321 e321 q321 => ?_
  obtain ⟨rfl, N321q, rfl⟩ := q321
  have N321 := Fr.app N0 N321q
  show Go p e below T321 (mkF m 9 #[.val (.ref a1)] [(.int (0 : Int32))]) _
  refine o_ifNo (pc := 9) X321 hx (hb hby o_d33_9) ((if0 _ _).trans (teq (by decide : (0 : Int32) = (0 : Int32))).2) ?_
  refine o_ldcH (pc := 12) X321 hx hZ318 hown318 (hw _ (List.mem_of_getElem? (i := 223) rfl)) (o_wS hw) e321 (o_EW hw) (List.mem_of_getElem? (i := 2) rfl) B318 (vs := [(.int (108 : Int32)), (.int (101 : Int32)), (.int (97 : Int32)), (.int (115 : Int32)), (.int (101 : Int32)), (.int (32 : Int32)), (.int (108 : Int32)), (.int (111 : Int32)), (.int (115 : Int32)), (.int (116 : Int32))]) (z := (10 : Int32)) ⟨by decide, rfl⟩ (by decide) rfl (hb hby o_d33_12) 40 (by decide) (by decide) (by decide) (by decide) fun sB322 b322 T322 h322 d322 k322 X322 e322 E322 B322 hZ322 hown322 hC322 Le322 Lc322 Lv322 La322 Sf322 => ?_
  have O323 := O319.ext E322
  have K323 : Keep h0 h322 [] := K319.ext E322
  refine o_aloadN (v := (.ref a1)) (pc := 14) X322 hx (hb hby o_d33_14) rfl rfl ?_
  refine o_getF (pc := 15) X322 hx hZ322 hown322 (host := "") (Or.inl (hw _ (List.mem_of_getElem? (i := 204) rfl))) Via.refl e322 ((FR.ext E318).ext E322) (hb hby o_d33_15) fun T324 X324 e324 => ?_
  refine o_callV (pc := 18) X324 hx hZ322 (y := (⟨"java/lang/String", "equals", "(Ljava/lang/Object;)Z"⟩ : MethodName)) (z := (⟨"java/lang/String", "equals", "(Ljava/lang/Object;)Z"⟩ : MethodName)) (C := "java/lang/String") (a := b322) (argsL := [.null]) (rest := []) hown322 (hw _ (List.mem_of_getElem? (i := 212) rfl)) (hw _ (List.mem_of_getElem? (i := 213) rfl)) (notFace_of_selects (args := #[]) (mvT hZ322 (hw _ (List.mem_of_getElem? (i := 215) rfl)))) (hw _ (List.mem_of_getElem? (i := 215) rfl)) (hw _ (List.mem_of_getElem? (i := 214) rfl)) (hw _ (List.mem_of_getElem? (i := 2) rfl)) (hw _ (List.mem_of_getElem? (i := 216) rfl)) (by decide) (rmEQN l Z a0 hw [] b322 h322 n0 O323) e324 Le322 (by rw [hml]; rfl) (lenOf o_pd26 rfl) (has := rfl) (hst := rfl) (W := 0) (Nat.le_of_ble_eq_true rfl) (hb hby o_d33_18) (by decide) (by decide) (by decide) (by decide) fun v325 T325 h325 L325 X325 e325 q325 => ?_
  obtain ⟨rfl, N325q, rfl⟩ := q325
  have N325 := Fr.app N321 N325q
  show Go p e below T325 (mkF m 21 #[.val (.ref a1)] [(.int (0 : Int32))]) _
  refine o_ifNo (pc := 21) X325 hx (hb hby o_d33_21) ((if0 _ _).trans (teq (by decide : (0 : Int32) = (0 : Int32))).2) ?_
  refine o_ldcH (pc := 24) X325 hx hZ322 hown322 (hw _ (List.mem_of_getElem? (i := 224) rfl)) (o_wS hw) e325 (o_EW hw) (List.mem_of_getElem? (i := 3) rfl) B322 (vs := [(.int (108 : Int32)), (.int (111 : Int32)), (.int (99 : Int32)), (.int (107 : Int32)), (.int (32 : Int32)), (.int (119 : Int32)), (.int (97 : Int32)), (.int (105 : Int32)), (.int (116 : Int32)), (.int (32 : Int32)), (.int (116 : Int32)), (.int (105 : Int32)), (.int (109 : Int32)), (.int (101 : Int32)), (.int (111 : Int32)), (.int (117 : Int32)), (.int (116 : Int32))]) (z := (17 : Int32)) ⟨by decide, rfl⟩ (by decide) rfl (hb hby o_d33_24) 68 (by decide) (by decide) (by decide) (by decide) fun sB326 b326 T326 h326 d326 k326 X326 e326 E326 B326 hZ326 hown326 hC326 Le326 Lc326 Lv326 La326 Sf326 => ?_
  have O327 := O323.ext E326
  have K327 : Keep h0 h326 [] := K323.ext E326
  refine o_aloadN (v := (.ref a1)) (pc := 26) X326 hx (hb hby o_d33_26) rfl rfl ?_
  refine o_getF (pc := 27) X326 hx hZ326 hown326 (host := "") (Or.inl (hw _ (List.mem_of_getElem? (i := 204) rfl))) Via.refl e326 (((FR.ext E318).ext E322).ext E326) (hb hby o_d33_27) fun T328 X328 e328 => ?_
  refine o_callV (pc := 30) X328 hx hZ326 (y := (⟨"java/lang/String", "equals", "(Ljava/lang/Object;)Z"⟩ : MethodName)) (z := (⟨"java/lang/String", "equals", "(Ljava/lang/Object;)Z"⟩ : MethodName)) (C := "java/lang/String") (a := b326) (argsL := [.null]) (rest := []) hown326 (hw _ (List.mem_of_getElem? (i := 212) rfl)) (hw _ (List.mem_of_getElem? (i := 213) rfl)) (notFace_of_selects (args := #[]) (mvT hZ326 (hw _ (List.mem_of_getElem? (i := 215) rfl)))) (hw _ (List.mem_of_getElem? (i := 215) rfl)) (hw _ (List.mem_of_getElem? (i := 214) rfl)) (hw _ (List.mem_of_getElem? (i := 2) rfl)) (hw _ (List.mem_of_getElem? (i := 216) rfl)) (by decide) (rmEQN l Z a0 hw [] b326 h326 n0 O327) e328 Le326 (by rw [hml]; rfl) (lenOf o_pd26 rfl) (has := rfl) (hst := rfl) (W := 0) (Nat.le_of_ble_eq_true rfl) (hb hby o_d33_30) (by decide) (by decide) (by decide) (by decide) fun v329 T329 h329 L329 X329 e329 q329 => ?_
  obtain ⟨rfl, N329q, rfl⟩ := q329
  have N329 := Fr.app N325 N329q
  show Go p e below T329 (mkF m 33 #[.val (.ref a1)] [(.int (0 : Int32))]) _
  refine o_ifYes (pc := 33) X329 hx 40 (hb hby o_d33_33) ((if0 _ _).trans (teq (by decide : (0 : Int32) = (0 : Int32))).1) (by decide) (by decide) ?_
  refine o_iconst (pc := 40) X329 hx (0 : Int32) (hb hby o_d33_40) rfl ?_
  exact o_retNH (pc := 41) X329 hx hZ326 (o_EW hw) hh B326 .boolean hret hlk (by simp) (hb hby o_d33_41) e329 (by decide) (by decide) ⟨rfl, N329, o_keep0 K327⟩
set_option maxRecDepth 65536 in
set_option maxHeartbeats 40000000 in
theorem rmR0 (l : Launch) (Z : State) (a0 : Array Value) (hw : ∀ d ∈ tables_1, d.before a0 Z = true) (ws : List Jvm.Cond) (a1 a2 d2 : Addr) (z : Int32) (cs : Int32) (h0 : Heap) (n0 : Nat) (O0 : Old Z n0 h0) (FR : Fld Z h0 a1 "com/example/twinstate/twinstate/TransactionRolledBackException" "reason" "Ljava/lang/String;" (.ref a2)) (SC : Sta Z Z.heap "java/lang/String" "COMPACT_STRINGS" "Z" (.int cs)) (hcs : ¬ cs = (0 : Int32)) (E2 : Exa Z h0 a2 "java/lang/String") (C2 : Fld Z h0 a2 "java/lang/String" "coder" "B" (.int (0 : Int32))) (F2 : Fld Z h0 a2 "java/lang/String" "value" "[B" (.ref d2)) (V2 : Byt Z h0 d2 z) (hz8 : z.toNatClampNeg ≠ (8 : Int32).toNatClampNeg) (hz10 : z.toNatClampNeg ≠ (10 : Int32).toNatClampNeg) (hz17 : z.toNatClampNeg ≠ (17 : Int32).toNatClampNeg) :
    CtH l Z consts_1 (⟨"com/example/twinstate/twinstate/TransactionRolledBackException", "rerunnable", "()Z"⟩ : MethodName) prog_10_method_3_code 1 (some .boolean) ({ frames := 2, cells := 6, slots := 152, locals := 28 } : Room) ws #[(.ref a1)] h0 (fun v h L => v = some (.int (0 : Int32)) ∧ Fr n0 L ∧ Ext h0 h) := by
  refine o_bodyH (plainFor_of_name o_pn_com_example_twinstate_twinstate_TransactionRolledBackException) ?_
  intro p e s m below meth c s₁ X0 hx hby hml hret hlk hown hnm hZ e0 hh H0
  have N0 := Fr.nil n0
  have B0 := BsH.start H0
  have hZ0 := hZ
  refine o_top (g' := (mkF m 0 #[.val (.ref a1)] [])) (by first | (simp [entryFrame, mkF, argsToLocals, Value.category]; done) | rfl) ?_
  refine o_ldcH (pc := 0) X0 hx hZ hown (hw _ (List.mem_of_getElem? (i := 211) rfl)) (o_wS hw) e0 (o_EW hw) (List.mem_of_getElem? (i := 1) rfl) B0 (vs := [(.int (100 : Int32)), (.int (101 : Int32)), (.int (97 : Int32)), (.int (100 : Int32)), (.int (108 : Int32)), (.int (111 : Int32)), (.int (99 : Int32)), (.int (107 : Int32))]) (z := (8 : Int32)) ⟨by decide, rfl⟩ (by decide) rfl (hb hby o_d33_0) 32 (by decide) (by decide) (by decide) (by decide) fun sB330 b330 T330 h330 d330 k330 X330 e330 E330 B330 hZ330 hown330 hC330 Le330 Lc330 Lv330 La330 Sf330 => ?_
  have O331 := O0.ext E330
  have K331 : Keep h0 h330 [] := (Keep.refl h0 []).ext E330
  refine o_aloadN (v := (.ref a1)) (pc := 2) X330 hx (hb hby o_d33_2) rfl rfl ?_
  refine o_getF (pc := 3) X330 hx hZ330 hown330 (host := "") (Or.inl (hw _ (List.mem_of_getElem? (i := 204) rfl))) Via.refl e330 (FR.ext E330) (hb hby o_d33_3) fun T332 X332 e332 => ?_
  refine o_callV (pc := 6) X332 hx hZ330 (y := (⟨"java/lang/String", "equals", "(Ljava/lang/Object;)Z"⟩ : MethodName)) (z := (⟨"java/lang/String", "equals", "(Ljava/lang/Object;)Z"⟩ : MethodName)) (C := "java/lang/String") (a := b330) (argsL := [(.ref a2)]) (rest := []) hown330 (hw _ (List.mem_of_getElem? (i := 212) rfl)) (hw _ (List.mem_of_getElem? (i := 213) rfl)) (notFace_of_selects (args := #[]) (mvT hZ330 (hw _ (List.mem_of_getElem? (i := 215) rfl)))) (hw _ (List.mem_of_getElem? (i := 215) rfl)) (hw _ (List.mem_of_getElem? (i := 214) rfl)) (hw _ (List.mem_of_getElem? (i := 2) rfl)) (hw _ (List.mem_of_getElem? (i := 216) rfl)) (by decide) (rmEQne l Z a0 hw [] b330 a2 d330 d2 (8 : Int32) z cs h330 n0 O331 Le330 Lc330 Lv330 (Byt.of La330 rfl) (E2.ext E330) (C2.ext E330) (F2.ext E330) (V2.ext E330) SC hcs (Ne.symm hz8)) e332 Le330 (by rw [hml]; rfl) (lenOf o_pd26 rfl) (has := rfl) (hst := rfl) (W := 0) (Nat.le_of_ble_eq_true rfl) (hb hby o_d33_6) (by decide) (by decide) (by decide) (by decide) fun v333 T333 h333 L333 X333 e333 q333 => ?_
  obtain ⟨rfl, N333q, rfl⟩ := q333
  have N333 := Fr.app N0 N333q
  show Go p e below T333 (mkF m 9 #[.val (.ref a1)] [(.int (0 : Int32))]) _
  refine o_ifNo (pc := 9) X333 hx (hb hby o_d33_9) ((if0 _ _).trans (teq (by decide : (0 : Int32) = (0 : Int32))).2) ?_
  refine o_ldcH (pc := 12) X333 hx hZ330 hown330 (hw _ (List.mem_of_getElem? (i := 223) rfl)) (o_wS hw) e333 (o_EW hw) (List.mem_of_getElem? (i := 2) rfl) B330 (vs := [(.int (108 : Int32)), (.int (101 : Int32)), (.int (97 : Int32)), (.int (115 : Int32)), (.int (101 : Int32)), (.int (32 : Int32)), (.int (108 : Int32)), (.int (111 : Int32)), (.int (115 : Int32)), (.int (116 : Int32))]) (z := (10 : Int32)) ⟨by decide, rfl⟩ (by decide) rfl (hb hby o_d33_12) 40 (by decide) (by decide) (by decide) (by decide) fun sB334 b334 T334 h334 d334 k334 X334 e334 E334 B334 hZ334 hown334 hC334 Le334 Lc334 Lv334 La334 Sf334 => ?_
  have O335 := O331.ext E334
  have K335 : Keep h0 h334 [] := K331.ext E334
  refine o_aloadN (v := (.ref a1)) (pc := 14) X334 hx (hb hby o_d33_14) rfl rfl ?_
  refine o_getF (pc := 15) X334 hx hZ334 hown334 (host := "") (Or.inl (hw _ (List.mem_of_getElem? (i := 204) rfl))) Via.refl e334 ((FR.ext E330).ext E334) (hb hby o_d33_15) fun T336 X336 e336 => ?_
  refine o_callV (pc := 18) X336 hx hZ334 (y := (⟨"java/lang/String", "equals", "(Ljava/lang/Object;)Z"⟩ : MethodName)) (z := (⟨"java/lang/String", "equals", "(Ljava/lang/Object;)Z"⟩ : MethodName)) (C := "java/lang/String") (a := b334) (argsL := [(.ref a2)]) (rest := []) hown334 (hw _ (List.mem_of_getElem? (i := 212) rfl)) (hw _ (List.mem_of_getElem? (i := 213) rfl)) (notFace_of_selects (args := #[]) (mvT hZ334 (hw _ (List.mem_of_getElem? (i := 215) rfl)))) (hw _ (List.mem_of_getElem? (i := 215) rfl)) (hw _ (List.mem_of_getElem? (i := 214) rfl)) (hw _ (List.mem_of_getElem? (i := 2) rfl)) (hw _ (List.mem_of_getElem? (i := 216) rfl)) (by decide) (rmEQne l Z a0 hw [] b334 a2 d334 d2 (10 : Int32) z cs h334 n0 O335 Le334 Lc334 Lv334 (Byt.of La334 rfl) ((E2.ext E330).ext E334) ((C2.ext E330).ext E334) ((F2.ext E330).ext E334) ((V2.ext E330).ext E334) SC hcs (Ne.symm hz10)) e336 Le334 (by rw [hml]; rfl) (lenOf o_pd26 rfl) (has := rfl) (hst := rfl) (W := 0) (Nat.le_of_ble_eq_true rfl) (hb hby o_d33_18) (by decide) (by decide) (by decide) (by decide) fun v337 T337 h337 L337 X337 e337 q337 => ?_
  obtain ⟨rfl, N337q, rfl⟩ := q337
  have N337 := Fr.app N333 N337q
  show Go p e below T337 (mkF m 21 #[.val (.ref a1)] [(.int (0 : Int32))]) _
  refine o_ifNo (pc := 21) X337 hx (hb hby o_d33_21) ((if0 _ _).trans (teq (by decide : (0 : Int32) = (0 : Int32))).2) ?_
  refine o_ldcH (pc := 24) X337 hx hZ334 hown334 (hw _ (List.mem_of_getElem? (i := 224) rfl)) (o_wS hw) e337 (o_EW hw) (List.mem_of_getElem? (i := 3) rfl) B334 (vs := [(.int (108 : Int32)), (.int (111 : Int32)), (.int (99 : Int32)), (.int (107 : Int32)), (.int (32 : Int32)), (.int (119 : Int32)), (.int (97 : Int32)), (.int (105 : Int32)), (.int (116 : Int32)), (.int (32 : Int32)), (.int (116 : Int32)), (.int (105 : Int32)), (.int (109 : Int32)), (.int (101 : Int32)), (.int (111 : Int32)), (.int (117 : Int32)), (.int (116 : Int32))]) (z := (17 : Int32)) ⟨by decide, rfl⟩ (by decide) rfl (hb hby o_d33_24) 68 (by decide) (by decide) (by decide) (by decide) fun sB338 b338 T338 h338 d338 k338 X338 e338 E338 B338 hZ338 hown338 hC338 Le338 Lc338 Lv338 La338 Sf338 => ?_
  have O339 := O335.ext E338
  have K339 : Keep h0 h338 [] := K335.ext E338
  refine o_aloadN (v := (.ref a1)) (pc := 26) X338 hx (hb hby o_d33_26) rfl rfl ?_
  refine o_getF (pc := 27) X338 hx hZ338 hown338 (host := "") (Or.inl (hw _ (List.mem_of_getElem? (i := 204) rfl))) Via.refl e338 (((FR.ext E330).ext E334).ext E338) (hb hby o_d33_27) fun T340 X340 e340 => ?_
  refine o_callV (pc := 30) X340 hx hZ338 (y := (⟨"java/lang/String", "equals", "(Ljava/lang/Object;)Z"⟩ : MethodName)) (z := (⟨"java/lang/String", "equals", "(Ljava/lang/Object;)Z"⟩ : MethodName)) (C := "java/lang/String") (a := b338) (argsL := [(.ref a2)]) (rest := []) hown338 (hw _ (List.mem_of_getElem? (i := 212) rfl)) (hw _ (List.mem_of_getElem? (i := 213) rfl)) (notFace_of_selects (args := #[]) (mvT hZ338 (hw _ (List.mem_of_getElem? (i := 215) rfl)))) (hw _ (List.mem_of_getElem? (i := 215) rfl)) (hw _ (List.mem_of_getElem? (i := 214) rfl)) (hw _ (List.mem_of_getElem? (i := 2) rfl)) (hw _ (List.mem_of_getElem? (i := 216) rfl)) (by decide) (rmEQne l Z a0 hw [] b338 a2 d338 d2 (17 : Int32) z cs h338 n0 O339 Le338 Lc338 Lv338 (Byt.of La338 rfl) (((E2.ext E330).ext E334).ext E338) (((C2.ext E330).ext E334).ext E338) (((F2.ext E330).ext E334).ext E338) (((V2.ext E330).ext E334).ext E338) SC hcs (Ne.symm hz17)) e340 Le338 (by rw [hml]; rfl) (lenOf o_pd26 rfl) (has := rfl) (hst := rfl) (W := 0) (Nat.le_of_ble_eq_true rfl) (hb hby o_d33_30) (by decide) (by decide) (by decide) (by decide) fun v341 T341 h341 L341 X341 e341 q341 => ?_
  obtain ⟨rfl, N341q, rfl⟩ := q341
  have N341 := Fr.app N337 N341q
  show Go p e below T341 (mkF m 33 #[.val (.ref a1)] [(.int (0 : Int32))]) _
  refine o_ifYes (pc := 33) X341 hx 40 (hb hby o_d33_33) ((if0 _ _).trans (teq (by decide : (0 : Int32) = (0 : Int32))).1) (by decide) (by decide) ?_
  refine o_iconst (pc := 40) X341 hx (0 : Int32) (hb hby o_d33_40) rfl ?_
  exact o_retNH (pc := 41) X341 hx hZ338 (o_EW hw) hh B338 .boolean hret hlk (by simp) (hb hby o_d33_41) e341 (by decide) (by decide) ⟨rfl, N341, o_keep0 K339⟩
theorem o_d33_36 : decode prog_10_method_3_code 36 = .ok (.iconst 1, 1) := by decide +kernel
theorem o_d33_37 : decode prog_10_method_3_code 37 = .ok (.goto 4, 3) := by decide +kernel
set_option maxRecDepth 65536 in
set_option maxHeartbeats 40000000 in
theorem rmR8 (l : Launch) (Z : State) (a0 : Array Value) (hw : ∀ d ∈ tables_1, d.before a0 Z = true) (ws : List Jvm.Cond) (a1 a2 d2 : Addr) (kq : ClassId) (cs : Int32) (ys : List Int32) (h0 : Heap) (n0 : Nat) (O0 : Old Z n0 h0) (FR : Fld Z h0 a1 "com/example/twinstate/twinstate/TransactionRolledBackException" "reason" "Ljava/lang/String;" (.ref a2)) (SC : Sta Z Z.heap "java/lang/String" "COMPACT_STRINGS" "Z" (.int cs)) (hcs : ¬ cs = (0 : Int32)) (E2 : Exa Z h0 a2 "java/lang/String") (C2 : Fld Z h0 a2 "java/lang/String" "coder" "B" (.int (0 : Int32))) (F2 : Fld Z h0 a2 "java/lang/String" "value" "[B" (.ref d2)) (V2 : Arv Z h0 d2 kq .byte (8 : Int32) (ys.map Value.int) (.int 0)) (hly : (8 : Int32).toNatClampNeg = ys.length) :
    CtH l Z consts_1 (⟨"com/example/twinstate/twinstate/TransactionRolledBackException", "rerunnable", "()Z"⟩ : MethodName) prog_10_method_3_code 1 (some .boolean) ({ frames := 2, cells := 6, slots := 152, locals := 28 } : Room) ws #[(.ref a1)] h0 (fun v h L => v = some (.int (if [(100 : Int32), (101 : Int32), (97 : Int32), (100 : Int32), (108 : Int32), (111 : Int32), (99 : Int32), (107 : Int32)] = ys then (1 : Int32) else 0)) ∧ Fr n0 L ∧ Ext h0 h) := by
  refine o_bodyH (plainFor_of_name o_pn_com_example_twinstate_twinstate_TransactionRolledBackException) ?_
  intro p e s m below meth c s₁ X0 hx hby hml hret hlk hown hnm hZ e0 hh H0
  have N0 := Fr.nil n0
  have B0 := BsH.start H0
  have hZ0 := hZ
  refine o_top (g' := (mkF m 0 #[.val (.ref a1)] [])) (by first | (simp [entryFrame, mkF, argsToLocals, Value.category]; done) | rfl) ?_
  refine o_ldcH (pc := 0) X0 hx hZ hown (hw _ (List.mem_of_getElem? (i := 211) rfl)) (o_wS hw) e0 (o_EW hw) (List.mem_of_getElem? (i := 1) rfl) B0 (vs := [(.int (100 : Int32)), (.int (101 : Int32)), (.int (97 : Int32)), (.int (100 : Int32)), (.int (108 : Int32)), (.int (111 : Int32)), (.int (99 : Int32)), (.int (107 : Int32))]) (z := (8 : Int32)) ⟨by decide, rfl⟩ (by decide) rfl (hb hby o_d33_0) 32 (by decide) (by decide) (by decide) (by decide) fun sB342 b342 T342 h342 d342 k342 X342 e342 E342 B342 hZ342 hown342 hC342 Le342 Lc342 Lv342 La342 Sf342 => ?_
  have O343 := O0.ext E342
  have K343 : Keep h0 h342 [] := (Keep.refl h0 []).ext E342
  refine o_aloadN (v := (.ref a1)) (pc := 2) X342 hx (hb hby o_d33_2) rfl rfl ?_
  refine o_getF (pc := 3) X342 hx hZ342 hown342 (host := "") (Or.inl (hw _ (List.mem_of_getElem? (i := 204) rfl))) Via.refl e342 (FR.ext E342) (hb hby o_d33_3) fun T344 X344 e344 => ?_
  refine o_callV (pc := 6) X344 hx hZ342 (y := (⟨"java/lang/String", "equals", "(Ljava/lang/Object;)Z"⟩ : MethodName)) (z := (⟨"java/lang/String", "equals", "(Ljava/lang/Object;)Z"⟩ : MethodName)) (C := "java/lang/String") (a := b342) (argsL := [(.ref a2)]) (rest := []) hown342 (hw _ (List.mem_of_getElem? (i := 212) rfl)) (hw _ (List.mem_of_getElem? (i := 213) rfl)) (notFace_of_selects (args := #[]) (mvT hZ342 (hw _ (List.mem_of_getElem? (i := 215) rfl)))) (hw _ (List.mem_of_getElem? (i := 215) rfl)) (hw _ (List.mem_of_getElem? (i := 214) rfl)) (hw _ (List.mem_of_getElem? (i := 2) rfl)) (hw _ (List.mem_of_getElem? (i := 216) rfl)) (by decide) (rmEQL l Z a0 hw [] b342 a2 d342 d2 k342 kq cs [(100 : Int32), (101 : Int32), (97 : Int32), (100 : Int32), (108 : Int32), (111 : Int32), (99 : Int32), (107 : Int32)] ys (8 : Int32) h342 n0 O343 Le342 Lc342 Lv342 (E2.ext E342) (C2.ext E342) (F2.ext E342) La342 (V2.ext E342) SC hcs rfl hly (by decide)) e344 Le342 (by rw [hml]; rfl) (lenOf o_pd26 rfl) (has := rfl) (hst := rfl) (W := 0) (Nat.le_of_ble_eq_true rfl) (hb hby o_d33_6) (by decide) (by decide) (by decide) (by decide) fun v345 T345 h345 L345 X345 e345 q345 => ?_
  obtain ⟨rfl, N345q, rfl⟩ := q345
  have N345 := Fr.app N0 N345q
  show Go p e below T345 (mkF m 9 #[.val (.ref a1)] [(.int (if [(100 : Int32), (101 : Int32), (97 : Int32), (100 : Int32), (108 : Int32), (111 : Int32), (99 : Int32), (107 : Int32)] = ys then (1 : Int32) else 0))]) _
  by_cases hc346 : (if [(100 : Int32), (101 : Int32), (97 : Int32), (100 : Int32), (108 : Int32), (111 : Int32), (99 : Int32), (107 : Int32)] = ys then (1 : Int32) else 0) = (0 : Int32)
  · skip
    refine o_ifNo (pc := 9) X345 hx (hb hby o_d33_9) ((if0 _ _).trans (teq hc346).2) ?_
    refine o_ldcH (pc := 12) X345 hx hZ342 hown342 (hw _ (List.mem_of_getElem? (i := 223) rfl)) (o_wS hw) e345 (o_EW hw) (List.mem_of_getElem? (i := 2) rfl) B342 (vs := [(.int (108 : Int32)), (.int (101 : Int32)), (.int (97 : Int32)), (.int (115 : Int32)), (.int (101 : Int32)), (.int (32 : Int32)), (.int (108 : Int32)), (.int (111 : Int32)), (.int (115 : Int32)), (.int (116 : Int32))]) (z := (10 : Int32)) ⟨by decide, rfl⟩ (by decide) rfl (hb hby o_d33_12) 40 (by decide) (by decide) (by decide) (by decide) fun sB347 b347 T347 h347 d347 k347 X347 e347 E347 B347 hZ347 hown347 hC347 Le347 Lc347 Lv347 La347 Sf347 => ?_
    have O348 := O343.ext E347
    have K348 : Keep h0 h347 [] := K343.ext E347
    refine o_aloadN (v := (.ref a1)) (pc := 14) X347 hx (hb hby o_d33_14) rfl rfl ?_
    refine o_getF (pc := 15) X347 hx hZ347 hown347 (host := "") (Or.inl (hw _ (List.mem_of_getElem? (i := 204) rfl))) Via.refl e347 ((FR.ext E342).ext E347) (hb hby o_d33_15) fun T349 X349 e349 => ?_
    refine o_callV (pc := 18) X349 hx hZ347 (y := (⟨"java/lang/String", "equals", "(Ljava/lang/Object;)Z"⟩ : MethodName)) (z := (⟨"java/lang/String", "equals", "(Ljava/lang/Object;)Z"⟩ : MethodName)) (C := "java/lang/String") (a := b347) (argsL := [(.ref a2)]) (rest := []) hown347 (hw _ (List.mem_of_getElem? (i := 212) rfl)) (hw _ (List.mem_of_getElem? (i := 213) rfl)) (notFace_of_selects (args := #[]) (mvT hZ347 (hw _ (List.mem_of_getElem? (i := 215) rfl)))) (hw _ (List.mem_of_getElem? (i := 215) rfl)) (hw _ (List.mem_of_getElem? (i := 214) rfl)) (hw _ (List.mem_of_getElem? (i := 2) rfl)) (hw _ (List.mem_of_getElem? (i := 216) rfl)) (by decide) (rmEQne l Z a0 hw [] b347 a2 d347 d2 (10 : Int32) (8 : Int32) cs h347 n0 O348 Le347 Lc347 Lv347 (Byt.of La347 rfl) ((E2.ext E342).ext E347) ((C2.ext E342).ext E347) ((F2.ext E342).ext E347) (Byt.of ((V2.ext E342).ext E347) (by rw [List.length_map]; exact hly.symm)) SC hcs (by decide)) e349 Le347 (by rw [hml]; rfl) (lenOf o_pd26 rfl) (has := rfl) (hst := rfl) (W := 0) (Nat.le_of_ble_eq_true rfl) (hb hby o_d33_18) (by decide) (by decide) (by decide) (by decide) fun v350 T350 h350 L350 X350 e350 q350 => ?_
    obtain ⟨rfl, N350q, rfl⟩ := q350
    have N350 := Fr.app N345 N350q
    show Go p e below T350 (mkF m 21 #[.val (.ref a1)] [(.int (0 : Int32))]) _
    refine o_ifNo (pc := 21) X350 hx (hb hby o_d33_21) ((if0 _ _).trans (teq (by decide : (0 : Int32) = (0 : Int32))).2) ?_
    refine o_ldcH (pc := 24) X350 hx hZ347 hown347 (hw _ (List.mem_of_getElem? (i := 224) rfl)) (o_wS hw) e350 (o_EW hw) (List.mem_of_getElem? (i := 3) rfl) B347 (vs := [(.int (108 : Int32)), (.int (111 : Int32)), (.int (99 : Int32)), (.int (107 : Int32)), (.int (32 : Int32)), (.int (119 : Int32)), (.int (97 : Int32)), (.int (105 : Int32)), (.int (116 : Int32)), (.int (32 : Int32)), (.int (116 : Int32)), (.int (105 : Int32)), (.int (109 : Int32)), (.int (101 : Int32)), (.int (111 : Int32)), (.int (117 : Int32)), (.int (116 : Int32))]) (z := (17 : Int32)) ⟨by decide, rfl⟩ (by decide) rfl (hb hby o_d33_24) 68 (by decide) (by decide) (by decide) (by decide) fun sB351 b351 T351 h351 d351 k351 X351 e351 E351 B351 hZ351 hown351 hC351 Le351 Lc351 Lv351 La351 Sf351 => ?_
    have O352 := O348.ext E351
    have K352 : Keep h0 h351 [] := K348.ext E351
    refine o_aloadN (v := (.ref a1)) (pc := 26) X351 hx (hb hby o_d33_26) rfl rfl ?_
    refine o_getF (pc := 27) X351 hx hZ351 hown351 (host := "") (Or.inl (hw _ (List.mem_of_getElem? (i := 204) rfl))) Via.refl e351 (((FR.ext E342).ext E347).ext E351) (hb hby o_d33_27) fun T353 X353 e353 => ?_
    refine o_callV (pc := 30) X353 hx hZ351 (y := (⟨"java/lang/String", "equals", "(Ljava/lang/Object;)Z"⟩ : MethodName)) (z := (⟨"java/lang/String", "equals", "(Ljava/lang/Object;)Z"⟩ : MethodName)) (C := "java/lang/String") (a := b351) (argsL := [(.ref a2)]) (rest := []) hown351 (hw _ (List.mem_of_getElem? (i := 212) rfl)) (hw _ (List.mem_of_getElem? (i := 213) rfl)) (notFace_of_selects (args := #[]) (mvT hZ351 (hw _ (List.mem_of_getElem? (i := 215) rfl)))) (hw _ (List.mem_of_getElem? (i := 215) rfl)) (hw _ (List.mem_of_getElem? (i := 214) rfl)) (hw _ (List.mem_of_getElem? (i := 2) rfl)) (hw _ (List.mem_of_getElem? (i := 216) rfl)) (by decide) (rmEQne l Z a0 hw [] b351 a2 d351 d2 (17 : Int32) (8 : Int32) cs h351 n0 O352 Le351 Lc351 Lv351 (Byt.of La351 rfl) (((E2.ext E342).ext E347).ext E351) (((C2.ext E342).ext E347).ext E351) (((F2.ext E342).ext E347).ext E351) (Byt.of (((V2.ext E342).ext E347).ext E351) (by rw [List.length_map]; exact hly.symm)) SC hcs (by decide)) e353 Le351 (by rw [hml]; rfl) (lenOf o_pd26 rfl) (has := rfl) (hst := rfl) (W := 0) (Nat.le_of_ble_eq_true rfl) (hb hby o_d33_30) (by decide) (by decide) (by decide) (by decide) fun v354 T354 h354 L354 X354 e354 q354 => ?_
    obtain ⟨rfl, N354q, rfl⟩ := q354
    have N354 := Fr.app N350 N354q
    show Go p e below T354 (mkF m 33 #[.val (.ref a1)] [(.int (0 : Int32))]) _
    refine o_ifYes (pc := 33) X354 hx 40 (hb hby o_d33_33) ((if0 _ _).trans (teq (by decide : (0 : Int32) = (0 : Int32))).1) (by decide) (by decide) ?_
    refine o_iconst (pc := 40) X354 hx (0 : Int32) (hb hby o_d33_40) rfl ?_
    exact o_retNH (pc := 41) X354 hx hZ351 (o_EW hw) hh B351 .boolean hret hlk (by simp) (hb hby o_d33_41) e354 (by decide) (by decide) ⟨by by_cases q : [(100 : Int32), (101 : Int32), (97 : Int32), (100 : Int32), (108 : Int32), (111 : Int32), (99 : Int32), (107 : Int32)] = ys; (rw [if_pos q] at hc346 ⊢; first | rfl | exact absurd hc346 (by decide)); (rw [if_neg q] at hc346 ⊢; first | rfl | exact absurd rfl hc346), N354, o_keep0 K352⟩
  · skip
    refine o_ifYes (pc := 9) X345 hx 36 (hb hby o_d33_9) ((if0 _ _).trans (feq hc346).2) (by decide) (by decide) ?_
    refine o_iconst (pc := 36) X345 hx (1 : Int32) (hb hby o_d33_36) rfl ?_
    refine o_goto (pc := 37) X345 hx 41 (hb hby o_d33_37) (by decide) (by decide) ?_
    exact o_retNH (pc := 41) X345 hx hZ342 (o_EW hw) hh B342 .boolean hret hlk (by simp) (hb hby o_d33_41) e345 (by decide) (by decide) ⟨by by_cases q : [(100 : Int32), (101 : Int32), (97 : Int32), (100 : Int32), (108 : Int32), (111 : Int32), (99 : Int32), (107 : Int32)] = ys; (rw [if_pos q] at hc346 ⊢; first | rfl | exact absurd hc346 (by decide)); (rw [if_neg q] at hc346 ⊢; first | rfl | exact absurd rfl hc346), N345, o_keep0 K343⟩
set_option maxRecDepth 65536 in
set_option maxHeartbeats 40000000 in
theorem rmR10 (l : Launch) (Z : State) (a0 : Array Value) (hw : ∀ d ∈ tables_1, d.before a0 Z = true) (ws : List Jvm.Cond) (a1 a2 d2 : Addr) (kq : ClassId) (cs : Int32) (ys : List Int32) (h0 : Heap) (n0 : Nat) (O0 : Old Z n0 h0) (FR : Fld Z h0 a1 "com/example/twinstate/twinstate/TransactionRolledBackException" "reason" "Ljava/lang/String;" (.ref a2)) (SC : Sta Z Z.heap "java/lang/String" "COMPACT_STRINGS" "Z" (.int cs)) (hcs : ¬ cs = (0 : Int32)) (E2 : Exa Z h0 a2 "java/lang/String") (C2 : Fld Z h0 a2 "java/lang/String" "coder" "B" (.int (0 : Int32))) (F2 : Fld Z h0 a2 "java/lang/String" "value" "[B" (.ref d2)) (V2 : Arv Z h0 d2 kq .byte (10 : Int32) (ys.map Value.int) (.int 0)) (hly : (10 : Int32).toNatClampNeg = ys.length) :
    CtH l Z consts_1 (⟨"com/example/twinstate/twinstate/TransactionRolledBackException", "rerunnable", "()Z"⟩ : MethodName) prog_10_method_3_code 1 (some .boolean) ({ frames := 2, cells := 6, slots := 152, locals := 28 } : Room) ws #[(.ref a1)] h0 (fun v h L => v = some (.int (if [(108 : Int32), (101 : Int32), (97 : Int32), (115 : Int32), (101 : Int32), (32 : Int32), (108 : Int32), (111 : Int32), (115 : Int32), (116 : Int32)] = ys then (1 : Int32) else 0)) ∧ Fr n0 L ∧ Ext h0 h) := by
  refine o_bodyH (plainFor_of_name o_pn_com_example_twinstate_twinstate_TransactionRolledBackException) ?_
  intro p e s m below meth c s₁ X0 hx hby hml hret hlk hown hnm hZ e0 hh H0
  have N0 := Fr.nil n0
  have B0 := BsH.start H0
  have hZ0 := hZ
  refine o_top (g' := (mkF m 0 #[.val (.ref a1)] [])) (by first | (simp [entryFrame, mkF, argsToLocals, Value.category]; done) | rfl) ?_
  refine o_ldcH (pc := 0) X0 hx hZ hown (hw _ (List.mem_of_getElem? (i := 211) rfl)) (o_wS hw) e0 (o_EW hw) (List.mem_of_getElem? (i := 1) rfl) B0 (vs := [(.int (100 : Int32)), (.int (101 : Int32)), (.int (97 : Int32)), (.int (100 : Int32)), (.int (108 : Int32)), (.int (111 : Int32)), (.int (99 : Int32)), (.int (107 : Int32))]) (z := (8 : Int32)) ⟨by decide, rfl⟩ (by decide) rfl (hb hby o_d33_0) 32 (by decide) (by decide) (by decide) (by decide) fun sB355 b355 T355 h355 d355 k355 X355 e355 E355 B355 hZ355 hown355 hC355 Le355 Lc355 Lv355 La355 Sf355 => ?_
  have O356 := O0.ext E355
  have K356 : Keep h0 h355 [] := (Keep.refl h0 []).ext E355
  refine o_aloadN (v := (.ref a1)) (pc := 2) X355 hx (hb hby o_d33_2) rfl rfl ?_
  refine o_getF (pc := 3) X355 hx hZ355 hown355 (host := "") (Or.inl (hw _ (List.mem_of_getElem? (i := 204) rfl))) Via.refl e355 (FR.ext E355) (hb hby o_d33_3) fun T357 X357 e357 => ?_
  refine o_callV (pc := 6) X357 hx hZ355 (y := (⟨"java/lang/String", "equals", "(Ljava/lang/Object;)Z"⟩ : MethodName)) (z := (⟨"java/lang/String", "equals", "(Ljava/lang/Object;)Z"⟩ : MethodName)) (C := "java/lang/String") (a := b355) (argsL := [(.ref a2)]) (rest := []) hown355 (hw _ (List.mem_of_getElem? (i := 212) rfl)) (hw _ (List.mem_of_getElem? (i := 213) rfl)) (notFace_of_selects (args := #[]) (mvT hZ355 (hw _ (List.mem_of_getElem? (i := 215) rfl)))) (hw _ (List.mem_of_getElem? (i := 215) rfl)) (hw _ (List.mem_of_getElem? (i := 214) rfl)) (hw _ (List.mem_of_getElem? (i := 2) rfl)) (hw _ (List.mem_of_getElem? (i := 216) rfl)) (by decide) (rmEQne l Z a0 hw [] b355 a2 d355 d2 (8 : Int32) (10 : Int32) cs h355 n0 O356 Le355 Lc355 Lv355 (Byt.of La355 rfl) (E2.ext E355) (C2.ext E355) (F2.ext E355) (Byt.of (V2.ext E355) (by rw [List.length_map]; exact hly.symm)) SC hcs (by decide)) e357 Le355 (by rw [hml]; rfl) (lenOf o_pd26 rfl) (has := rfl) (hst := rfl) (W := 0) (Nat.le_of_ble_eq_true rfl) (hb hby o_d33_6) (by decide) (by decide) (by decide) (by decide) fun v358 T358 h358 L358 X358 e358 q358 => ?_
  obtain ⟨rfl, N358q, rfl⟩ := q358
  have N358 := Fr.app N0 N358q
  show Go p e below T358 (mkF m 9 #[.val (.ref a1)] [(.int (0 : Int32))]) _
  refine o_ifNo (pc := 9) X358 hx (hb hby o_d33_9) ((if0 _ _).trans (teq (by decide : (0 : Int32) = (0 : Int32))).2) ?_
  refine o_ldcH (pc := 12) X358 hx hZ355 hown355 (hw _ (List.mem_of_getElem? (i := 223) rfl)) (o_wS hw) e358 (o_EW hw) (List.mem_of_getElem? (i := 2) rfl) B355 (vs := [(.int (108 : Int32)), (.int (101 : Int32)), (.int (97 : Int32)), (.int (115 : Int32)), (.int (101 : Int32)), (.int (32 : Int32)), (.int (108 : Int32)), (.int (111 : Int32)), (.int (115 : Int32)), (.int (116 : Int32))]) (z := (10 : Int32)) ⟨by decide, rfl⟩ (by decide) rfl (hb hby o_d33_12) 40 (by decide) (by decide) (by decide) (by decide) fun sB359 b359 T359 h359 d359 k359 X359 e359 E359 B359 hZ359 hown359 hC359 Le359 Lc359 Lv359 La359 Sf359 => ?_
  have O360 := O356.ext E359
  have K360 : Keep h0 h359 [] := K356.ext E359
  refine o_aloadN (v := (.ref a1)) (pc := 14) X359 hx (hb hby o_d33_14) rfl rfl ?_
  refine o_getF (pc := 15) X359 hx hZ359 hown359 (host := "") (Or.inl (hw _ (List.mem_of_getElem? (i := 204) rfl))) Via.refl e359 ((FR.ext E355).ext E359) (hb hby o_d33_15) fun T361 X361 e361 => ?_
  refine o_callV (pc := 18) X361 hx hZ359 (y := (⟨"java/lang/String", "equals", "(Ljava/lang/Object;)Z"⟩ : MethodName)) (z := (⟨"java/lang/String", "equals", "(Ljava/lang/Object;)Z"⟩ : MethodName)) (C := "java/lang/String") (a := b359) (argsL := [(.ref a2)]) (rest := []) hown359 (hw _ (List.mem_of_getElem? (i := 212) rfl)) (hw _ (List.mem_of_getElem? (i := 213) rfl)) (notFace_of_selects (args := #[]) (mvT hZ359 (hw _ (List.mem_of_getElem? (i := 215) rfl)))) (hw _ (List.mem_of_getElem? (i := 215) rfl)) (hw _ (List.mem_of_getElem? (i := 214) rfl)) (hw _ (List.mem_of_getElem? (i := 2) rfl)) (hw _ (List.mem_of_getElem? (i := 216) rfl)) (by decide) (rmEQL l Z a0 hw [] b359 a2 d359 d2 k359 kq cs [(108 : Int32), (101 : Int32), (97 : Int32), (115 : Int32), (101 : Int32), (32 : Int32), (108 : Int32), (111 : Int32), (115 : Int32), (116 : Int32)] ys (10 : Int32) h359 n0 O360 Le359 Lc359 Lv359 ((E2.ext E355).ext E359) ((C2.ext E355).ext E359) ((F2.ext E355).ext E359) La359 ((V2.ext E355).ext E359) SC hcs rfl hly (by decide)) e361 Le359 (by rw [hml]; rfl) (lenOf o_pd26 rfl) (has := rfl) (hst := rfl) (W := 0) (Nat.le_of_ble_eq_true rfl) (hb hby o_d33_18) (by decide) (by decide) (by decide) (by decide) fun v362 T362 h362 L362 X362 e362 q362 => ?_
  obtain ⟨rfl, N362q, rfl⟩ := q362
  have N362 := Fr.app N358 N362q
  show Go p e below T362 (mkF m 21 #[.val (.ref a1)] [(.int (if [(108 : Int32), (101 : Int32), (97 : Int32), (115 : Int32), (101 : Int32), (32 : Int32), (108 : Int32), (111 : Int32), (115 : Int32), (116 : Int32)] = ys then (1 : Int32) else 0))]) _
  by_cases hc363 : (if [(108 : Int32), (101 : Int32), (97 : Int32), (115 : Int32), (101 : Int32), (32 : Int32), (108 : Int32), (111 : Int32), (115 : Int32), (116 : Int32)] = ys then (1 : Int32) else 0) = (0 : Int32)
  · skip
    refine o_ifNo (pc := 21) X362 hx (hb hby o_d33_21) ((if0 _ _).trans (teq hc363).2) ?_
    refine o_ldcH (pc := 24) X362 hx hZ359 hown359 (hw _ (List.mem_of_getElem? (i := 224) rfl)) (o_wS hw) e362 (o_EW hw) (List.mem_of_getElem? (i := 3) rfl) B359 (vs := [(.int (108 : Int32)), (.int (111 : Int32)), (.int (99 : Int32)), (.int (107 : Int32)), (.int (32 : Int32)), (.int (119 : Int32)), (.int (97 : Int32)), (.int (105 : Int32)), (.int (116 : Int32)), (.int (32 : Int32)), (.int (116 : Int32)), (.int (105 : Int32)), (.int (109 : Int32)), (.int (101 : Int32)), (.int (111 : Int32)), (.int (117 : Int32)), (.int (116 : Int32))]) (z := (17 : Int32)) ⟨by decide, rfl⟩ (by decide) rfl (hb hby o_d33_24) 68 (by decide) (by decide) (by decide) (by decide) fun sB364 b364 T364 h364 d364 k364 X364 e364 E364 B364 hZ364 hown364 hC364 Le364 Lc364 Lv364 La364 Sf364 => ?_
    have O365 := O360.ext E364
    have K365 : Keep h0 h364 [] := K360.ext E364
    refine o_aloadN (v := (.ref a1)) (pc := 26) X364 hx (hb hby o_d33_26) rfl rfl ?_
    refine o_getF (pc := 27) X364 hx hZ364 hown364 (host := "") (Or.inl (hw _ (List.mem_of_getElem? (i := 204) rfl))) Via.refl e364 (((FR.ext E355).ext E359).ext E364) (hb hby o_d33_27) fun T366 X366 e366 => ?_
    refine o_callV (pc := 30) X366 hx hZ364 (y := (⟨"java/lang/String", "equals", "(Ljava/lang/Object;)Z"⟩ : MethodName)) (z := (⟨"java/lang/String", "equals", "(Ljava/lang/Object;)Z"⟩ : MethodName)) (C := "java/lang/String") (a := b364) (argsL := [(.ref a2)]) (rest := []) hown364 (hw _ (List.mem_of_getElem? (i := 212) rfl)) (hw _ (List.mem_of_getElem? (i := 213) rfl)) (notFace_of_selects (args := #[]) (mvT hZ364 (hw _ (List.mem_of_getElem? (i := 215) rfl)))) (hw _ (List.mem_of_getElem? (i := 215) rfl)) (hw _ (List.mem_of_getElem? (i := 214) rfl)) (hw _ (List.mem_of_getElem? (i := 2) rfl)) (hw _ (List.mem_of_getElem? (i := 216) rfl)) (by decide) (rmEQne l Z a0 hw [] b364 a2 d364 d2 (17 : Int32) (10 : Int32) cs h364 n0 O365 Le364 Lc364 Lv364 (Byt.of La364 rfl) (((E2.ext E355).ext E359).ext E364) (((C2.ext E355).ext E359).ext E364) (((F2.ext E355).ext E359).ext E364) (Byt.of (((V2.ext E355).ext E359).ext E364) (by rw [List.length_map]; exact hly.symm)) SC hcs (by decide)) e366 Le364 (by rw [hml]; rfl) (lenOf o_pd26 rfl) (has := rfl) (hst := rfl) (W := 0) (Nat.le_of_ble_eq_true rfl) (hb hby o_d33_30) (by decide) (by decide) (by decide) (by decide) fun v367 T367 h367 L367 X367 e367 q367 => ?_
    obtain ⟨rfl, N367q, rfl⟩ := q367
    have N367 := Fr.app N362 N367q
    show Go p e below T367 (mkF m 33 #[.val (.ref a1)] [(.int (0 : Int32))]) _
    refine o_ifYes (pc := 33) X367 hx 40 (hb hby o_d33_33) ((if0 _ _).trans (teq (by decide : (0 : Int32) = (0 : Int32))).1) (by decide) (by decide) ?_
    refine o_iconst (pc := 40) X367 hx (0 : Int32) (hb hby o_d33_40) rfl ?_
    exact o_retNH (pc := 41) X367 hx hZ364 (o_EW hw) hh B364 .boolean hret hlk (by simp) (hb hby o_d33_41) e367 (by decide) (by decide) ⟨by by_cases q : [(108 : Int32), (101 : Int32), (97 : Int32), (115 : Int32), (101 : Int32), (32 : Int32), (108 : Int32), (111 : Int32), (115 : Int32), (116 : Int32)] = ys; (rw [if_pos q] at hc363 ⊢; first | rfl | exact absurd hc363 (by decide)); (rw [if_neg q] at hc363 ⊢; first | rfl | exact absurd rfl hc363), N367, o_keep0 K365⟩
  · skip
    refine o_ifYes (pc := 21) X362 hx 36 (hb hby o_d33_21) ((if0 _ _).trans (feq hc363).2) (by decide) (by decide) ?_
    refine o_iconst (pc := 36) X362 hx (1 : Int32) (hb hby o_d33_36) rfl ?_
    refine o_goto (pc := 37) X362 hx 41 (hb hby o_d33_37) (by decide) (by decide) ?_
    exact o_retNH (pc := 41) X362 hx hZ359 (o_EW hw) hh B359 .boolean hret hlk (by simp) (hb hby o_d33_41) e362 (by decide) (by decide) ⟨by by_cases q : [(108 : Int32), (101 : Int32), (97 : Int32), (115 : Int32), (101 : Int32), (32 : Int32), (108 : Int32), (111 : Int32), (115 : Int32), (116 : Int32)] = ys; (rw [if_pos q] at hc363 ⊢; first | rfl | exact absurd hc363 (by decide)); (rw [if_neg q] at hc363 ⊢; first | rfl | exact absurd rfl hc363), N362, o_keep0 K360⟩
set_option maxRecDepth 65536 in
set_option maxHeartbeats 40000000 in
theorem rmR17 (l : Launch) (Z : State) (a0 : Array Value) (hw : ∀ d ∈ tables_1, d.before a0 Z = true) (ws : List Jvm.Cond) (a1 a2 d2 : Addr) (kq : ClassId) (cs : Int32) (ys : List Int32) (h0 : Heap) (n0 : Nat) (O0 : Old Z n0 h0) (FR : Fld Z h0 a1 "com/example/twinstate/twinstate/TransactionRolledBackException" "reason" "Ljava/lang/String;" (.ref a2)) (SC : Sta Z Z.heap "java/lang/String" "COMPACT_STRINGS" "Z" (.int cs)) (hcs : ¬ cs = (0 : Int32)) (E2 : Exa Z h0 a2 "java/lang/String") (C2 : Fld Z h0 a2 "java/lang/String" "coder" "B" (.int (0 : Int32))) (F2 : Fld Z h0 a2 "java/lang/String" "value" "[B" (.ref d2)) (V2 : Arv Z h0 d2 kq .byte (17 : Int32) (ys.map Value.int) (.int 0)) (hly : (17 : Int32).toNatClampNeg = ys.length) :
    CtH l Z consts_1 (⟨"com/example/twinstate/twinstate/TransactionRolledBackException", "rerunnable", "()Z"⟩ : MethodName) prog_10_method_3_code 1 (some .boolean) ({ frames := 2, cells := 6, slots := 152, locals := 28 } : Room) ws #[(.ref a1)] h0 (fun v h L => v = some (.int (if [(108 : Int32), (111 : Int32), (99 : Int32), (107 : Int32), (32 : Int32), (119 : Int32), (97 : Int32), (105 : Int32), (116 : Int32), (32 : Int32), (116 : Int32), (105 : Int32), (109 : Int32), (101 : Int32), (111 : Int32), (117 : Int32), (116 : Int32)] = ys then (1 : Int32) else 0)) ∧ Fr n0 L ∧ Ext h0 h) := by
  refine o_bodyH (plainFor_of_name o_pn_com_example_twinstate_twinstate_TransactionRolledBackException) ?_
  intro p e s m below meth c s₁ X0 hx hby hml hret hlk hown hnm hZ e0 hh H0
  have N0 := Fr.nil n0
  have B0 := BsH.start H0
  have hZ0 := hZ
  refine o_top (g' := (mkF m 0 #[.val (.ref a1)] [])) (by first | (simp [entryFrame, mkF, argsToLocals, Value.category]; done) | rfl) ?_
  refine o_ldcH (pc := 0) X0 hx hZ hown (hw _ (List.mem_of_getElem? (i := 211) rfl)) (o_wS hw) e0 (o_EW hw) (List.mem_of_getElem? (i := 1) rfl) B0 (vs := [(.int (100 : Int32)), (.int (101 : Int32)), (.int (97 : Int32)), (.int (100 : Int32)), (.int (108 : Int32)), (.int (111 : Int32)), (.int (99 : Int32)), (.int (107 : Int32))]) (z := (8 : Int32)) ⟨by decide, rfl⟩ (by decide) rfl (hb hby o_d33_0) 32 (by decide) (by decide) (by decide) (by decide) fun sB368 b368 T368 h368 d368 k368 X368 e368 E368 B368 hZ368 hown368 hC368 Le368 Lc368 Lv368 La368 Sf368 => ?_
  have O369 := O0.ext E368
  have K369 : Keep h0 h368 [] := (Keep.refl h0 []).ext E368
  refine o_aloadN (v := (.ref a1)) (pc := 2) X368 hx (hb hby o_d33_2) rfl rfl ?_
  refine o_getF (pc := 3) X368 hx hZ368 hown368 (host := "") (Or.inl (hw _ (List.mem_of_getElem? (i := 204) rfl))) Via.refl e368 (FR.ext E368) (hb hby o_d33_3) fun T370 X370 e370 => ?_
  refine o_callV (pc := 6) X370 hx hZ368 (y := (⟨"java/lang/String", "equals", "(Ljava/lang/Object;)Z"⟩ : MethodName)) (z := (⟨"java/lang/String", "equals", "(Ljava/lang/Object;)Z"⟩ : MethodName)) (C := "java/lang/String") (a := b368) (argsL := [(.ref a2)]) (rest := []) hown368 (hw _ (List.mem_of_getElem? (i := 212) rfl)) (hw _ (List.mem_of_getElem? (i := 213) rfl)) (notFace_of_selects (args := #[]) (mvT hZ368 (hw _ (List.mem_of_getElem? (i := 215) rfl)))) (hw _ (List.mem_of_getElem? (i := 215) rfl)) (hw _ (List.mem_of_getElem? (i := 214) rfl)) (hw _ (List.mem_of_getElem? (i := 2) rfl)) (hw _ (List.mem_of_getElem? (i := 216) rfl)) (by decide) (rmEQne l Z a0 hw [] b368 a2 d368 d2 (8 : Int32) (17 : Int32) cs h368 n0 O369 Le368 Lc368 Lv368 (Byt.of La368 rfl) (E2.ext E368) (C2.ext E368) (F2.ext E368) (Byt.of (V2.ext E368) (by rw [List.length_map]; exact hly.symm)) SC hcs (by decide)) e370 Le368 (by rw [hml]; rfl) (lenOf o_pd26 rfl) (has := rfl) (hst := rfl) (W := 0) (Nat.le_of_ble_eq_true rfl) (hb hby o_d33_6) (by decide) (by decide) (by decide) (by decide) fun v371 T371 h371 L371 X371 e371 q371 => ?_
  obtain ⟨rfl, N371q, rfl⟩ := q371
  have N371 := Fr.app N0 N371q
  show Go p e below T371 (mkF m 9 #[.val (.ref a1)] [(.int (0 : Int32))]) _
  refine o_ifNo (pc := 9) X371 hx (hb hby o_d33_9) ((if0 _ _).trans (teq (by decide : (0 : Int32) = (0 : Int32))).2) ?_
  refine o_ldcH (pc := 12) X371 hx hZ368 hown368 (hw _ (List.mem_of_getElem? (i := 223) rfl)) (o_wS hw) e371 (o_EW hw) (List.mem_of_getElem? (i := 2) rfl) B368 (vs := [(.int (108 : Int32)), (.int (101 : Int32)), (.int (97 : Int32)), (.int (115 : Int32)), (.int (101 : Int32)), (.int (32 : Int32)), (.int (108 : Int32)), (.int (111 : Int32)), (.int (115 : Int32)), (.int (116 : Int32))]) (z := (10 : Int32)) ⟨by decide, rfl⟩ (by decide) rfl (hb hby o_d33_12) 40 (by decide) (by decide) (by decide) (by decide) fun sB372 b372 T372 h372 d372 k372 X372 e372 E372 B372 hZ372 hown372 hC372 Le372 Lc372 Lv372 La372 Sf372 => ?_
  have O373 := O369.ext E372
  have K373 : Keep h0 h372 [] := K369.ext E372
  refine o_aloadN (v := (.ref a1)) (pc := 14) X372 hx (hb hby o_d33_14) rfl rfl ?_
  refine o_getF (pc := 15) X372 hx hZ372 hown372 (host := "") (Or.inl (hw _ (List.mem_of_getElem? (i := 204) rfl))) Via.refl e372 ((FR.ext E368).ext E372) (hb hby o_d33_15) fun T374 X374 e374 => ?_
  refine o_callV (pc := 18) X374 hx hZ372 (y := (⟨"java/lang/String", "equals", "(Ljava/lang/Object;)Z"⟩ : MethodName)) (z := (⟨"java/lang/String", "equals", "(Ljava/lang/Object;)Z"⟩ : MethodName)) (C := "java/lang/String") (a := b372) (argsL := [(.ref a2)]) (rest := []) hown372 (hw _ (List.mem_of_getElem? (i := 212) rfl)) (hw _ (List.mem_of_getElem? (i := 213) rfl)) (notFace_of_selects (args := #[]) (mvT hZ372 (hw _ (List.mem_of_getElem? (i := 215) rfl)))) (hw _ (List.mem_of_getElem? (i := 215) rfl)) (hw _ (List.mem_of_getElem? (i := 214) rfl)) (hw _ (List.mem_of_getElem? (i := 2) rfl)) (hw _ (List.mem_of_getElem? (i := 216) rfl)) (by decide) (rmEQne l Z a0 hw [] b372 a2 d372 d2 (10 : Int32) (17 : Int32) cs h372 n0 O373 Le372 Lc372 Lv372 (Byt.of La372 rfl) ((E2.ext E368).ext E372) ((C2.ext E368).ext E372) ((F2.ext E368).ext E372) (Byt.of ((V2.ext E368).ext E372) (by rw [List.length_map]; exact hly.symm)) SC hcs (by decide)) e374 Le372 (by rw [hml]; rfl) (lenOf o_pd26 rfl) (has := rfl) (hst := rfl) (W := 0) (Nat.le_of_ble_eq_true rfl) (hb hby o_d33_18) (by decide) (by decide) (by decide) (by decide) fun v375 T375 h375 L375 X375 e375 q375 => ?_
  obtain ⟨rfl, N375q, rfl⟩ := q375
  have N375 := Fr.app N371 N375q
  show Go p e below T375 (mkF m 21 #[.val (.ref a1)] [(.int (0 : Int32))]) _
  refine o_ifNo (pc := 21) X375 hx (hb hby o_d33_21) ((if0 _ _).trans (teq (by decide : (0 : Int32) = (0 : Int32))).2) ?_
  refine o_ldcH (pc := 24) X375 hx hZ372 hown372 (hw _ (List.mem_of_getElem? (i := 224) rfl)) (o_wS hw) e375 (o_EW hw) (List.mem_of_getElem? (i := 3) rfl) B372 (vs := [(.int (108 : Int32)), (.int (111 : Int32)), (.int (99 : Int32)), (.int (107 : Int32)), (.int (32 : Int32)), (.int (119 : Int32)), (.int (97 : Int32)), (.int (105 : Int32)), (.int (116 : Int32)), (.int (32 : Int32)), (.int (116 : Int32)), (.int (105 : Int32)), (.int (109 : Int32)), (.int (101 : Int32)), (.int (111 : Int32)), (.int (117 : Int32)), (.int (116 : Int32))]) (z := (17 : Int32)) ⟨by decide, rfl⟩ (by decide) rfl (hb hby o_d33_24) 68 (by decide) (by decide) (by decide) (by decide) fun sB376 b376 T376 h376 d376 k376 X376 e376 E376 B376 hZ376 hown376 hC376 Le376 Lc376 Lv376 La376 Sf376 => ?_
  have O377 := O373.ext E376
  have K377 : Keep h0 h376 [] := K373.ext E376
  refine o_aloadN (v := (.ref a1)) (pc := 26) X376 hx (hb hby o_d33_26) rfl rfl ?_
  refine o_getF (pc := 27) X376 hx hZ376 hown376 (host := "") (Or.inl (hw _ (List.mem_of_getElem? (i := 204) rfl))) Via.refl e376 (((FR.ext E368).ext E372).ext E376) (hb hby o_d33_27) fun T378 X378 e378 => ?_
  refine o_callV (pc := 30) X378 hx hZ376 (y := (⟨"java/lang/String", "equals", "(Ljava/lang/Object;)Z"⟩ : MethodName)) (z := (⟨"java/lang/String", "equals", "(Ljava/lang/Object;)Z"⟩ : MethodName)) (C := "java/lang/String") (a := b376) (argsL := [(.ref a2)]) (rest := []) hown376 (hw _ (List.mem_of_getElem? (i := 212) rfl)) (hw _ (List.mem_of_getElem? (i := 213) rfl)) (notFace_of_selects (args := #[]) (mvT hZ376 (hw _ (List.mem_of_getElem? (i := 215) rfl)))) (hw _ (List.mem_of_getElem? (i := 215) rfl)) (hw _ (List.mem_of_getElem? (i := 214) rfl)) (hw _ (List.mem_of_getElem? (i := 2) rfl)) (hw _ (List.mem_of_getElem? (i := 216) rfl)) (by decide) (rmEQL l Z a0 hw [] b376 a2 d376 d2 k376 kq cs [(108 : Int32), (111 : Int32), (99 : Int32), (107 : Int32), (32 : Int32), (119 : Int32), (97 : Int32), (105 : Int32), (116 : Int32), (32 : Int32), (116 : Int32), (105 : Int32), (109 : Int32), (101 : Int32), (111 : Int32), (117 : Int32), (116 : Int32)] ys (17 : Int32) h376 n0 O377 Le376 Lc376 Lv376 (((E2.ext E368).ext E372).ext E376) (((C2.ext E368).ext E372).ext E376) (((F2.ext E368).ext E372).ext E376) La376 (((V2.ext E368).ext E372).ext E376) SC hcs rfl hly (by decide)) e378 Le376 (by rw [hml]; rfl) (lenOf o_pd26 rfl) (has := rfl) (hst := rfl) (W := 0) (Nat.le_of_ble_eq_true rfl) (hb hby o_d33_30) (by decide) (by decide) (by decide) (by decide) fun v379 T379 h379 L379 X379 e379 q379 => ?_
  obtain ⟨rfl, N379q, rfl⟩ := q379
  have N379 := Fr.app N375 N379q
  show Go p e below T379 (mkF m 33 #[.val (.ref a1)] [(.int (if [(108 : Int32), (111 : Int32), (99 : Int32), (107 : Int32), (32 : Int32), (119 : Int32), (97 : Int32), (105 : Int32), (116 : Int32), (32 : Int32), (116 : Int32), (105 : Int32), (109 : Int32), (101 : Int32), (111 : Int32), (117 : Int32), (116 : Int32)] = ys then (1 : Int32) else 0))]) _
  by_cases hc380 : (if [(108 : Int32), (111 : Int32), (99 : Int32), (107 : Int32), (32 : Int32), (119 : Int32), (97 : Int32), (105 : Int32), (116 : Int32), (32 : Int32), (116 : Int32), (105 : Int32), (109 : Int32), (101 : Int32), (111 : Int32), (117 : Int32), (116 : Int32)] = ys then (1 : Int32) else 0) = (0 : Int32)
  · skip
    refine o_ifYes (pc := 33) X379 hx 40 (hb hby o_d33_33) ((if0 _ _).trans (teq hc380).1) (by decide) (by decide) ?_
    refine o_iconst (pc := 40) X379 hx (0 : Int32) (hb hby o_d33_40) rfl ?_
    exact o_retNH (pc := 41) X379 hx hZ376 (o_EW hw) hh B376 .boolean hret hlk (by simp) (hb hby o_d33_41) e379 (by decide) (by decide) ⟨by by_cases q : [(108 : Int32), (111 : Int32), (99 : Int32), (107 : Int32), (32 : Int32), (119 : Int32), (97 : Int32), (105 : Int32), (116 : Int32), (32 : Int32), (116 : Int32), (105 : Int32), (109 : Int32), (101 : Int32), (111 : Int32), (117 : Int32), (116 : Int32)] = ys; (rw [if_pos q] at hc380 ⊢; first | rfl | exact absurd hc380 (by decide)); (rw [if_neg q] at hc380 ⊢; first | rfl | exact absurd rfl hc380), N379, o_keep0 K377⟩
  · skip
    refine o_ifNo (pc := 33) X379 hx (hb hby o_d33_33) ((if0 _ _).trans (feq hc380).1) ?_
    refine o_iconst (pc := 36) X379 hx (1 : Int32) (hb hby o_d33_36) rfl ?_
    refine o_goto (pc := 37) X379 hx 41 (hb hby o_d33_37) (by decide) (by decide) ?_
    exact o_retNH (pc := 41) X379 hx hZ376 (o_EW hw) hh B376 .boolean hret hlk (by simp) (hb hby o_d33_41) e379 (by decide) (by decide) ⟨by by_cases q : [(108 : Int32), (111 : Int32), (99 : Int32), (107 : Int32), (32 : Int32), (119 : Int32), (97 : Int32), (105 : Int32), (116 : Int32), (32 : Int32), (116 : Int32), (105 : Int32), (109 : Int32), (101 : Int32), (111 : Int32), (117 : Int32), (116 : Int32)] = ys; (rw [if_pos q] at hc380 ⊢; first | rfl | exact absurd hc380 (by decide)); (rw [if_neg q] at hc380 ⊢; first | rfl | exact absurd rfl hc380), N379, o_keep0 K377⟩
theorem o_safeN {Z : State} {EL : List (String × Nat)} {vm : Vm} {h : Heap} {x : Addr} (hal : Z.vm.Alike vm) (E : Exa Z h x "java/lang/String") (F0 : Fld Z h x "java/lang/String" "value" "[B" .null) : Safe Z EL vm h x := fun B => by
  obtain ⟨cell, k, e1, e2, e3, -, -⟩ := E
  obtain ⟨p, -, u, a, -, q, -, F, rfl | rfl⟩ := B
  · cases (show h[q.sa]? = some q.sC from F.ha).symm.trans e1
    obtain ⟨c1, cf, kf, i, f, b1, b2, -, -, -, -, b7⟩ := F0
    cases (show h[q.sa]? = some q.sC from F.ha).symm.trans b1
    obtain ⟨cS, ⟨S, -, -⟩, -⟩ := F
    obtain ⟨c9, k9, i9, g9, -⟩ := S.2.2.2.1
    obtain ⟨k8, b2', -⟩ := State.fieldFound?_setVm (s := Z) hal b2
    have e8 : (Wst Z vm h).fieldFound? "java/lang/String" "value" "[B" = some (cf, k8, i, f) := b2'
    have e9 : (Wst Z vm h).fieldFound? "java/lang/String" "value" "[B" = some (c9, k9, i9, q.fSV) := g9
    cases e8.symm.trans e9
    have v1 := S.2.2.2.2.2.2.2.1
    rw [b7] at v1
    cases v1
  · cases (show h[q.sd]? = some q.SA from F.hd).symm.trans e1
    obtain ⟨cS, -, -, f, -⟩ := F
    have f' : Z.vm.findClass "[B" = some q.SA.cls := by rw [← hal.findClass]; exact f
    obtain ⟨k1, q1, q2⟩ := Vm.findClass_spec f'
    obtain ⟨k2, q3, q4⟩ := Vm.findClass_spec e2
    cases q1.symm.trans q3
    exact absurd (q2.symm.trans q4) (by decide)
theorem o_d37_8 : decode jdk_42_method_149_code 8 = .ok (.aload_n 0, 1) := by decide +kernel
theorem o_d37_9 : decode jdk_42_method_149_code 9 = .ok (.ldc 7, 2) := by decide +kernel
theorem o_d37_11 : decode jdk_42_method_149_code 11 = .ok (.getfield 9, 3) := by decide +kernel
theorem o_d37_14 : decode jdk_42_method_149_code 14 = .ok (.putfield 9, 3) := by decide +kernel
theorem o_d37_17 : decode jdk_42_method_149_code 17 = .ok (.aload_n 0, 1) := by decide +kernel
theorem o_d37_18 : decode jdk_42_method_149_code 18 = .ok (.ldc 7, 2) := by decide +kernel
theorem o_d37_20 : decode jdk_42_method_149_code 20 = .ok (.getfield 15, 3) := by decide +kernel
theorem o_d37_23 : decode jdk_42_method_149_code 23 = .ok (.putfield 15, 3) := by decide +kernel
theorem o_d37_26 : decode jdk_42_method_149_code 26 = .ok (.return_, 1) := by decide +kernel
set_option maxRecDepth 65536 in
set_option maxHeartbeats 40000000 in
theorem rmS01 (l : Launch) (Z : State) (a0 : Array Value) (hw : ∀ d ∈ tables_1, d.before a0 Z = true) (ws : List Jvm.Cond) (a1 av : Addr) (ka : ClassId) (h0 : Heap) (n0 : Nat) (O0 : Old Z n0 h0) (E1 : Exa Z h0 a1 "java/lang/String") (G0 : Fld Z h0 a1 "java/lang/String" "coder" "B" (.int (0 : Int32))) (G1 : Fld Z h0 a1 "java/lang/String" "value" "[B" .null) (g1 : n0 ≤ a1) (VA : Arv Z h0 av ka .char (0 : Int32) [] (.int (0 : Int32))) :
    CtH l Z consts_1 (⟨"java/lang/String", "<init>", "([CIILjava/lang/Void;)V"⟩ : MethodName) jdk_42_method_149_code 6 none ({ frames := 1, cells := 4, slots := 8, locals := 12 } : Room) ws #[(.ref a1), (.ref av), (.int (0 : Int32)), (.int (0 : Int32)), .null] h0 (fun v h L => v = none ∧ Fr n0 L ∧ Keep h0 h [a1] ∧ Fld Z h a1 "java/lang/String" "coder" "B" (.int (0 : Int32)) ∧ ∃ d kd, Fld Z h a1 "java/lang/String" "value" "[B" (.ref d) ∧ d ≠ a1 ∧ Arv Z h d kd .byte (0 : Int32) [] (.int (0 : Int32))) := by
  refine o_bodyH (plainFor_of_name o_pn_java_lang_String) ?_
  intro p e s m below meth c s₁ X0 hx hby hml hret hlk hown hnm hZ e0 hh H0
  have N0 := Fr.nil n0
  have B0 := BsH.start H0
  have hZ0 := hZ
  refine o_top (g' := (mkF m 0 #[.val (.ref a1), .val (.ref av), .val (.int (0 : Int32)), .val (.int (0 : Int32)), .val .null, .unset] [])) (by first | (simp [entryFrame, mkF, argsToLocals, Value.category]; done) | rfl) ?_
  refine o_aloadN (v := (.ref a1)) (pc := 0) X0 hx (hb hby o_d37_0) rfl rfl ?_
  refine o_initO (pc := 1) X0 hx hZ hown (hw _ (List.mem_of_getElem? (i := 122) rfl)) (hw _ (List.mem_of_getElem? (i := 28) rfl)) (hw _ (List.mem_of_getElem? (i := 29) rfl)) e0 (by rw [hml]; rfl) (hb hby o_d37_1) (by decide) (W := 0) (Nat.le_of_ble_eq_true rfl) (by decide) fun T381 X381 e381 => ?_
  refine o_iloadN (v := (0 : Int32)) (pc := 4) X381 hx (hb hby o_d37_4) rfl ?_
  refine o_ifNo (pc := 5) X381 hx (hb hby o_d37_5) ((if0 _ _).trans (teq (by decide : (0 : Int32) = (0 : Int32))).2) ?_
  refine o_aloadN (v := (.ref a1)) (pc := 8) X381 hx (hb hby o_d37_8) rfl rfl ?_
  refine o_ldcH (pc := 9) X381 hx hZ hown (hw _ (List.mem_of_getElem? (i := 262) rfl)) (o_wS hw) e381 (o_EW hw) (List.mem_of_getElem? (i := 10) rfl) B0 (vs := []) (z := (0 : Int32)) ⟨by decide, rfl⟩ (by decide) rfl (hb hby o_d37_9) 0 (by decide) (by decide) (by decide) (by decide) fun sB382 b382 T382 h382 d382 k382 X382 e382 E382 B382 hZ382 hown382 hC382 Le382 Lc382 Lv382 La382 Sf382 => ?_
  have O383 := O0.ext E382
  have K383 : Keep h0 h382 [a1] := (Keep.refl h0 [a1]).ext E382
  refine o_getF (pc := 11) X382 hx hZ382 hown382 (host := "") (Or.inl (hw _ (List.mem_of_getElem? (i := 51) rfl))) Via.refl e382 Lv382 (hb hby o_d37_11) fun T384 X384 e384 => ?_
  refine o_putF (pc := 14) X384 hx hZ382 hown382 (host := "") (Or.inl (hw _ (List.mem_of_getElem? (i := 51) rfl))) Via.refl e384 (G1.ext E382) (E1.ext E382) (Or.inr ⟨(hw _ (List.mem_of_getElem? (i := 5) rfl)), rfl, hnm⟩) (hw _ (List.mem_of_getElem? (i := 3) rfl)) (ty := (.array .byte)) (by decide) rfl rfl (hb hby o_d37_14) fun T385 h385 X385 e385 W385 => ?_
  have F385 := Fld.same W385 (G1.ext E382)
  have N385 := Fr.snoc X385 N0 g1
  have O386 := O383.wr W385 g1
  have B386 := B382.wr W385 (CHr.safe hC382 E1.lt (o_safeN hZ0.alike E1 G1))
  have K386 : Keep h0 h385 [a1] := K383.wr W385 (Or.inl (List.mem_of_getElem? (i := 0) rfl))
  refine o_aloadN (v := (.ref a1)) (pc := 17) X385 hx (hb hby o_d37_17) rfl rfl ?_
  refine o_ldcH (pc := 18) X385 hx hZ382 hown382 (hw _ (List.mem_of_getElem? (i := 262) rfl)) (o_wS hw) e385 (o_EW hw) (List.mem_of_getElem? (i := 10) rfl) B386 (vs := []) (z := (0 : Int32)) ⟨by decide, rfl⟩ (by decide) rfl (hb hby o_d37_18) 0 (by decide) (by decide) (by decide) (by decide) fun sB387 b387 T387 h387 d387 k387 X387 e387 E387 B387 hZ387 hown387 hC387 Le387 Lc387 Lv387 La387 Sf387 => ?_
  have O388 := O386.ext E387
  have K388 : Keep h0 h387 [a1] := K386.ext E387
  refine o_getF (pc := 20) X387 hx hZ387 hown387 (host := "") (Or.inl (hw _ (List.mem_of_getElem? (i := 58) rfl))) Via.refl e387 Lc387 (hb hby o_d37_20) fun T389 X389 e389 => ?_
  refine o_putFN (pc := 23) X389 hx hZ387 hown387 (hw _ (List.mem_of_getElem? (i := 58) rfl)) Via.refl e389 (((G0.ext E382).other W385 (Or.inr (slot_ne (C := "java/lang/String") (Or.inr (hw _ (List.mem_of_getElem? (i := 6) rfl))) (Or.inr (hw _ (List.mem_of_getElem? (i := 5) rfl))) (by decide) (t := .byte) (t' := (.array .byte)) (by decide) (by decide)))).ext E387) (((E1.ext E382).wr W385).ext E387) (Or.inr ⟨(hw _ (List.mem_of_getElem? (i := 6) rfl)), rfl, hnm⟩) (hw _ (List.mem_of_getElem? (i := 3) rfl)) (ty := .byte) (v' := (.int (0 : Int32))) (by decide) (by decide) (by decide) (hb hby o_d37_23) fun T390 h390 X390 e390 W390 => ?_
  have F390 := Fld.same W390 (((G0.ext E382).other W385 (Or.inr (slot_ne (C := "java/lang/String") (Or.inr (hw _ (List.mem_of_getElem? (i := 6) rfl))) (Or.inr (hw _ (List.mem_of_getElem? (i := 5) rfl))) (by decide) (t := .byte) (t' := (.array .byte)) (by decide) (by decide)))).ext E387)
  have N390 := Fr.snoc X390 N385 g1
  have O391 := O388.wr W390 g1
  have B391 := B387.wr W390 (CHr.safe hC387 ((E1.ext E382).wr W385).lt (Safe.wr W385 (CHr.safe hC382 E1.lt (o_safeN hZ0.alike E1 G1)) B382.chv (CHr.safe hC382 E1.lt (o_safeN hZ0.alike E1 G1))))
  have K391 : Keep h0 h390 [a1] := K388.wr W390 (Or.inl (List.mem_of_getElem? (i := 0) rfl))
  exact o_ret0H (pc := 26) X390 hx hZ387 (o_EW hw) hh B391 hret hlk (hb hby o_d37_26) e390 (by decide) (by decide) ⟨rfl, N390, K391, F390, d382, k382, ((F385.ext E387).other W390 (Or.inr (slot_ne (C := "java/lang/String") (Or.inr (hw _ (List.mem_of_getElem? (i := 5) rfl))) (Or.inr (hw _ (List.mem_of_getElem? (i := 6) rfl))) (by decide) (t := (.array .byte)) (t' := .byte) (by decide) (by decide)))), (Ne.symm (Sf382 _ (CHr.safe hC382 E1.lt (o_safeN hZ0.alike E1 G1))).2), (((La382.other W385 (Ne.symm (Sf382 _ (CHr.safe hC382 E1.lt (o_safeN hZ0.alike E1 G1))).2)).ext E387).other W390 (Ne.symm (Sf382 _ (CHr.safe hC382 E1.lt (o_safeN hZ0.alike E1 G1))).2))⟩
set_option maxRecDepth 65536 in
set_option maxHeartbeats 40000000 in
theorem rmS02 (l : Launch) (Z : State) (a0 : Array Value) (hw : ∀ d ∈ tables_1, d.before a0 Z = true) (ws : List Jvm.Cond) (a1 av : Addr) (ka : ClassId) (h0 : Heap) (n0 : Nat) (O0 : Old Z n0 h0) (E1 : Exa Z h0 a1 "java/lang/String") (G0 : Fld Z h0 a1 "java/lang/String" "coder" "B" (.int (0 : Int32))) (G1 : Fld Z h0 a1 "java/lang/String" "value" "[B" .null) (g1 : n0 ≤ a1) (VA : Arv Z h0 av ka .char (0 : Int32) [] (.int (0 : Int32))) :
    CtH l Z consts_1 (⟨"java/lang/String", "<init>", "([C)V"⟩ : MethodName) jdk_42_method_3_code 2 none ({ frames := 2, cells := 4, slots := 8, locals := 29 } : Room) ws #[(.ref a1), (.ref av)] h0 (fun v h L => v = none ∧ Fr n0 L ∧ Keep h0 h [a1] ∧ Fld Z h a1 "java/lang/String" "coder" "B" (.int (0 : Int32)) ∧ ∃ d kd, Fld Z h a1 "java/lang/String" "value" "[B" (.ref d) ∧ d ≠ a1 ∧ Arv Z h d kd .byte (0 : Int32) [] (.int (0 : Int32))) := by
  refine o_bodyH (plainFor_of_name o_pn_java_lang_String) ?_
  intro p e s m below meth c s₁ X0 hx hby hml hret hlk hown hnm hZ e0 hh H0
  have N0 := Fr.nil n0
  have B0 := BsH.start H0
  have hZ0 := hZ
  refine o_top (g' := (mkF m 0 #[.val (.ref a1), .val (.ref av)] [])) (by first | (simp [entryFrame, mkF, argsToLocals, Value.category]; done) | rfl) ?_
  refine o_aloadN (v := (.ref a1)) (pc := 0) X0 hx (hb hby o_d36_0) rfl rfl ?_
  refine o_aloadN (v := (.ref av)) (pc := 1) X0 hx (hb hby o_d36_1) rfl rfl ?_
  refine o_iconst (pc := 2) X0 hx (0 : Int32) (hb hby o_d36_2) rfl ?_
  refine o_aloadN (v := (.ref av)) (pc := 3) X0 hx (hb hby o_d36_3) rfl rfl ?_
  refine o_arraylength (pc := 4) X0 hx hZ e0 VA (hb hby o_d36_4) ?_
  refine o_aconst_null (pc := 5) X0 hx (hb hby o_d36_5) ?_
  refine o_callNH (pc := 6) X0 hx hZ (y := (⟨"java/lang/String", "<init>", "([CIILjava/lang/Void;)V"⟩ : MethodName)) (a := a1) (argsL := [(.ref av), (.int (0 : Int32)), (.int (0 : Int32)), .null]) (rest := []) rfl hown (o_EW hw) B0 (hw _ (List.mem_of_getElem? (i := 230) rfl)) (hw _ (List.mem_of_getElem? (i := 231) rfl)) (hw _ (List.mem_of_getElem? (i := 2) rfl)) (hw _ (List.mem_of_getElem? (i := 232) rfl)) (by decide) (rmS01 l Z a0 hw [] a1 av ka h0 n0 O0 E1 G0 G1 g1 VA) e0 (by rw [hml]; rfl) (lenOf o_pd3 rfl) (has := rfl) (hst := rfl) (W := 0) (Nat.le_of_ble_eq_true rfl) (hb hby o_d36_6) (by decide) (by decide) (by decide) (by decide) fun sB392 v392 T392 h392 L392 X392 e392 B392 hZ392 hown392 hC392 q392 => ?_
  obtain ⟨rfl, N392q, K392, Fc392, d392, k392, Fv392, nd392, V392⟩ := q392
  have N392 := Fr.app N0 N392q
  have O393 := O0.keep K392 (allS g1 all0)
  have K393 : Keep h0 h392 [a1] := (Keep.refl h0 [a1]).trans K392 (allS (Or.inl (List.mem_of_getElem? (i := 0) rfl)) all0)
  show Go p e below T392 (mkF m 9 #[.val (.ref a1), .val (.ref av)] []) _
  exact o_ret0H (pc := 9) X392 hx hZ392 (o_EW hw) hh B392 hret hlk (hb hby o_d36_9) e392 (by decide) (by decide) ⟨rfl, N392, K393, Fc392, d392, k392, Fv392, nd392, V392⟩
abbrev bt1 (c : Int32) : Int32 := c.toInt8.toInt32
theorem o_gd : ∀ (ws : List Int32) (i : Nat), (ws.map Value.int).getD i (.int 0) = .int (ws.getD i 0)
  | [], _ => rfl
  | _ :: _, 0 => rfl
  | x :: r, i + 1 => by first | exact o_gd r i | simpa using o_gd r i
theorem o_setid : ∀ (ws : List Int32) (i : Nat), ws.set i (ws.getD i 0) = ws
  | [], _ => rfl
  | _ :: _, 0 => rfl
  | y :: r, i + 1 => by first | exact congrArg (List.cons y) (o_setid r i) | simpa using o_setid r i
theorem o_getset : ∀ (ws : List Int32) (i : Nat) (v : Int32), i < ws.length → ((ws.set i v).map bt1).getD i 0 = bt1 v
  | [], _, _, h => absurd h (Nat.not_lt_zero _)
  | _ :: _, 0, _, _ => rfl
  | y :: r, i + 1, v, h => by
    have g := o_getset r i v (by simpa using h)
    first | exact g | simpa using g
theorem o_getmem : ∀ (ws : List Int32) (i : Nat), i < ws.length → ws.getD i 0 ∈ ws
  | [], _, h => absurd h (Nat.not_lt_zero _)
  | y :: r, 0, _ => show y ∈ y :: r by simp
  | y :: r, i + 1, h => by
    have g := List.mem_cons_of_mem y (o_getmem r i (by simpa using h))
    first | exact g | simpa using g
theorem o_mapid : ∀ (ws : List Int32), (∀ k ∈ ws, bt1 k = k) → ws.map bt1 = ws
  | [], _ => rfl
  | y :: r, h => by
    show bt1 y :: r.map bt1 = y :: r
    rw [h y (by simp), o_mapid r (fun k hk => h k (List.mem_cons_of_mem _ hk))]
theorem o_word (ws : List Int32) (hb : ∀ k ∈ ws, bt1 k = k ∧ ¬ k < 0 ∧ ¬ (255 : Int32) < k) (i : Nat) (hi : i < ws.length) (x : Int32) : ws = (ws.set i (x &&& (255 : Int32))).map bt1 ↔ ws.getD i 0 = (x &&& (255 : Int32)) := by
  constructor
  · intro q
    have q1 : ws.getD i 0 = ((ws.set i (x &&& (255 : Int32))).map bt1).getD i 0 := congrArg (fun l : List Int32 => l.getD i 0) q
    rw [o_getset ws i _ hi] at q1
    obtain ⟨b1, b2, b3⟩ := hb _ (o_getmem ws i hi)
    exact (c_byte b1 b2 b3).mp q1
  · intro q
    rw [← q, o_setid, o_mapid ws (fun k hk => (hb k hk).1)]
theorem o_setle {ws : List Int32} (hs : ∀ k ∈ ws, ¬ (255 : Int32) < k) (i : Nat) (x : Int32) : ∀ k ∈ ws.set i (x &&& (255 : Int32)), ¬ (255 : Int32) < k := by
  intro k hk
  rcases List.mem_or_eq_of_mem_set hk with q | q
  · exact hs k q
  · rw [q]; exact c_and x
abbrev wd8 : List Int32 := [(100 : Int32), (101 : Int32), (97 : Int32), (100 : Int32), (108 : Int32), (111 : Int32), (99 : Int32), (107 : Int32)]
theorem o_wd8 : ∀ k ∈ wd8, bt1 k = k ∧ ¬ k < 0 ∧ ¬ (255 : Int32) < k := by first | decide | decide +kernel
theorem o_we8 : ∀ k ∈ wd8, ¬ (255 : Int32) < k := fun k hk => (o_wd8 k hk).2.2
theorem remi8 (x : Int32) : (¬ ((x &&& (2147483647 : Int32)) % (8 : Int32)) < 0 ∧ ((x &&& (2147483647 : Int32)) % (8 : Int32)) < (8 : Int32)) ∧ ((x &&& (2147483647 : Int32)) % (8 : Int32)).toNatClampNeg < wd8.length := by
  rcases rem8 x with hj | hj | hj | hj | hj | hj | hj | hj <;> (rw [hj]; decide)
abbrev wd10 : List Int32 := [(108 : Int32), (101 : Int32), (97 : Int32), (115 : Int32), (101 : Int32), (32 : Int32), (108 : Int32), (111 : Int32), (115 : Int32), (116 : Int32)]
theorem o_wd10 : ∀ k ∈ wd10, bt1 k = k ∧ ¬ k < 0 ∧ ¬ (255 : Int32) < k := by first | decide | decide +kernel
theorem o_we10 : ∀ k ∈ wd10, ¬ (255 : Int32) < k := fun k hk => (o_wd10 k hk).2.2
theorem remi10 (x : Int32) : (¬ ((x &&& (2147483647 : Int32)) % (10 : Int32)) < 0 ∧ ((x &&& (2147483647 : Int32)) % (10 : Int32)) < (10 : Int32)) ∧ ((x &&& (2147483647 : Int32)) % (10 : Int32)).toNatClampNeg < wd10.length := by
  rcases rem10 x with hj | hj | hj | hj | hj | hj | hj | hj | hj | hj <;> (rw [hj]; decide)
abbrev wd17 : List Int32 := [(108 : Int32), (111 : Int32), (99 : Int32), (107 : Int32), (32 : Int32), (119 : Int32), (97 : Int32), (105 : Int32), (116 : Int32), (32 : Int32), (116 : Int32), (105 : Int32), (109 : Int32), (101 : Int32), (111 : Int32), (117 : Int32), (116 : Int32)]
theorem o_wd17 : ∀ k ∈ wd17, bt1 k = k ∧ ¬ k < 0 ∧ ¬ (255 : Int32) < k := by first | decide | decide +kernel
theorem o_we17 : ∀ k ∈ wd17, ¬ (255 : Int32) < k := fun k hk => (o_wd17 k hk).2.2
theorem remi17 (x : Int32) : (¬ ((x &&& (2147483647 : Int32)) % (17 : Int32)) < 0 ∧ ((x &&& (2147483647 : Int32)) % (17 : Int32)) < (17 : Int32)) ∧ ((x &&& (2147483647 : Int32)) % (17 : Int32)).toNatClampNeg < wd17.length := by
  rcases rem17 x with hj | hj | hj | hj | hj | hj | hj | hj | hj | hj | hj | hj | hj | hj | hj | hj | hj <;> (rw [hj]; decide)
set_option maxRecDepth 65536 in
set_option maxHeartbeats 40000000 in
theorem tlN (l : Launch) (Z : State) (a0 : Array Value) (hw : ∀ d ∈ tables_1, d.before a0 Z = true) (u w : Value) (cs : Int32) (h : Heap) (n0 : Nat) {p : Program} {e : Env} {s sB : State} {m : MethodId} {as : Array Value} {below : List Frame} {meth : Method} {c : Code} {T : State} {locs : List Loc} {h0 : Heap} {p1 p2 p3 p4 p5 p6 p7 p8 : Int32} {x10 x11 : Slot} (h10 : x10 = .unset ∨ (∃ q, x10 = .val (.int q)) ∨ ∃ q, x10 = .val (.ref q)) (hx : p.tables.exec = Jvm.exec) (hby : c.code = code) (hml : c.maxLocals = maxLocals) (hret : meth.sig.returnType = ret) (hlk : meth.locks = false) (hh : s.heap = h0) (hTK : s.vm.MethodsKnown) (hBe : s.vm.FramesKnown below) (X0 : Stand p l e room_1 sB m as below meth c T locs 8 200) (e0 : T.heap = h) (B0 : BsH Z consts_1 h0 s sB h) (hZ : Z.Warmed39 sB.vm) (hown : sB.vm.findClass x.cls = some m.cls) (O0 : Old Z n0 h) (N0 : Fr n0 locs) (HT : ThS Z h) (hst : l.stackTraces = true) (SU : Sta Z Z.heap "java/lang/Throwable" "UNASSIGNED_STACK" "[Ljava/lang/StackTraceElement;" u) (SW : Sta Z Z.heap "java/lang/Throwable" "SUPPRESSED_SENTINEL" "Ljava/util/List;" w) (hu : u.isRef = true) (hw2 : w.isRef = true) (SC : Sta Z Z.heap "java/lang/String" "COMPACT_STRINGS" "Z" (.int cs)) (hcs : ¬ cs = (0 : Int32)) :
    Go p e below T (mkF m 648 #[.val (.int p1), .val (.int p2), .val (.int p3), .val (.int p4), .val (.int p5), .val (.int p6), .val (.int p7), .val (.int p8), .val .null, .val (.int (0 : Int32)), x10, x11] []) (LvH Z consts_1 s (fun v h L => v = some (.int 1) ∧ Fr n0 L) room_1.cells room_1.slots) := by
  have hZ0 := hZ
  refine o_new (pc := 648) X0 hx hZ hown (hw _ (List.mem_of_getElem? (i := 9) rfl)) (hw _ (List.mem_of_getElem? (i := 10) rfl)) (hw _ (List.mem_of_getElem? (i := 11) rfl)) e0 (hb hby at_648) (by decide) (by decide) fun T394 h394 b394 X394 e394 g394 E394 A394 D394 U394 => ?_
  have O395 := O0.ext E394
  have B395 := B0.ext E394
  have F394_cause : Fld Z h394 b394 "java/lang/Throwable" "cause" "Ljava/lang/Throwable;" .null := D394 (Or.inl (hw _ (List.mem_of_getElem? (i := 169) rfl))) (ty := (.object "java/lang/Throwable")) (by decide)
  have F394_stackTrace : Fld Z h394 b394 "java/lang/Throwable" "stackTrace" "[Ljava/lang/StackTraceElement;" .null := D394 (Or.inl (hw _ (List.mem_of_getElem? (i := 172) rfl))) (ty := (.array (.object "java/lang/StackTraceElement"))) (by decide)
  have F394_suppressedExceptions : Fld Z h394 b394 "java/lang/Throwable" "suppressedExceptions" "Ljava/util/List;" .null := D394 (Or.inl (hw _ (List.mem_of_getElem? (i := 175) rfl))) (ty := (.object "java/util/List")) (by decide)
  have F394_detailMessage : Fld Z h394 b394 "java/lang/Throwable" "detailMessage" "Ljava/lang/String;" .null := D394 (Or.inl (hw _ (List.mem_of_getElem? (i := 199) rfl))) (ty := (.object "java/lang/String")) (by decide)
  have F394_backtrace : Fld Z h394 b394 "java/lang/Throwable" "backtrace" "Ljava/lang/Object;" .null := D394 (Or.inl (hw _ (List.mem_of_getElem? (i := 200) rfl))) (ty := (.object "java/lang/Object")) (by decide)
  have F394_depth : Fld Z h394 b394 "java/lang/Throwable" "depth" "I" (.int (0 : Int32)) := D394 (Or.inl (hw _ (List.mem_of_getElem? (i := 201) rfl))) (ty := .int) (by decide)
  have F394_reason : Fld Z h394 b394 "com/example/twinstate/twinstate/TransactionRolledBackException" "reason" "Ljava/lang/String;" .null := D394 (Or.inr (hw _ (List.mem_of_getElem? (i := 205) rfl))) (ty := (.object "java/lang/String")) (by decide)
  refine o_dup (pc := 651) X394 hx (hb hby at_651) rfl ?_
  refine o_aload (v := .null) (pc := 652) X394 hx (hb hby at_652) rfl rfl ?_
  refine o_callNK (pc := 654) X394 hx hZ (y := (⟨"com/example/twinstate/twinstate/TransactionRolledBackException", "<init>", "(Ljava/lang/String;)V"⟩ : MethodName)) (a := b394) (argsL := [.null]) (rest := [(.ref b394)]) rfl hown (o_know B395 hTK) (o_knowF B395 hBe) (o_EW hw) B395 (hw _ (List.mem_of_getElem? (i := 12) rfl)) (hw _ (List.mem_of_getElem? (i := 13) rfl)) (hw _ (List.mem_of_getElem? (i := 11) rfl)) (hw _ (List.mem_of_getElem? (i := 14) rfl)) (by decide) (rmIN l Z a0 hw [] b394 u w cs h394 n0 O395 A394 U394 F394_cause F394_stackTrace F394_suppressedExceptions F394_backtrace F394_depth F394_detailMessage F394_reason (Nat.le_trans (o_n0 O0) g394) (HT.ext E394) hst SU SW hu hw2 SC hcs) e394 (by rw [hml]; rfl) (lenOf o_pd10 rfl) (has := rfl) (hst := rfl) (W := 1) (Nat.le_of_ble_eq_true rfl) (hb hby at_654) (by decide) (by decide) (by decide) (by decide) fun sB396 v396 T396 h396 L396 X396 e396 B396 hZ396 hown396 hC396 q396 => ?_
  obtain ⟨rfl, N396q, K396, FR396⟩ := q396
  have N396 := Fr.app N0 N396q
  have O397 := O395.keep K396 (allS (Nat.le_trans (o_n0 O0) g394) all0)
  show Go p e below T396 (mkF m 657 #[.val (.int p1), .val (.int p2), .val (.int p3), .val (.int p4), .val (.int p5), .val (.int p6), .val (.int p7), .val (.int p8), .val .null, .val (.int (0 : Int32)), x10, x11] [(.ref b394)]) _
  refine o_astore (l' := #[.val (.int p1), .val (.int p2), .val (.int p3), .val (.int p4), .val (.int p5), .val (.int p6), .val (.int p7), .val (.int p8), .val .null, .val (.int (0 : Int32)), .val (.ref b394), x11]) (pc := 657) X396 hx (hb hby at_657) rfl (by rcases h10 with rfl | ⟨q0, rfl⟩ | ⟨q0, rfl⟩ <;> rfl) ?_
  refine o_aload (v := (.ref b394)) (pc := 659) X396 hx (hb hby at_659) rfl rfl ?_
  refine o_callVH (pc := 661) X396 hx hZ396 (y := (⟨"com/example/twinstate/twinstate/TransactionRolledBackException", "rerunnable", "()Z"⟩ : MethodName)) (z := (⟨"com/example/twinstate/twinstate/TransactionRolledBackException", "rerunnable", "()Z"⟩ : MethodName)) (C := "com/example/twinstate/twinstate/TransactionRolledBackException") (a := b394) (argsL := []) (rest := []) hown396 (o_EW hw) B396 (hw _ (List.mem_of_getElem? (i := 206) rfl)) (hw _ (List.mem_of_getElem? (i := 207) rfl)) (notFace_of_selects (args := #[]) (mvT hZ396 (hw _ (List.mem_of_getElem? (i := 209) rfl)))) (hw _ (List.mem_of_getElem? (i := 209) rfl)) (hw _ (List.mem_of_getElem? (i := 208) rfl)) (hw _ (List.mem_of_getElem? (i := 11) rfl)) (hw _ (List.mem_of_getElem? (i := 210) rfl)) (by decide) (rmRN l Z a0 hw [] b394 cs h396 n0 O397 FR396 SC hcs) e396 (A394.keep K396) (by rw [hml]; rfl) (lenOf o_pd16 rfl) (has := rfl) (hst := rfl) (W := 0) (Nat.le_of_ble_eq_true rfl) (hb hby at_661) (by decide) (by decide) (by decide) (by decide) fun sB398 v398 T398 h398 L398 X398 e398 B398 hZ398 hown398 hC398 q398 => ?_
  obtain ⟨rfl, N398q, E398⟩ := q398
  have N398 := Fr.app N396 N398q
  have O399 := O397.ext E398
  show Go p e below T398 (mkF m 664 #[.val (.int p1), .val (.int p2), .val (.int p3), .val (.int p4), .val (.int p5), .val (.int p6), .val (.int p7), .val (.int p8), .val .null, .val (.int (0 : Int32)), .val (.ref b394), x11] [(.int (0 : Int32))]) _
  refine o_iload (v := (0 : Int32)) (pc := 664) X398 hx (hb hby at_664) rfl ?_
  refine o_icmpNo (pc := 666) X398 hx (hb hby at_666) (teq (by decide : (0 : Int32) = (0 : Int32))).2 ?_
  refine o_iconst (pc := 669) X398 hx (1 : Int32) (hb hby at_669) rfl ?_
  refine o_goto (pc := 670) X398 hx 674 (hb hby at_670) (by decide) (by decide) ?_
  exact o_retNH (pc := 674) X398 hx hZ398 (o_EW hw) hh B398 .boolean hret hlk (by simp) (hb hby at_674) e398 (by decide) (by decide) ⟨rfl, N398⟩
set_option maxRecDepth 65536 in
set_option maxHeartbeats 40000000 in
theorem tlA (l : Launch) (Z : State) (a0 : Array Value) (hw : ∀ d ∈ tables_1, d.before a0 Z = true) (u w : Value) (cs : Int32) (a2 d2 : Addr) (z : Int32) (h : Heap) (n0 : Nat) {p : Program} {e : Env} {s sB : State} {m : MethodId} {as : Array Value} {below : List Frame} {meth : Method} {c : Code} {T : State} {locs : List Loc} {h0 : Heap} {p1 p2 p3 p4 p5 p6 p7 p8 : Int32} {x10 x11 : Slot} (h10 : x10 = .unset ∨ (∃ q, x10 = .val (.int q)) ∨ ∃ q, x10 = .val (.ref q)) (hx : p.tables.exec = Jvm.exec) (hby : c.code = code) (hml : c.maxLocals = maxLocals) (hret : meth.sig.returnType = ret) (hlk : meth.locks = false) (hh : s.heap = h0) (hTK : s.vm.MethodsKnown) (hBe : s.vm.FramesKnown below) (X0 : Stand p l e room_1 sB m as below meth c T locs 8 200) (e0 : T.heap = h) (B0 : BsH Z consts_1 h0 s sB h) (hZ : Z.Warmed39 sB.vm) (hown : sB.vm.findClass x.cls = some m.cls) (O0 : Old Z n0 h) (N0 : Fr n0 locs) (HT : ThS Z h) (hst : l.stackTraces = true) (SU : Sta Z Z.heap "java/lang/Throwable" "UNASSIGNED_STACK" "[Ljava/lang/StackTraceElement;" u) (SW : Sta Z Z.heap "java/lang/Throwable" "SUPPRESSED_SENTINEL" "Ljava/util/List;" w) (hu : u.isRef = true) (hw2 : w.isRef = true) (SC : Sta Z Z.heap "java/lang/String" "COMPACT_STRINGS" "Z" (.int cs)) (hcs : ¬ cs = (0 : Int32)) (E2 : Exa Z h a2 "java/lang/String") (C2 : Fld Z h a2 "java/lang/String" "coder" "B" (.int (0 : Int32))) (F2 : Fld Z h a2 "java/lang/String" "value" "[B" (.ref d2)) (V2 : Byt Z h d2 z) (hz : z ∈ ([0, 1, 2, 3] : List Int32)) (hz8 : z.toNatClampNeg ≠ (8 : Int32).toNatClampNeg) (hz10 : z.toNatClampNeg ≠ (10 : Int32).toNatClampNeg) (hz17 : z.toNatClampNeg ≠ (17 : Int32).toNatClampNeg) :
    Go p e below T (mkF m 648 #[.val (.int p1), .val (.int p2), .val (.int p3), .val (.int p4), .val (.int p5), .val (.int p6), .val (.int p7), .val (.int p8), .val (.ref a2), .val (.int (0 : Int32)), x10, x11] []) (LvH Z consts_1 s (fun v h L => v = some (.int 1) ∧ Fr n0 L) room_1.cells room_1.slots) := by
  have hZ0 := hZ
  refine o_new (pc := 648) X0 hx hZ hown (hw _ (List.mem_of_getElem? (i := 9) rfl)) (hw _ (List.mem_of_getElem? (i := 10) rfl)) (hw _ (List.mem_of_getElem? (i := 11) rfl)) e0 (hb hby at_648) (by decide) (by decide) fun T400 h400 b400 X400 e400 g400 E400 A400 D400 U400 => ?_
  have O401 := O0.ext E400
  have B401 := B0.ext E400
  have F400_cause : Fld Z h400 b400 "java/lang/Throwable" "cause" "Ljava/lang/Throwable;" .null := D400 (Or.inl (hw _ (List.mem_of_getElem? (i := 169) rfl))) (ty := (.object "java/lang/Throwable")) (by decide)
  have F400_stackTrace : Fld Z h400 b400 "java/lang/Throwable" "stackTrace" "[Ljava/lang/StackTraceElement;" .null := D400 (Or.inl (hw _ (List.mem_of_getElem? (i := 172) rfl))) (ty := (.array (.object "java/lang/StackTraceElement"))) (by decide)
  have F400_suppressedExceptions : Fld Z h400 b400 "java/lang/Throwable" "suppressedExceptions" "Ljava/util/List;" .null := D400 (Or.inl (hw _ (List.mem_of_getElem? (i := 175) rfl))) (ty := (.object "java/util/List")) (by decide)
  have F400_detailMessage : Fld Z h400 b400 "java/lang/Throwable" "detailMessage" "Ljava/lang/String;" .null := D400 (Or.inl (hw _ (List.mem_of_getElem? (i := 199) rfl))) (ty := (.object "java/lang/String")) (by decide)
  have F400_backtrace : Fld Z h400 b400 "java/lang/Throwable" "backtrace" "Ljava/lang/Object;" .null := D400 (Or.inl (hw _ (List.mem_of_getElem? (i := 200) rfl))) (ty := (.object "java/lang/Object")) (by decide)
  have F400_depth : Fld Z h400 b400 "java/lang/Throwable" "depth" "I" (.int (0 : Int32)) := D400 (Or.inl (hw _ (List.mem_of_getElem? (i := 201) rfl))) (ty := .int) (by decide)
  have F400_reason : Fld Z h400 b400 "com/example/twinstate/twinstate/TransactionRolledBackException" "reason" "Ljava/lang/String;" .null := D400 (Or.inr (hw _ (List.mem_of_getElem? (i := 205) rfl))) (ty := (.object "java/lang/String")) (by decide)
  refine o_dup (pc := 651) X400 hx (hb hby at_651) rfl ?_
  refine o_aload (v := (.ref a2)) (pc := 652) X400 hx (hb hby at_652) rfl rfl ?_
  refine o_callNK (pc := 654) X400 hx hZ (y := (⟨"com/example/twinstate/twinstate/TransactionRolledBackException", "<init>", "(Ljava/lang/String;)V"⟩ : MethodName)) (a := b400) (argsL := [(.ref a2)]) (rest := [(.ref b400)]) rfl hown (o_know B401 hTK) (o_knowF B401 hBe) (o_EW hw) B401 (hw _ (List.mem_of_getElem? (i := 12) rfl)) (hw _ (List.mem_of_getElem? (i := 13) rfl)) (hw _ (List.mem_of_getElem? (i := 11) rfl)) (hw _ (List.mem_of_getElem? (i := 14) rfl)) (by decide) (rmIA l Z a0 hw [] b400 a2 d2 z u w cs h400 n0 O401 A400 U400 F400_cause F400_stackTrace F400_suppressedExceptions F400_backtrace F400_depth F400_detailMessage F400_reason (Nat.le_trans (o_n0 O0) g400) (HT.ext E400) hst SU SW hu hw2 SC hcs (E2.ext E400) (C2.ext E400) (F2.ext E400) (V2.ext E400) hz (Nat.ne_of_lt (Nat.lt_of_lt_of_le E2.lt g400)) (Nat.ne_of_lt (Nat.lt_of_lt_of_le V2.lt g400))) e400 (by rw [hml]; rfl) (lenOf o_pd10 rfl) (has := rfl) (hst := rfl) (W := 1) (Nat.le_of_ble_eq_true rfl) (hb hby at_654) (by decide) (by decide) (by decide) (by decide) fun sB402 v402 T402 h402 L402 X402 e402 B402 hZ402 hown402 hC402 q402 => ?_
  obtain ⟨rfl, N402q, K402, FR402⟩ := q402
  have N402 := Fr.app N0 N402q
  have O403 := O401.keep K402 (allS (Nat.le_trans (o_n0 O0) g400) all0)
  show Go p e below T402 (mkF m 657 #[.val (.int p1), .val (.int p2), .val (.int p3), .val (.int p4), .val (.int p5), .val (.int p6), .val (.int p7), .val (.int p8), .val (.ref a2), .val (.int (0 : Int32)), x10, x11] [(.ref b400)]) _
  refine o_astore (l' := #[.val (.int p1), .val (.int p2), .val (.int p3), .val (.int p4), .val (.int p5), .val (.int p6), .val (.int p7), .val (.int p8), .val (.ref a2), .val (.int (0 : Int32)), .val (.ref b400), x11]) (pc := 657) X402 hx (hb hby at_657) rfl (by rcases h10 with rfl | ⟨q0, rfl⟩ | ⟨q0, rfl⟩ <;> rfl) ?_
  refine o_aload (v := (.ref b400)) (pc := 659) X402 hx (hb hby at_659) rfl rfl ?_
  refine o_callVH (pc := 661) X402 hx hZ402 (y := (⟨"com/example/twinstate/twinstate/TransactionRolledBackException", "rerunnable", "()Z"⟩ : MethodName)) (z := (⟨"com/example/twinstate/twinstate/TransactionRolledBackException", "rerunnable", "()Z"⟩ : MethodName)) (C := "com/example/twinstate/twinstate/TransactionRolledBackException") (a := b400) (argsL := []) (rest := []) hown402 (o_EW hw) B402 (hw _ (List.mem_of_getElem? (i := 206) rfl)) (hw _ (List.mem_of_getElem? (i := 207) rfl)) (notFace_of_selects (args := #[]) (mvT hZ402 (hw _ (List.mem_of_getElem? (i := 209) rfl)))) (hw _ (List.mem_of_getElem? (i := 209) rfl)) (hw _ (List.mem_of_getElem? (i := 208) rfl)) (hw _ (List.mem_of_getElem? (i := 11) rfl)) (hw _ (List.mem_of_getElem? (i := 210) rfl)) (by decide) (rmR0 l Z a0 hw [] b400 a2 d2 z cs h402 n0 O403 FR402 SC hcs ((E2.ext E400).keep K402) ((C2.ext E400).keep K402 (ninS (Nat.ne_of_lt (Nat.lt_of_lt_of_le E2.lt g400)) nin0)) ((F2.ext E400).keep K402 (ninS (Nat.ne_of_lt (Nat.lt_of_lt_of_le E2.lt g400)) nin0)) ((V2.ext E400).keep K402 (ninS (Nat.ne_of_lt (Nat.lt_of_lt_of_le V2.lt g400)) nin0)) hz8 hz10 hz17) e402 (A400.keep K402) (by rw [hml]; rfl) (lenOf o_pd16 rfl) (has := rfl) (hst := rfl) (W := 0) (Nat.le_of_ble_eq_true rfl) (hb hby at_661) (by decide) (by decide) (by decide) (by decide) fun sB404 v404 T404 h404 L404 X404 e404 B404 hZ404 hown404 hC404 q404 => ?_
  obtain ⟨rfl, N404q, E404⟩ := q404
  have N404 := Fr.app N402 N404q
  have O405 := O403.ext E404
  show Go p e below T404 (mkF m 664 #[.val (.int p1), .val (.int p2), .val (.int p3), .val (.int p4), .val (.int p5), .val (.int p6), .val (.int p7), .val (.int p8), .val (.ref a2), .val (.int (0 : Int32)), .val (.ref b400), x11] [(.int (0 : Int32))]) _
  refine o_iload (v := (0 : Int32)) (pc := 664) X404 hx (hb hby at_664) rfl ?_
  refine o_icmpNo (pc := 666) X404 hx (hb hby at_666) (teq (by decide : (0 : Int32) = (0 : Int32))).2 ?_
  refine o_iconst (pc := 669) X404 hx (1 : Int32) (hb hby at_669) rfl ?_
  refine o_goto (pc := 670) X404 hx 674 (hb hby at_670) (by decide) (by decide) ?_
  exact o_retNH (pc := 674) X404 hx hZ404 (o_EW hw) hh B404 .boolean hret hlk (by simp) (hb hby at_674) e404 (by decide) (by decide) ⟨rfl, N404⟩
set_option maxRecDepth 65536 in
set_option maxHeartbeats 40000000 in
theorem tlB (l : Launch) (Z : State) (a0 : Array Value) (hw : ∀ d ∈ tables_1, d.before a0 Z = true) (u w : Value) (cs : Int32) (a2 d2 : Addr) (z : Int32) (h : Heap) (n0 : Nat) {p : Program} {e : Env} {s sB : State} {m : MethodId} {as : Array Value} {below : List Frame} {meth : Method} {c : Code} {T : State} {locs : List Loc} {h0 : Heap} {p1 p2 p3 p4 p5 p6 p7 p8 : Int32} {x10 x11 : Slot} (h10 : x10 = .unset ∨ (∃ q, x10 = .val (.int q)) ∨ ∃ q, x10 = .val (.ref q)) (hx : p.tables.exec = Jvm.exec) (hby : c.code = code) (hml : c.maxLocals = maxLocals) (hret : meth.sig.returnType = ret) (hlk : meth.locks = false) (hh : s.heap = h0) (hTK : s.vm.MethodsKnown) (hBe : s.vm.FramesKnown below) (X0 : Stand p l e room_1 sB m as below meth c T locs 8 200) (e0 : T.heap = h) (B0 : BsH Z consts_1 h0 s sB h) (hZ : Z.Warmed39 sB.vm) (hown : sB.vm.findClass x.cls = some m.cls) (O0 : Old Z n0 h) (N0 : Fr n0 locs) (HT : ThS Z h) (hst : l.stackTraces = true) (SU : Sta Z Z.heap "java/lang/Throwable" "UNASSIGNED_STACK" "[Ljava/lang/StackTraceElement;" u) (SW : Sta Z Z.heap "java/lang/Throwable" "SUPPRESSED_SENTINEL" "Ljava/util/List;" w) (hu : u.isRef = true) (hw2 : w.isRef = true) (SC : Sta Z Z.heap "java/lang/String" "COMPACT_STRINGS" "Z" (.int cs)) (hcs : ¬ cs = (0 : Int32)) (E2 : Exa Z h a2 "java/lang/String") (C2 : Fld Z h a2 "java/lang/String" "coder" "B" (.int (0 : Int32))) (F2 : Fld Z h a2 "java/lang/String" "value" "[B" (.ref d2)) (V2 : Byt Z h d2 z) (hz : z ∈ ([4, 5, 6, 7, 8, 9, 10, 11, 12, 13, 14, 15, 16, 17] : List Int32)) (hz8 : z.toNatClampNeg ≠ (8 : Int32).toNatClampNeg) (hz10 : z.toNatClampNeg ≠ (10 : Int32).toNatClampNeg) (hz17 : z.toNatClampNeg ≠ (17 : Int32).toNatClampNeg) :
    Go p e below T (mkF m 648 #[.val (.int p1), .val (.int p2), .val (.int p3), .val (.int p4), .val (.int p5), .val (.int p6), .val (.int p7), .val (.int p8), .val (.ref a2), .val (.int (0 : Int32)), x10, x11] []) (LvH Z consts_1 s (fun v h L => v = some (.int 1) ∧ Fr n0 L) room_1.cells room_1.slots) := by
  have hZ0 := hZ
  refine o_new (pc := 648) X0 hx hZ hown (hw _ (List.mem_of_getElem? (i := 9) rfl)) (hw _ (List.mem_of_getElem? (i := 10) rfl)) (hw _ (List.mem_of_getElem? (i := 11) rfl)) e0 (hb hby at_648) (by decide) (by decide) fun T406 h406 b406 X406 e406 g406 E406 A406 D406 U406 => ?_
  have O407 := O0.ext E406
  have B407 := B0.ext E406
  have F406_cause : Fld Z h406 b406 "java/lang/Throwable" "cause" "Ljava/lang/Throwable;" .null := D406 (Or.inl (hw _ (List.mem_of_getElem? (i := 169) rfl))) (ty := (.object "java/lang/Throwable")) (by decide)
  have F406_stackTrace : Fld Z h406 b406 "java/lang/Throwable" "stackTrace" "[Ljava/lang/StackTraceElement;" .null := D406 (Or.inl (hw _ (List.mem_of_getElem? (i := 172) rfl))) (ty := (.array (.object "java/lang/StackTraceElement"))) (by decide)
  have F406_suppressedExceptions : Fld Z h406 b406 "java/lang/Throwable" "suppressedExceptions" "Ljava/util/List;" .null := D406 (Or.inl (hw _ (List.mem_of_getElem? (i := 175) rfl))) (ty := (.object "java/util/List")) (by decide)
  have F406_detailMessage : Fld Z h406 b406 "java/lang/Throwable" "detailMessage" "Ljava/lang/String;" .null := D406 (Or.inl (hw _ (List.mem_of_getElem? (i := 199) rfl))) (ty := (.object "java/lang/String")) (by decide)
  have F406_backtrace : Fld Z h406 b406 "java/lang/Throwable" "backtrace" "Ljava/lang/Object;" .null := D406 (Or.inl (hw _ (List.mem_of_getElem? (i := 200) rfl))) (ty := (.object "java/lang/Object")) (by decide)
  have F406_depth : Fld Z h406 b406 "java/lang/Throwable" "depth" "I" (.int (0 : Int32)) := D406 (Or.inl (hw _ (List.mem_of_getElem? (i := 201) rfl))) (ty := .int) (by decide)
  have F406_reason : Fld Z h406 b406 "com/example/twinstate/twinstate/TransactionRolledBackException" "reason" "Ljava/lang/String;" .null := D406 (Or.inr (hw _ (List.mem_of_getElem? (i := 205) rfl))) (ty := (.object "java/lang/String")) (by decide)
  refine o_dup (pc := 651) X406 hx (hb hby at_651) rfl ?_
  refine o_aload (v := (.ref a2)) (pc := 652) X406 hx (hb hby at_652) rfl rfl ?_
  refine o_callNK (pc := 654) X406 hx hZ (y := (⟨"com/example/twinstate/twinstate/TransactionRolledBackException", "<init>", "(Ljava/lang/String;)V"⟩ : MethodName)) (a := b406) (argsL := [(.ref a2)]) (rest := [(.ref b406)]) rfl hown (o_know B407 hTK) (o_knowF B407 hBe) (o_EW hw) B407 (hw _ (List.mem_of_getElem? (i := 12) rfl)) (hw _ (List.mem_of_getElem? (i := 13) rfl)) (hw _ (List.mem_of_getElem? (i := 11) rfl)) (hw _ (List.mem_of_getElem? (i := 14) rfl)) (by decide) (rmIB l Z a0 hw [] b406 a2 d2 z u w cs h406 n0 O407 A406 U406 F406_cause F406_stackTrace F406_suppressedExceptions F406_backtrace F406_depth F406_detailMessage F406_reason (Nat.le_trans (o_n0 O0) g406) (HT.ext E406) hst SU SW hu hw2 SC hcs (E2.ext E406) (C2.ext E406) (F2.ext E406) (V2.ext E406) hz (Nat.ne_of_lt (Nat.lt_of_lt_of_le E2.lt g406)) (Nat.ne_of_lt (Nat.lt_of_lt_of_le V2.lt g406))) e406 (by rw [hml]; rfl) (lenOf o_pd10 rfl) (has := rfl) (hst := rfl) (W := 1) (Nat.le_of_ble_eq_true rfl) (hb hby at_654) (by decide) (by decide) (by decide) (by decide) fun sB408 v408 T408 h408 L408 X408 e408 B408 hZ408 hown408 hC408 q408 => ?_
  obtain ⟨rfl, N408q, K408, FR408⟩ := q408
  have N408 := Fr.app N0 N408q
  have O409 := O407.keep K408 (allS (Nat.le_trans (o_n0 O0) g406) all0)
  show Go p e below T408 (mkF m 657 #[.val (.int p1), .val (.int p2), .val (.int p3), .val (.int p4), .val (.int p5), .val (.int p6), .val (.int p7), .val (.int p8), .val (.ref a2), .val (.int (0 : Int32)), x10, x11] [(.ref b406)]) _
  refine o_astore (l' := #[.val (.int p1), .val (.int p2), .val (.int p3), .val (.int p4), .val (.int p5), .val (.int p6), .val (.int p7), .val (.int p8), .val (.ref a2), .val (.int (0 : Int32)), .val (.ref b406), x11]) (pc := 657) X408 hx (hb hby at_657) rfl (by rcases h10 with rfl | ⟨q0, rfl⟩ | ⟨q0, rfl⟩ <;> rfl) ?_
  refine o_aload (v := (.ref b406)) (pc := 659) X408 hx (hb hby at_659) rfl rfl ?_
  refine o_callVH (pc := 661) X408 hx hZ408 (y := (⟨"com/example/twinstate/twinstate/TransactionRolledBackException", "rerunnable", "()Z"⟩ : MethodName)) (z := (⟨"com/example/twinstate/twinstate/TransactionRolledBackException", "rerunnable", "()Z"⟩ : MethodName)) (C := "com/example/twinstate/twinstate/TransactionRolledBackException") (a := b406) (argsL := []) (rest := []) hown408 (o_EW hw) B408 (hw _ (List.mem_of_getElem? (i := 206) rfl)) (hw _ (List.mem_of_getElem? (i := 207) rfl)) (notFace_of_selects (args := #[]) (mvT hZ408 (hw _ (List.mem_of_getElem? (i := 209) rfl)))) (hw _ (List.mem_of_getElem? (i := 209) rfl)) (hw _ (List.mem_of_getElem? (i := 208) rfl)) (hw _ (List.mem_of_getElem? (i := 11) rfl)) (hw _ (List.mem_of_getElem? (i := 210) rfl)) (by decide) (rmR0 l Z a0 hw [] b406 a2 d2 z cs h408 n0 O409 FR408 SC hcs ((E2.ext E406).keep K408) ((C2.ext E406).keep K408 (ninS (Nat.ne_of_lt (Nat.lt_of_lt_of_le E2.lt g406)) nin0)) ((F2.ext E406).keep K408 (ninS (Nat.ne_of_lt (Nat.lt_of_lt_of_le E2.lt g406)) nin0)) ((V2.ext E406).keep K408 (ninS (Nat.ne_of_lt (Nat.lt_of_lt_of_le V2.lt g406)) nin0)) hz8 hz10 hz17) e408 (A406.keep K408) (by rw [hml]; rfl) (lenOf o_pd16 rfl) (has := rfl) (hst := rfl) (W := 0) (Nat.le_of_ble_eq_true rfl) (hb hby at_661) (by decide) (by decide) (by decide) (by decide) fun sB410 v410 T410 h410 L410 X410 e410 B410 hZ410 hown410 hC410 q410 => ?_
  obtain ⟨rfl, N410q, E410⟩ := q410
  have N410 := Fr.app N408 N410q
  have O411 := O409.ext E410
  show Go p e below T410 (mkF m 664 #[.val (.int p1), .val (.int p2), .val (.int p3), .val (.int p4), .val (.int p5), .val (.int p6), .val (.int p7), .val (.int p8), .val (.ref a2), .val (.int (0 : Int32)), .val (.ref b406), x11] [(.int (0 : Int32))]) _
  refine o_iload (v := (0 : Int32)) (pc := 664) X410 hx (hb hby at_664) rfl ?_
  refine o_icmpNo (pc := 666) X410 hx (hb hby at_666) (teq (by decide : (0 : Int32) = (0 : Int32))).2 ?_
  refine o_iconst (pc := 669) X410 hx (1 : Int32) (hb hby at_669) rfl ?_
  refine o_goto (pc := 670) X410 hx 674 (hb hby at_670) (by decide) (by decide) ?_
  exact o_retNH (pc := 674) X410 hx hZ410 (o_EW hw) hh B410 .boolean hret hlk (by simp) (hb hby at_674) e410 (by decide) (by decide) ⟨rfl, N410⟩
set_option maxRecDepth 65536 in
set_option maxHeartbeats 40000000 in
theorem tl8 (l : Launch) (Z : State) (a0 : Array Value) (hw : ∀ d ∈ tables_1, d.before a0 Z = true) (u w : Value) (cs : Int32) (a2 d2 : Addr) (kq : ClassId) (ys : List Int32) (ex : Int32) (h : Heap) (n0 : Nat) {p : Program} {e : Env} {s sB : State} {m : MethodId} {as : Array Value} {below : List Frame} {meth : Method} {c : Code} {T : State} {locs : List Loc} {h0 : Heap} {p1 p2 p3 p4 p5 p6 p7 p8 : Int32} {x10 x11 : Slot} (h10 : x10 = .unset ∨ (∃ q, x10 = .val (.int q)) ∨ ∃ q, x10 = .val (.ref q)) (hx : p.tables.exec = Jvm.exec) (hby : c.code = code) (hml : c.maxLocals = maxLocals) (hret : meth.sig.returnType = ret) (hlk : meth.locks = false) (hh : s.heap = h0) (hTK : s.vm.MethodsKnown) (hBe : s.vm.FramesKnown below) (X0 : Stand p l e room_1 sB m as below meth c T locs 8 200) (e0 : T.heap = h) (B0 : BsH Z consts_1 h0 s sB h) (hZ : Z.Warmed39 sB.vm) (hown : sB.vm.findClass x.cls = some m.cls) (O0 : Old Z n0 h) (N0 : Fr n0 locs) (HT : ThS Z h) (hst : l.stackTraces = true) (SU : Sta Z Z.heap "java/lang/Throwable" "UNASSIGNED_STACK" "[Ljava/lang/StackTraceElement;" u) (SW : Sta Z Z.heap "java/lang/Throwable" "SUPPRESSED_SENTINEL" "Ljava/util/List;" w) (hu : u.isRef = true) (hw2 : w.isRef = true) (SC : Sta Z Z.heap "java/lang/String" "COMPACT_STRINGS" "Z" (.int cs)) (hcs : ¬ cs = (0 : Int32)) (E2 : Exa Z h a2 "java/lang/String") (C2 : Fld Z h a2 "java/lang/String" "coder" "B" (.int (0 : Int32))) (F2 : Fld Z h a2 "java/lang/String" "value" "[B" (.ref d2)) (V2 : Arv Z h d2 kq .byte (8 : Int32) (ys.map Value.int) (.int 0)) (hly : (8 : Int32).toNatClampNeg = ys.length) (hres : (if [(100 : Int32), (101 : Int32), (97 : Int32), (100 : Int32), (108 : Int32), (111 : Int32), (99 : Int32), (107 : Int32)] = ys then (1 : Int32) else 0) = ex) :
    Go p e below T (mkF m 648 #[.val (.int p1), .val (.int p2), .val (.int p3), .val (.int p4), .val (.int p5), .val (.int p6), .val (.int p7), .val (.int p8), .val (.ref a2), .val (.int ex), x10, x11] []) (LvH Z consts_1 s (fun v h L => v = some (.int 1) ∧ Fr n0 L) room_1.cells room_1.slots) := by
  have hZ0 := hZ
  refine o_new (pc := 648) X0 hx hZ hown (hw _ (List.mem_of_getElem? (i := 9) rfl)) (hw _ (List.mem_of_getElem? (i := 10) rfl)) (hw _ (List.mem_of_getElem? (i := 11) rfl)) e0 (hb hby at_648) (by decide) (by decide) fun T412 h412 b412 X412 e412 g412 E412 A412 D412 U412 => ?_
  have O413 := O0.ext E412
  have B413 := B0.ext E412
  have F412_cause : Fld Z h412 b412 "java/lang/Throwable" "cause" "Ljava/lang/Throwable;" .null := D412 (Or.inl (hw _ (List.mem_of_getElem? (i := 169) rfl))) (ty := (.object "java/lang/Throwable")) (by decide)
  have F412_stackTrace : Fld Z h412 b412 "java/lang/Throwable" "stackTrace" "[Ljava/lang/StackTraceElement;" .null := D412 (Or.inl (hw _ (List.mem_of_getElem? (i := 172) rfl))) (ty := (.array (.object "java/lang/StackTraceElement"))) (by decide)
  have F412_suppressedExceptions : Fld Z h412 b412 "java/lang/Throwable" "suppressedExceptions" "Ljava/util/List;" .null := D412 (Or.inl (hw _ (List.mem_of_getElem? (i := 175) rfl))) (ty := (.object "java/util/List")) (by decide)
  have F412_detailMessage : Fld Z h412 b412 "java/lang/Throwable" "detailMessage" "Ljava/lang/String;" .null := D412 (Or.inl (hw _ (List.mem_of_getElem? (i := 199) rfl))) (ty := (.object "java/lang/String")) (by decide)
  have F412_backtrace : Fld Z h412 b412 "java/lang/Throwable" "backtrace" "Ljava/lang/Object;" .null := D412 (Or.inl (hw _ (List.mem_of_getElem? (i := 200) rfl))) (ty := (.object "java/lang/Object")) (by decide)
  have F412_depth : Fld Z h412 b412 "java/lang/Throwable" "depth" "I" (.int (0 : Int32)) := D412 (Or.inl (hw _ (List.mem_of_getElem? (i := 201) rfl))) (ty := .int) (by decide)
  have F412_reason : Fld Z h412 b412 "com/example/twinstate/twinstate/TransactionRolledBackException" "reason" "Ljava/lang/String;" .null := D412 (Or.inr (hw _ (List.mem_of_getElem? (i := 205) rfl))) (ty := (.object "java/lang/String")) (by decide)
  refine o_dup (pc := 651) X412 hx (hb hby at_651) rfl ?_
  refine o_aload (v := (.ref a2)) (pc := 652) X412 hx (hb hby at_652) rfl rfl ?_
  refine o_callNK (pc := 654) X412 hx hZ (y := (⟨"com/example/twinstate/twinstate/TransactionRolledBackException", "<init>", "(Ljava/lang/String;)V"⟩ : MethodName)) (a := b412) (argsL := [(.ref a2)]) (rest := [(.ref b412)]) rfl hown (o_know B413 hTK) (o_knowF B413 hBe) (o_EW hw) B413 (hw _ (List.mem_of_getElem? (i := 12) rfl)) (hw _ (List.mem_of_getElem? (i := 13) rfl)) (hw _ (List.mem_of_getElem? (i := 11) rfl)) (hw _ (List.mem_of_getElem? (i := 14) rfl)) (by decide) (rmIB l Z a0 hw [] b412 a2 d2 (8 : Int32) u w cs h412 n0 O413 A412 U412 F412_cause F412_stackTrace F412_suppressedExceptions F412_backtrace F412_depth F412_detailMessage F412_reason (Nat.le_trans (o_n0 O0) g412) (HT.ext E412) hst SU SW hu hw2 SC hcs (E2.ext E412) (C2.ext E412) (F2.ext E412) (Byt.of (V2.ext E412) (by rw [List.length_map]; exact hly.symm)) (by decide) (Nat.ne_of_lt (Nat.lt_of_lt_of_le E2.lt g412)) (Nat.ne_of_lt (Nat.lt_of_lt_of_le V2.lt g412))) e412 (by rw [hml]; rfl) (lenOf o_pd10 rfl) (has := rfl) (hst := rfl) (W := 1) (Nat.le_of_ble_eq_true rfl) (hb hby at_654) (by decide) (by decide) (by decide) (by decide) fun sB414 v414 T414 h414 L414 X414 e414 B414 hZ414 hown414 hC414 q414 => ?_
  obtain ⟨rfl, N414q, K414, FR414⟩ := q414
  have N414 := Fr.app N0 N414q
  have O415 := O413.keep K414 (allS (Nat.le_trans (o_n0 O0) g412) all0)
  show Go p e below T414 (mkF m 657 #[.val (.int p1), .val (.int p2), .val (.int p3), .val (.int p4), .val (.int p5), .val (.int p6), .val (.int p7), .val (.int p8), .val (.ref a2), .val (.int ex), x10, x11] [(.ref b412)]) _
  refine o_astore (l' := #[.val (.int p1), .val (.int p2), .val (.int p3), .val (.int p4), .val (.int p5), .val (.int p6), .val (.int p7), .val (.int p8), .val (.ref a2), .val (.int ex), .val (.ref b412), x11]) (pc := 657) X414 hx (hb hby at_657) rfl (by rcases h10 with rfl | ⟨q0, rfl⟩ | ⟨q0, rfl⟩ <;> rfl) ?_
  refine o_aload (v := (.ref b412)) (pc := 659) X414 hx (hb hby at_659) rfl rfl ?_
  refine o_callVH (pc := 661) X414 hx hZ414 (y := (⟨"com/example/twinstate/twinstate/TransactionRolledBackException", "rerunnable", "()Z"⟩ : MethodName)) (z := (⟨"com/example/twinstate/twinstate/TransactionRolledBackException", "rerunnable", "()Z"⟩ : MethodName)) (C := "com/example/twinstate/twinstate/TransactionRolledBackException") (a := b412) (argsL := []) (rest := []) hown414 (o_EW hw) B414 (hw _ (List.mem_of_getElem? (i := 206) rfl)) (hw _ (List.mem_of_getElem? (i := 207) rfl)) (notFace_of_selects (args := #[]) (mvT hZ414 (hw _ (List.mem_of_getElem? (i := 209) rfl)))) (hw _ (List.mem_of_getElem? (i := 209) rfl)) (hw _ (List.mem_of_getElem? (i := 208) rfl)) (hw _ (List.mem_of_getElem? (i := 11) rfl)) (hw _ (List.mem_of_getElem? (i := 210) rfl)) (by decide) (rmR8 l Z a0 hw [] b412 a2 d2 kq cs ys h414 n0 O415 FR414 SC hcs ((E2.ext E412).keep K414) ((C2.ext E412).keep K414 (ninS (Nat.ne_of_lt (Nat.lt_of_lt_of_le E2.lt g412)) nin0)) ((F2.ext E412).keep K414 (ninS (Nat.ne_of_lt (Nat.lt_of_lt_of_le E2.lt g412)) nin0)) ((V2.ext E412).keep K414 (ninS (Nat.ne_of_lt (Nat.lt_of_lt_of_le V2.lt g412)) nin0)) hly) e414 (A412.keep K414) (by rw [hml]; rfl) (lenOf o_pd16 rfl) (has := rfl) (hst := rfl) (W := 0) (Nat.le_of_ble_eq_true rfl) (hb hby at_661) (by decide) (by decide) (by decide) (by decide) fun sB416 v416 T416 h416 L416 X416 e416 B416 hZ416 hown416 hC416 q416 => ?_
  obtain ⟨rfl, N416q, E416⟩ := q416
  have N416 := Fr.app N414 N416q
  have O417 := O415.ext E416
  show Go p e below T416 (mkF m 664 #[.val (.int p1), .val (.int p2), .val (.int p3), .val (.int p4), .val (.int p5), .val (.int p6), .val (.int p7), .val (.int p8), .val (.ref a2), .val (.int ex), .val (.ref b412), x11] [(.int (if [(100 : Int32), (101 : Int32), (97 : Int32), (100 : Int32), (108 : Int32), (111 : Int32), (99 : Int32), (107 : Int32)] = ys then (1 : Int32) else 0))]) _
  refine o_iload (v := ex) (pc := 664) X416 hx (hb hby at_664) rfl ?_
  refine o_icmpNo (pc := 666) X416 hx (hb hby at_666) (teq hres).2 ?_
  refine o_iconst (pc := 669) X416 hx (1 : Int32) (hb hby at_669) rfl ?_
  refine o_goto (pc := 670) X416 hx 674 (hb hby at_670) (by decide) (by decide) ?_
  exact o_retNH (pc := 674) X416 hx hZ416 (o_EW hw) hh B416 .boolean hret hlk (by simp) (hb hby at_674) e416 (by decide) (by decide) ⟨rfl, N416⟩
set_option maxRecDepth 65536 in
set_option maxHeartbeats 40000000 in
theorem tl10 (l : Launch) (Z : State) (a0 : Array Value) (hw : ∀ d ∈ tables_1, d.before a0 Z = true) (u w : Value) (cs : Int32) (a2 d2 : Addr) (kq : ClassId) (ys : List Int32) (ex : Int32) (h : Heap) (n0 : Nat) {p : Program} {e : Env} {s sB : State} {m : MethodId} {as : Array Value} {below : List Frame} {meth : Method} {c : Code} {T : State} {locs : List Loc} {h0 : Heap} {p1 p2 p3 p4 p5 p6 p7 p8 : Int32} {x10 x11 : Slot} (h10 : x10 = .unset ∨ (∃ q, x10 = .val (.int q)) ∨ ∃ q, x10 = .val (.ref q)) (hx : p.tables.exec = Jvm.exec) (hby : c.code = code) (hml : c.maxLocals = maxLocals) (hret : meth.sig.returnType = ret) (hlk : meth.locks = false) (hh : s.heap = h0) (hTK : s.vm.MethodsKnown) (hBe : s.vm.FramesKnown below) (X0 : Stand p l e room_1 sB m as below meth c T locs 8 200) (e0 : T.heap = h) (B0 : BsH Z consts_1 h0 s sB h) (hZ : Z.Warmed39 sB.vm) (hown : sB.vm.findClass x.cls = some m.cls) (O0 : Old Z n0 h) (N0 : Fr n0 locs) (HT : ThS Z h) (hst : l.stackTraces = true) (SU : Sta Z Z.heap "java/lang/Throwable" "UNASSIGNED_STACK" "[Ljava/lang/StackTraceElement;" u) (SW : Sta Z Z.heap "java/lang/Throwable" "SUPPRESSED_SENTINEL" "Ljava/util/List;" w) (hu : u.isRef = true) (hw2 : w.isRef = true) (SC : Sta Z Z.heap "java/lang/String" "COMPACT_STRINGS" "Z" (.int cs)) (hcs : ¬ cs = (0 : Int32)) (E2 : Exa Z h a2 "java/lang/String") (C2 : Fld Z h a2 "java/lang/String" "coder" "B" (.int (0 : Int32))) (F2 : Fld Z h a2 "java/lang/String" "value" "[B" (.ref d2)) (V2 : Arv Z h d2 kq .byte (10 : Int32) (ys.map Value.int) (.int 0)) (hly : (10 : Int32).toNatClampNeg = ys.length) (hres : (if [(108 : Int32), (101 : Int32), (97 : Int32), (115 : Int32), (101 : Int32), (32 : Int32), (108 : Int32), (111 : Int32), (115 : Int32), (116 : Int32)] = ys then (1 : Int32) else 0) = ex) :
    Go p e below T (mkF m 648 #[.val (.int p1), .val (.int p2), .val (.int p3), .val (.int p4), .val (.int p5), .val (.int p6), .val (.int p7), .val (.int p8), .val (.ref a2), .val (.int ex), x10, x11] []) (LvH Z consts_1 s (fun v h L => v = some (.int 1) ∧ Fr n0 L) room_1.cells room_1.slots) := by
  have hZ0 := hZ
  refine o_new (pc := 648) X0 hx hZ hown (hw _ (List.mem_of_getElem? (i := 9) rfl)) (hw _ (List.mem_of_getElem? (i := 10) rfl)) (hw _ (List.mem_of_getElem? (i := 11) rfl)) e0 (hb hby at_648) (by decide) (by decide) fun T418 h418 b418 X418 e418 g418 E418 A418 D418 U418 => ?_
  have O419 := O0.ext E418
  have B419 := B0.ext E418
  have F418_cause : Fld Z h418 b418 "java/lang/Throwable" "cause" "Ljava/lang/Throwable;" .null := D418 (Or.inl (hw _ (List.mem_of_getElem? (i := 169) rfl))) (ty := (.object "java/lang/Throwable")) (by decide)
  have F418_stackTrace : Fld Z h418 b418 "java/lang/Throwable" "stackTrace" "[Ljava/lang/StackTraceElement;" .null := D418 (Or.inl (hw _ (List.mem_of_getElem? (i := 172) rfl))) (ty := (.array (.object "java/lang/StackTraceElement"))) (by decide)
  have F418_suppressedExceptions : Fld Z h418 b418 "java/lang/Throwable" "suppressedExceptions" "Ljava/util/List;" .null := D418 (Or.inl (hw _ (List.mem_of_getElem? (i := 175) rfl))) (ty := (.object "java/util/List")) (by decide)
  have F418_detailMessage : Fld Z h418 b418 "java/lang/Throwable" "detailMessage" "Ljava/lang/String;" .null := D418 (Or.inl (hw _ (List.mem_of_getElem? (i := 199) rfl))) (ty := (.object "java/lang/String")) (by decide)
  have F418_backtrace : Fld Z h418 b418 "java/lang/Throwable" "backtrace" "Ljava/lang/Object;" .null := D418 (Or.inl (hw _ (List.mem_of_getElem? (i := 200) rfl))) (ty := (.object "java/lang/Object")) (by decide)
  have F418_depth : Fld Z h418 b418 "java/lang/Throwable" "depth" "I" (.int (0 : Int32)) := D418 (Or.inl (hw _ (List.mem_of_getElem? (i := 201) rfl))) (ty := .int) (by decide)
  have F418_reason : Fld Z h418 b418 "com/example/twinstate/twinstate/TransactionRolledBackException" "reason" "Ljava/lang/String;" .null := D418 (Or.inr (hw _ (List.mem_of_getElem? (i := 205) rfl))) (ty := (.object "java/lang/String")) (by decide)
  refine o_dup (pc := 651) X418 hx (hb hby at_651) rfl ?_
  refine o_aload (v := (.ref a2)) (pc := 652) X418 hx (hb hby at_652) rfl rfl ?_
  refine o_callNK (pc := 654) X418 hx hZ (y := (⟨"com/example/twinstate/twinstate/TransactionRolledBackException", "<init>", "(Ljava/lang/String;)V"⟩ : MethodName)) (a := b418) (argsL := [(.ref a2)]) (rest := [(.ref b418)]) rfl hown (o_know B419 hTK) (o_knowF B419 hBe) (o_EW hw) B419 (hw _ (List.mem_of_getElem? (i := 12) rfl)) (hw _ (List.mem_of_getElem? (i := 13) rfl)) (hw _ (List.mem_of_getElem? (i := 11) rfl)) (hw _ (List.mem_of_getElem? (i := 14) rfl)) (by decide) (rmIB l Z a0 hw [] b418 a2 d2 (10 : Int32) u w cs h418 n0 O419 A418 U418 F418_cause F418_stackTrace F418_suppressedExceptions F418_backtrace F418_depth F418_detailMessage F418_reason (Nat.le_trans (o_n0 O0) g418) (HT.ext E418) hst SU SW hu hw2 SC hcs (E2.ext E418) (C2.ext E418) (F2.ext E418) (Byt.of (V2.ext E418) (by rw [List.length_map]; exact hly.symm)) (by decide) (Nat.ne_of_lt (Nat.lt_of_lt_of_le E2.lt g418)) (Nat.ne_of_lt (Nat.lt_of_lt_of_le V2.lt g418))) e418 (by rw [hml]; rfl) (lenOf o_pd10 rfl) (has := rfl) (hst := rfl) (W := 1) (Nat.le_of_ble_eq_true rfl) (hb hby at_654) (by decide) (by decide) (by decide) (by decide) fun sB420 v420 T420 h420 L420 X420 e420 B420 hZ420 hown420 hC420 q420 => ?_
  obtain ⟨rfl, N420q, K420, FR420⟩ := q420
  have N420 := Fr.app N0 N420q
  have O421 := O419.keep K420 (allS (Nat.le_trans (o_n0 O0) g418) all0)
  show Go p e below T420 (mkF m 657 #[.val (.int p1), .val (.int p2), .val (.int p3), .val (.int p4), .val (.int p5), .val (.int p6), .val (.int p7), .val (.int p8), .val (.ref a2), .val (.int ex), x10, x11] [(.ref b418)]) _
  refine o_astore (l' := #[.val (.int p1), .val (.int p2), .val (.int p3), .val (.int p4), .val (.int p5), .val (.int p6), .val (.int p7), .val (.int p8), .val (.ref a2), .val (.int ex), .val (.ref b418), x11]) (pc := 657) X420 hx (hb hby at_657) rfl (by rcases h10 with rfl | ⟨q0, rfl⟩ | ⟨q0, rfl⟩ <;> rfl) ?_
  refine o_aload (v := (.ref b418)) (pc := 659) X420 hx (hb hby at_659) rfl rfl ?_
  refine o_callVH (pc := 661) X420 hx hZ420 (y := (⟨"com/example/twinstate/twinstate/TransactionRolledBackException", "rerunnable", "()Z"⟩ : MethodName)) (z := (⟨"com/example/twinstate/twinstate/TransactionRolledBackException", "rerunnable", "()Z"⟩ : MethodName)) (C := "com/example/twinstate/twinstate/TransactionRolledBackException") (a := b418) (argsL := []) (rest := []) hown420 (o_EW hw) B420 (hw _ (List.mem_of_getElem? (i := 206) rfl)) (hw _ (List.mem_of_getElem? (i := 207) rfl)) (notFace_of_selects (args := #[]) (mvT hZ420 (hw _ (List.mem_of_getElem? (i := 209) rfl)))) (hw _ (List.mem_of_getElem? (i := 209) rfl)) (hw _ (List.mem_of_getElem? (i := 208) rfl)) (hw _ (List.mem_of_getElem? (i := 11) rfl)) (hw _ (List.mem_of_getElem? (i := 210) rfl)) (by decide) (rmR10 l Z a0 hw [] b418 a2 d2 kq cs ys h420 n0 O421 FR420 SC hcs ((E2.ext E418).keep K420) ((C2.ext E418).keep K420 (ninS (Nat.ne_of_lt (Nat.lt_of_lt_of_le E2.lt g418)) nin0)) ((F2.ext E418).keep K420 (ninS (Nat.ne_of_lt (Nat.lt_of_lt_of_le E2.lt g418)) nin0)) ((V2.ext E418).keep K420 (ninS (Nat.ne_of_lt (Nat.lt_of_lt_of_le V2.lt g418)) nin0)) hly) e420 (A418.keep K420) (by rw [hml]; rfl) (lenOf o_pd16 rfl) (has := rfl) (hst := rfl) (W := 0) (Nat.le_of_ble_eq_true rfl) (hb hby at_661) (by decide) (by decide) (by decide) (by decide) fun sB422 v422 T422 h422 L422 X422 e422 B422 hZ422 hown422 hC422 q422 => ?_
  obtain ⟨rfl, N422q, E422⟩ := q422
  have N422 := Fr.app N420 N422q
  have O423 := O421.ext E422
  show Go p e below T422 (mkF m 664 #[.val (.int p1), .val (.int p2), .val (.int p3), .val (.int p4), .val (.int p5), .val (.int p6), .val (.int p7), .val (.int p8), .val (.ref a2), .val (.int ex), .val (.ref b418), x11] [(.int (if [(108 : Int32), (101 : Int32), (97 : Int32), (115 : Int32), (101 : Int32), (32 : Int32), (108 : Int32), (111 : Int32), (115 : Int32), (116 : Int32)] = ys then (1 : Int32) else 0))]) _
  refine o_iload (v := ex) (pc := 664) X422 hx (hb hby at_664) rfl ?_
  refine o_icmpNo (pc := 666) X422 hx (hb hby at_666) (teq hres).2 ?_
  refine o_iconst (pc := 669) X422 hx (1 : Int32) (hb hby at_669) rfl ?_
  refine o_goto (pc := 670) X422 hx 674 (hb hby at_670) (by decide) (by decide) ?_
  exact o_retNH (pc := 674) X422 hx hZ422 (o_EW hw) hh B422 .boolean hret hlk (by simp) (hb hby at_674) e422 (by decide) (by decide) ⟨rfl, N422⟩
set_option maxRecDepth 65536 in
set_option maxHeartbeats 40000000 in
theorem tl17 (l : Launch) (Z : State) (a0 : Array Value) (hw : ∀ d ∈ tables_1, d.before a0 Z = true) (u w : Value) (cs : Int32) (a2 d2 : Addr) (kq : ClassId) (ys : List Int32) (ex : Int32) (h : Heap) (n0 : Nat) {p : Program} {e : Env} {s sB : State} {m : MethodId} {as : Array Value} {below : List Frame} {meth : Method} {c : Code} {T : State} {locs : List Loc} {h0 : Heap} {p1 p2 p3 p4 p5 p6 p7 p8 : Int32} {x10 x11 : Slot} (h10 : x10 = .unset ∨ (∃ q, x10 = .val (.int q)) ∨ ∃ q, x10 = .val (.ref q)) (hx : p.tables.exec = Jvm.exec) (hby : c.code = code) (hml : c.maxLocals = maxLocals) (hret : meth.sig.returnType = ret) (hlk : meth.locks = false) (hh : s.heap = h0) (hTK : s.vm.MethodsKnown) (hBe : s.vm.FramesKnown below) (X0 : Stand p l e room_1 sB m as below meth c T locs 8 200) (e0 : T.heap = h) (B0 : BsH Z consts_1 h0 s sB h) (hZ : Z.Warmed39 sB.vm) (hown : sB.vm.findClass x.cls = some m.cls) (O0 : Old Z n0 h) (N0 : Fr n0 locs) (HT : ThS Z h) (hst : l.stackTraces = true) (SU : Sta Z Z.heap "java/lang/Throwable" "UNASSIGNED_STACK" "[Ljava/lang/StackTraceElement;" u) (SW : Sta Z Z.heap "java/lang/Throwable" "SUPPRESSED_SENTINEL" "Ljava/util/List;" w) (hu : u.isRef = true) (hw2 : w.isRef = true) (SC : Sta Z Z.heap "java/lang/String" "COMPACT_STRINGS" "Z" (.int cs)) (hcs : ¬ cs = (0 : Int32)) (E2 : Exa Z h a2 "java/lang/String") (C2 : Fld Z h a2 "java/lang/String" "coder" "B" (.int (0 : Int32))) (F2 : Fld Z h a2 "java/lang/String" "value" "[B" (.ref d2)) (V2 : Arv Z h d2 kq .byte (17 : Int32) (ys.map Value.int) (.int 0)) (hly : (17 : Int32).toNatClampNeg = ys.length) (hres : (if [(108 : Int32), (111 : Int32), (99 : Int32), (107 : Int32), (32 : Int32), (119 : Int32), (97 : Int32), (105 : Int32), (116 : Int32), (32 : Int32), (116 : Int32), (105 : Int32), (109 : Int32), (101 : Int32), (111 : Int32), (117 : Int32), (116 : Int32)] = ys then (1 : Int32) else 0) = ex) :
    Go p e below T (mkF m 648 #[.val (.int p1), .val (.int p2), .val (.int p3), .val (.int p4), .val (.int p5), .val (.int p6), .val (.int p7), .val (.int p8), .val (.ref a2), .val (.int ex), x10, x11] []) (LvH Z consts_1 s (fun v h L => v = some (.int 1) ∧ Fr n0 L) room_1.cells room_1.slots) := by
  have hZ0 := hZ
  refine o_new (pc := 648) X0 hx hZ hown (hw _ (List.mem_of_getElem? (i := 9) rfl)) (hw _ (List.mem_of_getElem? (i := 10) rfl)) (hw _ (List.mem_of_getElem? (i := 11) rfl)) e0 (hb hby at_648) (by decide) (by decide) fun T424 h424 b424 X424 e424 g424 E424 A424 D424 U424 => ?_
  have O425 := O0.ext E424
  have B425 := B0.ext E424
  have F424_cause : Fld Z h424 b424 "java/lang/Throwable" "cause" "Ljava/lang/Throwable;" .null := D424 (Or.inl (hw _ (List.mem_of_getElem? (i := 169) rfl))) (ty := (.object "java/lang/Throwable")) (by decide)
  have F424_stackTrace : Fld Z h424 b424 "java/lang/Throwable" "stackTrace" "[Ljava/lang/StackTraceElement;" .null := D424 (Or.inl (hw _ (List.mem_of_getElem? (i := 172) rfl))) (ty := (.array (.object "java/lang/StackTraceElement"))) (by decide)
  have F424_suppressedExceptions : Fld Z h424 b424 "java/lang/Throwable" "suppressedExceptions" "Ljava/util/List;" .null := D424 (Or.inl (hw _ (List.mem_of_getElem? (i := 175) rfl))) (ty := (.object "java/util/List")) (by decide)
  have F424_detailMessage : Fld Z h424 b424 "java/lang/Throwable" "detailMessage" "Ljava/lang/String;" .null := D424 (Or.inl (hw _ (List.mem_of_getElem? (i := 199) rfl))) (ty := (.object "java/lang/String")) (by decide)
  have F424_backtrace : Fld Z h424 b424 "java/lang/Throwable" "backtrace" "Ljava/lang/Object;" .null := D424 (Or.inl (hw _ (List.mem_of_getElem? (i := 200) rfl))) (ty := (.object "java/lang/Object")) (by decide)
  have F424_depth : Fld Z h424 b424 "java/lang/Throwable" "depth" "I" (.int (0 : Int32)) := D424 (Or.inl (hw _ (List.mem_of_getElem? (i := 201) rfl))) (ty := .int) (by decide)
  have F424_reason : Fld Z h424 b424 "com/example/twinstate/twinstate/TransactionRolledBackException" "reason" "Ljava/lang/String;" .null := D424 (Or.inr (hw _ (List.mem_of_getElem? (i := 205) rfl))) (ty := (.object "java/lang/String")) (by decide)
  refine o_dup (pc := 651) X424 hx (hb hby at_651) rfl ?_
  refine o_aload (v := (.ref a2)) (pc := 652) X424 hx (hb hby at_652) rfl rfl ?_
  refine o_callNK (pc := 654) X424 hx hZ (y := (⟨"com/example/twinstate/twinstate/TransactionRolledBackException", "<init>", "(Ljava/lang/String;)V"⟩ : MethodName)) (a := b424) (argsL := [(.ref a2)]) (rest := [(.ref b424)]) rfl hown (o_know B425 hTK) (o_knowF B425 hBe) (o_EW hw) B425 (hw _ (List.mem_of_getElem? (i := 12) rfl)) (hw _ (List.mem_of_getElem? (i := 13) rfl)) (hw _ (List.mem_of_getElem? (i := 11) rfl)) (hw _ (List.mem_of_getElem? (i := 14) rfl)) (by decide) (rmIB l Z a0 hw [] b424 a2 d2 (17 : Int32) u w cs h424 n0 O425 A424 U424 F424_cause F424_stackTrace F424_suppressedExceptions F424_backtrace F424_depth F424_detailMessage F424_reason (Nat.le_trans (o_n0 O0) g424) (HT.ext E424) hst SU SW hu hw2 SC hcs (E2.ext E424) (C2.ext E424) (F2.ext E424) (Byt.of (V2.ext E424) (by rw [List.length_map]; exact hly.symm)) (by decide) (Nat.ne_of_lt (Nat.lt_of_lt_of_le E2.lt g424)) (Nat.ne_of_lt (Nat.lt_of_lt_of_le V2.lt g424))) e424 (by rw [hml]; rfl) (lenOf o_pd10 rfl) (has := rfl) (hst := rfl) (W := 1) (Nat.le_of_ble_eq_true rfl) (hb hby at_654) (by decide) (by decide) (by decide) (by decide) fun sB426 v426 T426 h426 L426 X426 e426 B426 hZ426 hown426 hC426 q426 => ?_
  obtain ⟨rfl, N426q, K426, FR426⟩ := q426
  have N426 := Fr.app N0 N426q
  have O427 := O425.keep K426 (allS (Nat.le_trans (o_n0 O0) g424) all0)
  show Go p e below T426 (mkF m 657 #[.val (.int p1), .val (.int p2), .val (.int p3), .val (.int p4), .val (.int p5), .val (.int p6), .val (.int p7), .val (.int p8), .val (.ref a2), .val (.int ex), x10, x11] [(.ref b424)]) _
  refine o_astore (l' := #[.val (.int p1), .val (.int p2), .val (.int p3), .val (.int p4), .val (.int p5), .val (.int p6), .val (.int p7), .val (.int p8), .val (.ref a2), .val (.int ex), .val (.ref b424), x11]) (pc := 657) X426 hx (hb hby at_657) rfl (by rcases h10 with rfl | ⟨q0, rfl⟩ | ⟨q0, rfl⟩ <;> rfl) ?_
  refine o_aload (v := (.ref b424)) (pc := 659) X426 hx (hb hby at_659) rfl rfl ?_
  refine o_callVH (pc := 661) X426 hx hZ426 (y := (⟨"com/example/twinstate/twinstate/TransactionRolledBackException", "rerunnable", "()Z"⟩ : MethodName)) (z := (⟨"com/example/twinstate/twinstate/TransactionRolledBackException", "rerunnable", "()Z"⟩ : MethodName)) (C := "com/example/twinstate/twinstate/TransactionRolledBackException") (a := b424) (argsL := []) (rest := []) hown426 (o_EW hw) B426 (hw _ (List.mem_of_getElem? (i := 206) rfl)) (hw _ (List.mem_of_getElem? (i := 207) rfl)) (notFace_of_selects (args := #[]) (mvT hZ426 (hw _ (List.mem_of_getElem? (i := 209) rfl)))) (hw _ (List.mem_of_getElem? (i := 209) rfl)) (hw _ (List.mem_of_getElem? (i := 208) rfl)) (hw _ (List.mem_of_getElem? (i := 11) rfl)) (hw _ (List.mem_of_getElem? (i := 210) rfl)) (by decide) (rmR17 l Z a0 hw [] b424 a2 d2 kq cs ys h426 n0 O427 FR426 SC hcs ((E2.ext E424).keep K426) ((C2.ext E424).keep K426 (ninS (Nat.ne_of_lt (Nat.lt_of_lt_of_le E2.lt g424)) nin0)) ((F2.ext E424).keep K426 (ninS (Nat.ne_of_lt (Nat.lt_of_lt_of_le E2.lt g424)) nin0)) ((V2.ext E424).keep K426 (ninS (Nat.ne_of_lt (Nat.lt_of_lt_of_le V2.lt g424)) nin0)) hly) e426 (A424.keep K426) (by rw [hml]; rfl) (lenOf o_pd16 rfl) (has := rfl) (hst := rfl) (W := 0) (Nat.le_of_ble_eq_true rfl) (hb hby at_661) (by decide) (by decide) (by decide) (by decide) fun sB428 v428 T428 h428 L428 X428 e428 B428 hZ428 hown428 hC428 q428 => ?_
  obtain ⟨rfl, N428q, E428⟩ := q428
  have N428 := Fr.app N426 N428q
  have O429 := O427.ext E428
  show Go p e below T428 (mkF m 664 #[.val (.int p1), .val (.int p2), .val (.int p3), .val (.int p4), .val (.int p5), .val (.int p6), .val (.int p7), .val (.int p8), .val (.ref a2), .val (.int ex), .val (.ref b424), x11] [(.int (if [(108 : Int32), (111 : Int32), (99 : Int32), (107 : Int32), (32 : Int32), (119 : Int32), (97 : Int32), (105 : Int32), (116 : Int32), (32 : Int32), (116 : Int32), (105 : Int32), (109 : Int32), (101 : Int32), (111 : Int32), (117 : Int32), (116 : Int32)] = ys then (1 : Int32) else 0))]) _
  refine o_iload (v := ex) (pc := 664) X428 hx (hb hby at_664) rfl ?_
  refine o_icmpNo (pc := 666) X428 hx (hb hby at_666) (teq hres).2 ?_
  refine o_iconst (pc := 669) X428 hx (1 : Int32) (hb hby at_669) rfl ?_
  refine o_goto (pc := 670) X428 hx 674 (hb hby at_670) (by decide) (by decide) ?_
  exact o_retNH (pc := 674) X428 hx hZ428 (o_EW hw) hh B428 .boolean hret hlk (by simp) (hb hby at_674) e428 (by decide) (by decide) ⟨rfl, N428⟩
theorem o_pn_com_example_twinstate_twinstate_TransactionRolledBackExceptionRerunnablePinLaw : plainName "com/example/twinstate/twinstate/TransactionRolledBackExceptionRerunnablePinLaw" = true := by first | (simp [plainName, overriddenIn]; done) | decide +kernel
theorem o_pd27 : parseMethodDescriptor "([C)V" = some ⟨[(.array .char)], none⟩ := by decide +kernel
set_option maxRecDepth 65536 in
set_option maxHeartbeats 40000000 in
theorem rm0 (l : Launch) (Z : State) (a0 : Array Value) (hw : ∀ d ∈ tables_1, d.before a0 Z = true) (ws : List Jvm.Cond) (p1 p2 p3 p4 p5 : Int32) (u w : Value) (cs : Int32) (h0 : Heap) (n0 : Nat) (O0 : Old Z n0 h0) (HT : ThS Z h0) (hst : l.stackTraces = true) (SU : Sta Z Z.heap "java/lang/Throwable" "UNASSIGNED_STACK" "[Ljava/lang/StackTraceElement;" u) (SW : Sta Z Z.heap "java/lang/Throwable" "SUPPRESSED_SENTINEL" "Ljava/util/List;" w) (hu : u.isRef = true) (hw2 : w.isRef = true) (SC : Sta Z Z.heap "java/lang/String" "COMPACT_STRINGS" "Z" (.int cs)) (hcs : ¬ cs = (0 : Int32)) :
    CtK l Z consts_1 x code maxLocals ret room_1 ws #[(.int p1), (.int p2), (.int p3), (.int p4), (.int p5)] h0 (fun v h L => v = some (.int 1) ∧ Fr n0 L) := by
  refine o_bodyK (plainFor_of_name o_pn_com_example_twinstate_twinstate_TransactionRolledBackExceptionRerunnablePinLaw) ?_
  intro p e s m below meth c s₁ X0 hx hby hml hret hlk hown hnm hZ e0 hh H0 hTK hBe
  have N0 := Fr.nil n0
  have B0 := BsH.start H0
  have hZ0 := hZ
  refine o_top (g' := (mkF m 0 #[.val (.int p1), .val (.int p2), .val (.int p3), .val (.int p4), .val (.int p5), .unset, .unset, .unset, .unset, .unset, .unset, .unset] [])) (by first | (simp [entryFrame, mkF, argsToLocals, Value.category, maxLocals]; done) | rfl) ?_
  refine o_iloadN (v := p1) (pc := 0) X0 hx (hb hby at_0) rfl ?_
  refine o_ldcI (pc := 1) X0 hx hZ hown (hw _ (List.mem_of_getElem? (i := 0) rfl)) (hb hby at_1) ?_
  refine o_iand (pc := 3) X0 hx (hb hby at_3) ?_
  refine o_bipush (pc := 4) X0 hx (12 : Int32) (hb hby at_4) rfl ?_
  refine o_irem (pc := 6) X0 hx (hb hby at_6) (by decide) ?_
  refine o_istore (l' := #[.val (.int p1), .val (.int p2), .val (.int p3), .val (.int p4), .val (.int p5), .val (.int ((p1 &&& (2147483647 : Int32)) % (12 : Int32))), .unset, .unset, .unset, .unset, .unset, .unset]) (pc := 7) X0 hx (hb hby at_7) rfl ?_
  refine o_iloadN (v := p3) (pc := 9) X0 hx (hb hby at_9) rfl ?_
  refine o_sipush (pc := 10) X0 hx (255 : Int32) (hb hby at_10) rfl ?_
  refine o_iand (pc := 13) X0 hx (hb hby at_13) ?_
  refine o_i2c (pc := 14) X0 hx (hb hby at_14) ?_
  rw [i2c_mask]
  refine o_istore (l' := #[.val (.int p1), .val (.int p2), .val (.int p3), .val (.int p4), .val (.int p5), .val (.int ((p1 &&& (2147483647 : Int32)) % (12 : Int32))), .val (.int (p3 &&& (255 : Int32))), .unset, .unset, .unset, .unset, .unset]) (pc := 15) X0 hx (hb hby at_15) rfl ?_
  refine o_iloadN (v := p2) (pc := 17) X0 hx (hb hby at_17) rfl ?_
  refine o_ldcI (pc := 18) X0 hx hZ hown (hw _ (List.mem_of_getElem? (i := 0) rfl)) (hb hby at_18) ?_
  refine o_iand (pc := 20) X0 hx (hb hby at_20) ?_
  refine o_istore (l' := #[.val (.int p1), .val (.int p2), .val (.int p3), .val (.int p4), .val (.int p5), .val (.int ((p1 &&& (2147483647 : Int32)) % (12 : Int32))), .val (.int (p3 &&& (255 : Int32))), .val (.int (p2 &&& (2147483647 : Int32))), .unset, .unset, .unset, .unset]) (pc := 21) X0 hx (hb hby at_21) rfl ?_
  refine o_iload (v := ((p1 &&& (2147483647 : Int32)) % (12 : Int32))) (pc := 23) X0 hx (hb hby at_23) rfl ?_
  by_cases hc430 : ((p1 &&& (2147483647 : Int32)) % (12 : Int32)) = (0 : Int32)
  · skip
    refine o_ifNo (pc := 25) X0 hx (hb hby at_25) ((if0 _ _).trans (teq hc430).2) ?_
    refine o_ldcH (pc := 28) X0 hx hZ hown (hw _ (List.mem_of_getElem? (i := 1) rfl)) (o_wS hw) e0 (o_EW hw) (List.mem_of_getElem? (i := 4) rfl) B0 (vs := [(.int (100 : Int32)), (.int (101 : Int32)), (.int (97 : Int32)), (.int (100 : Int32)), (.int (108 : Int32)), (.int (111 : Int32)), (.int (99 : Int32)), (.int (107 : Int32))]) (z := (8 : Int32)) ⟨by decide, rfl⟩ (by decide) rfl (hb hby at_28) 32 (by decide) (by decide) (by decide) (by decide) fun sB431 b431 T431 h431 d431 k431 X431 e431 E431 B431 hZ431 hown431 hC431 Le431 Lc431 Lv431 La431 Sf431 => ?_
    have O432 := O0.ext E431
    refine o_astore (l' := #[.val (.int p1), .val (.int p2), .val (.int p3), .val (.int p4), .val (.int p5), .val (.int ((p1 &&& (2147483647 : Int32)) % (12 : Int32))), .val (.int (p3 &&& (255 : Int32))), .val (.int (p2 &&& (2147483647 : Int32))), .val (.ref b431), .unset, .unset, .unset]) (pc := 30) X431 hx (hb hby at_30) rfl rfl ?_
    refine o_iconst (pc := 32) X431 hx (1 : Int32) (hb hby at_32) rfl ?_
    refine o_istore (l' := #[.val (.int p1), .val (.int p2), .val (.int p3), .val (.int p4), .val (.int p5), .val (.int ((p1 &&& (2147483647 : Int32)) % (12 : Int32))), .val (.int (p3 &&& (255 : Int32))), .val (.int (p2 &&& (2147483647 : Int32))), .val (.ref b431), .val (.int (1 : Int32)), .unset, .unset]) (pc := 33) X431 hx (hb hby at_33) rfl ?_
    refine o_goto (pc := 35) X431 hx 648 (hb hby at_35) (by decide) (by decide) ?_
    show Go p e below T431 (mkF m 648 #[.val (.int p1), .val (.int p2), .val (.int p3), .val (.int p4), .val (.int p5), .val (.int ((p1 &&& (2147483647 : Int32)) % (12 : Int32))), .val (.int (p3 &&& (255 : Int32))), .val (.int (p2 &&& (2147483647 : Int32))), .val (.ref b431), .val (.int (1 : Int32)), .unset, .unset] []) _
    exact tl8 l Z a0 hw u w cs b431 d431 k431 [(100 : Int32), (101 : Int32), (97 : Int32), (100 : Int32), (108 : Int32), (111 : Int32), (99 : Int32), (107 : Int32)] (1 : Int32) h431 n0 (Or.inl rfl) hx hby hml hret hlk hh hTK hBe (X431.more (by decide) (by decide)) e431 B431 hZ431 hown431 O432 N0 (HT.ext E431) hst SU SW hu hw2 SC hcs Le431 Lc431 Lv431 La431 rfl (if_pos rfl)
  · skip
    refine o_ifYes (pc := 25) X0 hx 38 (hb hby at_25) ((if0 _ _).trans (feq hc430).2) (by decide) (by decide) ?_
    refine o_iload (v := ((p1 &&& (2147483647 : Int32)) % (12 : Int32))) (pc := 38) X0 hx (hb hby at_38) rfl ?_
    refine o_iconst (pc := 40) X0 hx (1 : Int32) (hb hby at_40) rfl ?_
    by_cases hc433 : ((p1 &&& (2147483647 : Int32)) % (12 : Int32)) = (1 : Int32)
    · skip
      refine o_icmpNo (pc := 41) X0 hx (hb hby at_41) (teq hc433).2 ?_
      refine o_ldcH (pc := 44) X0 hx hZ hown (hw _ (List.mem_of_getElem? (i := 250) rfl)) (o_wS hw) e0 (o_EW hw) (List.mem_of_getElem? (i := 5) rfl) B0 (vs := [(.int (108 : Int32)), (.int (101 : Int32)), (.int (97 : Int32)), (.int (115 : Int32)), (.int (101 : Int32)), (.int (32 : Int32)), (.int (108 : Int32)), (.int (111 : Int32)), (.int (115 : Int32)), (.int (116 : Int32))]) (z := (10 : Int32)) ⟨by decide, rfl⟩ (by decide) rfl (hb hby at_44) 40 (by decide) (by decide) (by decide) (by decide) fun sB434 b434 T434 h434 d434 k434 X434 e434 E434 B434 hZ434 hown434 hC434 Le434 Lc434 Lv434 La434 Sf434 => ?_
      have O435 := O0.ext E434
      refine o_astore (l' := #[.val (.int p1), .val (.int p2), .val (.int p3), .val (.int p4), .val (.int p5), .val (.int ((p1 &&& (2147483647 : Int32)) % (12 : Int32))), .val (.int (p3 &&& (255 : Int32))), .val (.int (p2 &&& (2147483647 : Int32))), .val (.ref b434), .unset, .unset, .unset]) (pc := 46) X434 hx (hb hby at_46) rfl rfl ?_
      refine o_iconst (pc := 48) X434 hx (1 : Int32) (hb hby at_48) rfl ?_
      refine o_istore (l' := #[.val (.int p1), .val (.int p2), .val (.int p3), .val (.int p4), .val (.int p5), .val (.int ((p1 &&& (2147483647 : Int32)) % (12 : Int32))), .val (.int (p3 &&& (255 : Int32))), .val (.int (p2 &&& (2147483647 : Int32))), .val (.ref b434), .val (.int (1 : Int32)), .unset, .unset]) (pc := 49) X434 hx (hb hby at_49) rfl ?_
      refine o_goto (pc := 51) X434 hx 648 (hb hby at_51) (by decide) (by decide) ?_
      show Go p e below T434 (mkF m 648 #[.val (.int p1), .val (.int p2), .val (.int p3), .val (.int p4), .val (.int p5), .val (.int ((p1 &&& (2147483647 : Int32)) % (12 : Int32))), .val (.int (p3 &&& (255 : Int32))), .val (.int (p2 &&& (2147483647 : Int32))), .val (.ref b434), .val (.int (1 : Int32)), .unset, .unset] []) _
      exact tl10 l Z a0 hw u w cs b434 d434 k434 [(108 : Int32), (101 : Int32), (97 : Int32), (115 : Int32), (101 : Int32), (32 : Int32), (108 : Int32), (111 : Int32), (115 : Int32), (116 : Int32)] (1 : Int32) h434 n0 (Or.inl rfl) hx hby hml hret hlk hh hTK hBe (X434.more (by decide) (by decide)) e434 B434 hZ434 hown434 O435 N0 (HT.ext E434) hst SU SW hu hw2 SC hcs Le434 Lc434 Lv434 La434 rfl (if_pos rfl)
    · skip
      refine o_icmpYes (pc := 41) X0 hx 54 (hb hby at_41) (feq hc433).2 (by decide) (by decide) ?_
      refine o_iload (v := ((p1 &&& (2147483647 : Int32)) % (12 : Int32))) (pc := 54) X0 hx (hb hby at_54) rfl ?_
      refine o_iconst (pc := 56) X0 hx (2 : Int32) (hb hby at_56) rfl ?_
      by_cases hc436 : ((p1 &&& (2147483647 : Int32)) % (12 : Int32)) = (2 : Int32)
      · skip
        refine o_icmpNo (pc := 57) X0 hx (hb hby at_57) (teq hc436).2 ?_
        refine o_ldcH (pc := 60) X0 hx hZ hown (hw _ (List.mem_of_getElem? (i := 251) rfl)) (o_wS hw) e0 (o_EW hw) (List.mem_of_getElem? (i := 6) rfl) B0 (vs := [(.int (108 : Int32)), (.int (111 : Int32)), (.int (99 : Int32)), (.int (107 : Int32)), (.int (32 : Int32)), (.int (119 : Int32)), (.int (97 : Int32)), (.int (105 : Int32)), (.int (116 : Int32)), (.int (32 : Int32)), (.int (116 : Int32)), (.int (105 : Int32)), (.int (109 : Int32)), (.int (101 : Int32)), (.int (111 : Int32)), (.int (117 : Int32)), (.int (116 : Int32))]) (z := (17 : Int32)) ⟨by decide, rfl⟩ (by decide) rfl (hb hby at_60) 68 (by decide) (by decide) (by decide) (by decide) fun sB437 b437 T437 h437 d437 k437 X437 e437 E437 B437 hZ437 hown437 hC437 Le437 Lc437 Lv437 La437 Sf437 => ?_
        have O438 := O0.ext E437
        refine o_astore (l' := #[.val (.int p1), .val (.int p2), .val (.int p3), .val (.int p4), .val (.int p5), .val (.int ((p1 &&& (2147483647 : Int32)) % (12 : Int32))), .val (.int (p3 &&& (255 : Int32))), .val (.int (p2 &&& (2147483647 : Int32))), .val (.ref b437), .unset, .unset, .unset]) (pc := 62) X437 hx (hb hby at_62) rfl rfl ?_
        refine o_iconst (pc := 64) X437 hx (1 : Int32) (hb hby at_64) rfl ?_
        refine o_istore (l' := #[.val (.int p1), .val (.int p2), .val (.int p3), .val (.int p4), .val (.int p5), .val (.int ((p1 &&& (2147483647 : Int32)) % (12 : Int32))), .val (.int (p3 &&& (255 : Int32))), .val (.int (p2 &&& (2147483647 : Int32))), .val (.ref b437), .val (.int (1 : Int32)), .unset, .unset]) (pc := 65) X437 hx (hb hby at_65) rfl ?_
        refine o_goto (pc := 67) X437 hx 648 (hb hby at_67) (by decide) (by decide) ?_
        show Go p e below T437 (mkF m 648 #[.val (.int p1), .val (.int p2), .val (.int p3), .val (.int p4), .val (.int p5), .val (.int ((p1 &&& (2147483647 : Int32)) % (12 : Int32))), .val (.int (p3 &&& (255 : Int32))), .val (.int (p2 &&& (2147483647 : Int32))), .val (.ref b437), .val (.int (1 : Int32)), .unset, .unset] []) _
        exact tl17 l Z a0 hw u w cs b437 d437 k437 [(108 : Int32), (111 : Int32), (99 : Int32), (107 : Int32), (32 : Int32), (119 : Int32), (97 : Int32), (105 : Int32), (116 : Int32), (32 : Int32), (116 : Int32), (105 : Int32), (109 : Int32), (101 : Int32), (111 : Int32), (117 : Int32), (116 : Int32)] (1 : Int32) h437 n0 (Or.inl rfl) hx hby hml hret hlk hh hTK hBe (X437.more (by decide) (by decide)) e437 B437 hZ437 hown437 O438 N0 (HT.ext E437) hst SU SW hu hw2 SC hcs Le437 Lc437 Lv437 La437 rfl (if_pos rfl)
      · skip
        refine o_icmpYes (pc := 57) X0 hx 70 (hb hby at_57) (feq hc436).2 (by decide) (by decide) ?_
        refine o_iload (v := ((p1 &&& (2147483647 : Int32)) % (12 : Int32))) (pc := 70) X0 hx (hb hby at_70) rfl ?_
        refine o_iconst (pc := 72) X0 hx (3 : Int32) (hb hby at_72) rfl ?_
        by_cases hc439 : ((p1 &&& (2147483647 : Int32)) % (12 : Int32)) = (3 : Int32)
        · skip
          refine o_icmpNo (pc := 73) X0 hx (hb hby at_73) (teq hc439).2 ?_
          refine o_ldcH (pc := 76) X0 hx hZ hown (hw _ (List.mem_of_getElem? (i := 217) rfl)) (o_wS hw) e0 (o_EW hw) (List.mem_of_getElem? (i := 7) rfl) B0 (vs := [(.int (105 : Int32)), (.int (110 : Int32)), (.int (116 : Int32)), (.int (101 : Int32)), (.int (114 : Int32)), (.int (114 : Int32)), (.int (117 : Int32)), (.int (112 : Int32)), (.int (116 : Int32)), (.int (101 : Int32)), (.int (100 : Int32))]) (z := (11 : Int32)) ⟨by decide, rfl⟩ (by decide) rfl (hb hby at_76) 44 (by decide) (by decide) (by decide) (by decide) fun sB440 b440 T440 h440 d440 k440 X440 e440 E440 B440 hZ440 hown440 hC440 Le440 Lc440 Lv440 La440 Sf440 => ?_
          have O441 := O0.ext E440
          refine o_astore (l' := #[.val (.int p1), .val (.int p2), .val (.int p3), .val (.int p4), .val (.int p5), .val (.int ((p1 &&& (2147483647 : Int32)) % (12 : Int32))), .val (.int (p3 &&& (255 : Int32))), .val (.int (p2 &&& (2147483647 : Int32))), .val (.ref b440), .unset, .unset, .unset]) (pc := 78) X440 hx (hb hby at_78) rfl rfl ?_
          refine o_iconst (pc := 80) X440 hx (0 : Int32) (hb hby at_80) rfl ?_
          refine o_istore (l' := #[.val (.int p1), .val (.int p2), .val (.int p3), .val (.int p4), .val (.int p5), .val (.int ((p1 &&& (2147483647 : Int32)) % (12 : Int32))), .val (.int (p3 &&& (255 : Int32))), .val (.int (p2 &&& (2147483647 : Int32))), .val (.ref b440), .val (.int (0 : Int32)), .unset, .unset]) (pc := 81) X440 hx (hb hby at_81) rfl ?_
          refine o_goto (pc := 83) X440 hx 648 (hb hby at_83) (by decide) (by decide) ?_
          show Go p e below T440 (mkF m 648 #[.val (.int p1), .val (.int p2), .val (.int p3), .val (.int p4), .val (.int p5), .val (.int ((p1 &&& (2147483647 : Int32)) % (12 : Int32))), .val (.int (p3 &&& (255 : Int32))), .val (.int (p2 &&& (2147483647 : Int32))), .val (.ref b440), .val (.int (0 : Int32)), .unset, .unset] []) _
          exact tlB l Z a0 hw u w cs b440 d440 (11 : Int32) h440 n0 (Or.inl rfl) hx hby hml hret hlk hh hTK hBe (X440.more (by decide) (by decide)) e440 B440 hZ440 hown440 O441 N0 (HT.ext E440) hst SU SW hu hw2 SC hcs Le440 Lc440 Lv440 (Byt.of La440 rfl) (by decide) (by decide) (by decide) (by decide)
        · skip
          refine o_icmpYes (pc := 73) X0 hx 86 (hb hby at_73) (feq hc439).2 (by decide) (by decide) ?_
          refine o_iload (v := ((p1 &&& (2147483647 : Int32)) % (12 : Int32))) (pc := 86) X0 hx (hb hby at_86) rfl ?_
          refine o_iconst (pc := 88) X0 hx (4 : Int32) (hb hby at_88) rfl ?_
          by_cases hc442 : ((p1 &&& (2147483647 : Int32)) % (12 : Int32)) = (4 : Int32)
          · skip
            refine o_icmpNo (pc := 89) X0 hx (hb hby at_89) (teq hc442).2 ?_
            refine o_ldcH (pc := 92) X0 hx hZ hown (hw _ (List.mem_of_getElem? (i := 243) rfl)) (o_wS hw) e0 (o_EW hw) (List.mem_of_getElem? (i := 8) rfl) B0 (vs := [(.int (100 : Int32)), (.int (117 : Int32)), (.int (112 : Int32)), (.int (108 : Int32)), (.int (105 : Int32)), (.int (99 : Int32)), (.int (97 : Int32)), (.int (116 : Int32)), (.int (101 : Int32)), (.int (32 : Int32)), (.int (107 : Int32)), (.int (101 : Int32)), (.int (121 : Int32))]) (z := (13 : Int32)) ⟨by decide, rfl⟩ (by decide) rfl (hb hby at_92) 52 (by decide) (by decide) (by decide) (by decide) fun sB443 b443 T443 h443 d443 k443 X443 e443 E443 B443 hZ443 hown443 hC443 Le443 Lc443 Lv443 La443 Sf443 => ?_
            have O444 := O0.ext E443
            refine o_astore (l' := #[.val (.int p1), .val (.int p2), .val (.int p3), .val (.int p4), .val (.int p5), .val (.int ((p1 &&& (2147483647 : Int32)) % (12 : Int32))), .val (.int (p3 &&& (255 : Int32))), .val (.int (p2 &&& (2147483647 : Int32))), .val (.ref b443), .unset, .unset, .unset]) (pc := 94) X443 hx (hb hby at_94) rfl rfl ?_
            refine o_iconst (pc := 96) X443 hx (0 : Int32) (hb hby at_96) rfl ?_
            refine o_istore (l' := #[.val (.int p1), .val (.int p2), .val (.int p3), .val (.int p4), .val (.int p5), .val (.int ((p1 &&& (2147483647 : Int32)) % (12 : Int32))), .val (.int (p3 &&& (255 : Int32))), .val (.int (p2 &&& (2147483647 : Int32))), .val (.ref b443), .val (.int (0 : Int32)), .unset, .unset]) (pc := 97) X443 hx (hb hby at_97) rfl ?_
            refine o_goto (pc := 99) X443 hx 648 (hb hby at_99) (by decide) (by decide) ?_
            show Go p e below T443 (mkF m 648 #[.val (.int p1), .val (.int p2), .val (.int p3), .val (.int p4), .val (.int p5), .val (.int ((p1 &&& (2147483647 : Int32)) % (12 : Int32))), .val (.int (p3 &&& (255 : Int32))), .val (.int (p2 &&& (2147483647 : Int32))), .val (.ref b443), .val (.int (0 : Int32)), .unset, .unset] []) _
            exact tlB l Z a0 hw u w cs b443 d443 (13 : Int32) h443 n0 (Or.inl rfl) hx hby hml hret hlk hh hTK hBe (X443.more (by decide) (by decide)) e443 B443 hZ443 hown443 O444 N0 (HT.ext E443) hst SU SW hu hw2 SC hcs Le443 Lc443 Lv443 (Byt.of La443 rfl) (by decide) (by decide) (by decide) (by decide)
          · skip
            refine o_icmpYes (pc := 89) X0 hx 102 (hb hby at_89) (feq hc442).2 (by decide) (by decide) ?_
            refine o_iload (v := ((p1 &&& (2147483647 : Int32)) % (12 : Int32))) (pc := 102) X0 hx (hb hby at_102) rfl ?_
            refine o_iconst (pc := 104) X0 hx (5 : Int32) (hb hby at_104) rfl ?_
            by_cases hc445 : ((p1 &&& (2147483647 : Int32)) % (12 : Int32)) = (5 : Int32)
            · skip
              refine o_icmpNo (pc := 105) X0 hx (hb hby at_105) (teq hc445).2 ?_
              refine o_ldcH (pc := 108) X0 hx hZ hown (hw _ (List.mem_of_getElem? (i := 252) rfl)) (o_wS hw) e0 (o_EW hw) (List.mem_of_getElem? (i := 9) rfl) B0 (vs := [(.int (116 : Int32)), (.int (105 : Int32)), (.int (109 : Int32)), (.int (101 : Int32)), (.int (111 : Int32)), (.int (117 : Int32)), (.int (116 : Int32))]) (z := (7 : Int32)) ⟨by decide, rfl⟩ (by decide) rfl (hb hby at_108) 28 (by decide) (by decide) (by decide) (by decide) fun sB446 b446 T446 h446 d446 k446 X446 e446 E446 B446 hZ446 hown446 hC446 Le446 Lc446 Lv446 La446 Sf446 => ?_
              have O447 := O0.ext E446
              refine o_astore (l' := #[.val (.int p1), .val (.int p2), .val (.int p3), .val (.int p4), .val (.int p5), .val (.int ((p1 &&& (2147483647 : Int32)) % (12 : Int32))), .val (.int (p3 &&& (255 : Int32))), .val (.int (p2 &&& (2147483647 : Int32))), .val (.ref b446), .unset, .unset, .unset]) (pc := 110) X446 hx (hb hby at_110) rfl rfl ?_
              refine o_iconst (pc := 112) X446 hx (0 : Int32) (hb hby at_112) rfl ?_
              refine o_istore (l' := #[.val (.int p1), .val (.int p2), .val (.int p3), .val (.int p4), .val (.int p5), .val (.int ((p1 &&& (2147483647 : Int32)) % (12 : Int32))), .val (.int (p3 &&& (255 : Int32))), .val (.int (p2 &&& (2147483647 : Int32))), .val (.ref b446), .val (.int (0 : Int32)), .unset, .unset]) (pc := 113) X446 hx (hb hby at_113) rfl ?_
              refine o_goto (pc := 115) X446 hx 648 (hb hby at_115) (by decide) (by decide) ?_
              show Go p e below T446 (mkF m 648 #[.val (.int p1), .val (.int p2), .val (.int p3), .val (.int p4), .val (.int p5), .val (.int ((p1 &&& (2147483647 : Int32)) % (12 : Int32))), .val (.int (p3 &&& (255 : Int32))), .val (.int (p2 &&& (2147483647 : Int32))), .val (.ref b446), .val (.int (0 : Int32)), .unset, .unset] []) _
              exact tlB l Z a0 hw u w cs b446 d446 (7 : Int32) h446 n0 (Or.inl rfl) hx hby hml hret hlk hh hTK hBe (X446.more (by decide) (by decide)) e446 B446 hZ446 hown446 O447 N0 (HT.ext E446) hst SU SW hu hw2 SC hcs Le446 Lc446 Lv446 (Byt.of La446 rfl) (by decide) (by decide) (by decide) (by decide)
            · skip
              refine o_icmpYes (pc := 105) X0 hx 118 (hb hby at_105) (feq hc445).2 (by decide) (by decide) ?_
              refine o_iload (v := ((p1 &&& (2147483647 : Int32)) % (12 : Int32))) (pc := 118) X0 hx (hb hby at_118) rfl ?_
              refine o_bipush (pc := 120) X0 hx (6 : Int32) (hb hby at_120) rfl ?_
              by_cases hc448 : ((p1 &&& (2147483647 : Int32)) % (12 : Int32)) = (6 : Int32)
              · skip
                refine o_icmpNo (pc := 122) X0 hx (hb hby at_122) (teq hc448).2 ?_
                refine o_aconst_null (pc := 125) X0 hx (hb hby at_125) ?_
                refine o_astore (l' := #[.val (.int p1), .val (.int p2), .val (.int p3), .val (.int p4), .val (.int p5), .val (.int ((p1 &&& (2147483647 : Int32)) % (12 : Int32))), .val (.int (p3 &&& (255 : Int32))), .val (.int (p2 &&& (2147483647 : Int32))), .val .null, .unset, .unset, .unset]) (pc := 126) X0 hx (hb hby at_126) rfl rfl ?_
                refine o_iconst (pc := 128) X0 hx (0 : Int32) (hb hby at_128) rfl ?_
                refine o_istore (l' := #[.val (.int p1), .val (.int p2), .val (.int p3), .val (.int p4), .val (.int p5), .val (.int ((p1 &&& (2147483647 : Int32)) % (12 : Int32))), .val (.int (p3 &&& (255 : Int32))), .val (.int (p2 &&& (2147483647 : Int32))), .val .null, .val (.int (0 : Int32)), .unset, .unset]) (pc := 129) X0 hx (hb hby at_129) rfl ?_
                refine o_goto (pc := 131) X0 hx 648 (hb hby at_131) (by decide) (by decide) ?_
                show Go p e below s₁ (mkF m 648 #[.val (.int p1), .val (.int p2), .val (.int p3), .val (.int p4), .val (.int p5), .val (.int ((p1 &&& (2147483647 : Int32)) % (12 : Int32))), .val (.int (p3 &&& (255 : Int32))), .val (.int (p2 &&& (2147483647 : Int32))), .val .null, .val (.int (0 : Int32)), .unset, .unset] []) _
                exact tlN l Z a0 hw u w cs h0 n0 (Or.inl rfl) hx hby hml hret hlk hh hTK hBe (X0.more (by decide) (by decide)) e0 B0 hZ hown O0 N0 HT hst SU SW hu hw2 SC hcs
              · skip
                refine o_icmpYes (pc := 122) X0 hx 134 (hb hby at_122) (feq hc448).2 (by decide) (by decide) ?_
                refine o_iload (v := ((p1 &&& (2147483647 : Int32)) % (12 : Int32))) (pc := 134) X0 hx (hb hby at_134) rfl ?_
                refine o_bipush (pc := 136) X0 hx (7 : Int32) (hb hby at_136) rfl ?_
                by_cases hc449 : ((p1 &&& (2147483647 : Int32)) % (12 : Int32)) = (7 : Int32)
                · skip
                  refine o_icmpNo (pc := 138) X0 hx (hb hby at_138) (teq hc449).2 ?_
                  refine o_bipush (pc := 141) X0 hx (8 : Int32) (hb hby at_141) rfl ?_
                  refine o_newP (pc := 143) X0 hx hZ (hw _ (List.mem_of_getElem? (i := 225) rfl)) e0 (hb hby at_143) (by decide) 8 (by decide) (by decide) (by decide) (by decide) fun T450 h450 b450 k450 X450 e450 g450 E450 V450 => ?_
                  have O451 := O0.ext E450
                  have B451 := B0.ext E450
                  have V450p : Arv Z h450 b450 k450 .char (8 : Int32) [(.int (0 : Int32)), (.int (0 : Int32)), (.int (0 : Int32)), (.int (0 : Int32)), (.int (0 : Int32)), (.int (0 : Int32)), (.int (0 : Int32)), (.int (0 : Int32))] (.int (0 : Int32)) := V450.pad (pad_rep [] (.int (0 : Int32)) 8)
                  refine o_dup (pc := 145) X450 hx (hb hby at_145) rfl ?_
                  refine o_iconst (pc := 146) X450 hx (0 : Int32) (hb hby at_146) rfl ?_
                  refine o_bipush (pc := 147) X450 hx (100 : Int32) (hb hby at_147) rfl ?_
                  refine o_castore (pc := 149) X450 hx hZ e450 V450p ⟨by decide, by decide⟩ 0 rfl (Nat.le_of_ble_eq_true rfl) (hb hby at_149) fun T452 h452 X452 e452 W452 V452 => ?_
                  rw [show nar .char (100 : Int32) = (100 : Int32) by decide] at V452
                  have N452 := Fr.snoc X452 N0 (Nat.le_trans (o_n0 O0) g450)
                  have O453 := O451.wr W452 (Nat.le_trans (o_n0 O0) g450)
                  have B453 := B451.wr W452 (Safe.arv hZ0.alike V450p (by decide))
                  refine o_dup (pc := 150) X452 hx (hb hby at_150) rfl ?_
                  refine o_iconst (pc := 151) X452 hx (1 : Int32) (hb hby at_151) rfl ?_
                  refine o_bipush (pc := 152) X452 hx (101 : Int32) (hb hby at_152) rfl ?_
                  refine o_castore (pc := 154) X452 hx hZ e452 V452 ⟨by decide, by decide⟩ 1 rfl (Nat.le_of_ble_eq_true rfl) (hb hby at_154) fun T454 h454 X454 e454 W454 V454 => ?_
                  rw [show nar .char (101 : Int32) = (101 : Int32) by decide] at V454
                  have N454 := Fr.snoc X454 N452 (Nat.le_trans (o_n0 O0) g450)
                  have O455 := O453.wr W454 (Nat.le_trans (o_n0 O0) g450)
                  have B455 := B453.wr W454 (Safe.arv hZ0.alike V452 (by decide))
                  refine o_dup (pc := 155) X454 hx (hb hby at_155) rfl ?_
                  refine o_iconst (pc := 156) X454 hx (2 : Int32) (hb hby at_156) rfl ?_
                  refine o_bipush (pc := 157) X454 hx (97 : Int32) (hb hby at_157) rfl ?_
                  refine o_castore (pc := 159) X454 hx hZ e454 V454 ⟨by decide, by decide⟩ 2 rfl (Nat.le_of_ble_eq_true rfl) (hb hby at_159) fun T456 h456 X456 e456 W456 V456 => ?_
                  rw [show nar .char (97 : Int32) = (97 : Int32) by decide] at V456
                  have N456 := Fr.snoc X456 N454 (Nat.le_trans (o_n0 O0) g450)
                  have O457 := O455.wr W456 (Nat.le_trans (o_n0 O0) g450)
                  have B457 := B455.wr W456 (Safe.arv hZ0.alike V454 (by decide))
                  refine o_dup (pc := 160) X456 hx (hb hby at_160) rfl ?_
                  refine o_iconst (pc := 161) X456 hx (3 : Int32) (hb hby at_161) rfl ?_
                  refine o_bipush (pc := 162) X456 hx (100 : Int32) (hb hby at_162) rfl ?_
                  refine o_castore (pc := 164) X456 hx hZ e456 V456 ⟨by decide, by decide⟩ 3 rfl (Nat.le_of_ble_eq_true rfl) (hb hby at_164) fun T458 h458 X458 e458 W458 V458 => ?_
                  rw [show nar .char (100 : Int32) = (100 : Int32) by decide] at V458
                  have N458 := Fr.snoc X458 N456 (Nat.le_trans (o_n0 O0) g450)
                  have O459 := O457.wr W458 (Nat.le_trans (o_n0 O0) g450)
                  have B459 := B457.wr W458 (Safe.arv hZ0.alike V456 (by decide))
                  refine o_dup (pc := 165) X458 hx (hb hby at_165) rfl ?_
                  refine o_iconst (pc := 166) X458 hx (4 : Int32) (hb hby at_166) rfl ?_
                  refine o_bipush (pc := 167) X458 hx (108 : Int32) (hb hby at_167) rfl ?_
                  refine o_castore (pc := 169) X458 hx hZ e458 V458 ⟨by decide, by decide⟩ 4 rfl (Nat.le_of_ble_eq_true rfl) (hb hby at_169) fun T460 h460 X460 e460 W460 V460 => ?_
                  rw [show nar .char (108 : Int32) = (108 : Int32) by decide] at V460
                  have N460 := Fr.snoc X460 N458 (Nat.le_trans (o_n0 O0) g450)
                  have O461 := O459.wr W460 (Nat.le_trans (o_n0 O0) g450)
                  have B461 := B459.wr W460 (Safe.arv hZ0.alike V458 (by decide))
                  refine o_dup (pc := 170) X460 hx (hb hby at_170) rfl ?_
                  refine o_iconst (pc := 171) X460 hx (5 : Int32) (hb hby at_171) rfl ?_
                  refine o_bipush (pc := 172) X460 hx (111 : Int32) (hb hby at_172) rfl ?_
                  refine o_castore (pc := 174) X460 hx hZ e460 V460 ⟨by decide, by decide⟩ 5 rfl (Nat.le_of_ble_eq_true rfl) (hb hby at_174) fun T462 h462 X462 e462 W462 V462 => ?_
                  rw [show nar .char (111 : Int32) = (111 : Int32) by decide] at V462
                  have N462 := Fr.snoc X462 N460 (Nat.le_trans (o_n0 O0) g450)
                  have O463 := O461.wr W462 (Nat.le_trans (o_n0 O0) g450)
                  have B463 := B461.wr W462 (Safe.arv hZ0.alike V460 (by decide))
                  refine o_dup (pc := 175) X462 hx (hb hby at_175) rfl ?_
                  refine o_bipush (pc := 176) X462 hx (6 : Int32) (hb hby at_176) rfl ?_
                  refine o_bipush (pc := 178) X462 hx (99 : Int32) (hb hby at_178) rfl ?_
                  refine o_castore (pc := 180) X462 hx hZ e462 V462 ⟨by decide, by decide⟩ 6 rfl (Nat.le_of_ble_eq_true rfl) (hb hby at_180) fun T464 h464 X464 e464 W464 V464 => ?_
                  rw [show nar .char (99 : Int32) = (99 : Int32) by decide] at V464
                  have N464 := Fr.snoc X464 N462 (Nat.le_trans (o_n0 O0) g450)
                  have O465 := O463.wr W464 (Nat.le_trans (o_n0 O0) g450)
                  have B465 := B463.wr W464 (Safe.arv hZ0.alike V462 (by decide))
                  refine o_dup (pc := 181) X464 hx (hb hby at_181) rfl ?_
                  refine o_bipush (pc := 182) X464 hx (7 : Int32) (hb hby at_182) rfl ?_
                  refine o_bipush (pc := 184) X464 hx (107 : Int32) (hb hby at_184) rfl ?_
                  refine o_castore (pc := 186) X464 hx hZ e464 V464 ⟨by decide, by decide⟩ 7 rfl (Nat.le_of_ble_eq_true rfl) (hb hby at_186) fun T466 h466 X466 e466 W466 V466 => ?_
                  rw [show nar .char (107 : Int32) = (107 : Int32) by decide] at V466
                  have N466 := Fr.snoc X466 N464 (Nat.le_trans (o_n0 O0) g450)
                  have O467 := O465.wr W466 (Nat.le_trans (o_n0 O0) g450)
                  have B467 := B465.wr W466 (Safe.arv hZ0.alike V464 (by decide))
                  refine o_astore (l' := #[.val (.int p1), .val (.int p2), .val (.int p3), .val (.int p4), .val (.int p5), .val (.int ((p1 &&& (2147483647 : Int32)) % (12 : Int32))), .val (.int (p3 &&& (255 : Int32))), .val (.int (p2 &&& (2147483647 : Int32))), .unset, .unset, .val (.ref b450), .unset]) (pc := 187) X466 hx (hb hby at_187) rfl rfl ?_
                  refine o_iload (v := (p2 &&& (2147483647 : Int32))) (pc := 189) X466 hx (hb hby at_189) rfl ?_
                  refine o_bipush (pc := 191) X466 hx (8 : Int32) (hb hby at_191) rfl ?_
                  refine o_irem (pc := 193) X466 hx (hb hby at_193) (by decide) ?_
                  refine o_istore (l' := #[.val (.int p1), .val (.int p2), .val (.int p3), .val (.int p4), .val (.int p5), .val (.int ((p1 &&& (2147483647 : Int32)) % (12 : Int32))), .val (.int (p3 &&& (255 : Int32))), .val (.int (p2 &&& (2147483647 : Int32))), .unset, .unset, .val (.ref b450), .val (.int ((p2 &&& (2147483647 : Int32)) % (8 : Int32)))]) (pc := 194) X466 hx (hb hby at_194) rfl ?_
                  obtain ⟨ix1, ix2⟩ := remi8 p2
                  have VW : Arv Z h466 b450 k450 .char (8 : Int32) (wd8.map Value.int) (.int 0) := V466
                  refine o_aload (v := (.ref b450)) (pc := 196) X466 hx (hb hby at_196) rfl rfl ?_
                  refine o_iload (v := ((p2 &&& (2147483647 : Int32)) % (8 : Int32))) (pc := 198) X466 hx (hb hby at_198) rfl ?_
                  refine o_caload (v := (.int (wd8.getD ((p2 &&& (2147483647 : Int32)) % (8 : Int32)).toNatClampNeg 0))) (pc := 200) X466 hx hZ e466 VW ix1 (o_gd _ _) (hb hby at_200) ?_
                  refine o_iload (v := (p3 &&& (255 : Int32))) (pc := 201) X466 hx (hb hby at_201) rfl ?_
                  by_cases hc468 : (wd8.getD ((p2 &&& (2147483647 : Int32)) % (8 : Int32)).toNatClampNeg 0) = (p3 &&& (255 : Int32))
                  · skip
                    refine o_icmpNo (pc := 203) X466 hx (hb hby at_203) (teq hc468).2 ?_
                    refine o_iconst (pc := 206) X466 hx (1 : Int32) (hb hby at_206) rfl ?_
                    refine o_goto (pc := 207) X466 hx 211 (hb hby at_207) (by decide) (by decide) ?_
                    refine o_istore (l' := #[.val (.int p1), .val (.int p2), .val (.int p3), .val (.int p4), .val (.int p5), .val (.int ((p1 &&& (2147483647 : Int32)) % (12 : Int32))), .val (.int (p3 &&& (255 : Int32))), .val (.int (p2 &&& (2147483647 : Int32))), .unset, .val (.int (1 : Int32)), .val (.ref b450), .val (.int ((p2 &&& (2147483647 : Int32)) % (8 : Int32)))]) (pc := 211) X466 hx (hb hby at_211) rfl ?_
                    refine o_aload (v := (.ref b450)) (pc := 213) X466 hx (hb hby at_213) rfl rfl ?_
                    refine o_iload (v := ((p2 &&& (2147483647 : Int32)) % (8 : Int32))) (pc := 215) X466 hx (hb hby at_215) rfl ?_
                    refine o_iload (v := (p3 &&& (255 : Int32))) (pc := 217) X466 hx (hb hby at_217) rfl ?_
                    refine o_castore (pc := 219) X466 hx hZ e466 VW ix1 _ rfl (by rw [List.length_map]; exact ix2) (hb hby at_219) fun T469 h469 X469 e469 W469 V469 => ?_
                    rw [o_narc, ← List.map_set] at V469
                    have N469 := Fr.snoc X469 N466 (Nat.le_trans (o_n0 O0) g450)
                    have O470 := O467.wr W469 (Nat.le_trans (o_n0 O0) g450)
                    have B470 := B467.wr W469 (Safe.arv hZ0.alike VW (by decide))
                    refine o_new (pc := 220) X469 hx hZ hown (hw _ (List.mem_of_getElem? (i := 226) rfl)) (hw _ (List.mem_of_getElem? (i := 3) rfl)) (hw _ (List.mem_of_getElem? (i := 2) rfl)) e469 (hb hby at_220) (by decide) (by decide) fun T471 h471 b471 X471 e471 g471 E471 A471 D471 U471 => ?_
                    have O472 := O470.ext E471
                    have B472 := B470.ext E471
                    have F471_value : Fld Z h471 b471 "java/lang/String" "value" "[B" .null := D471 (Or.inr (hw _ (List.mem_of_getElem? (i := 5) rfl))) (ty := (.array .byte)) (by decide)
                    have F471_coder : Fld Z h471 b471 "java/lang/String" "coder" "B" (.int (0 : Int32)) := D471 (Or.inr (hw _ (List.mem_of_getElem? (i := 6) rfl))) (ty := .byte) (by decide)
                    refine o_dup (pc := 223) X471 hx (hb hby at_223) rfl ?_
                    refine o_aload (v := (.ref b450)) (pc := 224) X471 hx (hb hby at_224) rfl rfl ?_
                    refine o_callN (pc := 226) X471 hx hZ (y := (⟨"java/lang/String", "<init>", "([C)V"⟩ : MethodName)) (a := b471) (argsL := [(.ref b450)]) (rest := [(.ref b471)]) rfl hown (hw _ (List.mem_of_getElem? (i := 227) rfl)) (hw _ (List.mem_of_getElem? (i := 228) rfl)) (hw _ (List.mem_of_getElem? (i := 2) rfl)) (hw _ (List.mem_of_getElem? (i := 229) rfl)) (by decide) (rmSCL l Z a0 hw [] b471 b450 k450 cs (wd8.set ((p2 &&& (2147483647 : Int32)) % (8 : Int32)).toNatClampNeg (p3 &&& (255 : Int32))) (8 : Int32) h471 n0 O472 A471 F471_coder F471_value (Nat.le_trans (o_n0 O470) g471) (V469.ext E471) SC hcs (by rw [List.length_set]; rfl) (by decide) (o_setle o_we8 _ p3) (by decide) (by decide)) e471 (by rw [hml]; rfl) (lenOf o_pd27 rfl) (has := rfl) (hst := rfl) (W := 1) (Nat.le_of_ble_eq_true rfl) (hb hby at_226) (by decide) (by decide) (by decide) (by decide) fun v473 T473 h473 L473 X473 e473 q473 => ?_
                    obtain ⟨rfl, N473q, K473, Fc473, d473, k473, g473, Fv473, V473⟩ := q473
                    have N473 := Fr.app N469 N473q
                    have VL473 : Arv Z h473 d473 k473 .byte (8 : Int32) (((wd8.set ((p2 &&& (2147483647 : Int32)) % (8 : Int32)).toNatClampNeg (p3 &&& (255 : Int32))).map bt1).map Value.int) (.int 0) := by rw [List.map_map]; exact V473
                    have O474 := O472.keep K473 (allS (Nat.le_trans (o_n0 O470) g471) all0)
                    have B474 := B472.keep K473 (allS (Safe.ext E471 B470.chv (Safe.new g471)) all0)
                    show Go p e below T473 (mkF m 229 #[.val (.int p1), .val (.int p2), .val (.int p3), .val (.int p4), .val (.int p5), .val (.int ((p1 &&& (2147483647 : Int32)) % (12 : Int32))), .val (.int (p3 &&& (255 : Int32))), .val (.int (p2 &&& (2147483647 : Int32))), .unset, .val (.int (1 : Int32)), .val (.ref b450), .val (.int ((p2 &&& (2147483647 : Int32)) % (8 : Int32)))] [(.ref b471)]) _
                    refine o_astore (l' := #[.val (.int p1), .val (.int p2), .val (.int p3), .val (.int p4), .val (.int p5), .val (.int ((p1 &&& (2147483647 : Int32)) % (12 : Int32))), .val (.int (p3 &&& (255 : Int32))), .val (.int (p2 &&& (2147483647 : Int32))), .val (.ref b471), .val (.int (1 : Int32)), .val (.ref b450), .val (.int ((p2 &&& (2147483647 : Int32)) % (8 : Int32)))]) (pc := 229) X473 hx (hb hby at_229) rfl rfl ?_
                    refine o_goto (pc := 231) X473 hx 648 (hb hby at_231) (by decide) (by decide) ?_
                    show Go p e below T473 (mkF m 648 #[.val (.int p1), .val (.int p2), .val (.int p3), .val (.int p4), .val (.int p5), .val (.int ((p1 &&& (2147483647 : Int32)) % (12 : Int32))), .val (.int (p3 &&& (255 : Int32))), .val (.int (p2 &&& (2147483647 : Int32))), .val (.ref b471), .val (.int (1 : Int32)), .val (.ref b450), .val (.int ((p2 &&& (2147483647 : Int32)) % (8 : Int32)))] []) _
                    exact tl8 l Z a0 hw u w cs b471 d473 k473 ((wd8.set ((p2 &&& (2147483647 : Int32)) % (8 : Int32)).toNatClampNeg (p3 &&& (255 : Int32))).map bt1) (1 : Int32) h473 n0 (Or.inr (Or.inr ⟨_, rfl⟩)) hx hby hml hret hlk hh hTK hBe (X473.more (by decide) (by decide)) e473 B474 hZ hown O474 N473 (ThS.keep K473 (nsS A471.nostat ns0) (((((((((((HT.ext E450).wr W452).wr W454).wr W456).wr W458).wr W460).wr W462).wr W464).wr W466).wr W469).ext E471)) hst SU SW hu hw2 SC hcs (A471.keep K473) Fc473 Fv473 VL473 (by rw [List.length_map, List.length_set]; rfl) (if_pos ((o_word wd8 o_wd8 _ ix2 p3).mpr hc468))
                  · skip
                    refine o_icmpYes (pc := 203) X466 hx 210 (hb hby at_203) (feq hc468).2 (by decide) (by decide) ?_
                    refine o_iconst (pc := 210) X466 hx (0 : Int32) (hb hby at_210) rfl ?_
                    refine o_istore (l' := #[.val (.int p1), .val (.int p2), .val (.int p3), .val (.int p4), .val (.int p5), .val (.int ((p1 &&& (2147483647 : Int32)) % (12 : Int32))), .val (.int (p3 &&& (255 : Int32))), .val (.int (p2 &&& (2147483647 : Int32))), .unset, .val (.int (0 : Int32)), .val (.ref b450), .val (.int ((p2 &&& (2147483647 : Int32)) % (8 : Int32)))]) (pc := 211) X466 hx (hb hby at_211) rfl ?_
                    refine o_aload (v := (.ref b450)) (pc := 213) X466 hx (hb hby at_213) rfl rfl ?_
                    refine o_iload (v := ((p2 &&& (2147483647 : Int32)) % (8 : Int32))) (pc := 215) X466 hx (hb hby at_215) rfl ?_
                    refine o_iload (v := (p3 &&& (255 : Int32))) (pc := 217) X466 hx (hb hby at_217) rfl ?_
                    refine o_castore (pc := 219) X466 hx hZ e466 VW ix1 _ rfl (by rw [List.length_map]; exact ix2) (hb hby at_219) fun T475 h475 X475 e475 W475 V475 => ?_
                    rw [o_narc, ← List.map_set] at V475
                    have N475 := Fr.snoc X475 N466 (Nat.le_trans (o_n0 O0) g450)
                    have O476 := O467.wr W475 (Nat.le_trans (o_n0 O0) g450)
                    have B476 := B467.wr W475 (Safe.arv hZ0.alike VW (by decide))
                    refine o_new (pc := 220) X475 hx hZ hown (hw _ (List.mem_of_getElem? (i := 226) rfl)) (hw _ (List.mem_of_getElem? (i := 3) rfl)) (hw _ (List.mem_of_getElem? (i := 2) rfl)) e475 (hb hby at_220) (by decide) (by decide) fun T477 h477 b477 X477 e477 g477 E477 A477 D477 U477 => ?_
                    have O478 := O476.ext E477
                    have B478 := B476.ext E477
                    have F477_value : Fld Z h477 b477 "java/lang/String" "value" "[B" .null := D477 (Or.inr (hw _ (List.mem_of_getElem? (i := 5) rfl))) (ty := (.array .byte)) (by decide)
                    have F477_coder : Fld Z h477 b477 "java/lang/String" "coder" "B" (.int (0 : Int32)) := D477 (Or.inr (hw _ (List.mem_of_getElem? (i := 6) rfl))) (ty := .byte) (by decide)
                    refine o_dup (pc := 223) X477 hx (hb hby at_223) rfl ?_
                    refine o_aload (v := (.ref b450)) (pc := 224) X477 hx (hb hby at_224) rfl rfl ?_
                    refine o_callN (pc := 226) X477 hx hZ (y := (⟨"java/lang/String", "<init>", "([C)V"⟩ : MethodName)) (a := b477) (argsL := [(.ref b450)]) (rest := [(.ref b477)]) rfl hown (hw _ (List.mem_of_getElem? (i := 227) rfl)) (hw _ (List.mem_of_getElem? (i := 228) rfl)) (hw _ (List.mem_of_getElem? (i := 2) rfl)) (hw _ (List.mem_of_getElem? (i := 229) rfl)) (by decide) (rmSCL l Z a0 hw [] b477 b450 k450 cs (wd8.set ((p2 &&& (2147483647 : Int32)) % (8 : Int32)).toNatClampNeg (p3 &&& (255 : Int32))) (8 : Int32) h477 n0 O478 A477 F477_coder F477_value (Nat.le_trans (o_n0 O476) g477) (V475.ext E477) SC hcs (by rw [List.length_set]; rfl) (by decide) (o_setle o_we8 _ p3) (by decide) (by decide)) e477 (by rw [hml]; rfl) (lenOf o_pd27 rfl) (has := rfl) (hst := rfl) (W := 1) (Nat.le_of_ble_eq_true rfl) (hb hby at_226) (by decide) (by decide) (by decide) (by decide) fun v479 T479 h479 L479 X479 e479 q479 => ?_
                    obtain ⟨rfl, N479q, K479, Fc479, d479, k479, g479, Fv479, V479⟩ := q479
                    have N479 := Fr.app N475 N479q
                    have VL479 : Arv Z h479 d479 k479 .byte (8 : Int32) (((wd8.set ((p2 &&& (2147483647 : Int32)) % (8 : Int32)).toNatClampNeg (p3 &&& (255 : Int32))).map bt1).map Value.int) (.int 0) := by rw [List.map_map]; exact V479
                    have O480 := O478.keep K479 (allS (Nat.le_trans (o_n0 O476) g477) all0)
                    have B480 := B478.keep K479 (allS (Safe.ext E477 B476.chv (Safe.new g477)) all0)
                    show Go p e below T479 (mkF m 229 #[.val (.int p1), .val (.int p2), .val (.int p3), .val (.int p4), .val (.int p5), .val (.int ((p1 &&& (2147483647 : Int32)) % (12 : Int32))), .val (.int (p3 &&& (255 : Int32))), .val (.int (p2 &&& (2147483647 : Int32))), .unset, .val (.int (0 : Int32)), .val (.ref b450), .val (.int ((p2 &&& (2147483647 : Int32)) % (8 : Int32)))] [(.ref b477)]) _
                    refine o_astore (l' := #[.val (.int p1), .val (.int p2), .val (.int p3), .val (.int p4), .val (.int p5), .val (.int ((p1 &&& (2147483647 : Int32)) % (12 : Int32))), .val (.int (p3 &&& (255 : Int32))), .val (.int (p2 &&& (2147483647 : Int32))), .val (.ref b477), .val (.int (0 : Int32)), .val (.ref b450), .val (.int ((p2 &&& (2147483647 : Int32)) % (8 : Int32)))]) (pc := 229) X479 hx (hb hby at_229) rfl rfl ?_
                    refine o_goto (pc := 231) X479 hx 648 (hb hby at_231) (by decide) (by decide) ?_
                    show Go p e below T479 (mkF m 648 #[.val (.int p1), .val (.int p2), .val (.int p3), .val (.int p4), .val (.int p5), .val (.int ((p1 &&& (2147483647 : Int32)) % (12 : Int32))), .val (.int (p3 &&& (255 : Int32))), .val (.int (p2 &&& (2147483647 : Int32))), .val (.ref b477), .val (.int (0 : Int32)), .val (.ref b450), .val (.int ((p2 &&& (2147483647 : Int32)) % (8 : Int32)))] []) _
                    exact tl8 l Z a0 hw u w cs b477 d479 k479 ((wd8.set ((p2 &&& (2147483647 : Int32)) % (8 : Int32)).toNatClampNeg (p3 &&& (255 : Int32))).map bt1) (0 : Int32) h479 n0 (Or.inr (Or.inr ⟨_, rfl⟩)) hx hby hml hret hlk hh hTK hBe (X479.more (by decide) (by decide)) e479 B480 hZ hown O480 N479 (ThS.keep K479 (nsS A477.nostat ns0) (((((((((((HT.ext E450).wr W452).wr W454).wr W456).wr W458).wr W460).wr W462).wr W464).wr W466).wr W475).ext E477)) hst SU SW hu hw2 SC hcs (A477.keep K479) Fc479 Fv479 VL479 (by rw [List.length_map, List.length_set]; rfl) (if_neg fun q => hc468 ((o_word wd8 o_wd8 _ ix2 p3).mp q))
                · skip
                  refine o_icmpYes (pc := 138) X0 hx 234 (hb hby at_138) (feq hc449).2 (by decide) (by decide) ?_
                  refine o_iload (v := ((p1 &&& (2147483647 : Int32)) % (12 : Int32))) (pc := 234) X0 hx (hb hby at_234) rfl ?_
                  refine o_bipush (pc := 236) X0 hx (8 : Int32) (hb hby at_236) rfl ?_
                  by_cases hc481 : ((p1 &&& (2147483647 : Int32)) % (12 : Int32)) = (8 : Int32)
                  · skip
                    refine o_icmpNo (pc := 238) X0 hx (hb hby at_238) (teq hc481).2 ?_
                    refine o_bipush (pc := 241) X0 hx (10 : Int32) (hb hby at_241) rfl ?_
                    refine o_newP (pc := 243) X0 hx hZ (hw _ (List.mem_of_getElem? (i := 225) rfl)) e0 (hb hby at_243) (by decide) 10 (by decide) (by decide) (by decide) (by decide) fun T482 h482 b482 k482 X482 e482 g482 E482 V482 => ?_
                    have O483 := O0.ext E482
                    have B483 := B0.ext E482
                    have V482p : Arv Z h482 b482 k482 .char (10 : Int32) [(.int (0 : Int32)), (.int (0 : Int32)), (.int (0 : Int32)), (.int (0 : Int32)), (.int (0 : Int32)), (.int (0 : Int32)), (.int (0 : Int32)), (.int (0 : Int32)), (.int (0 : Int32)), (.int (0 : Int32))] (.int (0 : Int32)) := V482.pad (pad_rep [] (.int (0 : Int32)) 10)
                    refine o_dup (pc := 245) X482 hx (hb hby at_245) rfl ?_
                    refine o_iconst (pc := 246) X482 hx (0 : Int32) (hb hby at_246) rfl ?_
                    refine o_bipush (pc := 247) X482 hx (108 : Int32) (hb hby at_247) rfl ?_
                    refine o_castore (pc := 249) X482 hx hZ e482 V482p ⟨by decide, by decide⟩ 0 rfl (Nat.le_of_ble_eq_true rfl) (hb hby at_249) fun T484 h484 X484 e484 W484 V484 => ?_
                    rw [show nar .char (108 : Int32) = (108 : Int32) by decide] at V484
                    have N484 := Fr.snoc X484 N0 (Nat.le_trans (o_n0 O0) g482)
                    have O485 := O483.wr W484 (Nat.le_trans (o_n0 O0) g482)
                    have B485 := B483.wr W484 (Safe.arv hZ0.alike V482p (by decide))
                    refine o_dup (pc := 250) X484 hx (hb hby at_250) rfl ?_
                    refine o_iconst (pc := 251) X484 hx (1 : Int32) (hb hby at_251) rfl ?_
                    refine o_bipush (pc := 252) X484 hx (101 : Int32) (hb hby at_252) rfl ?_
                    refine o_castore (pc := 254) X484 hx hZ e484 V484 ⟨by decide, by decide⟩ 1 rfl (Nat.le_of_ble_eq_true rfl) (hb hby at_254) fun T486 h486 X486 e486 W486 V486 => ?_
                    rw [show nar .char (101 : Int32) = (101 : Int32) by decide] at V486
                    have N486 := Fr.snoc X486 N484 (Nat.le_trans (o_n0 O0) g482)
                    have O487 := O485.wr W486 (Nat.le_trans (o_n0 O0) g482)
                    have B487 := B485.wr W486 (Safe.arv hZ0.alike V484 (by decide))
                    refine o_dup (pc := 255) X486 hx (hb hby at_255) rfl ?_
                    refine o_iconst (pc := 256) X486 hx (2 : Int32) (hb hby at_256) rfl ?_
                    refine o_bipush (pc := 257) X486 hx (97 : Int32) (hb hby at_257) rfl ?_
                    refine o_castore (pc := 259) X486 hx hZ e486 V486 ⟨by decide, by decide⟩ 2 rfl (Nat.le_of_ble_eq_true rfl) (hb hby at_259) fun T488 h488 X488 e488 W488 V488 => ?_
                    rw [show nar .char (97 : Int32) = (97 : Int32) by decide] at V488
                    have N488 := Fr.snoc X488 N486 (Nat.le_trans (o_n0 O0) g482)
                    have O489 := O487.wr W488 (Nat.le_trans (o_n0 O0) g482)
                    have B489 := B487.wr W488 (Safe.arv hZ0.alike V486 (by decide))
                    refine o_dup (pc := 260) X488 hx (hb hby at_260) rfl ?_
                    refine o_iconst (pc := 261) X488 hx (3 : Int32) (hb hby at_261) rfl ?_
                    refine o_bipush (pc := 262) X488 hx (115 : Int32) (hb hby at_262) rfl ?_
                    refine o_castore (pc := 264) X488 hx hZ e488 V488 ⟨by decide, by decide⟩ 3 rfl (Nat.le_of_ble_eq_true rfl) (hb hby at_264) fun T490 h490 X490 e490 W490 V490 => ?_
                    rw [show nar .char (115 : Int32) = (115 : Int32) by decide] at V490
                    have N490 := Fr.snoc X490 N488 (Nat.le_trans (o_n0 O0) g482)
                    have O491 := O489.wr W490 (Nat.le_trans (o_n0 O0) g482)
                    have B491 := B489.wr W490 (Safe.arv hZ0.alike V488 (by decide))
                    refine o_dup (pc := 265) X490 hx (hb hby at_265) rfl ?_
                    refine o_iconst (pc := 266) X490 hx (4 : Int32) (hb hby at_266) rfl ?_
                    refine o_bipush (pc := 267) X490 hx (101 : Int32) (hb hby at_267) rfl ?_
                    refine o_castore (pc := 269) X490 hx hZ e490 V490 ⟨by decide, by decide⟩ 4 rfl (Nat.le_of_ble_eq_true rfl) (hb hby at_269) fun T492 h492 X492 e492 W492 V492 => ?_
                    rw [show nar .char (101 : Int32) = (101 : Int32) by decide] at V492
                    have N492 := Fr.snoc X492 N490 (Nat.le_trans (o_n0 O0) g482)
                    have O493 := O491.wr W492 (Nat.le_trans (o_n0 O0) g482)
                    have B493 := B491.wr W492 (Safe.arv hZ0.alike V490 (by decide))
                    refine o_dup (pc := 270) X492 hx (hb hby at_270) rfl ?_
                    refine o_iconst (pc := 271) X492 hx (5 : Int32) (hb hby at_271) rfl ?_
                    refine o_bipush (pc := 272) X492 hx (32 : Int32) (hb hby at_272) rfl ?_
                    refine o_castore (pc := 274) X492 hx hZ e492 V492 ⟨by decide, by decide⟩ 5 rfl (Nat.le_of_ble_eq_true rfl) (hb hby at_274) fun T494 h494 X494 e494 W494 V494 => ?_
                    rw [show nar .char (32 : Int32) = (32 : Int32) by decide] at V494
                    have N494 := Fr.snoc X494 N492 (Nat.le_trans (o_n0 O0) g482)
                    have O495 := O493.wr W494 (Nat.le_trans (o_n0 O0) g482)
                    have B495 := B493.wr W494 (Safe.arv hZ0.alike V492 (by decide))
                    refine o_dup (pc := 275) X494 hx (hb hby at_275) rfl ?_
                    refine o_bipush (pc := 276) X494 hx (6 : Int32) (hb hby at_276) rfl ?_
                    refine o_bipush (pc := 278) X494 hx (108 : Int32) (hb hby at_278) rfl ?_
                    refine o_castore (pc := 280) X494 hx hZ e494 V494 ⟨by decide, by decide⟩ 6 rfl (Nat.le_of_ble_eq_true rfl) (hb hby at_280) fun T496 h496 X496 e496 W496 V496 => ?_
                    rw [show nar .char (108 : Int32) = (108 : Int32) by decide] at V496
                    have N496 := Fr.snoc X496 N494 (Nat.le_trans (o_n0 O0) g482)
                    have O497 := O495.wr W496 (Nat.le_trans (o_n0 O0) g482)
                    have B497 := B495.wr W496 (Safe.arv hZ0.alike V494 (by decide))
                    refine o_dup (pc := 281) X496 hx (hb hby at_281) rfl ?_
                    refine o_bipush (pc := 282) X496 hx (7 : Int32) (hb hby at_282) rfl ?_
                    refine o_bipush (pc := 284) X496 hx (111 : Int32) (hb hby at_284) rfl ?_
                    refine o_castore (pc := 286) X496 hx hZ e496 V496 ⟨by decide, by decide⟩ 7 rfl (Nat.le_of_ble_eq_true rfl) (hb hby at_286) fun T498 h498 X498 e498 W498 V498 => ?_
                    rw [show nar .char (111 : Int32) = (111 : Int32) by decide] at V498
                    have N498 := Fr.snoc X498 N496 (Nat.le_trans (o_n0 O0) g482)
                    have O499 := O497.wr W498 (Nat.le_trans (o_n0 O0) g482)
                    have B499 := B497.wr W498 (Safe.arv hZ0.alike V496 (by decide))
                    refine o_dup (pc := 287) X498 hx (hb hby at_287) rfl ?_
                    refine o_bipush (pc := 288) X498 hx (8 : Int32) (hb hby at_288) rfl ?_
                    refine o_bipush (pc := 290) X498 hx (115 : Int32) (hb hby at_290) rfl ?_
                    refine o_castore (pc := 292) X498 hx hZ e498 V498 ⟨by decide, by decide⟩ 8 rfl (Nat.le_of_ble_eq_true rfl) (hb hby at_292) fun T500 h500 X500 e500 W500 V500 => ?_
                    rw [show nar .char (115 : Int32) = (115 : Int32) by decide] at V500
                    have N500 := Fr.snoc X500 N498 (Nat.le_trans (o_n0 O0) g482)
                    have O501 := O499.wr W500 (Nat.le_trans (o_n0 O0) g482)
                    have B501 := B499.wr W500 (Safe.arv hZ0.alike V498 (by decide))
                    refine o_dup (pc := 293) X500 hx (hb hby at_293) rfl ?_
                    refine o_bipush (pc := 294) X500 hx (9 : Int32) (hb hby at_294) rfl ?_
                    refine o_bipush (pc := 296) X500 hx (116 : Int32) (hb hby at_296) rfl ?_
                    refine o_castore (pc := 298) X500 hx hZ e500 V500 ⟨by decide, by decide⟩ 9 rfl (Nat.le_of_ble_eq_true rfl) (hb hby at_298) fun T502 h502 X502 e502 W502 V502 => ?_
                    rw [show nar .char (116 : Int32) = (116 : Int32) by decide] at V502
                    have N502 := Fr.snoc X502 N500 (Nat.le_trans (o_n0 O0) g482)
                    have O503 := O501.wr W502 (Nat.le_trans (o_n0 O0) g482)
                    have B503 := B501.wr W502 (Safe.arv hZ0.alike V500 (by decide))
                    refine o_astore (l' := #[.val (.int p1), .val (.int p2), .val (.int p3), .val (.int p4), .val (.int p5), .val (.int ((p1 &&& (2147483647 : Int32)) % (12 : Int32))), .val (.int (p3 &&& (255 : Int32))), .val (.int (p2 &&& (2147483647 : Int32))), .unset, .unset, .val (.ref b482), .unset]) (pc := 299) X502 hx (hb hby at_299) rfl rfl ?_
                    refine o_iload (v := (p2 &&& (2147483647 : Int32))) (pc := 301) X502 hx (hb hby at_301) rfl ?_
                    refine o_bipush (pc := 303) X502 hx (10 : Int32) (hb hby at_303) rfl ?_
                    refine o_irem (pc := 305) X502 hx (hb hby at_305) (by decide) ?_
                    refine o_istore (l' := #[.val (.int p1), .val (.int p2), .val (.int p3), .val (.int p4), .val (.int p5), .val (.int ((p1 &&& (2147483647 : Int32)) % (12 : Int32))), .val (.int (p3 &&& (255 : Int32))), .val (.int (p2 &&& (2147483647 : Int32))), .unset, .unset, .val (.ref b482), .val (.int ((p2 &&& (2147483647 : Int32)) % (10 : Int32)))]) (pc := 306) X502 hx (hb hby at_306) rfl ?_
                    obtain ⟨ix1, ix2⟩ := remi10 p2
                    have VW : Arv Z h502 b482 k482 .char (10 : Int32) (wd10.map Value.int) (.int 0) := V502
                    refine o_aload (v := (.ref b482)) (pc := 308) X502 hx (hb hby at_308) rfl rfl ?_
                    refine o_iload (v := ((p2 &&& (2147483647 : Int32)) % (10 : Int32))) (pc := 310) X502 hx (hb hby at_310) rfl ?_
                    refine o_caload (v := (.int (wd10.getD ((p2 &&& (2147483647 : Int32)) % (10 : Int32)).toNatClampNeg 0))) (pc := 312) X502 hx hZ e502 VW ix1 (o_gd _ _) (hb hby at_312) ?_
                    refine o_iload (v := (p3 &&& (255 : Int32))) (pc := 313) X502 hx (hb hby at_313) rfl ?_
                    by_cases hc504 : (wd10.getD ((p2 &&& (2147483647 : Int32)) % (10 : Int32)).toNatClampNeg 0) = (p3 &&& (255 : Int32))
                    · skip
                      refine o_icmpNo (pc := 315) X502 hx (hb hby at_315) (teq hc504).2 ?_
                      refine o_iconst (pc := 318) X502 hx (1 : Int32) (hb hby at_318) rfl ?_
                      refine o_goto (pc := 319) X502 hx 323 (hb hby at_319) (by decide) (by decide) ?_
                      refine o_istore (l' := #[.val (.int p1), .val (.int p2), .val (.int p3), .val (.int p4), .val (.int p5), .val (.int ((p1 &&& (2147483647 : Int32)) % (12 : Int32))), .val (.int (p3 &&& (255 : Int32))), .val (.int (p2 &&& (2147483647 : Int32))), .unset, .val (.int (1 : Int32)), .val (.ref b482), .val (.int ((p2 &&& (2147483647 : Int32)) % (10 : Int32)))]) (pc := 323) X502 hx (hb hby at_323) rfl ?_
                      refine o_aload (v := (.ref b482)) (pc := 325) X502 hx (hb hby at_325) rfl rfl ?_
                      refine o_iload (v := ((p2 &&& (2147483647 : Int32)) % (10 : Int32))) (pc := 327) X502 hx (hb hby at_327) rfl ?_
                      refine o_iload (v := (p3 &&& (255 : Int32))) (pc := 329) X502 hx (hb hby at_329) rfl ?_
                      refine o_castore (pc := 331) X502 hx hZ e502 VW ix1 _ rfl (by rw [List.length_map]; exact ix2) (hb hby at_331) fun T505 h505 X505 e505 W505 V505 => ?_
                      rw [o_narc, ← List.map_set] at V505
                      have N505 := Fr.snoc X505 N502 (Nat.le_trans (o_n0 O0) g482)
                      have O506 := O503.wr W505 (Nat.le_trans (o_n0 O0) g482)
                      have B506 := B503.wr W505 (Safe.arv hZ0.alike VW (by decide))
                      refine o_new (pc := 332) X505 hx hZ hown (hw _ (List.mem_of_getElem? (i := 226) rfl)) (hw _ (List.mem_of_getElem? (i := 3) rfl)) (hw _ (List.mem_of_getElem? (i := 2) rfl)) e505 (hb hby at_332) (by decide) (by decide) fun T507 h507 b507 X507 e507 g507 E507 A507 D507 U507 => ?_
                      have O508 := O506.ext E507
                      have B508 := B506.ext E507
                      have F507_value : Fld Z h507 b507 "java/lang/String" "value" "[B" .null := D507 (Or.inr (hw _ (List.mem_of_getElem? (i := 5) rfl))) (ty := (.array .byte)) (by decide)
                      have F507_coder : Fld Z h507 b507 "java/lang/String" "coder" "B" (.int (0 : Int32)) := D507 (Or.inr (hw _ (List.mem_of_getElem? (i := 6) rfl))) (ty := .byte) (by decide)
                      refine o_dup (pc := 335) X507 hx (hb hby at_335) rfl ?_
                      refine o_aload (v := (.ref b482)) (pc := 336) X507 hx (hb hby at_336) rfl rfl ?_
                      refine o_callN (pc := 338) X507 hx hZ (y := (⟨"java/lang/String", "<init>", "([C)V"⟩ : MethodName)) (a := b507) (argsL := [(.ref b482)]) (rest := [(.ref b507)]) rfl hown (hw _ (List.mem_of_getElem? (i := 227) rfl)) (hw _ (List.mem_of_getElem? (i := 228) rfl)) (hw _ (List.mem_of_getElem? (i := 2) rfl)) (hw _ (List.mem_of_getElem? (i := 229) rfl)) (by decide) (rmSCL l Z a0 hw [] b507 b482 k482 cs (wd10.set ((p2 &&& (2147483647 : Int32)) % (10 : Int32)).toNatClampNeg (p3 &&& (255 : Int32))) (10 : Int32) h507 n0 O508 A507 F507_coder F507_value (Nat.le_trans (o_n0 O506) g507) (V505.ext E507) SC hcs (by rw [List.length_set]; rfl) (by decide) (o_setle o_we10 _ p3) (by decide) (by decide)) e507 (by rw [hml]; rfl) (lenOf o_pd27 rfl) (has := rfl) (hst := rfl) (W := 1) (Nat.le_of_ble_eq_true rfl) (hb hby at_338) (by decide) (by decide) (by decide) (by decide) fun v509 T509 h509 L509 X509 e509 q509 => ?_
                      obtain ⟨rfl, N509q, K509, Fc509, d509, k509, g509, Fv509, V509⟩ := q509
                      have N509 := Fr.app N505 N509q
                      have VL509 : Arv Z h509 d509 k509 .byte (10 : Int32) (((wd10.set ((p2 &&& (2147483647 : Int32)) % (10 : Int32)).toNatClampNeg (p3 &&& (255 : Int32))).map bt1).map Value.int) (.int 0) := by rw [List.map_map]; exact V509
                      have O510 := O508.keep K509 (allS (Nat.le_trans (o_n0 O506) g507) all0)
                      have B510 := B508.keep K509 (allS (Safe.ext E507 B506.chv (Safe.new g507)) all0)
                      show Go p e below T509 (mkF m 341 #[.val (.int p1), .val (.int p2), .val (.int p3), .val (.int p4), .val (.int p5), .val (.int ((p1 &&& (2147483647 : Int32)) % (12 : Int32))), .val (.int (p3 &&& (255 : Int32))), .val (.int (p2 &&& (2147483647 : Int32))), .unset, .val (.int (1 : Int32)), .val (.ref b482), .val (.int ((p2 &&& (2147483647 : Int32)) % (10 : Int32)))] [(.ref b507)]) _
                      refine o_astore (l' := #[.val (.int p1), .val (.int p2), .val (.int p3), .val (.int p4), .val (.int p5), .val (.int ((p1 &&& (2147483647 : Int32)) % (12 : Int32))), .val (.int (p3 &&& (255 : Int32))), .val (.int (p2 &&& (2147483647 : Int32))), .val (.ref b507), .val (.int (1 : Int32)), .val (.ref b482), .val (.int ((p2 &&& (2147483647 : Int32)) % (10 : Int32)))]) (pc := 341) X509 hx (hb hby at_341) rfl rfl ?_
                      refine o_goto (pc := 343) X509 hx 648 (hb hby at_343) (by decide) (by decide) ?_
                      show Go p e below T509 (mkF m 648 #[.val (.int p1), .val (.int p2), .val (.int p3), .val (.int p4), .val (.int p5), .val (.int ((p1 &&& (2147483647 : Int32)) % (12 : Int32))), .val (.int (p3 &&& (255 : Int32))), .val (.int (p2 &&& (2147483647 : Int32))), .val (.ref b507), .val (.int (1 : Int32)), .val (.ref b482), .val (.int ((p2 &&& (2147483647 : Int32)) % (10 : Int32)))] []) _
                      exact tl10 l Z a0 hw u w cs b507 d509 k509 ((wd10.set ((p2 &&& (2147483647 : Int32)) % (10 : Int32)).toNatClampNeg (p3 &&& (255 : Int32))).map bt1) (1 : Int32) h509 n0 (Or.inr (Or.inr ⟨_, rfl⟩)) hx hby hml hret hlk hh hTK hBe (X509.more (by decide) (by decide)) e509 B510 hZ hown O510 N509 (ThS.keep K509 (nsS A507.nostat ns0) (((((((((((((HT.ext E482).wr W484).wr W486).wr W488).wr W490).wr W492).wr W494).wr W496).wr W498).wr W500).wr W502).wr W505).ext E507)) hst SU SW hu hw2 SC hcs (A507.keep K509) Fc509 Fv509 VL509 (by rw [List.length_map, List.length_set]; rfl) (if_pos ((o_word wd10 o_wd10 _ ix2 p3).mpr hc504))
                    · skip
                      refine o_icmpYes (pc := 315) X502 hx 322 (hb hby at_315) (feq hc504).2 (by decide) (by decide) ?_
                      refine o_iconst (pc := 322) X502 hx (0 : Int32) (hb hby at_322) rfl ?_
                      refine o_istore (l' := #[.val (.int p1), .val (.int p2), .val (.int p3), .val (.int p4), .val (.int p5), .val (.int ((p1 &&& (2147483647 : Int32)) % (12 : Int32))), .val (.int (p3 &&& (255 : Int32))), .val (.int (p2 &&& (2147483647 : Int32))), .unset, .val (.int (0 : Int32)), .val (.ref b482), .val (.int ((p2 &&& (2147483647 : Int32)) % (10 : Int32)))]) (pc := 323) X502 hx (hb hby at_323) rfl ?_
                      refine o_aload (v := (.ref b482)) (pc := 325) X502 hx (hb hby at_325) rfl rfl ?_
                      refine o_iload (v := ((p2 &&& (2147483647 : Int32)) % (10 : Int32))) (pc := 327) X502 hx (hb hby at_327) rfl ?_
                      refine o_iload (v := (p3 &&& (255 : Int32))) (pc := 329) X502 hx (hb hby at_329) rfl ?_
                      refine o_castore (pc := 331) X502 hx hZ e502 VW ix1 _ rfl (by rw [List.length_map]; exact ix2) (hb hby at_331) fun T511 h511 X511 e511 W511 V511 => ?_
                      rw [o_narc, ← List.map_set] at V511
                      have N511 := Fr.snoc X511 N502 (Nat.le_trans (o_n0 O0) g482)
                      have O512 := O503.wr W511 (Nat.le_trans (o_n0 O0) g482)
                      have B512 := B503.wr W511 (Safe.arv hZ0.alike VW (by decide))
                      refine o_new (pc := 332) X511 hx hZ hown (hw _ (List.mem_of_getElem? (i := 226) rfl)) (hw _ (List.mem_of_getElem? (i := 3) rfl)) (hw _ (List.mem_of_getElem? (i := 2) rfl)) e511 (hb hby at_332) (by decide) (by decide) fun T513 h513 b513 X513 e513 g513 E513 A513 D513 U513 => ?_
                      have O514 := O512.ext E513
                      have B514 := B512.ext E513
                      have F513_value : Fld Z h513 b513 "java/lang/String" "value" "[B" .null := D513 (Or.inr (hw _ (List.mem_of_getElem? (i := 5) rfl))) (ty := (.array .byte)) (by decide)
                      have F513_coder : Fld Z h513 b513 "java/lang/String" "coder" "B" (.int (0 : Int32)) := D513 (Or.inr (hw _ (List.mem_of_getElem? (i := 6) rfl))) (ty := .byte) (by decide)
                      refine o_dup (pc := 335) X513 hx (hb hby at_335) rfl ?_
                      refine o_aload (v := (.ref b482)) (pc := 336) X513 hx (hb hby at_336) rfl rfl ?_
                      refine o_callN (pc := 338) X513 hx hZ (y := (⟨"java/lang/String", "<init>", "([C)V"⟩ : MethodName)) (a := b513) (argsL := [(.ref b482)]) (rest := [(.ref b513)]) rfl hown (hw _ (List.mem_of_getElem? (i := 227) rfl)) (hw _ (List.mem_of_getElem? (i := 228) rfl)) (hw _ (List.mem_of_getElem? (i := 2) rfl)) (hw _ (List.mem_of_getElem? (i := 229) rfl)) (by decide) (rmSCL l Z a0 hw [] b513 b482 k482 cs (wd10.set ((p2 &&& (2147483647 : Int32)) % (10 : Int32)).toNatClampNeg (p3 &&& (255 : Int32))) (10 : Int32) h513 n0 O514 A513 F513_coder F513_value (Nat.le_trans (o_n0 O512) g513) (V511.ext E513) SC hcs (by rw [List.length_set]; rfl) (by decide) (o_setle o_we10 _ p3) (by decide) (by decide)) e513 (by rw [hml]; rfl) (lenOf o_pd27 rfl) (has := rfl) (hst := rfl) (W := 1) (Nat.le_of_ble_eq_true rfl) (hb hby at_338) (by decide) (by decide) (by decide) (by decide) fun v515 T515 h515 L515 X515 e515 q515 => ?_
                      obtain ⟨rfl, N515q, K515, Fc515, d515, k515, g515, Fv515, V515⟩ := q515
                      have N515 := Fr.app N511 N515q
                      have VL515 : Arv Z h515 d515 k515 .byte (10 : Int32) (((wd10.set ((p2 &&& (2147483647 : Int32)) % (10 : Int32)).toNatClampNeg (p3 &&& (255 : Int32))).map bt1).map Value.int) (.int 0) := by rw [List.map_map]; exact V515
                      have O516 := O514.keep K515 (allS (Nat.le_trans (o_n0 O512) g513) all0)
                      have B516 := B514.keep K515 (allS (Safe.ext E513 B512.chv (Safe.new g513)) all0)
                      show Go p e below T515 (mkF m 341 #[.val (.int p1), .val (.int p2), .val (.int p3), .val (.int p4), .val (.int p5), .val (.int ((p1 &&& (2147483647 : Int32)) % (12 : Int32))), .val (.int (p3 &&& (255 : Int32))), .val (.int (p2 &&& (2147483647 : Int32))), .unset, .val (.int (0 : Int32)), .val (.ref b482), .val (.int ((p2 &&& (2147483647 : Int32)) % (10 : Int32)))] [(.ref b513)]) _
                      refine o_astore (l' := #[.val (.int p1), .val (.int p2), .val (.int p3), .val (.int p4), .val (.int p5), .val (.int ((p1 &&& (2147483647 : Int32)) % (12 : Int32))), .val (.int (p3 &&& (255 : Int32))), .val (.int (p2 &&& (2147483647 : Int32))), .val (.ref b513), .val (.int (0 : Int32)), .val (.ref b482), .val (.int ((p2 &&& (2147483647 : Int32)) % (10 : Int32)))]) (pc := 341) X515 hx (hb hby at_341) rfl rfl ?_
                      refine o_goto (pc := 343) X515 hx 648 (hb hby at_343) (by decide) (by decide) ?_
                      show Go p e below T515 (mkF m 648 #[.val (.int p1), .val (.int p2), .val (.int p3), .val (.int p4), .val (.int p5), .val (.int ((p1 &&& (2147483647 : Int32)) % (12 : Int32))), .val (.int (p3 &&& (255 : Int32))), .val (.int (p2 &&& (2147483647 : Int32))), .val (.ref b513), .val (.int (0 : Int32)), .val (.ref b482), .val (.int ((p2 &&& (2147483647 : Int32)) % (10 : Int32)))] []) _
                      exact tl10 l Z a0 hw u w cs b513 d515 k515 ((wd10.set ((p2 &&& (2147483647 : Int32)) % (10 : Int32)).toNatClampNeg (p3 &&& (255 : Int32))).map bt1) (0 : Int32) h515 n0 (Or.inr (Or.inr ⟨_, rfl⟩)) hx hby hml hret hlk hh hTK hBe (X515.more (by decide) (by decide)) e515 B516 hZ hown O516 N515 (ThS.keep K515 (nsS A513.nostat ns0) (((((((((((((HT.ext E482).wr W484).wr W486).wr W488).wr W490).wr W492).wr W494).wr W496).wr W498).wr W500).wr W502).wr W511).ext E513)) hst SU SW hu hw2 SC hcs (A513.keep K515) Fc515 Fv515 VL515 (by rw [List.length_map, List.length_set]; rfl) (if_neg fun q => hc504 ((o_word wd10 o_wd10 _ ix2 p3).mp q))
                  · skip
                    refine o_icmpYes (pc := 238) X0 hx 346 (hb hby at_238) (feq hc481).2 (by decide) (by decide) ?_
                    refine o_iload (v := ((p1 &&& (2147483647 : Int32)) % (12 : Int32))) (pc := 346) X0 hx (hb hby at_346) rfl ?_
                    refine o_bipush (pc := 348) X0 hx (9 : Int32) (hb hby at_348) rfl ?_
                    by_cases hc517 : ((p1 &&& (2147483647 : Int32)) % (12 : Int32)) = (9 : Int32)
                    · skip
                      refine o_icmpNo (pc := 350) X0 hx (hb hby at_350) (teq hc517).2 ?_
                      refine o_bipush (pc := 353) X0 hx (17 : Int32) (hb hby at_353) rfl ?_
                      refine o_newP (pc := 355) X0 hx hZ (hw _ (List.mem_of_getElem? (i := 225) rfl)) e0 (hb hby at_355) (by decide) 17 (by decide) (by decide) (by decide) (by decide) fun T518 h518 b518 k518 X518 e518 g518 E518 V518 => ?_
                      have O519 := O0.ext E518
                      have B519 := B0.ext E518
                      have V518p : Arv Z h518 b518 k518 .char (17 : Int32) [(.int (0 : Int32)), (.int (0 : Int32)), (.int (0 : Int32)), (.int (0 : Int32)), (.int (0 : Int32)), (.int (0 : Int32)), (.int (0 : Int32)), (.int (0 : Int32)), (.int (0 : Int32)), (.int (0 : Int32)), (.int (0 : Int32)), (.int (0 : Int32)), (.int (0 : Int32)), (.int (0 : Int32)), (.int (0 : Int32)), (.int (0 : Int32)), (.int (0 : Int32))] (.int (0 : Int32)) := V518.pad (pad_rep [] (.int (0 : Int32)) 17)
                      refine o_dup (pc := 357) X518 hx (hb hby at_357) rfl ?_
                      refine o_iconst (pc := 358) X518 hx (0 : Int32) (hb hby at_358) rfl ?_
                      refine o_bipush (pc := 359) X518 hx (108 : Int32) (hb hby at_359) rfl ?_
                      refine o_castore (pc := 361) X518 hx hZ e518 V518p ⟨by decide, by decide⟩ 0 rfl (Nat.le_of_ble_eq_true rfl) (hb hby at_361) fun T520 h520 X520 e520 W520 V520 => ?_
                      rw [show nar .char (108 : Int32) = (108 : Int32) by decide] at V520
                      have N520 := Fr.snoc X520 N0 (Nat.le_trans (o_n0 O0) g518)
                      have O521 := O519.wr W520 (Nat.le_trans (o_n0 O0) g518)
                      have B521 := B519.wr W520 (Safe.arv hZ0.alike V518p (by decide))
                      refine o_dup (pc := 362) X520 hx (hb hby at_362) rfl ?_
                      refine o_iconst (pc := 363) X520 hx (1 : Int32) (hb hby at_363) rfl ?_
                      refine o_bipush (pc := 364) X520 hx (111 : Int32) (hb hby at_364) rfl ?_
                      refine o_castore (pc := 366) X520 hx hZ e520 V520 ⟨by decide, by decide⟩ 1 rfl (Nat.le_of_ble_eq_true rfl) (hb hby at_366) fun T522 h522 X522 e522 W522 V522 => ?_
                      rw [show nar .char (111 : Int32) = (111 : Int32) by decide] at V522
                      have N522 := Fr.snoc X522 N520 (Nat.le_trans (o_n0 O0) g518)
                      have O523 := O521.wr W522 (Nat.le_trans (o_n0 O0) g518)
                      have B523 := B521.wr W522 (Safe.arv hZ0.alike V520 (by decide))
                      refine o_dup (pc := 367) X522 hx (hb hby at_367) rfl ?_
                      refine o_iconst (pc := 368) X522 hx (2 : Int32) (hb hby at_368) rfl ?_
                      refine o_bipush (pc := 369) X522 hx (99 : Int32) (hb hby at_369) rfl ?_
                      refine o_castore (pc := 371) X522 hx hZ e522 V522 ⟨by decide, by decide⟩ 2 rfl (Nat.le_of_ble_eq_true rfl) (hb hby at_371) fun T524 h524 X524 e524 W524 V524 => ?_
                      rw [show nar .char (99 : Int32) = (99 : Int32) by decide] at V524
                      have N524 := Fr.snoc X524 N522 (Nat.le_trans (o_n0 O0) g518)
                      have O525 := O523.wr W524 (Nat.le_trans (o_n0 O0) g518)
                      have B525 := B523.wr W524 (Safe.arv hZ0.alike V522 (by decide))
                      refine o_dup (pc := 372) X524 hx (hb hby at_372) rfl ?_
                      refine o_iconst (pc := 373) X524 hx (3 : Int32) (hb hby at_373) rfl ?_
                      refine o_bipush (pc := 374) X524 hx (107 : Int32) (hb hby at_374) rfl ?_
                      refine o_castore (pc := 376) X524 hx hZ e524 V524 ⟨by decide, by decide⟩ 3 rfl (Nat.le_of_ble_eq_true rfl) (hb hby at_376) fun T526 h526 X526 e526 W526 V526 => ?_
                      rw [show nar .char (107 : Int32) = (107 : Int32) by decide] at V526
                      have N526 := Fr.snoc X526 N524 (Nat.le_trans (o_n0 O0) g518)
                      have O527 := O525.wr W526 (Nat.le_trans (o_n0 O0) g518)
                      have B527 := B525.wr W526 (Safe.arv hZ0.alike V524 (by decide))
                      refine o_dup (pc := 377) X526 hx (hb hby at_377) rfl ?_
                      refine o_iconst (pc := 378) X526 hx (4 : Int32) (hb hby at_378) rfl ?_
                      refine o_bipush (pc := 379) X526 hx (32 : Int32) (hb hby at_379) rfl ?_
                      refine o_castore (pc := 381) X526 hx hZ e526 V526 ⟨by decide, by decide⟩ 4 rfl (Nat.le_of_ble_eq_true rfl) (hb hby at_381) fun T528 h528 X528 e528 W528 V528 => ?_
                      rw [show nar .char (32 : Int32) = (32 : Int32) by decide] at V528
                      have N528 := Fr.snoc X528 N526 (Nat.le_trans (o_n0 O0) g518)
                      have O529 := O527.wr W528 (Nat.le_trans (o_n0 O0) g518)
                      have B529 := B527.wr W528 (Safe.arv hZ0.alike V526 (by decide))
                      refine o_dup (pc := 382) X528 hx (hb hby at_382) rfl ?_
                      refine o_iconst (pc := 383) X528 hx (5 : Int32) (hb hby at_383) rfl ?_
                      refine o_bipush (pc := 384) X528 hx (119 : Int32) (hb hby at_384) rfl ?_
                      refine o_castore (pc := 386) X528 hx hZ e528 V528 ⟨by decide, by decide⟩ 5 rfl (Nat.le_of_ble_eq_true rfl) (hb hby at_386) fun T530 h530 X530 e530 W530 V530 => ?_
                      rw [show nar .char (119 : Int32) = (119 : Int32) by decide] at V530
                      have N530 := Fr.snoc X530 N528 (Nat.le_trans (o_n0 O0) g518)
                      have O531 := O529.wr W530 (Nat.le_trans (o_n0 O0) g518)
                      have B531 := B529.wr W530 (Safe.arv hZ0.alike V528 (by decide))
                      refine o_dup (pc := 387) X530 hx (hb hby at_387) rfl ?_
                      refine o_bipush (pc := 388) X530 hx (6 : Int32) (hb hby at_388) rfl ?_
                      refine o_bipush (pc := 390) X530 hx (97 : Int32) (hb hby at_390) rfl ?_
                      refine o_castore (pc := 392) X530 hx hZ e530 V530 ⟨by decide, by decide⟩ 6 rfl (Nat.le_of_ble_eq_true rfl) (hb hby at_392) fun T532 h532 X532 e532 W532 V532 => ?_
                      rw [show nar .char (97 : Int32) = (97 : Int32) by decide] at V532
                      have N532 := Fr.snoc X532 N530 (Nat.le_trans (o_n0 O0) g518)
                      have O533 := O531.wr W532 (Nat.le_trans (o_n0 O0) g518)
                      have B533 := B531.wr W532 (Safe.arv hZ0.alike V530 (by decide))
                      refine o_dup (pc := 393) X532 hx (hb hby at_393) rfl ?_
                      refine o_bipush (pc := 394) X532 hx (7 : Int32) (hb hby at_394) rfl ?_
                      refine o_bipush (pc := 396) X532 hx (105 : Int32) (hb hby at_396) rfl ?_
                      refine o_castore (pc := 398) X532 hx hZ e532 V532 ⟨by decide, by decide⟩ 7 rfl (Nat.le_of_ble_eq_true rfl) (hb hby at_398) fun T534 h534 X534 e534 W534 V534 => ?_
                      rw [show nar .char (105 : Int32) = (105 : Int32) by decide] at V534
                      have N534 := Fr.snoc X534 N532 (Nat.le_trans (o_n0 O0) g518)
                      have O535 := O533.wr W534 (Nat.le_trans (o_n0 O0) g518)
                      have B535 := B533.wr W534 (Safe.arv hZ0.alike V532 (by decide))
                      refine o_dup (pc := 399) X534 hx (hb hby at_399) rfl ?_
                      refine o_bipush (pc := 400) X534 hx (8 : Int32) (hb hby at_400) rfl ?_
                      refine o_bipush (pc := 402) X534 hx (116 : Int32) (hb hby at_402) rfl ?_
                      refine o_castore (pc := 404) X534 hx hZ e534 V534 ⟨by decide, by decide⟩ 8 rfl (Nat.le_of_ble_eq_true rfl) (hb hby at_404) fun T536 h536 X536 e536 W536 V536 => ?_
                      rw [show nar .char (116 : Int32) = (116 : Int32) by decide] at V536
                      have N536 := Fr.snoc X536 N534 (Nat.le_trans (o_n0 O0) g518)
                      have O537 := O535.wr W536 (Nat.le_trans (o_n0 O0) g518)
                      have B537 := B535.wr W536 (Safe.arv hZ0.alike V534 (by decide))
                      refine o_dup (pc := 405) X536 hx (hb hby at_405) rfl ?_
                      refine o_bipush (pc := 406) X536 hx (9 : Int32) (hb hby at_406) rfl ?_
                      refine o_bipush (pc := 408) X536 hx (32 : Int32) (hb hby at_408) rfl ?_
                      refine o_castore (pc := 410) X536 hx hZ e536 V536 ⟨by decide, by decide⟩ 9 rfl (Nat.le_of_ble_eq_true rfl) (hb hby at_410) fun T538 h538 X538 e538 W538 V538 => ?_
                      rw [show nar .char (32 : Int32) = (32 : Int32) by decide] at V538
                      have N538 := Fr.snoc X538 N536 (Nat.le_trans (o_n0 O0) g518)
                      have O539 := O537.wr W538 (Nat.le_trans (o_n0 O0) g518)
                      have B539 := B537.wr W538 (Safe.arv hZ0.alike V536 (by decide))
                      refine o_dup (pc := 411) X538 hx (hb hby at_411) rfl ?_
                      refine o_bipush (pc := 412) X538 hx (10 : Int32) (hb hby at_412) rfl ?_
                      refine o_bipush (pc := 414) X538 hx (116 : Int32) (hb hby at_414) rfl ?_
                      refine o_castore (pc := 416) X538 hx hZ e538 V538 ⟨by decide, by decide⟩ 10 rfl (Nat.le_of_ble_eq_true rfl) (hb hby at_416) fun T540 h540 X540 e540 W540 V540 => ?_
                      rw [show nar .char (116 : Int32) = (116 : Int32) by decide] at V540
                      have N540 := Fr.snoc X540 N538 (Nat.le_trans (o_n0 O0) g518)
                      have O541 := O539.wr W540 (Nat.le_trans (o_n0 O0) g518)
                      have B541 := B539.wr W540 (Safe.arv hZ0.alike V538 (by decide))
                      refine o_dup (pc := 417) X540 hx (hb hby at_417) rfl ?_
                      refine o_bipush (pc := 418) X540 hx (11 : Int32) (hb hby at_418) rfl ?_
                      refine o_bipush (pc := 420) X540 hx (105 : Int32) (hb hby at_420) rfl ?_
                      refine o_castore (pc := 422) X540 hx hZ e540 V540 ⟨by decide, by decide⟩ 11 rfl (Nat.le_of_ble_eq_true rfl) (hb hby at_422) fun T542 h542 X542 e542 W542 V542 => ?_
                      rw [show nar .char (105 : Int32) = (105 : Int32) by decide] at V542
                      have N542 := Fr.snoc X542 N540 (Nat.le_trans (o_n0 O0) g518)
                      have O543 := O541.wr W542 (Nat.le_trans (o_n0 O0) g518)
                      have B543 := B541.wr W542 (Safe.arv hZ0.alike V540 (by decide))
                      refine o_dup (pc := 423) X542 hx (hb hby at_423) rfl ?_
                      refine o_bipush (pc := 424) X542 hx (12 : Int32) (hb hby at_424) rfl ?_
                      refine o_bipush (pc := 426) X542 hx (109 : Int32) (hb hby at_426) rfl ?_
                      refine o_castore (pc := 428) X542 hx hZ e542 V542 ⟨by decide, by decide⟩ 12 rfl (Nat.le_of_ble_eq_true rfl) (hb hby at_428) fun T544 h544 X544 e544 W544 V544 => ?_
                      rw [show nar .char (109 : Int32) = (109 : Int32) by decide] at V544
                      have N544 := Fr.snoc X544 N542 (Nat.le_trans (o_n0 O0) g518)
                      have O545 := O543.wr W544 (Nat.le_trans (o_n0 O0) g518)
                      have B545 := B543.wr W544 (Safe.arv hZ0.alike V542 (by decide))
                      refine o_dup (pc := 429) X544 hx (hb hby at_429) rfl ?_
                      refine o_bipush (pc := 430) X544 hx (13 : Int32) (hb hby at_430) rfl ?_
                      refine o_bipush (pc := 432) X544 hx (101 : Int32) (hb hby at_432) rfl ?_
                      refine o_castore (pc := 434) X544 hx hZ e544 V544 ⟨by decide, by decide⟩ 13 rfl (Nat.le_of_ble_eq_true rfl) (hb hby at_434) fun T546 h546 X546 e546 W546 V546 => ?_
                      rw [show nar .char (101 : Int32) = (101 : Int32) by decide] at V546
                      have N546 := Fr.snoc X546 N544 (Nat.le_trans (o_n0 O0) g518)
                      have O547 := O545.wr W546 (Nat.le_trans (o_n0 O0) g518)
                      have B547 := B545.wr W546 (Safe.arv hZ0.alike V544 (by decide))
                      refine o_dup (pc := 435) X546 hx (hb hby at_435) rfl ?_
                      refine o_bipush (pc := 436) X546 hx (14 : Int32) (hb hby at_436) rfl ?_
                      refine o_bipush (pc := 438) X546 hx (111 : Int32) (hb hby at_438) rfl ?_
                      refine o_castore (pc := 440) X546 hx hZ e546 V546 ⟨by decide, by decide⟩ 14 rfl (Nat.le_of_ble_eq_true rfl) (hb hby at_440) fun T548 h548 X548 e548 W548 V548 => ?_
                      rw [show nar .char (111 : Int32) = (111 : Int32) by decide] at V548
                      have N548 := Fr.snoc X548 N546 (Nat.le_trans (o_n0 O0) g518)
                      have O549 := O547.wr W548 (Nat.le_trans (o_n0 O0) g518)
                      have B549 := B547.wr W548 (Safe.arv hZ0.alike V546 (by decide))
                      refine o_dup (pc := 441) X548 hx (hb hby at_441) rfl ?_
                      refine o_bipush (pc := 442) X548 hx (15 : Int32) (hb hby at_442) rfl ?_
                      refine o_bipush (pc := 444) X548 hx (117 : Int32) (hb hby at_444) rfl ?_
                      refine o_castore (pc := 446) X548 hx hZ e548 V548 ⟨by decide, by decide⟩ 15 rfl (Nat.le_of_ble_eq_true rfl) (hb hby at_446) fun T550 h550 X550 e550 W550 V550 => ?_
                      rw [show nar .char (117 : Int32) = (117 : Int32) by decide] at V550
                      have N550 := Fr.snoc X550 N548 (Nat.le_trans (o_n0 O0) g518)
                      have O551 := O549.wr W550 (Nat.le_trans (o_n0 O0) g518)
                      have B551 := B549.wr W550 (Safe.arv hZ0.alike V548 (by decide))
                      refine o_dup (pc := 447) X550 hx (hb hby at_447) rfl ?_
                      refine o_bipush (pc := 448) X550 hx (16 : Int32) (hb hby at_448) rfl ?_
                      refine o_bipush (pc := 450) X550 hx (116 : Int32) (hb hby at_450) rfl ?_
                      refine o_castore (pc := 452) X550 hx hZ e550 V550 ⟨by decide, by decide⟩ 16 rfl (Nat.le_of_ble_eq_true rfl) (hb hby at_452) fun T552 h552 X552 e552 W552 V552 => ?_
                      rw [show nar .char (116 : Int32) = (116 : Int32) by decide] at V552
                      have N552 := Fr.snoc X552 N550 (Nat.le_trans (o_n0 O0) g518)
                      have O553 := O551.wr W552 (Nat.le_trans (o_n0 O0) g518)
                      have B553 := B551.wr W552 (Safe.arv hZ0.alike V550 (by decide))
                      refine o_astore (l' := #[.val (.int p1), .val (.int p2), .val (.int p3), .val (.int p4), .val (.int p5), .val (.int ((p1 &&& (2147483647 : Int32)) % (12 : Int32))), .val (.int (p3 &&& (255 : Int32))), .val (.int (p2 &&& (2147483647 : Int32))), .unset, .unset, .val (.ref b518), .unset]) (pc := 453) X552 hx (hb hby at_453) rfl rfl ?_
                      refine o_iload (v := (p2 &&& (2147483647 : Int32))) (pc := 455) X552 hx (hb hby at_455) rfl ?_
                      refine o_bipush (pc := 457) X552 hx (17 : Int32) (hb hby at_457) rfl ?_
                      refine o_irem (pc := 459) X552 hx (hb hby at_459) (by decide) ?_
                      refine o_istore (l' := #[.val (.int p1), .val (.int p2), .val (.int p3), .val (.int p4), .val (.int p5), .val (.int ((p1 &&& (2147483647 : Int32)) % (12 : Int32))), .val (.int (p3 &&& (255 : Int32))), .val (.int (p2 &&& (2147483647 : Int32))), .unset, .unset, .val (.ref b518), .val (.int ((p2 &&& (2147483647 : Int32)) % (17 : Int32)))]) (pc := 460) X552 hx (hb hby at_460) rfl ?_
                      obtain ⟨ix1, ix2⟩ := remi17 p2
                      have VW : Arv Z h552 b518 k518 .char (17 : Int32) (wd17.map Value.int) (.int 0) := V552
                      refine o_aload (v := (.ref b518)) (pc := 462) X552 hx (hb hby at_462) rfl rfl ?_
                      refine o_iload (v := ((p2 &&& (2147483647 : Int32)) % (17 : Int32))) (pc := 464) X552 hx (hb hby at_464) rfl ?_
                      refine o_caload (v := (.int (wd17.getD ((p2 &&& (2147483647 : Int32)) % (17 : Int32)).toNatClampNeg 0))) (pc := 466) X552 hx hZ e552 VW ix1 (o_gd _ _) (hb hby at_466) ?_
                      refine o_iload (v := (p3 &&& (255 : Int32))) (pc := 467) X552 hx (hb hby at_467) rfl ?_
                      by_cases hc554 : (wd17.getD ((p2 &&& (2147483647 : Int32)) % (17 : Int32)).toNatClampNeg 0) = (p3 &&& (255 : Int32))
                      · skip
                        refine o_icmpNo (pc := 469) X552 hx (hb hby at_469) (teq hc554).2 ?_
                        refine o_iconst (pc := 472) X552 hx (1 : Int32) (hb hby at_472) rfl ?_
                        refine o_goto (pc := 473) X552 hx 477 (hb hby at_473) (by decide) (by decide) ?_
                        refine o_istore (l' := #[.val (.int p1), .val (.int p2), .val (.int p3), .val (.int p4), .val (.int p5), .val (.int ((p1 &&& (2147483647 : Int32)) % (12 : Int32))), .val (.int (p3 &&& (255 : Int32))), .val (.int (p2 &&& (2147483647 : Int32))), .unset, .val (.int (1 : Int32)), .val (.ref b518), .val (.int ((p2 &&& (2147483647 : Int32)) % (17 : Int32)))]) (pc := 477) X552 hx (hb hby at_477) rfl ?_
                        refine o_aload (v := (.ref b518)) (pc := 479) X552 hx (hb hby at_479) rfl rfl ?_
                        refine o_iload (v := ((p2 &&& (2147483647 : Int32)) % (17 : Int32))) (pc := 481) X552 hx (hb hby at_481) rfl ?_
                        refine o_iload (v := (p3 &&& (255 : Int32))) (pc := 483) X552 hx (hb hby at_483) rfl ?_
                        refine o_castore (pc := 485) X552 hx hZ e552 VW ix1 _ rfl (by rw [List.length_map]; exact ix2) (hb hby at_485) fun T555 h555 X555 e555 W555 V555 => ?_
                        rw [o_narc, ← List.map_set] at V555
                        have N555 := Fr.snoc X555 N552 (Nat.le_trans (o_n0 O0) g518)
                        have O556 := O553.wr W555 (Nat.le_trans (o_n0 O0) g518)
                        have B556 := B553.wr W555 (Safe.arv hZ0.alike VW (by decide))
                        refine o_new (pc := 486) X555 hx hZ hown (hw _ (List.mem_of_getElem? (i := 226) rfl)) (hw _ (List.mem_of_getElem? (i := 3) rfl)) (hw _ (List.mem_of_getElem? (i := 2) rfl)) e555 (hb hby at_486) (by decide) (by decide) fun T557 h557 b557 X557 e557 g557 E557 A557 D557 U557 => ?_
                        have O558 := O556.ext E557
                        have B558 := B556.ext E557
                        have F557_value : Fld Z h557 b557 "java/lang/String" "value" "[B" .null := D557 (Or.inr (hw _ (List.mem_of_getElem? (i := 5) rfl))) (ty := (.array .byte)) (by decide)
                        have F557_coder : Fld Z h557 b557 "java/lang/String" "coder" "B" (.int (0 : Int32)) := D557 (Or.inr (hw _ (List.mem_of_getElem? (i := 6) rfl))) (ty := .byte) (by decide)
                        refine o_dup (pc := 489) X557 hx (hb hby at_489) rfl ?_
                        refine o_aload (v := (.ref b518)) (pc := 490) X557 hx (hb hby at_490) rfl rfl ?_
                        refine o_callN (pc := 492) X557 hx hZ (y := (⟨"java/lang/String", "<init>", "([C)V"⟩ : MethodName)) (a := b557) (argsL := [(.ref b518)]) (rest := [(.ref b557)]) rfl hown (hw _ (List.mem_of_getElem? (i := 227) rfl)) (hw _ (List.mem_of_getElem? (i := 228) rfl)) (hw _ (List.mem_of_getElem? (i := 2) rfl)) (hw _ (List.mem_of_getElem? (i := 229) rfl)) (by decide) (rmSCL l Z a0 hw [] b557 b518 k518 cs (wd17.set ((p2 &&& (2147483647 : Int32)) % (17 : Int32)).toNatClampNeg (p3 &&& (255 : Int32))) (17 : Int32) h557 n0 O558 A557 F557_coder F557_value (Nat.le_trans (o_n0 O556) g557) (V555.ext E557) SC hcs (by rw [List.length_set]; rfl) (by decide) (o_setle o_we17 _ p3) (by decide) (by decide)) e557 (by rw [hml]; rfl) (lenOf o_pd27 rfl) (has := rfl) (hst := rfl) (W := 1) (Nat.le_of_ble_eq_true rfl) (hb hby at_492) (by decide) (by decide) (by decide) (by decide) fun v559 T559 h559 L559 X559 e559 q559 => ?_
                        obtain ⟨rfl, N559q, K559, Fc559, d559, k559, g559, Fv559, V559⟩ := q559
                        have N559 := Fr.app N555 N559q
                        have VL559 : Arv Z h559 d559 k559 .byte (17 : Int32) (((wd17.set ((p2 &&& (2147483647 : Int32)) % (17 : Int32)).toNatClampNeg (p3 &&& (255 : Int32))).map bt1).map Value.int) (.int 0) := by rw [List.map_map]; exact V559
                        have O560 := O558.keep K559 (allS (Nat.le_trans (o_n0 O556) g557) all0)
                        have B560 := B558.keep K559 (allS (Safe.ext E557 B556.chv (Safe.new g557)) all0)
                        show Go p e below T559 (mkF m 495 #[.val (.int p1), .val (.int p2), .val (.int p3), .val (.int p4), .val (.int p5), .val (.int ((p1 &&& (2147483647 : Int32)) % (12 : Int32))), .val (.int (p3 &&& (255 : Int32))), .val (.int (p2 &&& (2147483647 : Int32))), .unset, .val (.int (1 : Int32)), .val (.ref b518), .val (.int ((p2 &&& (2147483647 : Int32)) % (17 : Int32)))] [(.ref b557)]) _
                        refine o_astore (l' := #[.val (.int p1), .val (.int p2), .val (.int p3), .val (.int p4), .val (.int p5), .val (.int ((p1 &&& (2147483647 : Int32)) % (12 : Int32))), .val (.int (p3 &&& (255 : Int32))), .val (.int (p2 &&& (2147483647 : Int32))), .val (.ref b557), .val (.int (1 : Int32)), .val (.ref b518), .val (.int ((p2 &&& (2147483647 : Int32)) % (17 : Int32)))]) (pc := 495) X559 hx (hb hby at_495) rfl rfl ?_
                        refine o_goto (pc := 497) X559 hx 648 (hb hby at_497) (by decide) (by decide) ?_
                        show Go p e below T559 (mkF m 648 #[.val (.int p1), .val (.int p2), .val (.int p3), .val (.int p4), .val (.int p5), .val (.int ((p1 &&& (2147483647 : Int32)) % (12 : Int32))), .val (.int (p3 &&& (255 : Int32))), .val (.int (p2 &&& (2147483647 : Int32))), .val (.ref b557), .val (.int (1 : Int32)), .val (.ref b518), .val (.int ((p2 &&& (2147483647 : Int32)) % (17 : Int32)))] []) _
                        exact tl17 l Z a0 hw u w cs b557 d559 k559 ((wd17.set ((p2 &&& (2147483647 : Int32)) % (17 : Int32)).toNatClampNeg (p3 &&& (255 : Int32))).map bt1) (1 : Int32) h559 n0 (Or.inr (Or.inr ⟨_, rfl⟩)) hx hby hml hret hlk hh hTK hBe (X559.more (by decide) (by decide)) e559 B560 hZ hown O560 N559 (ThS.keep K559 (nsS A557.nostat ns0) ((((((((((((((((((((HT.ext E518).wr W520).wr W522).wr W524).wr W526).wr W528).wr W530).wr W532).wr W534).wr W536).wr W538).wr W540).wr W542).wr W544).wr W546).wr W548).wr W550).wr W552).wr W555).ext E557)) hst SU SW hu hw2 SC hcs (A557.keep K559) Fc559 Fv559 VL559 (by rw [List.length_map, List.length_set]; rfl) (if_pos ((o_word wd17 o_wd17 _ ix2 p3).mpr hc554))
                      · skip
                        refine o_icmpYes (pc := 469) X552 hx 476 (hb hby at_469) (feq hc554).2 (by decide) (by decide) ?_
                        refine o_iconst (pc := 476) X552 hx (0 : Int32) (hb hby at_476) rfl ?_
                        refine o_istore (l' := #[.val (.int p1), .val (.int p2), .val (.int p3), .val (.int p4), .val (.int p5), .val (.int ((p1 &&& (2147483647 : Int32)) % (12 : Int32))), .val (.int (p3 &&& (255 : Int32))), .val (.int (p2 &&& (2147483647 : Int32))), .unset, .val (.int (0 : Int32)), .val (.ref b518), .val (.int ((p2 &&& (2147483647 : Int32)) % (17 : Int32)))]) (pc := 477) X552 hx (hb hby at_477) rfl ?_
                        refine o_aload (v := (.ref b518)) (pc := 479) X552 hx (hb hby at_479) rfl rfl ?_
                        refine o_iload (v := ((p2 &&& (2147483647 : Int32)) % (17 : Int32))) (pc := 481) X552 hx (hb hby at_481) rfl ?_
                        refine o_iload (v := (p3 &&& (255 : Int32))) (pc := 483) X552 hx (hb hby at_483) rfl ?_
                        refine o_castore (pc := 485) X552 hx hZ e552 VW ix1 _ rfl (by rw [List.length_map]; exact ix2) (hb hby at_485) fun T561 h561 X561 e561 W561 V561 => ?_
                        rw [o_narc, ← List.map_set] at V561
                        have N561 := Fr.snoc X561 N552 (Nat.le_trans (o_n0 O0) g518)
                        have O562 := O553.wr W561 (Nat.le_trans (o_n0 O0) g518)
                        have B562 := B553.wr W561 (Safe.arv hZ0.alike VW (by decide))
                        refine o_new (pc := 486) X561 hx hZ hown (hw _ (List.mem_of_getElem? (i := 226) rfl)) (hw _ (List.mem_of_getElem? (i := 3) rfl)) (hw _ (List.mem_of_getElem? (i := 2) rfl)) e561 (hb hby at_486) (by decide) (by decide) fun T563 h563 b563 X563 e563 g563 E563 A563 D563 U563 => ?_
                        have O564 := O562.ext E563
                        have B564 := B562.ext E563
                        have F563_value : Fld Z h563 b563 "java/lang/String" "value" "[B" .null := D563 (Or.inr (hw _ (List.mem_of_getElem? (i := 5) rfl))) (ty := (.array .byte)) (by decide)
                        have F563_coder : Fld Z h563 b563 "java/lang/String" "coder" "B" (.int (0 : Int32)) := D563 (Or.inr (hw _ (List.mem_of_getElem? (i := 6) rfl))) (ty := .byte) (by decide)
                        refine o_dup (pc := 489) X563 hx (hb hby at_489) rfl ?_
                        refine o_aload (v := (.ref b518)) (pc := 490) X563 hx (hb hby at_490) rfl rfl ?_
                        refine o_callN (pc := 492) X563 hx hZ (y := (⟨"java/lang/String", "<init>", "([C)V"⟩ : MethodName)) (a := b563) (argsL := [(.ref b518)]) (rest := [(.ref b563)]) rfl hown (hw _ (List.mem_of_getElem? (i := 227) rfl)) (hw _ (List.mem_of_getElem? (i := 228) rfl)) (hw _ (List.mem_of_getElem? (i := 2) rfl)) (hw _ (List.mem_of_getElem? (i := 229) rfl)) (by decide) (rmSCL l Z a0 hw [] b563 b518 k518 cs (wd17.set ((p2 &&& (2147483647 : Int32)) % (17 : Int32)).toNatClampNeg (p3 &&& (255 : Int32))) (17 : Int32) h563 n0 O564 A563 F563_coder F563_value (Nat.le_trans (o_n0 O562) g563) (V561.ext E563) SC hcs (by rw [List.length_set]; rfl) (by decide) (o_setle o_we17 _ p3) (by decide) (by decide)) e563 (by rw [hml]; rfl) (lenOf o_pd27 rfl) (has := rfl) (hst := rfl) (W := 1) (Nat.le_of_ble_eq_true rfl) (hb hby at_492) (by decide) (by decide) (by decide) (by decide) fun v565 T565 h565 L565 X565 e565 q565 => ?_
                        obtain ⟨rfl, N565q, K565, Fc565, d565, k565, g565, Fv565, V565⟩ := q565
                        have N565 := Fr.app N561 N565q
                        have VL565 : Arv Z h565 d565 k565 .byte (17 : Int32) (((wd17.set ((p2 &&& (2147483647 : Int32)) % (17 : Int32)).toNatClampNeg (p3 &&& (255 : Int32))).map bt1).map Value.int) (.int 0) := by rw [List.map_map]; exact V565
                        have O566 := O564.keep K565 (allS (Nat.le_trans (o_n0 O562) g563) all0)
                        have B566 := B564.keep K565 (allS (Safe.ext E563 B562.chv (Safe.new g563)) all0)
                        show Go p e below T565 (mkF m 495 #[.val (.int p1), .val (.int p2), .val (.int p3), .val (.int p4), .val (.int p5), .val (.int ((p1 &&& (2147483647 : Int32)) % (12 : Int32))), .val (.int (p3 &&& (255 : Int32))), .val (.int (p2 &&& (2147483647 : Int32))), .unset, .val (.int (0 : Int32)), .val (.ref b518), .val (.int ((p2 &&& (2147483647 : Int32)) % (17 : Int32)))] [(.ref b563)]) _
                        refine o_astore (l' := #[.val (.int p1), .val (.int p2), .val (.int p3), .val (.int p4), .val (.int p5), .val (.int ((p1 &&& (2147483647 : Int32)) % (12 : Int32))), .val (.int (p3 &&& (255 : Int32))), .val (.int (p2 &&& (2147483647 : Int32))), .val (.ref b563), .val (.int (0 : Int32)), .val (.ref b518), .val (.int ((p2 &&& (2147483647 : Int32)) % (17 : Int32)))]) (pc := 495) X565 hx (hb hby at_495) rfl rfl ?_
                        refine o_goto (pc := 497) X565 hx 648 (hb hby at_497) (by decide) (by decide) ?_
                        show Go p e below T565 (mkF m 648 #[.val (.int p1), .val (.int p2), .val (.int p3), .val (.int p4), .val (.int p5), .val (.int ((p1 &&& (2147483647 : Int32)) % (12 : Int32))), .val (.int (p3 &&& (255 : Int32))), .val (.int (p2 &&& (2147483647 : Int32))), .val (.ref b563), .val (.int (0 : Int32)), .val (.ref b518), .val (.int ((p2 &&& (2147483647 : Int32)) % (17 : Int32)))] []) _
                        exact tl17 l Z a0 hw u w cs b563 d565 k565 ((wd17.set ((p2 &&& (2147483647 : Int32)) % (17 : Int32)).toNatClampNeg (p3 &&& (255 : Int32))).map bt1) (0 : Int32) h565 n0 (Or.inr (Or.inr ⟨_, rfl⟩)) hx hby hml hret hlk hh hTK hBe (X565.more (by decide) (by decide)) e565 B566 hZ hown O566 N565 (ThS.keep K565 (nsS A563.nostat ns0) ((((((((((((((((((((HT.ext E518).wr W520).wr W522).wr W524).wr W526).wr W528).wr W530).wr W532).wr W534).wr W536).wr W538).wr W540).wr W542).wr W544).wr W546).wr W548).wr W550).wr W552).wr W561).ext E563)) hst SU SW hu hw2 SC hcs (A563.keep K565) Fc565 Fv565 VL565 (by rw [List.length_map, List.length_set]; rfl) (if_neg fun q => hc554 ((o_word wd17 o_wd17 _ ix2 p3).mp q))
                    · skip
                      refine o_icmpYes (pc := 350) X0 hx 500 (hb hby at_350) (feq hc517).2 (by decide) (by decide) ?_
                      refine o_iload (v := ((p1 &&& (2147483647 : Int32)) % (12 : Int32))) (pc := 500) X0 hx (hb hby at_500) rfl ?_
                      refine o_bipush (pc := 502) X0 hx (10 : Int32) (hb hby at_502) rfl ?_
                      by_cases hc567 : ((p1 &&& (2147483647 : Int32)) % (12 : Int32)) = (10 : Int32)
                      · skip
                        refine o_icmpNo (pc := 504) X0 hx (hb hby at_504) (teq hc567).2 ?_
                        refine o_bipush (pc := 507) X0 hx (9 : Int32) (hb hby at_507) rfl ?_
                        refine o_newP (pc := 509) X0 hx hZ (hw _ (List.mem_of_getElem? (i := 225) rfl)) e0 (hb hby at_509) (by decide) 9 (by decide) (by decide) (by decide) (by decide) fun T568 h568 b568 k568 X568 e568 g568 E568 V568 => ?_
                        have O569 := O0.ext E568
                        have B569 := B0.ext E568
                        have V568p : Arv Z h568 b568 k568 .char (9 : Int32) [(.int (0 : Int32)), (.int (0 : Int32)), (.int (0 : Int32)), (.int (0 : Int32)), (.int (0 : Int32)), (.int (0 : Int32)), (.int (0 : Int32)), (.int (0 : Int32)), (.int (0 : Int32))] (.int (0 : Int32)) := V568.pad (pad_rep [] (.int (0 : Int32)) 9)
                        refine o_dup (pc := 511) X568 hx (hb hby at_511) rfl ?_
                        refine o_iconst (pc := 512) X568 hx (0 : Int32) (hb hby at_512) rfl ?_
                        refine o_bipush (pc := 513) X568 hx (100 : Int32) (hb hby at_513) rfl ?_
                        refine o_castore (pc := 515) X568 hx hZ e568 V568p ⟨by decide, by decide⟩ 0 rfl (Nat.le_of_ble_eq_true rfl) (hb hby at_515) fun T570 h570 X570 e570 W570 V570 => ?_
                        rw [show nar .char (100 : Int32) = (100 : Int32) by decide] at V570
                        have N570 := Fr.snoc X570 N0 (Nat.le_trans (o_n0 O0) g568)
                        have O571 := O569.wr W570 (Nat.le_trans (o_n0 O0) g568)
                        have B571 := B569.wr W570 (Safe.arv hZ0.alike V568p (by decide))
                        refine o_dup (pc := 516) X570 hx (hb hby at_516) rfl ?_
                        refine o_iconst (pc := 517) X570 hx (1 : Int32) (hb hby at_517) rfl ?_
                        refine o_bipush (pc := 518) X570 hx (101 : Int32) (hb hby at_518) rfl ?_
                        refine o_castore (pc := 520) X570 hx hZ e570 V570 ⟨by decide, by decide⟩ 1 rfl (Nat.le_of_ble_eq_true rfl) (hb hby at_520) fun T572 h572 X572 e572 W572 V572 => ?_
                        rw [show nar .char (101 : Int32) = (101 : Int32) by decide] at V572
                        have N572 := Fr.snoc X572 N570 (Nat.le_trans (o_n0 O0) g568)
                        have O573 := O571.wr W572 (Nat.le_trans (o_n0 O0) g568)
                        have B573 := B571.wr W572 (Safe.arv hZ0.alike V570 (by decide))
                        refine o_dup (pc := 521) X572 hx (hb hby at_521) rfl ?_
                        refine o_iconst (pc := 522) X572 hx (2 : Int32) (hb hby at_522) rfl ?_
                        refine o_bipush (pc := 523) X572 hx (97 : Int32) (hb hby at_523) rfl ?_
                        refine o_castore (pc := 525) X572 hx hZ e572 V572 ⟨by decide, by decide⟩ 2 rfl (Nat.le_of_ble_eq_true rfl) (hb hby at_525) fun T574 h574 X574 e574 W574 V574 => ?_
                        rw [show nar .char (97 : Int32) = (97 : Int32) by decide] at V574
                        have N574 := Fr.snoc X574 N572 (Nat.le_trans (o_n0 O0) g568)
                        have O575 := O573.wr W574 (Nat.le_trans (o_n0 O0) g568)
                        have B575 := B573.wr W574 (Safe.arv hZ0.alike V572 (by decide))
                        refine o_dup (pc := 526) X574 hx (hb hby at_526) rfl ?_
                        refine o_iconst (pc := 527) X574 hx (3 : Int32) (hb hby at_527) rfl ?_
                        refine o_bipush (pc := 528) X574 hx (100 : Int32) (hb hby at_528) rfl ?_
                        refine o_castore (pc := 530) X574 hx hZ e574 V574 ⟨by decide, by decide⟩ 3 rfl (Nat.le_of_ble_eq_true rfl) (hb hby at_530) fun T576 h576 X576 e576 W576 V576 => ?_
                        rw [show nar .char (100 : Int32) = (100 : Int32) by decide] at V576
                        have N576 := Fr.snoc X576 N574 (Nat.le_trans (o_n0 O0) g568)
                        have O577 := O575.wr W576 (Nat.le_trans (o_n0 O0) g568)
                        have B577 := B575.wr W576 (Safe.arv hZ0.alike V574 (by decide))
                        refine o_dup (pc := 531) X576 hx (hb hby at_531) rfl ?_
                        refine o_iconst (pc := 532) X576 hx (4 : Int32) (hb hby at_532) rfl ?_
                        refine o_bipush (pc := 533) X576 hx (108 : Int32) (hb hby at_533) rfl ?_
                        refine o_castore (pc := 535) X576 hx hZ e576 V576 ⟨by decide, by decide⟩ 4 rfl (Nat.le_of_ble_eq_true rfl) (hb hby at_535) fun T578 h578 X578 e578 W578 V578 => ?_
                        rw [show nar .char (108 : Int32) = (108 : Int32) by decide] at V578
                        have N578 := Fr.snoc X578 N576 (Nat.le_trans (o_n0 O0) g568)
                        have O579 := O577.wr W578 (Nat.le_trans (o_n0 O0) g568)
                        have B579 := B577.wr W578 (Safe.arv hZ0.alike V576 (by decide))
                        refine o_dup (pc := 536) X578 hx (hb hby at_536) rfl ?_
                        refine o_iconst (pc := 537) X578 hx (5 : Int32) (hb hby at_537) rfl ?_
                        refine o_bipush (pc := 538) X578 hx (111 : Int32) (hb hby at_538) rfl ?_
                        refine o_castore (pc := 540) X578 hx hZ e578 V578 ⟨by decide, by decide⟩ 5 rfl (Nat.le_of_ble_eq_true rfl) (hb hby at_540) fun T580 h580 X580 e580 W580 V580 => ?_
                        rw [show nar .char (111 : Int32) = (111 : Int32) by decide] at V580
                        have N580 := Fr.snoc X580 N578 (Nat.le_trans (o_n0 O0) g568)
                        have O581 := O579.wr W580 (Nat.le_trans (o_n0 O0) g568)
                        have B581 := B579.wr W580 (Safe.arv hZ0.alike V578 (by decide))
                        refine o_dup (pc := 541) X580 hx (hb hby at_541) rfl ?_
                        refine o_bipush (pc := 542) X580 hx (6 : Int32) (hb hby at_542) rfl ?_
                        refine o_bipush (pc := 544) X580 hx (99 : Int32) (hb hby at_544) rfl ?_
                        refine o_castore (pc := 546) X580 hx hZ e580 V580 ⟨by decide, by decide⟩ 6 rfl (Nat.le_of_ble_eq_true rfl) (hb hby at_546) fun T582 h582 X582 e582 W582 V582 => ?_
                        rw [show nar .char (99 : Int32) = (99 : Int32) by decide] at V582
                        have N582 := Fr.snoc X582 N580 (Nat.le_trans (o_n0 O0) g568)
                        have O583 := O581.wr W582 (Nat.le_trans (o_n0 O0) g568)
                        have B583 := B581.wr W582 (Safe.arv hZ0.alike V580 (by decide))
                        refine o_dup (pc := 547) X582 hx (hb hby at_547) rfl ?_
                        refine o_bipush (pc := 548) X582 hx (7 : Int32) (hb hby at_548) rfl ?_
                        refine o_bipush (pc := 550) X582 hx (107 : Int32) (hb hby at_550) rfl ?_
                        refine o_castore (pc := 552) X582 hx hZ e582 V582 ⟨by decide, by decide⟩ 7 rfl (Nat.le_of_ble_eq_true rfl) (hb hby at_552) fun T584 h584 X584 e584 W584 V584 => ?_
                        rw [show nar .char (107 : Int32) = (107 : Int32) by decide] at V584
                        have N584 := Fr.snoc X584 N582 (Nat.le_trans (o_n0 O0) g568)
                        have O585 := O583.wr W584 (Nat.le_trans (o_n0 O0) g568)
                        have B585 := B583.wr W584 (Safe.arv hZ0.alike V582 (by decide))
                        refine o_dup (pc := 553) X584 hx (hb hby at_553) rfl ?_
                        refine o_bipush (pc := 554) X584 hx (8 : Int32) (hb hby at_554) rfl ?_
                        refine o_iload (v := (p3 &&& (255 : Int32))) (pc := 556) X584 hx (hb hby at_556) rfl ?_
                        refine o_castore (pc := 558) X584 hx hZ e584 V584 ⟨by decide, by decide⟩ 8 rfl (Nat.le_of_ble_eq_true rfl) (hb hby at_558) fun T586 h586 X586 e586 W586 V586 => ?_
                        rw [o_narc] at V586
                        have N586 := Fr.snoc X586 N584 (Nat.le_trans (o_n0 O0) g568)
                        have O587 := O585.wr W586 (Nat.le_trans (o_n0 O0) g568)
                        have B587 := B585.wr W586 (Safe.arv hZ0.alike V584 (by decide))
                        refine o_astore (l' := #[.val (.int p1), .val (.int p2), .val (.int p3), .val (.int p4), .val (.int p5), .val (.int ((p1 &&& (2147483647 : Int32)) % (12 : Int32))), .val (.int (p3 &&& (255 : Int32))), .val (.int (p2 &&& (2147483647 : Int32))), .unset, .unset, .val (.ref b568), .unset]) (pc := 559) X586 hx (hb hby at_559) rfl rfl ?_
                        refine o_new (pc := 561) X586 hx hZ hown (hw _ (List.mem_of_getElem? (i := 226) rfl)) (hw _ (List.mem_of_getElem? (i := 3) rfl)) (hw _ (List.mem_of_getElem? (i := 2) rfl)) e586 (hb hby at_561) (by decide) (by decide) fun T588 h588 b588 X588 e588 g588 E588 A588 D588 U588 => ?_
                        have O589 := O587.ext E588
                        have B589 := B587.ext E588
                        have F588_value : Fld Z h588 b588 "java/lang/String" "value" "[B" .null := D588 (Or.inr (hw _ (List.mem_of_getElem? (i := 5) rfl))) (ty := (.array .byte)) (by decide)
                        have F588_coder : Fld Z h588 b588 "java/lang/String" "coder" "B" (.int (0 : Int32)) := D588 (Or.inr (hw _ (List.mem_of_getElem? (i := 6) rfl))) (ty := .byte) (by decide)
                        refine o_dup (pc := 564) X588 hx (hb hby at_564) rfl ?_
                        refine o_aload (v := (.ref b568)) (pc := 565) X588 hx (hb hby at_565) rfl rfl ?_
                        refine o_callN (pc := 567) X588 hx hZ (y := (⟨"java/lang/String", "<init>", "([C)V"⟩ : MethodName)) (a := b588) (argsL := [(.ref b568)]) (rest := [(.ref b588)]) rfl hown (hw _ (List.mem_of_getElem? (i := 227) rfl)) (hw _ (List.mem_of_getElem? (i := 228) rfl)) (hw _ (List.mem_of_getElem? (i := 2) rfl)) (hw _ (List.mem_of_getElem? (i := 229) rfl)) (by decide) (rmSCL l Z a0 hw [] b588 b568 k568 cs [(100 : Int32), (101 : Int32), (97 : Int32), (100 : Int32), (108 : Int32), (111 : Int32), (99 : Int32), (107 : Int32), (p3 &&& (255 : Int32))] (9 : Int32) h588 n0 O589 A588 F588_coder F588_value (Nat.le_trans (o_n0 O587) g588) (V586.ext E588) SC hcs rfl (by decide) (fun c hc => by simp only [List.mem_cons, List.not_mem_nil, or_false] at hc; rcases hc with rfl | rfl | rfl | rfl | rfl | rfl | rfl | rfl | rfl <;> first | decide | exact (c_and p3)) (by decide) (by decide)) e588 (by rw [hml]; rfl) (lenOf o_pd27 rfl) (has := rfl) (hst := rfl) (W := 1) (Nat.le_of_ble_eq_true rfl) (hb hby at_567) (by decide) (by decide) (by decide) (by decide) fun v590 T590 h590 L590 X590 e590 q590 => ?_
                        obtain ⟨rfl, N590q, K590, Fc590, d590, k590, g590, Fv590, V590⟩ := q590
                        have N590 := Fr.app N586 N590q
                        have VL590 : Arv Z h590 d590 k590 .byte (9 : Int32) [(.int (100 : Int32)), (.int (101 : Int32)), (.int (97 : Int32)), (.int (100 : Int32)), (.int (108 : Int32)), (.int (111 : Int32)), (.int (99 : Int32)), (.int (107 : Int32)), (.int ((p3 &&& (255 : Int32)).toInt8.toInt32))] (.int 0) := V590
                        have O591 := O589.keep K590 (allS (Nat.le_trans (o_n0 O587) g588) all0)
                        have B591 := B589.keep K590 (allS (Safe.ext E588 B587.chv (Safe.new g588)) all0)
                        show Go p e below T590 (mkF m 570 #[.val (.int p1), .val (.int p2), .val (.int p3), .val (.int p4), .val (.int p5), .val (.int ((p1 &&& (2147483647 : Int32)) % (12 : Int32))), .val (.int (p3 &&& (255 : Int32))), .val (.int (p2 &&& (2147483647 : Int32))), .unset, .unset, .val (.ref b568), .unset] [(.ref b588)]) _
                        refine o_astore (l' := #[.val (.int p1), .val (.int p2), .val (.int p3), .val (.int p4), .val (.int p5), .val (.int ((p1 &&& (2147483647 : Int32)) % (12 : Int32))), .val (.int (p3 &&& (255 : Int32))), .val (.int (p2 &&& (2147483647 : Int32))), .val (.ref b588), .unset, .val (.ref b568), .unset]) (pc := 570) X590 hx (hb hby at_570) rfl rfl ?_
                        refine o_iconst (pc := 572) X590 hx (0 : Int32) (hb hby at_572) rfl ?_
                        refine o_istore (l' := #[.val (.int p1), .val (.int p2), .val (.int p3), .val (.int p4), .val (.int p5), .val (.int ((p1 &&& (2147483647 : Int32)) % (12 : Int32))), .val (.int (p3 &&& (255 : Int32))), .val (.int (p2 &&& (2147483647 : Int32))), .val (.ref b588), .val (.int (0 : Int32)), .val (.ref b568), .unset]) (pc := 573) X590 hx (hb hby at_573) rfl ?_
                        refine o_goto (pc := 575) X590 hx 648 (hb hby at_575) (by decide) (by decide) ?_
                        show Go p e below T590 (mkF m 648 #[.val (.int p1), .val (.int p2), .val (.int p3), .val (.int p4), .val (.int p5), .val (.int ((p1 &&& (2147483647 : Int32)) % (12 : Int32))), .val (.int (p3 &&& (255 : Int32))), .val (.int (p2 &&& (2147483647 : Int32))), .val (.ref b588), .val (.int (0 : Int32)), .val (.ref b568), .unset] []) _
                        exact tlB l Z a0 hw u w cs b588 d590 (9 : Int32) h590 n0 (Or.inr (Or.inr ⟨_, rfl⟩)) hx hby hml hret hlk hh hTK hBe (X590.more (by decide) (by decide)) e590 B591 hZ hown O591 N590 (ThS.keep K590 (nsS A588.nostat ns0) (((((((((((HT.ext E568).wr W570).wr W572).wr W574).wr W576).wr W578).wr W580).wr W582).wr W584).wr W586).ext E588)) hst SU SW hu hw2 SC hcs (A588.keep K590) Fc590 Fv590 (Byt.of VL590 rfl) (by decide) (by decide) (by decide) (by decide)
                      · skip
                        refine o_icmpYes (pc := 504) X0 hx 578 (hb hby at_504) (feq hc567).2 (by decide) (by decide) ?_
                        refine o_iload (v := (p2 &&& (2147483647 : Int32))) (pc := 578) X0 hx (hb hby at_578) rfl ?_
                        refine o_iconst (pc := 580) X0 hx (4 : Int32) (hb hby at_580) rfl ?_
                        refine o_irem (pc := 581) X0 hx (hb hby at_581) (by decide) ?_
                        refine o_istore (l' := #[.val (.int p1), .val (.int p2), .val (.int p3), .val (.int p4), .val (.int p5), .val (.int ((p1 &&& (2147483647 : Int32)) % (12 : Int32))), .val (.int (p3 &&& (255 : Int32))), .val (.int (p2 &&& (2147483647 : Int32))), .unset, .unset, .val (.int ((p2 &&& (2147483647 : Int32)) % (4 : Int32))), .unset]) (pc := 582) X0 hx (hb hby at_582) rfl ?_
                        rcases rem4 p2 with hj | hj | hj | hj
                        · skip
                          rw [hj]
                          refine o_iload (v := (0 : Int32)) (pc := 584) X0 hx (hb hby at_584) rfl ?_
                          refine o_newP (pc := 586) X0 hx hZ (hw _ (List.mem_of_getElem? (i := 225) rfl)) e0 (hb hby at_586) (by decide) 0 (by decide) (by decide) (by decide) (by decide) fun T592 h592 b592 k592 X592 e592 g592 E592 V592 => ?_
                          have O593 := O0.ext E592
                          have B593 := B0.ext E592
                          have V592p : Arv Z h592 b592 k592 .char (0 : Int32) [] (.int (0 : Int32)) := V592.pad (pad_rep [] (.int (0 : Int32)) 0)
                          refine o_astore (l' := #[.val (.int p1), .val (.int p2), .val (.int p3), .val (.int p4), .val (.int p5), .val (.int ((p1 &&& (2147483647 : Int32)) % (12 : Int32))), .val (.int (p3 &&& (255 : Int32))), .val (.int (p2 &&& (2147483647 : Int32))), .unset, .unset, .val (.int (0 : Int32)), .val (.ref b592)]) (pc := 588) X592 hx (hb hby at_588) rfl rfl ?_
                          refine o_iload (v := (0 : Int32)) (pc := 590) X592 hx (hb hby at_590) rfl ?_
                          refine o_ifYes (pc := 592) X592 hx 601 (hb hby at_592) ((if0 _ _).trans (flt (by decide : ¬ ((0 : Int32) < (0 : Int32)))).2.2.2) (by decide) (by decide) ?_
                          refine o_iload (v := (0 : Int32)) (pc := 601) X592 hx (hb hby at_601) rfl ?_
                          refine o_iconst (pc := 603) X592 hx (1 : Int32) (hb hby at_603) rfl ?_
                          refine o_icmpYes (pc := 604) X592 hx 617 (hb hby at_604) (flt (by decide : ¬ ((1 : Int32) < (0 : Int32)))).2.2.2 (by decide) (by decide) ?_
                          refine o_iload (v := (0 : Int32)) (pc := 617) X592 hx (hb hby at_617) rfl ?_
                          refine o_iconst (pc := 619) X592 hx (2 : Int32) (hb hby at_619) rfl ?_
                          refine o_icmpYes (pc := 620) X592 hx 634 (hb hby at_620) (flt (by decide : ¬ ((2 : Int32) < (0 : Int32)))).2.2.2 (by decide) (by decide) ?_
                          refine o_new (pc := 634) X592 hx hZ hown (hw _ (List.mem_of_getElem? (i := 226) rfl)) (hw _ (List.mem_of_getElem? (i := 3) rfl)) (hw _ (List.mem_of_getElem? (i := 2) rfl)) e592 (hb hby at_634) (by decide) (by decide) fun T594 h594 b594 X594 e594 g594 E594 A594 D594 U594 => ?_
                          have O595 := O593.ext E594
                          have B595 := B593.ext E594
                          have F594_value : Fld Z h594 b594 "java/lang/String" "value" "[B" .null := D594 (Or.inr (hw _ (List.mem_of_getElem? (i := 5) rfl))) (ty := (.array .byte)) (by decide)
                          have F594_coder : Fld Z h594 b594 "java/lang/String" "coder" "B" (.int (0 : Int32)) := D594 (Or.inr (hw _ (List.mem_of_getElem? (i := 6) rfl))) (ty := .byte) (by decide)
                          refine o_dup (pc := 637) X594 hx (hb hby at_637) rfl ?_
                          refine o_aload (v := (.ref b592)) (pc := 638) X594 hx (hb hby at_638) rfl rfl ?_
                          refine o_callNH (pc := 640) X594 hx hZ (y := (⟨"java/lang/String", "<init>", "([C)V"⟩ : MethodName)) (a := b594) (argsL := [(.ref b592)]) (rest := [(.ref b594)]) rfl hown (o_EW hw) B595 (hw _ (List.mem_of_getElem? (i := 227) rfl)) (hw _ (List.mem_of_getElem? (i := 228) rfl)) (hw _ (List.mem_of_getElem? (i := 2) rfl)) (hw _ (List.mem_of_getElem? (i := 229) rfl)) (by decide) (rmS02 l Z a0 hw [] b594 b592 k592 h594 n0 O595 A594 F594_coder F594_value (Nat.le_trans (o_n0 O593) g594) (V592p.ext E594)) e594 (by rw [hml]; rfl) (lenOf o_pd27 rfl) (has := rfl) (hst := rfl) (W := 1) (Nat.le_of_ble_eq_true rfl) (hb hby at_640) (by decide) (by decide) (by decide) (by decide) fun sB596 v596 T596 h596 L596 X596 e596 B596 hZ596 hown596 hC596 q596 => ?_
                          obtain ⟨rfl, N596q, K596, Fc596, d596, k596, Fv596, nd596, V596⟩ := q596
                          have N596 := Fr.app N0 N596q
                          have O597 := O595.keep K596 (allS (Nat.le_trans (o_n0 O593) g594) all0)
                          show Go p e below T596 (mkF m 643 #[.val (.int p1), .val (.int p2), .val (.int p3), .val (.int p4), .val (.int p5), .val (.int ((p1 &&& (2147483647 : Int32)) % (12 : Int32))), .val (.int (p3 &&& (255 : Int32))), .val (.int (p2 &&& (2147483647 : Int32))), .unset, .unset, .val (.int (0 : Int32)), .val (.ref b592)] [(.ref b594)]) _
                          refine o_astore (l' := #[.val (.int p1), .val (.int p2), .val (.int p3), .val (.int p4), .val (.int p5), .val (.int ((p1 &&& (2147483647 : Int32)) % (12 : Int32))), .val (.int (p3 &&& (255 : Int32))), .val (.int (p2 &&& (2147483647 : Int32))), .val (.ref b594), .unset, .val (.int (0 : Int32)), .val (.ref b592)]) (pc := 643) X596 hx (hb hby at_643) rfl rfl ?_
                          refine o_iconst (pc := 645) X596 hx (0 : Int32) (hb hby at_645) rfl ?_
                          refine o_istore (l' := #[.val (.int p1), .val (.int p2), .val (.int p3), .val (.int p4), .val (.int p5), .val (.int ((p1 &&& (2147483647 : Int32)) % (12 : Int32))), .val (.int (p3 &&& (255 : Int32))), .val (.int (p2 &&& (2147483647 : Int32))), .val (.ref b594), .val (.int (0 : Int32)), .val (.int (0 : Int32)), .val (.ref b592)]) (pc := 646) X596 hx (hb hby at_646) rfl ?_
                          show Go p e below T596 (mkF m 648 #[.val (.int p1), .val (.int p2), .val (.int p3), .val (.int p4), .val (.int p5), .val (.int ((p1 &&& (2147483647 : Int32)) % (12 : Int32))), .val (.int (p3 &&& (255 : Int32))), .val (.int (p2 &&& (2147483647 : Int32))), .val (.ref b594), .val (.int (0 : Int32)), .val (.int (0 : Int32)), .val (.ref b592)] []) _
                          exact tlA l Z a0 hw u w cs b594 d596 (0 : Int32) h596 n0 (Or.inr (Or.inl ⟨_, rfl⟩)) hx hby hml hret hlk hh hTK hBe (X596.more (by decide) (by decide)) e596 B596 hZ596 hown596 O597 N596 (ThS.keep K596 (nsS A594.nostat ns0) ((HT.ext E592).ext E594)) hst SU SW hu hw2 SC hcs (A594.keep K596) Fc596 Fv596 (Byt.of V596 rfl) (by decide) (by decide) (by decide) (by decide)
                        · skip
                          rw [hj]
                          refine o_iload (v := (1 : Int32)) (pc := 584) X0 hx (hb hby at_584) rfl ?_
                          refine o_newP (pc := 586) X0 hx hZ (hw _ (List.mem_of_getElem? (i := 225) rfl)) e0 (hb hby at_586) (by decide) 1 (by decide) (by decide) (by decide) (by decide) fun T598 h598 b598 k598 X598 e598 g598 E598 V598 => ?_
                          have O599 := O0.ext E598
                          have B599 := B0.ext E598
                          have V598p : Arv Z h598 b598 k598 .char (1 : Int32) [(.int (0 : Int32))] (.int (0 : Int32)) := V598.pad (pad_rep [] (.int (0 : Int32)) 1)
                          refine o_astore (l' := #[.val (.int p1), .val (.int p2), .val (.int p3), .val (.int p4), .val (.int p5), .val (.int ((p1 &&& (2147483647 : Int32)) % (12 : Int32))), .val (.int (p3 &&& (255 : Int32))), .val (.int (p2 &&& (2147483647 : Int32))), .unset, .unset, .val (.int (1 : Int32)), .val (.ref b598)]) (pc := 588) X598 hx (hb hby at_588) rfl rfl ?_
                          refine o_iload (v := (1 : Int32)) (pc := 590) X598 hx (hb hby at_590) rfl ?_
                          refine o_ifNo (pc := 592) X598 hx (hb hby at_592) ((if0 _ _).trans (tlt (by decide : (0 : Int32) < (1 : Int32))).2.2.2) ?_
                          refine o_aload (v := (.ref b598)) (pc := 595) X598 hx (hb hby at_595) rfl rfl ?_
                          refine o_iconst (pc := 597) X598 hx (0 : Int32) (hb hby at_597) rfl ?_
                          refine o_iload (v := (p3 &&& (255 : Int32))) (pc := 598) X598 hx (hb hby at_598) rfl ?_
                          refine o_castore (pc := 600) X598 hx hZ e598 V598p ⟨by decide, by decide⟩ 0 rfl (Nat.le_of_ble_eq_true rfl) (hb hby at_600) fun T600 h600 X600 e600 W600 V600 => ?_
                          rw [o_narc] at V600
                          have N600 := Fr.snoc X600 N0 (Nat.le_trans (o_n0 O0) g598)
                          have O601 := O599.wr W600 (Nat.le_trans (o_n0 O0) g598)
                          have B601 := B599.wr W600 (Safe.arv hZ0.alike V598p (by decide))
                          refine o_iload (v := (1 : Int32)) (pc := 601) X600 hx (hb hby at_601) rfl ?_
                          refine o_iconst (pc := 603) X600 hx (1 : Int32) (hb hby at_603) rfl ?_
                          refine o_icmpYes (pc := 604) X600 hx 617 (hb hby at_604) (flt (by decide : ¬ ((1 : Int32) < (1 : Int32)))).2.2.2 (by decide) (by decide) ?_
                          refine o_iload (v := (1 : Int32)) (pc := 617) X600 hx (hb hby at_617) rfl ?_
                          refine o_iconst (pc := 619) X600 hx (2 : Int32) (hb hby at_619) rfl ?_
                          refine o_icmpYes (pc := 620) X600 hx 634 (hb hby at_620) (flt (by decide : ¬ ((2 : Int32) < (1 : Int32)))).2.2.2 (by decide) (by decide) ?_
                          refine o_new (pc := 634) X600 hx hZ hown (hw _ (List.mem_of_getElem? (i := 226) rfl)) (hw _ (List.mem_of_getElem? (i := 3) rfl)) (hw _ (List.mem_of_getElem? (i := 2) rfl)) e600 (hb hby at_634) (by decide) (by decide) fun T602 h602 b602 X602 e602 g602 E602 A602 D602 U602 => ?_
                          have O603 := O601.ext E602
                          have B603 := B601.ext E602
                          have F602_value : Fld Z h602 b602 "java/lang/String" "value" "[B" .null := D602 (Or.inr (hw _ (List.mem_of_getElem? (i := 5) rfl))) (ty := (.array .byte)) (by decide)
                          have F602_coder : Fld Z h602 b602 "java/lang/String" "coder" "B" (.int (0 : Int32)) := D602 (Or.inr (hw _ (List.mem_of_getElem? (i := 6) rfl))) (ty := .byte) (by decide)
                          refine o_dup (pc := 637) X602 hx (hb hby at_637) rfl ?_
                          refine o_aload (v := (.ref b598)) (pc := 638) X602 hx (hb hby at_638) rfl rfl ?_
                          refine o_callN (pc := 640) X602 hx hZ (y := (⟨"java/lang/String", "<init>", "([C)V"⟩ : MethodName)) (a := b602) (argsL := [(.ref b598)]) (rest := [(.ref b602)]) rfl hown (hw _ (List.mem_of_getElem? (i := 227) rfl)) (hw _ (List.mem_of_getElem? (i := 228) rfl)) (hw _ (List.mem_of_getElem? (i := 2) rfl)) (hw _ (List.mem_of_getElem? (i := 229) rfl)) (by decide) (rmSCL l Z a0 hw [] b602 b598 k598 cs [(p3 &&& (255 : Int32))] (1 : Int32) h602 n0 O603 A602 F602_coder F602_value (Nat.le_trans (o_n0 O601) g602) (V600.ext E602) SC hcs rfl (by decide) (fun c hc => by simp only [List.mem_cons, List.not_mem_nil, or_false] at hc; rcases hc with rfl <;> first | decide | exact (c_and p3)) (by decide) (by decide)) e602 (by rw [hml]; rfl) (lenOf o_pd27 rfl) (has := rfl) (hst := rfl) (W := 1) (Nat.le_of_ble_eq_true rfl) (hb hby at_640) (by decide) (by decide) (by decide) (by decide) fun v604 T604 h604 L604 X604 e604 q604 => ?_
                          obtain ⟨rfl, N604q, K604, Fc604, d604, k604, g604, Fv604, V604⟩ := q604
                          have N604 := Fr.app N600 N604q
                          have VL604 : Arv Z h604 d604 k604 .byte (1 : Int32) [(.int ((p3 &&& (255 : Int32)).toInt8.toInt32))] (.int 0) := V604
                          have O605 := O603.keep K604 (allS (Nat.le_trans (o_n0 O601) g602) all0)
                          have B605 := B603.keep K604 (allS (Safe.ext E602 B601.chv (Safe.new g602)) all0)
                          show Go p e below T604 (mkF m 643 #[.val (.int p1), .val (.int p2), .val (.int p3), .val (.int p4), .val (.int p5), .val (.int ((p1 &&& (2147483647 : Int32)) % (12 : Int32))), .val (.int (p3 &&& (255 : Int32))), .val (.int (p2 &&& (2147483647 : Int32))), .unset, .unset, .val (.int (1 : Int32)), .val (.ref b598)] [(.ref b602)]) _
                          refine o_astore (l' := #[.val (.int p1), .val (.int p2), .val (.int p3), .val (.int p4), .val (.int p5), .val (.int ((p1 &&& (2147483647 : Int32)) % (12 : Int32))), .val (.int (p3 &&& (255 : Int32))), .val (.int (p2 &&& (2147483647 : Int32))), .val (.ref b602), .unset, .val (.int (1 : Int32)), .val (.ref b598)]) (pc := 643) X604 hx (hb hby at_643) rfl rfl ?_
                          refine o_iconst (pc := 645) X604 hx (0 : Int32) (hb hby at_645) rfl ?_
                          refine o_istore (l' := #[.val (.int p1), .val (.int p2), .val (.int p3), .val (.int p4), .val (.int p5), .val (.int ((p1 &&& (2147483647 : Int32)) % (12 : Int32))), .val (.int (p3 &&& (255 : Int32))), .val (.int (p2 &&& (2147483647 : Int32))), .val (.ref b602), .val (.int (0 : Int32)), .val (.int (1 : Int32)), .val (.ref b598)]) (pc := 646) X604 hx (hb hby at_646) rfl ?_
                          show Go p e below T604 (mkF m 648 #[.val (.int p1), .val (.int p2), .val (.int p3), .val (.int p4), .val (.int p5), .val (.int ((p1 &&& (2147483647 : Int32)) % (12 : Int32))), .val (.int (p3 &&& (255 : Int32))), .val (.int (p2 &&& (2147483647 : Int32))), .val (.ref b602), .val (.int (0 : Int32)), .val (.int (1 : Int32)), .val (.ref b598)] []) _
                          exact tlA l Z a0 hw u w cs b602 d604 (1 : Int32) h604 n0 (Or.inr (Or.inl ⟨_, rfl⟩)) hx hby hml hret hlk hh hTK hBe (X604.more (by decide) (by decide)) e604 B605 hZ hown O605 N604 (ThS.keep K604 (nsS A602.nostat ns0) (((HT.ext E598).wr W600).ext E602)) hst SU SW hu hw2 SC hcs (A602.keep K604) Fc604 Fv604 (Byt.of VL604 rfl) (by decide) (by decide) (by decide) (by decide)
                        · skip
                          rw [hj]
                          refine o_iload (v := (2 : Int32)) (pc := 584) X0 hx (hb hby at_584) rfl ?_
                          refine o_newP (pc := 586) X0 hx hZ (hw _ (List.mem_of_getElem? (i := 225) rfl)) e0 (hb hby at_586) (by decide) 2 (by decide) (by decide) (by decide) (by decide) fun T606 h606 b606 k606 X606 e606 g606 E606 V606 => ?_
                          have O607 := O0.ext E606
                          have B607 := B0.ext E606
                          have V606p : Arv Z h606 b606 k606 .char (2 : Int32) [(.int (0 : Int32)), (.int (0 : Int32))] (.int (0 : Int32)) := V606.pad (pad_rep [] (.int (0 : Int32)) 2)
                          refine o_astore (l' := #[.val (.int p1), .val (.int p2), .val (.int p3), .val (.int p4), .val (.int p5), .val (.int ((p1 &&& (2147483647 : Int32)) % (12 : Int32))), .val (.int (p3 &&& (255 : Int32))), .val (.int (p2 &&& (2147483647 : Int32))), .unset, .unset, .val (.int (2 : Int32)), .val (.ref b606)]) (pc := 588) X606 hx (hb hby at_588) rfl rfl ?_
                          refine o_iload (v := (2 : Int32)) (pc := 590) X606 hx (hb hby at_590) rfl ?_
                          refine o_ifNo (pc := 592) X606 hx (hb hby at_592) ((if0 _ _).trans (tlt (by decide : (0 : Int32) < (2 : Int32))).2.2.2) ?_
                          refine o_aload (v := (.ref b606)) (pc := 595) X606 hx (hb hby at_595) rfl rfl ?_
                          refine o_iconst (pc := 597) X606 hx (0 : Int32) (hb hby at_597) rfl ?_
                          refine o_iload (v := (p3 &&& (255 : Int32))) (pc := 598) X606 hx (hb hby at_598) rfl ?_
                          refine o_castore (pc := 600) X606 hx hZ e606 V606p ⟨by decide, by decide⟩ 0 rfl (Nat.le_of_ble_eq_true rfl) (hb hby at_600) fun T608 h608 X608 e608 W608 V608 => ?_
                          rw [o_narc] at V608
                          have N608 := Fr.snoc X608 N0 (Nat.le_trans (o_n0 O0) g606)
                          have O609 := O607.wr W608 (Nat.le_trans (o_n0 O0) g606)
                          have B609 := B607.wr W608 (Safe.arv hZ0.alike V606p (by decide))
                          refine o_iload (v := (2 : Int32)) (pc := 601) X608 hx (hb hby at_601) rfl ?_
                          refine o_iconst (pc := 603) X608 hx (1 : Int32) (hb hby at_603) rfl ?_
                          refine o_icmpNo (pc := 604) X608 hx (hb hby at_604) (tlt (by decide : (1 : Int32) < (2 : Int32))).2.2.2 ?_
                          refine o_aload (v := (.ref b606)) (pc := 607) X608 hx (hb hby at_607) rfl rfl ?_
                          refine o_iconst (pc := 609) X608 hx (1 : Int32) (hb hby at_609) rfl ?_
                          refine o_iloadN (v := p4) (pc := 610) X608 hx (hb hby at_610) rfl ?_
                          refine o_sipush (pc := 611) X608 hx (255 : Int32) (hb hby at_611) rfl ?_
                          refine o_iand (pc := 614) X608 hx (hb hby at_614) ?_
                          refine o_i2c (pc := 615) X608 hx (hb hby at_615) ?_
                          rw [i2c_mask]
                          refine o_castore (pc := 616) X608 hx hZ e608 V608 ⟨by decide, by decide⟩ 1 rfl (Nat.le_of_ble_eq_true rfl) (hb hby at_616) fun T610 h610 X610 e610 W610 V610 => ?_
                          rw [o_narc] at V610
                          have N610 := Fr.snoc X610 N608 (Nat.le_trans (o_n0 O0) g606)
                          have O611 := O609.wr W610 (Nat.le_trans (o_n0 O0) g606)
                          have B611 := B609.wr W610 (Safe.arv hZ0.alike V608 (by decide))
                          refine o_iload (v := (2 : Int32)) (pc := 617) X610 hx (hb hby at_617) rfl ?_
                          refine o_iconst (pc := 619) X610 hx (2 : Int32) (hb hby at_619) rfl ?_
                          refine o_icmpYes (pc := 620) X610 hx 634 (hb hby at_620) (flt (by decide : ¬ ((2 : Int32) < (2 : Int32)))).2.2.2 (by decide) (by decide) ?_
                          refine o_new (pc := 634) X610 hx hZ hown (hw _ (List.mem_of_getElem? (i := 226) rfl)) (hw _ (List.mem_of_getElem? (i := 3) rfl)) (hw _ (List.mem_of_getElem? (i := 2) rfl)) e610 (hb hby at_634) (by decide) (by decide) fun T612 h612 b612 X612 e612 g612 E612 A612 D612 U612 => ?_
                          have O613 := O611.ext E612
                          have B613 := B611.ext E612
                          have F612_value : Fld Z h612 b612 "java/lang/String" "value" "[B" .null := D612 (Or.inr (hw _ (List.mem_of_getElem? (i := 5) rfl))) (ty := (.array .byte)) (by decide)
                          have F612_coder : Fld Z h612 b612 "java/lang/String" "coder" "B" (.int (0 : Int32)) := D612 (Or.inr (hw _ (List.mem_of_getElem? (i := 6) rfl))) (ty := .byte) (by decide)
                          refine o_dup (pc := 637) X612 hx (hb hby at_637) rfl ?_
                          refine o_aload (v := (.ref b606)) (pc := 638) X612 hx (hb hby at_638) rfl rfl ?_
                          refine o_callN (pc := 640) X612 hx hZ (y := (⟨"java/lang/String", "<init>", "([C)V"⟩ : MethodName)) (a := b612) (argsL := [(.ref b606)]) (rest := [(.ref b612)]) rfl hown (hw _ (List.mem_of_getElem? (i := 227) rfl)) (hw _ (List.mem_of_getElem? (i := 228) rfl)) (hw _ (List.mem_of_getElem? (i := 2) rfl)) (hw _ (List.mem_of_getElem? (i := 229) rfl)) (by decide) (rmSCL l Z a0 hw [] b612 b606 k606 cs [(p3 &&& (255 : Int32)), (p4 &&& (255 : Int32))] (2 : Int32) h612 n0 O613 A612 F612_coder F612_value (Nat.le_trans (o_n0 O611) g612) (V610.ext E612) SC hcs rfl (by decide) (fun c hc => by simp only [List.mem_cons, List.not_mem_nil, or_false] at hc; rcases hc with rfl | rfl <;> first | decide | exact (c_and p3) | exact (c_and p4)) (by decide) (by decide)) e612 (by rw [hml]; rfl) (lenOf o_pd27 rfl) (has := rfl) (hst := rfl) (W := 1) (Nat.le_of_ble_eq_true rfl) (hb hby at_640) (by decide) (by decide) (by decide) (by decide) fun v614 T614 h614 L614 X614 e614 q614 => ?_
                          obtain ⟨rfl, N614q, K614, Fc614, d614, k614, g614, Fv614, V614⟩ := q614
                          have N614 := Fr.app N610 N614q
                          have VL614 : Arv Z h614 d614 k614 .byte (2 : Int32) [(.int ((p3 &&& (255 : Int32)).toInt8.toInt32)), (.int ((p4 &&& (255 : Int32)).toInt8.toInt32))] (.int 0) := V614
                          have O615 := O613.keep K614 (allS (Nat.le_trans (o_n0 O611) g612) all0)
                          have B615 := B613.keep K614 (allS (Safe.ext E612 B611.chv (Safe.new g612)) all0)
                          show Go p e below T614 (mkF m 643 #[.val (.int p1), .val (.int p2), .val (.int p3), .val (.int p4), .val (.int p5), .val (.int ((p1 &&& (2147483647 : Int32)) % (12 : Int32))), .val (.int (p3 &&& (255 : Int32))), .val (.int (p2 &&& (2147483647 : Int32))), .unset, .unset, .val (.int (2 : Int32)), .val (.ref b606)] [(.ref b612)]) _
                          refine o_astore (l' := #[.val (.int p1), .val (.int p2), .val (.int p3), .val (.int p4), .val (.int p5), .val (.int ((p1 &&& (2147483647 : Int32)) % (12 : Int32))), .val (.int (p3 &&& (255 : Int32))), .val (.int (p2 &&& (2147483647 : Int32))), .val (.ref b612), .unset, .val (.int (2 : Int32)), .val (.ref b606)]) (pc := 643) X614 hx (hb hby at_643) rfl rfl ?_
                          refine o_iconst (pc := 645) X614 hx (0 : Int32) (hb hby at_645) rfl ?_
                          refine o_istore (l' := #[.val (.int p1), .val (.int p2), .val (.int p3), .val (.int p4), .val (.int p5), .val (.int ((p1 &&& (2147483647 : Int32)) % (12 : Int32))), .val (.int (p3 &&& (255 : Int32))), .val (.int (p2 &&& (2147483647 : Int32))), .val (.ref b612), .val (.int (0 : Int32)), .val (.int (2 : Int32)), .val (.ref b606)]) (pc := 646) X614 hx (hb hby at_646) rfl ?_
                          show Go p e below T614 (mkF m 648 #[.val (.int p1), .val (.int p2), .val (.int p3), .val (.int p4), .val (.int p5), .val (.int ((p1 &&& (2147483647 : Int32)) % (12 : Int32))), .val (.int (p3 &&& (255 : Int32))), .val (.int (p2 &&& (2147483647 : Int32))), .val (.ref b612), .val (.int (0 : Int32)), .val (.int (2 : Int32)), .val (.ref b606)] []) _
                          exact tlA l Z a0 hw u w cs b612 d614 (2 : Int32) h614 n0 (Or.inr (Or.inl ⟨_, rfl⟩)) hx hby hml hret hlk hh hTK hBe (X614.more (by decide) (by decide)) e614 B615 hZ hown O615 N614 (ThS.keep K614 (nsS A612.nostat ns0) ((((HT.ext E606).wr W608).wr W610).ext E612)) hst SU SW hu hw2 SC hcs (A612.keep K614) Fc614 Fv614 (Byt.of VL614 rfl) (by decide) (by decide) (by decide) (by decide)
                        · skip
                          rw [hj]
                          refine o_iload (v := (3 : Int32)) (pc := 584) X0 hx (hb hby at_584) rfl ?_
                          refine o_newP (pc := 586) X0 hx hZ (hw _ (List.mem_of_getElem? (i := 225) rfl)) e0 (hb hby at_586) (by decide) 3 (by decide) (by decide) (by decide) (by decide) fun T616 h616 b616 k616 X616 e616 g616 E616 V616 => ?_
                          have O617 := O0.ext E616
                          have B617 := B0.ext E616
                          have V616p : Arv Z h616 b616 k616 .char (3 : Int32) [(.int (0 : Int32)), (.int (0 : Int32)), (.int (0 : Int32))] (.int (0 : Int32)) := V616.pad (pad_rep [] (.int (0 : Int32)) 3)
                          refine o_astore (l' := #[.val (.int p1), .val (.int p2), .val (.int p3), .val (.int p4), .val (.int p5), .val (.int ((p1 &&& (2147483647 : Int32)) % (12 : Int32))), .val (.int (p3 &&& (255 : Int32))), .val (.int (p2 &&& (2147483647 : Int32))), .unset, .unset, .val (.int (3 : Int32)), .val (.ref b616)]) (pc := 588) X616 hx (hb hby at_588) rfl rfl ?_
                          refine o_iload (v := (3 : Int32)) (pc := 590) X616 hx (hb hby at_590) rfl ?_
                          refine o_ifNo (pc := 592) X616 hx (hb hby at_592) ((if0 _ _).trans (tlt (by decide : (0 : Int32) < (3 : Int32))).2.2.2) ?_
                          refine o_aload (v := (.ref b616)) (pc := 595) X616 hx (hb hby at_595) rfl rfl ?_
                          refine o_iconst (pc := 597) X616 hx (0 : Int32) (hb hby at_597) rfl ?_
                          refine o_iload (v := (p3 &&& (255 : Int32))) (pc := 598) X616 hx (hb hby at_598) rfl ?_
                          refine o_castore (pc := 600) X616 hx hZ e616 V616p ⟨by decide, by decide⟩ 0 rfl (Nat.le_of_ble_eq_true rfl) (hb hby at_600) fun T618 h618 X618 e618 W618 V618 => ?_
                          rw [o_narc] at V618
                          have N618 := Fr.snoc X618 N0 (Nat.le_trans (o_n0 O0) g616)
                          have O619 := O617.wr W618 (Nat.le_trans (o_n0 O0) g616)
                          have B619 := B617.wr W618 (Safe.arv hZ0.alike V616p (by decide))
                          refine o_iload (v := (3 : Int32)) (pc := 601) X618 hx (hb hby at_601) rfl ?_
                          refine o_iconst (pc := 603) X618 hx (1 : Int32) (hb hby at_603) rfl ?_
                          refine o_icmpNo (pc := 604) X618 hx (hb hby at_604) (tlt (by decide : (1 : Int32) < (3 : Int32))).2.2.2 ?_
                          refine o_aload (v := (.ref b616)) (pc := 607) X618 hx (hb hby at_607) rfl rfl ?_
                          refine o_iconst (pc := 609) X618 hx (1 : Int32) (hb hby at_609) rfl ?_
                          refine o_iloadN (v := p4) (pc := 610) X618 hx (hb hby at_610) rfl ?_
                          refine o_sipush (pc := 611) X618 hx (255 : Int32) (hb hby at_611) rfl ?_
                          refine o_iand (pc := 614) X618 hx (hb hby at_614) ?_
                          refine o_i2c (pc := 615) X618 hx (hb hby at_615) ?_
                          rw [i2c_mask]
                          refine o_castore (pc := 616) X618 hx hZ e618 V618 ⟨by decide, by decide⟩ 1 rfl (Nat.le_of_ble_eq_true rfl) (hb hby at_616) fun T620 h620 X620 e620 W620 V620 => ?_
                          rw [o_narc] at V620
                          have N620 := Fr.snoc X620 N618 (Nat.le_trans (o_n0 O0) g616)
                          have O621 := O619.wr W620 (Nat.le_trans (o_n0 O0) g616)
                          have B621 := B619.wr W620 (Safe.arv hZ0.alike V618 (by decide))
                          refine o_iload (v := (3 : Int32)) (pc := 617) X620 hx (hb hby at_617) rfl ?_
                          refine o_iconst (pc := 619) X620 hx (2 : Int32) (hb hby at_619) rfl ?_
                          refine o_icmpNo (pc := 620) X620 hx (hb hby at_620) (tlt (by decide : (2 : Int32) < (3 : Int32))).2.2.2 ?_
                          refine o_aload (v := (.ref b616)) (pc := 623) X620 hx (hb hby at_623) rfl rfl ?_
                          refine o_iconst (pc := 625) X620 hx (2 : Int32) (hb hby at_625) rfl ?_
                          refine o_iload (v := p5) (pc := 626) X620 hx (hb hby at_626) rfl ?_
                          refine o_sipush (pc := 628) X620 hx (255 : Int32) (hb hby at_628) rfl ?_
                          refine o_iand (pc := 631) X620 hx (hb hby at_631) ?_
                          refine o_i2c (pc := 632) X620 hx (hb hby at_632) ?_
                          rw [i2c_mask]
                          refine o_castore (pc := 633) X620 hx hZ e620 V620 ⟨by decide, by decide⟩ 2 rfl (Nat.le_of_ble_eq_true rfl) (hb hby at_633) fun T622 h622 X622 e622 W622 V622 => ?_
                          rw [o_narc] at V622
                          have N622 := Fr.snoc X622 N620 (Nat.le_trans (o_n0 O0) g616)
                          have O623 := O621.wr W622 (Nat.le_trans (o_n0 O0) g616)
                          have B623 := B621.wr W622 (Safe.arv hZ0.alike V620 (by decide))
                          refine o_new (pc := 634) X622 hx hZ hown (hw _ (List.mem_of_getElem? (i := 226) rfl)) (hw _ (List.mem_of_getElem? (i := 3) rfl)) (hw _ (List.mem_of_getElem? (i := 2) rfl)) e622 (hb hby at_634) (by decide) (by decide) fun T624 h624 b624 X624 e624 g624 E624 A624 D624 U624 => ?_
                          have O625 := O623.ext E624
                          have B625 := B623.ext E624
                          have F624_value : Fld Z h624 b624 "java/lang/String" "value" "[B" .null := D624 (Or.inr (hw _ (List.mem_of_getElem? (i := 5) rfl))) (ty := (.array .byte)) (by decide)
                          have F624_coder : Fld Z h624 b624 "java/lang/String" "coder" "B" (.int (0 : Int32)) := D624 (Or.inr (hw _ (List.mem_of_getElem? (i := 6) rfl))) (ty := .byte) (by decide)
                          refine o_dup (pc := 637) X624 hx (hb hby at_637) rfl ?_
                          refine o_aload (v := (.ref b616)) (pc := 638) X624 hx (hb hby at_638) rfl rfl ?_
                          refine o_callN (pc := 640) X624 hx hZ (y := (⟨"java/lang/String", "<init>", "([C)V"⟩ : MethodName)) (a := b624) (argsL := [(.ref b616)]) (rest := [(.ref b624)]) rfl hown (hw _ (List.mem_of_getElem? (i := 227) rfl)) (hw _ (List.mem_of_getElem? (i := 228) rfl)) (hw _ (List.mem_of_getElem? (i := 2) rfl)) (hw _ (List.mem_of_getElem? (i := 229) rfl)) (by decide) (rmSCL l Z a0 hw [] b624 b616 k616 cs [(p3 &&& (255 : Int32)), (p4 &&& (255 : Int32)), (p5 &&& (255 : Int32))] (3 : Int32) h624 n0 O625 A624 F624_coder F624_value (Nat.le_trans (o_n0 O623) g624) (V622.ext E624) SC hcs rfl (by decide) (fun c hc => by simp only [List.mem_cons, List.not_mem_nil, or_false] at hc; rcases hc with rfl | rfl | rfl <;> first | decide | exact (c_and p3) | exact (c_and p4) | exact (c_and p5)) (by decide) (by decide)) e624 (by rw [hml]; rfl) (lenOf o_pd27 rfl) (has := rfl) (hst := rfl) (W := 1) (Nat.le_of_ble_eq_true rfl) (hb hby at_640) (by decide) (by decide) (by decide) (by decide) fun v626 T626 h626 L626 X626 e626 q626 => ?_
                          obtain ⟨rfl, N626q, K626, Fc626, d626, k626, g626, Fv626, V626⟩ := q626
                          have N626 := Fr.app N622 N626q
                          have VL626 : Arv Z h626 d626 k626 .byte (3 : Int32) [(.int ((p3 &&& (255 : Int32)).toInt8.toInt32)), (.int ((p4 &&& (255 : Int32)).toInt8.toInt32)), (.int ((p5 &&& (255 : Int32)).toInt8.toInt32))] (.int 0) := V626
                          have O627 := O625.keep K626 (allS (Nat.le_trans (o_n0 O623) g624) all0)
                          have B627 := B625.keep K626 (allS (Safe.ext E624 B623.chv (Safe.new g624)) all0)
                          show Go p e below T626 (mkF m 643 #[.val (.int p1), .val (.int p2), .val (.int p3), .val (.int p4), .val (.int p5), .val (.int ((p1 &&& (2147483647 : Int32)) % (12 : Int32))), .val (.int (p3 &&& (255 : Int32))), .val (.int (p2 &&& (2147483647 : Int32))), .unset, .unset, .val (.int (3 : Int32)), .val (.ref b616)] [(.ref b624)]) _
                          refine o_astore (l' := #[.val (.int p1), .val (.int p2), .val (.int p3), .val (.int p4), .val (.int p5), .val (.int ((p1 &&& (2147483647 : Int32)) % (12 : Int32))), .val (.int (p3 &&& (255 : Int32))), .val (.int (p2 &&& (2147483647 : Int32))), .val (.ref b624), .unset, .val (.int (3 : Int32)), .val (.ref b616)]) (pc := 643) X626 hx (hb hby at_643) rfl rfl ?_
                          refine o_iconst (pc := 645) X626 hx (0 : Int32) (hb hby at_645) rfl ?_
                          refine o_istore (l' := #[.val (.int p1), .val (.int p2), .val (.int p3), .val (.int p4), .val (.int p5), .val (.int ((p1 &&& (2147483647 : Int32)) % (12 : Int32))), .val (.int (p3 &&& (255 : Int32))), .val (.int (p2 &&& (2147483647 : Int32))), .val (.ref b624), .val (.int (0 : Int32)), .val (.int (3 : Int32)), .val (.ref b616)]) (pc := 646) X626 hx (hb hby at_646) rfl ?_
                          show Go p e below T626 (mkF m 648 #[.val (.int p1), .val (.int p2), .val (.int p3), .val (.int p4), .val (.int p5), .val (.int ((p1 &&& (2147483647 : Int32)) % (12 : Int32))), .val (.int (p3 &&& (255 : Int32))), .val (.int (p2 &&& (2147483647 : Int32))), .val (.ref b624), .val (.int (0 : Int32)), .val (.int (3 : Int32)), .val (.ref b616)] []) _
                          exact tlA l Z a0 hw u w cs b624 d626 (3 : Int32) h626 n0 (Or.inr (Or.inl ⟨_, rfl⟩)) hx hby hml hret hlk hh hTK hBe (X626.more (by decide) (by decide)) e626 B627 hZ hown O627 N626 (ThS.keep K626 (nsS A624.nostat ns0) (((((HT.ext E616).wr W618).wr W620).wr W622).ext E624)) hst SU SW hu hw2 SC hcs (A624.keep K626) Fc626 Fv626 (Byt.of VL626 rfl) (by decide) (by decide) (by decide) (by decide)
set_option maxRecDepth 65536 in
set_option maxHeartbeats 40000000 in
theorem comes_1 {Post : Tables → Env → Array Value → State → Outcome → State → Prop} (hpost : ∀ tb e args s v u, (limb_1_1.after args s (.returned v) u = true ∧ limb_1_2.after args s (.returned v) u = true ∧ True) → ReturnedEndW s (.returned v) u (Jvm.fieldLocs frame_1_writes args s ++ Jvm.arrayLocs frame_1_arrays args s ++ Jvm.staticLocs frame_1_statics s) 56 17152 → Post tb e args s (.returned v) u) :
    ArmFor flags0 classFile x code maxLocals ret World_1 tables_1 room_1 Calls_1 rest_1 Pre_1 Post := by
  intro l hfl _ _ p e ha hc hk s m args below hf hA hF happ hP
  obtain ⟨hcalls, hrest, hpre⟩ := hP
  obtain ⟨-, -, -, hnamed, -, -, -, hat⟩ := (Spec.applies_iff hf).mp happ
  obtain ⟨hg, hn⟩ := and_e (Cond.before_iff.mp (show (Jvm.Cond.and given_1 narrow_1).before args s = true from hpre))
  obtain ⟨g628, g629⟩ := and_e hg
  obtain ⟨g630, g631⟩ := and_e g629
  obtain ⟨g632, g633⟩ := and_e g631
  obtain ⟨g634, g635⟩ := and_e g633
  obtain ⟨g636, g637⟩ := and_e g635
  obtain ⟨w0, w1, w2, w3, w4, rfl⟩ : ∃ w0 w1 w2 w3 w4 : Value, args = #[w0, w1, w2, w3, w4] := by
    have hs : args.size = 5 := by simpa [Cond.value, given_1] using g628
    obtain ⟨L⟩ := args
    match L, hs with
    | [w0, w1, w2, w3, w4], _ => exact ⟨w0, w1, w2, w3, w4, rfl⟩
  have hw := fun d (hd : d ∈ tables_1) => atoms_spec (ws := Jvm.Cond.code x code maxLocals ret :: tables_1) hat d (List.mem_cons_of_mem _ hd)
  have hfit : Fit s := fun {y c} hc i hi => by
    obtain ⟨ha, rfl⟩ := Array.getElem?_eq_some_iff.mp hc
    have q := List.all_eq_true.mp ((Array.all_eq_true_iff_forall_mem.mp hF) _ (Array.getElem_mem ha)) i (List.mem_range.mpr hi)
    simpa [Array.getElem?_eq_getElem hi] using q
  obtain ⟨i0, ei0⟩ := is_v g630
  obtain rfl : w0 = (.int i0) := Option.some.inj ei0
  obtain ⟨i1, ei1⟩ := is_v g632
  obtain rfl : w1 = (.int i1) := Option.some.inj ei1
  obtain ⟨i2, ei2⟩ := is_v g634
  obtain rfl : w2 = (.int i2) := Option.some.inj ei2
  obtain ⟨i3, ei3⟩ := is_v g636
  obtain rfl : w3 = (.int i3) := Option.some.inj ei3
  obtain ⟨i4, ei4⟩ := is_v g637
  obtain rfl : w4 = (.int i4) := Option.some.inj ei4
  obtain ⟨hsets, hown0⟩ := atoms_of _ (rest_1_c_eq ▸ (show rest_1_c.before _ s = true from hrest))
  obtain ⟨cs, evcs⟩ := is_v (Cond.before_iff.mp (hsets _ (List.mem_of_getElem? (i := 1) rfl)))
  have SC := Sta.start evcs (Or.inl (hsets _ (List.mem_of_getElem? (i := 0) rfl)))
  have hcs : ¬ cs = (0 : Int32) := gotF (Cond.eq_ints evcs (Term.int_eval 0)) (not_v (Cond.before_iff.mp (hsets _ (List.mem_of_getElem? (i := 2) rfl))))
  have H0 : CHv s consts_1 s.vm s.heap := CHv.start (o_EW hw) (fun p hp => hcalls.2.2.1 p hp) (hsets _ (List.mem_of_getElem? (i := 2) rfl)) (hw _ (List.mem_of_getElem? (i := 4) rfl)) (hw _ (List.mem_of_getElem? (i := 3) rfl))
  obtain ⟨u, eu, fu⟩ := static_fit hfit (hw _ (List.mem_of_getElem? (i := 196) rfl)) (ty := (.array (.object "java/lang/StackTraceElement"))) (by decide)
  obtain ⟨w, ew, fw⟩ := static_fit hfit (hw _ (List.mem_of_getElem? (i := 197) rfl)) (ty := (.object "java/util/List")) (by decide)
  have SU := Sta.start eu (Or.inr ⟨(hw _ (List.mem_of_getElem? (i := 165) rfl)), (hw _ (List.mem_of_getElem? (i := 196) rfl))⟩)
  have SW := Sta.start ew (Or.inr ⟨(hw _ (List.mem_of_getElem? (i := 165) rfl)), (hw _ (List.mem_of_getElem? (i := 197) rfl))⟩)
  have hst : l.stackTraces = true := by show (!l.flags.contains noTraceFlag) = true; rw [hfl]; first | decide | decide +kernel
  obtain ⟨n, o, h1, h2, h3, _, L, rfl, ⟨rfl, N⟩, -, hq⟩ := rm0 l s _ hw tables_1 i0 i1 i2 i3 i4 u w cs s.heap s.heap.size (Old.start s) ThS.start hst SU SW (o_fitA fu) (o_fitO fw) SC hcs p e ha hc hk s m _ below hf ((Spec.applies_iff_loose hf).mp happ).1 ⟨rfl, State.Warmed39.refl s, rfl, H0⟩ ⟨MethodsKnown_of_tablesKnown hcalls.2.1, FramesKnown_of_framesKnown hcalls.1 hf⟩
  refine ⟨n, _, h1, h2, h3, hpost _ _ _ _ _ _ ⟨Cond.after_iff.mpr rfl, Cond.after_iff.mpr (eq_i res_at (Term.int_eval (1)) rfl), trivial⟩ ⟨hq.1, hq.2.1, hq.2.2.1, (hq.2.2.2.sift fun y hy => Or.inr (N y hy)).mono (by decide) (by decide)⟩⟩
theorem main_1_1 : Claimed_1_1 := comes_1 fun _ _ _ _ _ _ h hF => ⟨h.1, hF⟩
theorem main_1_2 : Claimed_1_2 := comes_1 fun _ _ _ _ _ _ h hF => ⟨h.2.1, hF⟩
end Jvm.Pilot.@@N@@
namespace Jvm.Pilot.@@N@@
open Jvm Jvm.ClassFile Sem Op Lib Jvm.Free Jvm.Stand Jvm.Pilot.@@N@@.Jvm.D
/-! MADE BY PROGRAM (witnessworld.py) out of the Statement's table words and the real class files: 42 classes; the members and pool entries that the words name. The judged class is class 1, her method 1. -/
namespace start1
open Jvm.ClassFile
def u (s : String) : CpInfo := .utf8 (stringToUtf16 s)
/-- a pool by its gaps: so many unusable entries, then the entry; so many at the end -/
def gap : Nat → List CpInfo → List CpInfo
  | 0, r => r
  | n + 1, r => .unusable :: gap n r
def poolList (es : List (Nat × CpInfo)) (last : Nat) : List CpInfo := es.foldr (fun e r => gap e.1 (e.2 :: r)) (gap last [])
def pool (es : List (Nat × CpInfo)) (last : Nat) : Array CpInfo := ⟨poolList es last⟩
def fileOf (pool : Array CpInfo) (this : Nat) (attrs : Array Attribute := #[]) (ms : Array MethodInfo := #[]) (fl : Nat := 33) (sup : Nat := 0) (ifs : Array Nat := #[]) (fds : Array FieldInfo := #[]) : ClassFile where
  minorVersion := 0
  majorVersion := 65
  constantPool := pool
  accessFlags := fl
  thisClass := this
  superClass := sup
  interfaces := ifs
  fields := fds
  methods := ms
  attributes := attrs
def plain (name : String) (sup : Option ClassId) : Class where
  name := name
  kind := .ordinary
  loader := none
  accessFlags := 33
  super := sup
  interfaces := #[]
  cf := none
  fields := #[]
  methods := #[]
  instanceTypes := #[]
  staticTypes := #[]
  resolved := #[]
  callSites := []
  init := .initialized
  statics := none
  mirror := none

def pool0 : Array CpInfo := pool [(5, u "<init>"), (0, u "()V"), (1, .class_ 10), (1, u "java/lang/Object"), (85, u "clone"), (0, u "()Ljava/lang/Object;")] 26

def k0c0 : Code := { maxStack := 0, maxLocals := 1, code := object_method_1_code, exceptionTable := #[], attributes := #[] }
def k0m0 : Method := { name := "<init>", desc := "()V", sig := { parameters := [], returnType := none }, accessFlags := 1, code := some k0c0 }
def k0m1 : Method := { name := "clone", desc := "()Ljava/lang/Object;", sig := { parameters := [], returnType := some (.object "java/lang/Object") }, accessFlags := 260, code := none }
/-- java/lang/Object -/
def k0 : Class := { plain "java/lang/Object" none with
  accessFlags := 33
  interfaces := #[]
  cf := some (fileOf pool0 8 #[] #[{ accessFlags := 1, nameIndex := 5, descriptorIndex := 6, attributes := #[] }, { accessFlags := 260, nameIndex := 96, descriptorIndex := 97, attributes := #[] }] 33 0 #[] #[])
  fields := #[]
  methods := #[k0m0, k0m1]
  instanceTypes := #[]
  staticTypes := #[]
  resolved := Array.replicate 124 none
  statics := none }

def pool1 : Array CpInfo := pool [(2, .class_ 4), (1, u "java/lang/Object"), (0, u "<init>"), (0, u "()V"), (0, .integer 2147483647), (0, .string 9), (0, u "deadlock"), (0, .string 11), (0, u "lease lost"), (0, .string 13), (0, u "lock wait timeout"), (0, .string 15), (0, u "interrupted"), (0, .string 17), (0, u "duplicate key"), (0, .string 19), (0, u "timeout"), (0, .class_ 21), (0, u "java/lang/String"), (0, .methodref 20 23), (0, .nameAndType 5 24), (0, u "([C)V"), (0, .class_ 26), (0, u "com/example/twinstate/twinstate/TransactionRolledBackException"), (0, .methodref 25 28), (0, .nameAndType 5 29), (0, u "(Ljava/lang/String;)V"), (0, .methodref 25 31), (0, .nameAndType 32 33), (0, u "rerunnable"), (0, u "()Z"), (0, .class_ 35), (0, u "com/example/twinstate/twinstate/TransactionRolledBackExceptionRerunnablePinLaw"), (2, u "law"), (0, u "(IIIII)Z")] 5

def k1m0 : Method := { name := "<init>", desc := "()V", sig := { parameters := [], returnType := none }, accessFlags := 1, code := none }
def k1c1 : Code := { maxStack := 4, maxLocals := 12, code := code, exceptionTable := #[], attributes := #[] }
def k1m1 : Method := { name := "law", desc := "(IIIII)Z", sig := { parameters := [.int, .int, .int, .int, .int], returnType := some .boolean }, accessFlags := 9, code := some k1c1 }
/-- com/example/twinstate/twinstate/TransactionRolledBackExceptionRerunnablePinLaw -/
def k1 : Class := { plain "com/example/twinstate/twinstate/TransactionRolledBackExceptionRerunnablePinLaw" (some 0) with
  accessFlags := 49
  interfaces := #[]
  cf := some (fileOf pool1 34 #[] #[{ accessFlags := 1, nameIndex := 5, descriptorIndex := 6, attributes := #[] }, { accessFlags := 9, nameIndex := 38, descriptorIndex := 39, attributes := #[] }] 49 2 #[] #[])
  fields := #[]
  methods := #[k1m0, k1m1]
  instanceTypes := #[]
  staticTypes := #[]
  resolved := Array.replicate 45 none
  statics := none }

def pool2 : Array CpInfo := pool [(1, .class_ 2), (0, u "java/io/Serializable"), (0, .class_ 4), (0, u "java/lang/Object")] 2

/-- java/io/Serializable -/
def k2 : Class := { plain "java/io/Serializable" (some 0) with
  accessFlags := 1537
  interfaces := #[]
  cf := some (fileOf pool2 1 #[] #[] 1537 3 #[] #[])
  fields := #[]
  methods := #[]
  instanceTypes := #[]
  staticTypes := #[]
  resolved := Array.replicate 7 none
  statics := none }

def pool3 : Array CpInfo := pool [(1, .class_ 2), (0, u "java/lang/Comparable"), (0, .class_ 4), (0, u "java/lang/Object")] 7

/-- java/lang/Comparable -/
def k3 : Class := { plain "java/lang/Comparable" (some 0) with
  accessFlags := 1537
  interfaces := #[]
  cf := some (fileOf pool3 1 #[] #[] 1537 3 #[] #[])
  fields := #[]
  methods := #[]
  instanceTypes := #[]
  staticTypes := #[]
  resolved := Array.replicate 12 none
  statics := none }

def pool4 : Array CpInfo := pool [(2, .class_ 4), (1, u "java/lang/CharSequence"), (42, .class_ 48), (0, u "java/lang/CharSequence$1CodePointIterator"), (10, .class_ 60), (0, u "java/lang/CharSequence$1CharIterator"), (5, .class_ 67), (0, u "java/lang/Object")] 63

/-- java/lang/CharSequence -/
def k4 : Class := { plain "java/lang/CharSequence" (some 0) with
  accessFlags := 1537
  interfaces := #[]
  cf := some (fileOf pool4 2 #[.nestMembers #[47, 59]] #[] 1537 66 #[] #[])
  fields := #[]
  methods := #[]
  instanceTypes := #[]
  staticTypes := #[]
  resolved := Array.replicate 131 none
  statics := none }

def pool5 : Array CpInfo := pool [(1, .class_ 2), (0, u "java/lang/constant/Constable"), (0, .class_ 4), (0, u "java/lang/Object")] 6

/-- java/lang/constant/Constable -/
def k5 : Class := { plain "java/lang/constant/Constable" (some 0) with
  accessFlags := 1537
  interfaces := #[]
  cf := some (fileOf pool5 1 #[] #[] 1537 3 #[] #[])
  fields := #[]
  methods := #[]
  instanceTypes := #[]
  staticTypes := #[]
  resolved := Array.replicate 11 none
  statics := none }

def pool6 : Array CpInfo := pool [(1, .class_ 2), (0, u "java/lang/constant/ConstantDesc"), (0, .class_ 4), (0, u "java/lang/Object")] 32

/-- java/lang/constant/ConstantDesc -/
def k6 : Class := { plain "java/lang/constant/ConstantDesc" (some 0) with
  accessFlags := 1537
  interfaces := #[]
  cf := some (fileOf pool6 1 #[] #[] 1537 3 #[] #[])
  fields := #[]
  methods := #[]
  instanceTypes := #[]
  staticTypes := #[]
  resolved := Array.replicate 37 none
  statics := none }

def pool7 : Array CpInfo := pool [(1, .methodref 2 3), (0, .class_ 4), (0, .nameAndType 5 6), (0, u "java/lang/Object"), (0, u "<init>"), (0, u "()V"), (0, .string 8), (0, u ""), (0, .fieldref 10 11), (0, .class_ 12), (0, .nameAndType 13 14), (0, u "java/lang/String"), (0, u "value"), (0, u "[B"), (0, .fieldref 10 16), (0, .nameAndType 17 18), (0, u "coder"), (0, u "B"), (2, u "hash"), (0, u "I"), (2, u "hashIsZero"), (0, u "Z"), (0, .methodref 10 28), (0, .nameAndType 5 29), (0, u "([CIILjava/lang/Void;)V"), (8, .fieldref 10 39), (0, .nameAndType 40 26), (0, u "COMPACT_STRINGS"), (1, .class_ 44), (1, u "java/lang/StringUTF16"), (0, u "compress"), (1, .methodref 42 48), (0, .nameAndType 49 50), (0, u "coderFromArrayLen"), (0, u "([BI)B"), (3, .methodref 55 56), (0, .class_ 57), (0, .nameAndType 58 59), (0, u "java/util/Arrays"), (0, u "copyOfRange"), (0, u "([BII)[B"), (47, .class_ 109), (1, u "java/lang/StringLatin1"), (32, u "()Z"), (34, .methodref 42 178), (0, .nameAndType 45 179), (0, u "([CII)[B"), (13, .class_ 195), (1, u "java/lang/System"), (16, .methodref 193 213), (0, .nameAndType 214 215), (0, u "arraycopy"), (0, u "(Ljava/lang/Object;ILjava/lang/Object;II)V"), (118, u "()I"), (0, .methodref 10 336), (0, .nameAndType 17 337), (0, u "()B"), (2, u "()[B"), (148, .methodref 10 490), (0, .nameAndType 5 491), (0, u "(Ljava/lang/AbstractStringBuilder;Ljava/lang/Void;)V"), (1, .nameAndType 494 142), (0, u "isLatin1"), (11, .nameAndType 507 334), (0, u "length"), (24, u "getBytes"), (8, .methodref 107 542), (0, .nameAndType 543 544), (0, u "equals"), (0, u "([B[B)Z"), (4, .methodref 550 506), (0, .class_ 551), (0, u "java/lang/AbstractStringBuilder"), (0, .methodref 550 553), (0, .nameAndType 554 340), (0, u "getValue"), (18, u "(Ljava/lang/Object;)Z"), (1, .class_ 576), (0, u "java/lang/CharSequence"), (22, u "CASE_INSENSITIVE_ORDER"), (0, u "Ljava/util/Comparator;"), (220, u "([BIB)V"), (188, u "([C)V"), (36, .methodref 550 493), (53, u "serialPersistentFields"), (0, u "[Ljava/io/ObjectStreamField;"), (0, .class_ 1104), (0, u "java/lang/String$CaseInsensitiveComparator"), (1, .class_ 1107), (0, u "java/io/Serializable"), (0, .class_ 1109), (0, u "java/lang/Comparable"), (0, .class_ 1111), (0, u "java/lang/constant/Constable"), (0, .class_ 1113), (0, u "java/lang/constant/ConstantDesc"), (2, u "serialVersionUID"), (0, u "J"), (3, u "REPL"), (0, u "C"), (2, u "LATIN1"), (1, u "UTF16"), (105, u "(Ljava/lang/StringBuilder;)V")] 217

def k7m0 : Method := { name := "<init>", desc := "()V", sig := { parameters := [], returnType := none }, accessFlags := 1, code := none }
def k7c1 : Code := { maxStack := 5, maxLocals := 2, code := jdk_42_method_3_code, exceptionTable := #[], attributes := #[] }
def k7m1 : Method := { name := "<init>", desc := "([C)V", sig := { parameters := [(.array .char)], returnType := none }, accessFlags := 1, code := some k7c1 }
def k7c2 : Code := { maxStack := 3, maxLocals := 2, code := jdk_42_method_53_code, exceptionTable := #[], attributes := #[] }
def k7m2 : Method := { name := "<init>", desc := "(Ljava/lang/StringBuilder;)V", sig := { parameters := [(.object "java/lang/StringBuilder")], returnType := none }, accessFlags := 1, code := some k7c2 }
def k7c3 : Code := { maxStack := 2, maxLocals := 1, code := jdk_42_method_54_code, exceptionTable := #[], attributes := #[] }
def k7m3 : Method := { name := "length", desc := "()I", sig := { parameters := [], returnType := some .int }, accessFlags := 1, code := some k7c3 }
def k7c4 : Code := { maxStack := 2, maxLocals := 3, code := jdk_42_method_66_code, exceptionTable := #[], attributes := #[] }
def k7m4 : Method := { name := "equals", desc := "(Ljava/lang/Object;)Z", sig := { parameters := [(.object "java/lang/Object")], returnType := some .boolean }, accessFlags := 1, code := some k7c4 }
def k7c5 : Code := { maxStack := 5, maxLocals := 4, code := jdk_42_method_147_code, exceptionTable := #[], attributes := #[] }
def k7m5 : Method := { name := "getBytes", desc := "([BIB)V", sig := { parameters := [(.array .byte), .int, .byte], returnType := none }, accessFlags := 0, code := some k7c5 }
def k7c6 : Code := { maxStack := 4, maxLocals := 6, code := jdk_42_method_149_code, exceptionTable := #[], attributes := #[] }
def k7m6 : Method := { name := "<init>", desc := "([CIILjava/lang/Void;)V", sig := { parameters := [(.array .char), .int, .int, (.object "java/lang/Void")], returnType := none }, accessFlags := 2, code := some k7c6 }
def k7c7 : Code := { maxStack := 5, maxLocals := 5, code := jdk_42_method_150_code, exceptionTable := #[], attributes := #[] }
def k7m7 : Method := { name := "<init>", desc := "(Ljava/lang/AbstractStringBuilder;Ljava/lang/Void;)V", sig := { parameters := [(.object "java/lang/AbstractStringBuilder"), (.object "java/lang/Void")], returnType := none }, accessFlags := 0, code := some k7c7 }
def k7c8 : Code := { maxStack := 1, maxLocals := 1, code := jdk_42_method_152_code, exceptionTable := #[], attributes := #[] }
def k7m8 : Method := { name := "coder", desc := "()B", sig := { parameters := [], returnType := some .byte }, accessFlags := 0, code := some k7c8 }
/-- java/lang/String -/
def k7 : Class := { plain "java/lang/String" (some 0) with
  accessFlags := 49
  interfaces := #[2, 3, 4, 5, 6]
  cf := some (fileOf pool7 10 #[.nestMembers #[1103]] #[{ accessFlags := 1, nameIndex := 5, descriptorIndex := 6, attributes := #[] }, { accessFlags := 1, nameIndex := 5, descriptorIndex := 1010, attributes := #[] }, { accessFlags := 1, nameIndex := 5, descriptorIndex := 1233, attributes := #[] }, { accessFlags := 1, nameIndex := 507, descriptorIndex := 334, attributes := #[] }, { accessFlags := 1, nameIndex := 543, descriptorIndex := 573, attributes := #[] }, { accessFlags := 0, nameIndex := 532, descriptorIndex := 821, attributes := #[] }, { accessFlags := 2, nameIndex := 5, descriptorIndex := 29, attributes := #[] }, { accessFlags := 0, nameIndex := 5, descriptorIndex := 491, attributes := #[] }, { accessFlags := 0, nameIndex := 17, descriptorIndex := 337, attributes := #[] }] 49 2 #[1106, 1108, 575, 1110, 1112] #[{ accessFlags := 18, nameIndex := 13, descriptorIndex := 14, attributes := #[] }, { accessFlags := 18, nameIndex := 17, descriptorIndex := 18, attributes := #[] }, { accessFlags := 2, nameIndex := 21, descriptorIndex := 22, attributes := #[] }, { accessFlags := 2, nameIndex := 25, descriptorIndex := 26, attributes := #[] }, { accessFlags := 26, nameIndex := 1116, descriptorIndex := 1117, attributes := #[] }, { accessFlags := 24, nameIndex := 40, descriptorIndex := 26, attributes := #[] }, { accessFlags := 26, nameIndex := 1101, descriptorIndex := 1102, attributes := #[] }, { accessFlags := 26, nameIndex := 1121, descriptorIndex := 1122, attributes := #[] }, { accessFlags := 25, nameIndex := 599, descriptorIndex := 600, attributes := #[] }, { accessFlags := 24, nameIndex := 1125, descriptorIndex := 18, attributes := #[] }, { accessFlags := 24, nameIndex := 1127, descriptorIndex := 18, attributes := #[] }])
  fields := #[{ name := "value", type := (.array .byte), accessFlags := 18, slot := 0, constantValue := 0 }, { name := "coder", type := .byte, accessFlags := 18, slot := 1, constantValue := 0 }, { name := "hash", type := .int, accessFlags := 2, slot := 2, constantValue := 0 }, { name := "hashIsZero", type := .boolean, accessFlags := 2, slot := 3, constantValue := 0 }, { name := "serialVersionUID", type := .long, accessFlags := 26, slot := 0, constantValue := 0 }, { name := "COMPACT_STRINGS", type := .boolean, accessFlags := 24, slot := 1, constantValue := 0 }, { name := "serialPersistentFields", type := (.array (.object "java/io/ObjectStreamField")), accessFlags := 26, slot := 2, constantValue := 0 }, { name := "REPL", type := .char, accessFlags := 26, slot := 3, constantValue := 0 }, { name := "CASE_INSENSITIVE_ORDER", type := (.object "java/util/Comparator"), accessFlags := 25, slot := 4, constantValue := 0 }, { name := "LATIN1", type := .byte, accessFlags := 24, slot := 5, constantValue := 0 }, { name := "UTF16", type := .byte, accessFlags := 24, slot := 6, constantValue := 0 }]
  methods := #[k7m0, k7m1, k7m2, k7m3, k7m4, k7m5, k7m6, k7m7, k7m8]
  instanceTypes := #[(.array .byte), .byte, .int, .boolean]
  staticTypes := #[.long, .boolean, (.array (.object "java/io/ObjectStreamField")), .char, (.object "java/util/Comparator"), .byte, .byte]
  resolved := Array.replicate 1451 none
  statics := some 0 }

def pool8 : Array CpInfo := pool [(1, .methodref 2 3), (0, .class_ 4), (0, .nameAndType 5 6), (0, u "java/lang/Object"), (0, u "<init>"), (0, u "()V"), (0, .fieldref 8 9), (0, .class_ 10), (0, .nameAndType 11 12), (0, u "java/lang/Throwable"), (0, u "cause"), (0, u "Ljava/lang/Throwable;"), (0, .fieldref 8 14), (0, .nameAndType 15 16), (0, u "UNASSIGNED_STACK"), (0, u "[Ljava/lang/StackTraceElement;"), (0, .fieldref 8 18), (0, .nameAndType 19 16), (0, u "stackTrace"), (0, .fieldref 8 21), (0, .nameAndType 22 23), (0, u "SUPPRESSED_SENTINEL"), (0, u "Ljava/util/List;"), (0, .fieldref 8 25), (0, .nameAndType 26 23), (0, u "suppressedExceptions"), (0, .methodref 8 28), (0, .nameAndType 29 30), (0, u "fillInStackTrace"), (0, u "()Ljava/lang/Throwable;"), (0, .fieldref 8 32), (0, .nameAndType 33 34), (0, u "detailMessage"), (0, u "Ljava/lang/String;"), (58, .class_ 94), (0, u "java/lang/Throwable$WrappedPrintStream"), (6, .class_ 103), (1, u "java/lang/Throwable$PrintStreamOrWriter"), (61, u "$assertionsDisabled"), (0, u "Z"), (26, .class_ 194), (0, u "java/lang/Throwable$WrappedPrintWriter"), (3, .fieldref 8 199), (0, .nameAndType 200 201), (0, u "backtrace"), (0, u "Ljava/lang/Object;"), (0, .methodref 8 203), (0, .nameAndType 29 204), (0, u "(I)Ljava/lang/Throwable;"), (6, u "depth"), (0, u "I"), (10, u "(Ljava/lang/String;)V"), (45, .class_ 271), (1, u "java/lang/Throwable$SentinelHolder"), (32, u "EMPTY_THROWABLE_ARRAY"), (0, u "[Ljava/lang/Throwable;"), (12, .class_ 319), (0, u "java/io/Serializable"), (0, u "serialVersionUID"), (0, u "J"), (5, u "NULL_CAUSE_MESSAGE"), (0, u "SELF_SUPPRESSION_MESSAGE"), (0, u "CAUSE_CAPTION"), (0, u "SUPPRESSED_CAPTION")] 73

def k8c0 : Code := { maxStack := 2, maxLocals := 1, code := jdk_78_method_1_code, exceptionTable := #[], attributes := #[] }
def k8m0 : Method := { name := "<init>", desc := "()V", sig := { parameters := [], returnType := none }, accessFlags := 1, code := some k8c0 }
def k8c1 : Code := { maxStack := 2, maxLocals := 2, code := jdk_78_method_2_code, exceptionTable := #[], attributes := #[] }
def k8m1 : Method := { name := "<init>", desc := "(Ljava/lang/String;)V", sig := { parameters := [(.object "java/lang/String")], returnType := none }, accessFlags := 1, code := some k8c1 }
def k8c2 : Code := { maxStack := 2, maxLocals := 1, code := jdk_78_method_18_code, exceptionTable := #[], attributes := #[] }
def k8m2 : Method := { name := "fillInStackTrace", desc := "()Ljava/lang/Throwable;", sig := { parameters := [], returnType := some (.object "java/lang/Throwable") }, accessFlags := 33, code := some k8c2 }
def k8m3 : Method := { name := "fillInStackTrace", desc := "(I)Ljava/lang/Throwable;", sig := { parameters := [.int], returnType := some (.object "java/lang/Throwable") }, accessFlags := 258, code := none }
/-- java/lang/Throwable -/
def k8 : Class := { plain "java/lang/Throwable" (some 0) with
  accessFlags := 33
  interfaces := #[2]
  cf := some (fileOf pool8 8 #[.nestMembers #[193, 93, 101, 269]] #[{ accessFlags := 1, nameIndex := 5, descriptorIndex := 6, attributes := #[] }, { accessFlags := 1, nameIndex := 5, descriptorIndex := 223, attributes := #[] }, { accessFlags := 33, nameIndex := 29, descriptorIndex := 30, attributes := #[] }, { accessFlags := 258, nameIndex := 29, descriptorIndex := 204, attributes := #[] }] 33 2 #[318] #[{ accessFlags := 26, nameIndex := 320, descriptorIndex := 321, attributes := #[] }, { accessFlags := 130, nameIndex := 200, descriptorIndex := 201, attributes := #[] }, { accessFlags := 2, nameIndex := 33, descriptorIndex := 34, attributes := #[] }, { accessFlags := 26, nameIndex := 15, descriptorIndex := 16, attributes := #[] }, { accessFlags := 2, nameIndex := 11, descriptorIndex := 12, attributes := #[] }, { accessFlags := 2, nameIndex := 19, descriptorIndex := 16, attributes := #[] }, { accessFlags := 130, nameIndex := 211, descriptorIndex := 212, attributes := #[] }, { accessFlags := 26, nameIndex := 22, descriptorIndex := 23, attributes := #[] }, { accessFlags := 2, nameIndex := 26, descriptorIndex := 23, attributes := #[] }, { accessFlags := 26, nameIndex := 327, descriptorIndex := 34, attributes := #[] }, { accessFlags := 26, nameIndex := 328, descriptorIndex := 34, attributes := #[] }, { accessFlags := 26, nameIndex := 329, descriptorIndex := 34, attributes := #[] }, { accessFlags := 26, nameIndex := 330, descriptorIndex := 34, attributes := #[] }, { accessFlags := 26, nameIndex := 304, descriptorIndex := 305, attributes := #[] }, { accessFlags := 4120, nameIndex := 165, descriptorIndex := 166, attributes := #[] }])
  fields := #[{ name := "serialVersionUID", type := .long, accessFlags := 26, slot := 0, constantValue := 0 }, { name := "backtrace", type := (.object "java/lang/Object"), accessFlags := 130, slot := 0, constantValue := 0 }, { name := "detailMessage", type := (.object "java/lang/String"), accessFlags := 2, slot := 1, constantValue := 0 }, { name := "UNASSIGNED_STACK", type := (.array (.object "java/lang/StackTraceElement")), accessFlags := 26, slot := 1, constantValue := 0 }, { name := "cause", type := (.object "java/lang/Throwable"), accessFlags := 2, slot := 2, constantValue := 0 }, { name := "stackTrace", type := (.array (.object "java/lang/StackTraceElement")), accessFlags := 2, slot := 3, constantValue := 0 }, { name := "depth", type := .int, accessFlags := 130, slot := 4, constantValue := 0 }, { name := "SUPPRESSED_SENTINEL", type := (.object "java/util/List"), accessFlags := 26, slot := 2, constantValue := 0 }, { name := "suppressedExceptions", type := (.object "java/util/List"), accessFlags := 2, slot := 5, constantValue := 0 }, { name := "NULL_CAUSE_MESSAGE", type := (.object "java/lang/String"), accessFlags := 26, slot := 3, constantValue := 0 }, { name := "SELF_SUPPRESSION_MESSAGE", type := (.object "java/lang/String"), accessFlags := 26, slot := 4, constantValue := 0 }, { name := "CAUSE_CAPTION", type := (.object "java/lang/String"), accessFlags := 26, slot := 5, constantValue := 0 }, { name := "SUPPRESSED_CAPTION", type := (.object "java/lang/String"), accessFlags := 26, slot := 6, constantValue := 0 }, { name := "EMPTY_THROWABLE_ARRAY", type := (.array (.object "java/lang/Throwable")), accessFlags := 26, slot := 7, constantValue := 0 }, { name := "$assertionsDisabled", type := .boolean, accessFlags := 4120, slot := 8, constantValue := 0 }]
  methods := #[k8m0, k8m1, k8m2, k8m3]
  instanceTypes := #[(.object "java/lang/Object"), (.object "java/lang/String"), (.object "java/lang/Throwable"), (.array (.object "java/lang/StackTraceElement")), .int, (.object "java/util/List")]
  staticTypes := #[.long, (.array (.object "java/lang/StackTraceElement")), (.object "java/util/List"), (.object "java/lang/String"), (.object "java/lang/String"), (.object "java/lang/String"), (.object "java/lang/String"), (.array (.object "java/lang/Throwable")), .boolean]
  resolved := Array.replicate 404 none
  statics := some 1 }

def pool9 : Array CpInfo := pool [(2, .class_ 4), (1, u "java/lang/Throwable"), (0, u "<init>"), (0, u "()V"), (0, .methodref 2 8), (0, .nameAndType 5 9), (0, u "(Ljava/lang/String;)V"), (9, .class_ 20), (0, u "java/lang/Exception"), (0, u "serialVersionUID"), (0, u "J")] 17

def k9m0 : Method := { name := "<init>", desc := "()V", sig := { parameters := [], returnType := none }, accessFlags := 1, code := none }
def k9c1 : Code := { maxStack := 2, maxLocals := 2, code := jdk_59_method_2_code, exceptionTable := #[], attributes := #[] }
def k9m1 : Method := { name := "<init>", desc := "(Ljava/lang/String;)V", sig := { parameters := [(.object "java/lang/String")], returnType := none }, accessFlags := 1, code := some k9c1 }
/-- java/lang/Exception -/
def k9 : Class := { plain "java/lang/Exception" (some 8) with
  accessFlags := 33
  interfaces := #[]
  cf := some (fileOf pool9 19 #[] #[{ accessFlags := 1, nameIndex := 5, descriptorIndex := 6, attributes := #[] }, { accessFlags := 1, nameIndex := 5, descriptorIndex := 9, attributes := #[] }] 33 2 #[] #[{ accessFlags := 24, nameIndex := 21, descriptorIndex := 22, attributes := #[] }])
  fields := #[{ name := "serialVersionUID", type := .long, accessFlags := 24, slot := 0, constantValue := 0 }]
  methods := #[k9m0, k9m1]
  instanceTypes := #[(.object "java/lang/Object"), (.object "java/lang/String"), (.object "java/lang/Throwable"), (.array (.object "java/lang/StackTraceElement")), .int, (.object "java/util/List")]
  staticTypes := #[.long]
  resolved := Array.replicate 40 none
  statics := none }

def pool10 : Array CpInfo := pool [(2, .class_ 4), (1, u "java/lang/Exception"), (0, u "<init>"), (0, u "()V"), (0, .methodref 2 8), (0, .nameAndType 5 9), (0, u "(Ljava/lang/String;)V"), (9, .class_ 20), (0, u "java/lang/RuntimeException"), (0, u "serialVersionUID"), (0, u "J")] 17

def k10m0 : Method := { name := "<init>", desc := "()V", sig := { parameters := [], returnType := none }, accessFlags := 1, code := none }
def k10c1 : Code := { maxStack := 2, maxLocals := 2, code := jdk_58_method_2_code, exceptionTable := #[], attributes := #[] }
def k10m1 : Method := { name := "<init>", desc := "(Ljava/lang/String;)V", sig := { parameters := [(.object "java/lang/String")], returnType := none }, accessFlags := 1, code := some k10c1 }
/-- java/lang/RuntimeException -/
def k10 : Class := { plain "java/lang/RuntimeException" (some 9) with
  accessFlags := 33
  interfaces := #[]
  cf := some (fileOf pool10 19 #[] #[{ accessFlags := 1, nameIndex := 5, descriptorIndex := 6, attributes := #[] }, { accessFlags := 1, nameIndex := 5, descriptorIndex := 9, attributes := #[] }] 33 2 #[] #[{ accessFlags := 24, nameIndex := 21, descriptorIndex := 22, attributes := #[] }])
  fields := #[{ name := "serialVersionUID", type := .long, accessFlags := 24, slot := 0, constantValue := 0 }]
  methods := #[k10m0, k10m1]
  instanceTypes := #[(.object "java/lang/Object"), (.object "java/lang/String"), (.object "java/lang/Throwable"), (.array (.object "java/lang/StackTraceElement")), .int, (.object "java/util/List")]
  staticTypes := #[.long]
  resolved := Array.replicate 40 none
  statics := none }

def pool11 : Array CpInfo := pool [(1, .class_ 2), (0, u "java/lang/StringBuilder"), (0, .methodref 1 4), (0, .nameAndType 5 6), (0, u "<init>"), (0, u "()V"), (0, .string 8), (0, u "rolled back: "), (0, .methodref 1 10), (0, .nameAndType 11 12), (0, u "append"), (0, u "(Ljava/lang/String;)Ljava/lang/StringBuilder;"), (0, .methodref 1 14), (0, .nameAndType 15 16), (0, u "toString"), (0, u "()Ljava/lang/String;"), (0, .methodref 18 19), (0, .class_ 20), (0, .nameAndType 5 21), (0, u "java/lang/RuntimeException"), (0, u "(Ljava/lang/String;)V"), (0, .fieldref 23 24), (0, .class_ 25), (0, .nameAndType 26 27), (0, u "com/example/twinstate/twinstate/TransactionRolledBackException"), (0, u "reason"), (0, u "Ljava/lang/String;"), (0, .string 29), (0, u "deadlock"), (0, .methodref 31 32), (0, .class_ 33), (0, .nameAndType 34 35), (0, u "java/lang/String"), (0, u "equals"), (0, u "(Ljava/lang/Object;)Z"), (0, .string 37), (0, u "lease lost"), (0, .string 39), (0, u "lock wait timeout"), (0, u "LOCK_WAIT_TIMEOUT"), (1, u "INTERRUPTED"), (2, u "DEADLOCK"), (0, u "LEASE_LOST"), (0, u "DUPLICATE_KEY"), (2, u "TIMEOUT"), (2, u "serialVersionUID"), (0, u "J"), (4, u "rerunnable"), (0, u "()Z")] 3

def k11c0 : Code := { maxStack := 3, maxLocals := 2, code := prog_10_method_1_code, exceptionTable := #[], attributes := #[] }
def k11m0 : Method := { name := "<init>", desc := "(Ljava/lang/String;)V", sig := { parameters := [(.object "java/lang/String")], returnType := none }, accessFlags := 1, code := some k11c0 }
def k11c1 : Code := { maxStack := 2, maxLocals := 1, code := prog_10_method_3_code, exceptionTable := #[], attributes := #[] }
def k11m1 : Method := { name := "rerunnable", desc := "()Z", sig := { parameters := [], returnType := some .boolean }, accessFlags := 1, code := some k11c1 }
/-- com/example/twinstate/twinstate/TransactionRolledBackException -/
def k11 : Class := { plain "com/example/twinstate/twinstate/TransactionRolledBackException" (some 10) with
  accessFlags := 49
  interfaces := #[]
  cf := some (fileOf pool11 23 #[] #[{ accessFlags := 1, nameIndex := 5, descriptorIndex := 21, attributes := #[] }, { accessFlags := 1, nameIndex := 59, descriptorIndex := 60, attributes := #[] }] 49 18 #[] #[{ accessFlags := 25, nameIndex := 40, descriptorIndex := 27, attributes := #[] }, { accessFlags := 25, nameIndex := 42, descriptorIndex := 27, attributes := #[] }, { accessFlags := 25, nameIndex := 45, descriptorIndex := 27, attributes := #[] }, { accessFlags := 25, nameIndex := 46, descriptorIndex := 27, attributes := #[] }, { accessFlags := 25, nameIndex := 47, descriptorIndex := 27, attributes := #[] }, { accessFlags := 25, nameIndex := 50, descriptorIndex := 27, attributes := #[] }, { accessFlags := 26, nameIndex := 53, descriptorIndex := 54, attributes := #[] }, { accessFlags := 18, nameIndex := 26, descriptorIndex := 27, attributes := #[] }])
  fields := #[{ name := "LOCK_WAIT_TIMEOUT", type := (.object "java/lang/String"), accessFlags := 25, slot := 0, constantValue := 0 }, { name := "INTERRUPTED", type := (.object "java/lang/String"), accessFlags := 25, slot := 1, constantValue := 0 }, { name := "DEADLOCK", type := (.object "java/lang/String"), accessFlags := 25, slot := 2, constantValue := 0 }, { name := "LEASE_LOST", type := (.object "java/lang/String"), accessFlags := 25, slot := 3, constantValue := 0 }, { name := "DUPLICATE_KEY", type := (.object "java/lang/String"), accessFlags := 25, slot := 4, constantValue := 0 }, { name := "TIMEOUT", type := (.object "java/lang/String"), accessFlags := 25, slot := 5, constantValue := 0 }, { name := "serialVersionUID", type := .long, accessFlags := 26, slot := 6, constantValue := 0 }, { name := "reason", type := (.object "java/lang/String"), accessFlags := 18, slot := 6, constantValue := 0 }]
  methods := #[k11m0, k11m1]
  instanceTypes := #[(.object "java/lang/Object"), (.object "java/lang/String"), (.object "java/lang/Throwable"), (.array (.object "java/lang/StackTraceElement")), .int, (.object "java/util/List"), (.object "java/lang/String")]
  staticTypes := #[(.object "java/lang/String"), (.object "java/lang/String"), (.object "java/lang/String"), (.object "java/lang/String"), (.object "java/lang/String"), (.object "java/lang/String"), .long]
  resolved := Array.replicate 64 none
  statics := none }

def pool12 : Array CpInfo := pool [(1, .class_ 2), (0, u "java/lang/Appendable"), (0, .class_ 4), (0, u "java/lang/Object")] 9

/-- java/lang/Appendable -/
def k12 : Class := { plain "java/lang/Appendable" (some 0) with
  accessFlags := 1537
  interfaces := #[]
  cf := some (fileOf pool12 1 #[] #[] 1537 3 #[] #[])
  fields := #[]
  methods := #[]
  instanceTypes := #[]
  staticTypes := #[]
  resolved := Array.replicate 14 none
  statics := none }

def pool13 : Array CpInfo := pool [(1, .class_ 2), (0, u "java/lang/String"), (0, .methodref 4 5), (0, .class_ 6), (0, .nameAndType 7 8), (0, u "java/lang/Object"), (0, u "<init>"), (0, u "()V"), (1, .class_ 12), (1, u "java/lang/AbstractStringBuilder"), (0, u "EMPTYVALUE"), (0, u "[B"), (0, .fieldref 10 16), (0, .nameAndType 17 14), (0, u "value"), (0, .fieldref 1 19), (0, .nameAndType 20 21), (0, u "COMPACT_STRINGS"), (0, u "Z"), (0, .fieldref 10 23), (0, .nameAndType 24 25), (0, u "coder"), (0, u "B"), (6, .methodref 1 33), (0, .nameAndType 34 35), (0, u "length"), (0, u "()I"), (3, .integer 2147483647), (0, .methodref 1 41), (0, .nameAndType 24 42), (0, u "()B"), (2, u "append"), (0, u "(Ljava/lang/String;)Ljava/lang/AbstractStringBuilder;"), (1, .class_ 49), (0, u "java/lang/CharSequence"), (19, u "(Ljava/lang/String;)V"), (5, u "maybeLatin1"), (3, .fieldref 10 80), (0, .nameAndType 81 82), (0, u "count"), (0, u "I"), (0, .methodref 10 84), (0, .nameAndType 85 86), (0, u "isLatin1"), (0, u "()Z"), (13, .methodref 10 101), (0, .nameAndType 102 103), (0, u "ensureCapacityInternal"), (0, u "(I)V"), (0, .methodref 10 105), (0, .nameAndType 106 107), (0, u "newCapacity"), (0, u "(I)I"), (0, .methodref 109 110), (0, .class_ 111), (0, .nameAndType 112 113), (0, u "java/util/Arrays"), (0, u "copyOf"), (0, u "([BI)[B"), (0, .methodref 115 116), (0, .class_ 117), (0, .nameAndType 118 119), (0, u "jdk/internal/util/ArraysSupport"), (0, u "newLength"), (0, u "(III)I"), (84, .methodref 10 205), (0, .nameAndType 206 207), (0, u "appendNull"), (0, u "()Ljava/lang/AbstractStringBuilder;"), (0, .methodref 10 209), (0, .nameAndType 210 211), (0, u "putStringAt"), (0, u "(ILjava/lang/String;)V"), (5, u "inflateIfNeededFor"), (2, .nameAndType 221 222), (0, u "getBytes"), (0, u "([BIB)V"), (174, .methodref 10 398), (0, .nameAndType 217 69), (0, .methodref 1 220), (3, u "()[B"), (40, .class_ 445), (0, u "java/lang/Appendable"), (106, u "getValue")] 56

def k13m0 : Method := { name := "<init>", desc := "()V", sig := { parameters := [], returnType := none }, accessFlags := 0, code := none }
def k13c1 : Code := { maxStack := 2, maxLocals := 2, code := jdk_68_method_2_code, exceptionTable := #[], attributes := #[] }
def k13m1 : Method := { name := "<init>", desc := "(I)V", sig := { parameters := [.int], returnType := none }, accessFlags := 0, code := some k13c1 }
def k13c2 : Code := { maxStack := 1, maxLocals := 1, code := jdk_68_method_6_code, exceptionTable := #[], attributes := #[] }
def k13m2 : Method := { name := "length", desc := "()I", sig := { parameters := [], returnType := some .int }, accessFlags := 1, code := some k13c2 }
def k13c3 : Code := { maxStack := 4, maxLocals := 3, code := jdk_68_method_9_code, exceptionTable := #[], attributes := #[] }
def k13m3 : Method := { name := "ensureCapacityInternal", desc := "(I)V", sig := { parameters := [.int], returnType := none }, accessFlags := 2, code := some k13c3 }
def k13c4 : Code := { maxStack := 5, maxLocals := 6, code := jdk_68_method_10_code, exceptionTable := #[], attributes := #[] }
def k13m4 : Method := { name := "newCapacity", desc := "(I)I", sig := { parameters := [.int], returnType := some .int }, accessFlags := 2, code := some k13c4 }
def k13c5 : Code := { maxStack := 3, maxLocals := 3, code := jdk_68_method_22_code, exceptionTable := #[], attributes := #[] }
def k13m5 : Method := { name := "append", desc := "(Ljava/lang/String;)Ljava/lang/AbstractStringBuilder;", sig := { parameters := [(.object "java/lang/String")], returnType := some (.object "java/lang/AbstractStringBuilder") }, accessFlags := 1, code := some k13c5 }
def k13c6 : Code := { maxStack := 6, maxLocals := 3, code := jdk_68_method_26_code, exceptionTable := #[], attributes := #[] }
def k13m6 : Method := { name := "appendNull", desc := "()Ljava/lang/AbstractStringBuilder;", sig := { parameters := [], returnType := some (.object "java/lang/AbstractStringBuilder") }, accessFlags := 2, code := some k13c6 }
def k13c7 : Code := { maxStack := 1, maxLocals := 1, code := jdk_68_method_64_code, exceptionTable := #[], attributes := #[] }
def k13m7 : Method := { name := "getValue", desc := "()[B", sig := { parameters := [], returnType := some (.array .byte) }, accessFlags := 16, code := some k13c7 }
def k13c8 : Code := { maxStack := 1, maxLocals := 1, code := jdk_68_method_68_code, exceptionTable := #[], attributes := #[] }
def k13m8 : Method := { name := "isLatin1", desc := "()Z", sig := { parameters := [], returnType := some .boolean }, accessFlags := 16, code := some k13c8 }
def k13c9 : Code := { maxStack := 2, maxLocals := 2, code := jdk_68_method_71_code, exceptionTable := #[], attributes := #[] }
def k13m9 : Method := { name := "inflateIfNeededFor", desc := "(Ljava/lang/String;)V", sig := { parameters := [(.object "java/lang/String")], returnType := none }, accessFlags := 2, code := some k13c9 }
def k13c10 : Code := { maxStack := 4, maxLocals := 3, code := jdk_68_method_73_code, exceptionTable := #[], attributes := #[] }
def k13m10 : Method := { name := "putStringAt", desc := "(ILjava/lang/String;)V", sig := { parameters := [.int, (.object "java/lang/String")], returnType := none }, accessFlags := 2, code := some k13c10 }
/-- java/lang/AbstractStringBuilder -/
def k13 : Class := { plain "java/lang/AbstractStringBuilder" (some 0) with
  accessFlags := 1056
  interfaces := #[12, 4]
  cf := some (fileOf pool13 10 #[] #[{ accessFlags := 0, nameIndex := 7, descriptorIndex := 8, attributes := #[] }, { accessFlags := 0, nameIndex := 7, descriptorIndex := 103, attributes := #[] }, { accessFlags := 1, nameIndex := 34, descriptorIndex := 35, attributes := #[] }, { accessFlags := 2, nameIndex := 102, descriptorIndex := 103, attributes := #[] }, { accessFlags := 2, nameIndex := 106, descriptorIndex := 107, attributes := #[] }, { accessFlags := 1, nameIndex := 45, descriptorIndex := 46, attributes := #[] }, { accessFlags := 2, nameIndex := 206, descriptorIndex := 207, attributes := #[] }, { accessFlags := 16, nameIndex := 552, descriptorIndex := 403, attributes := #[] }, { accessFlags := 16, nameIndex := 85, descriptorIndex := 86, attributes := #[] }, { accessFlags := 2, nameIndex := 217, descriptorIndex := 69, attributes := #[] }, { accessFlags := 2, nameIndex := 210, descriptorIndex := 211, attributes := #[] }] 1056 4 #[444, 48] #[{ accessFlags := 0, nameIndex := 17, descriptorIndex := 14, attributes := #[] }, { accessFlags := 0, nameIndex := 24, descriptorIndex := 25, attributes := #[] }, { accessFlags := 0, nameIndex := 75, descriptorIndex := 21, attributes := #[] }, { accessFlags := 0, nameIndex := 81, descriptorIndex := 82, attributes := #[] }, { accessFlags := 26, nameIndex := 13, descriptorIndex := 14, attributes := #[] }])
  fields := #[{ name := "value", type := (.array .byte), accessFlags := 0, slot := 0, constantValue := 0 }, { name := "coder", type := .byte, accessFlags := 0, slot := 1, constantValue := 0 }, { name := "maybeLatin1", type := .boolean, accessFlags := 0, slot := 2, constantValue := 0 }, { name := "count", type := .int, accessFlags := 0, slot := 3, constantValue := 0 }, { name := "EMPTYVALUE", type := (.array .byte), accessFlags := 26, slot := 0, constantValue := 0 }]
  methods := #[k13m0, k13m1, k13m2, k13m3, k13m4, k13m5, k13m6, k13m7, k13m8, k13m9, k13m10]
  instanceTypes := #[(.array .byte), .byte, .boolean, .int]
  staticTypes := #[(.array .byte)]
  resolved := Array.replicate 609 none
  statics := none }

def pool14 : Array CpInfo := pool [(1, .methodref 2 3), (0, .class_ 4), (0, .nameAndType 5 6), (0, u "java/lang/AbstractStringBuilder"), (0, u "<init>"), (0, u "(I)V"), (11, .class_ 20), (1, u "java/lang/String"), (3, .class_ 26), (1, u "java/lang/StringBuilder"), (0, u "append"), (0, u "(Ljava/lang/String;)Ljava/lang/StringBuilder;"), (0, .methodref 2 30), (0, .nameAndType 27 31), (0, u "(Ljava/lang/String;)Ljava/lang/AbstractStringBuilder;"), (105, .methodref 18 138), (0, .nameAndType 5 139), (0, u "(Ljava/lang/StringBuilder;)V"), (5, u "()V"), (10, u "()I"), (186, .methodref 2 344), (0, .nameAndType 345 156), (0, u "length"), (3, .class_ 350), (0, u "java/lang/Appendable"), (0, .class_ 352), (0, u "java/io/Serializable"), (0, .class_ 354), (0, u "java/lang/Comparable"), (0, .class_ 356), (0, u "java/lang/CharSequence"), (0, u "serialVersionUID"), (0, u "J"), (40, u "toString"), (0, u "()Ljava/lang/String;")] 21

def k14c0 : Code := { maxStack := 2, maxLocals := 1, code := jdk_67_method_1_code, exceptionTable := #[], attributes := #[] }
def k14m0 : Method := { name := "<init>", desc := "()V", sig := { parameters := [], returnType := none }, accessFlags := 1, code := some k14c0 }
def k14c1 : Code := { maxStack := 2, maxLocals := 2, code := jdk_67_method_7_code, exceptionTable := #[], attributes := #[] }
def k14m1 : Method := { name := "append", desc := "(Ljava/lang/String;)Ljava/lang/StringBuilder;", sig := { parameters := [(.object "java/lang/String")], returnType := some (.object "java/lang/StringBuilder") }, accessFlags := 1, code := some k14c1 }
def k14c2 : Code := { maxStack := 3, maxLocals := 1, code := jdk_67_method_42_code, exceptionTable := #[], attributes := #[] }
def k14m2 : Method := { name := "toString", desc := "()Ljava/lang/String;", sig := { parameters := [], returnType := some (.object "java/lang/String") }, accessFlags := 1, code := some k14c2 }
def k14c3 : Code := { maxStack := 1, maxLocals := 1, code := jdk_67_method_93_code, exceptionTable := #[], attributes := #[] }
def k14m3 : Method := { name := "length", desc := "()I", sig := { parameters := [], returnType := some .int }, accessFlags := 4161, code := some k14c3 }
/-- java/lang/StringBuilder -/
def k14 : Class := { plain "java/lang/StringBuilder" (some 13) with
  accessFlags := 49
  interfaces := #[12, 2, 3, 4]
  cf := some (fileOf pool14 24 #[] #[{ accessFlags := 1, nameIndex := 5, descriptorIndex := 145, attributes := #[] }, { accessFlags := 1, nameIndex := 27, descriptorIndex := 28, attributes := #[] }, { accessFlags := 1, nameIndex := 399, descriptorIndex := 400, attributes := #[] }, { accessFlags := 4161, nameIndex := 345, descriptorIndex := 156, attributes := #[] }] 49 2 #[349, 351, 353, 355] #[{ accessFlags := 24, nameIndex := 357, descriptorIndex := 358, attributes := #[] }])
  fields := #[{ name := "serialVersionUID", type := .long, accessFlags := 24, slot := 0, constantValue := 0 }]
  methods := #[k14m0, k14m1, k14m2, k14m3]
  instanceTypes := #[(.array .byte), .byte, .boolean, .int]
  staticTypes := #[.long]
  resolved := Array.replicate 422 none
  statics := none }

def pool15 : Array CpInfo := pool [(2, .class_ 4), (1, u "java/lang/Object"), (0, u "<init>"), (0, u "()V"), (1, .class_ 10), (1, u "java/lang/System"), (0, u "allowSecurityManager"), (0, u "I"), (16, u "cons"), (0, u "Ljava/io/Console;"), (77, .class_ 110), (1, u "java/lang/System$CallersHolder"), (43, u "initialErrStream"), (0, u "Ljava/io/PrintStream;"), (19, u "security"), (0, u "Ljava/lang/SecurityManager;"), (31, .class_ 209), (0, u "java/lang/System$1"), (7, u "props"), (0, u "Ljava/util/Properties;"), (2, u "lineSeparator"), (0, u "Ljava/lang/String;"), (96, .class_ 321), (1, u "java/lang/System$LoggerFinder"), (5, .class_ 328), (0, u "java/lang/System$Logger"), (67, u "err"), (2, u "out"), (91, u "notSupportedJnuEncoding"), (15, u "in"), (17, u "initialIn"), (0, u "Ljava/io/InputStream;"), (35, u "bootLayer"), (0, u "Ljava/lang/ModuleLayer;"), (99, .class_ 664), (0, u "java/lang/System$2"), (9, u "NEVER"), (2, u "MAYBE"), (49, u "arraycopy"), (0, u "(Ljava/lang/Object;ILjava/lang/Object;II)V"), (72, .class_ 802), (0, u "java/lang/System$Logger$Level")] 31

def k15m0 : Method := { name := "<init>", desc := "()V", sig := { parameters := [], returnType := none }, accessFlags := 2, code := none }
def k15m1 : Method := { name := "arraycopy", desc := "(Ljava/lang/Object;ILjava/lang/Object;II)V", sig := { parameters := [(.object "java/lang/Object"), .int, (.object "java/lang/Object"), .int, .int], returnType := none }, accessFlags := 265, code := none }
/-- java/lang/System -/
def k15 : Class := { plain "java/lang/System" (some 0) with
  accessFlags := 49
  interfaces := #[]
  cf := some (fileOf pool15 8 #[.nestMembers #[319, 327, 801, 108, 663, 208]] #[{ accessFlags := 2, nameIndex := 5, descriptorIndex := 6, attributes := #[] }, { accessFlags := 265, nameIndex := 727, descriptorIndex := 728, attributes := #[] }] 49 2 #[] #[{ accessFlags := 25, nameIndex := 507, descriptorIndex := 526, attributes := #[] }, { accessFlags := 25, nameIndex := 399, descriptorIndex := 155, attributes := #[] }, { accessFlags := 25, nameIndex := 396, descriptorIndex := 155, attributes := #[] }, { accessFlags := 10, nameIndex := 525, descriptorIndex := 526, attributes := #[] }, { accessFlags := 26, nameIndex := 674, descriptorIndex := 12, attributes := #[] }, { accessFlags := 26, nameIndex := 677, descriptorIndex := 12, attributes := #[] }, { accessFlags := 10, nameIndex := 11, descriptorIndex := 12, attributes := #[] }, { accessFlags := 74, nameIndex := 175, descriptorIndex := 176, attributes := #[] }, { accessFlags := 10, nameIndex := 491, descriptorIndex := 222, attributes := #[] }, { accessFlags := 74, nameIndex := 29, descriptorIndex := 30, attributes := #[] }, { accessFlags := 74, nameIndex := 154, descriptorIndex := 155, attributes := #[] }, { accessFlags := 10, nameIndex := 217, descriptorIndex := 218, attributes := #[] }, { accessFlags := 10, nameIndex := 221, descriptorIndex := 222, attributes := #[] }, { accessFlags := 8, nameIndex := 562, descriptorIndex := 563, attributes := #[] }])
  fields := #[{ name := "in", type := (.object "java/io/InputStream"), accessFlags := 25, slot := 0, constantValue := 0 }, { name := "out", type := (.object "java/io/PrintStream"), accessFlags := 25, slot := 1, constantValue := 0 }, { name := "err", type := (.object "java/io/PrintStream"), accessFlags := 25, slot := 2, constantValue := 0 }, { name := "initialIn", type := (.object "java/io/InputStream"), accessFlags := 10, slot := 3, constantValue := 0 }, { name := "NEVER", type := .int, accessFlags := 26, slot := 4, constantValue := 0 }, { name := "MAYBE", type := .int, accessFlags := 26, slot := 5, constantValue := 0 }, { name := "allowSecurityManager", type := .int, accessFlags := 10, slot := 6, constantValue := 0 }, { name := "security", type := (.object "java/lang/SecurityManager"), accessFlags := 74, slot := 7, constantValue := 0 }, { name := "notSupportedJnuEncoding", type := (.object "java/lang/String"), accessFlags := 10, slot := 8, constantValue := 0 }, { name := "cons", type := (.object "java/io/Console"), accessFlags := 74, slot := 9, constantValue := 0 }, { name := "initialErrStream", type := (.object "java/io/PrintStream"), accessFlags := 74, slot := 10, constantValue := 0 }, { name := "props", type := (.object "java/util/Properties"), accessFlags := 10, slot := 11, constantValue := 0 }, { name := "lineSeparator", type := (.object "java/lang/String"), accessFlags := 10, slot := 12, constantValue := 0 }, { name := "bootLayer", type := (.object "java/lang/ModuleLayer"), accessFlags := 8, slot := 13, constantValue := 0 }]
  methods := #[k15m0, k15m1]
  instanceTypes := #[]
  staticTypes := #[(.object "java/io/InputStream"), (.object "java/io/PrintStream"), (.object "java/io/PrintStream"), (.object "java/io/InputStream"), .int, .int, .int, (.object "java/lang/SecurityManager"), (.object "java/lang/String"), (.object "java/io/Console"), (.object "java/io/PrintStream"), (.object "java/util/Properties"), (.object "java/lang/String"), (.object "java/lang/ModuleLayer")]
  resolved := Array.replicate 834 none
  statics := none }

def pool16 : Array CpInfo := pool [(9, u "<init>"), (6, .class_ 18), (1, u "java/lang/Object"), (0, u "()V"), (1, .class_ 23), (1, u "jdk/internal/util/ArraysSupport"), (0, u "LOG2_ARRAY_LONG_INDEX_SCALE"), (0, u "I"), (2, u "U"), (0, u "Ljdk/internal/misc/Unsafe;"), (8, u "BIG_ENDIAN"), (0, u "Z"), (8, u "LOG2_BYTE_BIT_SIZE"), (4, u "LOG2_ARRAY_INT_INDEX_SCALE"), (54, u "JLA"), (0, u "Ljdk/internal/access/JavaLangAccess;"), (11, u "LOG2_ARRAY_BOOLEAN_INDEX_SCALE"), (9, u "LOG2_ARRAY_BYTE_INDEX_SCALE"), (5, u "LOG2_ARRAY_CHAR_INDEX_SCALE"), (5, u "LOG2_ARRAY_SHORT_INDEX_SCALE"), (18, u "LOG2_ARRAY_FLOAT_INDEX_SCALE"), (24, u "LOG2_ARRAY_DOUBLE_INDEX_SCALE"), (6, .methodref 195 196), (0, .class_ 197), (0, .nameAndType 198 199), (0, u "java/lang/Math"), (0, u "max"), (0, u "(II)I"), (0, .integer 2147483639), (76, u "T_BOOLEAN"), (2, u "T_CHAR"), (1, u "T_FLOAT"), (1, u "T_DOUBLE"), (1, u "T_BYTE"), (1, u "T_SHORT"), (1, u "T_INT"), (1, u "T_LONG"), (1, u "SOFT_MAX_ARRAY_LENGTH"), (56, u "newLength"), (0, u "(III)I")] 25

def k16m0 : Method := { name := "<init>", desc := "()V", sig := { parameters := [], returnType := none }, accessFlags := 2, code := none }
def k16c1 : Code := { maxStack := 3, maxLocals := 4, code := jdk_48_method_27_code, exceptionTable := #[], attributes := #[] }
def k16m1 : Method := { name := "newLength", desc := "(III)I", sig := { parameters := [.int, .int, .int], returnType := some .int }, accessFlags := 9, code := some k16c1 }
/-- jdk/internal/util/ArraysSupport -/
def k16 : Class := { plain "jdk/internal/util/ArraysSupport" (some 0) with
  accessFlags := 33
  interfaces := #[]
  cf := some (fileOf pool16 21 #[] #[{ accessFlags := 2, nameIndex := 9, descriptorIndex := 19, attributes := #[] }, { accessFlags := 9, nameIndex := 351, descriptorIndex := 352, attributes := #[] }] 33 16 #[] #[{ accessFlags := 24, nameIndex := 28, descriptorIndex := 29, attributes := #[] }, { accessFlags := 26, nameIndex := 38, descriptorIndex := 39, attributes := #[] }, { accessFlags := 25, nameIndex := 121, descriptorIndex := 25, attributes := #[] }, { accessFlags := 25, nameIndex := 131, descriptorIndex := 25, attributes := #[] }, { accessFlags := 25, nameIndex := 137, descriptorIndex := 25, attributes := #[] }, { accessFlags := 25, nameIndex := 143, descriptorIndex := 25, attributes := #[] }, { accessFlags := 25, nameIndex := 53, descriptorIndex := 25, attributes := #[] }, { accessFlags := 25, nameIndex := 24, descriptorIndex := 25, attributes := #[] }, { accessFlags := 25, nameIndex := 162, descriptorIndex := 25, attributes := #[] }, { accessFlags := 25, nameIndex := 187, descriptorIndex := 25, attributes := #[] }, { accessFlags := 26, nameIndex := 48, descriptorIndex := 25, attributes := #[] }, { accessFlags := 25, nameIndex := 277, descriptorIndex := 25, attributes := #[] }, { accessFlags := 25, nameIndex := 280, descriptorIndex := 25, attributes := #[] }, { accessFlags := 25, nameIndex := 282, descriptorIndex := 25, attributes := #[] }, { accessFlags := 25, nameIndex := 284, descriptorIndex := 25, attributes := #[] }, { accessFlags := 25, nameIndex := 286, descriptorIndex := 25, attributes := #[] }, { accessFlags := 25, nameIndex := 288, descriptorIndex := 25, attributes := #[] }, { accessFlags := 25, nameIndex := 290, descriptorIndex := 25, attributes := #[] }, { accessFlags := 25, nameIndex := 292, descriptorIndex := 25, attributes := #[] }, { accessFlags := 26, nameIndex := 108, descriptorIndex := 109, attributes := #[] }, { accessFlags := 25, nameIndex := 294, descriptorIndex := 25, attributes := #[] }])
  fields := #[{ name := "U", type := (.object "jdk/internal/misc/Unsafe"), accessFlags := 24, slot := 0, constantValue := 0 }, { name := "BIG_ENDIAN", type := .boolean, accessFlags := 26, slot := 1, constantValue := 0 }, { name := "LOG2_ARRAY_BOOLEAN_INDEX_SCALE", type := .int, accessFlags := 25, slot := 2, constantValue := 0 }, { name := "LOG2_ARRAY_BYTE_INDEX_SCALE", type := .int, accessFlags := 25, slot := 3, constantValue := 0 }, { name := "LOG2_ARRAY_CHAR_INDEX_SCALE", type := .int, accessFlags := 25, slot := 4, constantValue := 0 }, { name := "LOG2_ARRAY_SHORT_INDEX_SCALE", type := .int, accessFlags := 25, slot := 5, constantValue := 0 }, { name := "LOG2_ARRAY_INT_INDEX_SCALE", type := .int, accessFlags := 25, slot := 6, constantValue := 0 }, { name := "LOG2_ARRAY_LONG_INDEX_SCALE", type := .int, accessFlags := 25, slot := 7, constantValue := 0 }, { name := "LOG2_ARRAY_FLOAT_INDEX_SCALE", type := .int, accessFlags := 25, slot := 8, constantValue := 0 }, { name := "LOG2_ARRAY_DOUBLE_INDEX_SCALE", type := .int, accessFlags := 25, slot := 9, constantValue := 0 }, { name := "LOG2_BYTE_BIT_SIZE", type := .int, accessFlags := 26, slot := 10, constantValue := 0 }, { name := "T_BOOLEAN", type := .int, accessFlags := 25, slot := 11, constantValue := 0 }, { name := "T_CHAR", type := .int, accessFlags := 25, slot := 12, constantValue := 0 }, { name := "T_FLOAT", type := .int, accessFlags := 25, slot := 13, constantValue := 0 }, { name := "T_DOUBLE", type := .int, accessFlags := 25, slot := 14, constantValue := 0 }, { name := "T_BYTE", type := .int, accessFlags := 25, slot := 15, constantValue := 0 }, { name := "T_SHORT", type := .int, accessFlags := 25, slot := 16, constantValue := 0 }, { name := "T_INT", type := .int, accessFlags := 25, slot := 17, constantValue := 0 }, { name := "T_LONG", type := .int, accessFlags := 25, slot := 18, constantValue := 0 }, { name := "JLA", type := (.object "jdk/internal/access/JavaLangAccess"), accessFlags := 26, slot := 19, constantValue := 0 }, { name := "SOFT_MAX_ARRAY_LENGTH", type := .int, accessFlags := 25, slot := 20, constantValue := 0 }]
  methods := #[k16m0, k16m1]
  instanceTypes := #[]
  staticTypes := #[(.object "jdk/internal/misc/Unsafe"), .boolean, .int, .int, .int, .int, .int, .int, .int, .int, .int, .int, .int, .int, .int, .int, .int, .int, .int, (.object "jdk/internal/access/JavaLangAccess"), .int]
  resolved := Array.replicate 378 none
  statics := none }

def pool17 : Array CpInfo := pool [(1, .class_ 2), (0, u "java/lang/Math"), (1, .class_ 6), (1, u "java/lang/Object"), (0, u "<init>"), (0, u "()V"), (89, .class_ 100), (1, u "java/lang/Math$RandomNumberGeneratorHolder"), (71, u "negativeZeroFloatBits"), (0, u "J"), (2, u "negativeZeroDoubleBits"), (21, u "max"), (2, u "min"), (43, u "$assertionsDisabled"), (0, u "Z"), (88, u "(II)I"), (2, u "twoToTheDoubleScaleDown"), (0, u "D"), (4, u "twoToTheDoubleScaleUp"), (9, u "E"), (3, u "PI"), (2, u "TAU"), (2, u "DEGREES_TO_RADIANS"), (0, u "RADIANS_TO_DEGREES")] 94

def k17m0 : Method := { name := "<init>", desc := "()V", sig := { parameters := [], returnType := none }, accessFlags := 2, code := none }
def k17c1 : Code := { maxStack := 2, maxLocals := 2, code := jdk_29_method_65_code, exceptionTable := #[], attributes := #[] }
def k17m1 : Method := { name := "max", desc := "(II)I", sig := { parameters := [.int, .int], returnType := some .int }, accessFlags := 9, code := some k17c1 }
def k17c2 : Code := { maxStack := 2, maxLocals := 2, code := jdk_29_method_69_code, exceptionTable := #[], attributes := #[] }
def k17m2 : Method := { name := "min", desc := "(II)I", sig := { parameters := [.int, .int], returnType := some .int }, accessFlags := 9, code := some k17c2 }
/-- java/lang/Math -/
def k17 : Class := { plain "java/lang/Math" (some 0) with
  accessFlags := 49
  interfaces := #[]
  cf := some (fileOf pool17 1 #[.nestMembers #[98]] #[{ accessFlags := 2, nameIndex := 7, descriptorIndex := 8, attributes := #[] }, { accessFlags := 9, nameIndex := 198, descriptorIndex := 335, attributes := #[] }, { accessFlags := 9, nameIndex := 201, descriptorIndex := 335, attributes := #[] }] 49 4 #[] #[{ accessFlags := 25, nameIndex := 354, descriptorIndex := 339, attributes := #[] }, { accessFlags := 25, nameIndex := 358, descriptorIndex := 339, attributes := #[] }, { accessFlags := 25, nameIndex := 361, descriptorIndex := 339, attributes := #[] }, { accessFlags := 26, nameIndex := 364, descriptorIndex := 339, attributes := #[] }, { accessFlags := 26, nameIndex := 365, descriptorIndex := 339, attributes := #[] }, { accessFlags := 26, nameIndex := 172, descriptorIndex := 173, attributes := #[] }, { accessFlags := 26, nameIndex := 176, descriptorIndex := 173, attributes := #[] }, { accessFlags := 8, nameIndex := 344, descriptorIndex := 339, attributes := #[] }, { accessFlags := 8, nameIndex := 338, descriptorIndex := 339, attributes := #[] }, { accessFlags := 4120, nameIndex := 245, descriptorIndex := 246, attributes := #[] }])
  fields := #[{ name := "E", type := .double, accessFlags := 25, slot := 0, constantValue := 0 }, { name := "PI", type := .double, accessFlags := 25, slot := 1, constantValue := 0 }, { name := "TAU", type := .double, accessFlags := 25, slot := 2, constantValue := 0 }, { name := "DEGREES_TO_RADIANS", type := .double, accessFlags := 26, slot := 3, constantValue := 0 }, { name := "RADIANS_TO_DEGREES", type := .double, accessFlags := 26, slot := 4, constantValue := 0 }, { name := "negativeZeroFloatBits", type := .long, accessFlags := 26, slot := 5, constantValue := 0 }, { name := "negativeZeroDoubleBits", type := .long, accessFlags := 26, slot := 6, constantValue := 0 }, { name := "twoToTheDoubleScaleUp", type := .double, accessFlags := 8, slot := 7, constantValue := 0 }, { name := "twoToTheDoubleScaleDown", type := .double, accessFlags := 8, slot := 8, constantValue := 0 }, { name := "$assertionsDisabled", type := .boolean, accessFlags := 4120, slot := 9, constantValue := 0 }]
  methods := #[k17m0, k17m1, k17m2]
  instanceTypes := #[]
  staticTypes := #[.double, .double, .double, .double, .double, .long, .long, .double, .double, .boolean]
  resolved := Array.replicate 460 none
  statics := none }

def pool18 : Array CpInfo := pool [(2, .class_ 4), (1, u "java/lang/Object"), (0, u "<init>"), (0, u "()V"), (7, .class_ 16), (1, u "java/util/Arrays"), (57, .class_ 76), (1, u "java/util/Arrays$NaturalOrder"), (32, u "()Ljava/lang/Object;"), (3, .class_ 115), (1, u "java/util/Arrays$LegacyMergeSort"), (1, u "Z"), (10, .nameAndType 129 109), (0, u "clone"), (9, u "copyOfRange"), (10, .methodref 151 152), (0, .class_ 153), (0, .nameAndType 154 155), (0, u "java/lang/System"), (0, u "arraycopy"), (0, u "(Ljava/lang/Object;ILjava/lang/Object;II)V"), (146, u "copyOf"), (1, .methodref 305 306), (0, .class_ 307), (0, .nameAndType 308 309), (0, u "java/lang/Math"), (0, u "min"), (0, u "(II)I"), (0, .methodref 311 128), (0, .class_ 312), (0, u "[B"), (26, .methodref 14 340), (0, .nameAndType 341 342), (0, u "copyOfRangeByte"), (0, u "([BII)[B"), (0, .methodref 14 344), (0, .nameAndType 345 346), (0, u "checkLength"), (0, u "(II)V"), (28, .class_ 376), (0, u "java/util/Arrays$ArrayList"), (68, u "$assertionsDisabled"), (269, u "MIN_ARRAY_SORT_GRAN"), (0, u "I"), (2, u "INSERTIONSORT_THRESHOLD"), (149, u "([BI)[B"), (105, .class_ 976), (0, u "java/util/Arrays$ArrayItr")] 52

def k18m0 : Method := { name := "<init>", desc := "()V", sig := { parameters := [], returnType := none }, accessFlags := 2, code := none }
def k18c1 : Code := { maxStack := 6, maxLocals := 3, code := jdk_65_method_121_code, exceptionTable := #[], attributes := #[] }
def k18m1 : Method := { name := "copyOf", desc := "([BI)[B", sig := { parameters := [(.array .byte), .int], returnType := some (.array .byte) }, accessFlags := 9, code := some k18c1 }
def k18c2 : Code := { maxStack := 4, maxLocals := 2, code := jdk_65_method_131_code, exceptionTable := #[], attributes := #[] }
def k18m2 : Method := { name := "checkLength", desc := "(II)V", sig := { parameters := [.int, .int], returnType := none }, accessFlags := 10, code := some k18c2 }
def k18c3 : Code := { maxStack := 3, maxLocals := 3, code := jdk_65_method_132_code, exceptionTable := #[], attributes := #[] }
def k18m3 : Method := { name := "copyOfRange", desc := "([BII)[B", sig := { parameters := [(.array .byte), .int, .int], returnType := some (.array .byte) }, accessFlags := 9, code := some k18c3 }
def k18c4 : Code := { maxStack := 6, maxLocals := 5, code := jdk_65_method_133_code, exceptionTable := #[], attributes := #[] }
def k18m4 : Method := { name := "copyOfRangeByte", desc := "([BII)[B", sig := { parameters := [(.array .byte), .int, .int], returnType := some (.array .byte) }, accessFlags := 10, code := some k18c4 }
/-- java/util/Arrays -/
def k18 : Class := { plain "java/util/Arrays" (some 0) with
  accessFlags := 49
  interfaces := #[]
  cf := some (fileOf pool18 14 #[.nestMembers #[975, 375, 113, 74]] #[{ accessFlags := 2, nameIndex := 5, descriptorIndex := 6, attributes := #[] }, { accessFlags := 9, nameIndex := 302, descriptorIndex := 869, attributes := #[] }, { accessFlags := 10, nameIndex := 345, descriptorIndex := 346, attributes := #[] }, { accessFlags := 9, nameIndex := 139, descriptorIndex := 342, attributes := #[] }, { accessFlags := 10, nameIndex := 341, descriptorIndex := 342, attributes := #[] }] 49 2 #[] #[{ accessFlags := 26, nameIndex := 715, descriptorIndex := 716, attributes := #[] }, { accessFlags := 26, nameIndex := 719, descriptorIndex := 716, attributes := #[] }, { accessFlags := 4120, nameIndex := 445, descriptorIndex := 117, attributes := #[] }])
  fields := #[{ name := "MIN_ARRAY_SORT_GRAN", type := .int, accessFlags := 26, slot := 0, constantValue := 0 }, { name := "INSERTIONSORT_THRESHOLD", type := .int, accessFlags := 26, slot := 1, constantValue := 0 }, { name := "$assertionsDisabled", type := .boolean, accessFlags := 4120, slot := 2, constantValue := 0 }]
  methods := #[k18m0, k18m1, k18m2, k18m3, k18m4]
  instanceTypes := #[]
  staticTypes := #[.int, .int, .boolean]
  resolved := Array.replicate 1029 none
  statics := none }

def pool19 : Array CpInfo := pool [(4, .class_ 6), (1, u "java/lang/Object"), (0, u "<init>"), (0, u "()V"), (5, .class_ 16), (1, u "java/lang/StringLatin1"), (104, u "$assertionsDisabled"), (0, u "Z"), (98, .class_ 223), (1, u "java/lang/StringLatin1$LinesSpliterator"), (57, u "equals"), (0, u "([B[B)Z"), (107, .class_ 391), (0, u "java/lang/StringLatin1$CharsSpliterator")] 3

def k19m0 : Method := { name := "<init>", desc := "()V", sig := { parameters := [], returnType := none }, accessFlags := 0, code := none }
def k19c1 : Code := { maxStack := 3, maxLocals := 3, code := jdk_43_method_13_code, exceptionTable := #[], attributes := #[] }
def k19m1 : Method := { name := "equals", desc := "([B[B)Z", sig := { parameters := [(.array .byte), (.array .byte)], returnType := some .boolean }, accessFlags := 9, code := some k19c1 }
/-- java/lang/StringLatin1 -/
def k19 : Class := { plain "java/lang/StringLatin1" (some 0) with
  accessFlags := 48
  interfaces := #[]
  cf := some (fileOf pool19 14 #[.nestMembers #[390, 221]] #[{ accessFlags := 0, nameIndex := 7, descriptorIndex := 8, attributes := #[] }, { accessFlags := 9, nameIndex := 281, descriptorIndex := 282, attributes := #[] }] 48 4 #[] #[{ accessFlags := 4120, nameIndex := 121, descriptorIndex := 122, attributes := #[] }])
  fields := #[{ name := "$assertionsDisabled", type := .boolean, accessFlags := 4120, slot := 0, constantValue := 0 }]
  methods := #[k19m0, k19m1]
  instanceTypes := #[]
  staticTypes := #[.boolean]
  resolved := Array.replicate 395 none
  statics := none }

def pool20 : Array CpInfo := pool [(6, .class_ 8), (1, u "java/lang/Object"), (0, u "<init>"), (0, u "()V"), (1, .class_ 14), (1, u "java/lang/StringUTF16"), (31, u "$assertionsDisabled"), (0, u "Z"), (13, u "HI_BYTE_SHIFT"), (0, u "I"), (2, u "LO_BYTE_SHIFT"), (49, .methodref 12 116), (0, .nameAndType 117 118), (0, u "compress"), (0, u "([CI[BII)I"), (3, u "([CII)[B"), (138, u "coderFromArrayLen"), (0, u "([BI)B"), (106, .class_ 371), (1, u "java/lang/StringUTF16$LinesSpliterator"), (58, u "MAX_LENGTH"), (196, .class_ 628), (0, u "java/lang/StringUTF16$CodePointsSpliterator"), (0, .class_ 630), (0, u "java/lang/StringUTF16$CharsSpliterator")] 4

def k20m0 : Method := { name := "<init>", desc := "()V", sig := { parameters := [], returnType := none }, accessFlags := 0, code := none }
def k20c1 : Code := { maxStack := 2, maxLocals := 2, code := jdk_52_method_15_code, exceptionTable := #[], attributes := #[] }
def k20m1 : Method := { name := "coderFromArrayLen", desc := "([BI)B", sig := { parameters := [(.array .byte), .int], returnType := some .byte }, accessFlags := 8, code := some k20c1 }
def k20c2 : Code := { maxStack := 5, maxLocals := 6, code := jdk_52_method_16_code, exceptionTable := #[], attributes := #[] }
def k20m2 : Method := { name := "compress", desc := "([CII)[B", sig := { parameters := [(.array .char), .int, .int], returnType := some (.array .byte) }, accessFlags := 9, code := some k20c2 }
def k20c3 : Code := { maxStack := 3, maxLocals := 7, code := jdk_52_method_21_code, exceptionTable := #[], attributes := #[] }
def k20m3 : Method := { name := "compress", desc := "([CI[BII)I", sig := { parameters := [(.array .char), .int, (.array .byte), .int, .int], returnType := some .int }, accessFlags := 9, code := some k20c3 }
/-- java/lang/StringUTF16 -/
def k20 : Class := { plain "java/lang/StringUTF16" (some 0) with
  accessFlags := 48
  interfaces := #[]
  cf := some (fileOf pool20 12 #[.nestMembers #[627, 629, 369]] #[{ accessFlags := 0, nameIndex := 9, descriptorIndex := 10, attributes := #[] }, { accessFlags := 8, nameIndex := 261, descriptorIndex := 262, attributes := #[] }, { accessFlags := 9, nameIndex := 117, descriptorIndex := 122, attributes := #[] }, { accessFlags := 9, nameIndex := 117, descriptorIndex := 118, attributes := #[] }] 48 6 #[] #[{ accessFlags := 26, nameIndex := 61, descriptorIndex := 62, attributes := #[] }, { accessFlags := 26, nameIndex := 65, descriptorIndex := 62, attributes := #[] }, { accessFlags := 24, nameIndex := 430, descriptorIndex := 62, attributes := #[] }, { accessFlags := 4120, nameIndex := 46, descriptorIndex := 47, attributes := #[] }])
  fields := #[{ name := "HI_BYTE_SHIFT", type := .int, accessFlags := 26, slot := 0, constantValue := 0 }, { name := "LO_BYTE_SHIFT", type := .int, accessFlags := 26, slot := 1, constantValue := 0 }, { name := "MAX_LENGTH", type := .int, accessFlags := 24, slot := 2, constantValue := 0 }, { name := "$assertionsDisabled", type := .boolean, accessFlags := 4120, slot := 3, constantValue := 0 }]
  methods := #[k20m0, k20m1, k20m2, k20m3]
  instanceTypes := #[]
  staticTypes := #[.int, .int, .int, .boolean]
  resolved := Array.replicate 635 none
  statics := none }

def pool21 : Array CpInfo := pool [(1, .class_ 2), (0, u "java/lang/Cloneable"), (0, .class_ 4), (0, u "java/lang/Object")] 2

/-- java/lang/Cloneable -/
def k21 : Class := { plain "java/lang/Cloneable" (some 0) with
  accessFlags := 1537
  interfaces := #[]
  cf := some (fileOf pool21 1 #[] #[] 1537 3 #[] #[])
  fields := #[]
  methods := #[]
  instanceTypes := #[]
  staticTypes := #[]
  resolved := Array.replicate 7 none
  statics := none }

def pool22 : Array CpInfo := pool [(2, .class_ 4), (1, u "java/lang/Object"), (0, u "<init>"), (0, u "()V"), (17, .class_ 26), (1, u "jdk/internal/util/Preconditions"), (28, .class_ 56), (0, u "jdk/internal/util/Preconditions$4"), (57, .class_ 115), (0, u "jdk/internal/util/Preconditions$1"), (7, u "SIOOBE_FORMATTER"), (0, u "Ljava/util/function/BiFunction;"), (0, .class_ 126), (0, u "jdk/internal/util/Preconditions$2"), (3, u "AIOOBE_FORMATTER"), (0, .class_ 132), (0, u "jdk/internal/util/Preconditions$3"), (3, u "IOOBE_FORMATTER")] 57

def k22m0 : Method := { name := "<init>", desc := "()V", sig := { parameters := [], returnType := none }, accessFlags := 1, code := none }
/-- jdk/internal/util/Preconditions -/
def k22 : Class := { plain "jdk/internal/util/Preconditions" (some 0) with
  accessFlags := 33
  interfaces := #[]
  cf := some (fileOf pool22 24 #[.nestMembers #[55, 131, 125, 114]] #[{ accessFlags := 1, nameIndex := 5, descriptorIndex := 6, attributes := #[] }] 33 2 #[] #[{ accessFlags := 25, nameIndex := 123, descriptorIndex := 124, attributes := #[] }, { accessFlags := 25, nameIndex := 130, descriptorIndex := 124, attributes := #[] }, { accessFlags := 25, nameIndex := 136, descriptorIndex := 124, attributes := #[] }])
  fields := #[{ name := "SIOOBE_FORMATTER", type := (.object "java/util/function/BiFunction"), accessFlags := 25, slot := 0, constantValue := 0 }, { name := "AIOOBE_FORMATTER", type := (.object "java/util/function/BiFunction"), accessFlags := 25, slot := 1, constantValue := 0 }, { name := "IOOBE_FORMATTER", type := (.object "java/util/function/BiFunction"), accessFlags := 25, slot := 2, constantValue := 0 }]
  methods := #[k22m0]
  instanceTypes := #[]
  staticTypes := #[(.object "java/util/function/BiFunction"), (.object "java/util/function/BiFunction"), (.object "java/util/function/BiFunction")]
  resolved := Array.replicate 194 none
  statics := some 2 }

def pool23 : Array CpInfo := pool [(2, .class_ 4), (1, u "java/lang/Object"), (0, u "<init>"), (0, u "()V"), (12, .class_ 20), (0, u "java/util/Collections"), (63, u "r"), (0, u "Ljava/util/Random;"), (80, .class_ 167), (0, u "java/util/Collections$UnmodifiableCollection"), (6, .class_ 175), (0, u "java/util/Collections$UnmodifiableSequencedCollection"), (6, .class_ 183), (0, u "java/util/Collections$UnmodifiableSet"), (6, .class_ 191), (0, u "java/util/Collections$UnmodifiableSequencedSet"), (6, .class_ 199), (0, u "java/util/Collections$UnmodifiableSortedSet"), (6, .class_ 207), (0, u "java/util/Collections$UnmodifiableNavigableSet"), (4, .class_ 213), (0, u "java/util/Collections$UnmodifiableList"), (1, .class_ 216), (0, u "java/util/Collections$UnmodifiableRandomAccessList"), (6, .class_ 224), (0, u "java/util/Collections$UnmodifiableMap"), (6, .class_ 232), (0, u "java/util/Collections$UnmodifiableSequencedMap"), (4, .class_ 238), (0, u "java/util/Collections$UnmodifiableSortedMap"), (6, .class_ 246), (0, u "java/util/Collections$UnmodifiableNavigableMap"), (3, .class_ 251), (0, u "java/util/Collections$SynchronizedCollection"), (4, .class_ 257), (0, u "java/util/Collections$SynchronizedSet"), (4, .class_ 263), (0, u "java/util/Collections$SynchronizedSortedSet"), (1, .class_ 266), (0, u "java/util/Collections$SynchronizedNavigableSet"), (1, .class_ 269), (0, u "java/util/Collections$SynchronizedRandomAccessList"), (1, .class_ 272), (0, u "java/util/Collections$SynchronizedList"), (5, .class_ 279), (0, u "java/util/Collections$SynchronizedMap"), (1, .class_ 282), (0, u "java/util/Collections$SynchronizedSortedMap"), (1, .class_ 285), (0, u "java/util/Collections$SynchronizedNavigableMap"), (1, .class_ 288), (0, u "java/util/Collections$CheckedCollection"), (11, .class_ 301), (0, u "java/util/Collections$CheckedQueue"), (3, .class_ 306), (0, u "java/util/Collections$CheckedSet"), (3, .class_ 311), (0, u "java/util/Collections$CheckedSortedSet"), (3, .class_ 316), (0, u "java/util/Collections$CheckedNavigableSet"), (3, .class_ 321), (0, u "java/util/Collections$CheckedRandomAccessList"), (3, .class_ 326), (0, u "java/util/Collections$CheckedList"), (1, .class_ 329), (0, u "java/util/Collections$CheckedMap"), (3, .class_ 334), (0, u "java/util/Collections$CheckedSortedMap"), (3, .class_ 339), (0, u "java/util/Collections$CheckedNavigableMap"), (4, .class_ 346), (1, u "java/util/Collections$EmptyIterator"), (3, .class_ 352), (1, u "java/util/Collections$EmptyListIterator"), (2, .class_ 357), (1, u "java/util/Collections$EmptyEnumeration"), (4, u "EMPTY_SET"), (0, u "Ljava/util/Set;"), (6, u "EMPTY_LIST"), (0, u "Ljava/util/List;"), (2, u "EMPTY_MAP"), (0, u "Ljava/util/Map;"), (4, .class_ 381), (0, u "java/util/Collections$SingletonSet"), (2, .class_ 385), (0, u "java/util/Collections$1"), (1, .class_ 388), (0, u "java/util/Collections$2"), (1, .class_ 391), (0, u "java/util/Collections$SingletonList"), (1, .class_ 394), (0, u "java/util/Collections$SingletonMap"), (22, .class_ 418), (0, u "java/util/Collections$CopiesList"), (4, .class_ 425), (1, u "java/util/Collections$ReverseComparator"), (8, .class_ 435), (0, u "java/util/Collections$ReverseComparator2"), (6, .class_ 443), (0, u "java/util/Collections$3"), (25, .class_ 470), (0, u "java/util/Collections$SetFromMap"), (2, .class_ 474), (0, u "java/util/Collections$SequencedSetFromMap"), (3, .class_ 479), (0, u "java/util/Collections$AsLIFOQueue"), (11, .class_ 492), (0, u "java/util/Collections$EmptySet"), (1, .class_ 495), (0, u "java/util/Collections$EmptyList"), (1, .class_ 498), (0, u "java/util/Collections$EmptyMap"), (1, u "BINARYSEARCH_THRESHOLD"), (0, u "I"), (2, u "REVERSE_THRESHOLD"), (1, u "SHUFFLE_THRESHOLD"), (1, u "FILL_THRESHOLD"), (1, u "ROTATE_THRESHOLD"), (1, u "COPY_THRESHOLD"), (1, u "REPLACEALL_THRESHOLD"), (1, u "INDEXOFSUBLIST_THRESHOLD"), (333, .class_ 851), (0, u "java/util/Collections$CheckedMap$CheckedEntrySet"), (0, .class_ 853), (0, u "java/util/Collections$CheckedMap$CheckedEntrySet$CheckedEntry"), (0, .class_ 855), (0, u "java/util/Collections$CheckedMap$CheckedEntrySet$1"), (0, .class_ 857), (0, u "java/util/Collections$CheckedList$1"), (0, .class_ 859), (0, u "java/util/Collections$CheckedCollection$1"), (0, .class_ 861), (0, u "java/util/Collections$UnmodifiableNavigableMap$EmptyNavigableMap"), (0, .class_ 863), (0, u "java/util/Collections$UnmodifiableMap$UnmodifiableEntrySet"), (0, .class_ 865), (0, u "java/util/Collections$UnmodifiableMap$UnmodifiableEntrySet$UnmodifiableEntry"), (0, .class_ 867), (0, u "java/util/Collections$UnmodifiableMap$UnmodifiableEntrySet$UnmodifiableEntrySetSpliterator"), (0, .class_ 869), (0, u "java/util/Collections$UnmodifiableMap$UnmodifiableEntrySet$1"), (0, .class_ 871), (0, u "java/util/Collections$UnmodifiableList$1"), (0, .class_ 873), (0, u "java/util/Collections$UnmodifiableNavigableSet$EmptyNavigableSet"), (0, .class_ 875), (0, u "java/util/Collections$UnmodifiableCollection$1")] 57

def k23m0 : Method := { name := "<init>", desc := "()V", sig := { parameters := [], returnType := none }, accessFlags := 2, code := none }
/-- java/util/Collections -/
def k23 : Class := { plain "java/util/Collections" (some 0) with
  accessFlags := 33
  interfaces := #[]
  cf := some (fileOf pool23 19 #[.nestMembers #[478, 473, 469, 434, 423, 417, 393, 390, 380, 497, 494, 491, 355, 350, 344, 338, 333, 328, 850, 852, 854, 320, 325, 856, 315, 310, 305, 300, 287, 858, 284, 281, 278, 268, 271, 265, 262, 256, 250, 245, 860, 237, 231, 223, 862, 864, 866, 868, 215, 212, 870, 206, 872, 198, 190, 182, 174, 166, 874, 442, 387, 384]] #[{ accessFlags := 2, nameIndex := 5, descriptorIndex := 6, attributes := #[] }] 33 2 #[] #[{ accessFlags := 26, nameIndex := 500, descriptorIndex := 501, attributes := #[] }, { accessFlags := 26, nameIndex := 504, descriptorIndex := 501, attributes := #[] }, { accessFlags := 26, nameIndex := 506, descriptorIndex := 501, attributes := #[] }, { accessFlags := 26, nameIndex := 508, descriptorIndex := 501, attributes := #[] }, { accessFlags := 26, nameIndex := 510, descriptorIndex := 501, attributes := #[] }, { accessFlags := 26, nameIndex := 512, descriptorIndex := 501, attributes := #[] }, { accessFlags := 26, nameIndex := 514, descriptorIndex := 501, attributes := #[] }, { accessFlags := 26, nameIndex := 516, descriptorIndex := 501, attributes := #[] }, { accessFlags := 10, nameIndex := 84, descriptorIndex := 85, attributes := #[] }, { accessFlags := 25, nameIndex := 362, descriptorIndex := 363, attributes := #[] }, { accessFlags := 25, nameIndex := 370, descriptorIndex := 371, attributes := #[] }, { accessFlags := 25, nameIndex := 374, descriptorIndex := 375, attributes := #[] }])
  fields := #[{ name := "BINARYSEARCH_THRESHOLD", type := .int, accessFlags := 26, slot := 0, constantValue := 0 }, { name := "REVERSE_THRESHOLD", type := .int, accessFlags := 26, slot := 1, constantValue := 0 }, { name := "SHUFFLE_THRESHOLD", type := .int, accessFlags := 26, slot := 2, constantValue := 0 }, { name := "FILL_THRESHOLD", type := .int, accessFlags := 26, slot := 3, constantValue := 0 }, { name := "ROTATE_THRESHOLD", type := .int, accessFlags := 26, slot := 4, constantValue := 0 }, { name := "COPY_THRESHOLD", type := .int, accessFlags := 26, slot := 5, constantValue := 0 }, { name := "REPLACEALL_THRESHOLD", type := .int, accessFlags := 26, slot := 6, constantValue := 0 }, { name := "INDEXOFSUBLIST_THRESHOLD", type := .int, accessFlags := 26, slot := 7, constantValue := 0 }, { name := "r", type := (.object "java/util/Random"), accessFlags := 10, slot := 8, constantValue := 0 }, { name := "EMPTY_SET", type := (.object "java/util/Set"), accessFlags := 25, slot := 9, constantValue := 0 }, { name := "EMPTY_LIST", type := (.object "java/util/List"), accessFlags := 25, slot := 10, constantValue := 0 }, { name := "EMPTY_MAP", type := (.object "java/util/Map"), accessFlags := 25, slot := 11, constantValue := 0 }]
  methods := #[k23m0]
  instanceTypes := #[]
  staticTypes := #[.int, .int, .int, .int, .int, .int, .int, .int, (.object "java/util/Random"), (.object "java/util/Set"), (.object "java/util/List"), (.object "java/util/Map")]
  resolved := Array.replicate 933 none
  statics := some 3 }

def pool24 : Array CpInfo := pool [(8, .class_ 10), (1, u "java/lang/Iterable"), (24, .class_ 36), (0, u "java/lang/Object")] 25

/-- java/lang/Iterable -/
def k24 : Class := { plain "java/lang/Iterable" (some 0) with
  accessFlags := 1537
  interfaces := #[]
  cf := some (fileOf pool24 8 #[] #[] 1537 35 #[] #[])
  fields := #[]
  methods := #[]
  instanceTypes := #[]
  staticTypes := #[]
  resolved := Array.replicate 62 none
  statics := none }

def pool25 : Array CpInfo := pool [(10, .class_ 12), (1, u "java/util/Collection"), (47, .class_ 61), (0, u "java/lang/Object"), (0, .class_ 63), (0, u "java/lang/Iterable")] 51

/-- java/util/Collection -/
def k25 : Class := { plain "java/util/Collection" (some 0) with
  accessFlags := 1537
  interfaces := #[24]
  cf := some (fileOf pool25 10 #[] #[] 1537 60 #[62] #[])
  fields := #[]
  methods := #[]
  instanceTypes := #[]
  staticTypes := #[]
  resolved := Array.replicate 115 none
  statics := none }

def pool26 : Array CpInfo := pool [(2, .class_ 4), (1, u "java/lang/Object"), (0, u "<init>"), (0, u "()V"), (1, .class_ 10), (1, u "java/util/AbstractCollection"), (66, .class_ 78), (0, u "java/util/Collection")] 81

def k26m0 : Method := { name := "<init>", desc := "()V", sig := { parameters := [], returnType := none }, accessFlags := 4, code := none }
/-- java/util/AbstractCollection -/
def k26 : Class := { plain "java/util/AbstractCollection" (some 0) with
  accessFlags := 1057
  interfaces := #[25]
  cf := some (fileOf pool26 8 #[] #[{ accessFlags := 4, nameIndex := 5, descriptorIndex := 6, attributes := #[] }] 1057 2 #[77] #[])
  fields := #[]
  methods := #[k26m0]
  instanceTypes := #[]
  staticTypes := #[]
  resolved := Array.replicate 160 none
  statics := none }

def pool27 : Array CpInfo := pool [(8, .class_ 10), (1, u "java/util/SequencedCollection"), (15, .class_ 27), (0, u "java/lang/Object"), (0, .class_ 29), (0, u "java/util/Collection")] 27

/-- java/util/SequencedCollection -/
def k27 : Class := { plain "java/util/SequencedCollection" (some 0) with
  accessFlags := 1537
  interfaces := #[25]
  cf := some (fileOf pool27 8 #[] #[] 1537 26 #[28] #[])
  fields := #[]
  methods := #[]
  instanceTypes := #[]
  staticTypes := #[]
  resolved := Array.replicate 57 none
  statics := none }

def pool28 : Array CpInfo := pool [(8, .class_ 10), (1, u "java/util/List"), (92, .class_ 104), (0, u "java/lang/Object"), (15, .class_ 121), (0, u "java/util/SequencedCollection")] 129

/-- java/util/List -/
def k28 : Class := { plain "java/util/List" (some 0) with
  accessFlags := 1537
  interfaces := #[27]
  cf := some (fileOf pool28 8 #[] #[] 1537 103 #[120] #[])
  fields := #[]
  methods := #[]
  instanceTypes := #[]
  staticTypes := #[]
  resolved := Array.replicate 251 none
  statics := none }

def pool29 : Array CpInfo := pool [(2, .class_ 4), (1, u "java/util/AbstractCollection"), (0, u "<init>"), (0, u "()V"), (1, .class_ 10), (1, u "java/util/AbstractList"), (0, u "modCount"), (0, u "I"), (64, .class_ 78), (0, u "java/util/AbstractList$Itr"), (3, .class_ 83), (0, u "java/util/AbstractList$ListItr"), (9, .class_ 94), (0, u "java/util/AbstractList$RandomAccessSubList"), (3, .class_ 99), (0, u "java/util/AbstractList$SubList"), (33, .class_ 134), (0, u "java/util/List"), (73, .class_ 209), (0, u "java/util/AbstractList$SubList$1"), (0, .class_ 211), (0, u "java/util/AbstractList$RandomAccessSpliterator")] 6

def k29m0 : Method := { name := "<init>", desc := "()V", sig := { parameters := [], returnType := none }, accessFlags := 4, code := none }
/-- java/util/AbstractList -/
def k29 : Class := { plain "java/util/AbstractList" (some 26) with
  accessFlags := 1057
  interfaces := #[28]
  cf := some (fileOf pool29 8 #[.nestMembers #[93, 98, 208, 210, 82, 77]] #[{ accessFlags := 4, nameIndex := 5, descriptorIndex := 6, attributes := #[] }] 1057 2 #[133] #[{ accessFlags := 132, nameIndex := 11, descriptorIndex := 12, attributes := #[] }])
  fields := #[{ name := "modCount", type := .int, accessFlags := 132, slot := 0, constantValue := 0 }]
  methods := #[k29m0]
  instanceTypes := #[.int]
  staticTypes := #[]
  resolved := Array.replicate 218 none
  statics := none }

def pool30 : Array CpInfo := pool [(1, .class_ 2), (0, u "java/util/RandomAccess"), (0, .class_ 4), (0, u "java/lang/Object")] 2

/-- java/util/RandomAccess -/
def k30 : Class := { plain "java/util/RandomAccess" (some 0) with
  accessFlags := 1537
  interfaces := #[]
  cf := some (fileOf pool30 1 #[] #[] 1537 3 #[] #[])
  fields := #[]
  methods := #[]
  instanceTypes := #[]
  staticTypes := #[]
  resolved := Array.replicate 7 none
  statics := none }

def pool31 : Array CpInfo := pool [(2, .class_ 4), (1, u "java/util/AbstractList"), (0, u "<init>"), (0, u "()V"), (1, .class_ 10), (1, u "java/util/Collections"), (54, .class_ 66), (0, u "java/util/Collections$EmptyList"), (0, .class_ 68), (0, u "java/util/RandomAccess"), (0, .class_ 70), (0, u "java/io/Serializable"), (0, u "serialVersionUID"), (0, u "J")] 77

def k31m0 : Method := { name := "<init>", desc := "()V", sig := { parameters := [], returnType := none }, accessFlags := 2, code := none }
/-- java/util/Collections$EmptyList -/
def k31 : Class := { plain "java/util/Collections$EmptyList" (some 29) with
  accessFlags := 32
  interfaces := #[30, 2]
  cf := some (fileOf pool31 65 #[.nestHost 8] #[{ accessFlags := 2, nameIndex := 5, descriptorIndex := 6, attributes := #[] }] 32 2 #[67, 69] #[{ accessFlags := 26, nameIndex := 71, descriptorIndex := 72, attributes := #[] }])
  fields := #[{ name := "serialVersionUID", type := .long, accessFlags := 26, slot := 0, constantValue := 0 }]
  methods := #[k31m0]
  instanceTypes := #[.int]
  staticTypes := #[.long]
  resolved := Array.replicate 150 none
  statics := none }

def pool32 : Array CpInfo := pool [(2, .class_ 4), (1, u "java/lang/StackTraceElement"), (0, u "<init>"), (2, .class_ 10), (1, u "java/lang/Object"), (0, u "()V"), (2, u "format"), (0, u "B"), (2, u "classLoaderName"), (0, u "Ljava/lang/String;"), (2, u "moduleName"), (2, u "moduleVersion"), (12, u "declaringClass"), (4, u "methodName"), (2, u "fileName"), (2, u "lineNumber"), (0, u "I"), (65, u "declaringClassObject"), (0, u "Ljava/lang/Class;"), (33, .class_ 153), (1, u "java/lang/StackTraceElement$HashedModules"), (17, .class_ 172), (0, u "java/io/Serializable"), (0, u "NATIVE_METHOD"), (1, u "UNKNOWN_SOURCE"), (2, u "BUILTIN_CLASS_LOADER"), (1, u "JDK_NON_UPGRADEABLE_MODULE"), (1, u "serialVersionUID"), (0, u "J")] 51

def k32m0 : Method := { name := "<init>", desc := "()V", sig := { parameters := [], returnType := none }, accessFlags := 2, code := none }
/-- java/lang/StackTraceElement -/
def k32 : Class := { plain "java/lang/StackTraceElement" (some 0) with
  accessFlags := 49
  interfaces := #[2]
  cf := some (fileOf pool32 2 #[.nestMembers #[151]] #[{ accessFlags := 2, nameIndex := 5, descriptorIndex := 11, attributes := #[] }] 49 8 #[171] #[{ accessFlags := 26, nameIndex := 173, descriptorIndex := 19, attributes := #[] }, { accessFlags := 26, nameIndex := 175, descriptorIndex := 19, attributes := #[] }, { accessFlags := 130, nameIndex := 116, descriptorIndex := 117, attributes := #[] }, { accessFlags := 2, nameIndex := 18, descriptorIndex := 19, attributes := #[] }, { accessFlags := 2, nameIndex := 22, descriptorIndex := 19, attributes := #[] }, { accessFlags := 2, nameIndex := 25, descriptorIndex := 19, attributes := #[] }, { accessFlags := 2, nameIndex := 38, descriptorIndex := 19, attributes := #[] }, { accessFlags := 2, nameIndex := 43, descriptorIndex := 19, attributes := #[] }, { accessFlags := 2, nameIndex := 46, descriptorIndex := 19, attributes := #[] }, { accessFlags := 2, nameIndex := 49, descriptorIndex := 50, attributes := #[] }, { accessFlags := 2, nameIndex := 14, descriptorIndex := 15, attributes := #[] }, { accessFlags := 26, nameIndex := 178, descriptorIndex := 15, attributes := #[] }, { accessFlags := 26, nameIndex := 180, descriptorIndex := 15, attributes := #[] }, { accessFlags := 26, nameIndex := 182, descriptorIndex := 183, attributes := #[] }])
  fields := #[{ name := "NATIVE_METHOD", type := (.object "java/lang/String"), accessFlags := 26, slot := 0, constantValue := 0 }, { name := "UNKNOWN_SOURCE", type := (.object "java/lang/String"), accessFlags := 26, slot := 1, constantValue := 0 }, { name := "declaringClassObject", type := (.object "java/lang/Class"), accessFlags := 130, slot := 0, constantValue := 0 }, { name := "classLoaderName", type := (.object "java/lang/String"), accessFlags := 2, slot := 1, constantValue := 0 }, { name := "moduleName", type := (.object "java/lang/String"), accessFlags := 2, slot := 2, constantValue := 0 }, { name := "moduleVersion", type := (.object "java/lang/String"), accessFlags := 2, slot := 3, constantValue := 0 }, { name := "declaringClass", type := (.object "java/lang/String"), accessFlags := 2, slot := 4, constantValue := 0 }, { name := "methodName", type := (.object "java/lang/String"), accessFlags := 2, slot := 5, constantValue := 0 }, { name := "fileName", type := (.object "java/lang/String"), accessFlags := 2, slot := 6, constantValue := 0 }, { name := "lineNumber", type := .int, accessFlags := 2, slot := 7, constantValue := 0 }, { name := "format", type := .byte, accessFlags := 2, slot := 8, constantValue := 0 }, { name := "BUILTIN_CLASS_LOADER", type := .byte, accessFlags := 26, slot := 2, constantValue := 0 }, { name := "JDK_NON_UPGRADEABLE_MODULE", type := .byte, accessFlags := 26, slot := 3, constantValue := 0 }, { name := "serialVersionUID", type := .long, accessFlags := 26, slot := 4, constantValue := 0 }]
  methods := #[k32m0]
  instanceTypes := #[(.object "java/lang/Class"), (.object "java/lang/String"), (.object "java/lang/String"), (.object "java/lang/String"), (.object "java/lang/String"), (.object "java/lang/String"), (.object "java/lang/String"), .int, .byte]
  staticTypes := #[(.object "java/lang/String"), (.object "java/lang/String"), .byte, .byte, .long]
  resolved := Array.replicate 235 none
  statics := none }

/-- the primitive byte -/
def k33 : Class := { plain "byte" none with kind := .primitive 'B', accessFlags := 0x411 }
/-- [B -/
def k34 : Class := { plain "[B" (some 0) with kind := .array 33 .byte, interfaces := #[21, 2], accessFlags := 1041 }

/-- the primitive char -/
def k35 : Class := { plain "char" none with kind := .primitive 'C', accessFlags := 0x411 }
/-- [C -/
def k36 : Class := { plain "[C" (some 0) with kind := .array 35 .char, interfaces := #[21, 2], accessFlags := 1041 }

/-- the primitive int -/
def k37 : Class := { plain "int" none with kind := .primitive 'I', accessFlags := 0x411 }
/-- [I -/
def k38 : Class := { plain "[I" (some 0) with kind := .array 37 .int, interfaces := #[21, 2], accessFlags := 1041 }

/-- [Ljava/lang/Object; -/
def k39 : Class := { plain "[Ljava/lang/Object;" (some 0) with kind := .array 0 (.object "java/lang/Object"), interfaces := #[21, 2], accessFlags := 1041 }

/-- [Ljava/lang/StackTraceElement; -/
def k40 : Class := { plain "[Ljava/lang/StackTraceElement;" (some 0) with kind := .array 32 (.object "java/lang/StackTraceElement"), interfaces := #[21, 2], accessFlags := 1041 }

/-- [Ljava/lang/Throwable; -/
def k41 : Class := { plain "[Ljava/lang/Throwable;" (some 0) with kind := .array 8 (.object "java/lang/Throwable"), interfaces := #[21, 2], accessFlags := 1041 }

def heap : Heap := #[{ cls := 7, slots := #[.long 0, .int 1, .null, .int 0, .null, .int 0, .int 0], vm := .statics 7 },
  { cls := 8, slots := #[.long 0, .ref 4, .ref 5, .null, .null, .null, .null, .ref 6, .int 1], vm := .statics 8 },
  { cls := 22, slots := #[.null, .null, .null], vm := .statics 22 },
  { cls := 23, slots := #[.int 0, .int 0, .int 0, .int 0, .int 0, .int 0, .int 0, .int 0, .null, .null, .ref 5, .null], vm := .statics 23 },
  { cls := 40, slots := #[], vm := .none },
  { cls := 31, slots := #[.int 0], vm := .none },
  { cls := 41, slots := #[], vm := .none }]
def classes : Array Class := #[k0, k1, k2, k3, k4, k5, k6, k7, k8, k9, k10, k11, k12, k13, k14, k15, k16, k17, k18, k19, k20, k21, k22, k23, k24, k25, k26, k27, k28, k29, k30, k31, k32, k33, k34, k35, k36, k37, k38, k39, k40, k41]
def interned : List (Array UInt16 × Addr) := []
def slotsUsed : Nat := 32
def theMethod : MethodId := ⟨1, 1⟩
def args0 : Array Value := #[.int 5, .int 5, .int 5, .int 5, .int 5]
def aboutOver (below : List Frame) : State where
  vm := { classes := classes, interned := interned.toArray }
  heap := heap
  slotsUsed := slotsUsed
  threads := #[{ frames := .invoking theMethod args0 :: below }]
def below0 : List Frame := [.native { method := ⟨0, 0⟩, args := #[] }]
def about1 : State := aboutOver below0
def p0 : Program := .bare "" "" ""
def e0 : Env := launch0.env 0 0 0
theorem w_frames : about1.frames = Frame.invoking theMethod args0 :: below0 := rfl
set_option maxRecDepth 65536 in
theorem w_args : argsFit about1.vm theMethod args0 = true := by decide +kernel
set_option maxRecDepth 65536 in
theorem w_heap : heapFits about1 = true := by decide +kernel
set_option maxRecDepth 65536 in
theorem w_runnable : about1.curStatus? = some .runnable := by decide +kernel
set_option maxRecDepth 65536 in
theorem w_alone : about1.alone = true := by decide +kernel
set_option maxRecDepth 65536 in
theorem w_named : about1.methodNamed? x = some theMethod := by decide +kernel
set_option maxRecDepth 65536 in
theorem w_hears : about1.hears theMethod below0 = true := by decide +kernel
set_option maxRecDepth 65536 in
theorem w_ripe : about1.ripe theMethod args0 below0 = true := by decide +kernel
theorem w_running : about1.status = .running := rfl
set_option maxRecDepth 65536 in
theorem w_room : about1.hasRoom e0.platform room_1 = true :=
  launch0.hasRoom_least _ room_1 (by decide +kernel) (by decide +kernel) (by decide +kernel) (by decide +kernel) (by decide +kernel) (by decide +kernel)
theorem allAtoms_all (ts : List Jvm.Cond) (a : Array Jvm.Value) (st : Jvm.State) : (allAtoms ts).before a st = ts.all (fun c => c.before a st) := by
  induction ts with
  | nil => rfl
  | cons c t ih =>
    show (Jvm.Cond.and c (allAtoms t)).before a st = _
    rw [Jvm.Cond.before_and, ih, List.all_cons]
def words1 : List Jvm.Cond := Jvm.Cond.code x code maxLocals ret :: tables_1
/-- a 'code' word, met by the world's own term for the bytes: nothing is compared byte by byte -/
theorem code_word {y : MethodName} {bytes : ByteArray} {mx : Nat} {rt : Option FieldType} {a : Array Value} {s : State} {m : MethodId} {meth : Method} {c : Code} (h1 : s.methodNamed? y = some m) (h2 : s.vm.method? m = some meth) (h3 : meth.code = some c) (h4 : c.code = bytes)
    (h5 : (c.maxLocals == mx && c.exceptionTable.isEmpty && decide (c.maxStack ≤ mostOperands) && decide (meth.sig.returnType = rt) && !meth.locks && decide (parseMethodDescriptor y.desc = some meth.sig)) = true) : (Jvm.Cond.code y bytes mx rt).before a s = true := by
  simp only [Bool.and_eq_true, beq_iff_eq, Bool.not_eq_true', decide_eq_true_eq] at h5
  obtain ⟨⟨⟨⟨⟨g1, g2⟩, g3⟩, g4⟩, g5⟩, g6⟩ := h5
  simp [Cond.before, Cond.holds, Cond.value, h1, h2, h3, h4, g1, g2, g3, g4, g5, g6]
def isCode : Jvm.Cond → Bool
  | .code _ _ _ _ => true
  | _ => false
theorem all_split {L : List Jvm.Cond} {P : Jvm.Cond → Bool} (h1 : L.all (fun c => isCode c || P c) = true) (h2 : ∀ c ∈ L.filter isCode, P c = true) : L.all P = true := by
  refine List.all_eq_true.mpr fun c hc => ?_
  have h := List.all_eq_true.mp h1 c hc
  rcases Bool.eq_false_or_eq_true (isCode c) with hi | hi
  · exact h2 c (List.mem_filter.mpr ⟨hc, hi⟩)
  · simpa [hi] using h
set_option maxRecDepth 65536 in
theorem w_c0 : (Jvm.Cond.code x code maxLocals ret).before args0 about1 = true := code_word (m := ⟨1, 1⟩) (meth := k1m1) (c := k1c1) (by decide +kernel) rfl rfl rfl (by decide +kernel)
set_option maxRecDepth 65536 in
theorem w_c1 : (Jvm.Cond.code ({ cls := "com/example/twinstate/twinstate/TransactionRolledBackException", name := "<init>", desc := "(Ljava/lang/String;)V" } : Jvm.MethodName) prog_10_method_1_code (2 : Nat) (Option.none : Option Jvm.ClassFile.FieldType)).before args0 about1 = true := code_word (m := ⟨11, 0⟩) (meth := k11m0) (c := k11c0) (by decide +kernel) rfl rfl rfl (by decide +kernel)
set_option maxRecDepth 65536 in
theorem w_c2 : (Jvm.Cond.code ({ cls := "java/lang/StringBuilder", name := "<init>", desc := "()V" } : Jvm.MethodName) jdk_67_method_1_code (1 : Nat) (Option.none : Option Jvm.ClassFile.FieldType)).before args0 about1 = true := code_word (m := ⟨14, 0⟩) (meth := k14m0) (c := k14c0) (by decide +kernel) rfl rfl rfl (by decide +kernel)
set_option maxRecDepth 65536 in
theorem w_c3 : (Jvm.Cond.code ({ cls := "java/lang/AbstractStringBuilder", name := "<init>", desc := "(I)V" } : Jvm.MethodName) jdk_68_method_2_code (2 : Nat) (Option.none : Option Jvm.ClassFile.FieldType)).before args0 about1 = true := code_word (m := ⟨13, 1⟩) (meth := k13m1) (c := k13c1) (by decide +kernel) rfl rfl rfl (by decide +kernel)
set_option maxRecDepth 65536 in
theorem w_c4 : (Jvm.Cond.code ({ cls := "java/lang/Object", name := "<init>", desc := "()V" } : Jvm.MethodName) object_method_1_code (1 : Nat) (Option.none : Option Jvm.ClassFile.FieldType)).before args0 about1 = true := code_word (m := ⟨0, 0⟩) (meth := k0m0) (c := k0c0) (by decide +kernel) rfl rfl rfl (by decide +kernel)
set_option maxRecDepth 65536 in
theorem w_c5 : (Jvm.Cond.code ({ cls := "java/lang/StringBuilder", name := "append", desc := "(Ljava/lang/String;)Ljava/lang/StringBuilder;" } : Jvm.MethodName) jdk_67_method_7_code (2 : Nat) (Option.some (Jvm.ClassFile.FieldType.object "java/lang/StringBuilder"))).before args0 about1 = true := code_word (m := ⟨14, 1⟩) (meth := k14m1) (c := k14c1) (by decide +kernel) rfl rfl rfl (by decide +kernel)
set_option maxRecDepth 65536 in
theorem w_c6 : (Jvm.Cond.code ({ cls := "java/lang/AbstractStringBuilder", name := "append", desc := "(Ljava/lang/String;)Ljava/lang/AbstractStringBuilder;" } : Jvm.MethodName) jdk_68_method_22_code (3 : Nat) (Option.some (Jvm.ClassFile.FieldType.object "java/lang/AbstractStringBuilder"))).before args0 about1 = true := code_word (m := ⟨13, 5⟩) (meth := k13m5) (c := k13c5) (by decide +kernel) rfl rfl rfl (by decide +kernel)
set_option maxRecDepth 65536 in
theorem w_c7 : (Jvm.Cond.code ({ cls := "java/lang/String", name := "length", desc := "()I" } : Jvm.MethodName) jdk_42_method_54_code (1 : Nat) (Option.some Jvm.ClassFile.FieldType.int)).before args0 about1 = true := code_word (m := ⟨7, 3⟩) (meth := k7m3) (c := k7c3) (by decide +kernel) rfl rfl rfl (by decide +kernel)
set_option maxRecDepth 65536 in
theorem w_c8 : (Jvm.Cond.code ({ cls := "java/lang/String", name := "coder", desc := "()B" } : Jvm.MethodName) jdk_42_method_152_code (1 : Nat) (Option.some Jvm.ClassFile.FieldType.byte)).before args0 about1 = true := code_word (m := ⟨7, 8⟩) (meth := k7m8) (c := k7c8) (by decide +kernel) rfl rfl rfl (by decide +kernel)
set_option maxRecDepth 65536 in
theorem w_c9 : (Jvm.Cond.code ({ cls := "java/lang/AbstractStringBuilder", name := "ensureCapacityInternal", desc := "(I)V" } : Jvm.MethodName) jdk_68_method_9_code (3 : Nat) (Option.none : Option Jvm.ClassFile.FieldType)).before args0 about1 = true := code_word (m := ⟨13, 3⟩) (meth := k13m3) (c := k13c3) (by decide +kernel) rfl rfl rfl (by decide +kernel)
set_option maxRecDepth 65536 in
theorem w_c10 : (Jvm.Cond.code ({ cls := "java/lang/AbstractStringBuilder", name := "putStringAt", desc := "(ILjava/lang/String;)V" } : Jvm.MethodName) jdk_68_method_73_code (3 : Nat) (Option.none : Option Jvm.ClassFile.FieldType)).before args0 about1 = true := code_word (m := ⟨13, 10⟩) (meth := k13m10) (c := k13c10) (by decide +kernel) rfl rfl rfl (by decide +kernel)
set_option maxRecDepth 65536 in
theorem w_c11 : (Jvm.Cond.code ({ cls := "java/lang/AbstractStringBuilder", name := "inflateIfNeededFor", desc := "(Ljava/lang/String;)V" } : Jvm.MethodName) jdk_68_method_71_code (2 : Nat) (Option.none : Option Jvm.ClassFile.FieldType)).before args0 about1 = true := code_word (m := ⟨13, 9⟩) (meth := k13m9) (c := k13c9) (by decide +kernel) rfl rfl rfl (by decide +kernel)
set_option maxRecDepth 65536 in
theorem w_c12 : (Jvm.Cond.code ({ cls := "java/lang/String", name := "getBytes", desc := "([BIB)V" } : Jvm.MethodName) jdk_42_method_147_code (4 : Nat) (Option.none : Option Jvm.ClassFile.FieldType)).before args0 about1 = true := code_word (m := ⟨7, 5⟩) (meth := k7m5) (c := k7c5) (by decide +kernel) rfl rfl rfl (by decide +kernel)
set_option maxRecDepth 65536 in
theorem w_c13 : (Jvm.Cond.code ({ cls := "java/lang/AbstractStringBuilder", name := "newCapacity", desc := "(I)I" } : Jvm.MethodName) jdk_68_method_10_code (6 : Nat) (Option.some Jvm.ClassFile.FieldType.int)).before args0 about1 = true := code_word (m := ⟨13, 4⟩) (meth := k13m4) (c := k13c4) (by decide +kernel) rfl rfl rfl (by decide +kernel)
set_option maxRecDepth 65536 in
theorem w_c14 : (Jvm.Cond.code ({ cls := "jdk/internal/util/ArraysSupport", name := "newLength", desc := "(III)I" } : Jvm.MethodName) jdk_48_method_27_code (4 : Nat) (Option.some Jvm.ClassFile.FieldType.int)).before args0 about1 = true := code_word (m := ⟨16, 1⟩) (meth := k16m1) (c := k16c1) (by decide +kernel) rfl rfl rfl (by decide +kernel)
set_option maxRecDepth 65536 in
theorem w_c15 : (Jvm.Cond.code ({ cls := "java/lang/Math", name := "max", desc := "(II)I" } : Jvm.MethodName) jdk_29_method_65_code (2 : Nat) (Option.some Jvm.ClassFile.FieldType.int)).before args0 about1 = true := code_word (m := ⟨17, 1⟩) (meth := k17m1) (c := k17c1) (by decide +kernel) rfl rfl rfl (by decide +kernel)
set_option maxRecDepth 65536 in
theorem w_c16 : (Jvm.Cond.code ({ cls := "java/util/Arrays", name := "copyOf", desc := "([BI)[B" } : Jvm.MethodName) jdk_65_method_121_code (3 : Nat) (Option.some (Jvm.ClassFile.FieldType.array Jvm.ClassFile.FieldType.byte))).before args0 about1 = true := code_word (m := ⟨18, 1⟩) (meth := k18m1) (c := k18c1) (by decide +kernel) rfl rfl rfl (by decide +kernel)
set_option maxRecDepth 65536 in
theorem w_c17 : (Jvm.Cond.code ({ cls := "java/lang/Math", name := "min", desc := "(II)I" } : Jvm.MethodName) jdk_29_method_69_code (2 : Nat) (Option.some Jvm.ClassFile.FieldType.int)).before args0 about1 = true := code_word (m := ⟨17, 2⟩) (meth := k17m2) (c := k17c2) (by decide +kernel) rfl rfl rfl (by decide +kernel)
set_option maxRecDepth 65536 in
theorem w_c18 : (Jvm.Cond.code ({ cls := "java/lang/StringBuilder", name := "toString", desc := "()Ljava/lang/String;" } : Jvm.MethodName) jdk_67_method_42_code (1 : Nat) (Option.some (Jvm.ClassFile.FieldType.object "java/lang/String"))).before args0 about1 = true := code_word (m := ⟨14, 2⟩) (meth := k14m2) (c := k14c2) (by decide +kernel) rfl rfl rfl (by decide +kernel)
set_option maxRecDepth 65536 in
theorem w_c19 : (Jvm.Cond.code ({ cls := "java/lang/String", name := "<init>", desc := "(Ljava/lang/StringBuilder;)V" } : Jvm.MethodName) jdk_42_method_53_code (2 : Nat) (Option.none : Option Jvm.ClassFile.FieldType)).before args0 about1 = true := code_word (m := ⟨7, 2⟩) (meth := k7m2) (c := k7c2) (by decide +kernel) rfl rfl rfl (by decide +kernel)
set_option maxRecDepth 65536 in
theorem w_c20 : (Jvm.Cond.code ({ cls := "java/lang/String", name := "<init>", desc := "(Ljava/lang/AbstractStringBuilder;Ljava/lang/Void;)V" } : Jvm.MethodName) jdk_42_method_150_code (5 : Nat) (Option.none : Option Jvm.ClassFile.FieldType)).before args0 about1 = true := code_word (m := ⟨7, 7⟩) (meth := k7m7) (c := k7c7) (by decide +kernel) rfl rfl rfl (by decide +kernel)
set_option maxRecDepth 65536 in
theorem w_c21 : (Jvm.Cond.code ({ cls := "java/lang/AbstractStringBuilder", name := "getValue", desc := "()[B" } : Jvm.MethodName) jdk_68_method_64_code (1 : Nat) (Option.some (Jvm.ClassFile.FieldType.array Jvm.ClassFile.FieldType.byte))).before args0 about1 = true := code_word (m := ⟨13, 7⟩) (meth := k13m7) (c := k13c7) (by decide +kernel) rfl rfl rfl (by decide +kernel)
set_option maxRecDepth 65536 in
theorem w_c22 : (Jvm.Cond.code ({ cls := "java/lang/StringBuilder", name := "length", desc := "()I" } : Jvm.MethodName) jdk_67_method_93_code (1 : Nat) (Option.some Jvm.ClassFile.FieldType.int)).before args0 about1 = true := code_word (m := ⟨14, 3⟩) (meth := k14m3) (c := k14c3) (by decide +kernel) rfl rfl rfl (by decide +kernel)
set_option maxRecDepth 65536 in
theorem w_c23 : (Jvm.Cond.code ({ cls := "java/lang/AbstractStringBuilder", name := "length", desc := "()I" } : Jvm.MethodName) jdk_68_method_6_code (1 : Nat) (Option.some Jvm.ClassFile.FieldType.int)).before args0 about1 = true := code_word (m := ⟨13, 2⟩) (meth := k13m2) (c := k13c2) (by decide +kernel) rfl rfl rfl (by decide +kernel)
set_option maxRecDepth 65536 in
theorem w_c24 : (Jvm.Cond.code ({ cls := "java/lang/AbstractStringBuilder", name := "isLatin1", desc := "()Z" } : Jvm.MethodName) jdk_68_method_68_code (1 : Nat) (Option.some Jvm.ClassFile.FieldType.boolean)).before args0 about1 = true := code_word (m := ⟨13, 8⟩) (meth := k13m8) (c := k13c8) (by decide +kernel) rfl rfl rfl (by decide +kernel)
set_option maxRecDepth 65536 in
theorem w_c25 : (Jvm.Cond.code ({ cls := "java/util/Arrays", name := "copyOfRange", desc := "([BII)[B" } : Jvm.MethodName) jdk_65_method_132_code (3 : Nat) (Option.some (Jvm.ClassFile.FieldType.array Jvm.ClassFile.FieldType.byte))).before args0 about1 = true := code_word (m := ⟨18, 3⟩) (meth := k18m3) (c := k18c3) (by decide +kernel) rfl rfl rfl (by decide +kernel)
set_option maxRecDepth 65536 in
theorem w_c26 : (Jvm.Cond.code ({ cls := "java/util/Arrays", name := "copyOfRangeByte", desc := "([BII)[B" } : Jvm.MethodName) jdk_65_method_133_code (5 : Nat) (Option.some (Jvm.ClassFile.FieldType.array Jvm.ClassFile.FieldType.byte))).before args0 about1 = true := code_word (m := ⟨18, 4⟩) (meth := k18m4) (c := k18c4) (by decide +kernel) rfl rfl rfl (by decide +kernel)
set_option maxRecDepth 65536 in
theorem w_c27 : (Jvm.Cond.code ({ cls := "java/util/Arrays", name := "checkLength", desc := "(II)V" } : Jvm.MethodName) jdk_65_method_131_code (2 : Nat) (Option.none : Option Jvm.ClassFile.FieldType)).before args0 about1 = true := code_word (m := ⟨18, 2⟩) (meth := k18m2) (c := k18c2) (by decide +kernel) rfl rfl rfl (by decide +kernel)
set_option maxRecDepth 65536 in
theorem w_c28 : (Jvm.Cond.code ({ cls := "java/lang/RuntimeException", name := "<init>", desc := "(Ljava/lang/String;)V" } : Jvm.MethodName) jdk_58_method_2_code (2 : Nat) (Option.none : Option Jvm.ClassFile.FieldType)).before args0 about1 = true := code_word (m := ⟨10, 1⟩) (meth := k10m1) (c := k10c1) (by decide +kernel) rfl rfl rfl (by decide +kernel)
set_option maxRecDepth 65536 in
theorem w_c29 : (Jvm.Cond.code ({ cls := "java/lang/Exception", name := "<init>", desc := "(Ljava/lang/String;)V" } : Jvm.MethodName) jdk_59_method_2_code (2 : Nat) (Option.none : Option Jvm.ClassFile.FieldType)).before args0 about1 = true := code_word (m := ⟨9, 1⟩) (meth := k9m1) (c := k9c1) (by decide +kernel) rfl rfl rfl (by decide +kernel)
set_option maxRecDepth 65536 in
theorem w_c30 : (Jvm.Cond.code ({ cls := "java/lang/Throwable", name := "<init>", desc := "(Ljava/lang/String;)V" } : Jvm.MethodName) jdk_78_method_2_code (2 : Nat) (Option.none : Option Jvm.ClassFile.FieldType)).before args0 about1 = true := code_word (m := ⟨8, 1⟩) (meth := k8m1) (c := k8c1) (by decide +kernel) rfl rfl rfl (by decide +kernel)
set_option maxRecDepth 65536 in
theorem w_c31 : (Jvm.Cond.code ({ cls := "java/lang/Throwable", name := "<init>", desc := "()V" } : Jvm.MethodName) jdk_78_method_1_code (1 : Nat) (Option.none : Option Jvm.ClassFile.FieldType)).before args0 about1 = true := code_word (m := ⟨8, 0⟩) (meth := k8m0) (c := k8c0) (by decide +kernel) rfl rfl rfl (by decide +kernel)
set_option maxRecDepth 65536 in
theorem w_c32 : (Jvm.Cond.code ({ cls := "com/example/twinstate/twinstate/TransactionRolledBackException", name := "rerunnable", desc := "()Z" } : Jvm.MethodName) prog_10_method_3_code (1 : Nat) (Option.some Jvm.ClassFile.FieldType.boolean)).before args0 about1 = true := code_word (m := ⟨11, 1⟩) (meth := k11m1) (c := k11c1) (by decide +kernel) rfl rfl rfl (by decide +kernel)
set_option maxRecDepth 65536 in
theorem w_c33 : (Jvm.Cond.code ({ cls := "java/lang/String", name := "equals", desc := "(Ljava/lang/Object;)Z" } : Jvm.MethodName) jdk_42_method_66_code (3 : Nat) (Option.some Jvm.ClassFile.FieldType.boolean)).before args0 about1 = true := code_word (m := ⟨7, 4⟩) (meth := k7m4) (c := k7c4) (by decide +kernel) rfl rfl rfl (by decide +kernel)
set_option maxRecDepth 65536 in
theorem w_c34 : (Jvm.Cond.code ({ cls := "java/lang/StringLatin1", name := "equals", desc := "([B[B)Z" } : Jvm.MethodName) jdk_43_method_13_code (3 : Nat) (Option.some Jvm.ClassFile.FieldType.boolean)).before args0 about1 = true := code_word (m := ⟨19, 1⟩) (meth := k19m1) (c := k19c1) (by decide +kernel) rfl rfl rfl (by decide +kernel)
set_option maxRecDepth 65536 in
theorem w_c35 : (Jvm.Cond.code ({ cls := "java/lang/String", name := "<init>", desc := "([C)V" } : Jvm.MethodName) jdk_42_method_3_code (2 : Nat) (Option.none : Option Jvm.ClassFile.FieldType)).before args0 about1 = true := code_word (m := ⟨7, 1⟩) (meth := k7m1) (c := k7c1) (by decide +kernel) rfl rfl rfl (by decide +kernel)
set_option maxRecDepth 65536 in
theorem w_c36 : (Jvm.Cond.code ({ cls := "java/lang/String", name := "<init>", desc := "([CIILjava/lang/Void;)V" } : Jvm.MethodName) jdk_42_method_149_code (6 : Nat) (Option.none : Option Jvm.ClassFile.FieldType)).before args0 about1 = true := code_word (m := ⟨7, 6⟩) (meth := k7m6) (c := k7c6) (by decide +kernel) rfl rfl rfl (by decide +kernel)
set_option maxRecDepth 65536 in
theorem w_c37 : (Jvm.Cond.code ({ cls := "java/lang/StringUTF16", name := "compress", desc := "([CII)[B" } : Jvm.MethodName) jdk_52_method_16_code (6 : Nat) (Option.some (Jvm.ClassFile.FieldType.array Jvm.ClassFile.FieldType.byte))).before args0 about1 = true := code_word (m := ⟨20, 2⟩) (meth := k20m2) (c := k20c2) (by decide +kernel) rfl rfl rfl (by decide +kernel)
set_option maxRecDepth 65536 in
theorem w_c38 : (Jvm.Cond.code ({ cls := "java/lang/StringUTF16", name := "compress", desc := "([CI[BII)I" } : Jvm.MethodName) jdk_52_method_21_code (7 : Nat) (Option.some Jvm.ClassFile.FieldType.int)).before args0 about1 = true := code_word (m := ⟨20, 3⟩) (meth := k20m3) (c := k20c3) (by decide +kernel) rfl rfl rfl (by decide +kernel)
set_option maxRecDepth 65536 in
theorem w_c39 : (Jvm.Cond.code ({ cls := "java/lang/StringUTF16", name := "coderFromArrayLen", desc := "([BI)B" } : Jvm.MethodName) jdk_52_method_15_code (2 : Nat) (Option.some Jvm.ClassFile.FieldType.byte)).before args0 about1 = true := code_word (m := ⟨20, 1⟩) (meth := k20m1) (c := k20c1) (by decide +kernel) rfl rfl rfl (by decide +kernel)
set_option maxRecDepth 65536 in
theorem w_c40 : (Jvm.Cond.code ({ cls := "java/lang/AbstractStringBuilder", name := "appendNull", desc := "()Ljava/lang/AbstractStringBuilder;" } : Jvm.MethodName) jdk_68_method_26_code (3 : Nat) (Option.some (Jvm.ClassFile.FieldType.object "java/lang/AbstractStringBuilder"))).before args0 about1 = true := code_word (m := ⟨13, 6⟩) (meth := k13m6) (c := k13c6) (by decide +kernel) rfl rfl rfl (by decide +kernel)
def codes1 : List Jvm.Cond := [Jvm.Cond.code x code maxLocals ret, Jvm.Cond.code ({ cls := "com/example/twinstate/twinstate/TransactionRolledBackException", name := "<init>", desc := "(Ljava/lang/String;)V" } : Jvm.MethodName) prog_10_method_1_code (2 : Nat) (Option.none : Option Jvm.ClassFile.FieldType), Jvm.Cond.code ({ cls := "java/lang/StringBuilder", name := "<init>", desc := "()V" } : Jvm.MethodName) jdk_67_method_1_code (1 : Nat) (Option.none : Option Jvm.ClassFile.FieldType), Jvm.Cond.code ({ cls := "java/lang/AbstractStringBuilder", name := "<init>", desc := "(I)V" } : Jvm.MethodName) jdk_68_method_2_code (2 : Nat) (Option.none : Option Jvm.ClassFile.FieldType), Jvm.Cond.code ({ cls := "java/lang/Object", name := "<init>", desc := "()V" } : Jvm.MethodName) object_method_1_code (1 : Nat) (Option.none : Option Jvm.ClassFile.FieldType), Jvm.Cond.code ({ cls := "java/lang/StringBuilder", name := "append", desc := "(Ljava/lang/String;)Ljava/lang/StringBuilder;" } : Jvm.MethodName) jdk_67_method_7_code (2 : Nat) (Option.some (Jvm.ClassFile.FieldType.object "java/lang/StringBuilder")), Jvm.Cond.code ({ cls := "java/lang/AbstractStringBuilder", name := "append", desc := "(Ljava/lang/String;)Ljava/lang/AbstractStringBuilder;" } : Jvm.MethodName) jdk_68_method_22_code (3 : Nat) (Option.some (Jvm.ClassFile.FieldType.object "java/lang/AbstractStringBuilder")), Jvm.Cond.code ({ cls := "java/lang/String", name := "length", desc := "()I" } : Jvm.MethodName) jdk_42_method_54_code (1 : Nat) (Option.some Jvm.ClassFile.FieldType.int), Jvm.Cond.code ({ cls := "java/lang/String", name := "coder", desc := "()B" } : Jvm.MethodName) jdk_42_method_152_code (1 : Nat) (Option.some Jvm.ClassFile.FieldType.byte), Jvm.Cond.code ({ cls := "java/lang/AbstractStringBuilder", name := "ensureCapacityInternal", desc := "(I)V" } : Jvm.MethodName) jdk_68_method_9_code (3 : Nat) (Option.none : Option Jvm.ClassFile.FieldType), Jvm.Cond.code ({ cls := "java/lang/AbstractStringBuilder", name := "putStringAt", desc := "(ILjava/lang/String;)V" } : Jvm.MethodName) jdk_68_method_73_code (3 : Nat) (Option.none : Option Jvm.ClassFile.FieldType), Jvm.Cond.code ({ cls := "java/lang/AbstractStringBuilder", name := "inflateIfNeededFor", desc := "(Ljava/lang/String;)V" } : Jvm.MethodName) jdk_68_method_71_code (2 : Nat) (Option.none : Option Jvm.ClassFile.FieldType), Jvm.Cond.code ({ cls := "java/lang/String", name := "getBytes", desc := "([BIB)V" } : Jvm.MethodName) jdk_42_method_147_code (4 : Nat) (Option.none : Option Jvm.ClassFile.FieldType), Jvm.Cond.code ({ cls := "java/lang/AbstractStringBuilder", name := "newCapacity", desc := "(I)I" } : Jvm.MethodName) jdk_68_method_10_code (6 : Nat) (Option.some Jvm.ClassFile.FieldType.int), Jvm.Cond.code ({ cls := "jdk/internal/util/ArraysSupport", name := "newLength", desc := "(III)I" } : Jvm.MethodName) jdk_48_method_27_code (4 : Nat) (Option.some Jvm.ClassFile.FieldType.int), Jvm.Cond.code ({ cls := "java/lang/Math", name := "max", desc := "(II)I" } : Jvm.MethodName) jdk_29_method_65_code (2 : Nat) (Option.some Jvm.ClassFile.FieldType.int), Jvm.Cond.code ({ cls := "java/util/Arrays", name := "copyOf", desc := "([BI)[B" } : Jvm.MethodName) jdk_65_method_121_code (3 : Nat) (Option.some (Jvm.ClassFile.FieldType.array Jvm.ClassFile.FieldType.byte)), Jvm.Cond.code ({ cls := "java/lang/Math", name := "min", desc := "(II)I" } : Jvm.MethodName) jdk_29_method_69_code (2 : Nat) (Option.some Jvm.ClassFile.FieldType.int), Jvm.Cond.code ({ cls := "java/lang/StringBuilder", name := "toString", desc := "()Ljava/lang/String;" } : Jvm.MethodName) jdk_67_method_42_code (1 : Nat) (Option.some (Jvm.ClassFile.FieldType.object "java/lang/String")), Jvm.Cond.code ({ cls := "java/lang/String", name := "<init>", desc := "(Ljava/lang/StringBuilder;)V" } : Jvm.MethodName) jdk_42_method_53_code (2 : Nat) (Option.none : Option Jvm.ClassFile.FieldType), Jvm.Cond.code ({ cls := "java/lang/String", name := "<init>", desc := "(Ljava/lang/AbstractStringBuilder;Ljava/lang/Void;)V" } : Jvm.MethodName) jdk_42_method_150_code (5 : Nat) (Option.none : Option Jvm.ClassFile.FieldType), Jvm.Cond.code ({ cls := "java/lang/AbstractStringBuilder", name := "getValue", desc := "()[B" } : Jvm.MethodName) jdk_68_method_64_code (1 : Nat) (Option.some (Jvm.ClassFile.FieldType.array Jvm.ClassFile.FieldType.byte)), Jvm.Cond.code ({ cls := "java/lang/StringBuilder", name := "length", desc := "()I" } : Jvm.MethodName) jdk_67_method_93_code (1 : Nat) (Option.some Jvm.ClassFile.FieldType.int), Jvm.Cond.code ({ cls := "java/lang/AbstractStringBuilder", name := "length", desc := "()I" } : Jvm.MethodName) jdk_68_method_6_code (1 : Nat) (Option.some Jvm.ClassFile.FieldType.int), Jvm.Cond.code ({ cls := "java/lang/AbstractStringBuilder", name := "isLatin1", desc := "()Z" } : Jvm.MethodName) jdk_68_method_68_code (1 : Nat) (Option.some Jvm.ClassFile.FieldType.boolean), Jvm.Cond.code ({ cls := "java/util/Arrays", name := "copyOfRange", desc := "([BII)[B" } : Jvm.MethodName) jdk_65_method_132_code (3 : Nat) (Option.some (Jvm.ClassFile.FieldType.array Jvm.ClassFile.FieldType.byte)), Jvm.Cond.code ({ cls := "java/util/Arrays", name := "copyOfRangeByte", desc := "([BII)[B" } : Jvm.MethodName) jdk_65_method_133_code (5 : Nat) (Option.some (Jvm.ClassFile.FieldType.array Jvm.ClassFile.FieldType.byte)), Jvm.Cond.code ({ cls := "java/util/Arrays", name := "checkLength", desc := "(II)V" } : Jvm.MethodName) jdk_65_method_131_code (2 : Nat) (Option.none : Option Jvm.ClassFile.FieldType), Jvm.Cond.code ({ cls := "java/lang/RuntimeException", name := "<init>", desc := "(Ljava/lang/String;)V" } : Jvm.MethodName) jdk_58_method_2_code (2 : Nat) (Option.none : Option Jvm.ClassFile.FieldType), Jvm.Cond.code ({ cls := "java/lang/Exception", name := "<init>", desc := "(Ljava/lang/String;)V" } : Jvm.MethodName) jdk_59_method_2_code (2 : Nat) (Option.none : Option Jvm.ClassFile.FieldType), Jvm.Cond.code ({ cls := "java/lang/Throwable", name := "<init>", desc := "(Ljava/lang/String;)V" } : Jvm.MethodName) jdk_78_method_2_code (2 : Nat) (Option.none : Option Jvm.ClassFile.FieldType), Jvm.Cond.code ({ cls := "java/lang/Throwable", name := "<init>", desc := "()V" } : Jvm.MethodName) jdk_78_method_1_code (1 : Nat) (Option.none : Option Jvm.ClassFile.FieldType), Jvm.Cond.code ({ cls := "com/example/twinstate/twinstate/TransactionRolledBackException", name := "rerunnable", desc := "()Z" } : Jvm.MethodName) prog_10_method_3_code (1 : Nat) (Option.some Jvm.ClassFile.FieldType.boolean), Jvm.Cond.code ({ cls := "java/lang/String", name := "equals", desc := "(Ljava/lang/Object;)Z" } : Jvm.MethodName) jdk_42_method_66_code (3 : Nat) (Option.some Jvm.ClassFile.FieldType.boolean), Jvm.Cond.code ({ cls := "java/lang/StringLatin1", name := "equals", desc := "([B[B)Z" } : Jvm.MethodName) jdk_43_method_13_code (3 : Nat) (Option.some Jvm.ClassFile.FieldType.boolean), Jvm.Cond.code ({ cls := "java/lang/String", name := "<init>", desc := "([C)V" } : Jvm.MethodName) jdk_42_method_3_code (2 : Nat) (Option.none : Option Jvm.ClassFile.FieldType), Jvm.Cond.code ({ cls := "java/lang/String", name := "<init>", desc := "([CIILjava/lang/Void;)V" } : Jvm.MethodName) jdk_42_method_149_code (6 : Nat) (Option.none : Option Jvm.ClassFile.FieldType), Jvm.Cond.code ({ cls := "java/lang/StringUTF16", name := "compress", desc := "([CII)[B" } : Jvm.MethodName) jdk_52_method_16_code (6 : Nat) (Option.some (Jvm.ClassFile.FieldType.array Jvm.ClassFile.FieldType.byte)), Jvm.Cond.code ({ cls := "java/lang/StringUTF16", name := "compress", desc := "([CI[BII)I" } : Jvm.MethodName) jdk_52_method_21_code (7 : Nat) (Option.some Jvm.ClassFile.FieldType.int), Jvm.Cond.code ({ cls := "java/lang/StringUTF16", name := "coderFromArrayLen", desc := "([BI)B" } : Jvm.MethodName) jdk_52_method_15_code (2 : Nat) (Option.some Jvm.ClassFile.FieldType.byte), Jvm.Cond.code ({ cls := "java/lang/AbstractStringBuilder", name := "appendNull", desc := "()Ljava/lang/AbstractStringBuilder;" } : Jvm.MethodName) jdk_68_method_26_code (3 : Nat) (Option.some (Jvm.ClassFile.FieldType.object "java/lang/AbstractStringBuilder"))]
set_option maxRecDepth 65536 in
theorem codes_eq : words1.filter isCode = codes1 := rfl
theorem w_codes : ∀ c ∈ words1.filter isCode, c.before args0 about1 = true := by
  rw [codes_eq]
  intro c hc
  simp only [codes1, List.mem_cons, List.not_mem_nil, or_false] at hc
  rcases hc with rfl | rfl | rfl | rfl | rfl | rfl | rfl | rfl | rfl | rfl | rfl | rfl | rfl | rfl | rfl | rfl | rfl | rfl | rfl | rfl | rfl | rfl | rfl | rfl | rfl | rfl | rfl | rfl | rfl | rfl | rfl | rfl | rfl | rfl | rfl | rfl | rfl | rfl | rfl | rfl | rfl
  · exact w_c0
  · exact w_c1
  · exact w_c2
  · exact w_c3
  · exact w_c4
  · exact w_c5
  · exact w_c6
  · exact w_c7
  · exact w_c8
  · exact w_c9
  · exact w_c10
  · exact w_c11
  · exact w_c12
  · exact w_c13
  · exact w_c14
  · exact w_c15
  · exact w_c16
  · exact w_c17
  · exact w_c18
  · exact w_c19
  · exact w_c20
  · exact w_c21
  · exact w_c22
  · exact w_c23
  · exact w_c24
  · exact w_c25
  · exact w_c26
  · exact w_c27
  · exact w_c28
  · exact w_c29
  · exact w_c30
  · exact w_c31
  · exact w_c32
  · exact w_c33
  · exact w_c34
  · exact w_c35
  · exact w_c36
  · exact w_c37
  · exact w_c38
  · exact w_c39
  · exact w_c40
set_option maxRecDepth 65536 in
theorem w_t1 : (words1.take 24).all (fun c => isCode c || c.before args0 about1) = true := by decide +kernel
set_option maxRecDepth 65536 in
theorem w_t2 : ((words1.drop 24).take 24).all (fun c => isCode c || c.before args0 about1) = true := by decide +kernel
set_option maxRecDepth 65536 in
theorem w_t3 : (((words1.drop 24).drop 24).take 24).all (fun c => isCode c || c.before args0 about1) = true := by decide +kernel
set_option maxRecDepth 65536 in
theorem w_t4 : ((((words1.drop 24).drop 24).drop 24).take 24).all (fun c => isCode c || c.before args0 about1) = true := by decide +kernel
set_option maxRecDepth 65536 in
theorem w_t5 : (((((words1.drop 24).drop 24).drop 24).drop 24).take 24).all (fun c => isCode c || c.before args0 about1) = true := by decide +kernel
set_option maxRecDepth 65536 in
theorem w_t6 : ((((((words1.drop 24).drop 24).drop 24).drop 24).drop 24).take 24).all (fun c => isCode c || c.before args0 about1) = true := by decide +kernel
set_option maxRecDepth 65536 in
theorem w_t7 : (((((((words1.drop 24).drop 24).drop 24).drop 24).drop 24).drop 24).take 24).all (fun c => isCode c || c.before args0 about1) = true := by decide +kernel
set_option maxRecDepth 65536 in
theorem w_t8 : ((((((((words1.drop 24).drop 24).drop 24).drop 24).drop 24).drop 24).drop 24).take 24).all (fun c => isCode c || c.before args0 about1) = true := by decide +kernel
set_option maxRecDepth 65536 in
theorem w_t9 : (((((((((words1.drop 24).drop 24).drop 24).drop 24).drop 24).drop 24).drop 24).drop 24).take 24).all (fun c => isCode c || c.before args0 about1) = true := by decide +kernel
set_option maxRecDepth 65536 in
theorem w_t10 : ((((((((((words1.drop 24).drop 24).drop 24).drop 24).drop 24).drop 24).drop 24).drop 24).drop 24).take 24).all (fun c => isCode c || c.before args0 about1) = true := by decide +kernel
set_option maxRecDepth 65536 in
theorem w_t11 : ((((((((((words1.drop 24).drop 24).drop 24).drop 24).drop 24).drop 24).drop 24).drop 24).drop 24).drop 24).all (fun c => isCode c || c.before args0 about1) = true := by decide +kernel
theorem w_tables : (allAtoms (Jvm.Cond.code x code maxLocals ret :: tables_1)).before args0 about1 = true := by
  rw [allAtoms_all]
  show words1.all (fun c => c.before args0 about1) = true
  refine all_split ?_ w_codes
  rw [← List.take_append_drop 24 words1, List.all_append, w_t1, ← List.take_append_drop 24 (words1.drop 24), List.all_append, w_t2, ← List.take_append_drop 24 ((words1.drop 24).drop 24), List.all_append, w_t3, ← List.take_append_drop 24 (((words1.drop 24).drop 24).drop 24), List.all_append, w_t4, ← List.take_append_drop 24 ((((words1.drop 24).drop 24).drop 24).drop 24), List.all_append, w_t5, ← List.take_append_drop 24 (((((words1.drop 24).drop 24).drop 24).drop 24).drop 24), List.all_append, w_t6, ← List.take_append_drop 24 ((((((words1.drop 24).drop 24).drop 24).drop 24).drop 24).drop 24), List.all_append, w_t7, ← List.take_append_drop 24 (((((((words1.drop 24).drop 24).drop 24).drop 24).drop 24).drop 24).drop 24), List.all_append, w_t8, ← List.take_append_drop 24 ((((((((words1.drop 24).drop 24).drop 24).drop 24).drop 24).drop 24).drop 24).drop 24), List.all_append, w_t9, ← List.take_append_drop 24 (((((((((words1.drop 24).drop 24).drop 24).drop 24).drop 24).drop 24).drop 24).drop 24).drop 24), List.all_append, w_t10, w_t11]
  rfl
set_option maxRecDepth 65536 in
theorem w_rest : rest_1_c.before args0 about1 = true := by decide +kernel
set_option maxRecDepth 65536 in
theorem w_case : (Jvm.Cond.and given_1 narrow_1).before args0 about1 = true := by decide +kernel
set_option maxRecDepth 65536 in
theorem w_consts : constsHeld consts_1 about1 := Jvm.Lit.constsHeldB_iff.mp (by decide +kernel)
theorem w_applies : (headSpec (Jvm.Cond.code x code maxLocals ret :: tables_1) room_1).applies x e0.platform about1 = true :=
  (Spec.applies_iff w_frames).mpr ⟨w_running, w_runnable, w_alone, w_named, w_hears, w_ripe, w_room, w_tables⟩
theorem atStart : AtStart classFile x code maxLocals ret World_1 tables_1 room_1 Calls_1 rest_1 Pre_1 launch0 p0 e0 about1 theMethod args0 below0 :=
  ⟨lists_1, trivial, launch0.admits_env _ _ _, launch0.least_env, fairChoices_fair.cas, fairChoices_fair.clock, w_frames, w_args, w_heap, w_applies, ⟨(by decide +kernel : framesKnown about1 = true), ⟨(by decide +kernel : tablesKnown about1 = true), ⟨w_consts, trivial⟩⟩⟩, w_rest, w_case⟩
end start1
theorem witness_1 : WitnessClaimed_1 := ⟨start1.p0, start1.e0, start1.about1, start1.theMethod, start1.args0, start1.below0, start1.atStart⟩
end Jvm.Pilot.@@N@@
