import JvmDerived
import JvmDerived.Pilot.@@N@@Statement
import JvmDerived.Pilot.@@N@@Code
set_option linter.unusedVariables false
set_option linter.unusedSimpArgs false
namespace Jvm.Pilot.@@N@@
open Jvm Jvm.ClassFile Sem Op Lib Jvm.Free Jvm.Stand Jvm.LawKit Jvm.RoadKit Bundle Jvm.Pilot.@@N@@.Jvm.D
section OwnKit
variable {p : Program} {l : Launch} {e : Env} {R : Room} {s : State} {m : MethodId} {args : Array Value} {below : List Frame} {meth : Method} {c : Code} {T : State} {locs : List Loc} {cells slots : Nat} {Z : State} {a0 : Array Value} {h h0 : Heap} {pc : Nat} {Ls : Array Slot} {rest : List Value} {Q : Outcome → State → Prop}
def Go (p : Program) (e : Env) (below : List Frame) (T : State) (g : JFrame) (Q : Outcome → State → Prop) : Prop := ∃ s₂ o, Steps p.tables e below (T.setTop g) s₂ ∧ s₂.status = .running ∧ Ended s₂ below o ∧ Q o s₂
theorem Go.of {T' : State} {g g' : JFrame} (st : ∀ t, Steps p.tables e below (T'.setTop g') t → Steps p.tables e below (T.setTop g) t) (k : Go p e below T' g' Q) : Go p e below T g Q := by
  obtain ⟨a, b, h1, h2⟩ := k; exact ⟨a, b, st a h1, h2⟩
theorem o_iload (X : Stand p l e R s m args below meth c T locs cells slots) (hx : p.tables.exec = Jvm.exec) {k : Nat} {v : Int32} (hd : decode c.code pc = .ok (.iload k, 2)) (hl : Ls[k]? = some (.val (.int v))) (q : Go p e below T (mkF m (pc + 2) Ls (.int v :: rest)) Q) : Go p e below T (mkF m pc Ls (rest)) Q := Go.of (fun _ k => XS.iload X.here hx rfl hd hl k) q
theorem o_iloadN (X : Stand p l e R s m args below meth c T locs cells slots) (hx : p.tables.exec = Jvm.exec) {k : Fin 4} {v : Int32} (hd : decode c.code pc = .ok (.iload_n k, 1)) (hl : Ls[k.val]? = some (.val (.int v))) (q : Go p e below T (mkF m (pc + 1) Ls (.int v :: rest)) Q) : Go p e below T (mkF m pc Ls (rest)) Q := Go.of (fun _ k => XS.iloadN X.here hx rfl hd hl k) q
theorem o_istore (X : Stand p l e R s m args below meth c T locs cells slots) (hx : p.tables.exec = Jvm.exec) {k : Nat} {v : Int32} {l' : Array Slot} (hd : decode c.code pc = .ok (.istore k, 2)) (hl : storeLocals Ls k (.int v) = some l') (q : Go p e below T (mkF m (pc + 2) l' (rest)) Q) : Go p e below T (mkF m pc Ls (.int v :: rest)) Q := Go.of (fun _ k => XS.istore X.here hx rfl hd rfl hl k) q
theorem o_istoreN (X : Stand p l e R s m args below meth c T locs cells slots) (hx : p.tables.exec = Jvm.exec) {k : Fin 4} {v : Int32} {l' : Array Slot} (hd : decode c.code pc = .ok (.istore_n k, 1)) (hl : storeLocals Ls k.val (.int v) = some l') (q : Go p e below T (mkF m (pc + 1) l' (rest)) Q) : Go p e below T (mkF m pc Ls (.int v :: rest)) Q := Go.of (fun _ k => XS.istoreN X.here hx rfl hd rfl hl k) q
theorem o_aload (X : Stand p l e R s m args below meth c T locs cells slots) (hx : p.tables.exec = Jvm.exec) {k : Nat} {v : Value} (hd : decode c.code pc = .ok (.aload k, 2)) (hl : Ls[k]? = some (.val v)) (hv : v.isRef = true) (q : Go p e below T (mkF m (pc + 2) Ls (v :: rest)) Q) : Go p e below T (mkF m pc Ls (rest)) Q := Go.of (fun _ k => XS.aload X.here hx rfl hd hl hv k) q
theorem o_aloadN (X : Stand p l e R s m args below meth c T locs cells slots) (hx : p.tables.exec = Jvm.exec) {k : Fin 4} {v : Value} (hd : decode c.code pc = .ok (.aload_n k, 1)) (hl : Ls[k.val]? = some (.val v)) (hv : v.isRef = true) (q : Go p e below T (mkF m (pc + 1) Ls (v :: rest)) Q) : Go p e below T (mkF m pc Ls (rest)) Q := Go.of (fun _ k => XS.aloadN X.here hx rfl hd hl hv k) q
theorem o_astore (X : Stand p l e R s m args below meth c T locs cells slots) (hx : p.tables.exec = Jvm.exec) {k : Nat} {v : Value} {l' : Array Slot} (hd : decode c.code pc = .ok (.astore k, 2)) (hv : v.isRef = true) (hl : storeLocals Ls k v = some l') (q : Go p e below T (mkF m (pc + 2) l' (rest)) Q) : Go p e below T (mkF m pc Ls (v :: rest)) Q := Go.of (fun _ k => XS.astore X.here hx rfl hd rfl hv hl k) q
theorem o_astoreN (X : Stand p l e R s m args below meth c T locs cells slots) (hx : p.tables.exec = Jvm.exec) {k : Fin 4} {v : Value} {l' : Array Slot} (hd : decode c.code pc = .ok (.astore_n k, 1)) (hv : v.isRef = true) (hl : storeLocals Ls k.val v = some l') (q : Go p e below T (mkF m (pc + 1) l' (rest)) Q) : Go p e below T (mkF m pc Ls (v :: rest)) Q := Go.of (fun _ k => XS.astoreN X.here hx rfl hd rfl hv hl k) q
theorem o_iconst (X : Stand p l e R s m args below meth c T locs cells slots) (hx : p.tables.exec = Jvm.exec) {i : Int} (v : Int32) (hd : decode c.code pc = .ok (.iconst i, 1)) (hv : Int32.ofInt i = v) (q : Go p e below T (mkF m (pc + 1) Ls (.int v :: rest)) Q) : Go p e below T (mkF m pc Ls rest) Q := by
  subst hv
  exact Go.of (fun _ k => XS.iconst X.here hx rfl hd k) q
theorem o_bipush (X : Stand p l e R s m args below meth c T locs cells slots) (hx : p.tables.exec = Jvm.exec) {i : Int} (v : Int32) (hd : decode c.code pc = .ok (.bipush i, 2)) (hv : (Int8.ofInt i).toInt32 = v) (q : Go p e below T (mkF m (pc + 2) Ls (.int v :: rest)) Q) : Go p e below T (mkF m pc Ls rest) Q := by
  subst hv
  exact Go.of (fun _ k => XS.bipush X.here hx rfl hd k) q
theorem o_sipush (X : Stand p l e R s m args below meth c T locs cells slots) (hx : p.tables.exec = Jvm.exec) {i : Int} (v : Int32) (hd : decode c.code pc = .ok (.sipush i, 3)) (hv : (Int16.ofInt i).toInt32 = v) (q : Go p e below T (mkF m (pc + 3) Ls (.int v :: rest)) Q) : Go p e below T (mkF m pc Ls rest) Q := by
  subst hv
  exact Go.of (fun _ k => XS.sipush X.here hx rfl hd k) q
theorem o_aconst_null (X : Stand p l e R s m args below meth c T locs cells slots) (hx : p.tables.exec = Jvm.exec)  (hd : decode c.code pc = .ok (.aconst_null, 1)) (q : Go p e below T (mkF m (pc + 1) Ls (.null :: rest)) Q) : Go p e below T (mkF m pc Ls (rest)) Q := Go.of (fun _ k => XS.aconstNull X.here hx rfl hd k) q
theorem o_isub (X : Stand p l e R s m args below meth c T locs cells slots) (hx : p.tables.exec = Jvm.exec) {x y : Int32} (hd : decode c.code pc = .ok (.isub, 1)) (q : Go p e below T (mkF m (pc + 1) Ls (.int (x - y) :: rest)) Q) : Go p e below T (mkF m pc Ls (.int y :: .int x :: rest)) Q := Go.of (fun _ k => XS.isub X.here hx rfl hd rfl k) q
theorem o_iand (X : Stand p l e R s m args below meth c T locs cells slots) (hx : p.tables.exec = Jvm.exec) {x y : Int32} (hd : decode c.code pc = .ok (.iand, 1)) (q : Go p e below T (mkF m (pc + 1) Ls (.int (x &&& y) :: rest)) Q) : Go p e below T (mkF m pc Ls (.int y :: .int x :: rest)) Q := Go.of (fun _ k => XS.iand X.here hx rfl hd rfl k) q
theorem o_iushr (X : Stand p l e R s m args below meth c T locs cells slots) (hx : p.tables.exec = Jvm.exec) {x y : Int32} (hd : decode c.code pc = .ok (.iushr, 1)) (q : Go p e below T (mkF m (pc + 1) Ls (.int ((x.toUInt32 >>> (y &&& 31).toUInt32).toInt32) :: rest)) Q) : Go p e below T (mkF m pc Ls (.int y :: .int x :: rest)) Q := Go.of (fun _ k => XS.iushr X.here hx rfl hd rfl k) q
theorem o_i2b (X : Stand p l e R s m args below meth c T locs cells slots) (hx : p.tables.exec = Jvm.exec) {v : Int32} (hd : decode c.code pc = .ok (.i2b, 1)) (q : Go p e below T (mkF m (pc + 1) Ls (.int (v.toInt8.toInt32) :: rest)) Q) : Go p e below T (mkF m pc Ls (.int v :: rest)) Q := Go.of (fun _ k => XS.i2b X.here hx rfl hd rfl k) q
theorem o_i2c (X : Stand p l e R s m args below meth c T locs cells slots) (hx : p.tables.exec = Jvm.exec) {v : Int32} (hd : decode c.code pc = .ok (.i2c, 1)) (q : Go p e below T (mkF m (pc + 1) Ls (.int (v.toUInt32.toUInt16.toUInt32.toInt32) :: rest)) Q) : Go p e below T (mkF m pc Ls (.int v :: rest)) Q := Go.of (fun _ k => XS.i2c X.here hx rfl hd rfl k) q
theorem o_dup (X : Stand p l e R s m args below meth c T locs cells slots) (hx : p.tables.exec = Jvm.exec) {v : Value} (hd : decode c.code pc = .ok (.dup, 1)) (hc : v.category = 1) (q : Go p e below T (mkF m (pc + 1) Ls (v :: v :: rest)) Q) : Go p e below T (mkF m pc Ls (v :: rest)) Q := Go.of (fun _ k => XS.dup X.here hx rfl hd rfl hc k) q
theorem o_iinc (X : Stand p l e R s m args below meth c T locs cells slots) (hx : p.tables.exec = Jvm.exec) {k : Nat} {cst : Int} {x : Int32} {l' : Array Slot} (d : Int32) (hd : decode c.code pc = .ok (.iinc k cst, 3)) (hv : Int32.ofInt cst = d) (hl : Ls[k]? = some (.val (.int x))) (hl' : storeLocals Ls k (.int (x + d)) = some l') (q : Go p e below T (mkF m (pc + 3) l' rest) Q) : Go p e below T (mkF m pc Ls rest) Q := by
  subst hv
  exact Go.of (fun _ k => XS.iinc X.here hx rfl hd hl hl' k) q
theorem o_goto (X : Stand p l e R s m args below meth c T locs cells slots) (hx : p.tables.exec = Jvm.exec) (pc' : Nat) {o : Int} (hd : decode c.code pc = .ok (.goto o, 3)) (ho : 0 ≤ (pc : Int) + o) (hp : ((pc : Int) + o).toNat = pc') (q : Go p e below T (mkF m pc' Ls rest) Q) : Go p e below T (mkF m pc Ls rest) Q := Go.of (fun _ k => XS.goto X.here hx rfl (pc0 := pc) rfl hd ho hp k) q
theorem o_ifYes (X : Stand p l e R s m args below meth c T locs cells slots) (hx : p.tables.exec = Jvm.exec) (pc' : Nat) {cd : ClassFile.Cond} {x : Int32} {o : Int} (hd : decode c.code pc = .ok (.ifCond cd o, 3)) (hc : ifCond.holds cd x = true) (ho : 0 ≤ (pc : Int) + o) (hp : ((pc : Int) + o).toNat = pc') (q : Go p e below T (mkF m pc' Ls rest) Q) : Go p e below T (mkF m pc Ls (.int x :: rest)) Q := Go.of (fun _ k => XS.ifYes X.here hx rfl (pc0 := pc) rfl hd rfl hc ho hp k) q
theorem o_ifNo (X : Stand p l e R s m args below meth c T locs cells slots) (hx : p.tables.exec = Jvm.exec) {cd : ClassFile.Cond} {x : Int32} {o : Int} (hd : decode c.code pc = .ok (.ifCond cd o, 3)) (hc : ifCond.holds cd x = false) (q : Go p e below T (mkF m (pc + 3) Ls rest) Q) : Go p e below T (mkF m pc Ls (.int x :: rest)) Q := Go.of (fun _ k => XS.ifNo X.here hx rfl hd rfl hc k) q
theorem o_icmpYes (X : Stand p l e R s m args below meth c T locs cells slots) (hx : p.tables.exec = Jvm.exec) (pc' : Nat) {cd : ClassFile.Cond} {x y : Int32} {o : Int} (hd : decode c.code pc = .ok (.if_icmp cd o, 3)) (hc : if_icmp.holds cd x y = true) (ho : 0 ≤ (pc : Int) + o) (hp : ((pc : Int) + o).toNat = pc') (q : Go p e below T (mkF m pc' Ls rest) Q) : Go p e below T (mkF m pc Ls (.int y :: .int x :: rest)) Q := Go.of (fun _ k => XS.icmpYes X.here hx rfl (pc0 := pc) rfl hd rfl hc ho hp k) q
theorem o_icmpNo (X : Stand p l e R s m args below meth c T locs cells slots) (hx : p.tables.exec = Jvm.exec) {cd : ClassFile.Cond} {x y : Int32} {o : Int} (hd : decode c.code pc = .ok (.if_icmp cd o, 3)) (hc : if_icmp.holds cd x y = false) (q : Go p e below T (mkF m (pc + 3) Ls rest) Q) : Go p e below T (mkF m pc Ls (.int y :: .int x :: rest)) Q := Go.of (fun _ k => XS.icmpNo X.here hx rfl hd rfl hc k) q
theorem o_ifnonnullYes (X : Stand p l e R s m args below meth c T locs cells slots) (hx : p.tables.exec = Jvm.exec) (pc' : Nat) {o : Int} {b : Addr} (hd : decode c.code pc = .ok (.ifnonnull o, 3)) (ho : 0 ≤ (pc : Int) + o) (hp : ((pc : Int) + o).toNat = pc') (q : Go p e below T (mkF m pc' Ls rest) Q) : Go p e below T (mkF m pc Ls (.ref b :: rest)) Q := Go.of (fun _ k => XS.ifnonnullYes X.here hx rfl (pc0 := pc) rfl hd rfl ho hp k) q
theorem o_acmp (X : Stand p l e R s m args below meth c T locs cells slots) (hx : p.tables.exec = Jvm.exec) (pc' : Nat) (same : Bool) {cd : ACond} {x y : Value} {o : Int} (h1 : x.isRef = true) (h2 : y.isRef = true) (hd : decode c.code pc = .ok (.if_acmp cd o, 3)) (hq : decide (x = y) = same) (ho : 0 ≤ (pc : Int) + o) (hp : pc' = if acV cd same = true then ((pc : Int) + o).toNat else pc + 3) (q : Go p e below T (mkF m pc' Ls rest) Q) : Go p e below T (mkF m pc Ls (y :: x :: rest)) Q := Go.of (fun _ k => Jvm.RoadKit.acmp (g := mkF m pc Ls (y :: x :: rest)) X hx rfl h1 h2 (pc0 := pc) rfl hd rfl hq ho hp k) q
theorem o_getS (X : Stand p l e R s m args below meth c T locs cells slots) (hx : p.tables.exec = Jvm.exec) (hZ : Z.Warmed39 s.vm) {own R0 O n d host : String} {index : Nat} (hown : s.vm.findClass own = some m.cls) (w : (Cond.fieldLink own index R0 n d).before a0 Z = true ∨ (Cond.fieldLinkNest own index R0 n d host).before a0 Z = true) (via : Via Z R0 O n d) (eT : T.heap = h) {v : Value} (F : Sta Z h O n d v) (hd : decode c.code pc = .ok (.getstatic index, 3))
    (q : ∀ T', Stand p l e R s m args below meth c T' locs cells slots → T'.heap = h → Go p e below T' (mkF m (pc + 3) Ls (v :: rest)) Q) : Go p e below T (mkF m pc Ls rest) Q := by
  obtain ⟨T', X', e', st⟩ := getS2 X hx hZ hown w via eT F (g := mkF m pc Ls rest) rfl hd
  exact Go.of st (q T' X' e')
theorem o_getF (X : Stand p l e R s m args below meth c T locs cells slots) (hx : p.tables.exec = Jvm.exec) (hZ : Z.Warmed39 s.vm) {own R0 O n d host : String} {index : Nat} (hown : s.vm.findClass own = some m.cls) (w : (Cond.fieldLink own index R0 n d).before a0 Z = true ∨ (Cond.fieldLinkNest own index R0 n d host).before a0 Z = true) (via : Via Z R0 O n d) (eT : T.heap = h) {a : Addr} {v : Value} (F : Fld Z h a O n d v) (hd : decode c.code pc = .ok (.getfield index, 3))
    (q : ∀ T', Stand p l e R s m args below meth c T' locs cells slots → T'.heap = h → Go p e below T' (mkF m (pc + 3) Ls (v :: rest)) Q) : Go p e below T (mkF m pc Ls (.ref a :: rest)) Q := by
  obtain ⟨T', X', e', st⟩ := getF X hx hZ hown w via eT F (g := mkF m pc Ls (.ref a :: rest)) rfl rfl hd
  exact Go.of st (q T' X' e')
theorem o_putF (X : Stand p l e R s m args below meth c T locs cells slots) (hx : p.tables.exec = Jvm.exec) (hZ : Z.Warmed39 s.vm) {own R0 O n d host C : String} {index kk : Nat} {ty : FieldType} (hown : s.vm.findClass own = some m.cls) (w : (Cond.fieldLink own index R0 n d).before a0 Z = true ∨ (Cond.fieldLinkNest own index R0 n d host).before a0 Z = true) (via : Via Z R0 O n d) (eT : T.heap = h) {a : Addr} {v old : Value} (F : Fld Z h a O n d old) (E : Exa Z h a C) (L : (Cond.lays C O n d).before a0 Z = true ∨ ((Cond.laysFinal C O n d).before a0 Z = true ∧ own = O ∧ meth.name = "<init>")) (wi : (Cond.instantiable C kk).before a0 Z = true)
    (hty : parseFieldDescriptor d = some ty) (hn : narrow ty v = v) (hf : fits ty v = true) (hd : decode c.code pc = .ok (.putfield index, 3))
    (q : ∀ T' h', Stand p l e R s m args below meth c T' (locs ++ [⟨a, Jvm.RoadKit.slotOf Z O n d⟩]) cells slots → T'.heap = h' → Wr h h' a (Jvm.RoadKit.slotOf Z O n d) v → Go p e below T' (mkF m (pc + 3) Ls rest) Q) : Go p e below T (mkF m pc Ls (v :: .ref a :: rest)) Q := by
  obtain ⟨T', h', X', e', W, st⟩ := putF X hx hZ hown w via eT F E L wi hty hn hf (g := mkF m pc Ls (v :: .ref a :: rest)) rfl rfl hd
  exact Go.of st (q T' h' X' e' W)
theorem o_putFN (X : Stand p l e R s m args below meth c T locs cells slots) (hx : p.tables.exec = Jvm.exec) (hZ : Z.Warmed39 s.vm) {own R0 O n d C : String} {index kk : Nat} {ty : FieldType} (hown : s.vm.findClass own = some m.cls) (w : (Cond.fieldLink own index R0 n d).before a0 Z = true) (via : Via Z R0 O n d) (eT : T.heap = h) {a : Addr} {v v' old : Value} (F : Fld Z h a O n d old) (E : Exa Z h a C) (L : (Cond.lays C O n d).before a0 Z = true ∨ ((Cond.laysFinal C O n d).before a0 Z = true ∧ own = O ∧ meth.name = "<init>")) (wi : (Cond.instantiable C kk).before a0 Z = true)
    (hty : parseFieldDescriptor d = some ty) (hn : narrow ty v = v') (hf : fits ty v' = true) (hd : decode c.code pc = .ok (.putfield index, 3))
    (q : ∀ T' h', Stand p l e R s m args below meth c T' (locs ++ [⟨a, Jvm.RoadKit.slotOf Z O n d⟩]) cells slots → T'.heap = h' → Wr h h' a (Jvm.RoadKit.slotOf Z O n d) v' → Go p e below T' (mkF m (pc + 3) Ls rest) Q) : Go p e below T (mkF m pc Ls (v :: .ref a :: rest)) Q := by
  obtain ⟨T', h', X', e', W, st⟩ := putFN X hx hZ hown w via eT F E L wi hty hn hf (g := mkF m pc Ls (v :: .ref a :: rest)) rfl rfl hd
  exact Go.of st (q T' h' X' e' W)
theorem o_new (X : Stand p l e R s m args below meth c T locs cells slots) (hx : p.tables.exec = Jvm.exec) (hZ : Z.Warmed39 s.vm) {own C : String} {index n : Nat} (hown : s.vm.findClass own = some m.cls) (w : (Cond.classLink own index C).before a0 Z = true) (wi : (Cond.instantiable C n).before a0 Z = true) (wz : (Cond.initialized C).before a0 Z = true) (eT : T.heap = h) (hd : decode c.code pc = .ok (.new index, 3)) (hc : cells + 1 ≤ R.cells) (hl : slots + n ≤ R.slots)
    (q : ∀ T' h' a, Stand p l e R s m args below meth c T' locs (cells + 1) (slots + n) → T'.heap = h' → h.size ≤ a → Ext h h' → Exa Z h' a C → (∀ {O nm d : String} {ty : FieldType}, Laid Z a0 C O nm d → parseFieldDescriptor d = some ty → Fld Z h' a O nm d (defaultValue ty)) → Unt h' a → Go p e below T' (mkF m (pc + 3) Ls (.ref a :: rest)) Q) : Go p e below T (mkF m pc Ls rest) Q := by
  obtain ⟨T', h', X', e', E, A, D, U, st⟩ := newO X hx hZ hown w wi wz eT (g := mkF m pc Ls rest) rfl hd hc hl
  exact Go.of st (q T' h' _ X' e' (Nat.le_refl _) E A D U)
theorem o_initO (X : Stand p l e R s m args below meth c T locs cells slots) (hx : p.tables.exec = Jvm.exec) (hZ : Z.Warmed39 s.vm) {own : String} {idx : Nat} (hown : s.vm.findClass own = some m.cls) (w1 : (Cond.methodLink own idx Lib.objectInit).before a0 Z = true) (w2 : (Cond.instanceMethod Lib.objectInit).before a0 Z = true) (w3 : (Cond.code Lib.objectInit ⟨#[0xb1]⟩ 1 none).before a0 Z = true) (eT : T.heap = h) (hsize : Ls.size = c.maxLocals) {a : Addr} (hd : decode c.code pc = .ok (.invokespecial idx, 3)) (hf : 1 ≤ R.frames) {W : Nat} (hW : (rest.map fun v => v.category).sum ≤ W) (hl : W + 12 ≤ R.locals)
    (q : ∀ T', Stand p l e R s m args below meth c T' locs cells slots → T'.heap = h → Go p e below T' (mkF m (pc + 3) Ls rest) Q) : Go p e below T (mkF m pc Ls (.ref a :: rest)) Q := by
  obtain ⟨T', X', e', st⟩ := initO X hx hZ hown w1 w2 w3 eT (g := mkF m pc Ls (.ref a :: rest)) rfl hsize rfl hd hf (W := W) (by show 2 * 0 + _ ≤ W; omega) hl
  exact Go.of st (q T' X' e')
theorem o_cast (X : Stand p l e R s m args below meth c T locs cells slots) (hx : p.tables.exec = Jvm.exec) (hZ : Z.Warmed39 s.vm) {own K : String} {index : Nat} (hown : s.vm.findClass own = some m.cls) (w : (Cond.classLink own index K).before a0 Z = true) (eT : T.heap = h) {a : Addr} (F : Ins Z h a K true) (hd : decode c.code pc = .ok (.checkcast index, 3))
    (q : ∀ T', Stand p l e R s m args below meth c T' locs cells slots → T'.heap = h → Go p e below T' (mkF m (pc + 3) Ls (.ref a :: rest)) Q) : Go p e below T (mkF m pc Ls (.ref a :: rest)) Q := by
  obtain ⟨T', X', e', st⟩ := castY X hx hZ hown w eT F (g := mkF m pc Ls (.ref a :: rest)) rfl rfl hd
  exact Go.of st (q T' X' e')
theorem o_instY (X : Stand p l e R s m args below meth c T locs cells slots) (hx : p.tables.exec = Jvm.exec) (hZ : Z.Warmed39 s.vm) {own K : String} {index : Nat} (hown : s.vm.findClass own = some m.cls) (w : (Cond.classLink own index K).before a0 Z = true) (eT : T.heap = h) {a : Addr} (F : Ins Z h a K true) (hd : decode c.code pc = .ok (.instanceof index, 3))
    (q : ∀ T', Stand p l e R s m args below meth c T' locs cells slots → T'.heap = h → Go p e below T' (mkF m (pc + 3) Ls (.int 1 :: rest)) Q) : Go p e below T (mkF m pc Ls (.ref a :: rest)) Q := by
  obtain ⟨T', X', e', st⟩ := instY X hx hZ hown w eT F (g := mkF m pc Ls (.ref a :: rest)) rfl rfl hd
  exact Go.of st (q T' X' e')
theorem o_newP (X : Stand p l e R s m args below meth c T locs cells slots) (hx : p.tables.exec = Jvm.exec) (hZ : Z.Warmed39 s.vm) {aty : ArrayType} (w : (Cond.arrayClass (newarray.typeOf aty)).before a0 Z = true) (eT : T.heap = h) (hd : decode c.code pc = .ok (.newarray aty, 2)) {n : Int32} (hn : ¬ n < 0) (cap : Nat) (hcap : n.toNatClampNeg ≤ cap) (hb : cap * 8 ≤ 536870912) (hc : cells + 1 ≤ R.cells) (hl : slots + cap ≤ R.slots)
    (q : ∀ T' h' a k, Stand p l e R s m args below meth c T' locs (cells + 1) (slots + cap) → T'.heap = h' → h.size ≤ a → Ext h h' → Arv Z h' a k (newarray.typeOf aty) n [] (defaultValue (newarray.typeOf aty)) → Go p e below T' (mkF m (pc + 2) Ls (.ref a :: rest)) Q) : Go p e below T (mkF m pc Ls (.int n :: rest)) Q := by
  obtain ⟨T', h', k', X', e', E, A, st⟩ := newP X hx hZ w eT (g := mkF m pc Ls (.int n :: rest)) rfl hd rfl hn hcap hb hc hl
  exact Go.of st (q T' h' _ k' X' e' (Nat.le_refl _) E (Arv.new A hn))
theorem o_castore (X : Stand p l e R s m args below meth c T locs cells slots) (hx : p.tables.exec = Jvm.exec) (hZ : Z.Warmed39 s.vm) (eT : T.heap = h) {a : Addr} {k : ClassId} {z j : Int32} {vs : List Value} {dv : Value} {x : Int32} (A : Arv Z h a k .char z vs dv) (hj : ¬ j < 0 ∧ j < z) (i : Nat) (hi : j.toNatClampNeg = i) (hl : i < vs.length) (hd : decode c.code pc = .ok (.castore, 1))
    (q : ∀ T' h', Stand p l e R s m args below meth c T' (locs ++ [⟨a, j.toNatClampNeg⟩]) cells slots → T'.heap = h' → Wr h h' a j.toNatClampNeg (.int (nar .char x)) → Arv Z h' a k .char z (vs.set i (.int (nar .char x))) dv → Go p e below T' (mkF m (pc + 1) Ls rest) Q) : Go p e below T (mkF m pc Ls (.int x :: .int j :: .ref a :: rest)) Q := by
  obtain ⟨cl, Ar, q1, S, N, H, G⟩ := A
  have hin := inb_of S hj
  obtain ⟨T', h', X', e', W, st⟩ := stC X hx hZ eT Ar (j := j) hin (g := mkF m pc Ls (.int x :: .int j :: .ref a :: rest)) rfl rfl hd
  exact Go.of st (q T' h' X' e' W (Arv.set Ar q1 S N H G (fits_nar_char x) W i hi hl))
theorem o_bastore (X : Stand p l e R s m args below meth c T locs cells slots) (hx : p.tables.exec = Jvm.exec) (hZ : Z.Warmed39 s.vm) (eT : T.heap = h) {a : Addr} {k : ClassId} {z j : Int32} {vs : List Value} {dv : Value} {x : Int32} (A : Arv Z h a k .byte z vs dv) (hj : ¬ j < 0 ∧ j < z) (i : Nat) (hi : j.toNatClampNeg = i) (hl : i < vs.length) (hd : decode c.code pc = .ok (.bastore, 1))
    (q : ∀ T' h', Stand p l e R s m args below meth c T' (locs ++ [⟨a, j.toNatClampNeg⟩]) cells slots → T'.heap = h' → Wr h h' a j.toNatClampNeg (.int x.toInt8.toInt32) → Arv Z h' a k .byte z (vs.set i (.int x.toInt8.toInt32)) dv → Go p e below T' (mkF m (pc + 1) Ls rest) Q) : Go p e below T (mkF m pc Ls (.int x :: .int j :: .ref a :: rest)) Q := by
  obtain ⟨cl, Ar, q1, S, N, H, G⟩ := A
  have hin := inb_of S hj
  obtain ⟨T', h', X', e', W, st⟩ := stB X hx hZ eT Ar (j := j) hin (g := mkF m pc Ls (.int x :: .int j :: .ref a :: rest)) rfl rfl hd
  exact Go.of st (q T' h' X' e' W (Arv.set Ar q1 S N H G (fits_nar_byte x) W i hi hl))
theorem o_caload (X : Stand p l e R s m args below meth c T locs cells slots) (hx : p.tables.exec = Jvm.exec) (hZ : Z.Warmed39 s.vm) (eT : T.heap = h) {a : Addr} {k : ClassId} {z j : Int32} {vs : List Value} {dv v : Value} (A : Arv Z h a k .char z vs dv) (hj : ¬ j < 0 ∧ j < z) (hv : vs.getD j.toNatClampNeg dv = v) (hd : decode c.code pc = .ok (.caload, 1)) (q : Go p e below T (mkF m (pc + 1) Ls (v :: rest)) Q) : Go p e below T (mkF m pc Ls (.int j :: .ref a :: rest)) Q := by
  obtain ⟨cl, Ar, q1, S, N, H, G⟩ := A
  have hin := inb_of S hj
  exact Go.of (fun t k => X.caload hx (j := j) (v := v) (by rw [eT]; exact Ar.1) (State.isArrayOf_alike hZ.alike Ar.2.1) Ar.2.2 hin (H.at hin hv) (g := mkF m pc Ls (.int j :: .ref a :: rest)) rfl rfl hd t k) q
theorem o_baload (X : Stand p l e R s m args below meth c T locs cells slots) (hx : p.tables.exec = Jvm.exec) (hZ : Z.Warmed39 s.vm) (eT : T.heap = h) {a : Addr} {k : ClassId} {z j : Int32} {vs : List Value} {dv v : Value} (A : Arv Z h a k .byte z vs dv) (hj : ¬ j < 0 ∧ j < z) (hv : vs.getD j.toNatClampNeg dv = v) (hd : decode c.code pc = .ok (.baload, 1)) (q : Go p e below T (mkF m (pc + 1) Ls (v :: rest)) Q) : Go p e below T (mkF m pc Ls (.int j :: .ref a :: rest)) Q := by
  obtain ⟨cl, Ar, q1, S, N, H, G⟩ := A
  have hin := inb_of S hj
  exact Go.of (fun t k => X.baloadBytes hx (j := j) (v := v) (by rw [eT]; exact Ar.1) (State.isArrayOf_alike hZ.alike Ar.2.1) Ar.2.2 hin (H.at hin hv) (g := mkF m pc Ls (.int j :: .ref a :: rest)) rfl rfl hd t k) q
theorem o_arraylength (X : Stand p l e R s m args below meth c T locs cells slots) (hx : p.tables.exec = Jvm.exec) (hZ : Z.Warmed39 s.vm) (eT : T.heap = h) {a : Addr} {k : ClassId} {z : Int32} {vs : List Value} {dv : Value} {ty : FieldType} (A : Arv Z h a k ty z vs dv) (hd : decode c.code pc = .ok (.arraylength, 1)) (q : Go p e below T (mkF m (pc + 1) Ls (.int z :: rest)) Q) : Go p e below T (mkF m pc Ls (.ref a :: rest)) Q := by
  obtain ⟨cl, Ar, q1, S, N, H, G⟩ := A
  refine Go.of (fun t k => X.arraylength hx (by rw [eT]; exact Ar.1) (State.isArrayOf_alike hZ.alike Ar.2.1) (g := mkF m pc Ls (.ref a :: rest)) rfl rfl hd t k) ?_
  rw [len_of S N]; exact q
def Lv (s : State) (Qc : Option Value → Heap → List Loc → Prop) (C S : Nat) (o : Outcome) (t : State) : Prop := ∃ v L, o = .returned v ∧ Qc v t.heap L ∧ FrameEnd s o t L C S
abbrev Ct (l : Launch) (Z : State) (y : MethodName) (bytes : ByteArray) (maxL : Nat) (ret : Option FieldType) (rm : Room) (ws : List Jvm.Cond) (as : Array Value) (h0 : Heap) (Qc : Option Value → Heap → List Loc → Prop) : Prop := MetFree l y (head1 (Jvm.Cond.code y bytes maxL ret :: ws) rm) (fun a U => a = as ∧ Z.Warmed39 U.vm ∧ U.heap = h0) (fun _ _ _ _ _ => True) (fun _ U o U' => ∃ v L, o = .returned v ∧ Qc v U'.heap L ∧ FrameEnd U o U' L rm.cells rm.slots)
theorem Ct.mono {y : MethodName} {bytes : ByteArray} {maxL : Nat} {ret : Option FieldType} {rm : Room} {ws : List Jvm.Cond} {as : Array Value} {Q1 Q2 : Option Value → Heap → List Loc → Prop} (k : Ct l Z y bytes maxL ret rm ws as h0 Q1) (w : ∀ v h L, Q1 v h L → Q2 v h L) : Ct l Z y bytes maxL ret rm ws as h0 Q2 := by
  intro p e ha hc hk s m args below hf happ hP hK
  obtain ⟨n, o, h1, h2, h3, v, L, h4, h5, h6⟩ := k p e ha hc hk s m args below hf happ hP hK
  exact ⟨n, o, h1, h2, h3, v, L, h4, w _ _ _ h5, h6⟩
theorem o_body {y : MethodName} {bytes : ByteArray} {maxL : Nat} {ret : Option FieldType} {rm : Room} {ws : List Jvm.Cond} {as : Array Value} {Qc : Option Value → Heap → List Loc → Prop} (hpl : plainFor y = true)
    (body : ∀ (p : Program) (e : Env) (s : State) (m : MethodId) (below : List Frame) (meth : Method) (c : Code) (s₁ : State), Stand p l e rm s m as below meth c s₁ [] 0 0 → p.tables.exec = Jvm.exec → c.code = bytes → c.maxLocals = maxL → meth.sig.returnType = ret → meth.locks = false → s.vm.findClass y.cls = some m.cls → meth.name = y.name → Z.Warmed39 s.vm → s₁.heap = h0 → Go p e below s₁ (entryFrame m as maxL) (Lv s Qc rm.cells rm.slots)) :
    Ct l Z y bytes maxL ret rm ws as h0 Qc := by
  refine MetFree.of_bodySF hpl hisR ?_
  intro p e s m args below meth c s₁ Bd hml0 hP hK
  obtain ⟨rfl, hZ, hh⟩ := hP
  exact body p e s m below meth c s₁ (Stand.of_body Bd) Bd.exec Bd.bytes hml0 Bd.returns Bd.notSynchronized (findClass_of_methodNamed Bd.named) (name_of_methodNamed Bd.named Bd.method).1 hZ (by rw [← hh, Bd.state]; rfl)
theorem o_top {g g' : JFrame} (q : g = g') (k : Go p e below T g' Q) : Go p e below T g Q := q ▸ k
theorem o_retV (X : Stand p l e R s m args below meth c T locs cells slots) (hx : p.tables.exec = Jvm.exec) {Qc : Option Value → Heap → List Loc → Prop} {C S : Nat} {w : Value} {t : FieldType} {i : Instr} (hret : meth.sig.returnType = some t) (hlk : meth.locks = false) (hn : narrow t w = w)
    (hi : (i = .ireturn ∧ (t = .int ∨ t = .boolean ∨ t = .byte ∨ t = .char ∨ t = .short) ∧ ∃ z, w = .int z) ∨ (i = .lreturn ∧ t = .long ∧ ∃ z, w = .long z) ∨ (i = .dreturn ∧ t = .double ∧ ∃ z, w = .double z) ∨ (i = .freturn ∧ t = .float ∧ ∃ z, w = .float z) ∨ (i = .areturn ∧ t.isReference = true ∧ w.isRef = true))
    (hd : decode c.code pc = .ok (i, 1)) (eT : T.heap = h) (q : Qc (some w) h locs) (hC : cells ≤ C) (hS : slots ≤ S) : Go p e below T (mkF m pc Ls (w :: rest)) (Lv s Qc C S) := by
  obtain ⟨fs, hr, hrun, hended, hW, hsame⟩ := X.leave (v := some w) (fun h => by rw [hret] at h; cases h) hlk
  refine ⟨_, _, retOut X hx hret hn hi hd hr, hrun, hended, some w, locs, rfl, ?_, ⟨_, rfl⟩, hW, hsame.mono hC hS⟩
  show Qc (some w) T.heap locs
  rw [eT]; exact q
theorem o_retI (X : Stand p l e R s m args below meth c T locs cells slots) (hx : p.tables.exec = Jvm.exec) {Qc : Option Value → Heap → List Loc → Prop} {C S : Nat} {z : Int32} (hret : meth.sig.returnType = some .int) (hlk : meth.locks = false) (hd : decode c.code pc = .ok (.ireturn, 1)) (eT : T.heap = h) (hC : cells ≤ C) (hS : slots ≤ S) (q : Qc (some (.int z)) h locs) : Go p e below T (mkF m pc Ls (.int z :: rest)) (Lv s Qc C S) := o_retV X hx hret hlk rfl (Or.inl ⟨rfl, Or.inl rfl, z, rfl⟩) hd eT q hC hS
theorem o_retA (X : Stand p l e R s m args below meth c T locs cells slots) (hx : p.tables.exec = Jvm.exec) {Qc : Option Value → Heap → List Loc → Prop} {C S : Nat} {w : Value} {t : FieldType} (hret : meth.sig.returnType = some t) (hlk : meth.locks = false) (ht : t.isReference = true) (hw : w.isRef = true) (hd : decode c.code pc = .ok (.areturn, 1)) (eT : T.heap = h) (hC : cells ≤ C) (hS : slots ≤ S) (q : Qc (some w) h locs) : Go p e below T (mkF m pc Ls (w :: rest)) (Lv s Qc C S) := o_retV X hx hret hlk (by rcases ref_cases hw with rfl | ⟨a, rfl⟩ <;> cases t <;> first | rfl | (cases ht; done)) (Or.inr (Or.inr (Or.inr (Or.inr ⟨rfl, ht, hw⟩)))) hd eT q hC hS
theorem o_retN (X : Stand p l e R s m args below meth c T locs cells slots) (hx : p.tables.exec = Jvm.exec) {Qc : Option Value → Heap → List Loc → Prop} {C S : Nat} {z : Int32} (t : FieldType) (hret : meth.sig.returnType = some t) (hlk : meth.locks = false) (ht : t = .boolean ∨ t = .byte ∨ t = .char ∨ t = .short) (hd : decode c.code pc = .ok (.ireturn, 1)) (eT : T.heap = h) (hC : cells ≤ C) (hS : slots ≤ S) (q : Qc (some (.int (nar t z))) h locs) : Go p e below T (mkF m pc Ls (.int z :: rest)) (Lv s Qc C S) := by
  obtain ⟨fs, hr, hrun, hended, hW, hsame⟩ := X.leave (v := some (.int (nar t z))) (fun h => by rw [hret] at h; cases h) hlk
  refine ⟨_, _, retN X hx hret ht hd hr, hrun, hended, some (.int (nar t z)), locs, rfl, ?_, ⟨_, rfl⟩, hW, hsame.mono hC hS⟩
  show Qc _ T.heap locs
  rw [eT]; exact q
theorem o_ret0 (X : Stand p l e R s m args below meth c T locs cells slots) (hx : p.tables.exec = Jvm.exec) {Qc : Option Value → Heap → List Loc → Prop} {C S : Nat} (hret : meth.sig.returnType = none) (hlk : meth.locks = false) (hd : decode c.code pc = .ok (.return_, 1)) (eT : T.heap = h) (hC : cells ≤ C) (hS : slots ≤ S) (q : Qc none h locs) : Go p e below T (mkF m pc Ls []) (Lv s Qc C S) := by
  obtain ⟨fs, hr, hrun, hended, hW, hsame⟩ := X.leave (v := none) (fun _ => rfl) hlk
  refine ⟨_, _, X.returnOut hx hret hd hr, hrun, hended, none, locs, rfl, ?_, ⟨_, rfl⟩, hW, hsame.mono hC hS⟩
  show Qc none T.heap locs
  rw [eT]; exact q
theorem o_callS (X : Stand p l e R s m args below meth c T locs cells slots) (hx : p.tables.exec = Jvm.exec) (hZ : Z.Warmed39 s.vm) {y : MethodName} {bytes : ByteArray} {maxL : Nat} {ret : Option FieldType} {rm : Room} {as : Array Value} {Qc : Option Value → Heap → List Loc → Prop} {own : String} {index W : Nat} {argsL : List Value} (hown : s.vm.findClass own = some m.cls) (wl : (Cond.methodLink own index y).before a0 Z = true) (wst : (Cond.static y).before a0 Z = true) (wz : (Cond.initialized y.cls).before a0 Z = true) (wc : (Cond.code y bytes maxL ret).before a0 Z = true) (hy : y.cls ≠ "java/lang/invoke/MethodHandle" ∧ y.cls ≠ "java/lang/invoke/VarHandle") (hM : Ct l Z y bytes maxL ret rm [] as h Qc) (eT : T.heap = h) (hsize : Ls.size = c.maxLocals) (hlen : ∀ sig, parseMethodDescriptor y.desc = some sig → argsL.length = sig.parameters.length) (has : argsL.toArray = as) {st : List Value} (hst : st = argsL.reverse ++ rest) (hW : (rest.map fun v => v.category).sum ≤ W) (hd : decode c.code pc = .ok (.invokestatic index, 3)) (hf : rm.frames + 1 ≤ R.frames) (hl : W + (maxL + 11) + rm.locals ≤ R.locals) (hc : cells + rm.cells ≤ R.cells) (hs : slots + rm.slots ≤ R.slots)
    (q : ∀ v T' h' L, Stand p l e R s m args below meth c T' (locs ++ L) (cells + rm.cells) (slots + rm.slots) → T'.heap = h' → Qc v h' L → Go p e below T' (mkF m (pc + 3) Ls (v.toList ++ rest)) Q) : Go p e below T (mkF m pc Ls st) Q := by
  obtain ⟨v, vm₁, ⟨T', L', k', n'⟩, -, X', ⟨L, hQ, l1, y1, z1⟩, st'⟩ := Jvm.LawKit.callS X hx (y := y) hown (mvT hZ wl) (mvT hZ wst) (mvT hZ wz) (mvT hZ wc) hy (backOf (W := W) hM hZ wc wz hf hl) (g := mkF m pc Ls st) rfl hsize hlen hst (by show 2 * 0 + _ ≤ W; omega) hd (fun _ _ => ⟨has, eT, hc, hs⟩)
  dsimp only [Pt.U, Pt.locs, Pt.cells, Pt.slots] at X' l1 y1 z1 st' hQ
  subst l1 y1 z1
  exact Go.of st' (q v T' _ L X' rfl hQ)
theorem o_callN (X : Stand p l e R s m args below meth c T locs cells slots) (hx : p.tables.exec = Jvm.exec) (hZ : Z.Warmed39 s.vm) {y : MethodName} {bytes : ByteArray} {maxL : Nat} {rm : Room} {as : Array Value} {Qc : Option Value → Heap → List Loc → Prop} {own : String} {index W : Nat} {argsL : List Value} {a : Addr} (hy1 : y.name = "<init>") (hown : s.vm.findClass own = some m.cls) (wl : (Cond.methodLink own index y).before a0 Z = true) (wi : (Cond.instanceMethod y).before a0 Z = true) (wz : (Cond.initialized y.cls).before a0 Z = true) (wc : (Cond.code y bytes maxL none).before a0 Z = true) (hy : y.cls ≠ "java/lang/invoke/MethodHandle" ∧ y.cls ≠ "java/lang/invoke/VarHandle") (hM : Ct l Z y bytes maxL none rm [] as h Qc) (eT : T.heap = h) (hsize : Ls.size = c.maxLocals) (hlen : ∀ sig, parseMethodDescriptor y.desc = some sig → argsL.length = sig.parameters.length) (has : (.ref a :: argsL).toArray = as) {st : List Value} (hst : st = argsL.reverse ++ .ref a :: rest) (hW : (rest.map fun v => v.category).sum ≤ W) (hd : decode c.code pc = .ok (.invokespecial index, 3)) (hf : rm.frames + 1 ≤ R.frames) (hl : W + (maxL + 11) + rm.locals ≤ R.locals) (hc : cells + rm.cells ≤ R.cells) (hs : slots + rm.slots ≤ R.slots)
    (q : ∀ v T' h' L, Stand p l e R s m args below meth c T' (locs ++ L) (cells + rm.cells) (slots + rm.slots) → T'.heap = h' → Qc v h' L → Go p e below T' (mkF m (pc + 3) Ls (v.toList ++ rest)) Q) : Go p e below T (mkF m pc Ls st) Q := by
  obtain ⟨v, vm₁, ⟨T', L', k', n'⟩, -, X', ⟨L, hQ, l1, y1, z1⟩, st'⟩ := X.specialBack hx (y := y) hy1 hown (mvT hZ wl) (mvT hZ wi) (mvT hZ wc) hy (backOf (W := W) hM hZ wc wz hf hl) (g := mkF m pc Ls st) rfl hsize (Steps.refl _) (a := a) hlen hst (by show 2 * 0 + _ ≤ W; omega) hd (fun _ _ => ⟨has, eT, hc, hs⟩)
  dsimp only [Pt.U, Pt.locs, Pt.cells, Pt.slots] at X' l1 y1 z1 st' hQ
  subst l1 y1 z1
  exact Go.of (fun _ k => st'.trans k) (q v T' _ L X' rfl hQ)
theorem o_callV (X : Stand p l e R s m args below meth c T locs cells slots) (hx : p.tables.exec = Jvm.exec) (hZ : Z.Warmed39 s.vm) {y z : MethodName} {bytes : ByteArray} {maxL : Nat} {ret : Option FieldType} {rm : Room} {as : Array Value} {Qc : Option Value → Heap → List Loc → Prop} {own C : String} {index W : Nat} {argsL : List Value} {a : Addr} (hown : s.vm.findClass own = some m.cls) (wl : (Cond.methodLink own index y).before a0 Z = true) (wd : (Cond.declares y).before a0 Z = true) (hnf : NotFace s y) (wsel : (Cond.selects C y z).before a0 Z = true) (wi : (Cond.instanceMethod z).before a0 Z = true) (wz : (Cond.initialized z.cls).before a0 Z = true) (wc : (Cond.code z bytes maxL ret).before a0 Z = true) (hy : y.cls ≠ "java/lang/invoke/MethodHandle" ∧ y.cls ≠ "java/lang/invoke/VarHandle") (hM : Ct l Z z bytes maxL ret rm [] as h Qc) (eT : T.heap = h) (Ea : Exa Z h a C) (hsize : Ls.size = c.maxLocals) (hlen : ∀ sig, parseMethodDescriptor y.desc = some sig → argsL.length = sig.parameters.length) (has : (.ref a :: argsL).toArray = as) {st : List Value} (hst : st = argsL.reverse ++ .ref a :: rest) (hW : (rest.map fun v => v.category).sum ≤ W) (hd : decode c.code pc = .ok (.invokevirtual index, 3)) (hf : rm.frames + 1 ≤ R.frames) (hl : W + (maxL + 11) + rm.locals ≤ R.locals) (hc : cells + rm.cells ≤ R.cells) (hs : slots + rm.slots ≤ R.slots)
    (q : ∀ v T' h' L, Stand p l e R s m args below meth c T' (locs ++ L) (cells + rm.cells) (slots + rm.slots) → T'.heap = h' → Qc v h' L → Go p e below T' (mkF m (pc + 3) Ls (v.toList ++ rest)) Q) : Go p e below T (mkF m pc Ls st) Q := by
  obtain ⟨cq, kq, qa, qb, qc⟩ := isOf hZ eT Ea
  obtain ⟨v, vm₁, ⟨T', L', k', n'⟩, -, X', ⟨L, hQ, l1, y1, z1⟩, st'⟩ := X.virtualBack hx (y := y) (z := z) hown (mvT hZ wl) (mvT hZ wd) hnf (mvT hZ wsel) (mvT hZ wi) hy (backOf (W := W) hM hZ wc wz hf hl) qa qc (g := mkF m pc Ls st) rfl hsize (Steps.refl _) hlen hst (by show 2 * 0 + _ ≤ W; omega) hd (fun _ _ => ⟨has, eT, hc, hs⟩)
  dsimp only [Pt.U, Pt.locs, Pt.cells, Pt.slots] at X' l1 y1 z1 st' hQ
  subst l1 y1 z1
  exact Go.of (fun _ k => st'.trans k) (q v T' _ L X' rfl hQ)
theorem o_n0 {n0 : Nat} (O : Old Z n0 h) : n0 ≤ h.size := O.1 ▸ O.2.1
theorem o_keep0 {h' : Heap} (K : Keep h h' []) : Ext h h' := ⟨K.1, fun x c q => K.2.1 x c q nin0⟩
def BsH (Z : State) (EL : List (String × Nat)) (h0 : Heap) (s sB : State) (h : Heap) : Prop := ∃ vm0 k, sB = s.setVm vm0 ∧ s.Since vm0 k ∧ k ≤ h.size ∧ CHr Z EL s.vm h0 vm0 h
theorem BsH.start {EL : List (String × Nat)} (H : CHv Z EL s.vm h) : BsH Z EL h s s h := ⟨s.vm, 0, rfl, (State.WarmedH.refl s).since 0, Nat.zero_le _, CHr.refl H⟩
theorem BsH.chv {EL : List (String × Nat)} {sB : State} (B : BsH Z EL h0 s sB h) : CHv Z EL sB.vm h := by
  obtain ⟨vm0, k, rfl, e2, e3, e4⟩ := B; exact e4.1
theorem BsH.ext {EL : List (String × Nat)} {sB : State} {h' : Heap} (B : BsH Z EL h0 s sB h) (q : Ext h h') : BsH Z EL h0 s sB h' := by
  obtain ⟨vm0, k, e1, e2, e3, e4⟩ := B; exact ⟨vm0, k, e1, e2, Nat.le_trans e3 q.1, e4.trans (CHr.ext q e4.1)⟩
theorem BsH.wr {EL : List (String × Nat)} {sB : State} {h' : Heap} {a : Addr} {sl : Nat} {v : Value} (B : BsH Z EL h0 s sB h) (q : Wr h h' a sl v) (S : Safe Z EL sB.vm h a) : BsH Z EL h0 s sB h' := by
  obtain ⟨vm0, k, rfl, e2, e3, e4⟩ := B; exact ⟨vm0, k, rfl, e2, Nat.le_trans e3 (Nat.le_of_eq q.size.symm), e4.trans (CHr.wr q S e4.1)⟩
theorem BsH.keep {EL : List (String × Nat)} {sB : State} {h' : Heap} {ws : List Addr} (B : BsH Z EL h0 s sB h) (q : Keep h h' ws) (S : ∀ x ∈ ws, Safe Z EL sB.vm h x) : BsH Z EL h0 s sB h' := by
  obtain ⟨vm0, k, rfl, e2, e3, e4⟩ := B; exact ⟨vm0, k, rfl, e2, Nat.le_trans e3 q.1, e4.trans (CHr.keep q S e4.1)⟩
def LvH (Z : State) (EL : List (String × Nat)) (s : State) (Qc : Option Value → Heap → List Loc → Prop) (C S : Nat) (o : Outcome) (t : State) : Prop := ∃ v L, o = .returned v ∧ Qc v t.heap L ∧ CHr Z EL s.vm s.heap t.vm t.heap ∧ ReturnedEndW s o t L C S
abbrev CtH (l : Launch) (Z : State) (EL : List (String × Nat)) (y : MethodName) (bytes : ByteArray) (maxL : Nat) (ret : Option FieldType) (rm : Room) (ws : List Jvm.Cond) (as : Array Value) (h0 : Heap) (Qc : Option Value → Heap → List Loc → Prop) : Prop := MetFree l y (head1 (Jvm.Cond.code y bytes maxL ret :: ws) rm) (fun a U => a = as ∧ Z.Warmed39 U.vm ∧ U.heap = h0 ∧ CHv Z EL U.vm h0) (fun _ _ _ _ _ => True) (fun _ U o U' => ∃ v L, o = .returned v ∧ Qc v U'.heap L ∧ CHr Z EL U.vm U.heap U'.vm U'.heap ∧ ReturnedEndW U o U' L rm.cells rm.slots)
theorem o_bodyH {EL : List (String × Nat)} {y : MethodName} {bytes : ByteArray} {maxL : Nat} {ret : Option FieldType} {rm : Room} {ws : List Jvm.Cond} {as : Array Value} {Qc : Option Value → Heap → List Loc → Prop} (hpl : plainFor y = true)
    (body : ∀ (p : Program) (e : Env) (s : State) (m : MethodId) (below : List Frame) (meth : Method) (c : Code) (s₁ : State), Stand p l e rm s m as below meth c s₁ [] 0 0 → p.tables.exec = Jvm.exec → c.code = bytes → c.maxLocals = maxL → meth.sig.returnType = ret → meth.locks = false → s.vm.findClass y.cls = some m.cls → meth.name = y.name → Z.Warmed39 s.vm → s₁.heap = h0 → s.heap = h0 → CHv Z EL s.vm h0 → Go p e below s₁ (entryFrame m as maxL) (LvH Z EL s Qc rm.cells rm.slots)) :
    CtH l Z EL y bytes maxL ret rm ws as h0 Qc := by
  refine MetFree.of_bodySF hpl hisR ?_
  intro p e s m args below meth c s₁ Bd hml0 hP hK
  obtain ⟨rfl, hZ, hh, H⟩ := hP
  exact body p e s m below meth c s₁ (Stand.of_body Bd) Bd.exec Bd.bytes hml0 Bd.returns Bd.notSynchronized (findClass_of_methodNamed Bd.named) (name_of_methodNamed Bd.named Bd.method).1 hZ (by rw [← hh, Bd.state]; rfl) hh H
theorem o_retVH {EL : List (String × Nat)} {sB : State} (X : Stand p l e R sB m args below meth c T locs cells slots) (hx : p.tables.exec = Jvm.exec) {Qc : Option Value → Heap → List Loc → Prop} {C S : Nat} {w : Value} {t : FieldType} {i : Instr} (hZ : Z.Warmed39 sB.vm) (hEL : EW Z a0 EL) (hh : s.heap = h0) (B : BsH Z EL h0 s sB h) (hret : meth.sig.returnType = some t) (hlk : meth.locks = false) (hn : narrow t w = w)
    (hi : (i = .ireturn ∧ (t = .int ∨ t = .boolean ∨ t = .byte ∨ t = .char ∨ t = .short) ∧ ∃ z, w = .int z) ∨ (i = .lreturn ∧ t = .long ∧ ∃ z, w = .long z) ∨ (i = .dreturn ∧ t = .double ∧ ∃ z, w = .double z) ∨ (i = .freturn ∧ t = .float ∧ ∃ z, w = .float z) ∨ (i = .areturn ∧ t.isReference = true ∧ w.isRef = true))
    (hd : decode c.code pc = .ok (i, 1)) (eT : T.heap = h) (q : Qc (some w) h locs) (hC : cells ≤ C) (hS : slots ≤ S) : Go p e below T (mkF m pc Ls (w :: rest)) (LvH Z EL s Qc C S) := by
  obtain ⟨vm0, k0, rfl, hS0, hk0, hC0⟩ := B
  have hC1 := hC0.trans (CHv.at X hZ hEL hC0.1)
  obtain ⟨fs, hr, hrun, hended, hend⟩ := X.leaveW hS0 (by rw [eT]; exact hk0) (v := some w) (fun h => by rw [hret] at h; cases h) hlk
  obtain ⟨hq1, hq2, hq3, hq4⟩ := hend
  subst eT
  exact ⟨_, _, retOut X hx hret hn hi hd hr, hrun, hended, some w, locs, rfl, q, by show CHr Z EL s.vm s.heap T.vm T.heap; rw [hh]; exact hC1, hq1, hq2, hq3, hq4.mono hC hS⟩
theorem o_retAH {EL : List (String × Nat)} {sB : State} (X : Stand p l e R sB m args below meth c T locs cells slots) (hx : p.tables.exec = Jvm.exec) {Qc : Option Value → Heap → List Loc → Prop} {C S : Nat} {w : Value} {t : FieldType} (hZ : Z.Warmed39 sB.vm) (hEL : EW Z a0 EL) (hh : s.heap = h0) (B : BsH Z EL h0 s sB h) (hret : meth.sig.returnType = some t) (hlk : meth.locks = false) (ht : t.isReference = true) (hw : w.isRef = true) (hd : decode c.code pc = .ok (.areturn, 1)) (eT : T.heap = h) (hC : cells ≤ C) (hS : slots ≤ S) (q : Qc (some w) h locs) : Go p e below T (mkF m pc Ls (w :: rest)) (LvH Z EL s Qc C S) := o_retVH X hx hZ hEL hh B hret hlk (by rcases ref_cases hw with rfl | ⟨a, rfl⟩ <;> cases t <;> first | rfl | (cases ht; done)) (Or.inr (Or.inr (Or.inr (Or.inr ⟨rfl, ht, hw⟩)))) hd eT q hC hS
theorem o_retNH {EL : List (String × Nat)} {sB : State} (X : Stand p l e R sB m args below meth c T locs cells slots) (hx : p.tables.exec = Jvm.exec) {Qc : Option Value → Heap → List Loc → Prop} {C S : Nat} {z : Int32} (hZ : Z.Warmed39 sB.vm) (hEL : EW Z a0 EL) (hh : s.heap = h0) (B : BsH Z EL h0 s sB h) (t : FieldType) (hret : meth.sig.returnType = some t) (hlk : meth.locks = false) (ht : t = .boolean ∨ t = .byte ∨ t = .char ∨ t = .short) (hd : decode c.code pc = .ok (.ireturn, 1)) (eT : T.heap = h) (hC : cells ≤ C) (hS : slots ≤ S) (q : Qc (some (.int (nar t z))) h locs) : Go p e below T (mkF m pc Ls (.int z :: rest)) (LvH Z EL s Qc C S) := by
  obtain ⟨vm0, k0, rfl, hS0, hk0, hC0⟩ := B
  have hC1 := hC0.trans (CHv.at X hZ hEL hC0.1)
  obtain ⟨fs, hr, hrun, hended, hend⟩ := X.leaveW hS0 (by rw [eT]; exact hk0) (v := some (.int (nar t z))) (fun h => by rw [hret] at h; cases h) hlk
  obtain ⟨hq1, hq2, hq3, hq4⟩ := hend
  subst eT
  exact ⟨_, _, retN X hx hret ht hd hr, hrun, hended, some (.int (nar t z)), locs, rfl, q, by show CHr Z EL s.vm s.heap T.vm T.heap; rw [hh]; exact hC1, hq1, hq2, hq3, hq4.mono hC hS⟩
theorem o_ldcH {EL : List (String × Nat)} {sB : State} (X : Stand p l e R sB m args below meth c T locs cells slots) (hx : p.tables.exec = Jvm.exec) (hZ : Z.Warmed39 sB.vm) {own text : String} {index : Nat} (hown : sB.vm.findClass own = some m.cls) (w : (Cond.stringLink own index text).before a0 Z = true) (wS : ∀ a ∈ Bundle.stringAtoms, a.before a0 Z = true) (eT : T.heap = h) (hEL : EW Z a0 EL) (hmem : (own, index) ∈ EL) (B : BsH Z EL h0 s sB h)
    {vs : List Value} {z : Int32} (ht : (∀ c ∈ text.toList, c.toNat < 256) ∧ text.toList.map (fun c => Value.int (Jvm.Lit.byteI c.toNat.toUInt16)) = vs) (hz : ¬ z < 0) (hl : z.toNatClampNeg = vs.length) (hd : decode c.code pc = .ok (.ldc index, 2)) (n : Nat) (hn : 4 * text.toList.length ≤ n) (hbig : n ≤ 536870912) (hc : cells + 2 ≤ R.cells) (hsl : slots + (n + 4) ≤ R.slots)
    (q : ∀ sB' a T' h' b k, Stand p l e R sB' m args below meth c T' locs (cells + 2) (slots + (n + 4)) → T'.heap = h' → Ext h h' → BsH Z EL h0 s sB' h' → Z.Warmed39 sB'.vm → sB'.vm.findClass own = some m.cls → CHr Z EL sB.vm h sB'.vm h' → Exa Z h' a "java/lang/String" → Fld Z h' a "java/lang/String" "coder" "B" (.int 0) → Fld Z h' a "java/lang/String" "value" "[B" (.ref b) → Arv Z h' b k .byte z vs (.int 0) → Go p e below T' (mkF m (pc + 2) Ls (.ref a :: rest)) Q) : Go p e below T (mkF m pc Ls rest) Q := by
  obtain ⟨vm0, k0, rfl, hS0, hk0, hC0⟩ := B
  obtain ⟨a, T', h', k1, b, k, X', e', E, S', k', hZ', hown', E1, E2, E3, E4, -, -, hC, -, -, st⟩ := ldcCH X hx hZ hown w wS eT hS0 hk0 hEL hmem hC0.1 ht hz hl (g := mkF m pc Ls rest) rfl hd hn hbig hc hsl
  exact Go.of st (q _ a T' h' b k X' e' E ⟨_, _, rfl, S', k', hC0.trans hC⟩ hZ' hown' hC E1 E2 E3 E4)
theorem o_callVH {EL : List (String × Nat)} {sB : State} (X : Stand p l e R sB m args below meth c T locs cells slots) (hx : p.tables.exec = Jvm.exec) (hZ : Z.Warmed39 sB.vm) {y z : MethodName} {bytes : ByteArray} {maxL : Nat} {ret : Option FieldType} {rm : Room} {as : Array Value} {Qc : Option Value → Heap → List Loc → Prop} {own C : String} {index W : Nat} {argsL : List Value} {a : Addr} (hown : sB.vm.findClass own = some m.cls) (hEL : EW Z a0 EL) (B : BsH Z EL h0 s sB h) (wl : (Cond.methodLink own index y).before a0 Z = true) (wd : (Cond.declares y).before a0 Z = true) (hnf : NotFace sB y) (wsel : (Cond.selects C y z).before a0 Z = true) (wi : (Cond.instanceMethod z).before a0 Z = true) (wz : (Cond.initialized z.cls).before a0 Z = true) (wc : (Cond.code z bytes maxL ret).before a0 Z = true) (hy : y.cls ≠ "java/lang/invoke/MethodHandle" ∧ y.cls ≠ "java/lang/invoke/VarHandle") (hM : CtH l Z EL z bytes maxL ret rm [] as h Qc) (eT : T.heap = h) (Ea : Exa Z h a C) (hsize : Ls.size = c.maxLocals) (hlen : ∀ sig, parseMethodDescriptor y.desc = some sig → argsL.length = sig.parameters.length) (has : (.ref a :: argsL).toArray = as) {st : List Value} (hst : st = argsL.reverse ++ .ref a :: rest) (hW : (rest.map fun v => v.category).sum ≤ W) (hd : decode c.code pc = .ok (.invokevirtual index, 3)) (hf : rm.frames + 1 ≤ R.frames) (hl : W + (maxL + 11) + rm.locals ≤ R.locals) (hc : cells + rm.cells ≤ R.cells) (hs : slots + rm.slots ≤ R.slots)
    (q : ∀ sB' v T' h' L, Stand p l e R sB' m args below meth c T' (locs ++ L) (cells + rm.cells) (slots + rm.slots) → T'.heap = h' → BsH Z EL h0 s sB' h' → Z.Warmed39 sB'.vm → sB'.vm.findClass own = some m.cls → CHr Z EL sB.vm h sB'.vm h' → Qc v h' L → Go p e below T' (mkF m (pc + 3) Ls (v.toList ++ rest)) Q) : Go p e below T (mkF m pc Ls st) Q := by
  obtain ⟨vm0, k0, rfl, hS0, hk0, hC0⟩ := B
  obtain ⟨cq, kq, qa, qb, qc⟩ := isOf hZ eT Ea
  obtain ⟨v, vm₁, ⟨T', L', k', n'⟩, -, X', hS', hgr, ⟨L, hQ, l1, y1, z1, hC1⟩, st'⟩ := X.virtualBackS hx (y := y) (z := z) hown (mvT hZ wl) (mvT hZ wd) hnf (mvT hZ wsel) (mvT hZ wi) hy (backOfSH (W := W) hM hZ wc wz hf hl hEL hC0.1) qa qc (g := mkF m pc Ls st) rfl hsize (Steps.refl _) hlen hst (by show 2 * 0 + _ ≤ W; omega) hd (fun _ _ => ⟨has, eT, hc, hs⟩)
  dsimp only [Pt.U, Pt.locs, Pt.cells, Pt.slots] at X' hS' hgr l1 y1 z1 st' hQ hC1
  subst l1 y1 z1
  obtain ⟨X2, S2, hZ2, hown2⟩ := rebS hS0 hk0 X' hS' (by rw [← eT]; exact hgr) hZ hown
  exact Go.of (fun _ k => st'.trans k) (q _ v T' _ L X2 rfl ⟨_, _, rfl, S2, Nat.le_refl _, hC0.trans hC1⟩ hZ2 hown2 hC1 hQ)
end OwnKit

theorem i2b2 (c : Int32) : (c.toInt8.toInt32).toInt8.toInt32 = c.toInt8.toInt32 := by
  rw [← Int32.toInt_inj]
  have h1 := c_i2b c
  have h2 := c_i2b c.toInt8.toInt32
  omega
theorem b2c {c : Int32} (h0 : ¬ c < 0) (h1 : ¬ (255 : Int32) < c) : ((c.toInt8.toInt32 &&& 255).toUInt32.toUInt16.toUInt32.toInt32) = c := by
  have e0 : (0 : Int32).toInt = 0 := rfl
  have e1 : (255 : Int32).toInt = 255 := rfl
  rw [Int32.lt_iff_toInt_lt, e0] at h0
  rw [Int32.lt_iff_toInt_lt, e1] at h1
  rw [i2c_mask, ← Int32.toInt_inj, c_mask c.toInt8.toInt32 255 8 (by decide) (by decide)]
  have h2 := c_i2b c
  omega
theorem b_inj {c d : Int32} (h0 : ¬ c < 0) (h1 : ¬ (255 : Int32) < c) (g0 : ¬ d < 0) (g1 : ¬ (255 : Int32) < d) (h : c.toInt8.toInt32 = d.toInt8.toInt32) : c = d := by rw [← b2c h0 h1, h, b2c g0 g1]
theorem o_same {Z : State} {h : Heap} {a b d1 d2 : Addr} {C n d : String} {k1 k2 : ClassId} {ty : FieldType} {z1 z2 : Int32} {vs1 vs2 : List Value} {dv : Value} (e : a = b) (F1 : Fld Z h a C n d (.ref d1)) (F2 : Fld Z h b C n d (.ref d2)) (V1 : Arv Z h d1 k1 ty z1 vs1 dv) (V2 : Arv Z h d2 k2 ty z2 vs2 dv) (l1 : z1.toNatClampNeg = vs1.length) (l2 : z2.toNatClampNeg = vs2.length) : vs1 = vs2 := by
  have ed : d1 = d2 := Decidable.byContradiction fun q => Fld.ne F1 F2 (fun r => q (Value.ref.inj r)) e
  subst ed
  obtain ⟨c1, A1, -, S1, -, H1, -⟩ := V1
  obtain ⟨c2, A2, -, S2, -, H2, -⟩ := V2
  cases A1.1.symm.trans A2.1
  refine List.ext_getElem (by omega) fun i h1 h2 => ?_
  have g1 := H1 i (by omega)
  have g2 := H2 i (by omega)
  rw [g1] at g2
  have g3 := Option.some.inj g2
  simpa [List.getD_eq_getElem?_getD, h1, h2] using g3
abbrev IsolationLevelSta (Z : State) (n : String) (w : Addr) : Prop := Sta Z Z.heap "com/example/isolation_anomaly_finder/isolationanomalyfinder/IsolationLevel" n "Lcom/example/isolation_anomaly_finder/isolationanomalyfinder/IsolationLevel;" (.ref w)
abbrev IsolationLevelExa (Z : State) (w : Addr) : Prop := Exa Z Z.heap w "com/example/isolation_anomaly_finder/isolationanomalyfinder/IsolationLevel"
def K (i : Int32) (a b c d : Addr) : Addr := if i = 0 then a else if i = 1 then b else if i = 2 then c else d
theorem c_small (x : Int32) : ¬ (255 : Int32) < nar .char ((x &&& 255).toUInt32.toUInt16.toUInt32.toInt32) := by
  rw [i2c_mask]
  show ¬ (255 : Int32) < (x &&& 255).toUInt32.toUInt16.toUInt32.toInt32
  rw [i2c_mask, Int32.lt_iff_toInt_lt, c_mask x 255 8 (by decide) (by decide)]
  have e1 : (255 : Int32).toInt = 255 := rfl
  omega
theorem o_pn_java_lang_Record : plainName "java/lang/Record" = true := by first | (simp [plainName, overriddenIn]; done) | decide +kernel
theorem o_d10_0 : decode jdk_30_method_1_code 0 = .ok (.aload_n 0, 1) := by decide +kernel
theorem o_d10_1 : decode jdk_30_method_1_code 1 = .ok (.invokespecial 1, 3) := by decide +kernel
theorem o_d10_4 : decode jdk_30_method_1_code 4 = .ok (.return_, 1) := by decide +kernel
set_option maxRecDepth 65536 in
set_option maxHeartbeats 40000000 in
theorem rmRec (l : Launch) (Z : State) (a0 : Array Value) (hw : ∀ d ∈ tables_1, d.before a0 Z = true) (ws : List Jvm.Cond) (a1 : Addr) (h0 : Heap) (n0 : Nat) (O0 : Old Z n0 h0) :
    Ct l Z (⟨"java/lang/Record", "<init>", "()V"⟩ : MethodName) jdk_30_method_1_code 1 none ({ frames := 1, cells := 0, slots := 0, locals := 12 } : Room) ws #[(.ref a1)] h0 (fun v h L => v = none ∧ Fr n0 L ∧ h0 = h) := by
  refine o_body (plainFor_of_name o_pn_java_lang_Record) ?_
  intro p e s m below meth c s₁ X0 hx hby hml hret hlk hown hnm hZ e0
  have N0 := Fr.nil n0
  refine o_top (g' := (mkF m 0 #[.val (.ref a1)] [])) (by first | (simp [entryFrame, mkF, argsToLocals, Value.category]; done) | rfl) ?_
  refine o_aloadN (v := (.ref a1)) (pc := 0) X0 hx (hb hby o_d10_0) rfl rfl ?_
  refine o_initO (pc := 1) X0 hx hZ hown (hw _ (List.mem_of_getElem? (i := 51) rfl)) (hw _ (List.mem_of_getElem? (i := 25) rfl)) (hw _ (List.mem_of_getElem? (i := 26) rfl)) e0 (by rw [hml]; rfl) (hb hby o_d10_1) (by decide) (W := 0) (Nat.le_of_ble_eq_true rfl) (by decide) fun T1 X1 e1 => ?_
  exact o_ret0 (pc := 4) X1 hx hret hlk (hb hby o_d10_4) e1 (by decide) (by decide) ⟨rfl, N0, rfl⟩
theorem o_pn_com_example_isolation_anomaly_finder_isolationanomalyfinder_FindingVerdictPinLaw : plainName "com/example/isolation_anomaly_finder/isolationanomalyfinder/FindingVerdictPinLaw" = true := by first | (simp [plainName, overriddenIn]; done) | decide +kernel
theorem o_d1_0 : decode method_2_code 0 = .ok (.iload_n 0, 1) := by decide +kernel
theorem o_d1_1 : decode method_2_code 1 = .ok (.ifCond .ne 7, 3) := by decide +kernel
theorem o_d1_4 : decode method_2_code 4 = .ok (.getstatic 7, 3) := by decide +kernel
theorem o_d1_7 : decode method_2_code 7 = .ok (.areturn, 1) := by decide +kernel
theorem o_d1_8 : decode method_2_code 8 = .ok (.iload_n 0, 1) := by decide +kernel
theorem o_d1_9 : decode method_2_code 9 = .ok (.iconst 1, 1) := by decide +kernel
theorem o_d1_10 : decode method_2_code 10 = .ok (.if_icmp .ne 7, 3) := by decide +kernel
theorem o_d1_13 : decode method_2_code 13 = .ok (.getstatic 13, 3) := by decide +kernel
theorem o_d1_16 : decode method_2_code 16 = .ok (.areturn, 1) := by decide +kernel
theorem o_d1_17 : decode method_2_code 17 = .ok (.iload_n 0, 1) := by decide +kernel
theorem o_d1_18 : decode method_2_code 18 = .ok (.iconst 2, 1) := by decide +kernel
theorem o_d1_19 : decode method_2_code 19 = .ok (.if_icmp .ne 7, 3) := by decide +kernel
theorem o_d1_22 : decode method_2_code 22 = .ok (.getstatic 16, 3) := by decide +kernel
theorem o_d1_25 : decode method_2_code 25 = .ok (.areturn, 1) := by decide +kernel
theorem o_d1_26 : decode method_2_code 26 = .ok (.getstatic 19, 3) := by decide +kernel
theorem o_d1_29 : decode method_2_code 29 = .ok (.areturn, 1) := by decide +kernel
set_option maxRecDepth 65536 in
set_option maxHeartbeats 40000000 in
theorem rm1 (l : Launch) (Z : State) (a0 : Array Value) (hw : ∀ d ∈ tables_1, d.before a0 Z = true) (ws : List Jvm.Cond) (p1 : Int32) (w_READ_UNCOMMITTED w_READ_COMMITTED w_REPEATABLE_READ w_SERIALIZABLE : Addr) (h0 : Heap) (n0 : Nat) (O0 : Old Z n0 h0) (S_READ_UNCOMMITTED : IsolationLevelSta Z "READ_UNCOMMITTED" w_READ_UNCOMMITTED) (S_READ_COMMITTED : IsolationLevelSta Z "READ_COMMITTED" w_READ_COMMITTED) (S_REPEATABLE_READ : IsolationLevelSta Z "REPEATABLE_READ" w_REPEATABLE_READ) (S_SERIALIZABLE : IsolationLevelSta Z "SERIALIZABLE" w_SERIALIZABLE) :
    Ct l Z (⟨"com/example/isolation_anomaly_finder/isolationanomalyfinder/FindingVerdictPinLaw", "level", "(I)Lcom/example/isolation_anomaly_finder/isolationanomalyfinder/IsolationLevel;"⟩ : MethodName) method_2_code 1 (some (.object "com/example/isolation_anomaly_finder/isolationanomalyfinder/IsolationLevel")) ({ frames := 0, cells := 0, slots := 0, locals := 0 } : Room) ws #[(.int p1)] h0 (fun v h L => v = some (.ref (K p1 w_READ_UNCOMMITTED w_READ_COMMITTED w_REPEATABLE_READ w_SERIALIZABLE)) ∧ Fr n0 L ∧ h0 = h) := by
  refine o_body (plainFor_of_name o_pn_com_example_isolation_anomaly_finder_isolationanomalyfinder_FindingVerdictPinLaw) ?_
  intro p e s m below meth c s₁ X0 hx hby hml hret hlk hown hnm hZ e0
  have N0 := Fr.nil n0
  refine o_top (g' := (mkF m 0 #[.val (.int p1)] [])) (by first | (simp [entryFrame, mkF, argsToLocals, Value.category]; done) | rfl) ?_
  refine o_iloadN (v := p1) (pc := 0) X0 hx (hb hby o_d1_0) rfl ?_
  by_cases hc2 : p1 = (0 : Int32)
  · skip
    refine o_ifNo (pc := 1) X0 hx (hb hby o_d1_1) ((if0 _ _).trans (teq hc2).2) ?_
    refine o_getS (pc := 4) X0 hx hZ hown (host := "") (Or.inl (hw _ (List.mem_of_getElem? (i := 82) rfl))) Via.refl e0 (S_READ_UNCOMMITTED.ext O0.2) (hb hby o_d1_4) fun T3 X3 e3 => ?_
    exact o_retA (pc := 7) X3 hx hret hlk rfl rfl (hb hby o_d1_7) e3 (by decide) (by decide) ⟨by simp [K, hc2], N0, rfl⟩
  · skip
    refine o_ifYes (pc := 1) X0 hx 8 (hb hby o_d1_1) ((if0 _ _).trans (feq hc2).2) (by decide) (by decide) ?_
    refine o_iloadN (v := p1) (pc := 8) X0 hx (hb hby o_d1_8) rfl ?_
    refine o_iconst (pc := 9) X0 hx (1 : Int32) (hb hby o_d1_9) rfl ?_
    by_cases hc4 : p1 = (1 : Int32)
    · skip
      refine o_icmpNo (pc := 10) X0 hx (hb hby o_d1_10) (teq hc4).2 ?_
      refine o_getS (pc := 13) X0 hx hZ hown (host := "") (Or.inl (hw _ (List.mem_of_getElem? (i := 87) rfl))) Via.refl e0 (S_READ_COMMITTED.ext O0.2) (hb hby o_d1_13) fun T5 X5 e5 => ?_
      exact o_retA (pc := 16) X5 hx hret hlk rfl rfl (hb hby o_d1_16) e5 (by decide) (by decide) ⟨by simp [K, hc2, hc4], N0, rfl⟩
    · skip
      refine o_icmpYes (pc := 10) X0 hx 17 (hb hby o_d1_10) (feq hc4).2 (by decide) (by decide) ?_
      refine o_iloadN (v := p1) (pc := 17) X0 hx (hb hby o_d1_17) rfl ?_
      refine o_iconst (pc := 18) X0 hx (2 : Int32) (hb hby o_d1_18) rfl ?_
      by_cases hc6 : p1 = (2 : Int32)
      · skip
        refine o_icmpNo (pc := 19) X0 hx (hb hby o_d1_19) (teq hc6).2 ?_
        refine o_getS (pc := 22) X0 hx hZ hown (host := "") (Or.inl (hw _ (List.mem_of_getElem? (i := 85) rfl))) Via.refl e0 (S_REPEATABLE_READ.ext O0.2) (hb hby o_d1_22) fun T7 X7 e7 => ?_
        exact o_retA (pc := 25) X7 hx hret hlk rfl rfl (hb hby o_d1_25) e7 (by decide) (by decide) ⟨by simp [K, hc2, hc4, hc6], N0, rfl⟩
      · skip
        refine o_icmpYes (pc := 19) X0 hx 26 (hb hby o_d1_19) (feq hc6).2 (by decide) (by decide) ?_
        refine o_getS (pc := 26) X0 hx hZ hown (host := "") (Or.inl (hw _ (List.mem_of_getElem? (i := 7) rfl))) Via.refl e0 (S_SERIALIZABLE.ext O0.2) (hb hby o_d1_26) fun T8 X8 e8 => ?_
        exact o_retA (pc := 29) X8 hx hret hlk rfl rfl (hb hby o_d1_29) e8 (by decide) (by decide) ⟨by simp [K, hc2, hc4, hc6], N0, rfl⟩
theorem o_pn_java_lang_StringUTF16 : plainName "java/lang/StringUTF16" = true := by first | (simp [plainName, overriddenIn]; done) | decide +kernel
theorem o_d7_0 : decode jdk_52_method_21_code 0 = .ok (.iconst 0, 1) := by decide +kernel
theorem o_d7_1 : decode jdk_52_method_21_code 1 = .ok (.istore 5, 2) := by decide +kernel
theorem o_d7_3 : decode jdk_52_method_21_code 3 = .ok (.iload 5, 2) := by decide +kernel
theorem o_d7_5 : decode jdk_52_method_21_code 5 = .ok (.iload 4, 2) := by decide +kernel
theorem o_d7_7 : decode jdk_52_method_21_code 7 = .ok (.if_icmp .ge 37, 3) := by decide +kernel
theorem o_d7_10 : decode jdk_52_method_21_code 10 = .ok (.aload_n 0, 1) := by decide +kernel
theorem o_d7_11 : decode jdk_52_method_21_code 11 = .ok (.iload_n 1, 1) := by decide +kernel
theorem o_d7_12 : decode jdk_52_method_21_code 12 = .ok (.caload, 1) := by decide +kernel
theorem o_d7_13 : decode jdk_52_method_21_code 13 = .ok (.istore 6, 2) := by decide +kernel
theorem o_d7_15 : decode jdk_52_method_21_code 15 = .ok (.iload 6, 2) := by decide +kernel
theorem o_d7_17 : decode jdk_52_method_21_code 17 = .ok (.sipush 255, 3) := by decide +kernel
theorem o_d7_20 : decode jdk_52_method_21_code 20 = .ok (.if_icmp .le 6, 3) := by decide +kernel
theorem o_d7_26 : decode jdk_52_method_21_code 26 = .ok (.aload_n 2, 1) := by decide +kernel
theorem o_d7_27 : decode jdk_52_method_21_code 27 = .ok (.iload_n 3, 1) := by decide +kernel
theorem o_d7_28 : decode jdk_52_method_21_code 28 = .ok (.iload 6, 2) := by decide +kernel
theorem o_d7_30 : decode jdk_52_method_21_code 30 = .ok (.i2b, 1) := by decide +kernel
theorem o_d7_31 : decode jdk_52_method_21_code 31 = .ok (.bastore, 1) := by decide +kernel
theorem o_d7_32 : decode jdk_52_method_21_code 32 = .ok (.iinc 1 1, 3) := by decide +kernel
theorem o_d7_35 : decode jdk_52_method_21_code 35 = .ok (.iinc 3 1, 3) := by decide +kernel
theorem o_d7_38 : decode jdk_52_method_21_code 38 = .ok (.iinc 5 1, 3) := by decide +kernel
theorem o_d7_41 : decode jdk_52_method_21_code 41 = .ok (.goto (-38), 3) := by decide +kernel
theorem o_d7_44 : decode jdk_52_method_21_code 44 = .ok (.iload 4, 2) := by decide +kernel
theorem o_d7_46 : decode jdk_52_method_21_code 46 = .ok (.ireturn, 1) := by decide +kernel
set_option maxRecDepth 65536 in
set_option maxHeartbeats 40000000 in
theorem rmCI_2 (l : Launch) (Z : State) (a0 : Array Value) (hw : ∀ d ∈ tables_1, d.before a0 Z = true) (ws : List Jvm.Cond) (a1 a2 : Addr) (k1 k2 : ClassId) (c1 c2 : Int32) (h0 : Heap) (n0 : Nat) (O0 : Old Z n0 h0) (VA : Arv Z h0 a1 k1 .char (2 : Int32) [(.int c1), (.int c2)] (.int (0 : Int32))) (VB : Arv Z h0 a2 k2 .byte (2 : Int32) [(.int (0 : Int32)), (.int (0 : Int32))] (.int (0 : Int32))) (hne : a1 ≠ a2) (g2 : n0 ≤ a2) (hp1 : ¬ (255 : Int32) < c1) (hp2 : ¬ (255 : Int32) < c2) :
    Ct l Z (⟨"java/lang/StringUTF16", "compress", "([CI[BII)I"⟩ : MethodName) jdk_52_method_21_code 7 (some .int) ({ frames := 0, cells := 0, slots := 0, locals := 0 } : Room) ws #[(.ref a1), (.int (0 : Int32)), (.ref a2), (.int (0 : Int32)), (.int (2 : Int32))] h0 (fun v h L => v = some (.int (2 : Int32)) ∧ Fr n0 L ∧ Keep h0 h [a2] ∧ Arv Z h a2 k2 .byte (2 : Int32) [(.int (c1.toInt8.toInt32)), (.int (c2.toInt8.toInt32))] (.int (0 : Int32))) := by
  refine o_body (plainFor_of_name o_pn_java_lang_StringUTF16) ?_
  intro p e s m below meth c s₁ X0 hx hby hml hret hlk hown hnm hZ e0
  have N0 := Fr.nil n0
  refine o_top (g' := (mkF m 0 #[.val (.ref a1), .val (.int (0 : Int32)), .val (.ref a2), .val (.int (0 : Int32)), .val (.int (2 : Int32)), .unset, .unset] [])) (by first | (simp [entryFrame, mkF, argsToLocals, Value.category]; done) | rfl) ?_
  refine o_iconst (pc := 0) X0 hx (0 : Int32) (hb hby o_d7_0) rfl ?_
  refine o_istore (l' := #[.val (.ref a1), .val (.int (0 : Int32)), .val (.ref a2), .val (.int (0 : Int32)), .val (.int (2 : Int32)), .val (.int (0 : Int32)), .unset]) (pc := 1) X0 hx (hb hby o_d7_1) rfl ?_
  refine o_iload (v := (0 : Int32)) (pc := 3) X0 hx (hb hby o_d7_3) rfl ?_
  refine o_iload (v := (2 : Int32)) (pc := 5) X0 hx (hb hby o_d7_5) rfl ?_
  refine o_icmpNo (pc := 7) X0 hx (hb hby o_d7_7) (tlt (by decide : (0 : Int32) < (2 : Int32))).2.1 ?_
  refine o_aloadN (v := (.ref a1)) (pc := 10) X0 hx (hb hby o_d7_10) rfl rfl ?_
  refine o_iloadN (v := (0 : Int32)) (pc := 11) X0 hx (hb hby o_d7_11) rfl ?_
  refine o_caload (v := (.int c1)) (pc := 12) X0 hx hZ e0 VA ⟨by decide, by decide⟩ rfl (hb hby o_d7_12) ?_
  refine o_istore (l' := #[.val (.ref a1), .val (.int (0 : Int32)), .val (.ref a2), .val (.int (0 : Int32)), .val (.int (2 : Int32)), .val (.int (0 : Int32)), .val (.int c1)]) (pc := 13) X0 hx (hb hby o_d7_13) rfl ?_
  refine o_iload (v := c1) (pc := 15) X0 hx (hb hby o_d7_15) rfl ?_
  refine o_sipush (pc := 17) X0 hx (255 : Int32) (hb hby o_d7_17) rfl ?_
  refine o_icmpYes (pc := 20) X0 hx 26 (hb hby o_d7_20) (flt hp1).2.2.2 (by decide) (by decide) ?_
  refine o_aloadN (v := (.ref a2)) (pc := 26) X0 hx (hb hby o_d7_26) rfl rfl ?_
  refine o_iloadN (v := (0 : Int32)) (pc := 27) X0 hx (hb hby o_d7_27) rfl ?_
  refine o_iload (v := c1) (pc := 28) X0 hx (hb hby o_d7_28) rfl ?_
  refine o_i2b (pc := 30) X0 hx (hb hby o_d7_30) ?_
  refine o_bastore (pc := 31) X0 hx hZ e0 VB ⟨by decide, by decide⟩ 0 rfl (Nat.le_of_ble_eq_true rfl) (hb hby o_d7_31) fun T9 h9 X9 e9 W9 V9 => ?_
  rw [i2b2] at V9
  have N9 := Fr.snoc X9 N0 g2
  have O10 := O0.wr W9 g2
  have K10 : Keep h0 h9 [a2] := (Keep.refl h0 [a2]).wr W9 (Or.inl (List.mem_of_getElem? (i := 0) rfl))
  refine o_iinc (x := (0 : Int32)) (l' := #[.val (.ref a1), .val (.int ((0 : Int32) + (1 : Int32))), .val (.ref a2), .val (.int (0 : Int32)), .val (.int (2 : Int32)), .val (.int (0 : Int32)), .val (.int c1)]) (pc := 32) X9 hx (1 : Int32) (hb hby o_d7_32) rfl rfl rfl ?_
  rw [show ((0 : Int32) + (1 : Int32)) = (1 : Int32) from rfl]
  refine o_iinc (x := (0 : Int32)) (l' := #[.val (.ref a1), .val (.int (1 : Int32)), .val (.ref a2), .val (.int ((0 : Int32) + (1 : Int32))), .val (.int (2 : Int32)), .val (.int (0 : Int32)), .val (.int c1)]) (pc := 35) X9 hx (1 : Int32) (hb hby o_d7_35) rfl rfl rfl ?_
  rw [show ((0 : Int32) + (1 : Int32)) = (1 : Int32) from rfl]
  refine o_iinc (x := (0 : Int32)) (l' := #[.val (.ref a1), .val (.int (1 : Int32)), .val (.ref a2), .val (.int (1 : Int32)), .val (.int (2 : Int32)), .val (.int ((0 : Int32) + (1 : Int32))), .val (.int c1)]) (pc := 38) X9 hx (1 : Int32) (hb hby o_d7_38) rfl rfl rfl ?_
  rw [show ((0 : Int32) + (1 : Int32)) = (1 : Int32) from rfl]
  refine o_goto (pc := 41) X9 hx 3 (hb hby o_d7_41) (by decide) (by decide) ?_
  refine o_iload (v := (1 : Int32)) (pc := 3) X9 hx (hb hby o_d7_3) rfl ?_
  refine o_iload (v := (2 : Int32)) (pc := 5) X9 hx (hb hby o_d7_5) rfl ?_
  refine o_icmpNo (pc := 7) X9 hx (hb hby o_d7_7) (tlt (by decide : (1 : Int32) < (2 : Int32))).2.1 ?_
  refine o_aloadN (v := (.ref a1)) (pc := 10) X9 hx (hb hby o_d7_10) rfl rfl ?_
  refine o_iloadN (v := (1 : Int32)) (pc := 11) X9 hx (hb hby o_d7_11) rfl ?_
  refine o_caload (v := (.int c2)) (pc := 12) X9 hx hZ e9 (VA.other W9 hne) ⟨by decide, by decide⟩ rfl (hb hby o_d7_12) ?_
  refine o_istore (l' := #[.val (.ref a1), .val (.int (1 : Int32)), .val (.ref a2), .val (.int (1 : Int32)), .val (.int (2 : Int32)), .val (.int (1 : Int32)), .val (.int c2)]) (pc := 13) X9 hx (hb hby o_d7_13) rfl ?_
  refine o_iload (v := c2) (pc := 15) X9 hx (hb hby o_d7_15) rfl ?_
  refine o_sipush (pc := 17) X9 hx (255 : Int32) (hb hby o_d7_17) rfl ?_
  refine o_icmpYes (pc := 20) X9 hx 26 (hb hby o_d7_20) (flt hp2).2.2.2 (by decide) (by decide) ?_
  refine o_aloadN (v := (.ref a2)) (pc := 26) X9 hx (hb hby o_d7_26) rfl rfl ?_
  refine o_iloadN (v := (1 : Int32)) (pc := 27) X9 hx (hb hby o_d7_27) rfl ?_
  refine o_iload (v := c2) (pc := 28) X9 hx (hb hby o_d7_28) rfl ?_
  refine o_i2b (pc := 30) X9 hx (hb hby o_d7_30) ?_
  refine o_bastore (pc := 31) X9 hx hZ e9 V9 ⟨by decide, by decide⟩ 1 rfl (Nat.le_of_ble_eq_true rfl) (hb hby o_d7_31) fun T11 h11 X11 e11 W11 V11 => ?_
  rw [i2b2] at V11
  have N11 := Fr.snoc X11 N9 g2
  have O12 := O10.wr W11 g2
  have K12 : Keep h0 h11 [a2] := K10.wr W11 (Or.inl (List.mem_of_getElem? (i := 0) rfl))
  refine o_iinc (x := (1 : Int32)) (l' := #[.val (.ref a1), .val (.int ((1 : Int32) + (1 : Int32))), .val (.ref a2), .val (.int (1 : Int32)), .val (.int (2 : Int32)), .val (.int (1 : Int32)), .val (.int c2)]) (pc := 32) X11 hx (1 : Int32) (hb hby o_d7_32) rfl rfl rfl ?_
  rw [show ((1 : Int32) + (1 : Int32)) = (2 : Int32) from rfl]
  refine o_iinc (x := (1 : Int32)) (l' := #[.val (.ref a1), .val (.int (2 : Int32)), .val (.ref a2), .val (.int ((1 : Int32) + (1 : Int32))), .val (.int (2 : Int32)), .val (.int (1 : Int32)), .val (.int c2)]) (pc := 35) X11 hx (1 : Int32) (hb hby o_d7_35) rfl rfl rfl ?_
  rw [show ((1 : Int32) + (1 : Int32)) = (2 : Int32) from rfl]
  refine o_iinc (x := (1 : Int32)) (l' := #[.val (.ref a1), .val (.int (2 : Int32)), .val (.ref a2), .val (.int (2 : Int32)), .val (.int (2 : Int32)), .val (.int ((1 : Int32) + (1 : Int32))), .val (.int c2)]) (pc := 38) X11 hx (1 : Int32) (hb hby o_d7_38) rfl rfl rfl ?_
  rw [show ((1 : Int32) + (1 : Int32)) = (2 : Int32) from rfl]
  refine o_goto (pc := 41) X11 hx 3 (hb hby o_d7_41) (by decide) (by decide) ?_
  refine o_iload (v := (2 : Int32)) (pc := 3) X11 hx (hb hby o_d7_3) rfl ?_
  refine o_iload (v := (2 : Int32)) (pc := 5) X11 hx (hb hby o_d7_5) rfl ?_
  refine o_icmpYes (pc := 7) X11 hx 44 (hb hby o_d7_7) (flt (by decide : ¬ ((2 : Int32) < (2 : Int32)))).2.1 (by decide) (by decide) ?_
  refine o_iload (v := (2 : Int32)) (pc := 44) X11 hx (hb hby o_d7_44) rfl ?_
  exact o_retI (pc := 46) X11 hx hret hlk (hb hby o_d7_46) e11 (by decide) (by decide) ⟨rfl, N11, K12, V11⟩
theorem o_d6_0 : decode jdk_52_method_16_code 0 = .ok (.iload_n 2, 1) := by decide +kernel
theorem o_d6_1 : decode jdk_52_method_16_code 1 = .ok (.newarray .byte, 2) := by decide +kernel
theorem o_d6_3 : decode jdk_52_method_16_code 3 = .ok (.astore_n 3, 1) := by decide +kernel
theorem o_d6_4 : decode jdk_52_method_16_code 4 = .ok (.aload_n 0, 1) := by decide +kernel
theorem o_d6_5 : decode jdk_52_method_16_code 5 = .ok (.iload_n 1, 1) := by decide +kernel
theorem o_d6_6 : decode jdk_52_method_16_code 6 = .ok (.aload_n 3, 1) := by decide +kernel
theorem o_d6_7 : decode jdk_52_method_16_code 7 = .ok (.iconst 0, 1) := by decide +kernel
theorem o_d6_8 : decode jdk_52_method_16_code 8 = .ok (.iload_n 2, 1) := by decide +kernel
theorem o_d6_9 : decode jdk_52_method_16_code 9 = .ok (.invokestatic 115, 3) := by decide +kernel
theorem o_pd0 : parseMethodDescriptor "([CI[BII)I" = some ⟨[(.array .char), .int, (.array .byte), .int, .int], some .int⟩ := by decide +kernel
theorem o_d6_12 : decode jdk_52_method_16_code 12 = .ok (.istore 4, 2) := by decide +kernel
theorem o_d6_14 : decode jdk_52_method_16_code 14 = .ok (.iload 4, 2) := by decide +kernel
theorem o_d6_16 : decode jdk_52_method_16_code 16 = .ok (.iload_n 2, 1) := by decide +kernel
theorem o_d6_17 : decode jdk_52_method_16_code 17 = .ok (.if_icmp .eq 40, 3) := by decide +kernel
theorem o_d6_57 : decode jdk_52_method_16_code 57 = .ok (.aload_n 3, 1) := by decide +kernel
theorem o_d6_58 : decode jdk_52_method_16_code 58 = .ok (.areturn, 1) := by decide +kernel
set_option maxRecDepth 65536 in
set_option maxHeartbeats 40000000 in
theorem rmCC_2 (l : Launch) (Z : State) (a0 : Array Value) (hw : ∀ d ∈ tables_1, d.before a0 Z = true) (ws : List Jvm.Cond) (a1 : Addr) (k1 : ClassId) (c1 c2 : Int32) (h0 : Heap) (n0 : Nat) (O0 : Old Z n0 h0) (VA : Arv Z h0 a1 k1 .char (2 : Int32) [(.int c1), (.int c2)] (.int (0 : Int32))) (hp1 : ¬ (255 : Int32) < c1) (hp2 : ¬ (255 : Int32) < c2) :
    Ct l Z (⟨"java/lang/StringUTF16", "compress", "([CII)[B"⟩ : MethodName) jdk_52_method_16_code 6 (some (.array .byte)) ({ frames := 1, cells := 1, slots := 2, locals := 18 } : Room) ws #[(.ref a1), (.int (0 : Int32)), (.int (2 : Int32))] h0 (fun v h L => ∃ d kd, v = some (.ref d) ∧ h0.size ≤ d ∧ Fr n0 L ∧ Ext h0 h ∧ Arv Z h d kd .byte (2 : Int32) [(.int (c1.toInt8.toInt32)), (.int (c2.toInt8.toInt32))] (.int (0 : Int32))) := by
  refine o_body (plainFor_of_name o_pn_java_lang_StringUTF16) ?_
  intro p e s m below meth c s₁ X0 hx hby hml hret hlk hown hnm hZ e0
  have N0 := Fr.nil n0
  refine o_top (g' := (mkF m 0 #[.val (.ref a1), .val (.int (0 : Int32)), .val (.int (2 : Int32)), .unset, .unset, .unset] [])) (by first | (simp [entryFrame, mkF, argsToLocals, Value.category]; done) | rfl) ?_
  refine o_iloadN (v := (2 : Int32)) (pc := 0) X0 hx (hb hby o_d6_0) rfl ?_
  refine o_newP (pc := 1) X0 hx hZ (hw _ (List.mem_of_getElem? (i := 32) rfl)) e0 (hb hby o_d6_1) (by decide) 2 (by decide) (by decide) (by decide) (by decide) fun T13 h13 b13 k13 X13 e13 g13 E13 V13 => ?_
  have O14 := O0.ext E13
  have K14 : Keep h0 h13 [] := (Keep.refl h0 []).ext E13
  have V13p : Arv Z h13 b13 k13 .byte (2 : Int32) [(.int (0 : Int32)), (.int (0 : Int32))] (.int (0 : Int32)) := V13.pad (pad_rep [] (.int (0 : Int32)) 2)
  refine o_astoreN (l' := #[.val (.ref a1), .val (.int (0 : Int32)), .val (.int (2 : Int32)), .val (.ref b13), .unset, .unset]) (pc := 3) X13 hx (hb hby o_d6_3) rfl rfl ?_
  refine o_aloadN (v := (.ref a1)) (pc := 4) X13 hx (hb hby o_d6_4) rfl rfl ?_
  refine o_iloadN (v := (0 : Int32)) (pc := 5) X13 hx (hb hby o_d6_5) rfl ?_
  refine o_aloadN (v := (.ref b13)) (pc := 6) X13 hx (hb hby o_d6_6) rfl rfl ?_
  refine o_iconst (pc := 7) X13 hx (0 : Int32) (hb hby o_d6_7) rfl ?_
  refine o_iloadN (v := (2 : Int32)) (pc := 8) X13 hx (hb hby o_d6_8) rfl ?_
  refine o_callS (pc := 9) X13 hx hZ (y := (⟨"java/lang/StringUTF16", "compress", "([CI[BII)I"⟩ : MethodName)) (argsL := [(.ref a1), (.int (0 : Int32)), (.ref b13), (.int (0 : Int32)), (.int (2 : Int32))]) (rest := []) hown (hw _ (List.mem_of_getElem? (i := 33) rfl)) (hw _ (List.mem_of_getElem? (i := 34) rfl)) (hw _ (List.mem_of_getElem? (i := 30) rfl)) (hw _ (List.mem_of_getElem? (i := 35) rfl)) (by decide) (rmCI_2 l Z a0 hw [] a1 b13 k1 k13 c1 c2 h13 n0 O14 (VA.ext E13) V13p (Nat.ne_of_lt (Nat.lt_of_lt_of_le VA.lt g13)) (Nat.le_trans (o_n0 O0) g13) hp1 hp2) e13 (by rw [hml]; rfl) (lenOf o_pd0 rfl) (has := rfl) (hst := rfl) (W := 0) (Nat.le_of_ble_eq_true rfl) (hb hby o_d6_9) (by decide) (by decide) (by decide) (by decide) fun v15 T15 h15 L15 X15 e15 q15 => ?_
  obtain ⟨rfl, N15q, K15, V15⟩ := q15
  have N15 := Fr.app N0 N15q
  have O16 := O14.keep K15 (allS (Nat.le_trans (o_n0 O0) g13) all0)
  have K16 : Keep h0 h15 [] := K14.trans K15 (allS (Or.inr (Nat.le_trans (Keep.refl h0 []).1 g13)) all0)
  show Go p e below T15 (mkF m 12 #[.val (.ref a1), .val (.int (0 : Int32)), .val (.int (2 : Int32)), .val (.ref b13), .unset, .unset] [(.int (2 : Int32))]) _
  refine o_istore (l' := #[.val (.ref a1), .val (.int (0 : Int32)), .val (.int (2 : Int32)), .val (.ref b13), .val (.int (2 : Int32)), .unset]) (pc := 12) X15 hx (hb hby o_d6_12) rfl ?_
  refine o_iload (v := (2 : Int32)) (pc := 14) X15 hx (hb hby o_d6_14) rfl ?_
  refine o_iloadN (v := (2 : Int32)) (pc := 16) X15 hx (hb hby o_d6_16) rfl ?_
  refine o_icmpYes (pc := 17) X15 hx 57 (hb hby o_d6_17) (teq (by decide : (2 : Int32) = (2 : Int32))).1 (by decide) (by decide) ?_
  refine o_aloadN (v := (.ref b13)) (pc := 57) X15 hx (hb hby o_d6_57) rfl rfl ?_
  exact o_retA (pc := 58) X15 hx hret hlk rfl rfl (hb hby o_d6_58) e15 (by decide) (by decide) ⟨b13, k13, rfl, (Nat.le_trans (Keep.refl h0 []).1 g13), N15, o_keep0 K16, V15⟩
theorem o_d8_0 : decode jdk_52_method_15_code 0 = .ok (.iload_n 1, 1) := by decide +kernel
theorem o_d8_1 : decode jdk_52_method_15_code 1 = .ok (.aload_n 0, 1) := by decide +kernel
theorem o_d8_2 : decode jdk_52_method_15_code 2 = .ok (.arraylength, 1) := by decide +kernel
theorem o_d8_3 : decode jdk_52_method_15_code 3 = .ok (.isub, 1) := by decide +kernel
theorem o_d8_4 : decode jdk_52_method_15_code 4 = .ok (.bipush 31, 2) := by decide +kernel
theorem o_d8_6 : decode jdk_52_method_15_code 6 = .ok (.iushr, 1) := by decide +kernel
theorem o_d8_7 : decode jdk_52_method_15_code 7 = .ok (.i2b, 1) := by decide +kernel
theorem o_d8_8 : decode jdk_52_method_15_code 8 = .ok (.ireturn, 1) := by decide +kernel
set_option maxRecDepth 65536 in
set_option maxHeartbeats 40000000 in
theorem rmCod (l : Launch) (Z : State) (a0 : Array Value) (hw : ∀ d ∈ tables_1, d.before a0 Z = true) (ws : List Jvm.Cond) (a1 : Addr) (k1 : ClassId) (z : Int32) (vs : List Value) (h0 : Heap) (n0 : Nat) (O0 : Old Z n0 h0) (VA : Arv Z h0 a1 k1 .byte z vs (.int (0 : Int32))) :
    Ct l Z (⟨"java/lang/StringUTF16", "coderFromArrayLen", "([BI)B"⟩ : MethodName) jdk_52_method_15_code 2 (some .byte) ({ frames := 0, cells := 0, slots := 0, locals := 0 } : Room) ws #[(.ref a1), (.int z)] h0 (fun v h L => v = some (.int (0 : Int32)) ∧ Fr n0 L ∧ h0 = h) := by
  refine o_body (plainFor_of_name o_pn_java_lang_StringUTF16) ?_
  intro p e s m below meth c s₁ X0 hx hby hml hret hlk hown hnm hZ e0
  have N0 := Fr.nil n0
  refine o_top (g' := (mkF m 0 #[.val (.ref a1), .val (.int z)] [])) (by first | (simp [entryFrame, mkF, argsToLocals, Value.category]; done) | rfl) ?_
  refine o_iloadN (v := z) (pc := 0) X0 hx (hb hby o_d8_0) rfl ?_
  refine o_aloadN (v := (.ref a1)) (pc := 1) X0 hx (hb hby o_d8_1) rfl rfl ?_
  refine o_arraylength (pc := 2) X0 hx hZ e0 VA (hb hby o_d8_2) ?_
  refine o_isub (pc := 3) X0 hx (hb hby o_d8_3) ?_
  refine o_bipush (pc := 4) X0 hx (31 : Int32) (hb hby o_d8_4) rfl ?_
  refine o_iushr (pc := 6) X0 hx (hb hby o_d8_6) ?_
  refine o_i2b (pc := 7) X0 hx (hb hby o_d8_7) ?_
  exact o_retN (pc := 8) X0 hx .byte hret hlk (by simp) (hb hby o_d8_8) e0 (by decide) (by decide) ⟨by rw [show z - z = 0 from Int32.sub_self z]; rfl, N0, rfl⟩
theorem o_pn_java_lang_String : plainName "java/lang/String" = true := by first | (simp [plainName, overriddenIn]; done) | decide +kernel
theorem o_d4_0 : decode jdk_42_method_149_code 0 = .ok (.aload_n 0, 1) := by decide +kernel
theorem o_d4_1 : decode jdk_42_method_149_code 1 = .ok (.invokespecial 1, 3) := by decide +kernel
theorem o_d4_4 : decode jdk_42_method_149_code 4 = .ok (.iload_n 3, 1) := by decide +kernel
theorem o_d4_5 : decode jdk_42_method_149_code 5 = .ok (.ifCond .ne 22, 3) := by decide +kernel
theorem o_d4_27 : decode jdk_42_method_149_code 27 = .ok (.getstatic 38, 3) := by decide +kernel
theorem o_d4_30 : decode jdk_42_method_149_code 30 = .ok (.ifCond .eq 28, 3) := by decide +kernel
theorem o_d4_33 : decode jdk_42_method_149_code 33 = .ok (.aload_n 1, 1) := by decide +kernel
theorem o_d4_34 : decode jdk_42_method_149_code 34 = .ok (.iload_n 2, 1) := by decide +kernel
theorem o_d4_35 : decode jdk_42_method_149_code 35 = .ok (.iload_n 3, 1) := by decide +kernel
theorem o_d4_36 : decode jdk_42_method_149_code 36 = .ok (.invokestatic 177, 3) := by decide +kernel
theorem o_pd1 : parseMethodDescriptor "([CII)[B" = some ⟨[(.array .char), .int, .int], some (.array .byte)⟩ := by decide +kernel
theorem o_d4_39 : decode jdk_42_method_149_code 39 = .ok (.astore 5, 2) := by decide +kernel
theorem o_d4_41 : decode jdk_42_method_149_code 41 = .ok (.aload_n 0, 1) := by decide +kernel
theorem o_d4_42 : decode jdk_42_method_149_code 42 = .ok (.aload 5, 2) := by decide +kernel
theorem o_d4_44 : decode jdk_42_method_149_code 44 = .ok (.iload_n 3, 1) := by decide +kernel
theorem o_d4_45 : decode jdk_42_method_149_code 45 = .ok (.invokestatic 47, 3) := by decide +kernel
theorem o_pd2 : parseMethodDescriptor "([BI)B" = some ⟨[(.array .byte), .int], some .byte⟩ := by decide +kernel
theorem o_d4_48 : decode jdk_42_method_149_code 48 = .ok (.putfield 15, 3) := by decide +kernel
theorem o_d4_51 : decode jdk_42_method_149_code 51 = .ok (.aload_n 0, 1) := by decide +kernel
theorem o_d4_52 : decode jdk_42_method_149_code 52 = .ok (.aload 5, 2) := by decide +kernel
theorem o_d4_54 : decode jdk_42_method_149_code 54 = .ok (.putfield 9, 3) := by decide +kernel
theorem o_d4_57 : decode jdk_42_method_149_code 57 = .ok (.return_, 1) := by decide +kernel
set_option maxRecDepth 65536 in
set_option maxHeartbeats 40000000 in
theorem rmSV_2 (l : Launch) (Z : State) (a0 : Array Value) (hw : ∀ d ∈ tables_1, d.before a0 Z = true) (ws : List Jvm.Cond) (a1 av : Addr) (ka : ClassId) (cs : Int32) (c1 c2 : Int32) (h0 : Heap) (n0 : Nat) (O0 : Old Z n0 h0) (E1 : Exa Z h0 a1 "java/lang/String") (G0 : Fld Z h0 a1 "java/lang/String" "coder" "B" (.int (0 : Int32))) (G1 : Fld Z h0 a1 "java/lang/String" "value" "[B" .null) (g1 : n0 ≤ a1) (VA : Arv Z h0 av ka .char (2 : Int32) [(.int c1), (.int c2)] (.int (0 : Int32))) (SC : Sta Z Z.heap "java/lang/String" "COMPACT_STRINGS" "Z" (.int cs)) (hcs : ¬ cs = (0 : Int32)) (hp1 : ¬ (255 : Int32) < c1) (hp2 : ¬ (255 : Int32) < c2) :
    Ct l Z (⟨"java/lang/String", "<init>", "([CIILjava/lang/Void;)V"⟩ : MethodName) jdk_42_method_149_code 6 none ({ frames := 2, cells := 1, slots := 2, locals := 35 } : Room) ws #[(.ref a1), (.ref av), (.int (0 : Int32)), (.int (2 : Int32)), .null] h0 (fun v h L => v = none ∧ Fr n0 L ∧ Keep h0 h [a1] ∧ Fld Z h a1 "java/lang/String" "coder" "B" (.int (0 : Int32)) ∧ ∃ d kd, h0.size ≤ d ∧ Fld Z h a1 "java/lang/String" "value" "[B" (.ref d) ∧ Arv Z h d kd .byte (2 : Int32) [(.int (c1.toInt8.toInt32)), (.int (c2.toInt8.toInt32))] (.int (0 : Int32))) := by
  refine o_body (plainFor_of_name o_pn_java_lang_String) ?_
  intro p e s m below meth c s₁ X0 hx hby hml hret hlk hown hnm hZ e0
  have N0 := Fr.nil n0
  refine o_top (g' := (mkF m 0 #[.val (.ref a1), .val (.ref av), .val (.int (0 : Int32)), .val (.int (2 : Int32)), .val .null, .unset] [])) (by first | (simp [entryFrame, mkF, argsToLocals, Value.category]; done) | rfl) ?_
  refine o_aloadN (v := (.ref a1)) (pc := 0) X0 hx (hb hby o_d4_0) rfl rfl ?_
  refine o_initO (pc := 1) X0 hx hZ hown (hw _ (List.mem_of_getElem? (i := 24) rfl)) (hw _ (List.mem_of_getElem? (i := 25) rfl)) (hw _ (List.mem_of_getElem? (i := 26) rfl)) e0 (by rw [hml]; rfl) (hb hby o_d4_1) (by decide) (W := 0) (Nat.le_of_ble_eq_true rfl) (by decide) fun T17 X17 e17 => ?_
  refine o_iloadN (v := (2 : Int32)) (pc := 4) X17 hx (hb hby o_d4_4) rfl ?_
  refine o_ifYes (pc := 5) X17 hx 27 (hb hby o_d4_5) ((if0 _ _).trans (feq (by decide : ¬ ((2 : Int32) = (0 : Int32)))).2) (by decide) (by decide) ?_
  refine o_getS (pc := 27) X17 hx hZ hown (host := "") (Or.inl (hw _ (List.mem_of_getElem? (i := 27) rfl))) Via.refl e17 (SC.ext O0.2) (hb hby o_d4_27) fun T18 X18 e18 => ?_
  refine o_ifNo (pc := 30) X18 hx (hb hby o_d4_30) ((if0 _ _).trans (feq hcs).1) ?_
  refine o_aloadN (v := (.ref av)) (pc := 33) X18 hx (hb hby o_d4_33) rfl rfl ?_
  refine o_iloadN (v := (0 : Int32)) (pc := 34) X18 hx (hb hby o_d4_34) rfl ?_
  refine o_iloadN (v := (2 : Int32)) (pc := 35) X18 hx (hb hby o_d4_35) rfl ?_
  refine o_callS (pc := 36) X18 hx hZ (y := (⟨"java/lang/StringUTF16", "compress", "([CII)[B"⟩ : MethodName)) (argsL := [(.ref av), (.int (0 : Int32)), (.int (2 : Int32))]) (rest := []) hown (hw _ (List.mem_of_getElem? (i := 28) rfl)) (hw _ (List.mem_of_getElem? (i := 29) rfl)) (hw _ (List.mem_of_getElem? (i := 30) rfl)) (hw _ (List.mem_of_getElem? (i := 31) rfl)) (by decide) (rmCC_2 l Z a0 hw [] av ka c1 c2 h0 n0 O0 VA hp1 hp2) e18 (by rw [hml]; rfl) (lenOf o_pd1 rfl) (has := rfl) (hst := rfl) (W := 0) (Nat.le_of_ble_eq_true rfl) (hb hby o_d4_36) (by decide) (by decide) (by decide) (by decide) fun v19 T19 h19 L19 X19 e19 q19 => ?_
  obtain ⟨b19, k19, rfl, g19, N19q, E19, V19⟩ := q19
  have N19 := Fr.app N0 N19q
  have O20 := O0.ext E19
  have K20 : Keep h0 h19 [a1] := (Keep.refl h0 [a1]).ext E19
  show Go p e below T19 (mkF m 39 #[.val (.ref a1), .val (.ref av), .val (.int (0 : Int32)), .val (.int (2 : Int32)), .val .null, .unset] [(.ref b19)]) _
  refine o_astore (l' := #[.val (.ref a1), .val (.ref av), .val (.int (0 : Int32)), .val (.int (2 : Int32)), .val .null, .val (.ref b19)]) (pc := 39) X19 hx (hb hby o_d4_39) rfl rfl ?_
  refine o_aloadN (v := (.ref a1)) (pc := 41) X19 hx (hb hby o_d4_41) rfl rfl ?_
  refine o_aload (v := (.ref b19)) (pc := 42) X19 hx (hb hby o_d4_42) rfl rfl ?_
  refine o_iloadN (v := (2 : Int32)) (pc := 44) X19 hx (hb hby o_d4_44) rfl ?_
  refine o_callS (pc := 45) X19 hx hZ (y := (⟨"java/lang/StringUTF16", "coderFromArrayLen", "([BI)B"⟩ : MethodName)) (argsL := [(.ref b19), (.int (2 : Int32))]) (rest := [(.ref a1)]) hown (hw _ (List.mem_of_getElem? (i := 36) rfl)) (hw _ (List.mem_of_getElem? (i := 37) rfl)) (hw _ (List.mem_of_getElem? (i := 30) rfl)) (hw _ (List.mem_of_getElem? (i := 38) rfl)) (by decide) (rmCod l Z a0 hw [] b19 k19 (2 : Int32) _ h19 n0 O20 V19) e19 (by rw [hml]; rfl) (lenOf o_pd2 rfl) (has := rfl) (hst := rfl) (W := 1) (Nat.le_of_ble_eq_true rfl) (hb hby o_d4_45) (by decide) (by decide) (by decide) (by decide) fun v21 T21 h21 L21 X21 e21 q21 => ?_
  obtain ⟨rfl, N21q, rfl⟩ := q21
  have N21 := Fr.app N19 N21q
  show Go p e below T21 (mkF m 48 #[.val (.ref a1), .val (.ref av), .val (.int (0 : Int32)), .val (.int (2 : Int32)), .val .null, .val (.ref b19)] [(.int (0 : Int32)), (.ref a1)]) _
  refine o_putFN (pc := 48) X21 hx hZ hown (hw _ (List.mem_of_getElem? (i := 39) rfl)) Via.refl e21 (G0.ext E19) (E1.ext E19) (Or.inr ⟨(hw _ (List.mem_of_getElem? (i := 40) rfl)), rfl, hnm⟩) (hw _ (List.mem_of_getElem? (i := 15) rfl)) (ty := .byte) (v' := (.int (0 : Int32))) (by decide) (by decide) (by decide) (hb hby o_d4_48) fun T22 h22 X22 e22 W22 => ?_
  have F22 := Fld.same W22 (G0.ext E19)
  have N22 := Fr.snoc X22 N21 g1
  have O23 := O20.wr W22 g1
  have K23 : Keep h0 h22 [a1] := K20.wr W22 (Or.inl (List.mem_of_getElem? (i := 0) rfl))
  refine o_aloadN (v := (.ref a1)) (pc := 51) X22 hx (hb hby o_d4_51) rfl rfl ?_
  refine o_aload (v := (.ref b19)) (pc := 52) X22 hx (hb hby o_d4_52) rfl rfl ?_
  refine o_putF (pc := 54) X22 hx hZ hown (host := "") (Or.inl (hw _ (List.mem_of_getElem? (i := 41) rfl))) Via.refl e22 ((G1.ext E19).other W22 (Or.inr (slot_ne (C := "java/lang/String") (Or.inr (hw _ (List.mem_of_getElem? (i := 42) rfl))) (Or.inr (hw _ (List.mem_of_getElem? (i := 40) rfl))) (by decide) (t := (.array .byte)) (t' := .byte) (by decide) (by decide)))) ((E1.ext E19).wr W22) (Or.inr ⟨(hw _ (List.mem_of_getElem? (i := 42) rfl)), rfl, hnm⟩) (hw _ (List.mem_of_getElem? (i := 15) rfl)) (ty := (.array .byte)) (by decide) rfl rfl (hb hby o_d4_54) fun T24 h24 X24 e24 W24 => ?_
  have F24 := Fld.same W24 ((G1.ext E19).other W22 (Or.inr (slot_ne (C := "java/lang/String") (Or.inr (hw _ (List.mem_of_getElem? (i := 42) rfl))) (Or.inr (hw _ (List.mem_of_getElem? (i := 40) rfl))) (by decide) (t := (.array .byte)) (t' := .byte) (by decide) (by decide))))
  have N24 := Fr.snoc X24 N22 g1
  have O25 := O23.wr W24 g1
  have K25 : Keep h0 h24 [a1] := K23.wr W24 (Or.inl (List.mem_of_getElem? (i := 0) rfl))
  exact o_ret0 (pc := 57) X24 hx hret hlk (hb hby o_d4_57) e24 (by decide) (by decide) ⟨rfl, N24, K25, (F22.other W24 (Or.inr (slot_ne (C := "java/lang/String") (Or.inr (hw _ (List.mem_of_getElem? (i := 40) rfl))) (Or.inr (hw _ (List.mem_of_getElem? (i := 42) rfl))) (by decide) (t := .byte) (t' := (.array .byte)) (by decide) (by decide)))), b19, k19, (Nat.le_trans (Keep.refl h0 [a1]).1 g19), F24, ((V19.other W22 (Ne.symm (Nat.ne_of_lt (Nat.lt_of_lt_of_le E1.lt g19)))).other W24 (Ne.symm (Nat.ne_of_lt (Nat.lt_of_lt_of_le E1.lt g19))))⟩
theorem o_d3_0 : decode jdk_42_method_3_code 0 = .ok (.aload_n 0, 1) := by decide +kernel
theorem o_d3_1 : decode jdk_42_method_3_code 1 = .ok (.aload_n 1, 1) := by decide +kernel
theorem o_d3_2 : decode jdk_42_method_3_code 2 = .ok (.iconst 0, 1) := by decide +kernel
theorem o_d3_3 : decode jdk_42_method_3_code 3 = .ok (.aload_n 1, 1) := by decide +kernel
theorem o_d3_4 : decode jdk_42_method_3_code 4 = .ok (.arraylength, 1) := by decide +kernel
theorem o_d3_5 : decode jdk_42_method_3_code 5 = .ok (.aconst_null, 1) := by decide +kernel
theorem o_d3_6 : decode jdk_42_method_3_code 6 = .ok (.invokespecial 27, 3) := by decide +kernel
theorem o_pd3 : parseMethodDescriptor "([CIILjava/lang/Void;)V" = some ⟨[(.array .char), .int, .int, (.object "java/lang/Void")], none⟩ := by decide +kernel
theorem o_d3_9 : decode jdk_42_method_3_code 9 = .ok (.return_, 1) := by decide +kernel
set_option maxRecDepth 65536 in
set_option maxHeartbeats 40000000 in
theorem rmSC_2 (l : Launch) (Z : State) (a0 : Array Value) (hw : ∀ d ∈ tables_1, d.before a0 Z = true) (ws : List Jvm.Cond) (a1 av : Addr) (ka : ClassId) (cs : Int32) (c1 c2 : Int32) (h0 : Heap) (n0 : Nat) (O0 : Old Z n0 h0) (E1 : Exa Z h0 a1 "java/lang/String") (G0 : Fld Z h0 a1 "java/lang/String" "coder" "B" (.int (0 : Int32))) (G1 : Fld Z h0 a1 "java/lang/String" "value" "[B" .null) (g1 : n0 ≤ a1) (VA : Arv Z h0 av ka .char (2 : Int32) [(.int c1), (.int c2)] (.int (0 : Int32))) (SC : Sta Z Z.heap "java/lang/String" "COMPACT_STRINGS" "Z" (.int cs)) (hcs : ¬ cs = (0 : Int32)) (hp1 : ¬ (255 : Int32) < c1) (hp2 : ¬ (255 : Int32) < c2) :
    Ct l Z (⟨"java/lang/String", "<init>", "([C)V"⟩ : MethodName) jdk_42_method_3_code 2 none ({ frames := 3, cells := 1, slots := 2, locals := 52 } : Room) ws #[(.ref a1), (.ref av)] h0 (fun v h L => v = none ∧ Fr n0 L ∧ Keep h0 h [a1] ∧ Fld Z h a1 "java/lang/String" "coder" "B" (.int (0 : Int32)) ∧ ∃ d kd, h0.size ≤ d ∧ Fld Z h a1 "java/lang/String" "value" "[B" (.ref d) ∧ Arv Z h d kd .byte (2 : Int32) [(.int (c1.toInt8.toInt32)), (.int (c2.toInt8.toInt32))] (.int (0 : Int32))) := by
  refine o_body (plainFor_of_name o_pn_java_lang_String) ?_
  intro p e s m below meth c s₁ X0 hx hby hml hret hlk hown hnm hZ e0
  have N0 := Fr.nil n0
  refine o_top (g' := (mkF m 0 #[.val (.ref a1), .val (.ref av)] [])) (by first | (simp [entryFrame, mkF, argsToLocals, Value.category]; done) | rfl) ?_
  refine o_aloadN (v := (.ref a1)) (pc := 0) X0 hx (hb hby o_d3_0) rfl rfl ?_
  refine o_aloadN (v := (.ref av)) (pc := 1) X0 hx (hb hby o_d3_1) rfl rfl ?_
  refine o_iconst (pc := 2) X0 hx (0 : Int32) (hb hby o_d3_2) rfl ?_
  refine o_aloadN (v := (.ref av)) (pc := 3) X0 hx (hb hby o_d3_3) rfl rfl ?_
  refine o_arraylength (pc := 4) X0 hx hZ e0 VA (hb hby o_d3_4) ?_
  refine o_aconst_null (pc := 5) X0 hx (hb hby o_d3_5) ?_
  refine o_callN (pc := 6) X0 hx hZ (y := (⟨"java/lang/String", "<init>", "([CIILjava/lang/Void;)V"⟩ : MethodName)) (a := a1) (argsL := [(.ref av), (.int (0 : Int32)), (.int (2 : Int32)), .null]) (rest := []) rfl hown (hw _ (List.mem_of_getElem? (i := 20) rfl)) (hw _ (List.mem_of_getElem? (i := 21) rfl)) (hw _ (List.mem_of_getElem? (i := 16) rfl)) (hw _ (List.mem_of_getElem? (i := 23) rfl)) (by decide) (rmSV_2 l Z a0 hw [] a1 av ka cs c1 c2 h0 n0 O0 E1 G0 G1 g1 VA SC hcs hp1 hp2) e0 (by rw [hml]; rfl) (lenOf o_pd3 rfl) (has := rfl) (hst := rfl) (W := 0) (Nat.le_of_ble_eq_true rfl) (hb hby o_d3_6) (by decide) (by decide) (by decide) (by decide) fun v26 T26 h26 L26 X26 e26 q26 => ?_
  obtain ⟨rfl, N26q, K26, Fc26, d26, k26, g26, Fv26, V26⟩ := q26
  have N26 := Fr.app N0 N26q
  have O27 := O0.keep K26 (allS g1 all0)
  have K27 : Keep h0 h26 [a1] := (Keep.refl h0 [a1]).trans K26 (allS (Or.inl (List.mem_of_getElem? (i := 0) rfl)) all0)
  show Go p e below T26 (mkF m 9 #[.val (.ref a1), .val (.ref av)] []) _
  exact o_ret0 (pc := 9) X26 hx hret hlk (hb hby o_d3_9) e26 (by decide) (by decide) ⟨rfl, N26, K27, Fc26, d26, k26, (Nat.le_trans (Keep.refl h0 [a1]).1 g26), Fv26, V26⟩
theorem o_d2_0 : decode method_3_code 0 = .ok (.iconst 2, 1) := by decide +kernel
theorem o_d2_1 : decode method_3_code 1 = .ok (.newarray .char, 2) := by decide +kernel
theorem o_d2_3 : decode method_3_code 3 = .ok (.astore_n 1, 1) := by decide +kernel
theorem o_d2_4 : decode method_3_code 4 = .ok (.aload_n 1, 1) := by decide +kernel
theorem o_d2_5 : decode method_3_code 5 = .ok (.iconst 0, 1) := by decide +kernel
theorem o_d2_6 : decode method_3_code 6 = .ok (.iload_n 0, 1) := by decide +kernel
theorem o_d2_7 : decode method_3_code 7 = .ok (.sipush 255, 3) := by decide +kernel
theorem o_d2_10 : decode method_3_code 10 = .ok (.iand, 1) := by decide +kernel
theorem o_d2_11 : decode method_3_code 11 = .ok (.i2c, 1) := by decide +kernel
theorem o_d2_12 : decode method_3_code 12 = .ok (.castore, 1) := by decide +kernel
theorem o_d2_13 : decode method_3_code 13 = .ok (.aload_n 1, 1) := by decide +kernel
theorem o_d2_14 : decode method_3_code 14 = .ok (.iconst 1, 1) := by decide +kernel
theorem o_d2_15 : decode method_3_code 15 = .ok (.iload_n 0, 1) := by decide +kernel
theorem o_d2_16 : decode method_3_code 16 = .ok (.bipush 8, 2) := by decide +kernel
theorem o_d2_18 : decode method_3_code 18 = .ok (.iushr, 1) := by decide +kernel
theorem o_d2_19 : decode method_3_code 19 = .ok (.sipush 255, 3) := by decide +kernel
theorem o_d2_22 : decode method_3_code 22 = .ok (.iand, 1) := by decide +kernel
theorem o_d2_23 : decode method_3_code 23 = .ok (.i2c, 1) := by decide +kernel
theorem o_d2_24 : decode method_3_code 24 = .ok (.castore, 1) := by decide +kernel
theorem o_d2_25 : decode method_3_code 25 = .ok (.new 22, 3) := by decide +kernel
theorem o_d2_28 : decode method_3_code 28 = .ok (.dup, 1) := by decide +kernel
theorem o_d2_29 : decode method_3_code 29 = .ok (.aload_n 1, 1) := by decide +kernel
theorem o_d2_30 : decode method_3_code 30 = .ok (.invokespecial 24, 3) := by decide +kernel
theorem o_pd4 : parseMethodDescriptor "([C)V" = some ⟨[(.array .char)], none⟩ := by decide +kernel
theorem o_d2_33 : decode method_3_code 33 = .ok (.areturn, 1) := by decide +kernel
set_option maxRecDepth 65536 in
set_option maxHeartbeats 40000000 in
theorem rm2 (l : Launch) (Z : State) (a0 : Array Value) (hw : ∀ d ∈ tables_1, d.before a0 Z = true) (ws : List Jvm.Cond) (p1 : Int32) (cs : Int32) (h0 : Heap) (n0 : Nat) (O0 : Old Z n0 h0) (SC : Sta Z Z.heap "java/lang/String" "COMPACT_STRINGS" "Z" (.int cs)) (hcs : ¬ cs = (0 : Int32)) :
    Ct l Z (⟨"com/example/isolation_anomaly_finder/isolationanomalyfinder/FindingVerdictPinLaw", "text", "(I)Ljava/lang/String;"⟩ : MethodName) method_3_code 2 (some (.object "java/lang/String")) ({ frames := 4, cells := 3, slots := 8, locals := 66 } : Room) ws #[(.int p1)] h0 (fun v h L => ∃ b, v = some (.ref b) ∧ h0.size ≤ b ∧ Fr n0 L ∧ Ext h0 h ∧ Exa Z h b "java/lang/String") := by
  refine o_body (plainFor_of_name o_pn_com_example_isolation_anomaly_finder_isolationanomalyfinder_FindingVerdictPinLaw) ?_
  intro p e s m below meth c s₁ X0 hx hby hml hret hlk hown hnm hZ e0
  have N0 := Fr.nil n0
  refine o_top (g' := (mkF m 0 #[.val (.int p1), .unset] [])) (by first | (simp [entryFrame, mkF, argsToLocals, Value.category]; done) | rfl) ?_
  refine o_iconst (pc := 0) X0 hx (2 : Int32) (hb hby o_d2_0) rfl ?_
  refine o_newP (pc := 1) X0 hx hZ (hw _ (List.mem_of_getElem? (i := 13) rfl)) e0 (hb hby o_d2_1) (by decide) 2 (by decide) (by decide) (by decide) (by decide) fun T28 h28 b28 k28 X28 e28 g28 E28 V28 => ?_
  have O29 := O0.ext E28
  have K29 : Keep h0 h28 [] := (Keep.refl h0 []).ext E28
  have V28p : Arv Z h28 b28 k28 .char (2 : Int32) [(.int (0 : Int32)), (.int (0 : Int32))] (.int (0 : Int32)) := V28.pad (pad_rep [] (.int (0 : Int32)) 2)
  refine o_astoreN (l' := #[.val (.int p1), .val (.ref b28)]) (pc := 3) X28 hx (hb hby o_d2_3) rfl rfl ?_
  refine o_aloadN (v := (.ref b28)) (pc := 4) X28 hx (hb hby o_d2_4) rfl rfl ?_
  refine o_iconst (pc := 5) X28 hx (0 : Int32) (hb hby o_d2_5) rfl ?_
  refine o_iloadN (v := p1) (pc := 6) X28 hx (hb hby o_d2_6) rfl ?_
  refine o_sipush (pc := 7) X28 hx (255 : Int32) (hb hby o_d2_7) rfl ?_
  refine o_iand (pc := 10) X28 hx (hb hby o_d2_10) ?_
  refine o_i2c (pc := 11) X28 hx (hb hby o_d2_11) ?_
  refine o_castore (pc := 12) X28 hx hZ e28 V28p ⟨by decide, by decide⟩ 0 rfl (Nat.le_of_ble_eq_true rfl) (hb hby o_d2_12) fun T30 h30 X30 e30 W30 V30 => ?_
  have N30 := Fr.snoc X30 N0 (Nat.le_trans (o_n0 O0) g28)
  have O31 := O29.wr W30 (Nat.le_trans (o_n0 O0) g28)
  have K31 : Keep h0 h30 [] := K29.wr W30 (Or.inr (Nat.le_trans (Keep.refl h0 []).1 g28))
  refine o_aloadN (v := (.ref b28)) (pc := 13) X30 hx (hb hby o_d2_13) rfl rfl ?_
  refine o_iconst (pc := 14) X30 hx (1 : Int32) (hb hby o_d2_14) rfl ?_
  refine o_iloadN (v := p1) (pc := 15) X30 hx (hb hby o_d2_15) rfl ?_
  refine o_bipush (pc := 16) X30 hx (8 : Int32) (hb hby o_d2_16) rfl ?_
  refine o_iushr (pc := 18) X30 hx (hb hby o_d2_18) ?_
  refine o_sipush (pc := 19) X30 hx (255 : Int32) (hb hby o_d2_19) rfl ?_
  refine o_iand (pc := 22) X30 hx (hb hby o_d2_22) ?_
  refine o_i2c (pc := 23) X30 hx (hb hby o_d2_23) ?_
  refine o_castore (pc := 24) X30 hx hZ e30 V30 ⟨by decide, by decide⟩ 1 rfl (Nat.le_of_ble_eq_true rfl) (hb hby o_d2_24) fun T32 h32 X32 e32 W32 V32 => ?_
  have N32 := Fr.snoc X32 N30 (Nat.le_trans (o_n0 O0) g28)
  have O33 := O31.wr W32 (Nat.le_trans (o_n0 O0) g28)
  have K33 : Keep h0 h32 [] := K31.wr W32 (Or.inr (Nat.le_trans (Keep.refl h0 []).1 g28))
  refine o_new (pc := 25) X32 hx hZ hown (hw _ (List.mem_of_getElem? (i := 14) rfl)) (hw _ (List.mem_of_getElem? (i := 15) rfl)) (hw _ (List.mem_of_getElem? (i := 16) rfl)) e32 (hb hby o_d2_25) (by decide) (by decide) fun T34 h34 b34 X34 e34 g34 E34 A34 D34 U34 => ?_
  have O35 := O33.ext E34
  have K35 : Keep h0 h34 [] := K33.ext E34
  have F34_coder : Fld Z h34 b34 "java/lang/String" "coder" "B" (.int (0 : Int32)) := D34 (Or.inr (hw _ (List.mem_of_getElem? (i := 40) rfl))) (ty := .byte) (by decide)
  have F34_value : Fld Z h34 b34 "java/lang/String" "value" "[B" .null := D34 (Or.inr (hw _ (List.mem_of_getElem? (i := 42) rfl))) (ty := (.array .byte)) (by decide)
  refine o_dup (pc := 28) X34 hx (hb hby o_d2_28) rfl ?_
  refine o_aloadN (v := (.ref b28)) (pc := 29) X34 hx (hb hby o_d2_29) rfl rfl ?_
  refine o_callN (pc := 30) X34 hx hZ (y := (⟨"java/lang/String", "<init>", "([C)V"⟩ : MethodName)) (a := b34) (argsL := [(.ref b28)]) (rest := [(.ref b34)]) rfl hown (hw _ (List.mem_of_getElem? (i := 17) rfl)) (hw _ (List.mem_of_getElem? (i := 18) rfl)) (hw _ (List.mem_of_getElem? (i := 16) rfl)) (hw _ (List.mem_of_getElem? (i := 19) rfl)) (by decide) (rmSC_2 l Z a0 hw [] b34 b28 k28 cs (nar .char ((p1 &&& (255 : Int32)).toUInt32.toUInt16.toUInt32.toInt32)) (nar .char ((((p1.toUInt32 >>> ((8 : Int32) &&& 31).toUInt32).toInt32) &&& (255 : Int32)).toUInt32.toUInt16.toUInt32.toInt32)) h34 n0 O35 A34 F34_coder F34_value (Nat.le_trans (o_n0 O33) g34) (V32.ext E34) SC hcs (c_small p1) (c_small ((p1.toUInt32 >>> ((8 : Int32) &&& 31).toUInt32).toInt32))) e34 (by rw [hml]; rfl) (lenOf o_pd4 rfl) (has := rfl) (hst := rfl) (W := 1) (Nat.le_of_ble_eq_true rfl) (hb hby o_d2_30) (by decide) (by decide) (by decide) (by decide) fun v36 T36 h36 L36 X36 e36 q36 => ?_
  obtain ⟨rfl, N36q, K36, Fc36, d36, k36, g36, Fv36, V36⟩ := q36
  have N36 := Fr.app N32 N36q
  have O37 := O35.keep K36 (allS (Nat.le_trans (o_n0 O33) g34) all0)
  have K37 : Keep h0 h36 [] := K35.trans K36 (allS (Or.inr (Nat.le_trans K33.1 g34)) all0)
  show Go p e below T36 (mkF m 33 #[.val (.int p1), .val (.ref b28)] [(.ref b34)]) _
  exact o_retA (pc := 33) X36 hx hret hlk rfl rfl (hb hby o_d2_33) e36 (by decide) (by decide) ⟨b34, rfl, (Nat.le_trans K33.1 g34), N36, o_keep0 K37, (A34.keep K36)⟩
theorem o_pn_com_example_isolation_anomaly_finder_isolationanomalyfinder_Finding : plainName "com/example/isolation_anomaly_finder/isolationanomalyfinder/Finding" = true := by first | (simp [plainName, overriddenIn]; done) | decide +kernel
theorem o_d9_0 : decode prog_14_method_1_code 0 = .ok (.aload_n 0, 1) := by decide +kernel
theorem o_d9_1 : decode prog_14_method_1_code 1 = .ok (.invokespecial 1, 3) := by decide +kernel
theorem o_pd5 : parseMethodDescriptor "()V" = some ⟨[], none⟩ := by decide +kernel
theorem o_d9_4 : decode prog_14_method_1_code 4 = .ok (.aload_n 0, 1) := by decide +kernel
theorem o_d9_5 : decode prog_14_method_1_code 5 = .ok (.aload_n 1, 1) := by decide +kernel
theorem o_d9_6 : decode prog_14_method_1_code 6 = .ok (.putfield 7, 3) := by decide +kernel
theorem o_d9_9 : decode prog_14_method_1_code 9 = .ok (.aload_n 0, 1) := by decide +kernel
theorem o_d9_10 : decode prog_14_method_1_code 10 = .ok (.aload_n 2, 1) := by decide +kernel
theorem o_d9_11 : decode prog_14_method_1_code 11 = .ok (.putfield 13, 3) := by decide +kernel
theorem o_d9_14 : decode prog_14_method_1_code 14 = .ok (.aload_n 0, 1) := by decide +kernel
theorem o_d9_15 : decode prog_14_method_1_code 15 = .ok (.iload_n 3, 1) := by decide +kernel
theorem o_d9_16 : decode prog_14_method_1_code 16 = .ok (.putfield 17, 3) := by decide +kernel
theorem o_d9_19 : decode prog_14_method_1_code 19 = .ok (.aload_n 0, 1) := by decide +kernel
theorem o_d9_20 : decode prog_14_method_1_code 20 = .ok (.aload 4, 2) := by decide +kernel
theorem o_d9_22 : decode prog_14_method_1_code 22 = .ok (.putfield 21, 3) := by decide +kernel
theorem o_d9_25 : decode prog_14_method_1_code 25 = .ok (.aload_n 0, 1) := by decide +kernel
theorem o_d9_26 : decode prog_14_method_1_code 26 = .ok (.aload 5, 2) := by decide +kernel
theorem o_d9_28 : decode prog_14_method_1_code 28 = .ok (.putfield 24, 3) := by decide +kernel
theorem o_d9_31 : decode prog_14_method_1_code 31 = .ok (.return_, 1) := by decide +kernel
set_option maxRecDepth 65536 in
set_option maxHeartbeats 40000000 in
theorem rm9 (l : Launch) (Z : State) (a0 : Array Value) (hw : ∀ d ∈ tables_1, d.before a0 Z = true) (ws : List Jvm.Cond) (a1 : Addr) (a2 a3 : Addr) (p4 : Int32) (a5 a6 : Addr) (h0 : Heap) (n0 : Nat) (O0 : Old Z n0 h0) (E1 : Exa Z h0 a1 "com/example/isolation_anomaly_finder/isolationanomalyfinder/Finding") (G0 : Fld Z h0 a1 "com/example/isolation_anomaly_finder/isolationanomalyfinder/Finding" "level" "Lcom/example/isolation_anomaly_finder/isolationanomalyfinder/IsolationLevel;" .null) (G1 : Fld Z h0 a1 "com/example/isolation_anomaly_finder/isolationanomalyfinder/Finding" "anomaly" "Ljava/lang/String;" .null) (G2 : Fld Z h0 a1 "com/example/isolation_anomaly_finder/isolationanomalyfinder/Finding" "allowed" "Z" (.int (0 : Int32))) (G3 : Fld Z h0 a1 "com/example/isolation_anomaly_finder/isolationanomalyfinder/Finding" "how" "Ljava/lang/String;" .null) (G4 : Fld Z h0 a1 "com/example/isolation_anomaly_finder/isolationanomalyfinder/Finding" "witness" "Ljava/lang/String;" .null) (g1 : n0 ≤ a1) :
    Ct l Z (⟨"com/example/isolation_anomaly_finder/isolationanomalyfinder/Finding", "<init>", "(Lcom/example/isolation_anomaly_finder/isolationanomalyfinder/IsolationLevel;Ljava/lang/String;ZLjava/lang/String;Ljava/lang/String;)V"⟩ : MethodName) prog_14_method_1_code 6 none ({ frames := 2, cells := 0, slots := 0, locals := 24 } : Room) ws #[(.ref a1), (.ref a2), (.ref a3), (.int p4), (.ref a5), (.ref a6)] h0 (fun v h L => v = none ∧ Fr n0 L ∧ Keep h0 h [a1] ∧ Fld Z h a1 "com/example/isolation_anomaly_finder/isolationanomalyfinder/Finding" "level" "Lcom/example/isolation_anomaly_finder/isolationanomalyfinder/IsolationLevel;" (.ref a2) ∧ Fld Z h a1 "com/example/isolation_anomaly_finder/isolationanomalyfinder/Finding" "anomaly" "Ljava/lang/String;" (.ref a3) ∧ Fld Z h a1 "com/example/isolation_anomaly_finder/isolationanomalyfinder/Finding" "allowed" "Z" (.int (nar .boolean p4)) ∧ Fld Z h a1 "com/example/isolation_anomaly_finder/isolationanomalyfinder/Finding" "how" "Ljava/lang/String;" (.ref a5) ∧ Fld Z h a1 "com/example/isolation_anomaly_finder/isolationanomalyfinder/Finding" "witness" "Ljava/lang/String;" (.ref a6)) := by
  refine o_body (plainFor_of_name o_pn_com_example_isolation_anomaly_finder_isolationanomalyfinder_Finding) ?_
  intro p e s m below meth c s₁ X0 hx hby hml hret hlk hown hnm hZ e0
  have N0 := Fr.nil n0
  refine o_top (g' := (mkF m 0 #[.val (.ref a1), .val (.ref a2), .val (.ref a3), .val (.int p4), .val (.ref a5), .val (.ref a6)] [])) (by first | (simp [entryFrame, mkF, argsToLocals, Value.category]; done) | rfl) ?_
  refine o_aloadN (v := (.ref a1)) (pc := 0) X0 hx (hb hby o_d9_0) rfl rfl ?_
  refine o_callN (pc := 1) X0 hx hZ (y := (⟨"java/lang/Record", "<init>", "()V"⟩ : MethodName)) (a := a1) (argsL := []) (rest := []) rfl hown (hw _ (List.mem_of_getElem? (i := 46) rfl)) (hw _ (List.mem_of_getElem? (i := 47) rfl)) (hw _ (List.mem_of_getElem? (i := 49) rfl)) (hw _ (List.mem_of_getElem? (i := 50) rfl)) (by decide) (rmRec l Z a0 hw [] a1 h0 n0 O0) e0 (by rw [hml]; rfl) (lenOf o_pd5 rfl) (has := rfl) (hst := rfl) (W := 0) (Nat.le_of_ble_eq_true rfl) (hb hby o_d9_1) (by decide) (by decide) (by decide) (by decide) fun v38 T38 h38 L38 X38 e38 q38 => ?_
  obtain ⟨rfl, N38q, rfl⟩ := q38
  have N38 := Fr.app N0 N38q
  show Go p e below T38 (mkF m 4 #[.val (.ref a1), .val (.ref a2), .val (.ref a3), .val (.int p4), .val (.ref a5), .val (.ref a6)] []) _
  refine o_aloadN (v := (.ref a1)) (pc := 4) X38 hx (hb hby o_d9_4) rfl rfl ?_
  refine o_aloadN (v := (.ref a2)) (pc := 5) X38 hx (hb hby o_d9_5) rfl rfl ?_
  refine o_putF (pc := 6) X38 hx hZ hown (host := "") (Or.inl (hw _ (List.mem_of_getElem? (i := 52) rfl))) Via.refl e38 G0 E1 (Or.inr ⟨(hw _ (List.mem_of_getElem? (i := 53) rfl)), rfl, hnm⟩) (hw _ (List.mem_of_getElem? (i := 1) rfl)) (ty := (.object "com/example/isolation_anomaly_finder/isolationanomalyfinder/IsolationLevel")) (by decide) rfl rfl (hb hby o_d9_6) fun T39 h39 X39 e39 W39 => ?_
  have F39 := Fld.same W39 G0
  have N39 := Fr.snoc X39 N38 g1
  have O40 := O0.wr W39 g1
  have K40 : Keep h0 h39 [a1] := (Keep.refl h0 [a1]).wr W39 (Or.inl (List.mem_of_getElem? (i := 0) rfl))
  refine o_aloadN (v := (.ref a1)) (pc := 9) X39 hx (hb hby o_d9_9) rfl rfl ?_
  refine o_aloadN (v := (.ref a3)) (pc := 10) X39 hx (hb hby o_d9_10) rfl rfl ?_
  refine o_putF (pc := 11) X39 hx hZ hown (host := "") (Or.inl (hw _ (List.mem_of_getElem? (i := 54) rfl))) Via.refl e39 (G1.other W39 (Or.inr (slot_ne (C := "com/example/isolation_anomaly_finder/isolationanomalyfinder/Finding") (Or.inr (hw _ (List.mem_of_getElem? (i := 55) rfl))) (Or.inr (hw _ (List.mem_of_getElem? (i := 53) rfl))) (by decide) (t := (.object "java/lang/String")) (t' := (.object "com/example/isolation_anomaly_finder/isolationanomalyfinder/IsolationLevel")) (by decide) (by decide)))) (E1.wr W39) (Or.inr ⟨(hw _ (List.mem_of_getElem? (i := 55) rfl)), rfl, hnm⟩) (hw _ (List.mem_of_getElem? (i := 1) rfl)) (ty := (.object "java/lang/String")) (by decide) rfl rfl (hb hby o_d9_11) fun T41 h41 X41 e41 W41 => ?_
  have F41 := Fld.same W41 (G1.other W39 (Or.inr (slot_ne (C := "com/example/isolation_anomaly_finder/isolationanomalyfinder/Finding") (Or.inr (hw _ (List.mem_of_getElem? (i := 55) rfl))) (Or.inr (hw _ (List.mem_of_getElem? (i := 53) rfl))) (by decide) (t := (.object "java/lang/String")) (t' := (.object "com/example/isolation_anomaly_finder/isolationanomalyfinder/IsolationLevel")) (by decide) (by decide))))
  have N41 := Fr.snoc X41 N39 g1
  have O42 := O40.wr W41 g1
  have K42 : Keep h0 h41 [a1] := K40.wr W41 (Or.inl (List.mem_of_getElem? (i := 0) rfl))
  refine o_aloadN (v := (.ref a1)) (pc := 14) X41 hx (hb hby o_d9_14) rfl rfl ?_
  refine o_iloadN (v := p4) (pc := 15) X41 hx (hb hby o_d9_15) rfl ?_
  refine o_putFN (pc := 16) X41 hx hZ hown (hw _ (List.mem_of_getElem? (i := 56) rfl)) Via.refl e41 ((G2.other W39 (Or.inr (slot_ne (C := "com/example/isolation_anomaly_finder/isolationanomalyfinder/Finding") (Or.inr (hw _ (List.mem_of_getElem? (i := 57) rfl))) (Or.inr (hw _ (List.mem_of_getElem? (i := 53) rfl))) (by decide) (t := .boolean) (t' := (.object "com/example/isolation_anomaly_finder/isolationanomalyfinder/IsolationLevel")) (by decide) (by decide)))).other W41 (Or.inr (slot_ne (C := "com/example/isolation_anomaly_finder/isolationanomalyfinder/Finding") (Or.inr (hw _ (List.mem_of_getElem? (i := 57) rfl))) (Or.inr (hw _ (List.mem_of_getElem? (i := 55) rfl))) (by decide) (t := .boolean) (t' := (.object "java/lang/String")) (by decide) (by decide)))) ((E1.wr W39).wr W41) (Or.inr ⟨(hw _ (List.mem_of_getElem? (i := 57) rfl)), rfl, hnm⟩) (hw _ (List.mem_of_getElem? (i := 1) rfl)) (ty := .boolean) (v' := (.int (nar .boolean p4))) (by decide) rfl (fits_nar_bool _) (hb hby o_d9_16) fun T43 h43 X43 e43 W43 => ?_
  have F43 := Fld.same W43 ((G2.other W39 (Or.inr (slot_ne (C := "com/example/isolation_anomaly_finder/isolationanomalyfinder/Finding") (Or.inr (hw _ (List.mem_of_getElem? (i := 57) rfl))) (Or.inr (hw _ (List.mem_of_getElem? (i := 53) rfl))) (by decide) (t := .boolean) (t' := (.object "com/example/isolation_anomaly_finder/isolationanomalyfinder/IsolationLevel")) (by decide) (by decide)))).other W41 (Or.inr (slot_ne (C := "com/example/isolation_anomaly_finder/isolationanomalyfinder/Finding") (Or.inr (hw _ (List.mem_of_getElem? (i := 57) rfl))) (Or.inr (hw _ (List.mem_of_getElem? (i := 55) rfl))) (by decide) (t := .boolean) (t' := (.object "java/lang/String")) (by decide) (by decide))))
  have N43 := Fr.snoc X43 N41 g1
  have O44 := O42.wr W43 g1
  have K44 : Keep h0 h43 [a1] := K42.wr W43 (Or.inl (List.mem_of_getElem? (i := 0) rfl))
  refine o_aloadN (v := (.ref a1)) (pc := 19) X43 hx (hb hby o_d9_19) rfl rfl ?_
  refine o_aload (v := (.ref a5)) (pc := 20) X43 hx (hb hby o_d9_20) rfl rfl ?_
  refine o_putF (pc := 22) X43 hx hZ hown (host := "") (Or.inl (hw _ (List.mem_of_getElem? (i := 58) rfl))) Via.refl e43 (((G3.other W39 (Or.inr (slot_ne (C := "com/example/isolation_anomaly_finder/isolationanomalyfinder/Finding") (Or.inr (hw _ (List.mem_of_getElem? (i := 59) rfl))) (Or.inr (hw _ (List.mem_of_getElem? (i := 53) rfl))) (by decide) (t := (.object "java/lang/String")) (t' := (.object "com/example/isolation_anomaly_finder/isolationanomalyfinder/IsolationLevel")) (by decide) (by decide)))).other W41 (Or.inr (slot_ne (C := "com/example/isolation_anomaly_finder/isolationanomalyfinder/Finding") (Or.inr (hw _ (List.mem_of_getElem? (i := 59) rfl))) (Or.inr (hw _ (List.mem_of_getElem? (i := 55) rfl))) (by decide) (t := (.object "java/lang/String")) (t' := (.object "java/lang/String")) (by decide) (by decide)))).other W43 (Or.inr (slot_ne (C := "com/example/isolation_anomaly_finder/isolationanomalyfinder/Finding") (Or.inr (hw _ (List.mem_of_getElem? (i := 59) rfl))) (Or.inr (hw _ (List.mem_of_getElem? (i := 57) rfl))) (by decide) (t := (.object "java/lang/String")) (t' := .boolean) (by decide) (by decide)))) (((E1.wr W39).wr W41).wr W43) (Or.inr ⟨(hw _ (List.mem_of_getElem? (i := 59) rfl)), rfl, hnm⟩) (hw _ (List.mem_of_getElem? (i := 1) rfl)) (ty := (.object "java/lang/String")) (by decide) rfl rfl (hb hby o_d9_22) fun T45 h45 X45 e45 W45 => ?_
  have F45 := Fld.same W45 (((G3.other W39 (Or.inr (slot_ne (C := "com/example/isolation_anomaly_finder/isolationanomalyfinder/Finding") (Or.inr (hw _ (List.mem_of_getElem? (i := 59) rfl))) (Or.inr (hw _ (List.mem_of_getElem? (i := 53) rfl))) (by decide) (t := (.object "java/lang/String")) (t' := (.object "com/example/isolation_anomaly_finder/isolationanomalyfinder/IsolationLevel")) (by decide) (by decide)))).other W41 (Or.inr (slot_ne (C := "com/example/isolation_anomaly_finder/isolationanomalyfinder/Finding") (Or.inr (hw _ (List.mem_of_getElem? (i := 59) rfl))) (Or.inr (hw _ (List.mem_of_getElem? (i := 55) rfl))) (by decide) (t := (.object "java/lang/String")) (t' := (.object "java/lang/String")) (by decide) (by decide)))).other W43 (Or.inr (slot_ne (C := "com/example/isolation_anomaly_finder/isolationanomalyfinder/Finding") (Or.inr (hw _ (List.mem_of_getElem? (i := 59) rfl))) (Or.inr (hw _ (List.mem_of_getElem? (i := 57) rfl))) (by decide) (t := (.object "java/lang/String")) (t' := .boolean) (by decide) (by decide))))
  have N45 := Fr.snoc X45 N43 g1
  have O46 := O44.wr W45 g1
  have K46 : Keep h0 h45 [a1] := K44.wr W45 (Or.inl (List.mem_of_getElem? (i := 0) rfl))
  refine o_aloadN (v := (.ref a1)) (pc := 25) X45 hx (hb hby o_d9_25) rfl rfl ?_
  refine o_aload (v := (.ref a6)) (pc := 26) X45 hx (hb hby o_d9_26) rfl rfl ?_
  refine o_putF (pc := 28) X45 hx hZ hown (host := "") (Or.inl (hw _ (List.mem_of_getElem? (i := 60) rfl))) Via.refl e45 ((((G4.other W39 (Or.inr (slot_ne (C := "com/example/isolation_anomaly_finder/isolationanomalyfinder/Finding") (Or.inr (hw _ (List.mem_of_getElem? (i := 61) rfl))) (Or.inr (hw _ (List.mem_of_getElem? (i := 53) rfl))) (by decide) (t := (.object "java/lang/String")) (t' := (.object "com/example/isolation_anomaly_finder/isolationanomalyfinder/IsolationLevel")) (by decide) (by decide)))).other W41 (Or.inr (slot_ne (C := "com/example/isolation_anomaly_finder/isolationanomalyfinder/Finding") (Or.inr (hw _ (List.mem_of_getElem? (i := 61) rfl))) (Or.inr (hw _ (List.mem_of_getElem? (i := 55) rfl))) (by decide) (t := (.object "java/lang/String")) (t' := (.object "java/lang/String")) (by decide) (by decide)))).other W43 (Or.inr (slot_ne (C := "com/example/isolation_anomaly_finder/isolationanomalyfinder/Finding") (Or.inr (hw _ (List.mem_of_getElem? (i := 61) rfl))) (Or.inr (hw _ (List.mem_of_getElem? (i := 57) rfl))) (by decide) (t := (.object "java/lang/String")) (t' := .boolean) (by decide) (by decide)))).other W45 (Or.inr (slot_ne (C := "com/example/isolation_anomaly_finder/isolationanomalyfinder/Finding") (Or.inr (hw _ (List.mem_of_getElem? (i := 61) rfl))) (Or.inr (hw _ (List.mem_of_getElem? (i := 59) rfl))) (by decide) (t := (.object "java/lang/String")) (t' := (.object "java/lang/String")) (by decide) (by decide)))) ((((E1.wr W39).wr W41).wr W43).wr W45) (Or.inr ⟨(hw _ (List.mem_of_getElem? (i := 61) rfl)), rfl, hnm⟩) (hw _ (List.mem_of_getElem? (i := 1) rfl)) (ty := (.object "java/lang/String")) (by decide) rfl rfl (hb hby o_d9_28) fun T47 h47 X47 e47 W47 => ?_
  have F47 := Fld.same W47 ((((G4.other W39 (Or.inr (slot_ne (C := "com/example/isolation_anomaly_finder/isolationanomalyfinder/Finding") (Or.inr (hw _ (List.mem_of_getElem? (i := 61) rfl))) (Or.inr (hw _ (List.mem_of_getElem? (i := 53) rfl))) (by decide) (t := (.object "java/lang/String")) (t' := (.object "com/example/isolation_anomaly_finder/isolationanomalyfinder/IsolationLevel")) (by decide) (by decide)))).other W41 (Or.inr (slot_ne (C := "com/example/isolation_anomaly_finder/isolationanomalyfinder/Finding") (Or.inr (hw _ (List.mem_of_getElem? (i := 61) rfl))) (Or.inr (hw _ (List.mem_of_getElem? (i := 55) rfl))) (by decide) (t := (.object "java/lang/String")) (t' := (.object "java/lang/String")) (by decide) (by decide)))).other W43 (Or.inr (slot_ne (C := "com/example/isolation_anomaly_finder/isolationanomalyfinder/Finding") (Or.inr (hw _ (List.mem_of_getElem? (i := 61) rfl))) (Or.inr (hw _ (List.mem_of_getElem? (i := 57) rfl))) (by decide) (t := (.object "java/lang/String")) (t' := .boolean) (by decide) (by decide)))).other W45 (Or.inr (slot_ne (C := "com/example/isolation_anomaly_finder/isolationanomalyfinder/Finding") (Or.inr (hw _ (List.mem_of_getElem? (i := 61) rfl))) (Or.inr (hw _ (List.mem_of_getElem? (i := 59) rfl))) (by decide) (t := (.object "java/lang/String")) (t' := (.object "java/lang/String")) (by decide) (by decide))))
  have N47 := Fr.snoc X47 N45 g1
  have O48 := O46.wr W47 g1
  have K48 : Keep h0 h47 [a1] := K46.wr W47 (Or.inl (List.mem_of_getElem? (i := 0) rfl))
  exact o_ret0 (pc := 31) X47 hx hret hlk (hb hby o_d9_31) e47 (by decide) (by decide) ⟨rfl, N47, K48, ((((F39.other W41 (Or.inr (slot_ne (C := "com/example/isolation_anomaly_finder/isolationanomalyfinder/Finding") (Or.inr (hw _ (List.mem_of_getElem? (i := 53) rfl))) (Or.inr (hw _ (List.mem_of_getElem? (i := 55) rfl))) (by decide) (t := (.object "com/example/isolation_anomaly_finder/isolationanomalyfinder/IsolationLevel")) (t' := (.object "java/lang/String")) (by decide) (by decide)))).other W43 (Or.inr (slot_ne (C := "com/example/isolation_anomaly_finder/isolationanomalyfinder/Finding") (Or.inr (hw _ (List.mem_of_getElem? (i := 53) rfl))) (Or.inr (hw _ (List.mem_of_getElem? (i := 57) rfl))) (by decide) (t := (.object "com/example/isolation_anomaly_finder/isolationanomalyfinder/IsolationLevel")) (t' := .boolean) (by decide) (by decide)))).other W45 (Or.inr (slot_ne (C := "com/example/isolation_anomaly_finder/isolationanomalyfinder/Finding") (Or.inr (hw _ (List.mem_of_getElem? (i := 53) rfl))) (Or.inr (hw _ (List.mem_of_getElem? (i := 59) rfl))) (by decide) (t := (.object "com/example/isolation_anomaly_finder/isolationanomalyfinder/IsolationLevel")) (t' := (.object "java/lang/String")) (by decide) (by decide)))).other W47 (Or.inr (slot_ne (C := "com/example/isolation_anomaly_finder/isolationanomalyfinder/Finding") (Or.inr (hw _ (List.mem_of_getElem? (i := 53) rfl))) (Or.inr (hw _ (List.mem_of_getElem? (i := 61) rfl))) (by decide) (t := (.object "com/example/isolation_anomaly_finder/isolationanomalyfinder/IsolationLevel")) (t' := (.object "java/lang/String")) (by decide) (by decide)))), (((F41.other W43 (Or.inr (slot_ne (C := "com/example/isolation_anomaly_finder/isolationanomalyfinder/Finding") (Or.inr (hw _ (List.mem_of_getElem? (i := 55) rfl))) (Or.inr (hw _ (List.mem_of_getElem? (i := 57) rfl))) (by decide) (t := (.object "java/lang/String")) (t' := .boolean) (by decide) (by decide)))).other W45 (Or.inr (slot_ne (C := "com/example/isolation_anomaly_finder/isolationanomalyfinder/Finding") (Or.inr (hw _ (List.mem_of_getElem? (i := 55) rfl))) (Or.inr (hw _ (List.mem_of_getElem? (i := 59) rfl))) (by decide) (t := (.object "java/lang/String")) (t' := (.object "java/lang/String")) (by decide) (by decide)))).other W47 (Or.inr (slot_ne (C := "com/example/isolation_anomaly_finder/isolationanomalyfinder/Finding") (Or.inr (hw _ (List.mem_of_getElem? (i := 55) rfl))) (Or.inr (hw _ (List.mem_of_getElem? (i := 61) rfl))) (by decide) (t := (.object "java/lang/String")) (t' := (.object "java/lang/String")) (by decide) (by decide)))), ((F43.other W45 (Or.inr (slot_ne (C := "com/example/isolation_anomaly_finder/isolationanomalyfinder/Finding") (Or.inr (hw _ (List.mem_of_getElem? (i := 57) rfl))) (Or.inr (hw _ (List.mem_of_getElem? (i := 59) rfl))) (by decide) (t := .boolean) (t' := (.object "java/lang/String")) (by decide) (by decide)))).other W47 (Or.inr (slot_ne (C := "com/example/isolation_anomaly_finder/isolationanomalyfinder/Finding") (Or.inr (hw _ (List.mem_of_getElem? (i := 57) rfl))) (Or.inr (hw _ (List.mem_of_getElem? (i := 61) rfl))) (by decide) (t := .boolean) (t' := (.object "java/lang/String")) (by decide) (by decide)))), (F45.other W47 (Or.inr (slot_ne (C := "com/example/isolation_anomaly_finder/isolationanomalyfinder/Finding") (Or.inr (hw _ (List.mem_of_getElem? (i := 59) rfl))) (Or.inr (hw _ (List.mem_of_getElem? (i := 61) rfl))) (by decide) (t := (.object "java/lang/String")) (t' := (.object "java/lang/String")) (by decide) (by decide)))), F47⟩
theorem o_EW {Z : State} {a0 : Array Value} (hw : ∀ d ∈ tables_1, d.before a0 Z = true) : EW Z a0 consts_1 :=
  (EW.cons (hw _ (List.mem_of_getElem? (i := 84) rfl)) (by decide) (EW.cons (hw _ (List.mem_of_getElem? (i := 67) rfl)) (by decide) (EW.cons (hw _ (List.mem_of_getElem? (i := 76) rfl)) (by decide) (EW.cons (hw _ (List.mem_of_getElem? (i := 70) rfl)) (by decide) EW.nil))))
theorem o_d11_0 : decode prog_14_method_3_code 0 = .ok (.aload_n 0, 1) := by decide +kernel
theorem o_d11_1 : decode prog_14_method_3_code 1 = .ok (.getfield 17, 3) := by decide +kernel
theorem o_d11_4 : decode prog_14_method_3_code 4 = .ok (.ifCond .eq 8, 3) := by decide +kernel
theorem o_d11_7 : decode prog_14_method_3_code 7 = .ok (.ldc 67, 2) := by decide +kernel
theorem o_wS {Z : State} {a0 : Array Value} (hw : ∀ d ∈ tables_1, d.before a0 Z = true) : ∀ a ∈ Bundle.stringAtoms, a.before a0 Z = true := by
  intro a ha
  simp only [Bundle.stringAtoms, List.mem_cons, List.not_mem_nil, or_false] at ha
  rcases ha with rfl | rfl | rfl | rfl | rfl | rfl | rfl
  · exact (hw _ (List.mem_of_getElem? (i := 16) rfl))
  · exact (hw _ (List.mem_of_getElem? (i := 15) rfl))
  · exact (hw _ (List.mem_of_getElem? (i := 32) rfl))
  · exact (hw _ (List.mem_of_getElem? (i := 42) rfl))
  · exact (hw _ (List.mem_of_getElem? (i := 40) rfl))
  · exact (hw _ (List.mem_of_getElem? (i := 68) rfl))
  · exact (hw _ (List.mem_of_getElem? (i := 69) rfl))
theorem o_d11_9 : decode prog_14_method_3_code 9 = .ok (.goto 5, 3) := by decide +kernel
theorem o_d11_14 : decode prog_14_method_3_code 14 = .ok (.areturn, 1) := by decide +kernel
set_option maxRecDepth 65536 in
set_option maxHeartbeats 40000000 in
theorem rmV1 (l : Launch) (Z : State) (a0 : Array Value) (hw : ∀ d ∈ tables_1, d.before a0 Z = true) (ws : List Jvm.Cond) (a1 : Addr) (h0 : Heap) (n0 : Nat) (O0 : Old Z n0 h0) (FA : Fld Z h0 a1 "com/example/isolation_anomaly_finder/isolationanomalyfinder/Finding" "allowed" "Z" (.int (1 : Int32))) :
    CtH l Z consts_1 (⟨"com/example/isolation_anomaly_finder/isolationanomalyfinder/Finding", "verdict", "()Ljava/lang/String;"⟩ : MethodName) prog_14_method_3_code 1 (some (.object "java/lang/String")) ({ frames := 0, cells := 2, slots := 32, locals := 0 } : Room) ws #[(.ref a1)] h0 (fun v h L => ∃ b d k, v = some (.ref b) ∧ Fr n0 L ∧ Ext h0 h ∧ Exa Z h b "java/lang/String" ∧ Fld Z h b "java/lang/String" "coder" "B" (.int (0 : Int32)) ∧ Fld Z h b "java/lang/String" "value" "[B" (.ref d) ∧ Arv Z h d k .byte (7 : Int32) [(.int (97 : Int32)), (.int (108 : Int32)), (.int (108 : Int32)), (.int (111 : Int32)), (.int (119 : Int32)), (.int (101 : Int32)), (.int (100 : Int32))] (.int (0 : Int32))) := by
  refine o_bodyH (plainFor_of_name o_pn_com_example_isolation_anomaly_finder_isolationanomalyfinder_Finding) ?_
  intro p e s m below meth c s₁ X0 hx hby hml hret hlk hown hnm hZ e0 hh H0
  have N0 := Fr.nil n0
  have B0 := BsH.start H0
  refine o_top (g' := (mkF m 0 #[.val (.ref a1)] [])) (by first | (simp [entryFrame, mkF, argsToLocals, Value.category]; done) | rfl) ?_
  refine o_aloadN (v := (.ref a1)) (pc := 0) X0 hx (hb hby o_d11_0) rfl rfl ?_
  refine o_getF (pc := 1) X0 hx hZ hown (host := "") (Or.inl (hw _ (List.mem_of_getElem? (i := 56) rfl))) Via.refl e0 FA (hb hby o_d11_1) fun T49 X49 e49 => ?_
  refine o_ifNo (pc := 4) X49 hx (hb hby o_d11_4) ((if0 _ _).trans (feq (by decide : ¬ ((1 : Int32) = (0 : Int32)))).1) ?_
  refine o_ldcH (pc := 7) X49 hx hZ hown (hw _ (List.mem_of_getElem? (i := 84) rfl)) (o_wS hw) e49 (o_EW hw) (List.mem_of_getElem? (i := 0) rfl) B0 (vs := [(.int (97 : Int32)), (.int (108 : Int32)), (.int (108 : Int32)), (.int (111 : Int32)), (.int (119 : Int32)), (.int (101 : Int32)), (.int (100 : Int32))]) (z := (7 : Int32)) ⟨by decide, rfl⟩ (by decide) rfl (hb hby o_d11_7) 28 (by decide) (by decide) (by decide) (by decide) fun sB50 b50 T50 h50 d50 k50 X50 e50 E50 B50 hZ50 hown50 hC50 Le50 Lc50 Lv50 La50 => ?_
  have O51 := O0.ext E50
  have K51 : Keep h0 h50 [] := (Keep.refl h0 []).ext E50
  refine o_goto (pc := 9) X50 hx 14 (hb hby o_d11_9) (by decide) (by decide) ?_
  exact o_retAH (pc := 14) X50 hx hZ50 (o_EW hw) hh B50 hret hlk rfl rfl (hb hby o_d11_14) e50 (by decide) (by decide) ⟨b50, d50, k50, rfl, N0, o_keep0 K51, Le50, Lc50, Lv50, La50⟩
theorem o_d11_12 : decode prog_14_method_3_code 12 = .ok (.ldc 71, 2) := by decide +kernel
set_option maxRecDepth 65536 in
set_option maxHeartbeats 40000000 in
theorem rmV0 (l : Launch) (Z : State) (a0 : Array Value) (hw : ∀ d ∈ tables_1, d.before a0 Z = true) (ws : List Jvm.Cond) (a1 : Addr) (h0 : Heap) (n0 : Nat) (O0 : Old Z n0 h0) (FA : Fld Z h0 a1 "com/example/isolation_anomaly_finder/isolationanomalyfinder/Finding" "allowed" "Z" (.int (0 : Int32))) :
    CtH l Z consts_1 (⟨"com/example/isolation_anomaly_finder/isolationanomalyfinder/Finding", "verdict", "()Ljava/lang/String;"⟩ : MethodName) prog_14_method_3_code 1 (some (.object "java/lang/String")) ({ frames := 0, cells := 2, slots := 40, locals := 0 } : Room) ws #[(.ref a1)] h0 (fun v h L => ∃ b d k, v = some (.ref b) ∧ Fr n0 L ∧ Ext h0 h ∧ Exa Z h b "java/lang/String" ∧ Fld Z h b "java/lang/String" "coder" "B" (.int (0 : Int32)) ∧ Fld Z h b "java/lang/String" "value" "[B" (.ref d) ∧ Arv Z h d k .byte (9 : Int32) [(.int (112 : Int32)), (.int (114 : Int32)), (.int (101 : Int32)), (.int (118 : Int32)), (.int (101 : Int32)), (.int (110 : Int32)), (.int (116 : Int32)), (.int (101 : Int32)), (.int (100 : Int32))] (.int (0 : Int32))) := by
  refine o_bodyH (plainFor_of_name o_pn_com_example_isolation_anomaly_finder_isolationanomalyfinder_Finding) ?_
  intro p e s m below meth c s₁ X0 hx hby hml hret hlk hown hnm hZ e0 hh H0
  have N0 := Fr.nil n0
  have B0 := BsH.start H0
  refine o_top (g' := (mkF m 0 #[.val (.ref a1)] [])) (by first | (simp [entryFrame, mkF, argsToLocals, Value.category]; done) | rfl) ?_
  refine o_aloadN (v := (.ref a1)) (pc := 0) X0 hx (hb hby o_d11_0) rfl rfl ?_
  refine o_getF (pc := 1) X0 hx hZ hown (host := "") (Or.inl (hw _ (List.mem_of_getElem? (i := 56) rfl))) Via.refl e0 FA (hb hby o_d11_1) fun T52 X52 e52 => ?_
  refine o_ifYes (pc := 4) X52 hx 12 (hb hby o_d11_4) ((if0 _ _).trans (teq (by decide : (0 : Int32) = (0 : Int32))).1) (by decide) (by decide) ?_
  refine o_ldcH (pc := 12) X52 hx hZ hown (hw _ (List.mem_of_getElem? (i := 67) rfl)) (o_wS hw) e52 (o_EW hw) (List.mem_of_getElem? (i := 1) rfl) B0 (vs := [(.int (112 : Int32)), (.int (114 : Int32)), (.int (101 : Int32)), (.int (118 : Int32)), (.int (101 : Int32)), (.int (110 : Int32)), (.int (116 : Int32)), (.int (101 : Int32)), (.int (100 : Int32))]) (z := (9 : Int32)) ⟨by decide, rfl⟩ (by decide) rfl (hb hby o_d11_12) 36 (by decide) (by decide) (by decide) (by decide) fun sB53 b53 T53 h53 d53 k53 X53 e53 E53 B53 hZ53 hown53 hC53 Le53 Lc53 Lv53 La53 => ?_
  have O54 := O0.ext E53
  have K54 : Keep h0 h53 [] := (Keep.refl h0 []).ext E53
  exact o_retAH (pc := 14) X53 hx hZ53 (o_EW hw) hh B53 hret hlk rfl rfl (hb hby o_d11_14) e53 (by decide) (by decide) ⟨b53, d53, k53, rfl, N0, o_keep0 K54, Le53, Lc53, Lv53, La53⟩
theorem o_pn_java_lang_StringLatin1 : plainName "java/lang/StringLatin1" = true := by first | (simp [plainName, overriddenIn]; done) | decide +kernel
theorem o_d13_0 : decode jdk_43_method_13_code 0 = .ok (.aload_n 0, 1) := by decide +kernel
theorem o_d13_1 : decode jdk_43_method_13_code 1 = .ok (.arraylength, 1) := by decide +kernel
theorem o_d13_2 : decode jdk_43_method_13_code 2 = .ok (.aload_n 1, 1) := by decide +kernel
theorem o_d13_3 : decode jdk_43_method_13_code 3 = .ok (.arraylength, 1) := by decide +kernel
theorem o_d13_4 : decode jdk_43_method_13_code 4 = .ok (.if_icmp .ne 30, 3) := by decide +kernel
theorem o_d13_7 : decode jdk_43_method_13_code 7 = .ok (.iconst 0, 1) := by decide +kernel
theorem o_d13_8 : decode jdk_43_method_13_code 8 = .ok (.istore_n 2, 1) := by decide +kernel
theorem o_d13_9 : decode jdk_43_method_13_code 9 = .ok (.iload_n 2, 1) := by decide +kernel
theorem o_d13_10 : decode jdk_43_method_13_code 10 = .ok (.aload_n 0, 1) := by decide +kernel
theorem o_d13_11 : decode jdk_43_method_13_code 11 = .ok (.arraylength, 1) := by decide +kernel
theorem o_d13_12 : decode jdk_43_method_13_code 12 = .ok (.if_icmp .ge 20, 3) := by decide +kernel
theorem o_d13_15 : decode jdk_43_method_13_code 15 = .ok (.aload_n 0, 1) := by decide +kernel
theorem o_d13_16 : decode jdk_43_method_13_code 16 = .ok (.iload_n 2, 1) := by decide +kernel
theorem o_d13_17 : decode jdk_43_method_13_code 17 = .ok (.baload, 1) := by decide +kernel
theorem o_d13_18 : decode jdk_43_method_13_code 18 = .ok (.aload_n 1, 1) := by decide +kernel
theorem o_d13_19 : decode jdk_43_method_13_code 19 = .ok (.iload_n 2, 1) := by decide +kernel
theorem o_d13_20 : decode jdk_43_method_13_code 20 = .ok (.baload, 1) := by decide +kernel
theorem o_d13_21 : decode jdk_43_method_13_code 21 = .ok (.if_icmp .eq 5, 3) := by decide +kernel
theorem o_d13_26 : decode jdk_43_method_13_code 26 = .ok (.iinc 2 1, 3) := by decide +kernel
theorem o_d13_29 : decode jdk_43_method_13_code 29 = .ok (.goto (-20), 3) := by decide +kernel
theorem o_d13_32 : decode jdk_43_method_13_code 32 = .ok (.iconst 1, 1) := by decide +kernel
theorem o_d13_33 : decode jdk_43_method_13_code 33 = .ok (.ireturn, 1) := by decide +kernel
theorem o_d13_24 : decode jdk_43_method_13_code 24 = .ok (.iconst 0, 1) := by decide +kernel
theorem o_d13_25 : decode jdk_43_method_13_code 25 = .ok (.ireturn, 1) := by decide +kernel
set_option maxRecDepth 65536 in
set_option maxHeartbeats 40000000 in
theorem rmLE_7_7 (l : Launch) (Z : State) (a0 : Array Value) (hw : ∀ d ∈ tables_1, d.before a0 Z = true) (ws : List Jvm.Cond) (d1 d2 : Addr) (k1 k2 : ClassId) (x1 x2 x3 x4 x5 x6 x7 : Int32) (y1 y2 y3 y4 y5 y6 y7 : Int32) (h0 : Heap) (n0 : Nat) (O0 : Old Z n0 h0) (Vd1 : Arv Z h0 d1 k1 .byte (7 : Int32) [(.int x1), (.int x2), (.int x3), (.int x4), (.int x5), (.int x6), (.int x7)] (.int (0 : Int32))) (Vd2 : Arv Z h0 d2 k2 .byte (7 : Int32) [(.int y1), (.int y2), (.int y3), (.int y4), (.int y5), (.int y6), (.int y7)] (.int (0 : Int32))) :
    Ct l Z (⟨"java/lang/StringLatin1", "equals", "([B[B)Z"⟩ : MethodName) jdk_43_method_13_code 3 (some .boolean) ({ frames := 0, cells := 0, slots := 0, locals := 0 } : Room) ws #[(.ref d1), (.ref d2)] h0 (fun v h L => v = some (.int (if ([x1, x2, x3, x4, x5, x6, x7] : List Int32) = [y1, y2, y3, y4, y5, y6, y7] then (1 : Int32) else 0)) ∧ Fr n0 L ∧ h0 = h) := by
  refine o_body (plainFor_of_name o_pn_java_lang_StringLatin1) ?_
  intro p e s m below meth c s₁ X0 hx hby hml hret hlk hown hnm hZ e0
  have N0 := Fr.nil n0
  refine o_top (g' := (mkF m 0 #[.val (.ref d1), .val (.ref d2), .unset] [])) (by first | (simp [entryFrame, mkF, argsToLocals, Value.category]; done) | rfl) ?_
  refine o_aloadN (v := (.ref d1)) (pc := 0) X0 hx (hb hby o_d13_0) rfl rfl ?_
  refine o_arraylength (pc := 1) X0 hx hZ e0 Vd1 (hb hby o_d13_1) ?_
  refine o_aloadN (v := (.ref d2)) (pc := 2) X0 hx (hb hby o_d13_2) rfl rfl ?_
  refine o_arraylength (pc := 3) X0 hx hZ e0 Vd2 (hb hby o_d13_3) ?_
  refine o_icmpNo (pc := 4) X0 hx (hb hby o_d13_4) (teq (by decide : (7 : Int32) = (7 : Int32))).2 ?_
  refine o_iconst (pc := 7) X0 hx (0 : Int32) (hb hby o_d13_7) rfl ?_
  refine o_istoreN (l' := #[.val (.ref d1), .val (.ref d2), .val (.int (0 : Int32))]) (pc := 8) X0 hx (hb hby o_d13_8) rfl ?_
  refine o_iloadN (v := (0 : Int32)) (pc := 9) X0 hx (hb hby o_d13_9) rfl ?_
  refine o_aloadN (v := (.ref d1)) (pc := 10) X0 hx (hb hby o_d13_10) rfl rfl ?_
  refine o_arraylength (pc := 11) X0 hx hZ e0 Vd1 (hb hby o_d13_11) ?_
  refine o_icmpNo (pc := 12) X0 hx (hb hby o_d13_12) (tlt (by decide : (0 : Int32) < (7 : Int32))).2.1 ?_
  refine o_aloadN (v := (.ref d1)) (pc := 15) X0 hx (hb hby o_d13_15) rfl rfl ?_
  refine o_iloadN (v := (0 : Int32)) (pc := 16) X0 hx (hb hby o_d13_16) rfl ?_
  refine o_baload (v := (.int x1)) (pc := 17) X0 hx hZ e0 Vd1 ⟨by decide, by decide⟩ rfl (hb hby o_d13_17) ?_
  refine o_aloadN (v := (.ref d2)) (pc := 18) X0 hx (hb hby o_d13_18) rfl rfl ?_
  refine o_iloadN (v := (0 : Int32)) (pc := 19) X0 hx (hb hby o_d13_19) rfl ?_
  refine o_baload (v := (.int y1)) (pc := 20) X0 hx hZ e0 Vd2 ⟨by decide, by decide⟩ rfl (hb hby o_d13_20) ?_
  by_cases hc55 : x1 = y1
  · skip
    refine o_icmpYes (pc := 21) X0 hx 26 (hb hby o_d13_21) (teq hc55).1 (by decide) (by decide) ?_
    refine o_iinc (x := (0 : Int32)) (l' := #[.val (.ref d1), .val (.ref d2), .val (.int ((0 : Int32) + (1 : Int32)))]) (pc := 26) X0 hx (1 : Int32) (hb hby o_d13_26) rfl rfl rfl ?_
    rw [show ((0 : Int32) + (1 : Int32)) = (1 : Int32) from rfl]
    refine o_goto (pc := 29) X0 hx 9 (hb hby o_d13_29) (by decide) (by decide) ?_
    refine o_iloadN (v := (1 : Int32)) (pc := 9) X0 hx (hb hby o_d13_9) rfl ?_
    refine o_aloadN (v := (.ref d1)) (pc := 10) X0 hx (hb hby o_d13_10) rfl rfl ?_
    refine o_arraylength (pc := 11) X0 hx hZ e0 Vd1 (hb hby o_d13_11) ?_
    refine o_icmpNo (pc := 12) X0 hx (hb hby o_d13_12) (tlt (by decide : (1 : Int32) < (7 : Int32))).2.1 ?_
    refine o_aloadN (v := (.ref d1)) (pc := 15) X0 hx (hb hby o_d13_15) rfl rfl ?_
    refine o_iloadN (v := (1 : Int32)) (pc := 16) X0 hx (hb hby o_d13_16) rfl ?_
    refine o_baload (v := (.int x2)) (pc := 17) X0 hx hZ e0 Vd1 ⟨by decide, by decide⟩ rfl (hb hby o_d13_17) ?_
    refine o_aloadN (v := (.ref d2)) (pc := 18) X0 hx (hb hby o_d13_18) rfl rfl ?_
    refine o_iloadN (v := (1 : Int32)) (pc := 19) X0 hx (hb hby o_d13_19) rfl ?_
    refine o_baload (v := (.int y2)) (pc := 20) X0 hx hZ e0 Vd2 ⟨by decide, by decide⟩ rfl (hb hby o_d13_20) ?_
    by_cases hc56 : x2 = y2
    · skip
      refine o_icmpYes (pc := 21) X0 hx 26 (hb hby o_d13_21) (teq hc56).1 (by decide) (by decide) ?_
      refine o_iinc (x := (1 : Int32)) (l' := #[.val (.ref d1), .val (.ref d2), .val (.int ((1 : Int32) + (1 : Int32)))]) (pc := 26) X0 hx (1 : Int32) (hb hby o_d13_26) rfl rfl rfl ?_
      rw [show ((1 : Int32) + (1 : Int32)) = (2 : Int32) from rfl]
      refine o_goto (pc := 29) X0 hx 9 (hb hby o_d13_29) (by decide) (by decide) ?_
      refine o_iloadN (v := (2 : Int32)) (pc := 9) X0 hx (hb hby o_d13_9) rfl ?_
      refine o_aloadN (v := (.ref d1)) (pc := 10) X0 hx (hb hby o_d13_10) rfl rfl ?_
      refine o_arraylength (pc := 11) X0 hx hZ e0 Vd1 (hb hby o_d13_11) ?_
      refine o_icmpNo (pc := 12) X0 hx (hb hby o_d13_12) (tlt (by decide : (2 : Int32) < (7 : Int32))).2.1 ?_
      refine o_aloadN (v := (.ref d1)) (pc := 15) X0 hx (hb hby o_d13_15) rfl rfl ?_
      refine o_iloadN (v := (2 : Int32)) (pc := 16) X0 hx (hb hby o_d13_16) rfl ?_
      refine o_baload (v := (.int x3)) (pc := 17) X0 hx hZ e0 Vd1 ⟨by decide, by decide⟩ rfl (hb hby o_d13_17) ?_
      refine o_aloadN (v := (.ref d2)) (pc := 18) X0 hx (hb hby o_d13_18) rfl rfl ?_
      refine o_iloadN (v := (2 : Int32)) (pc := 19) X0 hx (hb hby o_d13_19) rfl ?_
      refine o_baload (v := (.int y3)) (pc := 20) X0 hx hZ e0 Vd2 ⟨by decide, by decide⟩ rfl (hb hby o_d13_20) ?_
      by_cases hc57 : x3 = y3
      · skip
        refine o_icmpYes (pc := 21) X0 hx 26 (hb hby o_d13_21) (teq hc57).1 (by decide) (by decide) ?_
        refine o_iinc (x := (2 : Int32)) (l' := #[.val (.ref d1), .val (.ref d2), .val (.int ((2 : Int32) + (1 : Int32)))]) (pc := 26) X0 hx (1 : Int32) (hb hby o_d13_26) rfl rfl rfl ?_
        rw [show ((2 : Int32) + (1 : Int32)) = (3 : Int32) from rfl]
        refine o_goto (pc := 29) X0 hx 9 (hb hby o_d13_29) (by decide) (by decide) ?_
        refine o_iloadN (v := (3 : Int32)) (pc := 9) X0 hx (hb hby o_d13_9) rfl ?_
        refine o_aloadN (v := (.ref d1)) (pc := 10) X0 hx (hb hby o_d13_10) rfl rfl ?_
        refine o_arraylength (pc := 11) X0 hx hZ e0 Vd1 (hb hby o_d13_11) ?_
        refine o_icmpNo (pc := 12) X0 hx (hb hby o_d13_12) (tlt (by decide : (3 : Int32) < (7 : Int32))).2.1 ?_
        refine o_aloadN (v := (.ref d1)) (pc := 15) X0 hx (hb hby o_d13_15) rfl rfl ?_
        refine o_iloadN (v := (3 : Int32)) (pc := 16) X0 hx (hb hby o_d13_16) rfl ?_
        refine o_baload (v := (.int x4)) (pc := 17) X0 hx hZ e0 Vd1 ⟨by decide, by decide⟩ rfl (hb hby o_d13_17) ?_
        refine o_aloadN (v := (.ref d2)) (pc := 18) X0 hx (hb hby o_d13_18) rfl rfl ?_
        refine o_iloadN (v := (3 : Int32)) (pc := 19) X0 hx (hb hby o_d13_19) rfl ?_
        refine o_baload (v := (.int y4)) (pc := 20) X0 hx hZ e0 Vd2 ⟨by decide, by decide⟩ rfl (hb hby o_d13_20) ?_
        by_cases hc58 : x4 = y4
        · skip
          refine o_icmpYes (pc := 21) X0 hx 26 (hb hby o_d13_21) (teq hc58).1 (by decide) (by decide) ?_
          refine o_iinc (x := (3 : Int32)) (l' := #[.val (.ref d1), .val (.ref d2), .val (.int ((3 : Int32) + (1 : Int32)))]) (pc := 26) X0 hx (1 : Int32) (hb hby o_d13_26) rfl rfl rfl ?_
          rw [show ((3 : Int32) + (1 : Int32)) = (4 : Int32) from rfl]
          refine o_goto (pc := 29) X0 hx 9 (hb hby o_d13_29) (by decide) (by decide) ?_
          refine o_iloadN (v := (4 : Int32)) (pc := 9) X0 hx (hb hby o_d13_9) rfl ?_
          refine o_aloadN (v := (.ref d1)) (pc := 10) X0 hx (hb hby o_d13_10) rfl rfl ?_
          refine o_arraylength (pc := 11) X0 hx hZ e0 Vd1 (hb hby o_d13_11) ?_
          refine o_icmpNo (pc := 12) X0 hx (hb hby o_d13_12) (tlt (by decide : (4 : Int32) < (7 : Int32))).2.1 ?_
          refine o_aloadN (v := (.ref d1)) (pc := 15) X0 hx (hb hby o_d13_15) rfl rfl ?_
          refine o_iloadN (v := (4 : Int32)) (pc := 16) X0 hx (hb hby o_d13_16) rfl ?_
          refine o_baload (v := (.int x5)) (pc := 17) X0 hx hZ e0 Vd1 ⟨by decide, by decide⟩ rfl (hb hby o_d13_17) ?_
          refine o_aloadN (v := (.ref d2)) (pc := 18) X0 hx (hb hby o_d13_18) rfl rfl ?_
          refine o_iloadN (v := (4 : Int32)) (pc := 19) X0 hx (hb hby o_d13_19) rfl ?_
          refine o_baload (v := (.int y5)) (pc := 20) X0 hx hZ e0 Vd2 ⟨by decide, by decide⟩ rfl (hb hby o_d13_20) ?_
          by_cases hc59 : x5 = y5
          · skip
            refine o_icmpYes (pc := 21) X0 hx 26 (hb hby o_d13_21) (teq hc59).1 (by decide) (by decide) ?_
            refine o_iinc (x := (4 : Int32)) (l' := #[.val (.ref d1), .val (.ref d2), .val (.int ((4 : Int32) + (1 : Int32)))]) (pc := 26) X0 hx (1 : Int32) (hb hby o_d13_26) rfl rfl rfl ?_
            rw [show ((4 : Int32) + (1 : Int32)) = (5 : Int32) from rfl]
            refine o_goto (pc := 29) X0 hx 9 (hb hby o_d13_29) (by decide) (by decide) ?_
            refine o_iloadN (v := (5 : Int32)) (pc := 9) X0 hx (hb hby o_d13_9) rfl ?_
            refine o_aloadN (v := (.ref d1)) (pc := 10) X0 hx (hb hby o_d13_10) rfl rfl ?_
            refine o_arraylength (pc := 11) X0 hx hZ e0 Vd1 (hb hby o_d13_11) ?_
            refine o_icmpNo (pc := 12) X0 hx (hb hby o_d13_12) (tlt (by decide : (5 : Int32) < (7 : Int32))).2.1 ?_
            refine o_aloadN (v := (.ref d1)) (pc := 15) X0 hx (hb hby o_d13_15) rfl rfl ?_
            refine o_iloadN (v := (5 : Int32)) (pc := 16) X0 hx (hb hby o_d13_16) rfl ?_
            refine o_baload (v := (.int x6)) (pc := 17) X0 hx hZ e0 Vd1 ⟨by decide, by decide⟩ rfl (hb hby o_d13_17) ?_
            refine o_aloadN (v := (.ref d2)) (pc := 18) X0 hx (hb hby o_d13_18) rfl rfl ?_
            refine o_iloadN (v := (5 : Int32)) (pc := 19) X0 hx (hb hby o_d13_19) rfl ?_
            refine o_baload (v := (.int y6)) (pc := 20) X0 hx hZ e0 Vd2 ⟨by decide, by decide⟩ rfl (hb hby o_d13_20) ?_
            by_cases hc60 : x6 = y6
            · skip
              refine o_icmpYes (pc := 21) X0 hx 26 (hb hby o_d13_21) (teq hc60).1 (by decide) (by decide) ?_
              refine o_iinc (x := (5 : Int32)) (l' := #[.val (.ref d1), .val (.ref d2), .val (.int ((5 : Int32) + (1 : Int32)))]) (pc := 26) X0 hx (1 : Int32) (hb hby o_d13_26) rfl rfl rfl ?_
              rw [show ((5 : Int32) + (1 : Int32)) = (6 : Int32) from rfl]
              refine o_goto (pc := 29) X0 hx 9 (hb hby o_d13_29) (by decide) (by decide) ?_
              refine o_iloadN (v := (6 : Int32)) (pc := 9) X0 hx (hb hby o_d13_9) rfl ?_
              refine o_aloadN (v := (.ref d1)) (pc := 10) X0 hx (hb hby o_d13_10) rfl rfl ?_
              refine o_arraylength (pc := 11) X0 hx hZ e0 Vd1 (hb hby o_d13_11) ?_
              refine o_icmpNo (pc := 12) X0 hx (hb hby o_d13_12) (tlt (by decide : (6 : Int32) < (7 : Int32))).2.1 ?_
              refine o_aloadN (v := (.ref d1)) (pc := 15) X0 hx (hb hby o_d13_15) rfl rfl ?_
              refine o_iloadN (v := (6 : Int32)) (pc := 16) X0 hx (hb hby o_d13_16) rfl ?_
              refine o_baload (v := (.int x7)) (pc := 17) X0 hx hZ e0 Vd1 ⟨by decide, by decide⟩ rfl (hb hby o_d13_17) ?_
              refine o_aloadN (v := (.ref d2)) (pc := 18) X0 hx (hb hby o_d13_18) rfl rfl ?_
              refine o_iloadN (v := (6 : Int32)) (pc := 19) X0 hx (hb hby o_d13_19) rfl ?_
              refine o_baload (v := (.int y7)) (pc := 20) X0 hx hZ e0 Vd2 ⟨by decide, by decide⟩ rfl (hb hby o_d13_20) ?_
              by_cases hc61 : x7 = y7
              · skip
                refine o_icmpYes (pc := 21) X0 hx 26 (hb hby o_d13_21) (teq hc61).1 (by decide) (by decide) ?_
                refine o_iinc (x := (6 : Int32)) (l' := #[.val (.ref d1), .val (.ref d2), .val (.int ((6 : Int32) + (1 : Int32)))]) (pc := 26) X0 hx (1 : Int32) (hb hby o_d13_26) rfl rfl rfl ?_
                rw [show ((6 : Int32) + (1 : Int32)) = (7 : Int32) from rfl]
                refine o_goto (pc := 29) X0 hx 9 (hb hby o_d13_29) (by decide) (by decide) ?_
                refine o_iloadN (v := (7 : Int32)) (pc := 9) X0 hx (hb hby o_d13_9) rfl ?_
                refine o_aloadN (v := (.ref d1)) (pc := 10) X0 hx (hb hby o_d13_10) rfl rfl ?_
                refine o_arraylength (pc := 11) X0 hx hZ e0 Vd1 (hb hby o_d13_11) ?_
                refine o_icmpYes (pc := 12) X0 hx 32 (hb hby o_d13_12) (flt (by decide : ¬ ((7 : Int32) < (7 : Int32)))).2.1 (by decide) (by decide) ?_
                refine o_iconst (pc := 32) X0 hx (1 : Int32) (hb hby o_d13_32) rfl ?_
                exact o_retN (pc := 33) X0 hx .boolean hret hlk (by simp) (hb hby o_d13_33) e0 (by decide) (by decide) ⟨by simp [nar, hc55, hc56, hc57, hc58, hc59, hc60, hc61], N0, rfl⟩
              · skip
                refine o_icmpNo (pc := 21) X0 hx (hb hby o_d13_21) (feq hc61).1 ?_
                refine o_iconst (pc := 24) X0 hx (0 : Int32) (hb hby o_d13_24) rfl ?_
                exact o_retN (pc := 25) X0 hx .boolean hret hlk (by simp) (hb hby o_d13_25) e0 (by decide) (by decide) ⟨by simp [nar, hc55, hc56, hc57, hc58, hc59, hc60, hc61], N0, rfl⟩
            · skip
              refine o_icmpNo (pc := 21) X0 hx (hb hby o_d13_21) (feq hc60).1 ?_
              refine o_iconst (pc := 24) X0 hx (0 : Int32) (hb hby o_d13_24) rfl ?_
              exact o_retN (pc := 25) X0 hx .boolean hret hlk (by simp) (hb hby o_d13_25) e0 (by decide) (by decide) ⟨by simp [nar, hc55, hc56, hc57, hc58, hc59, hc60], N0, rfl⟩
          · skip
            refine o_icmpNo (pc := 21) X0 hx (hb hby o_d13_21) (feq hc59).1 ?_
            refine o_iconst (pc := 24) X0 hx (0 : Int32) (hb hby o_d13_24) rfl ?_
            exact o_retN (pc := 25) X0 hx .boolean hret hlk (by simp) (hb hby o_d13_25) e0 (by decide) (by decide) ⟨by simp [nar, hc55, hc56, hc57, hc58, hc59], N0, rfl⟩
        · skip
          refine o_icmpNo (pc := 21) X0 hx (hb hby o_d13_21) (feq hc58).1 ?_
          refine o_iconst (pc := 24) X0 hx (0 : Int32) (hb hby o_d13_24) rfl ?_
          exact o_retN (pc := 25) X0 hx .boolean hret hlk (by simp) (hb hby o_d13_25) e0 (by decide) (by decide) ⟨by simp [nar, hc55, hc56, hc57, hc58], N0, rfl⟩
      · skip
        refine o_icmpNo (pc := 21) X0 hx (hb hby o_d13_21) (feq hc57).1 ?_
        refine o_iconst (pc := 24) X0 hx (0 : Int32) (hb hby o_d13_24) rfl ?_
        exact o_retN (pc := 25) X0 hx .boolean hret hlk (by simp) (hb hby o_d13_25) e0 (by decide) (by decide) ⟨by simp [nar, hc55, hc56, hc57], N0, rfl⟩
    · skip
      refine o_icmpNo (pc := 21) X0 hx (hb hby o_d13_21) (feq hc56).1 ?_
      refine o_iconst (pc := 24) X0 hx (0 : Int32) (hb hby o_d13_24) rfl ?_
      exact o_retN (pc := 25) X0 hx .boolean hret hlk (by simp) (hb hby o_d13_25) e0 (by decide) (by decide) ⟨by simp [nar, hc55, hc56], N0, rfl⟩
  · skip
    refine o_icmpNo (pc := 21) X0 hx (hb hby o_d13_21) (feq hc55).1 ?_
    refine o_iconst (pc := 24) X0 hx (0 : Int32) (hb hby o_d13_24) rfl ?_
    exact o_retN (pc := 25) X0 hx .boolean hret hlk (by simp) (hb hby o_d13_25) e0 (by decide) (by decide) ⟨by simp [nar, hc55], N0, rfl⟩
theorem o_d12_0 : decode jdk_42_method_66_code 0 = .ok (.aload_n 0, 1) := by decide +kernel
theorem o_d12_1 : decode jdk_42_method_66_code 1 = .ok (.aload_n 1, 1) := by decide +kernel
theorem o_d12_2 : decode jdk_42_method_66_code 2 = .ok (.if_acmp .ne 5, 3) := by decide +kernel
theorem o_d12_5 : decode jdk_42_method_66_code 5 = .ok (.iconst 1, 1) := by decide +kernel
theorem o_d12_6 : decode jdk_42_method_66_code 6 = .ok (.ireturn, 1) := by decide +kernel
theorem o_d12_7 : decode jdk_42_method_66_code 7 = .ok (.aload_n 1, 1) := by decide +kernel
theorem o_d12_8 : decode jdk_42_method_66_code 8 = .ok (.instanceof 10, 3) := by decide +kernel
theorem o_d12_11 : decode jdk_42_method_66_code 11 = .ok (.ifCond .eq 43, 3) := by decide +kernel
theorem o_d12_14 : decode jdk_42_method_66_code 14 = .ok (.aload_n 1, 1) := by decide +kernel
theorem o_d12_15 : decode jdk_42_method_66_code 15 = .ok (.checkcast 10, 3) := by decide +kernel
theorem o_d12_18 : decode jdk_42_method_66_code 18 = .ok (.astore_n 2, 1) := by decide +kernel
theorem o_d12_19 : decode jdk_42_method_66_code 19 = .ok (.getstatic 38, 3) := by decide +kernel
theorem o_d12_22 : decode jdk_42_method_66_code 22 = .ok (.ifCond .eq 14, 3) := by decide +kernel
theorem o_d12_25 : decode jdk_42_method_66_code 25 = .ok (.aload_n 0, 1) := by decide +kernel
theorem o_d12_26 : decode jdk_42_method_66_code 26 = .ok (.getfield 15, 3) := by decide +kernel
theorem o_d12_29 : decode jdk_42_method_66_code 29 = .ok (.aload_n 2, 1) := by decide +kernel
theorem o_d12_30 : decode jdk_42_method_66_code 30 = .ok (.getfield 15, 3) := by decide +kernel
theorem o_d12_33 : decode jdk_42_method_66_code 33 = .ok (.if_icmp .ne 21, 3) := by decide +kernel
theorem o_d12_36 : decode jdk_42_method_66_code 36 = .ok (.aload_n 0, 1) := by decide +kernel
theorem o_d12_37 : decode jdk_42_method_66_code 37 = .ok (.getfield 9, 3) := by decide +kernel
theorem o_d12_40 : decode jdk_42_method_66_code 40 = .ok (.aload_n 2, 1) := by decide +kernel
theorem o_d12_41 : decode jdk_42_method_66_code 41 = .ok (.getfield 9, 3) := by decide +kernel
theorem o_d12_44 : decode jdk_42_method_66_code 44 = .ok (.invokestatic 541, 3) := by decide +kernel
theorem o_pd6 : parseMethodDescriptor "([B[B)Z" = some ⟨[(.array .byte), (.array .byte)], some .boolean⟩ := by decide +kernel
theorem o_d12_47 : decode jdk_42_method_66_code 47 = .ok (.ifCond .eq 7, 3) := by decide +kernel
theorem o_d12_54 : decode jdk_42_method_66_code 54 = .ok (.iconst 0, 1) := by decide +kernel
theorem o_d12_55 : decode jdk_42_method_66_code 55 = .ok (.ireturn, 1) := by decide +kernel
theorem o_d12_50 : decode jdk_42_method_66_code 50 = .ok (.iconst 1, 1) := by decide +kernel
theorem o_d12_51 : decode jdk_42_method_66_code 51 = .ok (.goto 4, 3) := by decide +kernel
set_option maxRecDepth 65536 in
set_option maxHeartbeats 40000000 in
theorem rmEQ_7_7 (l : Launch) (Z : State) (a0 : Array Value) (hw : ∀ d ∈ tables_1, d.before a0 Z = true) (ws : List Jvm.Cond) (a1 a2 d1 d2 : Addr) (k1 k2 : ClassId) (cs : Int32) (x1 x2 x3 x4 x5 x6 x7 : Int32) (y1 y2 y3 y4 y5 y6 y7 : Int32) (h0 : Heap) (n0 : Nat) (O0 : Old Z n0 h0) (E1 : Exa Z h0 a1 "java/lang/String") (C1 : Fld Z h0 a1 "java/lang/String" "coder" "B" (.int (0 : Int32))) (F1 : Fld Z h0 a1 "java/lang/String" "value" "[B" (.ref d1)) (E2 : Exa Z h0 a2 "java/lang/String") (C2 : Fld Z h0 a2 "java/lang/String" "coder" "B" (.int (0 : Int32))) (F2 : Fld Z h0 a2 "java/lang/String" "value" "[B" (.ref d2)) (Vd1 : Arv Z h0 d1 k1 .byte (7 : Int32) [(.int x1), (.int x2), (.int x3), (.int x4), (.int x5), (.int x6), (.int x7)] (.int (0 : Int32))) (Vd2 : Arv Z h0 d2 k2 .byte (7 : Int32) [(.int y1), (.int y2), (.int y3), (.int y4), (.int y5), (.int y6), (.int y7)] (.int (0 : Int32))) (SC : Sta Z Z.heap "java/lang/String" "COMPACT_STRINGS" "Z" (.int cs)) (hcs : ¬ cs = (0 : Int32)) :
    Ct l Z (⟨"java/lang/String", "equals", "(Ljava/lang/Object;)Z"⟩ : MethodName) jdk_42_method_66_code 3 (some .boolean) ({ frames := 1, cells := 0, slots := 0, locals := 14 } : Room) ws #[(.ref a1), (.ref a2)] h0 (fun v h L => v = some (.int (if ([x1, x2, x3, x4, x5, x6, x7] : List Int32) = [y1, y2, y3, y4, y5, y6, y7] then (1 : Int32) else 0)) ∧ Fr n0 L ∧ h0 = h) := by
  refine o_body (plainFor_of_name o_pn_java_lang_String) ?_
  intro p e s m below meth c s₁ X0 hx hby hml hret hlk hown hnm hZ e0
  have N0 := Fr.nil n0
  refine o_top (g' := (mkF m 0 #[.val (.ref a1), .val (.ref a2), .unset] [])) (by first | (simp [entryFrame, mkF, argsToLocals, Value.category]; done) | rfl) ?_
  refine o_aloadN (v := (.ref a1)) (pc := 0) X0 hx (hb hby o_d12_0) rfl rfl ?_
  refine o_aloadN (v := (.ref a2)) (pc := 1) X0 hx (hb hby o_d12_1) rfl rfl ?_
  by_cases hc62 : a1 = a2
  · skip
    refine o_acmp (x := (.ref a1)) (y := (.ref a2)) (pc := 2) X0 hx 5 true rfl rfl (hb hby o_d12_2) (decide_eq_true (congrArg Value.ref hc62)) (by decide) (by decide) ?_
    refine o_iconst (pc := 5) X0 hx (1 : Int32) (hb hby o_d12_5) rfl ?_
    exact o_retN (pc := 6) X0 hx .boolean hret hlk (by simp) (hb hby o_d12_6) e0 (by decide) (by decide) ⟨by have q := o_same hc62 F1 F2 Vd1 Vd2 rfl rfl; simp [nar] at q ⊢ <;> (try exact q) <;> (try simp [q]), N0, rfl⟩
  · skip
    refine o_acmp (x := (.ref a1)) (y := (.ref a2)) (pc := 2) X0 hx 7 false rfl rfl (hb hby o_d12_2) (decide_eq_false fun q => hc62 (Value.ref.inj q)) (by decide) (by decide) ?_
    refine o_aloadN (v := (.ref a2)) (pc := 7) X0 hx (hb hby o_d12_7) rfl rfl ?_
    refine o_instY (pc := 8) X0 hx hZ hown (hw _ (List.mem_of_getElem? (i := 77) rfl)) e0 (Ins.self E2) (hb hby o_d12_8) fun T63 X63 e63 => ?_
    refine o_ifNo (pc := 11) X63 hx (hb hby o_d12_11) ((if0 _ _).trans (feq (by decide : ¬ ((1 : Int32) = (0 : Int32)))).1) ?_
    refine o_aloadN (v := (.ref a2)) (pc := 14) X63 hx (hb hby o_d12_14) rfl rfl ?_
    refine o_cast (pc := 15) X63 hx hZ hown (hw _ (List.mem_of_getElem? (i := 77) rfl)) e63 (Ins.self E2) (hb hby o_d12_15) fun T64 X64 e64 => ?_
    refine o_astoreN (l' := #[.val (.ref a1), .val (.ref a2), .val (.ref a2)]) (pc := 18) X64 hx (hb hby o_d12_18) rfl rfl ?_
    refine o_getS (pc := 19) X64 hx hZ hown (host := "") (Or.inl (hw _ (List.mem_of_getElem? (i := 27) rfl))) Via.refl e64 (SC.ext O0.2) (hb hby o_d12_19) fun T65 X65 e65 => ?_
    refine o_ifNo (pc := 22) X65 hx (hb hby o_d12_22) ((if0 _ _).trans (feq hcs).1) ?_
    refine o_aloadN (v := (.ref a1)) (pc := 25) X65 hx (hb hby o_d12_25) rfl rfl ?_
    refine o_getF (pc := 26) X65 hx hZ hown (host := "") (Or.inl (hw _ (List.mem_of_getElem? (i := 39) rfl))) Via.refl e65 C1 (hb hby o_d12_26) fun T66 X66 e66 => ?_
    refine o_aloadN (v := (.ref a2)) (pc := 29) X66 hx (hb hby o_d12_29) rfl rfl ?_
    refine o_getF (pc := 30) X66 hx hZ hown (host := "") (Or.inl (hw _ (List.mem_of_getElem? (i := 39) rfl))) Via.refl e66 C2 (hb hby o_d12_30) fun T67 X67 e67 => ?_
    refine o_icmpNo (pc := 33) X67 hx (hb hby o_d12_33) (teq (by decide : (0 : Int32) = (0 : Int32))).2 ?_
    refine o_aloadN (v := (.ref a1)) (pc := 36) X67 hx (hb hby o_d12_36) rfl rfl ?_
    refine o_getF (pc := 37) X67 hx hZ hown (host := "") (Or.inl (hw _ (List.mem_of_getElem? (i := 41) rfl))) Via.refl e67 F1 (hb hby o_d12_37) fun T68 X68 e68 => ?_
    refine o_aloadN (v := (.ref a2)) (pc := 40) X68 hx (hb hby o_d12_40) rfl rfl ?_
    refine o_getF (pc := 41) X68 hx hZ hown (host := "") (Or.inl (hw _ (List.mem_of_getElem? (i := 41) rfl))) Via.refl e68 F2 (hb hby o_d12_41) fun T69 X69 e69 => ?_
    refine o_callS (pc := 44) X69 hx hZ (y := (⟨"java/lang/StringLatin1", "equals", "([B[B)Z"⟩ : MethodName)) (argsL := [(.ref d1), (.ref d2)]) (rest := []) hown (hw _ (List.mem_of_getElem? (i := 78) rfl)) (hw _ (List.mem_of_getElem? (i := 79) rfl)) (hw _ (List.mem_of_getElem? (i := 80) rfl)) (hw _ (List.mem_of_getElem? (i := 81) rfl)) (by decide) (rmLE_7_7 l Z a0 hw [] d1 d2 k1 k2 x1 x2 x3 x4 x5 x6 x7 y1 y2 y3 y4 y5 y6 y7 h0 n0 O0 Vd1 Vd2) e69 (by rw [hml]; rfl) (lenOf o_pd6 rfl) (has := rfl) (hst := rfl) (W := 0) (Nat.le_of_ble_eq_true rfl) (hb hby o_d12_44) (by decide) (by decide) (by decide) (by decide) fun v70 T70 h70 L70 X70 e70 q70 => ?_
    obtain ⟨rfl, N70q, rfl⟩ := q70
    have N70 := Fr.app N0 N70q
    show Go p e below T70 (mkF m 47 #[.val (.ref a1), .val (.ref a2), .val (.ref a2)] [(.int (if ([x1, x2, x3, x4, x5, x6, x7] : List Int32) = [y1, y2, y3, y4, y5, y6, y7] then (1 : Int32) else 0))]) _
    by_cases hc71 : (if ([x1, x2, x3, x4, x5, x6, x7] : List Int32) = [y1, y2, y3, y4, y5, y6, y7] then (1 : Int32) else 0) = (0 : Int32)
    · skip
      refine o_ifYes (pc := 47) X70 hx 54 (hb hby o_d12_47) ((if0 _ _).trans (teq hc71).1) (by decide) (by decide) ?_
      refine o_iconst (pc := 54) X70 hx (0 : Int32) (hb hby o_d12_54) rfl ?_
      exact o_retN (pc := 55) X70 hx .boolean hret hlk (by simp) (hb hby o_d12_55) e70 (by decide) (by decide) ⟨by by_cases q : ([x1, x2, x3, x4, x5, x6, x7] : List Int32) = [y1, y2, y3, y4, y5, y6, y7]; (first | (rw [if_pos q] at hc71 ⊢; first | rfl | exact absurd hc71 (by decide)) | exact absurd q (by simp)); (first | (rw [if_neg q] at hc71 ⊢; first | rfl | exact absurd rfl hc71) | exact absurd rfl q), N70, rfl⟩
    · skip
      refine o_ifNo (pc := 47) X70 hx (hb hby o_d12_47) ((if0 _ _).trans (feq hc71).1) ?_
      refine o_iconst (pc := 50) X70 hx (1 : Int32) (hb hby o_d12_50) rfl ?_
      refine o_goto (pc := 51) X70 hx 55 (hb hby o_d12_51) (by decide) (by decide) ?_
      exact o_retN (pc := 55) X70 hx .boolean hret hlk (by simp) (hb hby o_d12_55) e70 (by decide) (by decide) ⟨by by_cases q : ([x1, x2, x3, x4, x5, x6, x7] : List Int32) = [y1, y2, y3, y4, y5, y6, y7]; (first | (rw [if_pos q] at hc71 ⊢; first | rfl | exact absurd hc71 (by decide)) | exact absurd q (by simp)); (first | (rw [if_neg q] at hc71 ⊢; first | rfl | exact absurd rfl hc71) | exact absurd rfl q), N70, rfl⟩
theorem o_d13_34 : decode jdk_43_method_13_code 34 = .ok (.iconst 0, 1) := by decide +kernel
theorem o_d13_35 : decode jdk_43_method_13_code 35 = .ok (.ireturn, 1) := by decide +kernel
set_option maxRecDepth 65536 in
set_option maxHeartbeats 40000000 in
theorem rmLE_7_9 (l : Launch) (Z : State) (a0 : Array Value) (hw : ∀ d ∈ tables_1, d.before a0 Z = true) (ws : List Jvm.Cond) (d1 d2 : Addr) (k1 k2 : ClassId) (x1 x2 x3 x4 x5 x6 x7 : Int32) (y1 y2 y3 y4 y5 y6 y7 y8 y9 : Int32) (h0 : Heap) (n0 : Nat) (O0 : Old Z n0 h0) (Vd1 : Arv Z h0 d1 k1 .byte (7 : Int32) [(.int x1), (.int x2), (.int x3), (.int x4), (.int x5), (.int x6), (.int x7)] (.int (0 : Int32))) (Vd2 : Arv Z h0 d2 k2 .byte (9 : Int32) [(.int y1), (.int y2), (.int y3), (.int y4), (.int y5), (.int y6), (.int y7), (.int y8), (.int y9)] (.int (0 : Int32))) :
    Ct l Z (⟨"java/lang/StringLatin1", "equals", "([B[B)Z"⟩ : MethodName) jdk_43_method_13_code 3 (some .boolean) ({ frames := 0, cells := 0, slots := 0, locals := 0 } : Room) ws #[(.ref d1), (.ref d2)] h0 (fun v h L => v = some (.int (if ([x1, x2, x3, x4, x5, x6, x7] : List Int32) = [y1, y2, y3, y4, y5, y6, y7, y8, y9] then (1 : Int32) else 0)) ∧ Fr n0 L ∧ h0 = h) := by
  refine o_body (plainFor_of_name o_pn_java_lang_StringLatin1) ?_
  intro p e s m below meth c s₁ X0 hx hby hml hret hlk hown hnm hZ e0
  have N0 := Fr.nil n0
  refine o_top (g' := (mkF m 0 #[.val (.ref d1), .val (.ref d2), .unset] [])) (by first | (simp [entryFrame, mkF, argsToLocals, Value.category]; done) | rfl) ?_
  refine o_aloadN (v := (.ref d1)) (pc := 0) X0 hx (hb hby o_d13_0) rfl rfl ?_
  refine o_arraylength (pc := 1) X0 hx hZ e0 Vd1 (hb hby o_d13_1) ?_
  refine o_aloadN (v := (.ref d2)) (pc := 2) X0 hx (hb hby o_d13_2) rfl rfl ?_
  refine o_arraylength (pc := 3) X0 hx hZ e0 Vd2 (hb hby o_d13_3) ?_
  refine o_icmpYes (pc := 4) X0 hx 34 (hb hby o_d13_4) (feq (by decide : ¬ ((7 : Int32) = (9 : Int32)))).2 (by decide) (by decide) ?_
  refine o_iconst (pc := 34) X0 hx (0 : Int32) (hb hby o_d13_34) rfl ?_
  exact o_retN (pc := 35) X0 hx .boolean hret hlk (by simp) (hb hby o_d13_35) e0 (by decide) (by decide) ⟨by simp [nar], N0, rfl⟩
set_option maxRecDepth 65536 in
set_option maxHeartbeats 40000000 in
theorem rmEQ_7_9 (l : Launch) (Z : State) (a0 : Array Value) (hw : ∀ d ∈ tables_1, d.before a0 Z = true) (ws : List Jvm.Cond) (a1 a2 d1 d2 : Addr) (k1 k2 : ClassId) (cs : Int32) (x1 x2 x3 x4 x5 x6 x7 : Int32) (y1 y2 y3 y4 y5 y6 y7 y8 y9 : Int32) (h0 : Heap) (n0 : Nat) (O0 : Old Z n0 h0) (E1 : Exa Z h0 a1 "java/lang/String") (C1 : Fld Z h0 a1 "java/lang/String" "coder" "B" (.int (0 : Int32))) (F1 : Fld Z h0 a1 "java/lang/String" "value" "[B" (.ref d1)) (E2 : Exa Z h0 a2 "java/lang/String") (C2 : Fld Z h0 a2 "java/lang/String" "coder" "B" (.int (0 : Int32))) (F2 : Fld Z h0 a2 "java/lang/String" "value" "[B" (.ref d2)) (Vd1 : Arv Z h0 d1 k1 .byte (7 : Int32) [(.int x1), (.int x2), (.int x3), (.int x4), (.int x5), (.int x6), (.int x7)] (.int (0 : Int32))) (Vd2 : Arv Z h0 d2 k2 .byte (9 : Int32) [(.int y1), (.int y2), (.int y3), (.int y4), (.int y5), (.int y6), (.int y7), (.int y8), (.int y9)] (.int (0 : Int32))) (SC : Sta Z Z.heap "java/lang/String" "COMPACT_STRINGS" "Z" (.int cs)) (hcs : ¬ cs = (0 : Int32)) :
    Ct l Z (⟨"java/lang/String", "equals", "(Ljava/lang/Object;)Z"⟩ : MethodName) jdk_42_method_66_code 3 (some .boolean) ({ frames := 1, cells := 0, slots := 0, locals := 14 } : Room) ws #[(.ref a1), (.ref a2)] h0 (fun v h L => v = some (.int (if ([x1, x2, x3, x4, x5, x6, x7] : List Int32) = [y1, y2, y3, y4, y5, y6, y7, y8, y9] then (1 : Int32) else 0)) ∧ Fr n0 L ∧ h0 = h) := by
  refine o_body (plainFor_of_name o_pn_java_lang_String) ?_
  intro p e s m below meth c s₁ X0 hx hby hml hret hlk hown hnm hZ e0
  have N0 := Fr.nil n0
  refine o_top (g' := (mkF m 0 #[.val (.ref a1), .val (.ref a2), .unset] [])) (by first | (simp [entryFrame, mkF, argsToLocals, Value.category]; done) | rfl) ?_
  refine o_aloadN (v := (.ref a1)) (pc := 0) X0 hx (hb hby o_d12_0) rfl rfl ?_
  refine o_aloadN (v := (.ref a2)) (pc := 1) X0 hx (hb hby o_d12_1) rfl rfl ?_
  by_cases hc72 : a1 = a2
  · skip
    refine o_acmp (x := (.ref a1)) (y := (.ref a2)) (pc := 2) X0 hx 5 true rfl rfl (hb hby o_d12_2) (decide_eq_true (congrArg Value.ref hc72)) (by decide) (by decide) ?_
    refine o_iconst (pc := 5) X0 hx (1 : Int32) (hb hby o_d12_5) rfl ?_
    exact o_retN (pc := 6) X0 hx .boolean hret hlk (by simp) (hb hby o_d12_6) e0 (by decide) (by decide) ⟨by have q := o_same hc72 F1 F2 Vd1 Vd2 rfl rfl; simp [nar] at q ⊢ <;> (try exact q) <;> (try simp [q]), N0, rfl⟩
  · skip
    refine o_acmp (x := (.ref a1)) (y := (.ref a2)) (pc := 2) X0 hx 7 false rfl rfl (hb hby o_d12_2) (decide_eq_false fun q => hc72 (Value.ref.inj q)) (by decide) (by decide) ?_
    refine o_aloadN (v := (.ref a2)) (pc := 7) X0 hx (hb hby o_d12_7) rfl rfl ?_
    refine o_instY (pc := 8) X0 hx hZ hown (hw _ (List.mem_of_getElem? (i := 77) rfl)) e0 (Ins.self E2) (hb hby o_d12_8) fun T73 X73 e73 => ?_
    refine o_ifNo (pc := 11) X73 hx (hb hby o_d12_11) ((if0 _ _).trans (feq (by decide : ¬ ((1 : Int32) = (0 : Int32)))).1) ?_
    refine o_aloadN (v := (.ref a2)) (pc := 14) X73 hx (hb hby o_d12_14) rfl rfl ?_
    refine o_cast (pc := 15) X73 hx hZ hown (hw _ (List.mem_of_getElem? (i := 77) rfl)) e73 (Ins.self E2) (hb hby o_d12_15) fun T74 X74 e74 => ?_
    refine o_astoreN (l' := #[.val (.ref a1), .val (.ref a2), .val (.ref a2)]) (pc := 18) X74 hx (hb hby o_d12_18) rfl rfl ?_
    refine o_getS (pc := 19) X74 hx hZ hown (host := "") (Or.inl (hw _ (List.mem_of_getElem? (i := 27) rfl))) Via.refl e74 (SC.ext O0.2) (hb hby o_d12_19) fun T75 X75 e75 => ?_
    refine o_ifNo (pc := 22) X75 hx (hb hby o_d12_22) ((if0 _ _).trans (feq hcs).1) ?_
    refine o_aloadN (v := (.ref a1)) (pc := 25) X75 hx (hb hby o_d12_25) rfl rfl ?_
    refine o_getF (pc := 26) X75 hx hZ hown (host := "") (Or.inl (hw _ (List.mem_of_getElem? (i := 39) rfl))) Via.refl e75 C1 (hb hby o_d12_26) fun T76 X76 e76 => ?_
    refine o_aloadN (v := (.ref a2)) (pc := 29) X76 hx (hb hby o_d12_29) rfl rfl ?_
    refine o_getF (pc := 30) X76 hx hZ hown (host := "") (Or.inl (hw _ (List.mem_of_getElem? (i := 39) rfl))) Via.refl e76 C2 (hb hby o_d12_30) fun T77 X77 e77 => ?_
    refine o_icmpNo (pc := 33) X77 hx (hb hby o_d12_33) (teq (by decide : (0 : Int32) = (0 : Int32))).2 ?_
    refine o_aloadN (v := (.ref a1)) (pc := 36) X77 hx (hb hby o_d12_36) rfl rfl ?_
    refine o_getF (pc := 37) X77 hx hZ hown (host := "") (Or.inl (hw _ (List.mem_of_getElem? (i := 41) rfl))) Via.refl e77 F1 (hb hby o_d12_37) fun T78 X78 e78 => ?_
    refine o_aloadN (v := (.ref a2)) (pc := 40) X78 hx (hb hby o_d12_40) rfl rfl ?_
    refine o_getF (pc := 41) X78 hx hZ hown (host := "") (Or.inl (hw _ (List.mem_of_getElem? (i := 41) rfl))) Via.refl e78 F2 (hb hby o_d12_41) fun T79 X79 e79 => ?_
    refine o_callS (pc := 44) X79 hx hZ (y := (⟨"java/lang/StringLatin1", "equals", "([B[B)Z"⟩ : MethodName)) (argsL := [(.ref d1), (.ref d2)]) (rest := []) hown (hw _ (List.mem_of_getElem? (i := 78) rfl)) (hw _ (List.mem_of_getElem? (i := 79) rfl)) (hw _ (List.mem_of_getElem? (i := 80) rfl)) (hw _ (List.mem_of_getElem? (i := 81) rfl)) (by decide) (rmLE_7_9 l Z a0 hw [] d1 d2 k1 k2 x1 x2 x3 x4 x5 x6 x7 y1 y2 y3 y4 y5 y6 y7 y8 y9 h0 n0 O0 Vd1 Vd2) e79 (by rw [hml]; rfl) (lenOf o_pd6 rfl) (has := rfl) (hst := rfl) (W := 0) (Nat.le_of_ble_eq_true rfl) (hb hby o_d12_44) (by decide) (by decide) (by decide) (by decide) fun v80 T80 h80 L80 X80 e80 q80 => ?_
    obtain ⟨rfl, N80q, rfl⟩ := q80
    have N80 := Fr.app N0 N80q
    show Go p e below T80 (mkF m 47 #[.val (.ref a1), .val (.ref a2), .val (.ref a2)] [(.int (if ([x1, x2, x3, x4, x5, x6, x7] : List Int32) = [y1, y2, y3, y4, y5, y6, y7, y8, y9] then (1 : Int32) else 0))]) _
    by_cases hc81 : (if ([x1, x2, x3, x4, x5, x6, x7] : List Int32) = [y1, y2, y3, y4, y5, y6, y7, y8, y9] then (1 : Int32) else 0) = (0 : Int32)
    · skip
      refine o_ifYes (pc := 47) X80 hx 54 (hb hby o_d12_47) ((if0 _ _).trans (teq hc81).1) (by decide) (by decide) ?_
      refine o_iconst (pc := 54) X80 hx (0 : Int32) (hb hby o_d12_54) rfl ?_
      exact o_retN (pc := 55) X80 hx .boolean hret hlk (by simp) (hb hby o_d12_55) e80 (by decide) (by decide) ⟨by by_cases q : ([x1, x2, x3, x4, x5, x6, x7] : List Int32) = [y1, y2, y3, y4, y5, y6, y7, y8, y9]; (first | (rw [if_pos q] at hc81 ⊢; first | rfl | exact absurd hc81 (by decide)) | exact absurd q (by simp)); (first | (rw [if_neg q] at hc81 ⊢; first | rfl | exact absurd rfl hc81) | exact absurd rfl q), N80, rfl⟩
    · skip
      refine o_ifNo (pc := 47) X80 hx (hb hby o_d12_47) ((if0 _ _).trans (feq hc81).1) ?_
      refine o_iconst (pc := 50) X80 hx (1 : Int32) (hb hby o_d12_50) rfl ?_
      refine o_goto (pc := 51) X80 hx 55 (hb hby o_d12_51) (by decide) (by decide) ?_
      exact o_retN (pc := 55) X80 hx .boolean hret hlk (by simp) (hb hby o_d12_55) e80 (by decide) (by decide) ⟨by by_cases q : ([x1, x2, x3, x4, x5, x6, x7] : List Int32) = [y1, y2, y3, y4, y5, y6, y7, y8, y9]; (first | (rw [if_pos q] at hc81 ⊢; first | rfl | exact absurd hc81 (by decide)) | exact absurd q (by simp)); (first | (rw [if_neg q] at hc81 ⊢; first | rfl | exact absurd rfl hc81) | exact absurd rfl q), N80, rfl⟩
set_option maxRecDepth 65536 in
set_option maxHeartbeats 40000000 in
theorem rmLE_9_9 (l : Launch) (Z : State) (a0 : Array Value) (hw : ∀ d ∈ tables_1, d.before a0 Z = true) (ws : List Jvm.Cond) (d1 d2 : Addr) (k1 k2 : ClassId) (x1 x2 x3 x4 x5 x6 x7 x8 x9 : Int32) (y1 y2 y3 y4 y5 y6 y7 y8 y9 : Int32) (h0 : Heap) (n0 : Nat) (O0 : Old Z n0 h0) (Vd1 : Arv Z h0 d1 k1 .byte (9 : Int32) [(.int x1), (.int x2), (.int x3), (.int x4), (.int x5), (.int x6), (.int x7), (.int x8), (.int x9)] (.int (0 : Int32))) (Vd2 : Arv Z h0 d2 k2 .byte (9 : Int32) [(.int y1), (.int y2), (.int y3), (.int y4), (.int y5), (.int y6), (.int y7), (.int y8), (.int y9)] (.int (0 : Int32))) :
    Ct l Z (⟨"java/lang/StringLatin1", "equals", "([B[B)Z"⟩ : MethodName) jdk_43_method_13_code 3 (some .boolean) ({ frames := 0, cells := 0, slots := 0, locals := 0 } : Room) ws #[(.ref d1), (.ref d2)] h0 (fun v h L => v = some (.int (if ([x1, x2, x3, x4, x5, x6, x7, x8, x9] : List Int32) = [y1, y2, y3, y4, y5, y6, y7, y8, y9] then (1 : Int32) else 0)) ∧ Fr n0 L ∧ h0 = h) := by
  refine o_body (plainFor_of_name o_pn_java_lang_StringLatin1) ?_
  intro p e s m below meth c s₁ X0 hx hby hml hret hlk hown hnm hZ e0
  have N0 := Fr.nil n0
  refine o_top (g' := (mkF m 0 #[.val (.ref d1), .val (.ref d2), .unset] [])) (by first | (simp [entryFrame, mkF, argsToLocals, Value.category]; done) | rfl) ?_
  refine o_aloadN (v := (.ref d1)) (pc := 0) X0 hx (hb hby o_d13_0) rfl rfl ?_
  refine o_arraylength (pc := 1) X0 hx hZ e0 Vd1 (hb hby o_d13_1) ?_
  refine o_aloadN (v := (.ref d2)) (pc := 2) X0 hx (hb hby o_d13_2) rfl rfl ?_
  refine o_arraylength (pc := 3) X0 hx hZ e0 Vd2 (hb hby o_d13_3) ?_
  refine o_icmpNo (pc := 4) X0 hx (hb hby o_d13_4) (teq (by decide : (9 : Int32) = (9 : Int32))).2 ?_
  refine o_iconst (pc := 7) X0 hx (0 : Int32) (hb hby o_d13_7) rfl ?_
  refine o_istoreN (l' := #[.val (.ref d1), .val (.ref d2), .val (.int (0 : Int32))]) (pc := 8) X0 hx (hb hby o_d13_8) rfl ?_
  refine o_iloadN (v := (0 : Int32)) (pc := 9) X0 hx (hb hby o_d13_9) rfl ?_
  refine o_aloadN (v := (.ref d1)) (pc := 10) X0 hx (hb hby o_d13_10) rfl rfl ?_
  refine o_arraylength (pc := 11) X0 hx hZ e0 Vd1 (hb hby o_d13_11) ?_
  refine o_icmpNo (pc := 12) X0 hx (hb hby o_d13_12) (tlt (by decide : (0 : Int32) < (9 : Int32))).2.1 ?_
  refine o_aloadN (v := (.ref d1)) (pc := 15) X0 hx (hb hby o_d13_15) rfl rfl ?_
  refine o_iloadN (v := (0 : Int32)) (pc := 16) X0 hx (hb hby o_d13_16) rfl ?_
  refine o_baload (v := (.int x1)) (pc := 17) X0 hx hZ e0 Vd1 ⟨by decide, by decide⟩ rfl (hb hby o_d13_17) ?_
  refine o_aloadN (v := (.ref d2)) (pc := 18) X0 hx (hb hby o_d13_18) rfl rfl ?_
  refine o_iloadN (v := (0 : Int32)) (pc := 19) X0 hx (hb hby o_d13_19) rfl ?_
  refine o_baload (v := (.int y1)) (pc := 20) X0 hx hZ e0 Vd2 ⟨by decide, by decide⟩ rfl (hb hby o_d13_20) ?_
  by_cases hc82 : x1 = y1
  · skip
    refine o_icmpYes (pc := 21) X0 hx 26 (hb hby o_d13_21) (teq hc82).1 (by decide) (by decide) ?_
    refine o_iinc (x := (0 : Int32)) (l' := #[.val (.ref d1), .val (.ref d2), .val (.int ((0 : Int32) + (1 : Int32)))]) (pc := 26) X0 hx (1 : Int32) (hb hby o_d13_26) rfl rfl rfl ?_
    rw [show ((0 : Int32) + (1 : Int32)) = (1 : Int32) from rfl]
    refine o_goto (pc := 29) X0 hx 9 (hb hby o_d13_29) (by decide) (by decide) ?_
    refine o_iloadN (v := (1 : Int32)) (pc := 9) X0 hx (hb hby o_d13_9) rfl ?_
    refine o_aloadN (v := (.ref d1)) (pc := 10) X0 hx (hb hby o_d13_10) rfl rfl ?_
    refine o_arraylength (pc := 11) X0 hx hZ e0 Vd1 (hb hby o_d13_11) ?_
    refine o_icmpNo (pc := 12) X0 hx (hb hby o_d13_12) (tlt (by decide : (1 : Int32) < (9 : Int32))).2.1 ?_
    refine o_aloadN (v := (.ref d1)) (pc := 15) X0 hx (hb hby o_d13_15) rfl rfl ?_
    refine o_iloadN (v := (1 : Int32)) (pc := 16) X0 hx (hb hby o_d13_16) rfl ?_
    refine o_baload (v := (.int x2)) (pc := 17) X0 hx hZ e0 Vd1 ⟨by decide, by decide⟩ rfl (hb hby o_d13_17) ?_
    refine o_aloadN (v := (.ref d2)) (pc := 18) X0 hx (hb hby o_d13_18) rfl rfl ?_
    refine o_iloadN (v := (1 : Int32)) (pc := 19) X0 hx (hb hby o_d13_19) rfl ?_
    refine o_baload (v := (.int y2)) (pc := 20) X0 hx hZ e0 Vd2 ⟨by decide, by decide⟩ rfl (hb hby o_d13_20) ?_
    by_cases hc83 : x2 = y2
    · skip
      refine o_icmpYes (pc := 21) X0 hx 26 (hb hby o_d13_21) (teq hc83).1 (by decide) (by decide) ?_
      refine o_iinc (x := (1 : Int32)) (l' := #[.val (.ref d1), .val (.ref d2), .val (.int ((1 : Int32) + (1 : Int32)))]) (pc := 26) X0 hx (1 : Int32) (hb hby o_d13_26) rfl rfl rfl ?_
      rw [show ((1 : Int32) + (1 : Int32)) = (2 : Int32) from rfl]
      refine o_goto (pc := 29) X0 hx 9 (hb hby o_d13_29) (by decide) (by decide) ?_
      refine o_iloadN (v := (2 : Int32)) (pc := 9) X0 hx (hb hby o_d13_9) rfl ?_
      refine o_aloadN (v := (.ref d1)) (pc := 10) X0 hx (hb hby o_d13_10) rfl rfl ?_
      refine o_arraylength (pc := 11) X0 hx hZ e0 Vd1 (hb hby o_d13_11) ?_
      refine o_icmpNo (pc := 12) X0 hx (hb hby o_d13_12) (tlt (by decide : (2 : Int32) < (9 : Int32))).2.1 ?_
      refine o_aloadN (v := (.ref d1)) (pc := 15) X0 hx (hb hby o_d13_15) rfl rfl ?_
      refine o_iloadN (v := (2 : Int32)) (pc := 16) X0 hx (hb hby o_d13_16) rfl ?_
      refine o_baload (v := (.int x3)) (pc := 17) X0 hx hZ e0 Vd1 ⟨by decide, by decide⟩ rfl (hb hby o_d13_17) ?_
      refine o_aloadN (v := (.ref d2)) (pc := 18) X0 hx (hb hby o_d13_18) rfl rfl ?_
      refine o_iloadN (v := (2 : Int32)) (pc := 19) X0 hx (hb hby o_d13_19) rfl ?_
      refine o_baload (v := (.int y3)) (pc := 20) X0 hx hZ e0 Vd2 ⟨by decide, by decide⟩ rfl (hb hby o_d13_20) ?_
      by_cases hc84 : x3 = y3
      · skip
        refine o_icmpYes (pc := 21) X0 hx 26 (hb hby o_d13_21) (teq hc84).1 (by decide) (by decide) ?_
        refine o_iinc (x := (2 : Int32)) (l' := #[.val (.ref d1), .val (.ref d2), .val (.int ((2 : Int32) + (1 : Int32)))]) (pc := 26) X0 hx (1 : Int32) (hb hby o_d13_26) rfl rfl rfl ?_
        rw [show ((2 : Int32) + (1 : Int32)) = (3 : Int32) from rfl]
        refine o_goto (pc := 29) X0 hx 9 (hb hby o_d13_29) (by decide) (by decide) ?_
        refine o_iloadN (v := (3 : Int32)) (pc := 9) X0 hx (hb hby o_d13_9) rfl ?_
        refine o_aloadN (v := (.ref d1)) (pc := 10) X0 hx (hb hby o_d13_10) rfl rfl ?_
        refine o_arraylength (pc := 11) X0 hx hZ e0 Vd1 (hb hby o_d13_11) ?_
        refine o_icmpNo (pc := 12) X0 hx (hb hby o_d13_12) (tlt (by decide : (3 : Int32) < (9 : Int32))).2.1 ?_
        refine o_aloadN (v := (.ref d1)) (pc := 15) X0 hx (hb hby o_d13_15) rfl rfl ?_
        refine o_iloadN (v := (3 : Int32)) (pc := 16) X0 hx (hb hby o_d13_16) rfl ?_
        refine o_baload (v := (.int x4)) (pc := 17) X0 hx hZ e0 Vd1 ⟨by decide, by decide⟩ rfl (hb hby o_d13_17) ?_
        refine o_aloadN (v := (.ref d2)) (pc := 18) X0 hx (hb hby o_d13_18) rfl rfl ?_
        refine o_iloadN (v := (3 : Int32)) (pc := 19) X0 hx (hb hby o_d13_19) rfl ?_
        refine o_baload (v := (.int y4)) (pc := 20) X0 hx hZ e0 Vd2 ⟨by decide, by decide⟩ rfl (hb hby o_d13_20) ?_
        by_cases hc85 : x4 = y4
        · skip
          refine o_icmpYes (pc := 21) X0 hx 26 (hb hby o_d13_21) (teq hc85).1 (by decide) (by decide) ?_
          refine o_iinc (x := (3 : Int32)) (l' := #[.val (.ref d1), .val (.ref d2), .val (.int ((3 : Int32) + (1 : Int32)))]) (pc := 26) X0 hx (1 : Int32) (hb hby o_d13_26) rfl rfl rfl ?_
          rw [show ((3 : Int32) + (1 : Int32)) = (4 : Int32) from rfl]
          refine o_goto (pc := 29) X0 hx 9 (hb hby o_d13_29) (by decide) (by decide) ?_
          refine o_iloadN (v := (4 : Int32)) (pc := 9) X0 hx (hb hby o_d13_9) rfl ?_
          refine o_aloadN (v := (.ref d1)) (pc := 10) X0 hx (hb hby o_d13_10) rfl rfl ?_
          refine o_arraylength (pc := 11) X0 hx hZ e0 Vd1 (hb hby o_d13_11) ?_
          refine o_icmpNo (pc := 12) X0 hx (hb hby o_d13_12) (tlt (by decide : (4 : Int32) < (9 : Int32))).2.1 ?_
          refine o_aloadN (v := (.ref d1)) (pc := 15) X0 hx (hb hby o_d13_15) rfl rfl ?_
          refine o_iloadN (v := (4 : Int32)) (pc := 16) X0 hx (hb hby o_d13_16) rfl ?_
          refine o_baload (v := (.int x5)) (pc := 17) X0 hx hZ e0 Vd1 ⟨by decide, by decide⟩ rfl (hb hby o_d13_17) ?_
          refine o_aloadN (v := (.ref d2)) (pc := 18) X0 hx (hb hby o_d13_18) rfl rfl ?_
          refine o_iloadN (v := (4 : Int32)) (pc := 19) X0 hx (hb hby o_d13_19) rfl ?_
          refine o_baload (v := (.int y5)) (pc := 20) X0 hx hZ e0 Vd2 ⟨by decide, by decide⟩ rfl (hb hby o_d13_20) ?_
          by_cases hc86 : x5 = y5
          · skip
            refine o_icmpYes (pc := 21) X0 hx 26 (hb hby o_d13_21) (teq hc86).1 (by decide) (by decide) ?_
            refine o_iinc (x := (4 : Int32)) (l' := #[.val (.ref d1), .val (.ref d2), .val (.int ((4 : Int32) + (1 : Int32)))]) (pc := 26) X0 hx (1 : Int32) (hb hby o_d13_26) rfl rfl rfl ?_
            rw [show ((4 : Int32) + (1 : Int32)) = (5 : Int32) from rfl]
            refine o_goto (pc := 29) X0 hx 9 (hb hby o_d13_29) (by decide) (by decide) ?_
            refine o_iloadN (v := (5 : Int32)) (pc := 9) X0 hx (hb hby o_d13_9) rfl ?_
            refine o_aloadN (v := (.ref d1)) (pc := 10) X0 hx (hb hby o_d13_10) rfl rfl ?_
            refine o_arraylength (pc := 11) X0 hx hZ e0 Vd1 (hb hby o_d13_11) ?_
            refine o_icmpNo (pc := 12) X0 hx (hb hby o_d13_12) (tlt (by decide : (5 : Int32) < (9 : Int32))).2.1 ?_
            refine o_aloadN (v := (.ref d1)) (pc := 15) X0 hx (hb hby o_d13_15) rfl rfl ?_
            refine o_iloadN (v := (5 : Int32)) (pc := 16) X0 hx (hb hby o_d13_16) rfl ?_
            refine o_baload (v := (.int x6)) (pc := 17) X0 hx hZ e0 Vd1 ⟨by decide, by decide⟩ rfl (hb hby o_d13_17) ?_
            refine o_aloadN (v := (.ref d2)) (pc := 18) X0 hx (hb hby o_d13_18) rfl rfl ?_
            refine o_iloadN (v := (5 : Int32)) (pc := 19) X0 hx (hb hby o_d13_19) rfl ?_
            refine o_baload (v := (.int y6)) (pc := 20) X0 hx hZ e0 Vd2 ⟨by decide, by decide⟩ rfl (hb hby o_d13_20) ?_
            by_cases hc87 : x6 = y6
            · skip
              refine o_icmpYes (pc := 21) X0 hx 26 (hb hby o_d13_21) (teq hc87).1 (by decide) (by decide) ?_
              refine o_iinc (x := (5 : Int32)) (l' := #[.val (.ref d1), .val (.ref d2), .val (.int ((5 : Int32) + (1 : Int32)))]) (pc := 26) X0 hx (1 : Int32) (hb hby o_d13_26) rfl rfl rfl ?_
              rw [show ((5 : Int32) + (1 : Int32)) = (6 : Int32) from rfl]
              refine o_goto (pc := 29) X0 hx 9 (hb hby o_d13_29) (by decide) (by decide) ?_
              refine o_iloadN (v := (6 : Int32)) (pc := 9) X0 hx (hb hby o_d13_9) rfl ?_
              refine o_aloadN (v := (.ref d1)) (pc := 10) X0 hx (hb hby o_d13_10) rfl rfl ?_
              refine o_arraylength (pc := 11) X0 hx hZ e0 Vd1 (hb hby o_d13_11) ?_
              refine o_icmpNo (pc := 12) X0 hx (hb hby o_d13_12) (tlt (by decide : (6 : Int32) < (9 : Int32))).2.1 ?_
              refine o_aloadN (v := (.ref d1)) (pc := 15) X0 hx (hb hby o_d13_15) rfl rfl ?_
              refine o_iloadN (v := (6 : Int32)) (pc := 16) X0 hx (hb hby o_d13_16) rfl ?_
              refine o_baload (v := (.int x7)) (pc := 17) X0 hx hZ e0 Vd1 ⟨by decide, by decide⟩ rfl (hb hby o_d13_17) ?_
              refine o_aloadN (v := (.ref d2)) (pc := 18) X0 hx (hb hby o_d13_18) rfl rfl ?_
              refine o_iloadN (v := (6 : Int32)) (pc := 19) X0 hx (hb hby o_d13_19) rfl ?_
              refine o_baload (v := (.int y7)) (pc := 20) X0 hx hZ e0 Vd2 ⟨by decide, by decide⟩ rfl (hb hby o_d13_20) ?_
              by_cases hc88 : x7 = y7
              · skip
                refine o_icmpYes (pc := 21) X0 hx 26 (hb hby o_d13_21) (teq hc88).1 (by decide) (by decide) ?_
                refine o_iinc (x := (6 : Int32)) (l' := #[.val (.ref d1), .val (.ref d2), .val (.int ((6 : Int32) + (1 : Int32)))]) (pc := 26) X0 hx (1 : Int32) (hb hby o_d13_26) rfl rfl rfl ?_
                rw [show ((6 : Int32) + (1 : Int32)) = (7 : Int32) from rfl]
                refine o_goto (pc := 29) X0 hx 9 (hb hby o_d13_29) (by decide) (by decide) ?_
                refine o_iloadN (v := (7 : Int32)) (pc := 9) X0 hx (hb hby o_d13_9) rfl ?_
                refine o_aloadN (v := (.ref d1)) (pc := 10) X0 hx (hb hby o_d13_10) rfl rfl ?_
                refine o_arraylength (pc := 11) X0 hx hZ e0 Vd1 (hb hby o_d13_11) ?_
                refine o_icmpNo (pc := 12) X0 hx (hb hby o_d13_12) (tlt (by decide : (7 : Int32) < (9 : Int32))).2.1 ?_
                refine o_aloadN (v := (.ref d1)) (pc := 15) X0 hx (hb hby o_d13_15) rfl rfl ?_
                refine o_iloadN (v := (7 : Int32)) (pc := 16) X0 hx (hb hby o_d13_16) rfl ?_
                refine o_baload (v := (.int x8)) (pc := 17) X0 hx hZ e0 Vd1 ⟨by decide, by decide⟩ rfl (hb hby o_d13_17) ?_
                refine o_aloadN (v := (.ref d2)) (pc := 18) X0 hx (hb hby o_d13_18) rfl rfl ?_
                refine o_iloadN (v := (7 : Int32)) (pc := 19) X0 hx (hb hby o_d13_19) rfl ?_
                refine o_baload (v := (.int y8)) (pc := 20) X0 hx hZ e0 Vd2 ⟨by decide, by decide⟩ rfl (hb hby o_d13_20) ?_
                by_cases hc89 : x8 = y8
                · skip
                  refine o_icmpYes (pc := 21) X0 hx 26 (hb hby o_d13_21) (teq hc89).1 (by decide) (by decide) ?_
                  refine o_iinc (x := (7 : Int32)) (l' := #[.val (.ref d1), .val (.ref d2), .val (.int ((7 : Int32) + (1 : Int32)))]) (pc := 26) X0 hx (1 : Int32) (hb hby o_d13_26) rfl rfl rfl ?_
                  rw [show ((7 : Int32) + (1 : Int32)) = (8 : Int32) from rfl]
                  refine o_goto (pc := 29) X0 hx 9 (hb hby o_d13_29) (by decide) (by decide) ?_
                  refine o_iloadN (v := (8 : Int32)) (pc := 9) X0 hx (hb hby o_d13_9) rfl ?_
                  refine o_aloadN (v := (.ref d1)) (pc := 10) X0 hx (hb hby o_d13_10) rfl rfl ?_
                  refine o_arraylength (pc := 11) X0 hx hZ e0 Vd1 (hb hby o_d13_11) ?_
                  refine o_icmpNo (pc := 12) X0 hx (hb hby o_d13_12) (tlt (by decide : (8 : Int32) < (9 : Int32))).2.1 ?_
                  refine o_aloadN (v := (.ref d1)) (pc := 15) X0 hx (hb hby o_d13_15) rfl rfl ?_
                  refine o_iloadN (v := (8 : Int32)) (pc := 16) X0 hx (hb hby o_d13_16) rfl ?_
                  refine o_baload (v := (.int x9)) (pc := 17) X0 hx hZ e0 Vd1 ⟨by decide, by decide⟩ rfl (hb hby o_d13_17) ?_
                  refine o_aloadN (v := (.ref d2)) (pc := 18) X0 hx (hb hby o_d13_18) rfl rfl ?_
                  refine o_iloadN (v := (8 : Int32)) (pc := 19) X0 hx (hb hby o_d13_19) rfl ?_
                  refine o_baload (v := (.int y9)) (pc := 20) X0 hx hZ e0 Vd2 ⟨by decide, by decide⟩ rfl (hb hby o_d13_20) ?_
                  by_cases hc90 : x9 = y9
                  · skip
                    refine o_icmpYes (pc := 21) X0 hx 26 (hb hby o_d13_21) (teq hc90).1 (by decide) (by decide) ?_
                    refine o_iinc (x := (8 : Int32)) (l' := #[.val (.ref d1), .val (.ref d2), .val (.int ((8 : Int32) + (1 : Int32)))]) (pc := 26) X0 hx (1 : Int32) (hb hby o_d13_26) rfl rfl rfl ?_
                    rw [show ((8 : Int32) + (1 : Int32)) = (9 : Int32) from rfl]
                    refine o_goto (pc := 29) X0 hx 9 (hb hby o_d13_29) (by decide) (by decide) ?_
                    refine o_iloadN (v := (9 : Int32)) (pc := 9) X0 hx (hb hby o_d13_9) rfl ?_
                    refine o_aloadN (v := (.ref d1)) (pc := 10) X0 hx (hb hby o_d13_10) rfl rfl ?_
                    refine o_arraylength (pc := 11) X0 hx hZ e0 Vd1 (hb hby o_d13_11) ?_
                    refine o_icmpYes (pc := 12) X0 hx 32 (hb hby o_d13_12) (flt (by decide : ¬ ((9 : Int32) < (9 : Int32)))).2.1 (by decide) (by decide) ?_
                    refine o_iconst (pc := 32) X0 hx (1 : Int32) (hb hby o_d13_32) rfl ?_
                    exact o_retN (pc := 33) X0 hx .boolean hret hlk (by simp) (hb hby o_d13_33) e0 (by decide) (by decide) ⟨by simp [nar, hc82, hc83, hc84, hc85, hc86, hc87, hc88, hc89, hc90], N0, rfl⟩
                  · skip
                    refine o_icmpNo (pc := 21) X0 hx (hb hby o_d13_21) (feq hc90).1 ?_
                    refine o_iconst (pc := 24) X0 hx (0 : Int32) (hb hby o_d13_24) rfl ?_
                    exact o_retN (pc := 25) X0 hx .boolean hret hlk (by simp) (hb hby o_d13_25) e0 (by decide) (by decide) ⟨by simp [nar, hc82, hc83, hc84, hc85, hc86, hc87, hc88, hc89, hc90], N0, rfl⟩
                · skip
                  refine o_icmpNo (pc := 21) X0 hx (hb hby o_d13_21) (feq hc89).1 ?_
                  refine o_iconst (pc := 24) X0 hx (0 : Int32) (hb hby o_d13_24) rfl ?_
                  exact o_retN (pc := 25) X0 hx .boolean hret hlk (by simp) (hb hby o_d13_25) e0 (by decide) (by decide) ⟨by simp [nar, hc82, hc83, hc84, hc85, hc86, hc87, hc88, hc89], N0, rfl⟩
              · skip
                refine o_icmpNo (pc := 21) X0 hx (hb hby o_d13_21) (feq hc88).1 ?_
                refine o_iconst (pc := 24) X0 hx (0 : Int32) (hb hby o_d13_24) rfl ?_
                exact o_retN (pc := 25) X0 hx .boolean hret hlk (by simp) (hb hby o_d13_25) e0 (by decide) (by decide) ⟨by simp [nar, hc82, hc83, hc84, hc85, hc86, hc87, hc88], N0, rfl⟩
            · skip
              refine o_icmpNo (pc := 21) X0 hx (hb hby o_d13_21) (feq hc87).1 ?_
              refine o_iconst (pc := 24) X0 hx (0 : Int32) (hb hby o_d13_24) rfl ?_
              exact o_retN (pc := 25) X0 hx .boolean hret hlk (by simp) (hb hby o_d13_25) e0 (by decide) (by decide) ⟨by simp [nar, hc82, hc83, hc84, hc85, hc86, hc87], N0, rfl⟩
          · skip
            refine o_icmpNo (pc := 21) X0 hx (hb hby o_d13_21) (feq hc86).1 ?_
            refine o_iconst (pc := 24) X0 hx (0 : Int32) (hb hby o_d13_24) rfl ?_
            exact o_retN (pc := 25) X0 hx .boolean hret hlk (by simp) (hb hby o_d13_25) e0 (by decide) (by decide) ⟨by simp [nar, hc82, hc83, hc84, hc85, hc86], N0, rfl⟩
        · skip
          refine o_icmpNo (pc := 21) X0 hx (hb hby o_d13_21) (feq hc85).1 ?_
          refine o_iconst (pc := 24) X0 hx (0 : Int32) (hb hby o_d13_24) rfl ?_
          exact o_retN (pc := 25) X0 hx .boolean hret hlk (by simp) (hb hby o_d13_25) e0 (by decide) (by decide) ⟨by simp [nar, hc82, hc83, hc84, hc85], N0, rfl⟩
      · skip
        refine o_icmpNo (pc := 21) X0 hx (hb hby o_d13_21) (feq hc84).1 ?_
        refine o_iconst (pc := 24) X0 hx (0 : Int32) (hb hby o_d13_24) rfl ?_
        exact o_retN (pc := 25) X0 hx .boolean hret hlk (by simp) (hb hby o_d13_25) e0 (by decide) (by decide) ⟨by simp [nar, hc82, hc83, hc84], N0, rfl⟩
    · skip
      refine o_icmpNo (pc := 21) X0 hx (hb hby o_d13_21) (feq hc83).1 ?_
      refine o_iconst (pc := 24) X0 hx (0 : Int32) (hb hby o_d13_24) rfl ?_
      exact o_retN (pc := 25) X0 hx .boolean hret hlk (by simp) (hb hby o_d13_25) e0 (by decide) (by decide) ⟨by simp [nar, hc82, hc83], N0, rfl⟩
  · skip
    refine o_icmpNo (pc := 21) X0 hx (hb hby o_d13_21) (feq hc82).1 ?_
    refine o_iconst (pc := 24) X0 hx (0 : Int32) (hb hby o_d13_24) rfl ?_
    exact o_retN (pc := 25) X0 hx .boolean hret hlk (by simp) (hb hby o_d13_25) e0 (by decide) (by decide) ⟨by simp [nar, hc82], N0, rfl⟩
set_option maxRecDepth 65536 in
set_option maxHeartbeats 40000000 in
theorem rmEQ_9_9 (l : Launch) (Z : State) (a0 : Array Value) (hw : ∀ d ∈ tables_1, d.before a0 Z = true) (ws : List Jvm.Cond) (a1 a2 d1 d2 : Addr) (k1 k2 : ClassId) (cs : Int32) (x1 x2 x3 x4 x5 x6 x7 x8 x9 : Int32) (y1 y2 y3 y4 y5 y6 y7 y8 y9 : Int32) (h0 : Heap) (n0 : Nat) (O0 : Old Z n0 h0) (E1 : Exa Z h0 a1 "java/lang/String") (C1 : Fld Z h0 a1 "java/lang/String" "coder" "B" (.int (0 : Int32))) (F1 : Fld Z h0 a1 "java/lang/String" "value" "[B" (.ref d1)) (E2 : Exa Z h0 a2 "java/lang/String") (C2 : Fld Z h0 a2 "java/lang/String" "coder" "B" (.int (0 : Int32))) (F2 : Fld Z h0 a2 "java/lang/String" "value" "[B" (.ref d2)) (Vd1 : Arv Z h0 d1 k1 .byte (9 : Int32) [(.int x1), (.int x2), (.int x3), (.int x4), (.int x5), (.int x6), (.int x7), (.int x8), (.int x9)] (.int (0 : Int32))) (Vd2 : Arv Z h0 d2 k2 .byte (9 : Int32) [(.int y1), (.int y2), (.int y3), (.int y4), (.int y5), (.int y6), (.int y7), (.int y8), (.int y9)] (.int (0 : Int32))) (SC : Sta Z Z.heap "java/lang/String" "COMPACT_STRINGS" "Z" (.int cs)) (hcs : ¬ cs = (0 : Int32)) :
    Ct l Z (⟨"java/lang/String", "equals", "(Ljava/lang/Object;)Z"⟩ : MethodName) jdk_42_method_66_code 3 (some .boolean) ({ frames := 1, cells := 0, slots := 0, locals := 14 } : Room) ws #[(.ref a1), (.ref a2)] h0 (fun v h L => v = some (.int (if ([x1, x2, x3, x4, x5, x6, x7, x8, x9] : List Int32) = [y1, y2, y3, y4, y5, y6, y7, y8, y9] then (1 : Int32) else 0)) ∧ Fr n0 L ∧ h0 = h) := by
  refine o_body (plainFor_of_name o_pn_java_lang_String) ?_
  intro p e s m below meth c s₁ X0 hx hby hml hret hlk hown hnm hZ e0
  have N0 := Fr.nil n0
  refine o_top (g' := (mkF m 0 #[.val (.ref a1), .val (.ref a2), .unset] [])) (by first | (simp [entryFrame, mkF, argsToLocals, Value.category]; done) | rfl) ?_
  refine o_aloadN (v := (.ref a1)) (pc := 0) X0 hx (hb hby o_d12_0) rfl rfl ?_
  refine o_aloadN (v := (.ref a2)) (pc := 1) X0 hx (hb hby o_d12_1) rfl rfl ?_
  by_cases hc91 : a1 = a2
  · skip
    refine o_acmp (x := (.ref a1)) (y := (.ref a2)) (pc := 2) X0 hx 5 true rfl rfl (hb hby o_d12_2) (decide_eq_true (congrArg Value.ref hc91)) (by decide) (by decide) ?_
    refine o_iconst (pc := 5) X0 hx (1 : Int32) (hb hby o_d12_5) rfl ?_
    exact o_retN (pc := 6) X0 hx .boolean hret hlk (by simp) (hb hby o_d12_6) e0 (by decide) (by decide) ⟨by have q := o_same hc91 F1 F2 Vd1 Vd2 rfl rfl; simp [nar] at q ⊢ <;> (try exact q) <;> (try simp [q]), N0, rfl⟩
  · skip
    refine o_acmp (x := (.ref a1)) (y := (.ref a2)) (pc := 2) X0 hx 7 false rfl rfl (hb hby o_d12_2) (decide_eq_false fun q => hc91 (Value.ref.inj q)) (by decide) (by decide) ?_
    refine o_aloadN (v := (.ref a2)) (pc := 7) X0 hx (hb hby o_d12_7) rfl rfl ?_
    refine o_instY (pc := 8) X0 hx hZ hown (hw _ (List.mem_of_getElem? (i := 77) rfl)) e0 (Ins.self E2) (hb hby o_d12_8) fun T92 X92 e92 => ?_
    refine o_ifNo (pc := 11) X92 hx (hb hby o_d12_11) ((if0 _ _).trans (feq (by decide : ¬ ((1 : Int32) = (0 : Int32)))).1) ?_
    refine o_aloadN (v := (.ref a2)) (pc := 14) X92 hx (hb hby o_d12_14) rfl rfl ?_
    refine o_cast (pc := 15) X92 hx hZ hown (hw _ (List.mem_of_getElem? (i := 77) rfl)) e92 (Ins.self E2) (hb hby o_d12_15) fun T93 X93 e93 => ?_
    refine o_astoreN (l' := #[.val (.ref a1), .val (.ref a2), .val (.ref a2)]) (pc := 18) X93 hx (hb hby o_d12_18) rfl rfl ?_
    refine o_getS (pc := 19) X93 hx hZ hown (host := "") (Or.inl (hw _ (List.mem_of_getElem? (i := 27) rfl))) Via.refl e93 (SC.ext O0.2) (hb hby o_d12_19) fun T94 X94 e94 => ?_
    refine o_ifNo (pc := 22) X94 hx (hb hby o_d12_22) ((if0 _ _).trans (feq hcs).1) ?_
    refine o_aloadN (v := (.ref a1)) (pc := 25) X94 hx (hb hby o_d12_25) rfl rfl ?_
    refine o_getF (pc := 26) X94 hx hZ hown (host := "") (Or.inl (hw _ (List.mem_of_getElem? (i := 39) rfl))) Via.refl e94 C1 (hb hby o_d12_26) fun T95 X95 e95 => ?_
    refine o_aloadN (v := (.ref a2)) (pc := 29) X95 hx (hb hby o_d12_29) rfl rfl ?_
    refine o_getF (pc := 30) X95 hx hZ hown (host := "") (Or.inl (hw _ (List.mem_of_getElem? (i := 39) rfl))) Via.refl e95 C2 (hb hby o_d12_30) fun T96 X96 e96 => ?_
    refine o_icmpNo (pc := 33) X96 hx (hb hby o_d12_33) (teq (by decide : (0 : Int32) = (0 : Int32))).2 ?_
    refine o_aloadN (v := (.ref a1)) (pc := 36) X96 hx (hb hby o_d12_36) rfl rfl ?_
    refine o_getF (pc := 37) X96 hx hZ hown (host := "") (Or.inl (hw _ (List.mem_of_getElem? (i := 41) rfl))) Via.refl e96 F1 (hb hby o_d12_37) fun T97 X97 e97 => ?_
    refine o_aloadN (v := (.ref a2)) (pc := 40) X97 hx (hb hby o_d12_40) rfl rfl ?_
    refine o_getF (pc := 41) X97 hx hZ hown (host := "") (Or.inl (hw _ (List.mem_of_getElem? (i := 41) rfl))) Via.refl e97 F2 (hb hby o_d12_41) fun T98 X98 e98 => ?_
    refine o_callS (pc := 44) X98 hx hZ (y := (⟨"java/lang/StringLatin1", "equals", "([B[B)Z"⟩ : MethodName)) (argsL := [(.ref d1), (.ref d2)]) (rest := []) hown (hw _ (List.mem_of_getElem? (i := 78) rfl)) (hw _ (List.mem_of_getElem? (i := 79) rfl)) (hw _ (List.mem_of_getElem? (i := 80) rfl)) (hw _ (List.mem_of_getElem? (i := 81) rfl)) (by decide) (rmLE_9_9 l Z a0 hw [] d1 d2 k1 k2 x1 x2 x3 x4 x5 x6 x7 x8 x9 y1 y2 y3 y4 y5 y6 y7 y8 y9 h0 n0 O0 Vd1 Vd2) e98 (by rw [hml]; rfl) (lenOf o_pd6 rfl) (has := rfl) (hst := rfl) (W := 0) (Nat.le_of_ble_eq_true rfl) (hb hby o_d12_44) (by decide) (by decide) (by decide) (by decide) fun v99 T99 h99 L99 X99 e99 q99 => ?_
    obtain ⟨rfl, N99q, rfl⟩ := q99
    have N99 := Fr.app N0 N99q
    show Go p e below T99 (mkF m 47 #[.val (.ref a1), .val (.ref a2), .val (.ref a2)] [(.int (if ([x1, x2, x3, x4, x5, x6, x7, x8, x9] : List Int32) = [y1, y2, y3, y4, y5, y6, y7, y8, y9] then (1 : Int32) else 0))]) _
    by_cases hc100 : (if ([x1, x2, x3, x4, x5, x6, x7, x8, x9] : List Int32) = [y1, y2, y3, y4, y5, y6, y7, y8, y9] then (1 : Int32) else 0) = (0 : Int32)
    · skip
      refine o_ifYes (pc := 47) X99 hx 54 (hb hby o_d12_47) ((if0 _ _).trans (teq hc100).1) (by decide) (by decide) ?_
      refine o_iconst (pc := 54) X99 hx (0 : Int32) (hb hby o_d12_54) rfl ?_
      exact o_retN (pc := 55) X99 hx .boolean hret hlk (by simp) (hb hby o_d12_55) e99 (by decide) (by decide) ⟨by by_cases q : ([x1, x2, x3, x4, x5, x6, x7, x8, x9] : List Int32) = [y1, y2, y3, y4, y5, y6, y7, y8, y9]; (first | (rw [if_pos q] at hc100 ⊢; first | rfl | exact absurd hc100 (by decide)) | exact absurd q (by simp)); (first | (rw [if_neg q] at hc100 ⊢; first | rfl | exact absurd rfl hc100) | exact absurd rfl q), N99, rfl⟩
    · skip
      refine o_ifNo (pc := 47) X99 hx (hb hby o_d12_47) ((if0 _ _).trans (feq hc100).1) ?_
      refine o_iconst (pc := 50) X99 hx (1 : Int32) (hb hby o_d12_50) rfl ?_
      refine o_goto (pc := 51) X99 hx 55 (hb hby o_d12_51) (by decide) (by decide) ?_
      exact o_retN (pc := 55) X99 hx .boolean hret hlk (by simp) (hb hby o_d12_55) e99 (by decide) (by decide) ⟨by by_cases q : ([x1, x2, x3, x4, x5, x6, x7, x8, x9] : List Int32) = [y1, y2, y3, y4, y5, y6, y7, y8, y9]; (first | (rw [if_pos q] at hc100 ⊢; first | rfl | exact absurd hc100 (by decide)) | exact absurd q (by simp)); (first | (rw [if_neg q] at hc100 ⊢; first | rfl | exact absurd rfl hc100) | exact absurd rfl q), N99, rfl⟩
set_option maxRecDepth 65536 in
set_option maxHeartbeats 40000000 in
theorem rmLE_9_7 (l : Launch) (Z : State) (a0 : Array Value) (hw : ∀ d ∈ tables_1, d.before a0 Z = true) (ws : List Jvm.Cond) (d1 d2 : Addr) (k1 k2 : ClassId) (x1 x2 x3 x4 x5 x6 x7 x8 x9 : Int32) (y1 y2 y3 y4 y5 y6 y7 : Int32) (h0 : Heap) (n0 : Nat) (O0 : Old Z n0 h0) (Vd1 : Arv Z h0 d1 k1 .byte (9 : Int32) [(.int x1), (.int x2), (.int x3), (.int x4), (.int x5), (.int x6), (.int x7), (.int x8), (.int x9)] (.int (0 : Int32))) (Vd2 : Arv Z h0 d2 k2 .byte (7 : Int32) [(.int y1), (.int y2), (.int y3), (.int y4), (.int y5), (.int y6), (.int y7)] (.int (0 : Int32))) :
    Ct l Z (⟨"java/lang/StringLatin1", "equals", "([B[B)Z"⟩ : MethodName) jdk_43_method_13_code 3 (some .boolean) ({ frames := 0, cells := 0, slots := 0, locals := 0 } : Room) ws #[(.ref d1), (.ref d2)] h0 (fun v h L => v = some (.int (if ([x1, x2, x3, x4, x5, x6, x7, x8, x9] : List Int32) = [y1, y2, y3, y4, y5, y6, y7] then (1 : Int32) else 0)) ∧ Fr n0 L ∧ h0 = h) := by
  refine o_body (plainFor_of_name o_pn_java_lang_StringLatin1) ?_
  intro p e s m below meth c s₁ X0 hx hby hml hret hlk hown hnm hZ e0
  have N0 := Fr.nil n0
  refine o_top (g' := (mkF m 0 #[.val (.ref d1), .val (.ref d2), .unset] [])) (by first | (simp [entryFrame, mkF, argsToLocals, Value.category]; done) | rfl) ?_
  refine o_aloadN (v := (.ref d1)) (pc := 0) X0 hx (hb hby o_d13_0) rfl rfl ?_
  refine o_arraylength (pc := 1) X0 hx hZ e0 Vd1 (hb hby o_d13_1) ?_
  refine o_aloadN (v := (.ref d2)) (pc := 2) X0 hx (hb hby o_d13_2) rfl rfl ?_
  refine o_arraylength (pc := 3) X0 hx hZ e0 Vd2 (hb hby o_d13_3) ?_
  refine o_icmpYes (pc := 4) X0 hx 34 (hb hby o_d13_4) (feq (by decide : ¬ ((9 : Int32) = (7 : Int32)))).2 (by decide) (by decide) ?_
  refine o_iconst (pc := 34) X0 hx (0 : Int32) (hb hby o_d13_34) rfl ?_
  exact o_retN (pc := 35) X0 hx .boolean hret hlk (by simp) (hb hby o_d13_35) e0 (by decide) (by decide) ⟨by simp [nar], N0, rfl⟩
set_option maxRecDepth 65536 in
set_option maxHeartbeats 40000000 in
theorem rmEQ_9_7 (l : Launch) (Z : State) (a0 : Array Value) (hw : ∀ d ∈ tables_1, d.before a0 Z = true) (ws : List Jvm.Cond) (a1 a2 d1 d2 : Addr) (k1 k2 : ClassId) (cs : Int32) (x1 x2 x3 x4 x5 x6 x7 x8 x9 : Int32) (y1 y2 y3 y4 y5 y6 y7 : Int32) (h0 : Heap) (n0 : Nat) (O0 : Old Z n0 h0) (E1 : Exa Z h0 a1 "java/lang/String") (C1 : Fld Z h0 a1 "java/lang/String" "coder" "B" (.int (0 : Int32))) (F1 : Fld Z h0 a1 "java/lang/String" "value" "[B" (.ref d1)) (E2 : Exa Z h0 a2 "java/lang/String") (C2 : Fld Z h0 a2 "java/lang/String" "coder" "B" (.int (0 : Int32))) (F2 : Fld Z h0 a2 "java/lang/String" "value" "[B" (.ref d2)) (Vd1 : Arv Z h0 d1 k1 .byte (9 : Int32) [(.int x1), (.int x2), (.int x3), (.int x4), (.int x5), (.int x6), (.int x7), (.int x8), (.int x9)] (.int (0 : Int32))) (Vd2 : Arv Z h0 d2 k2 .byte (7 : Int32) [(.int y1), (.int y2), (.int y3), (.int y4), (.int y5), (.int y6), (.int y7)] (.int (0 : Int32))) (SC : Sta Z Z.heap "java/lang/String" "COMPACT_STRINGS" "Z" (.int cs)) (hcs : ¬ cs = (0 : Int32)) :
    Ct l Z (⟨"java/lang/String", "equals", "(Ljava/lang/Object;)Z"⟩ : MethodName) jdk_42_method_66_code 3 (some .boolean) ({ frames := 1, cells := 0, slots := 0, locals := 14 } : Room) ws #[(.ref a1), (.ref a2)] h0 (fun v h L => v = some (.int (if ([x1, x2, x3, x4, x5, x6, x7, x8, x9] : List Int32) = [y1, y2, y3, y4, y5, y6, y7] then (1 : Int32) else 0)) ∧ Fr n0 L ∧ h0 = h) := by
  refine o_body (plainFor_of_name o_pn_java_lang_String) ?_
  intro p e s m below meth c s₁ X0 hx hby hml hret hlk hown hnm hZ e0
  have N0 := Fr.nil n0
  refine o_top (g' := (mkF m 0 #[.val (.ref a1), .val (.ref a2), .unset] [])) (by first | (simp [entryFrame, mkF, argsToLocals, Value.category]; done) | rfl) ?_
  refine o_aloadN (v := (.ref a1)) (pc := 0) X0 hx (hb hby o_d12_0) rfl rfl ?_
  refine o_aloadN (v := (.ref a2)) (pc := 1) X0 hx (hb hby o_d12_1) rfl rfl ?_
  by_cases hc101 : a1 = a2
  · skip
    refine o_acmp (x := (.ref a1)) (y := (.ref a2)) (pc := 2) X0 hx 5 true rfl rfl (hb hby o_d12_2) (decide_eq_true (congrArg Value.ref hc101)) (by decide) (by decide) ?_
    refine o_iconst (pc := 5) X0 hx (1 : Int32) (hb hby o_d12_5) rfl ?_
    exact o_retN (pc := 6) X0 hx .boolean hret hlk (by simp) (hb hby o_d12_6) e0 (by decide) (by decide) ⟨by have q := o_same hc101 F1 F2 Vd1 Vd2 rfl rfl; simp [nar] at q ⊢ <;> (try exact q) <;> (try simp [q]), N0, rfl⟩
  · skip
    refine o_acmp (x := (.ref a1)) (y := (.ref a2)) (pc := 2) X0 hx 7 false rfl rfl (hb hby o_d12_2) (decide_eq_false fun q => hc101 (Value.ref.inj q)) (by decide) (by decide) ?_
    refine o_aloadN (v := (.ref a2)) (pc := 7) X0 hx (hb hby o_d12_7) rfl rfl ?_
    refine o_instY (pc := 8) X0 hx hZ hown (hw _ (List.mem_of_getElem? (i := 77) rfl)) e0 (Ins.self E2) (hb hby o_d12_8) fun T102 X102 e102 => ?_
    refine o_ifNo (pc := 11) X102 hx (hb hby o_d12_11) ((if0 _ _).trans (feq (by decide : ¬ ((1 : Int32) = (0 : Int32)))).1) ?_
    refine o_aloadN (v := (.ref a2)) (pc := 14) X102 hx (hb hby o_d12_14) rfl rfl ?_
    refine o_cast (pc := 15) X102 hx hZ hown (hw _ (List.mem_of_getElem? (i := 77) rfl)) e102 (Ins.self E2) (hb hby o_d12_15) fun T103 X103 e103 => ?_
    refine o_astoreN (l' := #[.val (.ref a1), .val (.ref a2), .val (.ref a2)]) (pc := 18) X103 hx (hb hby o_d12_18) rfl rfl ?_
    refine o_getS (pc := 19) X103 hx hZ hown (host := "") (Or.inl (hw _ (List.mem_of_getElem? (i := 27) rfl))) Via.refl e103 (SC.ext O0.2) (hb hby o_d12_19) fun T104 X104 e104 => ?_
    refine o_ifNo (pc := 22) X104 hx (hb hby o_d12_22) ((if0 _ _).trans (feq hcs).1) ?_
    refine o_aloadN (v := (.ref a1)) (pc := 25) X104 hx (hb hby o_d12_25) rfl rfl ?_
    refine o_getF (pc := 26) X104 hx hZ hown (host := "") (Or.inl (hw _ (List.mem_of_getElem? (i := 39) rfl))) Via.refl e104 C1 (hb hby o_d12_26) fun T105 X105 e105 => ?_
    refine o_aloadN (v := (.ref a2)) (pc := 29) X105 hx (hb hby o_d12_29) rfl rfl ?_
    refine o_getF (pc := 30) X105 hx hZ hown (host := "") (Or.inl (hw _ (List.mem_of_getElem? (i := 39) rfl))) Via.refl e105 C2 (hb hby o_d12_30) fun T106 X106 e106 => ?_
    refine o_icmpNo (pc := 33) X106 hx (hb hby o_d12_33) (teq (by decide : (0 : Int32) = (0 : Int32))).2 ?_
    refine o_aloadN (v := (.ref a1)) (pc := 36) X106 hx (hb hby o_d12_36) rfl rfl ?_
    refine o_getF (pc := 37) X106 hx hZ hown (host := "") (Or.inl (hw _ (List.mem_of_getElem? (i := 41) rfl))) Via.refl e106 F1 (hb hby o_d12_37) fun T107 X107 e107 => ?_
    refine o_aloadN (v := (.ref a2)) (pc := 40) X107 hx (hb hby o_d12_40) rfl rfl ?_
    refine o_getF (pc := 41) X107 hx hZ hown (host := "") (Or.inl (hw _ (List.mem_of_getElem? (i := 41) rfl))) Via.refl e107 F2 (hb hby o_d12_41) fun T108 X108 e108 => ?_
    refine o_callS (pc := 44) X108 hx hZ (y := (⟨"java/lang/StringLatin1", "equals", "([B[B)Z"⟩ : MethodName)) (argsL := [(.ref d1), (.ref d2)]) (rest := []) hown (hw _ (List.mem_of_getElem? (i := 78) rfl)) (hw _ (List.mem_of_getElem? (i := 79) rfl)) (hw _ (List.mem_of_getElem? (i := 80) rfl)) (hw _ (List.mem_of_getElem? (i := 81) rfl)) (by decide) (rmLE_9_7 l Z a0 hw [] d1 d2 k1 k2 x1 x2 x3 x4 x5 x6 x7 x8 x9 y1 y2 y3 y4 y5 y6 y7 h0 n0 O0 Vd1 Vd2) e108 (by rw [hml]; rfl) (lenOf o_pd6 rfl) (has := rfl) (hst := rfl) (W := 0) (Nat.le_of_ble_eq_true rfl) (hb hby o_d12_44) (by decide) (by decide) (by decide) (by decide) fun v109 T109 h109 L109 X109 e109 q109 => ?_
    obtain ⟨rfl, N109q, rfl⟩ := q109
    have N109 := Fr.app N0 N109q
    show Go p e below T109 (mkF m 47 #[.val (.ref a1), .val (.ref a2), .val (.ref a2)] [(.int (if ([x1, x2, x3, x4, x5, x6, x7, x8, x9] : List Int32) = [y1, y2, y3, y4, y5, y6, y7] then (1 : Int32) else 0))]) _
    by_cases hc110 : (if ([x1, x2, x3, x4, x5, x6, x7, x8, x9] : List Int32) = [y1, y2, y3, y4, y5, y6, y7] then (1 : Int32) else 0) = (0 : Int32)
    · skip
      refine o_ifYes (pc := 47) X109 hx 54 (hb hby o_d12_47) ((if0 _ _).trans (teq hc110).1) (by decide) (by decide) ?_
      refine o_iconst (pc := 54) X109 hx (0 : Int32) (hb hby o_d12_54) rfl ?_
      exact o_retN (pc := 55) X109 hx .boolean hret hlk (by simp) (hb hby o_d12_55) e109 (by decide) (by decide) ⟨by by_cases q : ([x1, x2, x3, x4, x5, x6, x7, x8, x9] : List Int32) = [y1, y2, y3, y4, y5, y6, y7]; (first | (rw [if_pos q] at hc110 ⊢; first | rfl | exact absurd hc110 (by decide)) | exact absurd q (by simp)); (first | (rw [if_neg q] at hc110 ⊢; first | rfl | exact absurd rfl hc110) | exact absurd rfl q), N109, rfl⟩
    · skip
      refine o_ifNo (pc := 47) X109 hx (hb hby o_d12_47) ((if0 _ _).trans (feq hc110).1) ?_
      refine o_iconst (pc := 50) X109 hx (1 : Int32) (hb hby o_d12_50) rfl ?_
      refine o_goto (pc := 51) X109 hx 55 (hb hby o_d12_51) (by decide) (by decide) ?_
      exact o_retN (pc := 55) X109 hx .boolean hret hlk (by simp) (hb hby o_d12_55) e109 (by decide) (by decide) ⟨by by_cases q : ([x1, x2, x3, x4, x5, x6, x7, x8, x9] : List Int32) = [y1, y2, y3, y4, y5, y6, y7]; (first | (rw [if_pos q] at hc110 ⊢; first | rfl | exact absurd hc110 (by decide)) | exact absurd q (by simp)); (first | (rw [if_neg q] at hc110 ⊢; first | rfl | exact absurd rfl hc110) | exact absurd rfl q), N109, rfl⟩
theorem o_pd7 : parseMethodDescriptor "(I)Lcom/example/isolation_anomaly_finder/isolationanomalyfinder/IsolationLevel;" = some ⟨[.int], some (.object "com/example/isolation_anomaly_finder/isolationanomalyfinder/IsolationLevel")⟩ := by decide +kernel
theorem o_pd8 : parseMethodDescriptor "(I)Ljava/lang/String;" = some ⟨[.int], some (.object "java/lang/String")⟩ := by decide +kernel
theorem o_pd9 : parseMethodDescriptor "(Lcom/example/isolation_anomaly_finder/isolationanomalyfinder/IsolationLevel;Ljava/lang/String;ZLjava/lang/String;Ljava/lang/String;)V" = some ⟨[(.object "com/example/isolation_anomaly_finder/isolationanomalyfinder/IsolationLevel"), (.object "java/lang/String"), .boolean, (.object "java/lang/String"), (.object "java/lang/String")], none⟩ := by decide +kernel
theorem o_pd10 : parseMethodDescriptor "()Ljava/lang/String;" = some ⟨[], some (.object "java/lang/String")⟩ := by decide +kernel
theorem o_pd11 : parseMethodDescriptor "(Ljava/lang/Object;)Z" = some ⟨[(.object "java/lang/Object")], some .boolean⟩ := by decide +kernel
set_option maxRecDepth 65536 in
set_option maxHeartbeats 40000000 in
theorem rm0 (l : Launch) (Z : State) (a0 : Array Value) (hw : ∀ d ∈ tables_1, d.before a0 Z = true) (ws : List Jvm.Cond) (p1 p2 p3 p4 p5 : Int32) (cs : Int32) (w_READ_UNCOMMITTED w_READ_COMMITTED w_REPEATABLE_READ w_SERIALIZABLE : Addr) (h0 : Heap) (n0 : Nat) (O0 : Old Z n0 h0) (SC : Sta Z Z.heap "java/lang/String" "COMPACT_STRINGS" "Z" (.int cs)) (hcs : ¬ cs = (0 : Int32)) (S_READ_UNCOMMITTED : IsolationLevelSta Z "READ_UNCOMMITTED" w_READ_UNCOMMITTED) (S_READ_COMMITTED : IsolationLevelSta Z "READ_COMMITTED" w_READ_COMMITTED) (S_REPEATABLE_READ : IsolationLevelSta Z "REPEATABLE_READ" w_REPEATABLE_READ) (S_SERIALIZABLE : IsolationLevelSta Z "SERIALIZABLE" w_SERIALIZABLE) :
    CtH l Z consts_1 x code maxLocals ret room_1 ws #[(.int p1), (.int p2), (.int p3), (.int p4), (.int p5)] h0 (fun v h L => v = some (.int 1) ∧ Fr n0 L) := by
  refine o_bodyH (plainFor_of_name o_pn_com_example_isolation_anomaly_finder_isolationanomalyfinder_FindingVerdictPinLaw) ?_
  intro p e s m below meth c s₁ X0 hx hby hml hret hlk hown hnm hZ e0 hh H0
  have N0 := Fr.nil n0
  have B0 := BsH.start H0
  refine o_top (g' := (mkF m 0 #[.val (.int p1), .val (.int p2), .val (.int p3), .val (.int p4), .val (.int p5), .unset, .unset, .unset] [])) (by first | (simp [entryFrame, mkF, argsToLocals, Value.category, maxLocals]; done) | rfl) ?_
  refine o_iloadN (v := p1) (pc := 0) X0 hx (hb hby at_0) rfl ?_
  refine o_iconst (pc := 1) X0 hx (1 : Int32) (hb hby at_1) rfl ?_
  refine o_iand (pc := 2) X0 hx (hb hby at_2) ?_
  by_cases hc111 : (p1 &&& (1 : Int32)) = (0 : Int32)
  · skip
    refine o_ifYes (pc := 3) X0 hx 10 (hb hby at_3) ((if0 _ _).trans (teq hc111).1) (by decide) (by decide) ?_
    refine o_iconst (pc := 10) X0 hx (0 : Int32) (hb hby at_10) rfl ?_
    refine o_istore (l' := #[.val (.int p1), .val (.int p2), .val (.int p3), .val (.int p4), .val (.int p5), .val (.int (0 : Int32)), .unset, .unset]) (pc := 11) X0 hx (hb hby at_11) rfl ?_
    refine o_new (pc := 13) X0 hx hZ hown (hw _ (List.mem_of_getElem? (i := 0) rfl)) (hw _ (List.mem_of_getElem? (i := 1) rfl)) (hw _ (List.mem_of_getElem? (i := 2) rfl)) e0 (hb hby at_13) (by decide) (by decide) fun T112 h112 b112 X112 e112 g112 E112 A112 D112 U112 => ?_
    have O113 := O0.ext E112
    have B113 := B0.ext E112
    have F112_level : Fld Z h112 b112 "com/example/isolation_anomaly_finder/isolationanomalyfinder/Finding" "level" "Lcom/example/isolation_anomaly_finder/isolationanomalyfinder/IsolationLevel;" .null := D112 (Or.inr (hw _ (List.mem_of_getElem? (i := 53) rfl))) (ty := (.object "com/example/isolation_anomaly_finder/isolationanomalyfinder/IsolationLevel")) (by decide)
    have F112_anomaly : Fld Z h112 b112 "com/example/isolation_anomaly_finder/isolationanomalyfinder/Finding" "anomaly" "Ljava/lang/String;" .null := D112 (Or.inr (hw _ (List.mem_of_getElem? (i := 55) rfl))) (ty := (.object "java/lang/String")) (by decide)
    have F112_allowed : Fld Z h112 b112 "com/example/isolation_anomaly_finder/isolationanomalyfinder/Finding" "allowed" "Z" (.int (0 : Int32)) := D112 (Or.inr (hw _ (List.mem_of_getElem? (i := 57) rfl))) (ty := .boolean) (by decide)
    have F112_how : Fld Z h112 b112 "com/example/isolation_anomaly_finder/isolationanomalyfinder/Finding" "how" "Ljava/lang/String;" .null := D112 (Or.inr (hw _ (List.mem_of_getElem? (i := 59) rfl))) (ty := (.object "java/lang/String")) (by decide)
    have F112_witness : Fld Z h112 b112 "com/example/isolation_anomaly_finder/isolationanomalyfinder/Finding" "witness" "Ljava/lang/String;" .null := D112 (Or.inr (hw _ (List.mem_of_getElem? (i := 61) rfl))) (ty := (.object "java/lang/String")) (by decide)
    refine o_dup (pc := 16) X112 hx (hb hby at_16) rfl ?_
    refine o_iloadN (v := p2) (pc := 17) X112 hx (hb hby at_17) rfl ?_
    refine o_iconst (pc := 18) X112 hx (3 : Int32) (hb hby at_18) rfl ?_
    refine o_iand (pc := 19) X112 hx (hb hby at_19) ?_
    refine o_callS (pc := 20) X112 hx hZ (y := (⟨"com/example/isolation_anomaly_finder/isolationanomalyfinder/FindingVerdictPinLaw", "level", "(I)Lcom/example/isolation_anomaly_finder/isolationanomalyfinder/IsolationLevel;"⟩ : MethodName)) (argsL := [(.int (p2 &&& (3 : Int32)))]) (rest := [(.ref b112), (.ref b112)]) hown (hw _ (List.mem_of_getElem? (i := 3) rfl)) (hw _ (List.mem_of_getElem? (i := 4) rfl)) (hw _ (List.mem_of_getElem? (i := 5) rfl)) (hw _ (List.mem_of_getElem? (i := 6) rfl)) (by decide) (rm1 l Z a0 hw [] (p2 &&& (3 : Int32)) w_READ_UNCOMMITTED w_READ_COMMITTED w_REPEATABLE_READ w_SERIALIZABLE h112 n0 O113 S_READ_UNCOMMITTED S_READ_COMMITTED S_REPEATABLE_READ S_SERIALIZABLE) e112 (by rw [hml]; rfl) (lenOf o_pd7 rfl) (has := rfl) (hst := rfl) (W := 2) (Nat.le_of_ble_eq_true rfl) (hb hby at_20) (by decide) (by decide) (by decide) (by decide) fun v114 T114 h114 L114 X114 e114 q114 => ?_
    obtain ⟨rfl, N114q, rfl⟩ := q114
    have N114 := Fr.app N0 N114q
    show Go p e below T114 (mkF m 23 #[.val (.int p1), .val (.int p2), .val (.int p3), .val (.int p4), .val (.int p5), .val (.int (0 : Int32)), .unset, .unset] [(.ref (K (p2 &&& (3 : Int32)) w_READ_UNCOMMITTED w_READ_COMMITTED w_REPEATABLE_READ w_SERIALIZABLE)), (.ref b112), (.ref b112)]) _
    refine o_iloadN (v := p3) (pc := 23) X114 hx (hb hby at_23) rfl ?_
    refine o_callS (pc := 24) X114 hx hZ (y := (⟨"com/example/isolation_anomaly_finder/isolationanomalyfinder/FindingVerdictPinLaw", "text", "(I)Ljava/lang/String;"⟩ : MethodName)) (argsL := [(.int p3)]) (rest := [(.ref (K (p2 &&& (3 : Int32)) w_READ_UNCOMMITTED w_READ_COMMITTED w_REPEATABLE_READ w_SERIALIZABLE)), (.ref b112), (.ref b112)]) hown (hw _ (List.mem_of_getElem? (i := 10) rfl)) (hw _ (List.mem_of_getElem? (i := 11) rfl)) (hw _ (List.mem_of_getElem? (i := 5) rfl)) (hw _ (List.mem_of_getElem? (i := 12) rfl)) (by decide) (rm2 l Z a0 hw [] p3 cs h112 n0 O113 SC hcs) e114 (by rw [hml]; rfl) (lenOf o_pd8 rfl) (has := rfl) (hst := rfl) (W := 3) (Nat.le_of_ble_eq_true rfl) (hb hby at_24) (by decide) (by decide) (by decide) (by decide) fun v115 T115 h115 L115 X115 e115 q115 => ?_
    obtain ⟨b115, rfl, g115, N115q, E115, Ex115⟩ := q115
    have N115 := Fr.app N114 N115q
    have O116 := O113.ext E115
    have B116 := B113.ext E115
    show Go p e below T115 (mkF m 27 #[.val (.int p1), .val (.int p2), .val (.int p3), .val (.int p4), .val (.int p5), .val (.int (0 : Int32)), .unset, .unset] [(.ref b115), (.ref (K (p2 &&& (3 : Int32)) w_READ_UNCOMMITTED w_READ_COMMITTED w_REPEATABLE_READ w_SERIALIZABLE)), (.ref b112), (.ref b112)]) _
    refine o_iload (v := (0 : Int32)) (pc := 27) X115 hx (hb hby at_27) rfl ?_
    refine o_iloadN (v := p4) (pc := 29) X115 hx (hb hby at_29) rfl ?_
    refine o_callS (pc := 30) X115 hx hZ (y := (⟨"com/example/isolation_anomaly_finder/isolationanomalyfinder/FindingVerdictPinLaw", "text", "(I)Ljava/lang/String;"⟩ : MethodName)) (argsL := [(.int p4)]) (rest := [(.int (0 : Int32)), (.ref b115), (.ref (K (p2 &&& (3 : Int32)) w_READ_UNCOMMITTED w_READ_COMMITTED w_REPEATABLE_READ w_SERIALIZABLE)), (.ref b112), (.ref b112)]) hown (hw _ (List.mem_of_getElem? (i := 10) rfl)) (hw _ (List.mem_of_getElem? (i := 11) rfl)) (hw _ (List.mem_of_getElem? (i := 5) rfl)) (hw _ (List.mem_of_getElem? (i := 12) rfl)) (by decide) (rm2 l Z a0 hw [] p4 cs h115 n0 O116 SC hcs) e115 (by rw [hml]; rfl) (lenOf o_pd8 rfl) (has := rfl) (hst := rfl) (W := 5) (Nat.le_of_ble_eq_true rfl) (hb hby at_30) (by decide) (by decide) (by decide) (by decide) fun v117 T117 h117 L117 X117 e117 q117 => ?_
    obtain ⟨b117, rfl, g117, N117q, E117, Ex117⟩ := q117
    have N117 := Fr.app N115 N117q
    have O118 := O116.ext E117
    have B118 := B116.ext E117
    show Go p e below T117 (mkF m 33 #[.val (.int p1), .val (.int p2), .val (.int p3), .val (.int p4), .val (.int p5), .val (.int (0 : Int32)), .unset, .unset] [(.ref b117), (.int (0 : Int32)), (.ref b115), (.ref (K (p2 &&& (3 : Int32)) w_READ_UNCOMMITTED w_READ_COMMITTED w_REPEATABLE_READ w_SERIALIZABLE)), (.ref b112), (.ref b112)]) _
    refine o_iload (v := p5) (pc := 33) X117 hx (hb hby at_33) rfl ?_
    refine o_callS (pc := 35) X117 hx hZ (y := (⟨"com/example/isolation_anomaly_finder/isolationanomalyfinder/FindingVerdictPinLaw", "text", "(I)Ljava/lang/String;"⟩ : MethodName)) (argsL := [(.int p5)]) (rest := [(.ref b117), (.int (0 : Int32)), (.ref b115), (.ref (K (p2 &&& (3 : Int32)) w_READ_UNCOMMITTED w_READ_COMMITTED w_REPEATABLE_READ w_SERIALIZABLE)), (.ref b112), (.ref b112)]) hown (hw _ (List.mem_of_getElem? (i := 10) rfl)) (hw _ (List.mem_of_getElem? (i := 11) rfl)) (hw _ (List.mem_of_getElem? (i := 5) rfl)) (hw _ (List.mem_of_getElem? (i := 12) rfl)) (by decide) (rm2 l Z a0 hw [] p5 cs h117 n0 O118 SC hcs) e117 (by rw [hml]; rfl) (lenOf o_pd8 rfl) (has := rfl) (hst := rfl) (W := 6) (Nat.le_of_ble_eq_true rfl) (hb hby at_35) (by decide) (by decide) (by decide) (by decide) fun v119 T119 h119 L119 X119 e119 q119 => ?_
    obtain ⟨b119, rfl, g119, N119q, E119, Ex119⟩ := q119
    have N119 := Fr.app N117 N119q
    have O120 := O118.ext E119
    have B120 := B118.ext E119
    show Go p e below T119 (mkF m 38 #[.val (.int p1), .val (.int p2), .val (.int p3), .val (.int p4), .val (.int p5), .val (.int (0 : Int32)), .unset, .unset] [(.ref b119), (.ref b117), (.int (0 : Int32)), (.ref b115), (.ref (K (p2 &&& (3 : Int32)) w_READ_UNCOMMITTED w_READ_COMMITTED w_REPEATABLE_READ w_SERIALIZABLE)), (.ref b112), (.ref b112)]) _
    refine o_callN (pc := 38) X119 hx hZ (y := (⟨"com/example/isolation_anomaly_finder/isolationanomalyfinder/Finding", "<init>", "(Lcom/example/isolation_anomaly_finder/isolationanomalyfinder/IsolationLevel;Ljava/lang/String;ZLjava/lang/String;Ljava/lang/String;)V"⟩ : MethodName)) (a := b112) (argsL := [(.ref (K (p2 &&& (3 : Int32)) w_READ_UNCOMMITTED w_READ_COMMITTED w_REPEATABLE_READ w_SERIALIZABLE)), (.ref b115), (.int (0 : Int32)), (.ref b117), (.ref b119)]) (rest := [(.ref b112)]) rfl hown (hw _ (List.mem_of_getElem? (i := 43) rfl)) (hw _ (List.mem_of_getElem? (i := 44) rfl)) (hw _ (List.mem_of_getElem? (i := 2) rfl)) (hw _ (List.mem_of_getElem? (i := 45) rfl)) (by decide) (rm9 l Z a0 hw [] b112 (K (p2 &&& (3 : Int32)) w_READ_UNCOMMITTED w_READ_COMMITTED w_REPEATABLE_READ w_SERIALIZABLE) b115 (0 : Int32) b117 b119 h119 n0 O120 (((A112.ext E115).ext E117).ext E119) (((F112_level.ext E115).ext E117).ext E119) (((F112_anomaly.ext E115).ext E117).ext E119) (((F112_allowed.ext E115).ext E117).ext E119) (((F112_how.ext E115).ext E117).ext E119) (((F112_witness.ext E115).ext E117).ext E119) (Nat.le_trans (o_n0 O0) g112)) e119 (by rw [hml]; rfl) (lenOf o_pd9 rfl) (has := rfl) (hst := rfl) (W := 1) (Nat.le_of_ble_eq_true rfl) (hb hby at_38) (by decide) (by decide) (by decide) (by decide) fun v121 T121 h121 L121 X121 e121 q121 => ?_
    obtain ⟨rfl, N121q, Kc121, Fn121_0, Fn121_1, Fn121_2, Fn121_3, Fn121_4⟩ := q121
    have N121 := Fr.app N119 N121q
    have O122 := O120.keep Kc121 (allS (Nat.le_trans (o_n0 O0) g112) all0)
    have B122 := B120.keep Kc121 (allS (Safe.exa hZ.alike (((A112.ext E115).ext E117).ext E119) (by decide) (by decide)) all0)
    show Go p e below T121 (mkF m 41 #[.val (.int p1), .val (.int p2), .val (.int p3), .val (.int p4), .val (.int p5), .val (.int (0 : Int32)), .unset, .unset] [(.ref b112)]) _
    refine o_astore (l' := #[.val (.int p1), .val (.int p2), .val (.int p3), .val (.int p4), .val (.int p5), .val (.int (0 : Int32)), .val (.ref b112), .unset]) (pc := 41) X121 hx (hb hby at_41) rfl rfl ?_
    refine o_aload (v := (.ref b112)) (pc := 43) X121 hx (hb hby at_43) rfl rfl ?_
    refine o_callVH (pc := 45) X121 hx hZ (y := (⟨"com/example/isolation_anomaly_finder/isolationanomalyfinder/Finding", "verdict", "()Ljava/lang/String;"⟩ : MethodName)) (z := (⟨"com/example/isolation_anomaly_finder/isolationanomalyfinder/Finding", "verdict", "()Ljava/lang/String;"⟩ : MethodName)) (C := "com/example/isolation_anomaly_finder/isolationanomalyfinder/Finding") (a := b112) (argsL := []) (rest := []) hown (o_EW hw) B122 (hw _ (List.mem_of_getElem? (i := 62) rfl)) (hw _ (List.mem_of_getElem? (i := 63) rfl)) (notFace_of_selects (args := #[]) (mvT hZ (hw _ (List.mem_of_getElem? (i := 65) rfl)))) (hw _ (List.mem_of_getElem? (i := 65) rfl)) (hw _ (List.mem_of_getElem? (i := 64) rfl)) (hw _ (List.mem_of_getElem? (i := 2) rfl)) (hw _ (List.mem_of_getElem? (i := 66) rfl)) (by decide) (rmV0 l Z a0 hw [] b112 h121 n0 O122 Fn121_2) e121 ((((A112.ext E115).ext E117).ext E119).keep Kc121) (by rw [hml]; rfl) (lenOf o_pd10 rfl) (has := rfl) (hst := rfl) (W := 0) (Nat.le_of_ble_eq_true rfl) (hb hby at_45) (by decide) (by decide) (by decide) (by decide) fun sB123 v123 T123 h123 L123 X123 e123 B123 hZ123 hown123 hC123 q123 => ?_
    obtain ⟨b123, d123, k123, rfl, N123q, E123, Le123, Lc123, Lv123, La123⟩ := q123
    have N123 := Fr.app N121 N123q
    have O124 := O122.ext E123
    show Go p e below T123 (mkF m 48 #[.val (.int p1), .val (.int p2), .val (.int p3), .val (.int p4), .val (.int p5), .val (.int (0 : Int32)), .val (.ref b112), .unset] [(.ref b123)]) _
    refine o_astore (l' := #[.val (.int p1), .val (.int p2), .val (.int p3), .val (.int p4), .val (.int p5), .val (.int (0 : Int32)), .val (.ref b112), .val (.ref b123)]) (pc := 48) X123 hx (hb hby at_48) rfl rfl ?_
    refine o_aload (v := (.ref b123)) (pc := 50) X123 hx (hb hby at_50) rfl rfl ?_
    refine o_ifnonnullYes (pc := 52) X123 hx 57 (hb hby at_52) (by decide) (by decide) ?_
    refine o_iload (v := (0 : Int32)) (pc := 57) X123 hx (hb hby at_57) rfl ?_
    refine o_ifYes (pc := 59) X123 hx 88 (hb hby at_59) ((if0 _ _).trans (teq (by decide : (0 : Int32) = (0 : Int32))).1) (by decide) (by decide) ?_
    refine o_aload (v := (.ref b123)) (pc := 88) X123 hx (hb hby at_88) rfl rfl ?_
    refine o_ldcH (pc := 90) X123 hx hZ123 hown123 (hw _ (List.mem_of_getElem? (i := 70) rfl)) (o_wS hw) e123 (o_EW hw) (List.mem_of_getElem? (i := 3) rfl) B123 (vs := [(.int (112 : Int32)), (.int (114 : Int32)), (.int (101 : Int32)), (.int (118 : Int32)), (.int (101 : Int32)), (.int (110 : Int32)), (.int (116 : Int32)), (.int (101 : Int32)), (.int (100 : Int32))]) (z := (9 : Int32)) ⟨by decide, rfl⟩ (by decide) rfl (hb hby at_90) 36 (by decide) (by decide) (by decide) (by decide) fun sB125 b125 T125 h125 d125 k125 X125 e125 E125 B125 hZ125 hown125 hC125 Le125 Lc125 Lv125 La125 => ?_
    have O126 := O124.ext E125
    refine o_callV (pc := 92) X125 hx hZ125 (y := (⟨"java/lang/String", "equals", "(Ljava/lang/Object;)Z"⟩ : MethodName)) (z := (⟨"java/lang/String", "equals", "(Ljava/lang/Object;)Z"⟩ : MethodName)) (C := "java/lang/String") (a := b123) (argsL := [(.ref b125)]) (rest := []) hown125 (hw _ (List.mem_of_getElem? (i := 71) rfl)) (hw _ (List.mem_of_getElem? (i := 72) rfl)) (notFace_of_selects (args := #[]) (mvT hZ125 (hw _ (List.mem_of_getElem? (i := 74) rfl)))) (hw _ (List.mem_of_getElem? (i := 74) rfl)) (hw _ (List.mem_of_getElem? (i := 73) rfl)) (hw _ (List.mem_of_getElem? (i := 16) rfl)) (hw _ (List.mem_of_getElem? (i := 75) rfl)) (by decide) (rmEQ_9_9 l Z a0 hw [] b123 b125 d123 d125 k123 k125 cs (112 : Int32) (114 : Int32) (101 : Int32) (118 : Int32) (101 : Int32) (110 : Int32) (116 : Int32) (101 : Int32) (100 : Int32) (112 : Int32) (114 : Int32) (101 : Int32) (118 : Int32) (101 : Int32) (110 : Int32) (116 : Int32) (101 : Int32) (100 : Int32) h125 n0 O126 (Le123.ext E125) (Lc123.ext E125) (Lv123.ext E125) Le125 Lc125 Lv125 (La123.ext E125) La125 SC hcs) e125 (Le123.ext E125) (by rw [hml]; rfl) (lenOf o_pd11 rfl) (has := rfl) (hst := rfl) (W := 0) (Nat.le_of_ble_eq_true rfl) (hb hby at_92) (by decide) (by decide) (by decide) (by decide) fun v127 T127 h127 L127 X127 e127 q127 => ?_
    obtain ⟨rfl, N127q, rfl⟩ := q127
    have N127 := Fr.app N123 N127q
    show Go p e below T127 (mkF m 95 #[.val (.int p1), .val (.int p2), .val (.int p3), .val (.int p4), .val (.int p5), .val (.int (0 : Int32)), .val (.ref b112), .val (.ref b123)] [(.int (if ([(112 : Int32), (114 : Int32), (101 : Int32), (118 : Int32), (101 : Int32), (110 : Int32), (116 : Int32), (101 : Int32), (100 : Int32)] : List Int32) = [(112 : Int32), (114 : Int32), (101 : Int32), (118 : Int32), (101 : Int32), (110 : Int32), (116 : Int32), (101 : Int32), (100 : Int32)] then (1 : Int32) else 0))]) _
    refine o_ifNo (pc := 95) X127 hx (hb hby at_95) ((if0 _ _).trans (feq (by rw [if_pos rfl]; first | done | decide : ¬ ((if ([(112 : Int32), (114 : Int32), (101 : Int32), (118 : Int32), (101 : Int32), (110 : Int32), (116 : Int32), (101 : Int32), (100 : Int32)] : List Int32) = [(112 : Int32), (114 : Int32), (101 : Int32), (118 : Int32), (101 : Int32), (110 : Int32), (116 : Int32), (101 : Int32), (100 : Int32)] then (1 : Int32) else 0) = (0 : Int32)))).1) ?_
    refine o_aload (v := (.ref b123)) (pc := 98) X127 hx (hb hby at_98) rfl rfl ?_
    refine o_ldcH (pc := 100) X127 hx hZ125 hown125 (hw _ (List.mem_of_getElem? (i := 76) rfl)) (o_wS hw) e127 (o_EW hw) (List.mem_of_getElem? (i := 2) rfl) B125 (vs := [(.int (97 : Int32)), (.int (108 : Int32)), (.int (108 : Int32)), (.int (111 : Int32)), (.int (119 : Int32)), (.int (101 : Int32)), (.int (100 : Int32))]) (z := (7 : Int32)) ⟨by decide, rfl⟩ (by decide) rfl (hb hby at_100) 28 (by decide) (by decide) (by decide) (by decide) fun sB128 b128 T128 h128 d128 k128 X128 e128 E128 B128 hZ128 hown128 hC128 Le128 Lc128 Lv128 La128 => ?_
    have O129 := O126.ext E128
    refine o_callV (pc := 102) X128 hx hZ128 (y := (⟨"java/lang/String", "equals", "(Ljava/lang/Object;)Z"⟩ : MethodName)) (z := (⟨"java/lang/String", "equals", "(Ljava/lang/Object;)Z"⟩ : MethodName)) (C := "java/lang/String") (a := b123) (argsL := [(.ref b128)]) (rest := []) hown128 (hw _ (List.mem_of_getElem? (i := 71) rfl)) (hw _ (List.mem_of_getElem? (i := 72) rfl)) (notFace_of_selects (args := #[]) (mvT hZ128 (hw _ (List.mem_of_getElem? (i := 74) rfl)))) (hw _ (List.mem_of_getElem? (i := 74) rfl)) (hw _ (List.mem_of_getElem? (i := 73) rfl)) (hw _ (List.mem_of_getElem? (i := 16) rfl)) (hw _ (List.mem_of_getElem? (i := 75) rfl)) (by decide) (rmEQ_9_7 l Z a0 hw [] b123 b128 d123 d128 k123 k128 cs (112 : Int32) (114 : Int32) (101 : Int32) (118 : Int32) (101 : Int32) (110 : Int32) (116 : Int32) (101 : Int32) (100 : Int32) (97 : Int32) (108 : Int32) (108 : Int32) (111 : Int32) (119 : Int32) (101 : Int32) (100 : Int32) h128 n0 O129 ((Le123.ext E125).ext E128) ((Lc123.ext E125).ext E128) ((Lv123.ext E125).ext E128) Le128 Lc128 Lv128 ((La123.ext E125).ext E128) La128 SC hcs) e128 ((Le123.ext E125).ext E128) (by rw [hml]; rfl) (lenOf o_pd11 rfl) (has := rfl) (hst := rfl) (W := 0) (Nat.le_of_ble_eq_true rfl) (hb hby at_102) (by decide) (by decide) (by decide) (by decide) fun v130 T130 h130 L130 X130 e130 q130 => ?_
    obtain ⟨rfl, N130q, rfl⟩ := q130
    have N130 := Fr.app N127 N130q
    show Go p e below T130 (mkF m 105 #[.val (.int p1), .val (.int p2), .val (.int p3), .val (.int p4), .val (.int p5), .val (.int (0 : Int32)), .val (.ref b112), .val (.ref b123)] [(.int (if ([(112 : Int32), (114 : Int32), (101 : Int32), (118 : Int32), (101 : Int32), (110 : Int32), (116 : Int32), (101 : Int32), (100 : Int32)] : List Int32) = [(97 : Int32), (108 : Int32), (108 : Int32), (111 : Int32), (119 : Int32), (101 : Int32), (100 : Int32)] then (1 : Int32) else 0))]) _
    refine o_ifNo (pc := 105) X130 hx (hb hby at_105) ((if0 _ _).trans (teq (by rw [if_neg (by simp)]; first | done | decide : (if ([(112 : Int32), (114 : Int32), (101 : Int32), (118 : Int32), (101 : Int32), (110 : Int32), (116 : Int32), (101 : Int32), (100 : Int32)] : List Int32) = [(97 : Int32), (108 : Int32), (108 : Int32), (111 : Int32), (119 : Int32), (101 : Int32), (100 : Int32)] then (1 : Int32) else 0) = (0 : Int32))).2) ?_
    refine o_iconst (pc := 108) X130 hx (1 : Int32) (hb hby at_108) rfl ?_
    refine o_goto (pc := 109) X130 hx 113 (hb hby at_109) (by decide) (by decide) ?_
    exact o_retNH (pc := 113) X130 hx hZ128 (o_EW hw) hh B128 .boolean hret hlk (by simp) (hb hby at_113) e130 (by decide) (by decide) ⟨rfl, N130⟩
  · skip
    refine o_ifNo (pc := 3) X0 hx (hb hby at_3) ((if0 _ _).trans (feq hc111).1) ?_
    refine o_iconst (pc := 6) X0 hx (1 : Int32) (hb hby at_6) rfl ?_
    refine o_goto (pc := 7) X0 hx 11 (hb hby at_7) (by decide) (by decide) ?_
    refine o_istore (l' := #[.val (.int p1), .val (.int p2), .val (.int p3), .val (.int p4), .val (.int p5), .val (.int (1 : Int32)), .unset, .unset]) (pc := 11) X0 hx (hb hby at_11) rfl ?_
    refine o_new (pc := 13) X0 hx hZ hown (hw _ (List.mem_of_getElem? (i := 0) rfl)) (hw _ (List.mem_of_getElem? (i := 1) rfl)) (hw _ (List.mem_of_getElem? (i := 2) rfl)) e0 (hb hby at_13) (by decide) (by decide) fun T131 h131 b131 X131 e131 g131 E131 A131 D131 U131 => ?_
    have O132 := O0.ext E131
    have B132 := B0.ext E131
    have F131_level : Fld Z h131 b131 "com/example/isolation_anomaly_finder/isolationanomalyfinder/Finding" "level" "Lcom/example/isolation_anomaly_finder/isolationanomalyfinder/IsolationLevel;" .null := D131 (Or.inr (hw _ (List.mem_of_getElem? (i := 53) rfl))) (ty := (.object "com/example/isolation_anomaly_finder/isolationanomalyfinder/IsolationLevel")) (by decide)
    have F131_anomaly : Fld Z h131 b131 "com/example/isolation_anomaly_finder/isolationanomalyfinder/Finding" "anomaly" "Ljava/lang/String;" .null := D131 (Or.inr (hw _ (List.mem_of_getElem? (i := 55) rfl))) (ty := (.object "java/lang/String")) (by decide)
    have F131_allowed : Fld Z h131 b131 "com/example/isolation_anomaly_finder/isolationanomalyfinder/Finding" "allowed" "Z" (.int (0 : Int32)) := D131 (Or.inr (hw _ (List.mem_of_getElem? (i := 57) rfl))) (ty := .boolean) (by decide)
    have F131_how : Fld Z h131 b131 "com/example/isolation_anomaly_finder/isolationanomalyfinder/Finding" "how" "Ljava/lang/String;" .null := D131 (Or.inr (hw _ (List.mem_of_getElem? (i := 59) rfl))) (ty := (.object "java/lang/String")) (by decide)
    have F131_witness : Fld Z h131 b131 "com/example/isolation_anomaly_finder/isolationanomalyfinder/Finding" "witness" "Ljava/lang/String;" .null := D131 (Or.inr (hw _ (List.mem_of_getElem? (i := 61) rfl))) (ty := (.object "java/lang/String")) (by decide)
    refine o_dup (pc := 16) X131 hx (hb hby at_16) rfl ?_
    refine o_iloadN (v := p2) (pc := 17) X131 hx (hb hby at_17) rfl ?_
    refine o_iconst (pc := 18) X131 hx (3 : Int32) (hb hby at_18) rfl ?_
    refine o_iand (pc := 19) X131 hx (hb hby at_19) ?_
    refine o_callS (pc := 20) X131 hx hZ (y := (⟨"com/example/isolation_anomaly_finder/isolationanomalyfinder/FindingVerdictPinLaw", "level", "(I)Lcom/example/isolation_anomaly_finder/isolationanomalyfinder/IsolationLevel;"⟩ : MethodName)) (argsL := [(.int (p2 &&& (3 : Int32)))]) (rest := [(.ref b131), (.ref b131)]) hown (hw _ (List.mem_of_getElem? (i := 3) rfl)) (hw _ (List.mem_of_getElem? (i := 4) rfl)) (hw _ (List.mem_of_getElem? (i := 5) rfl)) (hw _ (List.mem_of_getElem? (i := 6) rfl)) (by decide) (rm1 l Z a0 hw [] (p2 &&& (3 : Int32)) w_READ_UNCOMMITTED w_READ_COMMITTED w_REPEATABLE_READ w_SERIALIZABLE h131 n0 O132 S_READ_UNCOMMITTED S_READ_COMMITTED S_REPEATABLE_READ S_SERIALIZABLE) e131 (by rw [hml]; rfl) (lenOf o_pd7 rfl) (has := rfl) (hst := rfl) (W := 2) (Nat.le_of_ble_eq_true rfl) (hb hby at_20) (by decide) (by decide) (by decide) (by decide) fun v133 T133 h133 L133 X133 e133 q133 => ?_
    obtain ⟨rfl, N133q, rfl⟩ := q133
    have N133 := Fr.app N0 N133q
    show Go p e below T133 (mkF m 23 #[.val (.int p1), .val (.int p2), .val (.int p3), .val (.int p4), .val (.int p5), .val (.int (1 : Int32)), .unset, .unset] [(.ref (K (p2 &&& (3 : Int32)) w_READ_UNCOMMITTED w_READ_COMMITTED w_REPEATABLE_READ w_SERIALIZABLE)), (.ref b131), (.ref b131)]) _
    refine o_iloadN (v := p3) (pc := 23) X133 hx (hb hby at_23) rfl ?_
    refine o_callS (pc := 24) X133 hx hZ (y := (⟨"com/example/isolation_anomaly_finder/isolationanomalyfinder/FindingVerdictPinLaw", "text", "(I)Ljava/lang/String;"⟩ : MethodName)) (argsL := [(.int p3)]) (rest := [(.ref (K (p2 &&& (3 : Int32)) w_READ_UNCOMMITTED w_READ_COMMITTED w_REPEATABLE_READ w_SERIALIZABLE)), (.ref b131), (.ref b131)]) hown (hw _ (List.mem_of_getElem? (i := 10) rfl)) (hw _ (List.mem_of_getElem? (i := 11) rfl)) (hw _ (List.mem_of_getElem? (i := 5) rfl)) (hw _ (List.mem_of_getElem? (i := 12) rfl)) (by decide) (rm2 l Z a0 hw [] p3 cs h131 n0 O132 SC hcs) e133 (by rw [hml]; rfl) (lenOf o_pd8 rfl) (has := rfl) (hst := rfl) (W := 3) (Nat.le_of_ble_eq_true rfl) (hb hby at_24) (by decide) (by decide) (by decide) (by decide) fun v134 T134 h134 L134 X134 e134 q134 => ?_
    obtain ⟨b134, rfl, g134, N134q, E134, Ex134⟩ := q134
    have N134 := Fr.app N133 N134q
    have O135 := O132.ext E134
    have B135 := B132.ext E134
    show Go p e below T134 (mkF m 27 #[.val (.int p1), .val (.int p2), .val (.int p3), .val (.int p4), .val (.int p5), .val (.int (1 : Int32)), .unset, .unset] [(.ref b134), (.ref (K (p2 &&& (3 : Int32)) w_READ_UNCOMMITTED w_READ_COMMITTED w_REPEATABLE_READ w_SERIALIZABLE)), (.ref b131), (.ref b131)]) _
    refine o_iload (v := (1 : Int32)) (pc := 27) X134 hx (hb hby at_27) rfl ?_
    refine o_iloadN (v := p4) (pc := 29) X134 hx (hb hby at_29) rfl ?_
    refine o_callS (pc := 30) X134 hx hZ (y := (⟨"com/example/isolation_anomaly_finder/isolationanomalyfinder/FindingVerdictPinLaw", "text", "(I)Ljava/lang/String;"⟩ : MethodName)) (argsL := [(.int p4)]) (rest := [(.int (1 : Int32)), (.ref b134), (.ref (K (p2 &&& (3 : Int32)) w_READ_UNCOMMITTED w_READ_COMMITTED w_REPEATABLE_READ w_SERIALIZABLE)), (.ref b131), (.ref b131)]) hown (hw _ (List.mem_of_getElem? (i := 10) rfl)) (hw _ (List.mem_of_getElem? (i := 11) rfl)) (hw _ (List.mem_of_getElem? (i := 5) rfl)) (hw _ (List.mem_of_getElem? (i := 12) rfl)) (by decide) (rm2 l Z a0 hw [] p4 cs h134 n0 O135 SC hcs) e134 (by rw [hml]; rfl) (lenOf o_pd8 rfl) (has := rfl) (hst := rfl) (W := 5) (Nat.le_of_ble_eq_true rfl) (hb hby at_30) (by decide) (by decide) (by decide) (by decide) fun v136 T136 h136 L136 X136 e136 q136 => ?_
    obtain ⟨b136, rfl, g136, N136q, E136, Ex136⟩ := q136
    have N136 := Fr.app N134 N136q
    have O137 := O135.ext E136
    have B137 := B135.ext E136
    show Go p e below T136 (mkF m 33 #[.val (.int p1), .val (.int p2), .val (.int p3), .val (.int p4), .val (.int p5), .val (.int (1 : Int32)), .unset, .unset] [(.ref b136), (.int (1 : Int32)), (.ref b134), (.ref (K (p2 &&& (3 : Int32)) w_READ_UNCOMMITTED w_READ_COMMITTED w_REPEATABLE_READ w_SERIALIZABLE)), (.ref b131), (.ref b131)]) _
    refine o_iload (v := p5) (pc := 33) X136 hx (hb hby at_33) rfl ?_
    refine o_callS (pc := 35) X136 hx hZ (y := (⟨"com/example/isolation_anomaly_finder/isolationanomalyfinder/FindingVerdictPinLaw", "text", "(I)Ljava/lang/String;"⟩ : MethodName)) (argsL := [(.int p5)]) (rest := [(.ref b136), (.int (1 : Int32)), (.ref b134), (.ref (K (p2 &&& (3 : Int32)) w_READ_UNCOMMITTED w_READ_COMMITTED w_REPEATABLE_READ w_SERIALIZABLE)), (.ref b131), (.ref b131)]) hown (hw _ (List.mem_of_getElem? (i := 10) rfl)) (hw _ (List.mem_of_getElem? (i := 11) rfl)) (hw _ (List.mem_of_getElem? (i := 5) rfl)) (hw _ (List.mem_of_getElem? (i := 12) rfl)) (by decide) (rm2 l Z a0 hw [] p5 cs h136 n0 O137 SC hcs) e136 (by rw [hml]; rfl) (lenOf o_pd8 rfl) (has := rfl) (hst := rfl) (W := 6) (Nat.le_of_ble_eq_true rfl) (hb hby at_35) (by decide) (by decide) (by decide) (by decide) fun v138 T138 h138 L138 X138 e138 q138 => ?_
    obtain ⟨b138, rfl, g138, N138q, E138, Ex138⟩ := q138
    have N138 := Fr.app N136 N138q
    have O139 := O137.ext E138
    have B139 := B137.ext E138
    show Go p e below T138 (mkF m 38 #[.val (.int p1), .val (.int p2), .val (.int p3), .val (.int p4), .val (.int p5), .val (.int (1 : Int32)), .unset, .unset] [(.ref b138), (.ref b136), (.int (1 : Int32)), (.ref b134), (.ref (K (p2 &&& (3 : Int32)) w_READ_UNCOMMITTED w_READ_COMMITTED w_REPEATABLE_READ w_SERIALIZABLE)), (.ref b131), (.ref b131)]) _
    refine o_callN (pc := 38) X138 hx hZ (y := (⟨"com/example/isolation_anomaly_finder/isolationanomalyfinder/Finding", "<init>", "(Lcom/example/isolation_anomaly_finder/isolationanomalyfinder/IsolationLevel;Ljava/lang/String;ZLjava/lang/String;Ljava/lang/String;)V"⟩ : MethodName)) (a := b131) (argsL := [(.ref (K (p2 &&& (3 : Int32)) w_READ_UNCOMMITTED w_READ_COMMITTED w_REPEATABLE_READ w_SERIALIZABLE)), (.ref b134), (.int (1 : Int32)), (.ref b136), (.ref b138)]) (rest := [(.ref b131)]) rfl hown (hw _ (List.mem_of_getElem? (i := 43) rfl)) (hw _ (List.mem_of_getElem? (i := 44) rfl)) (hw _ (List.mem_of_getElem? (i := 2) rfl)) (hw _ (List.mem_of_getElem? (i := 45) rfl)) (by decide) (rm9 l Z a0 hw [] b131 (K (p2 &&& (3 : Int32)) w_READ_UNCOMMITTED w_READ_COMMITTED w_REPEATABLE_READ w_SERIALIZABLE) b134 (1 : Int32) b136 b138 h138 n0 O139 (((A131.ext E134).ext E136).ext E138) (((F131_level.ext E134).ext E136).ext E138) (((F131_anomaly.ext E134).ext E136).ext E138) (((F131_allowed.ext E134).ext E136).ext E138) (((F131_how.ext E134).ext E136).ext E138) (((F131_witness.ext E134).ext E136).ext E138) (Nat.le_trans (o_n0 O0) g131)) e138 (by rw [hml]; rfl) (lenOf o_pd9 rfl) (has := rfl) (hst := rfl) (W := 1) (Nat.le_of_ble_eq_true rfl) (hb hby at_38) (by decide) (by decide) (by decide) (by decide) fun v140 T140 h140 L140 X140 e140 q140 => ?_
    obtain ⟨rfl, N140q, Kc140, Fn140_0, Fn140_1, Fn140_2, Fn140_3, Fn140_4⟩ := q140
    have N140 := Fr.app N138 N140q
    have O141 := O139.keep Kc140 (allS (Nat.le_trans (o_n0 O0) g131) all0)
    have B141 := B139.keep Kc140 (allS (Safe.exa hZ.alike (((A131.ext E134).ext E136).ext E138) (by decide) (by decide)) all0)
    show Go p e below T140 (mkF m 41 #[.val (.int p1), .val (.int p2), .val (.int p3), .val (.int p4), .val (.int p5), .val (.int (1 : Int32)), .unset, .unset] [(.ref b131)]) _
    refine o_astore (l' := #[.val (.int p1), .val (.int p2), .val (.int p3), .val (.int p4), .val (.int p5), .val (.int (1 : Int32)), .val (.ref b131), .unset]) (pc := 41) X140 hx (hb hby at_41) rfl rfl ?_
    refine o_aload (v := (.ref b131)) (pc := 43) X140 hx (hb hby at_43) rfl rfl ?_
    refine o_callVH (pc := 45) X140 hx hZ (y := (⟨"com/example/isolation_anomaly_finder/isolationanomalyfinder/Finding", "verdict", "()Ljava/lang/String;"⟩ : MethodName)) (z := (⟨"com/example/isolation_anomaly_finder/isolationanomalyfinder/Finding", "verdict", "()Ljava/lang/String;"⟩ : MethodName)) (C := "com/example/isolation_anomaly_finder/isolationanomalyfinder/Finding") (a := b131) (argsL := []) (rest := []) hown (o_EW hw) B141 (hw _ (List.mem_of_getElem? (i := 62) rfl)) (hw _ (List.mem_of_getElem? (i := 63) rfl)) (notFace_of_selects (args := #[]) (mvT hZ (hw _ (List.mem_of_getElem? (i := 65) rfl)))) (hw _ (List.mem_of_getElem? (i := 65) rfl)) (hw _ (List.mem_of_getElem? (i := 64) rfl)) (hw _ (List.mem_of_getElem? (i := 2) rfl)) (hw _ (List.mem_of_getElem? (i := 66) rfl)) (by decide) (rmV1 l Z a0 hw [] b131 h140 n0 O141 Fn140_2) e140 ((((A131.ext E134).ext E136).ext E138).keep Kc140) (by rw [hml]; rfl) (lenOf o_pd10 rfl) (has := rfl) (hst := rfl) (W := 0) (Nat.le_of_ble_eq_true rfl) (hb hby at_45) (by decide) (by decide) (by decide) (by decide) fun sB142 v142 T142 h142 L142 X142 e142 B142 hZ142 hown142 hC142 q142 => ?_
    obtain ⟨b142, d142, k142, rfl, N142q, E142, Le142, Lc142, Lv142, La142⟩ := q142
    have N142 := Fr.app N140 N142q
    have O143 := O141.ext E142
    show Go p e below T142 (mkF m 48 #[.val (.int p1), .val (.int p2), .val (.int p3), .val (.int p4), .val (.int p5), .val (.int (1 : Int32)), .val (.ref b131), .unset] [(.ref b142)]) _
    refine o_astore (l' := #[.val (.int p1), .val (.int p2), .val (.int p3), .val (.int p4), .val (.int p5), .val (.int (1 : Int32)), .val (.ref b131), .val (.ref b142)]) (pc := 48) X142 hx (hb hby at_48) rfl rfl ?_
    refine o_aload (v := (.ref b142)) (pc := 50) X142 hx (hb hby at_50) rfl rfl ?_
    refine o_ifnonnullYes (pc := 52) X142 hx 57 (hb hby at_52) (by decide) (by decide) ?_
    refine o_iload (v := (1 : Int32)) (pc := 57) X142 hx (hb hby at_57) rfl ?_
    refine o_ifNo (pc := 59) X142 hx (hb hby at_59) ((if0 _ _).trans (feq (by decide : ¬ ((1 : Int32) = (0 : Int32)))).1) ?_
    refine o_aload (v := (.ref b142)) (pc := 62) X142 hx (hb hby at_62) rfl rfl ?_
    refine o_ldcH (pc := 64) X142 hx hZ142 hown142 (hw _ (List.mem_of_getElem? (i := 76) rfl)) (o_wS hw) e142 (o_EW hw) (List.mem_of_getElem? (i := 2) rfl) B142 (vs := [(.int (97 : Int32)), (.int (108 : Int32)), (.int (108 : Int32)), (.int (111 : Int32)), (.int (119 : Int32)), (.int (101 : Int32)), (.int (100 : Int32))]) (z := (7 : Int32)) ⟨by decide, rfl⟩ (by decide) rfl (hb hby at_64) 28 (by decide) (by decide) (by decide) (by decide) fun sB144 b144 T144 h144 d144 k144 X144 e144 E144 B144 hZ144 hown144 hC144 Le144 Lc144 Lv144 La144 => ?_
    have O145 := O143.ext E144
    refine o_callV (pc := 66) X144 hx hZ144 (y := (⟨"java/lang/String", "equals", "(Ljava/lang/Object;)Z"⟩ : MethodName)) (z := (⟨"java/lang/String", "equals", "(Ljava/lang/Object;)Z"⟩ : MethodName)) (C := "java/lang/String") (a := b142) (argsL := [(.ref b144)]) (rest := []) hown144 (hw _ (List.mem_of_getElem? (i := 71) rfl)) (hw _ (List.mem_of_getElem? (i := 72) rfl)) (notFace_of_selects (args := #[]) (mvT hZ144 (hw _ (List.mem_of_getElem? (i := 74) rfl)))) (hw _ (List.mem_of_getElem? (i := 74) rfl)) (hw _ (List.mem_of_getElem? (i := 73) rfl)) (hw _ (List.mem_of_getElem? (i := 16) rfl)) (hw _ (List.mem_of_getElem? (i := 75) rfl)) (by decide) (rmEQ_7_7 l Z a0 hw [] b142 b144 d142 d144 k142 k144 cs (97 : Int32) (108 : Int32) (108 : Int32) (111 : Int32) (119 : Int32) (101 : Int32) (100 : Int32) (97 : Int32) (108 : Int32) (108 : Int32) (111 : Int32) (119 : Int32) (101 : Int32) (100 : Int32) h144 n0 O145 (Le142.ext E144) (Lc142.ext E144) (Lv142.ext E144) Le144 Lc144 Lv144 (La142.ext E144) La144 SC hcs) e144 (Le142.ext E144) (by rw [hml]; rfl) (lenOf o_pd11 rfl) (has := rfl) (hst := rfl) (W := 0) (Nat.le_of_ble_eq_true rfl) (hb hby at_66) (by decide) (by decide) (by decide) (by decide) fun v146 T146 h146 L146 X146 e146 q146 => ?_
    obtain ⟨rfl, N146q, rfl⟩ := q146
    have N146 := Fr.app N142 N146q
    show Go p e below T146 (mkF m 69 #[.val (.int p1), .val (.int p2), .val (.int p3), .val (.int p4), .val (.int p5), .val (.int (1 : Int32)), .val (.ref b131), .val (.ref b142)] [(.int (if ([(97 : Int32), (108 : Int32), (108 : Int32), (111 : Int32), (119 : Int32), (101 : Int32), (100 : Int32)] : List Int32) = [(97 : Int32), (108 : Int32), (108 : Int32), (111 : Int32), (119 : Int32), (101 : Int32), (100 : Int32)] then (1 : Int32) else 0))]) _
    refine o_ifNo (pc := 69) X146 hx (hb hby at_69) ((if0 _ _).trans (feq (by rw [if_pos rfl]; first | done | decide : ¬ ((if ([(97 : Int32), (108 : Int32), (108 : Int32), (111 : Int32), (119 : Int32), (101 : Int32), (100 : Int32)] : List Int32) = [(97 : Int32), (108 : Int32), (108 : Int32), (111 : Int32), (119 : Int32), (101 : Int32), (100 : Int32)] then (1 : Int32) else 0) = (0 : Int32)))).1) ?_
    refine o_aload (v := (.ref b142)) (pc := 72) X146 hx (hb hby at_72) rfl rfl ?_
    refine o_ldcH (pc := 74) X146 hx hZ144 hown144 (hw _ (List.mem_of_getElem? (i := 70) rfl)) (o_wS hw) e146 (o_EW hw) (List.mem_of_getElem? (i := 3) rfl) B144 (vs := [(.int (112 : Int32)), (.int (114 : Int32)), (.int (101 : Int32)), (.int (118 : Int32)), (.int (101 : Int32)), (.int (110 : Int32)), (.int (116 : Int32)), (.int (101 : Int32)), (.int (100 : Int32))]) (z := (9 : Int32)) ⟨by decide, rfl⟩ (by decide) rfl (hb hby at_74) 36 (by decide) (by decide) (by decide) (by decide) fun sB147 b147 T147 h147 d147 k147 X147 e147 E147 B147 hZ147 hown147 hC147 Le147 Lc147 Lv147 La147 => ?_
    have O148 := O145.ext E147
    refine o_callV (pc := 76) X147 hx hZ147 (y := (⟨"java/lang/String", "equals", "(Ljava/lang/Object;)Z"⟩ : MethodName)) (z := (⟨"java/lang/String", "equals", "(Ljava/lang/Object;)Z"⟩ : MethodName)) (C := "java/lang/String") (a := b142) (argsL := [(.ref b147)]) (rest := []) hown147 (hw _ (List.mem_of_getElem? (i := 71) rfl)) (hw _ (List.mem_of_getElem? (i := 72) rfl)) (notFace_of_selects (args := #[]) (mvT hZ147 (hw _ (List.mem_of_getElem? (i := 74) rfl)))) (hw _ (List.mem_of_getElem? (i := 74) rfl)) (hw _ (List.mem_of_getElem? (i := 73) rfl)) (hw _ (List.mem_of_getElem? (i := 16) rfl)) (hw _ (List.mem_of_getElem? (i := 75) rfl)) (by decide) (rmEQ_7_9 l Z a0 hw [] b142 b147 d142 d147 k142 k147 cs (97 : Int32) (108 : Int32) (108 : Int32) (111 : Int32) (119 : Int32) (101 : Int32) (100 : Int32) (112 : Int32) (114 : Int32) (101 : Int32) (118 : Int32) (101 : Int32) (110 : Int32) (116 : Int32) (101 : Int32) (100 : Int32) h147 n0 O148 ((Le142.ext E144).ext E147) ((Lc142.ext E144).ext E147) ((Lv142.ext E144).ext E147) Le147 Lc147 Lv147 ((La142.ext E144).ext E147) La147 SC hcs) e147 ((Le142.ext E144).ext E147) (by rw [hml]; rfl) (lenOf o_pd11 rfl) (has := rfl) (hst := rfl) (W := 0) (Nat.le_of_ble_eq_true rfl) (hb hby at_76) (by decide) (by decide) (by decide) (by decide) fun v149 T149 h149 L149 X149 e149 q149 => ?_
    obtain ⟨rfl, N149q, rfl⟩ := q149
    have N149 := Fr.app N146 N149q
    show Go p e below T149 (mkF m 79 #[.val (.int p1), .val (.int p2), .val (.int p3), .val (.int p4), .val (.int p5), .val (.int (1 : Int32)), .val (.ref b131), .val (.ref b142)] [(.int (if ([(97 : Int32), (108 : Int32), (108 : Int32), (111 : Int32), (119 : Int32), (101 : Int32), (100 : Int32)] : List Int32) = [(112 : Int32), (114 : Int32), (101 : Int32), (118 : Int32), (101 : Int32), (110 : Int32), (116 : Int32), (101 : Int32), (100 : Int32)] then (1 : Int32) else 0))]) _
    refine o_ifNo (pc := 79) X149 hx (hb hby at_79) ((if0 _ _).trans (teq (by rw [if_neg (by simp)]; first | done | decide : (if ([(97 : Int32), (108 : Int32), (108 : Int32), (111 : Int32), (119 : Int32), (101 : Int32), (100 : Int32)] : List Int32) = [(112 : Int32), (114 : Int32), (101 : Int32), (118 : Int32), (101 : Int32), (110 : Int32), (116 : Int32), (101 : Int32), (100 : Int32)] then (1 : Int32) else 0) = (0 : Int32))).2) ?_
    refine o_iconst (pc := 82) X149 hx (1 : Int32) (hb hby at_82) rfl ?_
    refine o_goto (pc := 83) X149 hx 87 (hb hby at_83) (by decide) (by decide) ?_
    exact o_retNH (pc := 87) X149 hx hZ147 (o_EW hw) hh B147 .boolean hret hlk (by simp) (hb hby at_87) e149 (by decide) (by decide) ⟨rfl, N149⟩
set_option maxRecDepth 65536 in
set_option maxHeartbeats 40000000 in
theorem comes_1 {Post : Tables → Env → Array Value → State → Outcome → State → Prop} (hpost : ∀ tb e args s v u, (limb_1_1.after args s (.returned v) u = true ∧ limb_1_2.after args s (.returned v) u = true ∧ True) → ReturnedEndW s (.returned v) u (Jvm.fieldLocs frame_1_writes args s ++ Jvm.arrayLocs frame_1_arrays args s ++ Jvm.staticLocs frame_1_statics s) 40 4288 → Post tb e args s (.returned v) u) :
    ArmFor flags0 classFile x code maxLocals ret World_1 tables_1 room_1 Calls_1 rest_1 Pre_1 Post := by
  intro l hfl _ _ p e ha hc hk s m args below hf hA hF happ hP
  obtain ⟨hcalls, hrest, hpre⟩ := hP
  obtain ⟨-, -, -, hnamed, -, -, -, hat⟩ := (Spec.applies_iff hf).mp happ
  obtain ⟨hg, hn⟩ := and_e (Cond.before_iff.mp (show (Jvm.Cond.and given_1 narrow_1).before args s = true from hpre))
  obtain ⟨g150, g151⟩ := and_e hg
  obtain ⟨g152, g153⟩ := and_e g151
  obtain ⟨g154, g155⟩ := and_e g153
  obtain ⟨g156, g157⟩ := and_e g155
  obtain ⟨g158, g159⟩ := and_e g157
  obtain ⟨g160, g161⟩ := and_e hn
  obtain ⟨g162, g163⟩ := and_e g161
  obtain ⟨g164, g165⟩ := and_e g163
  obtain ⟨w0, w1, w2, w3, w4, rfl⟩ : ∃ w0 w1 w2 w3 w4 : Value, args = #[w0, w1, w2, w3, w4] := by
    have hs : args.size = 5 := by simpa [Cond.value, given_1] using g150
    obtain ⟨L⟩ := args
    match L, hs with
    | [w0, w1, w2, w3, w4], _ => exact ⟨w0, w1, w2, w3, w4, rfl⟩
  have hw := fun d (hd : d ∈ tables_1) => atoms_spec (ws := Jvm.Cond.code x code maxLocals ret :: tables_1) hat d (List.mem_cons_of_mem _ hd)
  have hfit : Fit s := fun {y c} hc i hi => by
    obtain ⟨ha, rfl⟩ := Array.getElem?_eq_some_iff.mp hc
    have q := List.all_eq_true.mp ((Array.all_eq_true_iff_forall_mem.mp hF) _ (Array.getElem_mem ha)) i (List.mem_range.mpr hi)
    simpa [Array.getElem?_eq_getElem hi] using q
  obtain ⟨i0, ei0⟩ := is_v g152
  obtain rfl : w0 = (.int i0) := Option.some.inj ei0
  obtain ⟨i1, ei1⟩ := is_v g154
  obtain rfl : w1 = (.int i1) := Option.some.inj ei1
  obtain ⟨i2, ei2⟩ := is_v g156
  obtain rfl : w2 = (.int i2) := Option.some.inj ei2
  obtain ⟨i3, ei3⟩ := is_v g158
  obtain rfl : w3 = (.int i3) := Option.some.inj ei3
  obtain ⟨i4, ei4⟩ := is_v g159
  obtain rfl : w4 = (.int i4) := Option.some.inj ei4
  obtain ⟨w_SERIALIZABLE, ev_SERIALIZABLE⟩ := exa_v g160
  have S_SERIALIZABLE := Sta.start ev_SERIALIZABLE (Or.inr ⟨(hw _ (List.mem_of_getElem? (i := 8) rfl)), (hw _ (List.mem_of_getElem? (i := 9) rfl))⟩)
  have E_SERIALIZABLE := Exa.start ev_SERIALIZABLE g160
  obtain ⟨w_READ_UNCOMMITTED, ev_READ_UNCOMMITTED⟩ := exa_v g162
  have S_READ_UNCOMMITTED := Sta.start ev_READ_UNCOMMITTED (Or.inr ⟨(hw _ (List.mem_of_getElem? (i := 8) rfl)), (hw _ (List.mem_of_getElem? (i := 83) rfl))⟩)
  have E_READ_UNCOMMITTED := Exa.start ev_READ_UNCOMMITTED g162
  obtain ⟨w_REPEATABLE_READ, ev_REPEATABLE_READ⟩ := exa_v g164
  have S_REPEATABLE_READ := Sta.start ev_REPEATABLE_READ (Or.inr ⟨(hw _ (List.mem_of_getElem? (i := 8) rfl)), (hw _ (List.mem_of_getElem? (i := 86) rfl))⟩)
  have E_REPEATABLE_READ := Exa.start ev_REPEATABLE_READ g164
  obtain ⟨w_READ_COMMITTED, ev_READ_COMMITTED⟩ := exa_v g165
  have S_READ_COMMITTED := Sta.start ev_READ_COMMITTED (Or.inr ⟨(hw _ (List.mem_of_getElem? (i := 8) rfl)), (hw _ (List.mem_of_getElem? (i := 88) rfl))⟩)
  have E_READ_COMMITTED := Exa.start ev_READ_COMMITTED g165
  obtain ⟨hsets, hown0⟩ := atoms_of _ (rest_1_c_eq ▸ (show rest_1_c.before _ s = true from hrest))
  obtain ⟨cs, evcs⟩ := is_v (Cond.before_iff.mp (hsets _ (List.mem_of_getElem? (i := 1) rfl)))
  have SC := Sta.start evcs (Or.inl (hsets _ (List.mem_of_getElem? (i := 0) rfl)))
  have hcs : ¬ cs = (0 : Int32) := gotF (Cond.eq_ints evcs (Term.int_eval 0)) (not_v (Cond.before_iff.mp (hsets _ (List.mem_of_getElem? (i := 2) rfl))))
  have H0 : CHv s consts_1 s.vm s.heap := CHv.start (o_EW hw) (fun p hp => hcalls.1 p hp) (hsets _ (List.mem_of_getElem? (i := 2) rfl)) (hw _ (List.mem_of_getElem? (i := 32) rfl)) (hw _ (List.mem_of_getElem? (i := 15) rfl))
  obtain ⟨n, o, h1, h2, h3, _, L, rfl, ⟨rfl, N⟩, -, hq⟩ := rm0 l s _ hw tables_1 i0 i1 i2 i3 i4 cs w_READ_UNCOMMITTED w_READ_COMMITTED w_REPEATABLE_READ w_SERIALIZABLE s.heap s.heap.size (Old.start s) SC hcs S_READ_UNCOMMITTED S_READ_COMMITTED S_REPEATABLE_READ S_SERIALIZABLE p e ha hc hk s m _ below hf ((Spec.applies_iff_loose hf).mp happ).1 ⟨rfl, State.Warmed39.refl s, rfl, H0⟩ trivial
  refine ⟨n, _, h1, h2, h3, hpost _ _ _ _ _ _ ⟨Cond.after_iff.mpr rfl, Cond.after_iff.mpr (eq_i res_at (Term.int_eval (1)) rfl), trivial⟩ ⟨hq.1, hq.2.1, hq.2.2.1, (hq.2.2.2.sift fun y hy => Or.inr (N y hy)).mono (by decide) (by decide)⟩⟩
theorem main_1_1 : Claimed_1_1 := comes_1 fun _ _ _ _ _ _ h hF => ⟨h.1, hF⟩
theorem main_1_2 : Claimed_1_2 := comes_1 fun _ _ _ _ _ _ h hF => ⟨h.2.1, hF⟩
end Jvm.Pilot.@@N@@
namespace Jvm.Pilot.@@N@@
open Jvm Jvm.ClassFile Sem Op Lib Jvm.Free Jvm.Stand Jvm.Pilot.@@N@@.Jvm.D
/-! MADE BY PROGRAM (witnessworld.py) out of the Statement's table words and the real class files: 23 classes; the members and pool entries that the words name. The judged class is class 1, her method 3. -/
namespace start1
open Jvm.ClassFile
def u (s : String) : CpInfo := .utf8 (stringToUtf16 s)
/-- a pool by its gaps: so many unusable entries, then the entry; so many at the end -/
def gap : Nat → List CpInfo → List CpInfo
  | 0, r => r
  | n + 1, r => .unusable :: gap n r
def poolList (es : List (Nat × CpInfo)) (last : Nat) : List CpInfo := es.foldr (fun e r => gap e.1 (e.2 :: r)) (gap last [])
def pool (es : List (Nat × CpInfo)) (last : Nat) : Array CpInfo := ⟨poolList es last⟩
def fileOf (pool : Array CpInfo) (this : Nat) (attrs : Array Attribute := #[]) (ms : Array MethodInfo := #[]) (fl : Nat := 33) (sup : Nat := 0) (ifs : Array Nat := #[]) (fds : Array FieldInfo := #[]) : ClassFile where
  minorVersion := 0
  majorVersion := 65
  constantPool := pool
  accessFlags := fl
  thisClass := this
  superClass := sup
  interfaces := ifs
  fields := fds
  methods := ms
  attributes := attrs
def plain (name : String) (sup : Option ClassId) : Class where
  name := name
  kind := .ordinary
  loader := none
  accessFlags := 33
  super := sup
  interfaces := #[]
  cf := none
  fields := #[]
  methods := #[]
  instanceTypes := #[]
  staticTypes := #[]
  resolved := #[]
  callSites := []
  init := .initialized
  statics := none
  mirror := none

def pool0 : Array CpInfo := pool [(5, u "<init>"), (0, u "()V"), (1, .class_ 10), (1, u "java/lang/Object")] 113

def k0c0 : Code := { maxStack := 0, maxLocals := 1, code := object_method_1_code, exceptionTable := #[], attributes := #[] }
def k0m0 : Method := { name := "<init>", desc := "()V", sig := { parameters := [], returnType := none }, accessFlags := 1, code := some k0c0 }
/-- java/lang/Object -/
def k0 : Class := { plain "java/lang/Object" none with
  accessFlags := 33
  interfaces := #[]
  cf := some (fileOf pool0 8 #[] #[{ accessFlags := 1, nameIndex := 5, descriptorIndex := 6, attributes := #[] }] 33 0 #[] #[])
  fields := #[]
  methods := #[k0m0]
  instanceTypes := #[]
  staticTypes := #[]
  resolved := Array.replicate 124 none
  statics := none }

def pool1 : Array CpInfo := pool [(2, .class_ 4), (1, u "java/lang/Object"), (0, u "<init>"), (0, u "()V"), (0, .fieldref 8 9), (0, .class_ 10), (0, .nameAndType 11 12), (0, u "com/example/isolation_anomaly_finder/isolationanomalyfinder/IsolationLevel"), (0, u "READ_UNCOMMITTED"), (0, u "Lcom/example/isolation_anomaly_finder/isolationanomalyfinder/IsolationLevel;"), (0, .fieldref 8 14), (0, .nameAndType 15 12), (0, u "READ_COMMITTED"), (0, .fieldref 8 17), (0, .nameAndType 18 12), (0, u "REPEATABLE_READ"), (0, .fieldref 8 20), (0, .nameAndType 21 12), (0, u "SERIALIZABLE"), (0, .class_ 23), (0, u "java/lang/String"), (0, .methodref 22 25), (0, .nameAndType 5 26), (0, u "([C)V"), (0, .class_ 28), (0, u "com/example/isolation_anomaly_finder/isolationanomalyfinder/Finding"), (0, .methodref 30 31), (0, .class_ 32), (0, .nameAndType 33 34), (0, u "com/example/isolation_anomaly_finder/isolationanomalyfinder/FindingVerdictPinLaw"), (0, u "level"), (0, u "(I)Lcom/example/isolation_anomaly_finder/isolationanomalyfinder/IsolationLevel;"), (0, .methodref 30 36), (0, .nameAndType 37 38), (0, u "text"), (0, u "(I)Ljava/lang/String;"), (0, .methodref 27 40), (0, .nameAndType 5 41), (0, u "(Lcom/example/isolation_anomaly_finder/isolationanomalyfinder/IsolationLevel;Ljava/lang/String;ZLjava/lang/String;Ljava/lang/String;)V"), (0, .methodref 27 43), (0, .nameAndType 44 45), (0, u "verdict"), (0, u "()Ljava/lang/String;"), (0, .string 47), (0, u "allowed"), (0, .methodref 22 49), (0, .nameAndType 50 51), (0, u "equals"), (0, u "(Ljava/lang/Object;)Z"), (0, .string 53), (0, u "prevented"), (3, u "law"), (0, u "(IIIII)Z")] 2

def k1m0 : Method := { name := "<init>", desc := "()V", sig := { parameters := [], returnType := none }, accessFlags := 2, code := none }
def k1c1 : Code := { maxStack := 2, maxLocals := 1, code := method_2_code, exceptionTable := #[], attributes := #[] }
def k1m1 : Method := { name := "level", desc := "(I)Lcom/example/isolation_anomaly_finder/isolationanomalyfinder/IsolationLevel;", sig := { parameters := [.int], returnType := some (.object "com/example/isolation_anomaly_finder/isolationanomalyfinder/IsolationLevel") }, accessFlags := 10, code := some k1c1 }
def k1c2 : Code := { maxStack := 4, maxLocals := 2, code := method_3_code, exceptionTable := #[], attributes := #[] }
def k1m2 : Method := { name := "text", desc := "(I)Ljava/lang/String;", sig := { parameters := [.int], returnType := some (.object "java/lang/String") }, accessFlags := 10, code := some k1c2 }
def k1c3 : Code := { maxStack := 7, maxLocals := 8, code := code, exceptionTable := #[], attributes := #[] }
def k1m3 : Method := { name := "law", desc := "(IIIII)Z", sig := { parameters := [.int, .int, .int, .int, .int], returnType := some .boolean }, accessFlags := 9, code := some k1c3 }
/-- com/example/isolation_anomaly_finder/isolationanomalyfinder/FindingVerdictPinLaw -/
def k1 : Class := { plain "com/example/isolation_anomaly_finder/isolationanomalyfinder/FindingVerdictPinLaw" (some 0) with
  accessFlags := 49
  interfaces := #[]
  cf := some (fileOf pool1 30 #[] #[{ accessFlags := 2, nameIndex := 5, descriptorIndex := 6, attributes := #[] }, { accessFlags := 10, nameIndex := 33, descriptorIndex := 34, attributes := #[] }, { accessFlags := 10, nameIndex := 37, descriptorIndex := 38, attributes := #[] }, { accessFlags := 9, nameIndex := 57, descriptorIndex := 58, attributes := #[] }] 49 2 #[] #[])
  fields := #[]
  methods := #[k1m0, k1m1, k1m2, k1m3]
  instanceTypes := #[]
  staticTypes := #[]
  resolved := Array.replicate 61 none
  statics := none }

def pool2 : Array CpInfo := pool [(1, .methodref 2 3), (0, .class_ 4), (0, .nameAndType 5 6), (0, u "java/lang/Object"), (0, u "<init>"), (0, u "()V"), (0, .class_ 8), (0, u "java/lang/Record")] 13

def k2c0 : Code := { maxStack := 1, maxLocals := 1, code := jdk_30_method_1_code, exceptionTable := #[], attributes := #[] }
def k2m0 : Method := { name := "<init>", desc := "()V", sig := { parameters := [], returnType := none }, accessFlags := 4, code := some k2c0 }
/-- java/lang/Record -/
def k2 : Class := { plain "java/lang/Record" (some 0) with
  accessFlags := 1057
  interfaces := #[]
  cf := some (fileOf pool2 7 #[] #[{ accessFlags := 4, nameIndex := 5, descriptorIndex := 6, attributes := #[] }] 1057 2 #[] #[])
  fields := #[]
  methods := #[k2m0]
  instanceTypes := #[]
  staticTypes := #[]
  resolved := Array.replicate 22 none
  statics := none }

def pool3 : Array CpInfo := pool [(1, .methodref 2 3), (0, .class_ 4), (0, .nameAndType 5 6), (0, u "java/lang/Record"), (0, u "<init>"), (0, u "()V"), (0, .fieldref 8 9), (0, .class_ 10), (0, .nameAndType 11 12), (0, u "com/example/isolation_anomaly_finder/isolationanomalyfinder/Finding"), (0, u "level"), (0, u "Lcom/example/isolation_anomaly_finder/isolationanomalyfinder/IsolationLevel;"), (0, .fieldref 8 14), (0, .nameAndType 15 16), (0, u "anomaly"), (0, u "Ljava/lang/String;"), (0, .fieldref 8 18), (0, .nameAndType 19 20), (0, u "allowed"), (0, u "Z"), (0, .fieldref 8 22), (0, .nameAndType 23 16), (0, u "how"), (0, .fieldref 8 25), (0, .nameAndType 26 16), (0, u "witness"), (40, .string 19), (3, .string 72), (0, u "prevented"), (9, u "()Ljava/lang/String;"), (2, u "(Lcom/example/isolation_anomaly_finder/isolationanomalyfinder/IsolationLevel;Ljava/lang/String;ZLjava/lang/String;Ljava/lang/String;)V"), (5, u "verdict"), (15, u "ALLOWED"), (1, u "PREVENTED")] 44

def k3c0 : Code := { maxStack := 2, maxLocals := 6, code := prog_14_method_1_code, exceptionTable := #[], attributes := #[] }
def k3m0 : Method := { name := "<init>", desc := "(Lcom/example/isolation_anomaly_finder/isolationanomalyfinder/IsolationLevel;Ljava/lang/String;ZLjava/lang/String;Ljava/lang/String;)V", sig := { parameters := [(.object "com/example/isolation_anomaly_finder/isolationanomalyfinder/IsolationLevel"), (.object "java/lang/String"), .boolean, (.object "java/lang/String"), (.object "java/lang/String")], returnType := none }, accessFlags := 0, code := some k3c0 }
def k3c1 : Code := { maxStack := 1, maxLocals := 1, code := prog_14_method_3_code, exceptionTable := #[], attributes := #[] }
def k3m1 : Method := { name := "verdict", desc := "()Ljava/lang/String;", sig := { parameters := [], returnType := some (.object "java/lang/String") }, accessFlags := 0, code := some k3c1 }
/-- com/example/isolation_anomaly_finder/isolationanomalyfinder/Finding -/
def k3 : Class := { plain "com/example/isolation_anomaly_finder/isolationanomalyfinder/Finding" (some 2) with
  accessFlags := 48
  interfaces := #[]
  cf := some (fileOf pool3 8 #[] #[{ accessFlags := 0, nameIndex := 5, descriptorIndex := 85, attributes := #[] }, { accessFlags := 0, nameIndex := 91, descriptorIndex := 82, attributes := #[] }] 48 2 #[] #[{ accessFlags := 18, nameIndex := 11, descriptorIndex := 12, attributes := #[] }, { accessFlags := 18, nameIndex := 15, descriptorIndex := 16, attributes := #[] }, { accessFlags := 18, nameIndex := 19, descriptorIndex := 20, attributes := #[] }, { accessFlags := 18, nameIndex := 23, descriptorIndex := 16, attributes := #[] }, { accessFlags := 18, nameIndex := 26, descriptorIndex := 16, attributes := #[] }, { accessFlags := 26, nameIndex := 107, descriptorIndex := 16, attributes := #[] }, { accessFlags := 26, nameIndex := 109, descriptorIndex := 16, attributes := #[] }])
  fields := #[{ name := "level", type := (.object "com/example/isolation_anomaly_finder/isolationanomalyfinder/IsolationLevel"), accessFlags := 18, slot := 0, constantValue := 0 }, { name := "anomaly", type := (.object "java/lang/String"), accessFlags := 18, slot := 1, constantValue := 0 }, { name := "allowed", type := .boolean, accessFlags := 18, slot := 2, constantValue := 0 }, { name := "how", type := (.object "java/lang/String"), accessFlags := 18, slot := 3, constantValue := 0 }, { name := "witness", type := (.object "java/lang/String"), accessFlags := 18, slot := 4, constantValue := 0 }, { name := "ALLOWED", type := (.object "java/lang/String"), accessFlags := 26, slot := 0, constantValue := 0 }, { name := "PREVENTED", type := (.object "java/lang/String"), accessFlags := 26, slot := 1, constantValue := 0 }]
  methods := #[k3m0, k3m1]
  instanceTypes := #[(.object "com/example/isolation_anomaly_finder/isolationanomalyfinder/IsolationLevel"), (.object "java/lang/String"), .boolean, (.object "java/lang/String"), (.object "java/lang/String")]
  staticTypes := #[(.object "java/lang/String"), (.object "java/lang/String")]
  resolved := Array.replicate 154 none
  statics := none }

def pool4 : Array CpInfo := pool [(1, .class_ 2), (0, u "java/lang/constant/Constable"), (0, .class_ 4), (0, u "java/lang/Object")] 6

/-- java/lang/constant/Constable -/
def k4 : Class := { plain "java/lang/constant/Constable" (some 0) with
  accessFlags := 1537
  interfaces := #[]
  cf := some (fileOf pool4 1 #[] #[] 1537 3 #[] #[])
  fields := #[]
  methods := #[]
  instanceTypes := #[]
  staticTypes := #[]
  resolved := Array.replicate 11 none
  statics := none }

def pool5 : Array CpInfo := pool [(1, .class_ 2), (0, u "java/lang/Comparable"), (0, .class_ 4), (0, u "java/lang/Object")] 7

/-- java/lang/Comparable -/
def k5 : Class := { plain "java/lang/Comparable" (some 0) with
  accessFlags := 1537
  interfaces := #[]
  cf := some (fileOf pool5 1 #[] #[] 1537 3 #[] #[])
  fields := #[]
  methods := #[]
  instanceTypes := #[]
  staticTypes := #[]
  resolved := Array.replicate 12 none
  statics := none }

def pool6 : Array CpInfo := pool [(1, .class_ 2), (0, u "java/io/Serializable"), (0, .class_ 4), (0, u "java/lang/Object")] 2

/-- java/io/Serializable -/
def k6 : Class := { plain "java/io/Serializable" (some 0) with
  accessFlags := 1537
  interfaces := #[]
  cf := some (fileOf pool6 1 #[] #[] 1537 3 #[] #[])
  fields := #[]
  methods := #[]
  instanceTypes := #[]
  staticTypes := #[]
  resolved := Array.replicate 7 none
  statics := none }

def pool7 : Array CpInfo := pool [(2, .class_ 4), (1, u "java/lang/Enum"), (0, u "name"), (0, u "Ljava/lang/String;"), (2, u "ordinal"), (0, u "I"), (1, .class_ 14), (1, u "java/lang/Object"), (4, u "hash"), (86, .class_ 108), (1, u "java/lang/Enum$EnumDesc"), (2, .class_ 112), (0, u "java/lang/constant/Constable"), (0, .class_ 114), (0, u "java/lang/Comparable"), (0, .class_ 116), (0, u "java/io/Serializable")] 87

/-- java/lang/Enum -/
def k7 : Class := { plain "java/lang/Enum" (some 0) with
  accessFlags := 1057
  interfaces := #[4, 5, 6]
  cf := some (fileOf pool7 2 #[.nestMembers #[106]] #[] 1057 12 #[111, 113, 115] #[{ accessFlags := 18, nameIndex := 5, descriptorIndex := 6, attributes := #[] }, { accessFlags := 18, nameIndex := 9, descriptorIndex := 10, attributes := #[] }, { accessFlags := 2, nameIndex := 19, descriptorIndex := 10, attributes := #[] }])
  fields := #[{ name := "name", type := (.object "java/lang/String"), accessFlags := 18, slot := 0, constantValue := 0 }, { name := "ordinal", type := .int, accessFlags := 18, slot := 1, constantValue := 0 }, { name := "hash", type := .int, accessFlags := 2, slot := 2, constantValue := 0 }]
  methods := #[]
  instanceTypes := #[(.object "java/lang/String"), .int, .int]
  staticTypes := #[]
  resolved := Array.replicate 204 none
  statics := none }

def pool8 : Array CpInfo := pool [(1, .class_ 2), (0, u "com/example/isolation_anomaly_finder/isolationanomalyfinder/IsolationLevel"), (2, u "READ_UNCOMMITTED"), (0, u "Lcom/example/isolation_anomaly_finder/isolationanomalyfinder/IsolationLevel;"), (2, u "READ_COMMITTED"), (2, u "REPEATABLE_READ"), (2, u "SERIALIZABLE"), (2, u "$VALUES"), (0, u "[Lcom/example/isolation_anomaly_finder/isolationanomalyfinder/IsolationLevel;"), (6, .class_ 28), (1, u "java/lang/Enum"), (8, u "jdbcValue"), (0, u "I")] 105

/-- com/example/isolation_anomaly_finder/isolationanomalyfinder/IsolationLevel -/
def k8 : Class := { plain "com/example/isolation_anomaly_finder/isolationanomalyfinder/IsolationLevel" (some 7) with
  accessFlags := 16433
  interfaces := #[]
  cf := some (fileOf pool8 1 #[] #[] 16433 26 #[] #[{ accessFlags := 16409, nameIndex := 5, descriptorIndex := 6, attributes := #[] }, { accessFlags := 16409, nameIndex := 9, descriptorIndex := 6, attributes := #[] }, { accessFlags := 16409, nameIndex := 12, descriptorIndex := 6, attributes := #[] }, { accessFlags := 16409, nameIndex := 15, descriptorIndex := 6, attributes := #[] }, { accessFlags := 18, nameIndex := 37, descriptorIndex := 38, attributes := #[] }, { accessFlags := 4122, nameIndex := 18, descriptorIndex := 19, attributes := #[] }])
  fields := #[{ name := "READ_UNCOMMITTED", type := (.object "com/example/isolation_anomaly_finder/isolationanomalyfinder/IsolationLevel"), accessFlags := 16409, slot := 0, constantValue := 0 }, { name := "READ_COMMITTED", type := (.object "com/example/isolation_anomaly_finder/isolationanomalyfinder/IsolationLevel"), accessFlags := 16409, slot := 1, constantValue := 0 }, { name := "REPEATABLE_READ", type := (.object "com/example/isolation_anomaly_finder/isolationanomalyfinder/IsolationLevel"), accessFlags := 16409, slot := 2, constantValue := 0 }, { name := "SERIALIZABLE", type := (.object "com/example/isolation_anomaly_finder/isolationanomalyfinder/IsolationLevel"), accessFlags := 16409, slot := 3, constantValue := 0 }, { name := "jdbcValue", type := .int, accessFlags := 18, slot := 3, constantValue := 0 }, { name := "$VALUES", type := (.array (.object "com/example/isolation_anomaly_finder/isolationanomalyfinder/IsolationLevel")), accessFlags := 4122, slot := 4, constantValue := 0 }]
  methods := #[]
  instanceTypes := #[(.object "java/lang/String"), .int, .int, .int]
  staticTypes := #[(.object "com/example/isolation_anomaly_finder/isolationanomalyfinder/IsolationLevel"), (.object "com/example/isolation_anomaly_finder/isolationanomalyfinder/IsolationLevel"), (.object "com/example/isolation_anomaly_finder/isolationanomalyfinder/IsolationLevel"), (.object "com/example/isolation_anomaly_finder/isolationanomalyfinder/IsolationLevel"), (.array (.object "com/example/isolation_anomaly_finder/isolationanomalyfinder/IsolationLevel"))]
  resolved := Array.replicate 144 none
  statics := some 0 }

def pool9 : Array CpInfo := pool [(2, .class_ 4), (1, u "java/lang/CharSequence"), (42, .class_ 48), (0, u "java/lang/CharSequence$1CodePointIterator"), (10, .class_ 60), (0, u "java/lang/CharSequence$1CharIterator"), (5, .class_ 67), (0, u "java/lang/Object")] 63

/-- java/lang/CharSequence -/
def k9 : Class := { plain "java/lang/CharSequence" (some 0) with
  accessFlags := 1537
  interfaces := #[]
  cf := some (fileOf pool9 2 #[.nestMembers #[47, 59]] #[] 1537 66 #[] #[])
  fields := #[]
  methods := #[]
  instanceTypes := #[]
  staticTypes := #[]
  resolved := Array.replicate 131 none
  statics := none }

def pool10 : Array CpInfo := pool [(1, .class_ 2), (0, u "java/lang/constant/ConstantDesc"), (0, .class_ 4), (0, u "java/lang/Object")] 32

/-- java/lang/constant/ConstantDesc -/
def k10 : Class := { plain "java/lang/constant/ConstantDesc" (some 0) with
  accessFlags := 1537
  interfaces := #[]
  cf := some (fileOf pool10 1 #[] #[] 1537 3 #[] #[])
  fields := #[]
  methods := #[]
  instanceTypes := #[]
  staticTypes := #[]
  resolved := Array.replicate 37 none
  statics := none }

def pool11 : Array CpInfo := pool [(1, .methodref 2 3), (0, .class_ 4), (0, .nameAndType 5 6), (0, u "java/lang/Object"), (0, u "<init>"), (0, u "()V"), (2, .fieldref 10 11), (0, .class_ 12), (0, .nameAndType 13 14), (0, u "java/lang/String"), (0, u "value"), (0, u "[B"), (0, .fieldref 10 16), (0, .nameAndType 17 18), (0, u "coder"), (0, u "B"), (2, u "hash"), (0, u "I"), (2, u "hashIsZero"), (0, u "Z"), (0, .methodref 10 28), (0, .nameAndType 5 29), (0, u "([CIILjava/lang/Void;)V"), (8, .fieldref 10 39), (0, .nameAndType 40 26), (0, u "COMPACT_STRINGS"), (1, .class_ 44), (1, u "java/lang/StringUTF16"), (0, u "compress"), (1, .methodref 42 48), (0, .nameAndType 49 50), (0, u "coderFromArrayLen"), (0, u "([BI)B"), (56, .class_ 109), (1, u "java/lang/StringLatin1"), (67, .methodref 42 178), (0, .nameAndType 45 179), (0, u "([CII)[B"), (361, .methodref 107 542), (0, .nameAndType 543 544), (0, u "equals"), (0, u "([B[B)Z"), (28, u "(Ljava/lang/Object;)Z"), (1, .class_ 576), (0, u "java/lang/CharSequence"), (22, u "CASE_INSENSITIVE_ORDER"), (0, u "Ljava/util/Comparator;"), (409, u "([C)V"), (90, u "serialPersistentFields"), (0, u "[Ljava/io/ObjectStreamField;"), (0, .class_ 1104), (0, u "java/lang/String$CaseInsensitiveComparator"), (1, .class_ 1107), (0, u "java/io/Serializable"), (0, .class_ 1109), (0, u "java/lang/Comparable"), (0, .class_ 1111), (0, u "java/lang/constant/Constable"), (0, .class_ 1113), (0, u "java/lang/constant/ConstantDesc"), (2, u "serialVersionUID"), (0, u "J"), (3, u "REPL"), (0, u "C"), (2, u "LATIN1"), (1, u "UTF16")] 323

def k11m0 : Method := { name := "<init>", desc := "()V", sig := { parameters := [], returnType := none }, accessFlags := 1, code := none }
def k11c1 : Code := { maxStack := 5, maxLocals := 2, code := jdk_42_method_3_code, exceptionTable := #[], attributes := #[] }
def k11m1 : Method := { name := "<init>", desc := "([C)V", sig := { parameters := [(.array .char)], returnType := none }, accessFlags := 1, code := some k11c1 }
def k11c2 : Code := { maxStack := 2, maxLocals := 3, code := jdk_42_method_66_code, exceptionTable := #[], attributes := #[] }
def k11m2 : Method := { name := "equals", desc := "(Ljava/lang/Object;)Z", sig := { parameters := [(.object "java/lang/Object")], returnType := some .boolean }, accessFlags := 1, code := some k11c2 }
def k11c3 : Code := { maxStack := 4, maxLocals := 6, code := jdk_42_method_149_code, exceptionTable := #[], attributes := #[] }
def k11m3 : Method := { name := "<init>", desc := "([CIILjava/lang/Void;)V", sig := { parameters := [(.array .char), .int, .int, (.object "java/lang/Void")], returnType := none }, accessFlags := 2, code := some k11c3 }
/-- java/lang/String -/
def k11 : Class := { plain "java/lang/String" (some 0) with
  accessFlags := 49
  interfaces := #[6, 5, 9, 4, 10]
  cf := some (fileOf pool11 10 #[.nestMembers #[1103]] #[{ accessFlags := 1, nameIndex := 5, descriptorIndex := 6, attributes := #[] }, { accessFlags := 1, nameIndex := 5, descriptorIndex := 1010, attributes := #[] }, { accessFlags := 1, nameIndex := 543, descriptorIndex := 573, attributes := #[] }, { accessFlags := 2, nameIndex := 5, descriptorIndex := 29, attributes := #[] }] 49 2 #[1106, 1108, 575, 1110, 1112] #[{ accessFlags := 18, nameIndex := 13, descriptorIndex := 14, attributes := #[] }, { accessFlags := 18, nameIndex := 17, descriptorIndex := 18, attributes := #[] }, { accessFlags := 2, nameIndex := 21, descriptorIndex := 22, attributes := #[] }, { accessFlags := 2, nameIndex := 25, descriptorIndex := 26, attributes := #[] }, { accessFlags := 26, nameIndex := 1116, descriptorIndex := 1117, attributes := #[] }, { accessFlags := 24, nameIndex := 40, descriptorIndex := 26, attributes := #[] }, { accessFlags := 26, nameIndex := 1101, descriptorIndex := 1102, attributes := #[] }, { accessFlags := 26, nameIndex := 1121, descriptorIndex := 1122, attributes := #[] }, { accessFlags := 25, nameIndex := 599, descriptorIndex := 600, attributes := #[] }, { accessFlags := 24, nameIndex := 1125, descriptorIndex := 18, attributes := #[] }, { accessFlags := 24, nameIndex := 1127, descriptorIndex := 18, attributes := #[] }])
  fields := #[{ name := "value", type := (.array .byte), accessFlags := 18, slot := 0, constantValue := 0 }, { name := "coder", type := .byte, accessFlags := 18, slot := 1, constantValue := 0 }, { name := "hash", type := .int, accessFlags := 2, slot := 2, constantValue := 0 }, { name := "hashIsZero", type := .boolean, accessFlags := 2, slot := 3, constantValue := 0 }, { name := "serialVersionUID", type := .long, accessFlags := 26, slot := 0, constantValue := 0 }, { name := "COMPACT_STRINGS", type := .boolean, accessFlags := 24, slot := 1, constantValue := 0 }, { name := "serialPersistentFields", type := (.array (.object "java/io/ObjectStreamField")), accessFlags := 26, slot := 2, constantValue := 0 }, { name := "REPL", type := .char, accessFlags := 26, slot := 3, constantValue := 0 }, { name := "CASE_INSENSITIVE_ORDER", type := (.object "java/util/Comparator"), accessFlags := 25, slot := 4, constantValue := 0 }, { name := "LATIN1", type := .byte, accessFlags := 24, slot := 5, constantValue := 0 }, { name := "UTF16", type := .byte, accessFlags := 24, slot := 6, constantValue := 0 }]
  methods := #[k11m0, k11m1, k11m2, k11m3]
  instanceTypes := #[(.array .byte), .byte, .int, .boolean]
  staticTypes := #[.long, .boolean, (.array (.object "java/io/ObjectStreamField")), .char, (.object "java/util/Comparator"), .byte, .byte]
  resolved := Array.replicate 1451 none
  statics := some 1 }

def pool12 : Array CpInfo := pool [(6, .class_ 8), (1, u "java/lang/Object"), (0, u "<init>"), (0, u "()V"), (1, .class_ 14), (1, u "java/lang/StringUTF16"), (31, u "$assertionsDisabled"), (0, u "Z"), (13, u "HI_BYTE_SHIFT"), (0, u "I"), (2, u "LO_BYTE_SHIFT"), (49, .methodref 12 116), (0, .nameAndType 117 118), (0, u "compress"), (0, u "([CI[BII)I"), (3, u "([CII)[B"), (138, u "coderFromArrayLen"), (0, u "([BI)B"), (106, .class_ 371), (1, u "java/lang/StringUTF16$LinesSpliterator"), (58, u "MAX_LENGTH"), (196, .class_ 628), (0, u "java/lang/StringUTF16$CodePointsSpliterator"), (0, .class_ 630), (0, u "java/lang/StringUTF16$CharsSpliterator")] 4

def k12m0 : Method := { name := "<init>", desc := "()V", sig := { parameters := [], returnType := none }, accessFlags := 0, code := none }
def k12c1 : Code := { maxStack := 2, maxLocals := 2, code := jdk_52_method_15_code, exceptionTable := #[], attributes := #[] }
def k12m1 : Method := { name := "coderFromArrayLen", desc := "([BI)B", sig := { parameters := [(.array .byte), .int], returnType := some .byte }, accessFlags := 8, code := some k12c1 }
def k12c2 : Code := { maxStack := 5, maxLocals := 6, code := jdk_52_method_16_code, exceptionTable := #[], attributes := #[] }
def k12m2 : Method := { name := "compress", desc := "([CII)[B", sig := { parameters := [(.array .char), .int, .int], returnType := some (.array .byte) }, accessFlags := 9, code := some k12c2 }
def k12c3 : Code := { maxStack := 3, maxLocals := 7, code := jdk_52_method_21_code, exceptionTable := #[], attributes := #[] }
def k12m3 : Method := { name := "compress", desc := "([CI[BII)I", sig := { parameters := [(.array .char), .int, (.array .byte), .int, .int], returnType := some .int }, accessFlags := 9, code := some k12c3 }
/-- java/lang/StringUTF16 -/
def k12 : Class := { plain "java/lang/StringUTF16" (some 0) with
  accessFlags := 48
  interfaces := #[]
  cf := some (fileOf pool12 12 #[.nestMembers #[627, 629, 369]] #[{ accessFlags := 0, nameIndex := 9, descriptorIndex := 10, attributes := #[] }, { accessFlags := 8, nameIndex := 261, descriptorIndex := 262, attributes := #[] }, { accessFlags := 9, nameIndex := 117, descriptorIndex := 122, attributes := #[] }, { accessFlags := 9, nameIndex := 117, descriptorIndex := 118, attributes := #[] }] 48 6 #[] #[{ accessFlags := 26, nameIndex := 61, descriptorIndex := 62, attributes := #[] }, { accessFlags := 26, nameIndex := 65, descriptorIndex := 62, attributes := #[] }, { accessFlags := 24, nameIndex := 430, descriptorIndex := 62, attributes := #[] }, { accessFlags := 4120, nameIndex := 46, descriptorIndex := 47, attributes := #[] }])
  fields := #[{ name := "HI_BYTE_SHIFT", type := .int, accessFlags := 26, slot := 0, constantValue := 0 }, { name := "LO_BYTE_SHIFT", type := .int, accessFlags := 26, slot := 1, constantValue := 0 }, { name := "MAX_LENGTH", type := .int, accessFlags := 24, slot := 2, constantValue := 0 }, { name := "$assertionsDisabled", type := .boolean, accessFlags := 4120, slot := 3, constantValue := 0 }]
  methods := #[k12m0, k12m1, k12m2, k12m3]
  instanceTypes := #[]
  staticTypes := #[.int, .int, .int, .boolean]
  resolved := Array.replicate 635 none
  statics := none }

def pool13 : Array CpInfo := pool [(4, .class_ 6), (1, u "java/lang/Object"), (0, u "<init>"), (0, u "()V"), (5, .class_ 16), (1, u "java/lang/StringLatin1"), (104, u "$assertionsDisabled"), (0, u "Z"), (98, .class_ 223), (1, u "java/lang/StringLatin1$LinesSpliterator"), (57, u "equals"), (0, u "([B[B)Z"), (107, .class_ 391), (0, u "java/lang/StringLatin1$CharsSpliterator")] 3

def k13m0 : Method := { name := "<init>", desc := "()V", sig := { parameters := [], returnType := none }, accessFlags := 0, code := none }
def k13c1 : Code := { maxStack := 3, maxLocals := 3, code := jdk_43_method_13_code, exceptionTable := #[], attributes := #[] }
def k13m1 : Method := { name := "equals", desc := "([B[B)Z", sig := { parameters := [(.array .byte), (.array .byte)], returnType := some .boolean }, accessFlags := 9, code := some k13c1 }
/-- java/lang/StringLatin1 -/
def k13 : Class := { plain "java/lang/StringLatin1" (some 0) with
  accessFlags := 48
  interfaces := #[]
  cf := some (fileOf pool13 14 #[.nestMembers #[390, 221]] #[{ accessFlags := 0, nameIndex := 7, descriptorIndex := 8, attributes := #[] }, { accessFlags := 9, nameIndex := 281, descriptorIndex := 282, attributes := #[] }] 48 4 #[] #[{ accessFlags := 4120, nameIndex := 121, descriptorIndex := 122, attributes := #[] }])
  fields := #[{ name := "$assertionsDisabled", type := .boolean, accessFlags := 4120, slot := 0, constantValue := 0 }]
  methods := #[k13m0, k13m1]
  instanceTypes := #[]
  staticTypes := #[.boolean]
  resolved := Array.replicate 395 none
  statics := none }

def pool14 : Array CpInfo := pool [(2, .class_ 4), (1, u "java/lang/Object"), (0, u "<init>"), (0, u "()V"), (17, .class_ 26), (1, u "jdk/internal/util/Preconditions"), (28, .class_ 56), (0, u "jdk/internal/util/Preconditions$4"), (57, .class_ 115), (0, u "jdk/internal/util/Preconditions$1"), (7, u "SIOOBE_FORMATTER"), (0, u "Ljava/util/function/BiFunction;"), (0, .class_ 126), (0, u "jdk/internal/util/Preconditions$2"), (3, u "AIOOBE_FORMATTER"), (0, .class_ 132), (0, u "jdk/internal/util/Preconditions$3"), (3, u "IOOBE_FORMATTER")] 57

def k14m0 : Method := { name := "<init>", desc := "()V", sig := { parameters := [], returnType := none }, accessFlags := 1, code := none }
/-- jdk/internal/util/Preconditions -/
def k14 : Class := { plain "jdk/internal/util/Preconditions" (some 0) with
  accessFlags := 33
  interfaces := #[]
  cf := some (fileOf pool14 24 #[.nestMembers #[55, 131, 125, 114]] #[{ accessFlags := 1, nameIndex := 5, descriptorIndex := 6, attributes := #[] }] 33 2 #[] #[{ accessFlags := 25, nameIndex := 123, descriptorIndex := 124, attributes := #[] }, { accessFlags := 25, nameIndex := 130, descriptorIndex := 124, attributes := #[] }, { accessFlags := 25, nameIndex := 136, descriptorIndex := 124, attributes := #[] }])
  fields := #[{ name := "SIOOBE_FORMATTER", type := (.object "java/util/function/BiFunction"), accessFlags := 25, slot := 0, constantValue := 0 }, { name := "AIOOBE_FORMATTER", type := (.object "java/util/function/BiFunction"), accessFlags := 25, slot := 1, constantValue := 0 }, { name := "IOOBE_FORMATTER", type := (.object "java/util/function/BiFunction"), accessFlags := 25, slot := 2, constantValue := 0 }]
  methods := #[k14m0]
  instanceTypes := #[]
  staticTypes := #[(.object "java/util/function/BiFunction"), (.object "java/util/function/BiFunction"), (.object "java/util/function/BiFunction")]
  resolved := Array.replicate 194 none
  statics := some 2 }

def pool15 : Array CpInfo := pool [(9, u "<init>"), (6, .class_ 18), (1, u "java/lang/Object"), (0, u "()V"), (1, .class_ 23), (1, u "jdk/internal/util/ArraysSupport"), (0, u "LOG2_ARRAY_LONG_INDEX_SCALE"), (0, u "I"), (2, u "U"), (0, u "Ljdk/internal/misc/Unsafe;"), (8, u "BIG_ENDIAN"), (0, u "Z"), (8, u "LOG2_BYTE_BIT_SIZE"), (4, u "LOG2_ARRAY_INT_INDEX_SCALE"), (54, u "JLA"), (0, u "Ljdk/internal/access/JavaLangAccess;"), (11, u "LOG2_ARRAY_BOOLEAN_INDEX_SCALE"), (9, u "LOG2_ARRAY_BYTE_INDEX_SCALE"), (5, u "LOG2_ARRAY_CHAR_INDEX_SCALE"), (5, u "LOG2_ARRAY_SHORT_INDEX_SCALE"), (18, u "LOG2_ARRAY_FLOAT_INDEX_SCALE"), (24, u "LOG2_ARRAY_DOUBLE_INDEX_SCALE"), (89, u "T_BOOLEAN"), (2, u "T_CHAR"), (1, u "T_FLOAT"), (1, u "T_DOUBLE"), (1, u "T_BYTE"), (1, u "T_SHORT"), (1, u "T_INT"), (1, u "T_LONG"), (1, u "SOFT_MAX_ARRAY_LENGTH")] 83

def k15m0 : Method := { name := "<init>", desc := "()V", sig := { parameters := [], returnType := none }, accessFlags := 2, code := none }
/-- jdk/internal/util/ArraysSupport -/
def k15 : Class := { plain "jdk/internal/util/ArraysSupport" (some 0) with
  accessFlags := 33
  interfaces := #[]
  cf := some (fileOf pool15 21 #[] #[{ accessFlags := 2, nameIndex := 9, descriptorIndex := 19, attributes := #[] }] 33 16 #[] #[{ accessFlags := 24, nameIndex := 28, descriptorIndex := 29, attributes := #[] }, { accessFlags := 26, nameIndex := 38, descriptorIndex := 39, attributes := #[] }, { accessFlags := 25, nameIndex := 121, descriptorIndex := 25, attributes := #[] }, { accessFlags := 25, nameIndex := 131, descriptorIndex := 25, attributes := #[] }, { accessFlags := 25, nameIndex := 137, descriptorIndex := 25, attributes := #[] }, { accessFlags := 25, nameIndex := 143, descriptorIndex := 25, attributes := #[] }, { accessFlags := 25, nameIndex := 53, descriptorIndex := 25, attributes := #[] }, { accessFlags := 25, nameIndex := 24, descriptorIndex := 25, attributes := #[] }, { accessFlags := 25, nameIndex := 162, descriptorIndex := 25, attributes := #[] }, { accessFlags := 25, nameIndex := 187, descriptorIndex := 25, attributes := #[] }, { accessFlags := 26, nameIndex := 48, descriptorIndex := 25, attributes := #[] }, { accessFlags := 25, nameIndex := 277, descriptorIndex := 25, attributes := #[] }, { accessFlags := 25, nameIndex := 280, descriptorIndex := 25, attributes := #[] }, { accessFlags := 25, nameIndex := 282, descriptorIndex := 25, attributes := #[] }, { accessFlags := 25, nameIndex := 284, descriptorIndex := 25, attributes := #[] }, { accessFlags := 25, nameIndex := 286, descriptorIndex := 25, attributes := #[] }, { accessFlags := 25, nameIndex := 288, descriptorIndex := 25, attributes := #[] }, { accessFlags := 25, nameIndex := 290, descriptorIndex := 25, attributes := #[] }, { accessFlags := 25, nameIndex := 292, descriptorIndex := 25, attributes := #[] }, { accessFlags := 26, nameIndex := 108, descriptorIndex := 109, attributes := #[] }, { accessFlags := 25, nameIndex := 294, descriptorIndex := 25, attributes := #[] }])
  fields := #[{ name := "U", type := (.object "jdk/internal/misc/Unsafe"), accessFlags := 24, slot := 0, constantValue := 0 }, { name := "BIG_ENDIAN", type := .boolean, accessFlags := 26, slot := 1, constantValue := 0 }, { name := "LOG2_ARRAY_BOOLEAN_INDEX_SCALE", type := .int, accessFlags := 25, slot := 2, constantValue := 0 }, { name := "LOG2_ARRAY_BYTE_INDEX_SCALE", type := .int, accessFlags := 25, slot := 3, constantValue := 0 }, { name := "LOG2_ARRAY_CHAR_INDEX_SCALE", type := .int, accessFlags := 25, slot := 4, constantValue := 0 }, { name := "LOG2_ARRAY_SHORT_INDEX_SCALE", type := .int, accessFlags := 25, slot := 5, constantValue := 0 }, { name := "LOG2_ARRAY_INT_INDEX_SCALE", type := .int, accessFlags := 25, slot := 6, constantValue := 0 }, { name := "LOG2_ARRAY_LONG_INDEX_SCALE", type := .int, accessFlags := 25, slot := 7, constantValue := 0 }, { name := "LOG2_ARRAY_FLOAT_INDEX_SCALE", type := .int, accessFlags := 25, slot := 8, constantValue := 0 }, { name := "LOG2_ARRAY_DOUBLE_INDEX_SCALE", type := .int, accessFlags := 25, slot := 9, constantValue := 0 }, { name := "LOG2_BYTE_BIT_SIZE", type := .int, accessFlags := 26, slot := 10, constantValue := 0 }, { name := "T_BOOLEAN", type := .int, accessFlags := 25, slot := 11, constantValue := 0 }, { name := "T_CHAR", type := .int, accessFlags := 25, slot := 12, constantValue := 0 }, { name := "T_FLOAT", type := .int, accessFlags := 25, slot := 13, constantValue := 0 }, { name := "T_DOUBLE", type := .int, accessFlags := 25, slot := 14, constantValue := 0 }, { name := "T_BYTE", type := .int, accessFlags := 25, slot := 15, constantValue := 0 }, { name := "T_SHORT", type := .int, accessFlags := 25, slot := 16, constantValue := 0 }, { name := "T_INT", type := .int, accessFlags := 25, slot := 17, constantValue := 0 }, { name := "T_LONG", type := .int, accessFlags := 25, slot := 18, constantValue := 0 }, { name := "JLA", type := (.object "jdk/internal/access/JavaLangAccess"), accessFlags := 26, slot := 19, constantValue := 0 }, { name := "SOFT_MAX_ARRAY_LENGTH", type := .int, accessFlags := 25, slot := 20, constantValue := 0 }]
  methods := #[k15m0]
  instanceTypes := #[]
  staticTypes := #[(.object "jdk/internal/misc/Unsafe"), .boolean, .int, .int, .int, .int, .int, .int, .int, .int, .int, .int, .int, .int, .int, .int, .int, .int, .int, (.object "jdk/internal/access/JavaLangAccess"), .int]
  resolved := Array.replicate 378 none
  statics := none }

def pool16 : Array CpInfo := pool [(1, u "java/lang/Cloneable"), (0, .class_ 1), (0, u "java/lang/Object"), (0, .class_ 3)] 3

/-- java/lang/Cloneable -/
def k16 : Class := { plain "java/lang/Cloneable" (some 0) with
  accessFlags := 1537
  interfaces := #[]
  cf := some (fileOf pool16 2 #[] #[] 1537 4 #[] #[])
  fields := #[]
  methods := #[]
  instanceTypes := #[]
  staticTypes := #[]
  resolved := Array.replicate 8 none
  statics := none }

/-- the primitive byte -/
def k17 : Class := { plain "byte" none with kind := .primitive 'B', accessFlags := 0x411 }
/-- [B -/
def k18 : Class := { plain "[B" (some 0) with kind := .array 17 .byte, interfaces := #[16, 6], accessFlags := 1041 }

/-- the primitive char -/
def k19 : Class := { plain "char" none with kind := .primitive 'C', accessFlags := 0x411 }
/-- [C -/
def k20 : Class := { plain "[C" (some 0) with kind := .array 19 .char, interfaces := #[16, 6], accessFlags := 1041 }

/-- the primitive int -/
def k21 : Class := { plain "int" none with kind := .primitive 'I', accessFlags := 0x411 }
/-- [I -/
def k22 : Class := { plain "[I" (some 0) with kind := .array 21 .int, interfaces := #[16, 6], accessFlags := 1041 }

def heap : Heap := #[{ cls := 8, slots := #[.ref 4, .ref 6, .ref 5, .ref 3, .null], vm := .statics 8 },
  { cls := 11, slots := #[.long 0, .int 1, .null, .int 0, .null, .int 0, .int 0], vm := .statics 11 },
  { cls := 14, slots := #[.null, .null, .null], vm := .statics 14 },
  { cls := 8, slots := #[.null, .int 0, .int 0, .int 0], vm := .none },
  { cls := 8, slots := #[.null, .int 0, .int 0, .int 0], vm := .none },
  { cls := 8, slots := #[.null, .int 0, .int 0, .int 0], vm := .none },
  { cls := 8, slots := #[.null, .int 0, .int 0, .int 0], vm := .none }]
def classes : Array Class := #[k0, k1, k2, k3, k4, k5, k6, k7, k8, k9, k10, k11, k12, k13, k14, k15, k16, k17, k18, k19, k20, k21, k22]
def interned : List (Array UInt16 × Addr) := []
def slotsUsed : Nat := 31
def theMethod : MethodId := ⟨1, 3⟩
def args0 : Array Value := #[.int 5, .int 5, .int 5, .int 5, .int 5]
def aboutOver (below : List Frame) : State where
  vm := { classes := classes, interned := interned.toArray }
  heap := heap
  slotsUsed := slotsUsed
  threads := #[{ frames := .invoking theMethod args0 :: below }]
def below0 : List Frame := [.native { method := ⟨0, 0⟩, args := #[] }]
def about1 : State := aboutOver below0
def p0 : Program := .bare "" "" ""
def e0 : Env := launch0.env 0 0 0
theorem w_frames : about1.frames = Frame.invoking theMethod args0 :: below0 := rfl
set_option maxRecDepth 65536 in
theorem w_args : argsFit about1.vm theMethod args0 = true := by decide +kernel
set_option maxRecDepth 65536 in
theorem w_heap : heapFits about1 = true := by decide +kernel
set_option maxRecDepth 65536 in
theorem w_runnable : about1.curStatus? = some .runnable := by decide +kernel
set_option maxRecDepth 65536 in
theorem w_alone : about1.alone = true := by decide +kernel
set_option maxRecDepth 65536 in
theorem w_named : about1.methodNamed? x = some theMethod := by decide +kernel
set_option maxRecDepth 65536 in
theorem w_hears : about1.hears theMethod below0 = true := by decide +kernel
set_option maxRecDepth 65536 in
theorem w_ripe : about1.ripe theMethod args0 below0 = true := by decide +kernel
theorem w_running : about1.status = .running := rfl
set_option maxRecDepth 65536 in
theorem w_room : about1.hasRoom e0.platform room_1 = true :=
  launch0.hasRoom_least _ room_1 (by decide +kernel) (by decide +kernel) (by decide +kernel) (by decide +kernel) (by decide +kernel) (by decide +kernel)
theorem allAtoms_all (ts : List Jvm.Cond) (a : Array Jvm.Value) (st : Jvm.State) : (allAtoms ts).before a st = ts.all (fun c => c.before a st) := by
  induction ts with
  | nil => rfl
  | cons c t ih =>
    show (Jvm.Cond.and c (allAtoms t)).before a st = _
    rw [Jvm.Cond.before_and, ih, List.all_cons]
def words1 : List Jvm.Cond := Jvm.Cond.code x code maxLocals ret :: tables_1
/-- a 'code' word, met by the world's own term for the bytes: nothing is compared byte by byte -/
theorem code_word {y : MethodName} {bytes : ByteArray} {mx : Nat} {rt : Option FieldType} {a : Array Value} {s : State} {m : MethodId} {meth : Method} {c : Code} (h1 : s.methodNamed? y = some m) (h2 : s.vm.method? m = some meth) (h3 : meth.code = some c) (h4 : c.code = bytes)
    (h5 : (c.maxLocals == mx && c.exceptionTable.isEmpty && decide (c.maxStack ≤ mostOperands) && decide (meth.sig.returnType = rt) && !meth.locks && decide (parseMethodDescriptor y.desc = some meth.sig)) = true) : (Jvm.Cond.code y bytes mx rt).before a s = true := by
  simp only [Bool.and_eq_true, beq_iff_eq, Bool.not_eq_true', decide_eq_true_eq] at h5
  obtain ⟨⟨⟨⟨⟨g1, g2⟩, g3⟩, g4⟩, g5⟩, g6⟩ := h5
  simp [Cond.before, Cond.holds, Cond.value, h1, h2, h3, h4, g1, g2, g3, g4, g5, g6]
def isCode : Jvm.Cond → Bool
  | .code _ _ _ _ => true
  | _ => false
theorem all_split {L : List Jvm.Cond} {P : Jvm.Cond → Bool} (h1 : L.all (fun c => isCode c || P c) = true) (h2 : ∀ c ∈ L.filter isCode, P c = true) : L.all P = true := by
  refine List.all_eq_true.mpr fun c hc => ?_
  have h := List.all_eq_true.mp h1 c hc
  rcases Bool.eq_false_or_eq_true (isCode c) with hi | hi
  · exact h2 c (List.mem_filter.mpr ⟨hc, hi⟩)
  · simpa [hi] using h
set_option maxRecDepth 65536 in
theorem w_c0 : (Jvm.Cond.code x code maxLocals ret).before args0 about1 = true := code_word (m := ⟨1, 3⟩) (meth := k1m3) (c := k1c3) (by decide +kernel) rfl rfl rfl (by decide +kernel)
set_option maxRecDepth 65536 in
theorem w_c1 : (Jvm.Cond.code ({ cls := "com/example/isolation_anomaly_finder/isolationanomalyfinder/FindingVerdictPinLaw", name := "level", desc := "(I)Lcom/example/isolation_anomaly_finder/isolationanomalyfinder/IsolationLevel;" } : Jvm.MethodName) method_2_code (1 : Nat) (Option.some (Jvm.ClassFile.FieldType.object "com/example/isolation_anomaly_finder/isolationanomalyfinder/IsolationLevel"))).before args0 about1 = true := code_word (m := ⟨1, 1⟩) (meth := k1m1) (c := k1c1) (by decide +kernel) rfl rfl rfl (by decide +kernel)
set_option maxRecDepth 65536 in
theorem w_c2 : (Jvm.Cond.code ({ cls := "com/example/isolation_anomaly_finder/isolationanomalyfinder/FindingVerdictPinLaw", name := "text", desc := "(I)Ljava/lang/String;" } : Jvm.MethodName) method_3_code (2 : Nat) (Option.some (Jvm.ClassFile.FieldType.object "java/lang/String"))).before args0 about1 = true := code_word (m := ⟨1, 2⟩) (meth := k1m2) (c := k1c2) (by decide +kernel) rfl rfl rfl (by decide +kernel)
set_option maxRecDepth 65536 in
theorem w_c3 : (Jvm.Cond.code ({ cls := "java/lang/String", name := "<init>", desc := "([C)V" } : Jvm.MethodName) jdk_42_method_3_code (2 : Nat) (Option.none : Option Jvm.ClassFile.FieldType)).before args0 about1 = true := code_word (m := ⟨11, 1⟩) (meth := k11m1) (c := k11c1) (by decide +kernel) rfl rfl rfl (by decide +kernel)
set_option maxRecDepth 65536 in
theorem w_c4 : (Jvm.Cond.code ({ cls := "java/lang/String", name := "<init>", desc := "([CIILjava/lang/Void;)V" } : Jvm.MethodName) jdk_42_method_149_code (6 : Nat) (Option.none : Option Jvm.ClassFile.FieldType)).before args0 about1 = true := code_word (m := ⟨11, 3⟩) (meth := k11m3) (c := k11c3) (by decide +kernel) rfl rfl rfl (by decide +kernel)
set_option maxRecDepth 65536 in
theorem w_c5 : (Jvm.Cond.code ({ cls := "java/lang/Object", name := "<init>", desc := "()V" } : Jvm.MethodName) object_method_1_code (1 : Nat) (Option.none : Option Jvm.ClassFile.FieldType)).before args0 about1 = true := code_word (m := ⟨0, 0⟩) (meth := k0m0) (c := k0c0) (by decide +kernel) rfl rfl rfl (by decide +kernel)
set_option maxRecDepth 65536 in
theorem w_c6 : (Jvm.Cond.code ({ cls := "java/lang/StringUTF16", name := "compress", desc := "([CII)[B" } : Jvm.MethodName) jdk_52_method_16_code (6 : Nat) (Option.some (Jvm.ClassFile.FieldType.array Jvm.ClassFile.FieldType.byte))).before args0 about1 = true := code_word (m := ⟨12, 2⟩) (meth := k12m2) (c := k12c2) (by decide +kernel) rfl rfl rfl (by decide +kernel)
set_option maxRecDepth 65536 in
theorem w_c7 : (Jvm.Cond.code ({ cls := "java/lang/StringUTF16", name := "compress", desc := "([CI[BII)I" } : Jvm.MethodName) jdk_52_method_21_code (7 : Nat) (Option.some Jvm.ClassFile.FieldType.int)).before args0 about1 = true := code_word (m := ⟨12, 3⟩) (meth := k12m3) (c := k12c3) (by decide +kernel) rfl rfl rfl (by decide +kernel)
set_option maxRecDepth 65536 in
theorem w_c8 : (Jvm.Cond.code ({ cls := "java/lang/StringUTF16", name := "coderFromArrayLen", desc := "([BI)B" } : Jvm.MethodName) jdk_52_method_15_code (2 : Nat) (Option.some Jvm.ClassFile.FieldType.byte)).before args0 about1 = true := code_word (m := ⟨12, 1⟩) (meth := k12m1) (c := k12c1) (by decide +kernel) rfl rfl rfl (by decide +kernel)
set_option maxRecDepth 65536 in
theorem w_c9 : (Jvm.Cond.code ({ cls := "com/example/isolation_anomaly_finder/isolationanomalyfinder/Finding", name := "<init>", desc := "(Lcom/example/isolation_anomaly_finder/isolationanomalyfinder/IsolationLevel;Ljava/lang/String;ZLjava/lang/String;Ljava/lang/String;)V" } : Jvm.MethodName) prog_14_method_1_code (6 : Nat) (Option.none : Option Jvm.ClassFile.FieldType)).before args0 about1 = true := code_word (m := ⟨3, 0⟩) (meth := k3m0) (c := k3c0) (by decide +kernel) rfl rfl rfl (by decide +kernel)
set_option maxRecDepth 65536 in
theorem w_c10 : (Jvm.Cond.code ({ cls := "java/lang/Record", name := "<init>", desc := "()V" } : Jvm.MethodName) jdk_30_method_1_code (1 : Nat) (Option.none : Option Jvm.ClassFile.FieldType)).before args0 about1 = true := code_word (m := ⟨2, 0⟩) (meth := k2m0) (c := k2c0) (by decide +kernel) rfl rfl rfl (by decide +kernel)
set_option maxRecDepth 65536 in
theorem w_c11 : (Jvm.Cond.code ({ cls := "com/example/isolation_anomaly_finder/isolationanomalyfinder/Finding", name := "verdict", desc := "()Ljava/lang/String;" } : Jvm.MethodName) prog_14_method_3_code (1 : Nat) (Option.some (Jvm.ClassFile.FieldType.object "java/lang/String"))).before args0 about1 = true := code_word (m := ⟨3, 1⟩) (meth := k3m1) (c := k3c1) (by decide +kernel) rfl rfl rfl (by decide +kernel)
set_option maxRecDepth 65536 in
theorem w_c12 : (Jvm.Cond.code ({ cls := "java/lang/String", name := "equals", desc := "(Ljava/lang/Object;)Z" } : Jvm.MethodName) jdk_42_method_66_code (3 : Nat) (Option.some Jvm.ClassFile.FieldType.boolean)).before args0 about1 = true := code_word (m := ⟨11, 2⟩) (meth := k11m2) (c := k11c2) (by decide +kernel) rfl rfl rfl (by decide +kernel)
set_option maxRecDepth 65536 in
theorem w_c13 : (Jvm.Cond.code ({ cls := "java/lang/StringLatin1", name := "equals", desc := "([B[B)Z" } : Jvm.MethodName) jdk_43_method_13_code (3 : Nat) (Option.some Jvm.ClassFile.FieldType.boolean)).before args0 about1 = true := code_word (m := ⟨13, 1⟩) (meth := k13m1) (c := k13c1) (by decide +kernel) rfl rfl rfl (by decide +kernel)
def codes1 : List Jvm.Cond := [Jvm.Cond.code x code maxLocals ret, Jvm.Cond.code ({ cls := "com/example/isolation_anomaly_finder/isolationanomalyfinder/FindingVerdictPinLaw", name := "level", desc := "(I)Lcom/example/isolation_anomaly_finder/isolationanomalyfinder/IsolationLevel;" } : Jvm.MethodName) method_2_code (1 : Nat) (Option.some (Jvm.ClassFile.FieldType.object "com/example/isolation_anomaly_finder/isolationanomalyfinder/IsolationLevel")), Jvm.Cond.code ({ cls := "com/example/isolation_anomaly_finder/isolationanomalyfinder/FindingVerdictPinLaw", name := "text", desc := "(I)Ljava/lang/String;" } : Jvm.MethodName) method_3_code (2 : Nat) (Option.some (Jvm.ClassFile.FieldType.object "java/lang/String")), Jvm.Cond.code ({ cls := "java/lang/String", name := "<init>", desc := "([C)V" } : Jvm.MethodName) jdk_42_method_3_code (2 : Nat) (Option.none : Option Jvm.ClassFile.FieldType), Jvm.Cond.code ({ cls := "java/lang/String", name := "<init>", desc := "([CIILjava/lang/Void;)V" } : Jvm.MethodName) jdk_42_method_149_code (6 : Nat) (Option.none : Option Jvm.ClassFile.FieldType), Jvm.Cond.code ({ cls := "java/lang/Object", name := "<init>", desc := "()V" } : Jvm.MethodName) object_method_1_code (1 : Nat) (Option.none : Option Jvm.ClassFile.FieldType), Jvm.Cond.code ({ cls := "java/lang/StringUTF16", name := "compress", desc := "([CII)[B" } : Jvm.MethodName) jdk_52_method_16_code (6 : Nat) (Option.some (Jvm.ClassFile.FieldType.array Jvm.ClassFile.FieldType.byte)), Jvm.Cond.code ({ cls := "java/lang/StringUTF16", name := "compress", desc := "([CI[BII)I" } : Jvm.MethodName) jdk_52_method_21_code (7 : Nat) (Option.some Jvm.ClassFile.FieldType.int), Jvm.Cond.code ({ cls := "java/lang/StringUTF16", name := "coderFromArrayLen", desc := "([BI)B" } : Jvm.MethodName) jdk_52_method_15_code (2 : Nat) (Option.some Jvm.ClassFile.FieldType.byte), Jvm.Cond.code ({ cls := "com/example/isolation_anomaly_finder/isolationanomalyfinder/Finding", name := "<init>", desc := "(Lcom/example/isolation_anomaly_finder/isolationanomalyfinder/IsolationLevel;Ljava/lang/String;ZLjava/lang/String;Ljava/lang/String;)V" } : Jvm.MethodName) prog_14_method_1_code (6 : Nat) (Option.none : Option Jvm.ClassFile.FieldType), Jvm.Cond.code ({ cls := "java/lang/Record", name := "<init>", desc := "()V" } : Jvm.MethodName) jdk_30_method_1_code (1 : Nat) (Option.none : Option Jvm.ClassFile.FieldType), Jvm.Cond.code ({ cls := "com/example/isolation_anomaly_finder/isolationanomalyfinder/Finding", name := "verdict", desc := "()Ljava/lang/String;" } : Jvm.MethodName) prog_14_method_3_code (1 : Nat) (Option.some (Jvm.ClassFile.FieldType.object "java/lang/String")), Jvm.Cond.code ({ cls := "java/lang/String", name := "equals", desc := "(Ljava/lang/Object;)Z" } : Jvm.MethodName) jdk_42_method_66_code (3 : Nat) (Option.some Jvm.ClassFile.FieldType.boolean), Jvm.Cond.code ({ cls := "java/lang/StringLatin1", name := "equals", desc := "([B[B)Z" } : Jvm.MethodName) jdk_43_method_13_code (3 : Nat) (Option.some Jvm.ClassFile.FieldType.boolean)]
set_option maxRecDepth 65536 in
theorem codes_eq : words1.filter isCode = codes1 := rfl
theorem w_codes : ∀ c ∈ words1.filter isCode, c.before args0 about1 = true := by
  rw [codes_eq]
  intro c hc
  simp only [codes1, List.mem_cons, List.not_mem_nil, or_false] at hc
  rcases hc with rfl | rfl | rfl | rfl | rfl | rfl | rfl | rfl | rfl | rfl | rfl | rfl | rfl | rfl
  · exact w_c0
  · exact w_c1
  · exact w_c2
  · exact w_c3
  · exact w_c4
  · exact w_c5
  · exact w_c6
  · exact w_c7
  · exact w_c8
  · exact w_c9
  · exact w_c10
  · exact w_c11
  · exact w_c12
  · exact w_c13
set_option maxRecDepth 65536 in
theorem w_t1 : (words1.take 24).all (fun c => isCode c || c.before args0 about1) = true := by decide +kernel
set_option maxRecDepth 65536 in
theorem w_t2 : ((words1.drop 24).take 24).all (fun c => isCode c || c.before args0 about1) = true := by decide +kernel
set_option maxRecDepth 65536 in
theorem w_t3 : (((words1.drop 24).drop 24).take 24).all (fun c => isCode c || c.before args0 about1) = true := by decide +kernel
set_option maxRecDepth 65536 in
theorem w_t4 : (((words1.drop 24).drop 24).drop 24).all (fun c => isCode c || c.before args0 about1) = true := by decide +kernel
theorem w_tables : (allAtoms (Jvm.Cond.code x code maxLocals ret :: tables_1)).before args0 about1 = true := by
  rw [allAtoms_all]
  show words1.all (fun c => c.before args0 about1) = true
  refine all_split ?_ w_codes
  rw [← List.take_append_drop 24 words1, List.all_append, w_t1, ← List.take_append_drop 24 (words1.drop 24), List.all_append, w_t2, ← List.take_append_drop 24 ((words1.drop 24).drop 24), List.all_append, w_t3, w_t4]
  rfl
set_option maxRecDepth 65536 in
theorem w_rest : rest_1_c.before args0 about1 = true := by decide +kernel
set_option maxRecDepth 65536 in
theorem w_case : (Jvm.Cond.and given_1 narrow_1).before args0 about1 = true := by decide +kernel
set_option maxRecDepth 65536 in
theorem w_consts : constsHeld consts_1 about1 := Jvm.Lit.constsHeldB_iff.mp (by decide +kernel)
theorem w_applies : (headSpec (Jvm.Cond.code x code maxLocals ret :: tables_1) room_1).applies x e0.platform about1 = true :=
  (Spec.applies_iff w_frames).mpr ⟨w_running, w_runnable, w_alone, w_named, w_hears, w_ripe, w_room, w_tables⟩
theorem atStart : AtStart classFile x code maxLocals ret World_1 tables_1 room_1 Calls_1 rest_1 Pre_1 launch0 p0 e0 about1 theMethod args0 below0 :=
  ⟨lists_1, trivial, launch0.admits_env _ _ _, launch0.least_env, fairChoices_fair.cas, fairChoices_fair.clock, w_frames, w_args, w_heap, w_applies, ⟨w_consts, trivial⟩, w_rest, w_case⟩
end start1
theorem witness_1 : WitnessClaimed_1 := ⟨start1.p0, start1.e0, start1.about1, start1.theMethod, start1.args0, start1.below0, start1.atStart⟩
end Jvm.Pilot.@@N@@
