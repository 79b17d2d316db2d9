import JvmDerived
import JvmDerived.Pilot.@@N@@Statement
import JvmDerived.Pilot.@@N@@Code
set_option linter.unusedVariables false
set_option linter.unusedSimpArgs false
namespace Jvm.Pilot.@@N@@
open Jvm Jvm.ClassFile Sem Op Lib Jvm.Free Jvm.Stand Jvm.LawKit Jvm.RoadKit Bundle Jvm.Pilot.@@N@@.Jvm.D
section OwnKit
variable {p : Program} {l : Launch} {e : Env} {R : Room} {s : State} {m : MethodId} {args : Array Value} {below : List Frame} {meth : Method} {c : Code} {T : State} {locs : List Loc} {cells slots : Nat} {Z : State} {a0 : Array Value} {h h0 : Heap} {pc : Nat} {Ls : Array Slot} {rest : List Value} {Q : Outcome → State → Prop}
def Go (p : Program) (e : Env) (below : List Frame) (T : State) (g : JFrame) (Q : Outcome → State → Prop) : Prop := ∃ s₂ o, Steps p.tables e below (T.setTop g) s₂ ∧ s₂.status = .running ∧ Ended s₂ below o ∧ Q o s₂
theorem Go.of {T' : State} {g g' : JFrame} (st : ∀ t, Steps p.tables e below (T'.setTop g') t → Steps p.tables e below (T.setTop g) t) (k : Go p e below T' g' Q) : Go p e below T g Q := by
  obtain ⟨a, b, h1, h2⟩ := k; exact ⟨a, b, st a h1, h2⟩
theorem o_iload (X : Stand p l e R s m args below meth c T locs cells slots) (hx : p.tables.exec = Jvm.exec) {k : Nat} {v : Int32} (hd : decode c.code pc = .ok (.iload k, 2)) (hl : Ls[k]? = some (.val (.int v))) (q : Go p e below T (mkF m (pc + 2) Ls (.int v :: rest)) Q) : Go p e below T (mkF m pc Ls (rest)) Q := Go.of (fun _ k => XS.iload X.here hx rfl hd hl k) q
theorem o_iloadN (X : Stand p l e R s m args below meth c T locs cells slots) (hx : p.tables.exec = Jvm.exec) {k : Fin 4} {v : Int32} (hd : decode c.code pc = .ok (.iload_n k, 1)) (hl : Ls[k.val]? = some (.val (.int v))) (q : Go p e below T (mkF m (pc + 1) Ls (.int v :: rest)) Q) : Go p e below T (mkF m pc Ls (rest)) Q := Go.of (fun _ k => XS.iloadN X.here hx rfl hd hl k) q
theorem o_istore (X : Stand p l e R s m args below meth c T locs cells slots) (hx : p.tables.exec = Jvm.exec) {k : Nat} {v : Int32} {l' : Array Slot} (hd : decode c.code pc = .ok (.istore k, 2)) (hl : storeLocals Ls k (.int v) = some l') (q : Go p e below T (mkF m (pc + 2) l' (rest)) Q) : Go p e below T (mkF m pc Ls (.int v :: rest)) Q := Go.of (fun _ k => XS.istore X.here hx rfl hd rfl hl k) q
theorem o_istoreN (X : Stand p l e R s m args below meth c T locs cells slots) (hx : p.tables.exec = Jvm.exec) {k : Fin 4} {v : Int32} {l' : Array Slot} (hd : decode c.code pc = .ok (.istore_n k, 1)) (hl : storeLocals Ls k.val (.int v) = some l') (q : Go p e below T (mkF m (pc + 1) l' (rest)) Q) : Go p e below T (mkF m pc Ls (.int v :: rest)) Q := Go.of (fun _ k => XS.istoreN X.here hx rfl hd rfl hl k) q
theorem o_lload (X : Stand p l e R s m args below meth c T locs cells slots) (hx : p.tables.exec = Jvm.exec) {k : Nat} {v : Int64} (hd : decode c.code pc = .ok (.lload k, 2)) (hl : Ls[k]? = some (.val (.long v))) (q : Go p e below T (mkF m (pc + 2) Ls (.long v :: rest)) Q) : Go p e below T (mkF m pc Ls (rest)) Q := Go.of (fun _ k => XS.lload X.here hx rfl hd hl k) q
theorem o_lloadN (X : Stand p l e R s m args below meth c T locs cells slots) (hx : p.tables.exec = Jvm.exec) {k : Fin 4} {v : Int64} (hd : decode c.code pc = .ok (.lload_n k, 1)) (hl : Ls[k.val]? = some (.val (.long v))) (q : Go p e below T (mkF m (pc + 1) Ls (.long v :: rest)) Q) : Go p e below T (mkF m pc Ls (rest)) Q := Go.of (fun _ k => XS.lloadN X.here hx rfl hd hl k) q
theorem o_lstore (X : Stand p l e R s m args below meth c T locs cells slots) (hx : p.tables.exec = Jvm.exec) {k : Nat} {v : Int64} {l' : Array Slot} (hd : decode c.code pc = .ok (.lstore k, 2)) (hl : storeLocals Ls k (.long v) = some l') (q : Go p e below T (mkF m (pc + 2) l' (rest)) Q) : Go p e below T (mkF m pc Ls (.long v :: rest)) Q := Go.of (fun _ k => XS.lstore X.here hx rfl hd rfl hl k) q
theorem o_aload (X : Stand p l e R s m args below meth c T locs cells slots) (hx : p.tables.exec = Jvm.exec) {k : Nat} {v : Value} (hd : decode c.code pc = .ok (.aload k, 2)) (hl : Ls[k]? = some (.val v)) (hv : v.isRef = true) (q : Go p e below T (mkF m (pc + 2) Ls (v :: rest)) Q) : Go p e below T (mkF m pc Ls (rest)) Q := Go.of (fun _ k => XS.aload X.here hx rfl hd hl hv k) q
theorem o_aloadN (X : Stand p l e R s m args below meth c T locs cells slots) (hx : p.tables.exec = Jvm.exec) {k : Fin 4} {v : Value} (hd : decode c.code pc = .ok (.aload_n k, 1)) (hl : Ls[k.val]? = some (.val v)) (hv : v.isRef = true) (q : Go p e below T (mkF m (pc + 1) Ls (v :: rest)) Q) : Go p e below T (mkF m pc Ls (rest)) Q := Go.of (fun _ k => XS.aloadN X.here hx rfl hd hl hv k) q
theorem o_astore (X : Stand p l e R s m args below meth c T locs cells slots) (hx : p.tables.exec = Jvm.exec) {k : Nat} {v : Value} {l' : Array Slot} (hd : decode c.code pc = .ok (.astore k, 2)) (hv : v.isRef = true) (hl : storeLocals Ls k v = some l') (q : Go p e below T (mkF m (pc + 2) l' (rest)) Q) : Go p e below T (mkF m pc Ls (v :: rest)) Q := Go.of (fun _ k => XS.astore X.here hx rfl hd rfl hv hl k) q
theorem o_iconst (X : Stand p l e R s m args below meth c T locs cells slots) (hx : p.tables.exec = Jvm.exec) {i : Int} (v : Int32) (hd : decode c.code pc = .ok (.iconst i, 1)) (hv : Int32.ofInt i = v) (q : Go p e below T (mkF m (pc + 1) Ls (.int v :: rest)) Q) : Go p e below T (mkF m pc Ls rest) Q := by
  subst hv
  exact Go.of (fun _ k => XS.iconst X.here hx rfl hd k) q
theorem o_sipush (X : Stand p l e R s m args below meth c T locs cells slots) (hx : p.tables.exec = Jvm.exec) {i : Int} (v : Int32) (hd : decode c.code pc = .ok (.sipush i, 3)) (hv : (Int16.ofInt i).toInt32 = v) (q : Go p e below T (mkF m (pc + 3) Ls (.int v :: rest)) Q) : Go p e below T (mkF m pc Ls rest) Q := by
  subst hv
  exact Go.of (fun _ k => XS.sipush X.here hx rfl hd k) q
theorem o_aconst_null (X : Stand p l e R s m args below meth c T locs cells slots) (hx : p.tables.exec = Jvm.exec)  (hd : decode c.code pc = .ok (.aconst_null, 1)) (q : Go p e below T (mkF m (pc + 1) Ls (.null :: rest)) Q) : Go p e below T (mkF m pc Ls (rest)) Q := Go.of (fun _ k => XS.aconstNull X.here hx rfl hd k) q
theorem o_iadd (X : Stand p l e R s m args below meth c T locs cells slots) (hx : p.tables.exec = Jvm.exec) {x y : Int32} (hd : decode c.code pc = .ok (.iadd, 1)) (q : Go p e below T (mkF m (pc + 1) Ls (.int (x + y) :: rest)) Q) : Go p e below T (mkF m pc Ls (.int y :: .int x :: rest)) Q := Go.of (fun _ k => XS.iadd X.here hx rfl hd rfl k) q
theorem o_isub (X : Stand p l e R s m args below meth c T locs cells slots) (hx : p.tables.exec = Jvm.exec) {x y : Int32} (hd : decode c.code pc = .ok (.isub, 1)) (q : Go p e below T (mkF m (pc + 1) Ls (.int (x - y) :: rest)) Q) : Go p e below T (mkF m pc Ls (.int y :: .int x :: rest)) Q := Go.of (fun _ k => XS.isub X.here hx rfl hd rfl k) q
theorem o_iand (X : Stand p l e R s m args below meth c T locs cells slots) (hx : p.tables.exec = Jvm.exec) {x y : Int32} (hd : decode c.code pc = .ok (.iand, 1)) (q : Go p e below T (mkF m (pc + 1) Ls (.int (x &&& y) :: rest)) Q) : Go p e below T (mkF m pc Ls (.int y :: .int x :: rest)) Q := Go.of (fun _ k => XS.iand X.here hx rfl hd rfl k) q
theorem o_l2i (X : Stand p l e R s m args below meth c T locs cells slots) (hx : p.tables.exec = Jvm.exec) {v : Int64} (hd : decode c.code pc = .ok (.l2i, 1)) (q : Go p e below T (mkF m (pc + 1) Ls (.int (v.toInt32) :: rest)) Q) : Go p e below T (mkF m pc Ls (.long v :: rest)) Q := Go.of (fun _ k => XS.l2i X.here hx rfl hd rfl k) q
theorem o_lcmp (X : Stand p l e R s m args below meth c T locs cells slots) (hx : p.tables.exec = Jvm.exec) {x y : Int64} (hd : decode c.code pc = .ok (.lcmp, 1)) (q : Go p e below T (mkF m (pc + 1) Ls (.int (lcmpW x y) :: rest)) Q) : Go p e below T (mkF m pc Ls (.long y :: .long x :: rest)) Q := Go.of (fun _ k => XS.lcmp X.here hx rfl hd rfl k) q
theorem o_dup (X : Stand p l e R s m args below meth c T locs cells slots) (hx : p.tables.exec = Jvm.exec) {v : Value} (hd : decode c.code pc = .ok (.dup, 1)) (hc : v.category = 1) (q : Go p e below T (mkF m (pc + 1) Ls (v :: v :: rest)) Q) : Go p e below T (mkF m pc Ls (v :: rest)) Q := Go.of (fun _ k => XS.dup X.here hx rfl hd rfl hc k) q
theorem o_goto (X : Stand p l e R s m args below meth c T locs cells slots) (hx : p.tables.exec = Jvm.exec) (pc' : Nat) {o : Int} (hd : decode c.code pc = .ok (.goto o, 3)) (ho : 0 ≤ (pc : Int) + o) (hp : ((pc : Int) + o).toNat = pc') (q : Go p e below T (mkF m pc' Ls rest) Q) : Go p e below T (mkF m pc Ls rest) Q := Go.of (fun _ k => XS.goto X.here hx rfl (pc0 := pc) rfl hd ho hp k) q
theorem o_ifYes (X : Stand p l e R s m args below meth c T locs cells slots) (hx : p.tables.exec = Jvm.exec) (pc' : Nat) {cd : ClassFile.Cond} {x : Int32} {o : Int} (hd : decode c.code pc = .ok (.ifCond cd o, 3)) (hc : ifCond.holds cd x = true) (ho : 0 ≤ (pc : Int) + o) (hp : ((pc : Int) + o).toNat = pc') (q : Go p e below T (mkF m pc' Ls rest) Q) : Go p e below T (mkF m pc Ls (.int x :: rest)) Q := Go.of (fun _ k => XS.ifYes X.here hx rfl (pc0 := pc) rfl hd rfl hc ho hp k) q
theorem o_ifNo (X : Stand p l e R s m args below meth c T locs cells slots) (hx : p.tables.exec = Jvm.exec) {cd : ClassFile.Cond} {x : Int32} {o : Int} (hd : decode c.code pc = .ok (.ifCond cd o, 3)) (hc : ifCond.holds cd x = false) (q : Go p e below T (mkF m (pc + 3) Ls rest) Q) : Go p e below T (mkF m pc Ls (.int x :: rest)) Q := Go.of (fun _ k => XS.ifNo X.here hx rfl hd rfl hc k) q
theorem o_icmpYes (X : Stand p l e R s m args below meth c T locs cells slots) (hx : p.tables.exec = Jvm.exec) (pc' : Nat) {cd : ClassFile.Cond} {x y : Int32} {o : Int} (hd : decode c.code pc = .ok (.if_icmp cd o, 3)) (hc : if_icmp.holds cd x y = true) (ho : 0 ≤ (pc : Int) + o) (hp : ((pc : Int) + o).toNat = pc') (q : Go p e below T (mkF m pc' Ls rest) Q) : Go p e below T (mkF m pc Ls (.int y :: .int x :: rest)) Q := Go.of (fun _ k => XS.icmpYes X.here hx rfl (pc0 := pc) rfl hd rfl hc ho hp k) q
theorem o_icmpNo (X : Stand p l e R s m args below meth c T locs cells slots) (hx : p.tables.exec = Jvm.exec) {cd : ClassFile.Cond} {x y : Int32} {o : Int} (hd : decode c.code pc = .ok (.if_icmp cd o, 3)) (hc : if_icmp.holds cd x y = false) (q : Go p e below T (mkF m (pc + 3) Ls rest) Q) : Go p e below T (mkF m pc Ls (.int y :: .int x :: rest)) Q := Go.of (fun _ k => XS.icmpNo X.here hx rfl hd rfl hc k) q
theorem o_ifnullNo (X : Stand p l e R s m args below meth c T locs cells slots) (hx : p.tables.exec = Jvm.exec) {o : Int} {b : Addr} (hd : decode c.code pc = .ok (.ifnull o, 3)) (q : Go p e below T (mkF m (pc + 3) Ls rest) Q) : Go p e below T (mkF m pc Ls (.ref b :: rest)) Q := Go.of (fun _ k => XS.ifnullNo X.here hx rfl hd rfl k) q
theorem o_ifnonnullNo (X : Stand p l e R s m args below meth c T locs cells slots) (hx : p.tables.exec = Jvm.exec) {o : Int} (hd : decode c.code pc = .ok (.ifnonnull o, 3)) (q : Go p e below T (mkF m (pc + 3) Ls rest) Q) : Go p e below T (mkF m pc Ls (.null :: rest)) Q := Go.of (fun _ k => XS.ifnonnullNo X.here hx rfl hd rfl k) q
theorem o_ldc2J (X : Stand p l e R s m args below meth c T locs cells slots) (hx : p.tables.exec = Jvm.exec) (hZ : Z.Warmed39 s.vm) {own : String} {index : Nat} {v : Int64} (hown : s.vm.findClass own = some m.cls) (w : (Cond.constantLong own index v).before a0 Z = true) (hd : decode c.code pc = .ok (.ldc2_w index, 3)) (q : Go p e below T (mkF m (pc + 3) Ls (.long v :: rest)) Q) : Go p e below T (mkF m pc Ls rest) Q := Go.of (fun t k => X.ldc2Long hx hown (mvT hZ w) (g := mkF m pc Ls rest) rfl hd t k) q
theorem o_getS (X : Stand p l e R s m args below meth c T locs cells slots) (hx : p.tables.exec = Jvm.exec) (hZ : Z.Warmed39 s.vm) {own R0 O n d host : String} {index : Nat} (hown : s.vm.findClass own = some m.cls) (w : (Cond.fieldLink own index R0 n d).before a0 Z = true ∨ (Cond.fieldLinkNest own index R0 n d host).before a0 Z = true) (via : Via Z R0 O n d) (eT : T.heap = h) {v : Value} (F : Sta Z h O n d v) (hd : decode c.code pc = .ok (.getstatic index, 3))
    (q : ∀ T', Stand p l e R s m args below meth c T' locs cells slots → T'.heap = h → Go p e below T' (mkF m (pc + 3) Ls (v :: rest)) Q) : Go p e below T (mkF m pc Ls rest) Q := by
  obtain ⟨T', X', e', st⟩ := getS2 X hx hZ hown w via eT F (g := mkF m pc Ls rest) rfl hd
  exact Go.of st (q T' X' e')
theorem o_getF (X : Stand p l e R s m args below meth c T locs cells slots) (hx : p.tables.exec = Jvm.exec) (hZ : Z.Warmed39 s.vm) {own R0 O n d host : String} {index : Nat} (hown : s.vm.findClass own = some m.cls) (w : (Cond.fieldLink own index R0 n d).before a0 Z = true ∨ (Cond.fieldLinkNest own index R0 n d host).before a0 Z = true) (via : Via Z R0 O n d) (eT : T.heap = h) {a : Addr} {v : Value} (F : Fld Z h a O n d v) (hd : decode c.code pc = .ok (.getfield index, 3))
    (q : ∀ T', Stand p l e R s m args below meth c T' locs cells slots → T'.heap = h → Go p e below T' (mkF m (pc + 3) Ls (v :: rest)) Q) : Go p e below T (mkF m pc Ls (.ref a :: rest)) Q := by
  obtain ⟨T', X', e', st⟩ := getF X hx hZ hown w via eT F (g := mkF m pc Ls (.ref a :: rest)) rfl rfl hd
  exact Go.of st (q T' X' e')
theorem o_putF (X : Stand p l e R s m args below meth c T locs cells slots) (hx : p.tables.exec = Jvm.exec) (hZ : Z.Warmed39 s.vm) {own R0 O n d host C : String} {index kk : Nat} {ty : FieldType} (hown : s.vm.findClass own = some m.cls) (w : (Cond.fieldLink own index R0 n d).before a0 Z = true ∨ (Cond.fieldLinkNest own index R0 n d host).before a0 Z = true) (via : Via Z R0 O n d) (eT : T.heap = h) {a : Addr} {v old : Value} (F : Fld Z h a O n d old) (E : Exa Z h a C) (L : (Cond.lays C O n d).before a0 Z = true ∨ ((Cond.laysFinal C O n d).before a0 Z = true ∧ own = O ∧ meth.name = "<init>")) (wi : (Cond.instantiable C kk).before a0 Z = true)
    (hty : parseFieldDescriptor d = some ty) (hn : narrow ty v = v) (hf : fits ty v = true) (hd : decode c.code pc = .ok (.putfield index, 3))
    (q : ∀ T' h', Stand p l e R s m args below meth c T' (locs ++ [⟨a, Jvm.RoadKit.slotOf Z O n d⟩]) cells slots → T'.heap = h' → Wr h h' a (Jvm.RoadKit.slotOf Z O n d) v → Go p e below T' (mkF m (pc + 3) Ls rest) Q) : Go p e below T (mkF m pc Ls (v :: .ref a :: rest)) Q := by
  obtain ⟨T', h', X', e', W, st⟩ := putF X hx hZ hown w via eT F E L wi hty hn hf (g := mkF m pc Ls (v :: .ref a :: rest)) rfl rfl hd
  exact Go.of st (q T' h' X' e' W)
theorem o_new (X : Stand p l e R s m args below meth c T locs cells slots) (hx : p.tables.exec = Jvm.exec) (hZ : Z.Warmed39 s.vm) {own C : String} {index n : Nat} (hown : s.vm.findClass own = some m.cls) (w : (Cond.classLink own index C).before a0 Z = true) (wi : (Cond.instantiable C n).before a0 Z = true) (wz : (Cond.initialized C).before a0 Z = true) (eT : T.heap = h) (hd : decode c.code pc = .ok (.new index, 3)) (hc : cells + 1 ≤ R.cells) (hl : slots + n ≤ R.slots)
    (q : ∀ T' h' a, Stand p l e R s m args below meth c T' locs (cells + 1) (slots + n) → T'.heap = h' → h.size ≤ a → Ext h h' → Exa Z h' a C → (∀ {O nm d : String} {ty : FieldType}, Laid Z a0 C O nm d → parseFieldDescriptor d = some ty → Fld Z h' a O nm d (defaultValue ty)) → Unt h' a → Go p e below T' (mkF m (pc + 3) Ls (.ref a :: rest)) Q) : Go p e below T (mkF m pc Ls rest) Q := by
  obtain ⟨T', h', X', e', E, A, D, U, st⟩ := newO X hx hZ hown w wi wz eT (g := mkF m pc Ls rest) rfl hd hc hl
  exact Go.of st (q T' h' _ X' e' (Nat.le_refl _) E A D U)
theorem o_initO (X : Stand p l e R s m args below meth c T locs cells slots) (hx : p.tables.exec = Jvm.exec) (hZ : Z.Warmed39 s.vm) {own : String} {idx : Nat} (hown : s.vm.findClass own = some m.cls) (w1 : (Cond.methodLink own idx Lib.objectInit).before a0 Z = true) (w2 : (Cond.instanceMethod Lib.objectInit).before a0 Z = true) (w3 : (Cond.code Lib.objectInit ⟨#[0xb1]⟩ 1 none).before a0 Z = true) (eT : T.heap = h) (hsize : Ls.size = c.maxLocals) {a : Addr} (hd : decode c.code pc = .ok (.invokespecial idx, 3)) (hf : 1 ≤ R.frames) {W : Nat} (hW : (rest.map fun v => v.category).sum ≤ W) (hl : W + 12 ≤ R.locals)
    (q : ∀ T', Stand p l e R s m args below meth c T' locs cells slots → T'.heap = h → Go p e below T' (mkF m (pc + 3) Ls rest) Q) : Go p e below T (mkF m pc Ls (.ref a :: rest)) Q := by
  obtain ⟨T', X', e', st⟩ := initO X hx hZ hown w1 w2 w3 eT (g := mkF m pc Ls (.ref a :: rest)) rfl hsize rfl hd hf (W := W) (by show 2 * 0 + _ ≤ W; omega) hl
  exact Go.of st (q T' X' e')
theorem o_newP (X : Stand p l e R s m args below meth c T locs cells slots) (hx : p.tables.exec = Jvm.exec) (hZ : Z.Warmed39 s.vm) {aty : ArrayType} (w : (Cond.arrayClass (newarray.typeOf aty)).before a0 Z = true) (eT : T.heap = h) (hd : decode c.code pc = .ok (.newarray aty, 2)) {n : Int32} (hn : ¬ n < 0) (cap : Nat) (hcap : n.toNatClampNeg ≤ cap) (hb : cap * 8 ≤ 536870912) (hc : cells + 1 ≤ R.cells) (hl : slots + cap ≤ R.slots)
    (q : ∀ T' h' a k, Stand p l e R s m args below meth c T' locs (cells + 1) (slots + cap) → T'.heap = h' → h.size ≤ a → Ext h h' → Arv Z h' a k (newarray.typeOf aty) n [] (defaultValue (newarray.typeOf aty)) → Go p e below T' (mkF m (pc + 2) Ls (.ref a :: rest)) Q) : Go p e below T (mkF m pc Ls (.int n :: rest)) Q := by
  obtain ⟨T', h', k', X', e', E, A, st⟩ := newP X hx hZ w eT (g := mkF m pc Ls (.int n :: rest)) rfl hd rfl hn hcap hb hc hl
  exact Go.of st (q T' h' _ k' X' e' (Nat.le_refl _) E (Arv.new A hn))
theorem o_lastore (X : Stand p l e R s m args below meth c T locs cells slots) (hx : p.tables.exec = Jvm.exec) (hZ : Z.Warmed39 s.vm) (eT : T.heap = h) {a : Addr} {k : ClassId} {z j : Int32} {vs : List Value} {dv : Value} {x : Int64} (A : Arv Z h a k .long z vs dv) (hj : ¬ j < 0 ∧ j < z) (i : Nat) (hi : j.toNatClampNeg = i) (hl : i < vs.length) (hd : decode c.code pc = .ok (.lastore, 1))
    (q : ∀ T' h', Stand p l e R s m args below meth c T' (locs ++ [⟨a, j.toNatClampNeg⟩]) cells slots → T'.heap = h' → Wr h h' a j.toNatClampNeg (.long x) → Arv Z h' a k .long z (vs.set i (.long x)) dv → Go p e below T' (mkF m (pc + 1) Ls rest) Q) : Go p e below T (mkF m pc Ls (.long x :: .int j :: .ref a :: rest)) Q := by
  obtain ⟨cl, Ar, q1, S, N, H, G⟩ := A
  have hin := inb_of S hj
  obtain ⟨T', h', X', e', W, st⟩ := stJ X hx hZ eT Ar (j := j) hin (g := mkF m pc Ls (.long x :: .int j :: .ref a :: rest)) rfl rfl hd
  exact Go.of st (q T' h' X' e' W (Arv.set Ar q1 S N H G rfl W i hi hl))
theorem o_laload (X : Stand p l e R s m args below meth c T locs cells slots) (hx : p.tables.exec = Jvm.exec) (hZ : Z.Warmed39 s.vm) (eT : T.heap = h) {a : Addr} {k : ClassId} {z j : Int32} {vs : List Value} {dv v : Value} (A : Arv Z h a k .long z vs dv) (hj : ¬ j < 0 ∧ j < z) (hv : vs.getD j.toNatClampNeg dv = v) (hd : decode c.code pc = .ok (.laload, 1)) (q : Go p e below T (mkF m (pc + 1) Ls (v :: rest)) Q) : Go p e below T (mkF m pc Ls (.int j :: .ref a :: rest)) Q := by
  obtain ⟨cl, Ar, q1, S, N, H, G⟩ := A
  have hin := inb_of S hj
  exact Go.of (fun t k => X.laload hx (j := j) (v := v) (by rw [eT]; exact Ar.1) (State.isArrayOf_alike hZ.alike Ar.2.1) Ar.2.2 hin (H.at hin hv) (g := mkF m pc Ls (.int j :: .ref a :: rest)) rfl rfl hd t k) q
theorem o_arraylength (X : Stand p l e R s m args below meth c T locs cells slots) (hx : p.tables.exec = Jvm.exec) (hZ : Z.Warmed39 s.vm) (eT : T.heap = h) {a : Addr} {k : ClassId} {z : Int32} {vs : List Value} {dv : Value} {ty : FieldType} (A : Arv Z h a k ty z vs dv) (hd : decode c.code pc = .ok (.arraylength, 1)) (q : Go p e below T (mkF m (pc + 1) Ls (.int z :: rest)) Q) : Go p e below T (mkF m pc Ls (.ref a :: rest)) Q := by
  obtain ⟨cl, Ar, q1, S, N, H, G⟩ := A
  refine Go.of (fun t k => X.arraylength hx (by rw [eT]; exact Ar.1) (State.isArrayOf_alike hZ.alike Ar.2.1) (g := mkF m pc Ls (.ref a :: rest)) rfl rfl hd t k) ?_
  rw [len_of S N]; exact q
def Lv (s : State) (Qc : Option Value → Heap → List Loc → Prop) (C S : Nat) (o : Outcome) (t : State) : Prop := ∃ v L, o = .returned v ∧ Qc v t.heap L ∧ FrameEnd s o t L C S
abbrev Ct (l : Launch) (Z : State) (y : MethodName) (bytes : ByteArray) (maxL : Nat) (ret : Option FieldType) (rm : Room) (ws : List Jvm.Cond) (as : Array Value) (h0 : Heap) (Qc : Option Value → Heap → List Loc → Prop) : Prop := MetFree l y (head1 (Jvm.Cond.code y bytes maxL ret :: ws) rm) (fun a U => a = as ∧ Z.Warmed39 U.vm ∧ U.heap = h0) (fun _ _ _ _ _ => True) (fun _ U o U' => ∃ v L, o = .returned v ∧ Qc v U'.heap L ∧ FrameEnd U o U' L rm.cells rm.slots)
theorem Ct.mono {y : MethodName} {bytes : ByteArray} {maxL : Nat} {ret : Option FieldType} {rm : Room} {ws : List Jvm.Cond} {as : Array Value} {Q1 Q2 : Option Value → Heap → List Loc → Prop} (k : Ct l Z y bytes maxL ret rm ws as h0 Q1) (w : ∀ v h L, Q1 v h L → Q2 v h L) : Ct l Z y bytes maxL ret rm ws as h0 Q2 := by
  intro p e ha hc hk s m args below hf happ hP hK
  obtain ⟨n, o, h1, h2, h3, v, L, h4, h5, h6⟩ := k p e ha hc hk s m args below hf happ hP hK
  exact ⟨n, o, h1, h2, h3, v, L, h4, w _ _ _ h5, h6⟩
theorem o_body {y : MethodName} {bytes : ByteArray} {maxL : Nat} {ret : Option FieldType} {rm : Room} {ws : List Jvm.Cond} {as : Array Value} {Qc : Option Value → Heap → List Loc → Prop} (hpl : plainFor y = true)
    (body : ∀ (p : Program) (e : Env) (s : State) (m : MethodId) (below : List Frame) (meth : Method) (c : Code) (s₁ : State), Stand p l e rm s m as below meth c s₁ [] 0 0 → p.tables.exec = Jvm.exec → c.code = bytes → c.maxLocals = maxL → meth.sig.returnType = ret → meth.locks = false → s.vm.findClass y.cls = some m.cls → meth.name = y.name → Z.Warmed39 s.vm → s₁.heap = h0 → Go p e below s₁ (entryFrame m as maxL) (Lv s Qc rm.cells rm.slots)) :
    Ct l Z y bytes maxL ret rm ws as h0 Qc := by
  refine MetFree.of_bodySF hpl hisR ?_
  intro p e s m args below meth c s₁ Bd hml0 hP hK
  obtain ⟨rfl, hZ, hh⟩ := hP
  exact body p e s m below meth c s₁ (Stand.of_body Bd) Bd.exec Bd.bytes hml0 Bd.returns Bd.notSynchronized (findClass_of_methodNamed Bd.named) (name_of_methodNamed Bd.named Bd.method).1 hZ (by rw [← hh, Bd.state]; rfl)
theorem o_top {g g' : JFrame} (q : g = g') (k : Go p e below T g' Q) : Go p e below T g Q := q ▸ k
theorem o_retV (X : Stand p l e R s m args below meth c T locs cells slots) (hx : p.tables.exec = Jvm.exec) {Qc : Option Value → Heap → List Loc → Prop} {C S : Nat} {w : Value} {t : FieldType} {i : Instr} (hret : meth.sig.returnType = some t) (hlk : meth.locks = false) (hn : narrow t w = w)
    (hi : (i = .ireturn ∧ (t = .int ∨ t = .boolean ∨ t = .byte ∨ t = .char ∨ t = .short) ∧ ∃ z, w = .int z) ∨ (i = .lreturn ∧ t = .long ∧ ∃ z, w = .long z) ∨ (i = .dreturn ∧ t = .double ∧ ∃ z, w = .double z) ∨ (i = .freturn ∧ t = .float ∧ ∃ z, w = .float z) ∨ (i = .areturn ∧ t.isReference = true ∧ w.isRef = true))
    (hd : decode c.code pc = .ok (i, 1)) (eT : T.heap = h) (q : Qc (some w) h locs) (hC : cells ≤ C) (hS : slots ≤ S) : Go p e below T (mkF m pc Ls (w :: rest)) (Lv s Qc C S) := by
  obtain ⟨fs, hr, hrun, hended, hW, hsame⟩ := X.leave (v := some w) (fun h => by rw [hret] at h; cases h) hlk
  refine ⟨_, _, retOut X hx hret hn hi hd hr, hrun, hended, some w, locs, rfl, ?_, ⟨_, rfl⟩, hW, hsame.mono hC hS⟩
  show Qc (some w) T.heap locs
  rw [eT]; exact q
theorem o_retJ (X : Stand p l e R s m args below meth c T locs cells slots) (hx : p.tables.exec = Jvm.exec) {Qc : Option Value → Heap → List Loc → Prop} {C S : Nat} {z : Int64} (hret : meth.sig.returnType = some .long) (hlk : meth.locks = false) (hd : decode c.code pc = .ok (.lreturn, 1)) (eT : T.heap = h) (hC : cells ≤ C) (hS : slots ≤ S) (q : Qc (some (.long z)) h locs) : Go p e below T (mkF m pc Ls (.long z :: rest)) (Lv s Qc C S) := o_retV X hx hret hlk rfl (Or.inr (Or.inl ⟨rfl, rfl, z, rfl⟩)) hd eT q hC hS
theorem o_retA (X : Stand p l e R s m args below meth c T locs cells slots) (hx : p.tables.exec = Jvm.exec) {Qc : Option Value → Heap → List Loc → Prop} {C S : Nat} {w : Value} {t : FieldType} (hret : meth.sig.returnType = some t) (hlk : meth.locks = false) (ht : t.isReference = true) (hw : w.isRef = true) (hd : decode c.code pc = .ok (.areturn, 1)) (eT : T.heap = h) (hC : cells ≤ C) (hS : slots ≤ S) (q : Qc (some w) h locs) : Go p e below T (mkF m pc Ls (w :: rest)) (Lv s Qc C S) := o_retV X hx hret hlk (by rcases ref_cases hw with rfl | ⟨a, rfl⟩ <;> cases t <;> first | rfl | (cases ht; done)) (Or.inr (Or.inr (Or.inr (Or.inr ⟨rfl, ht, hw⟩)))) hd eT q hC hS
theorem o_ret0 (X : Stand p l e R s m args below meth c T locs cells slots) (hx : p.tables.exec = Jvm.exec) {Qc : Option Value → Heap → List Loc → Prop} {C S : Nat} (hret : meth.sig.returnType = none) (hlk : meth.locks = false) (hd : decode c.code pc = .ok (.return_, 1)) (eT : T.heap = h) (hC : cells ≤ C) (hS : slots ≤ S) (q : Qc none h locs) : Go p e below T (mkF m pc Ls []) (Lv s Qc C S) := by
  obtain ⟨fs, hr, hrun, hended, hW, hsame⟩ := X.leave (v := none) (fun _ => rfl) hlk
  refine ⟨_, _, X.returnOut hx hret hd hr, hrun, hended, none, locs, rfl, ?_, ⟨_, rfl⟩, hW, hsame.mono hC hS⟩
  show Qc none T.heap locs
  rw [eT]; exact q
theorem o_callS (X : Stand p l e R s m args below meth c T locs cells slots) (hx : p.tables.exec = Jvm.exec) (hZ : Z.Warmed39 s.vm) {y : MethodName} {bytes : ByteArray} {maxL : Nat} {ret : Option FieldType} {rm : Room} {as : Array Value} {Qc : Option Value → Heap → List Loc → Prop} {own : String} {index W : Nat} {argsL : List Value} (hown : s.vm.findClass own = some m.cls) (wl : (Cond.methodLink own index y).before a0 Z = true) (wst : (Cond.static y).before a0 Z = true) (wz : (Cond.initialized y.cls).before a0 Z = true) (wc : (Cond.code y bytes maxL ret).before a0 Z = true) (hy : y.cls ≠ "java/lang/invoke/MethodHandle" ∧ y.cls ≠ "java/lang/invoke/VarHandle") (hM : Ct l Z y bytes maxL ret rm [] as h Qc) (eT : T.heap = h) (hsize : Ls.size = c.maxLocals) (hlen : ∀ sig, parseMethodDescriptor y.desc = some sig → argsL.length = sig.parameters.length) (has : argsL.toArray = as) {st : List Value} (hst : st = argsL.reverse ++ rest) (hW : (rest.map fun v => v.category).sum ≤ W) (hd : decode c.code pc = .ok (.invokestatic index, 3)) (hf : rm.frames + 1 ≤ R.frames) (hl : W + (maxL + 11) + rm.locals ≤ R.locals) (hc : cells + rm.cells ≤ R.cells) (hs : slots + rm.slots ≤ R.slots)
    (q : ∀ v T' h' L, Stand p l e R s m args below meth c T' (locs ++ L) (cells + rm.cells) (slots + rm.slots) → T'.heap = h' → Qc v h' L → Go p e below T' (mkF m (pc + 3) Ls (v.toList ++ rest)) Q) : Go p e below T (mkF m pc Ls st) Q := by
  obtain ⟨v, vm₁, ⟨T', L', k', n'⟩, -, X', ⟨L, hQ, l1, y1, z1⟩, st'⟩ := Jvm.LawKit.callS X hx (y := y) hown (mvT hZ wl) (mvT hZ wst) (mvT hZ wz) (mvT hZ wc) hy (backOf (W := W) hM hZ wc wz hf hl) (g := mkF m pc Ls st) rfl hsize hlen hst (by show 2 * 0 + _ ≤ W; omega) hd (fun _ _ => ⟨has, eT, hc, hs⟩)
  dsimp only [Pt.U, Pt.locs, Pt.cells, Pt.slots] at X' l1 y1 z1 st' hQ
  subst l1 y1 z1
  exact Go.of st' (q v T' _ L X' rfl hQ)
theorem o_callN (X : Stand p l e R s m args below meth c T locs cells slots) (hx : p.tables.exec = Jvm.exec) (hZ : Z.Warmed39 s.vm) {y : MethodName} {bytes : ByteArray} {maxL : Nat} {rm : Room} {as : Array Value} {Qc : Option Value → Heap → List Loc → Prop} {own : String} {index W : Nat} {argsL : List Value} {a : Addr} (hy1 : y.name = "<init>") (hown : s.vm.findClass own = some m.cls) (wl : (Cond.methodLink own index y).before a0 Z = true) (wi : (Cond.instanceMethod y).before a0 Z = true) (wz : (Cond.initialized y.cls).before a0 Z = true) (wc : (Cond.code y bytes maxL none).before a0 Z = true) (hy : y.cls ≠ "java/lang/invoke/MethodHandle" ∧ y.cls ≠ "java/lang/invoke/VarHandle") (hM : Ct l Z y bytes maxL none rm [] as h Qc) (eT : T.heap = h) (hsize : Ls.size = c.maxLocals) (hlen : ∀ sig, parseMethodDescriptor y.desc = some sig → argsL.length = sig.parameters.length) (has : (.ref a :: argsL).toArray = as) {st : List Value} (hst : st = argsL.reverse ++ .ref a :: rest) (hW : (rest.map fun v => v.category).sum ≤ W) (hd : decode c.code pc = .ok (.invokespecial index, 3)) (hf : rm.frames + 1 ≤ R.frames) (hl : W + (maxL + 11) + rm.locals ≤ R.locals) (hc : cells + rm.cells ≤ R.cells) (hs : slots + rm.slots ≤ R.slots)
    (q : ∀ v T' h' L, Stand p l e R s m args below meth c T' (locs ++ L) (cells + rm.cells) (slots + rm.slots) → T'.heap = h' → Qc v h' L → Go p e below T' (mkF m (pc + 3) Ls (v.toList ++ rest)) Q) : Go p e below T (mkF m pc Ls st) Q := by
  obtain ⟨v, vm₁, ⟨T', L', k', n'⟩, -, X', ⟨L, hQ, l1, y1, z1⟩, st'⟩ := X.specialBack hx (y := y) hy1 hown (mvT hZ wl) (mvT hZ wi) (mvT hZ wc) hy (backOf (W := W) hM hZ wc wz hf hl) (g := mkF m pc Ls st) rfl hsize (Steps.refl _) (a := a) hlen hst (by show 2 * 0 + _ ≤ W; omega) hd (fun _ _ => ⟨has, eT, hc, hs⟩)
  dsimp only [Pt.U, Pt.locs, Pt.cells, Pt.slots] at X' l1 y1 z1 st' hQ
  subst l1 y1 z1
  exact Go.of (fun _ k => st'.trans k) (q v T' _ L X' rfl hQ)
theorem o_callV (X : Stand p l e R s m args below meth c T locs cells slots) (hx : p.tables.exec = Jvm.exec) (hZ : Z.Warmed39 s.vm) {y z : MethodName} {bytes : ByteArray} {maxL : Nat} {ret : Option FieldType} {rm : Room} {as : Array Value} {Qc : Option Value → Heap → List Loc → Prop} {own C : String} {index W : Nat} {argsL : List Value} {a : Addr} (hown : s.vm.findClass own = some m.cls) (wl : (Cond.methodLink own index y).before a0 Z = true) (wd : (Cond.declares y).before a0 Z = true) (hnf : NotFace s y) (wsel : (Cond.selects C y z).before a0 Z = true) (wi : (Cond.instanceMethod z).before a0 Z = true) (wz : (Cond.initialized z.cls).before a0 Z = true) (wc : (Cond.code z bytes maxL ret).before a0 Z = true) (hy : y.cls ≠ "java/lang/invoke/MethodHandle" ∧ y.cls ≠ "java/lang/invoke/VarHandle") (hM : Ct l Z z bytes maxL ret rm [] as h Qc) (eT : T.heap = h) (Ea : Exa Z h a C) (hsize : Ls.size = c.maxLocals) (hlen : ∀ sig, parseMethodDescriptor y.desc = some sig → argsL.length = sig.parameters.length) (has : (.ref a :: argsL).toArray = as) {st : List Value} (hst : st = argsL.reverse ++ .ref a :: rest) (hW : (rest.map fun v => v.category).sum ≤ W) (hd : decode c.code pc = .ok (.invokevirtual index, 3)) (hf : rm.frames + 1 ≤ R.frames) (hl : W + (maxL + 11) + rm.locals ≤ R.locals) (hc : cells + rm.cells ≤ R.cells) (hs : slots + rm.slots ≤ R.slots)
    (q : ∀ v T' h' L, Stand p l e R s m args below meth c T' (locs ++ L) (cells + rm.cells) (slots + rm.slots) → T'.heap = h' → Qc v h' L → Go p e below T' (mkF m (pc + 3) Ls (v.toList ++ rest)) Q) : Go p e below T (mkF m pc Ls st) Q := by
  obtain ⟨cq, kq, qa, qb, qc⟩ := isOf hZ eT Ea
  obtain ⟨v, vm₁, ⟨T', L', k', n'⟩, -, X', ⟨L, hQ, l1, y1, z1⟩, st'⟩ := X.virtualBack hx (y := y) (z := z) hown (mvT hZ wl) (mvT hZ wd) hnf (mvT hZ wsel) (mvT hZ wi) hy (backOf (W := W) hM hZ wc wz hf hl) qa qc (g := mkF m pc Ls st) rfl hsize (Steps.refl _) hlen hst (by show 2 * 0 + _ ≤ W; omega) hd (fun _ _ => ⟨has, eT, hc, hs⟩)
  dsimp only [Pt.U, Pt.locs, Pt.cells, Pt.slots] at X' l1 y1 z1 st' hQ
  subst l1 y1 z1
  exact Go.of (fun _ k => st'.trans k) (q v T' _ L X' rfl hQ)
theorem o_n0 {n0 : Nat} (O : Old Z n0 h) : n0 ≤ h.size := O.1 ▸ O.2.1
theorem o_keep0 {h' : Heap} (K : Keep h h' []) : Ext h h' := ⟨K.1, fun x c q => K.2.1 x c q nin0⟩
theorem o_eqI {first s : State} {o : Option Outcome} {idx : List Nat} {a : Term} {n : Int32} (h : (Cond.eq a (.int n)).value args first o s idx = some true) : a.eval args first o idx s = some (.int n) := Cond.eq_int (beq_iff_eq.mpr h) rfl
theorem o_aaloadA (X : Stand p l e R s m args below meth c T locs cells slots) (hx : p.tables.exec = Jvm.exec) (hZ : Z.Warmed39 s.vm) (eT : T.heap = h) {a : Addr} {j : Int32} {cl : Cell} {v : Value} {ty : FieldType} (A : Arr Z h a cl ty) (hty : ty.isReference = true) (hin : ¬ (j < 0 ∨ cl.slots.size ≤ j.toNatClampNeg)) (hv : cl.slots[j.toNatClampNeg]? = some v) (hd : decode c.code pc = .ok (.aaload, 1)) (q : Go p e below T (mkF m (pc + 1) Ls (v :: rest)) Q) : Go p e below T (mkF m pc Ls (.int j :: .ref a :: rest)) Q := Go.of (fun t k => X.aaload hx (j := j) (v := v) (by rw [eT]; exact A.1) (State.isArrayOf_alike hZ.alike A.2.1) hty A.2.2 hin hv (g := mkF m pc Ls (.int j :: .ref a :: rest)) rfl rfl hd t k) q
theorem o_len {s : State} {t : Term} {a : Addr} {cl : Cell} {z : Int32} (et : t.eval args s none [] s = some (.ref a)) (ha : s.arrayAt? a = some cl) (h : (Term.length t).eval args s none [] s = some (.int z)) : cl.slots.size < 2 ^ 31 ∧ cl.slots.size.toInt32 = z := by
  have q : cl.slots.size < 2 ^ 31 := SBG.length_lt et ha h
  exact ⟨q, by simpa using Option.some.inj ((len_f et ha q).symm.trans h)⟩
theorem o_sub {s : State} {a b : Term} {idx : List Nat} {x y : Int32} (ha : a.eval args s none idx s = some (.int x)) (hb : b.eval args s none idx s = some (.int y)) : (Term.sub a b).eval args s none idx s = some (.int (x - y)) := by simp [Term.eval, ha, hb]
def Bs (s sB : State) (h : Heap) : Prop := ∃ vm0 k, sB = s.setVm vm0 ∧ s.Since vm0 k ∧ k ≤ h.size
theorem Bs.start (s : State) (h : Heap) : Bs s s h := ⟨s.vm, 0, rfl, (State.WarmedH.refl s).since 0, Nat.zero_le _⟩
theorem Bs.mono {s sB : State} {h h' : Heap} (B : Bs s sB h) (q : h.size ≤ h'.size) : Bs s sB h' := by
  obtain ⟨vm0, k, e1, e2, e3⟩ := B; exact ⟨vm0, k, e1, e2, Nat.le_trans e3 q⟩
theorem Bs.ext {s sB : State} {h h' : Heap} (B : Bs s sB h) (q : Ext h h') : Bs s sB h' := B.mono q.1
theorem Bs.wr {s sB : State} {h h' : Heap} {a : Addr} {sl : Nat} {v : Value} (B : Bs s sB h) (q : Wr h h' a sl v) : Bs s sB h' := B.mono (Nat.le_of_eq q.size.symm)
theorem Bs.keep {s sB : State} {h h' : Heap} {ws : List Addr} (B : Bs s sB h) (q : Keep h h' ws) : Bs s sB h' := B.mono q.1
def LvW (s : State) (Qc : Option Value → Heap → List Loc → Prop) (C S : Nat) (o : Outcome) (t : State) : Prop := ∃ v L, o = .returned v ∧ Qc v t.heap L ∧ ReturnedEndW s o t L C S
abbrev CtW (l : Launch) (Z : State) (y : MethodName) (bytes : ByteArray) (maxL : Nat) (ret : Option FieldType) (rm : Room) (ws : List Jvm.Cond) (as : Array Value) (h0 : Heap) (Qc : Option Value → Heap → List Loc → Prop) : Prop := MetFree l y (head1 (Jvm.Cond.code y bytes maxL ret :: ws) rm) (fun a U => a = as ∧ Z.Warmed39 U.vm ∧ U.heap = h0) (fun _ _ _ _ _ => True) (fun _ U o U' => ∃ v L, o = .returned v ∧ Qc v U'.heap L ∧ ReturnedEndW U o U' L rm.cells rm.slots)
theorem o_bodyW {y : MethodName} {bytes : ByteArray} {maxL : Nat} {ret : Option FieldType} {rm : Room} {ws : List Jvm.Cond} {as : Array Value} {Qc : Option Value → Heap → List Loc → Prop} (hpl : plainFor y = true)
    (body : ∀ (p : Program) (e : Env) (s : State) (m : MethodId) (below : List Frame) (meth : Method) (c : Code) (s₁ : State), Stand p l e rm s m as below meth c s₁ [] 0 0 → p.tables.exec = Jvm.exec → c.code = bytes → c.maxLocals = maxL → meth.sig.returnType = ret → meth.locks = false → s.vm.findClass y.cls = some m.cls → meth.name = y.name → Z.Warmed39 s.vm → s₁.heap = h0 → Go p e below s₁ (entryFrame m as maxL) (LvW s Qc rm.cells rm.slots)) :
    CtW l Z y bytes maxL ret rm ws as h0 Qc := by
  refine MetFree.of_bodySF hpl hisR ?_
  intro p e s m args below meth c s₁ Bd hml0 hP hK
  obtain ⟨rfl, hZ, hh⟩ := hP
  exact body p e s m below meth c s₁ (Stand.of_body Bd) Bd.exec Bd.bytes hml0 Bd.returns Bd.notSynchronized (findClass_of_methodNamed Bd.named) (name_of_methodNamed Bd.named Bd.method).1 hZ (by rw [← hh, Bd.state]; rfl)
theorem o_retNW {sB : State} (X : Stand p l e R sB m args below meth c T locs cells slots) (hx : p.tables.exec = Jvm.exec) {Qc : Option Value → Heap → List Loc → Prop} {C S : Nat} {z : Int32} (B : Bs s sB h) (t : FieldType) (hret : meth.sig.returnType = some t) (hlk : meth.locks = false) (ht : t = .boolean ∨ t = .byte ∨ t = .char ∨ t = .short) (hd : decode c.code pc = .ok (.ireturn, 1)) (eT : T.heap = h) (hC : cells ≤ C) (hS : slots ≤ S) (q : Qc (some (.int (nar t z))) h locs) : Go p e below T (mkF m pc Ls (.int z :: rest)) (LvW s Qc C S) := by
  obtain ⟨vm0, k0, rfl, hS0, hk0⟩ := B
  obtain ⟨fs, hr, hrun, hended, hend⟩ := X.leaveW hS0 (by rw [eT]; exact hk0) (v := some (.int (nar t z))) (fun h => by rw [hret] at h; cases h) hlk
  obtain ⟨hq1, hq2, hq3, hq4⟩ := hend
  refine ⟨_, _, retN X hx hret ht hd hr, hrun, hended, some (.int (nar t z)), locs, rfl, ?_, hq1, hq2, hq3, hq4.mono hC hS⟩
  show Qc _ T.heap locs
  rw [eT]; exact q
theorem o_ldcS {sB : State} (X : Stand p l e R sB m args below meth c T locs cells slots) (hx : p.tables.exec = Jvm.exec) (hZ : Z.Warmed39 sB.vm) {own text : String} {index : Nat} (hown : sB.vm.findClass own = some m.cls) (w : (Cond.stringLink own index text).before a0 Z = true) (wS : ∀ a ∈ Bundle.stringAtoms, a.before a0 Z = true) (eT : T.heap = h) (B : Bs s sB h) (hd : decode c.code pc = .ok (.ldc index, 2)) (n : Nat) (hn : 4 * text.toList.length ≤ n) (hbig : n ≤ 536870912) (hc : cells + 2 ≤ R.cells) (hl : slots + (n + 4) ≤ R.slots)
    (q : ∀ sB' a T' h', Stand p l e R sB' m args below meth c T' locs (cells + 2) (slots + (n + 4)) → T'.heap = h' → Ext h h' → Bs s sB' h' → Z.Warmed39 sB'.vm → sB'.vm.findClass own = some m.cls → Go p e below T' (mkF m (pc + 2) Ls (.ref a :: rest)) Q) : Go p e below T (mkF m pc Ls rest) Q := by
  obtain ⟨vm0, k0, rfl, hS0, hk0⟩ := B
  obtain ⟨a, T', h', k1, X', e', E, S', k', hZ', hown', st⟩ := ldcS X hx hZ hown w wS eT hS0 hk0 (g := mkF m pc Ls rest) rfl hd hn hbig hc hl
  exact Go.of st (q _ a T' h' X' e' E ⟨_, _, rfl, S', k'⟩ hZ' hown')
end OwnKit

theorem o_pn_java_lang_Number : plainName "java/lang/Number" = true := by first | (simp [plainName, overriddenIn]; done) | decide +kernel
theorem o_d6_0 : decode jdk_18_method_1_code 0 = .ok (.aload_n 0, 1) := by decide +kernel
theorem o_d6_1 : decode jdk_18_method_1_code 1 = .ok (.invokespecial 1, 3) := by decide +kernel
theorem o_d6_4 : decode jdk_18_method_1_code 4 = .ok (.return_, 1) := by decide +kernel
set_option maxRecDepth 65536 in
set_option maxHeartbeats 40000000 in
theorem rmNumber (l : Launch) (Z : State) (a0 : Array Value) (hw : ∀ d ∈ tables_1, d.before a0 Z = true) (ws : List Jvm.Cond) (a1 : Addr) (h0 : Heap) (n0 : Nat) (O0 : Old Z n0 h0) :
    Ct l Z (⟨"java/lang/Number", "<init>", "()V"⟩ : MethodName) jdk_18_method_1_code 1 none ({ frames := 1, cells := 0, slots := 0, locals := 12 } : Room) ws #[(.ref a1)] h0 (fun v h L => v = none ∧ Fr n0 L ∧ h0 = h) := by
  refine o_body (plainFor_of_name o_pn_java_lang_Number) ?_
  intro p e s m below meth c s₁ X0 hx hby hml hret hlk hown hnm hZ e0
  have N0 := Fr.nil n0
  refine o_top (g' := (mkF m 0 #[.val (.ref a1)] [])) (by first | (simp [entryFrame, mkF, argsToLocals, Value.category]; done) | rfl) ?_
  refine o_aloadN (v := (.ref a1)) (pc := 0) X0 hx (hb hby o_d6_0) rfl rfl ?_
  refine o_initO (pc := 1) X0 hx hZ hown (hw _ (List.mem_of_getElem? (i := 44) rfl)) (hw _ (List.mem_of_getElem? (i := 16) rfl)) (hw _ (List.mem_of_getElem? (i := 17) rfl)) e0 (by rw [hml]; rfl) (hb hby o_d6_1) (by decide) (W := 0) (Nat.le_of_ble_eq_true rfl) (by decide) fun T1 X1 e1 => ?_
  exact o_ret0 (pc := 4) X1 hx hret hlk (hb hby o_d6_4) e1 (by decide) (by decide) ⟨rfl, N0, rfl⟩
theorem o_pn_java_lang_Long : plainName "java/lang/Long" = true := by first | (simp [plainName, overriddenIn]; done) | decide +kernel
theorem o_d5_0 : decode jdk_35_method_26_code 0 = .ok (.aload_n 0, 1) := by decide +kernel
theorem o_d5_1 : decode jdk_35_method_26_code 1 = .ok (.invokespecial 270, 3) := by decide +kernel
theorem o_pd0 : parseMethodDescriptor "()V" = some ⟨[], none⟩ := by decide +kernel
theorem o_d5_4 : decode jdk_35_method_26_code 4 = .ok (.aload_n 0, 1) := by decide +kernel
theorem o_d5_5 : decode jdk_35_method_26_code 5 = .ok (.lload_n 1, 1) := by decide +kernel
theorem o_d5_6 : decode jdk_35_method_26_code 6 = .ok (.putfield 273, 3) := by decide +kernel
theorem o_d5_9 : decode jdk_35_method_26_code 9 = .ok (.return_, 1) := by decide +kernel
set_option maxRecDepth 65536 in
set_option maxHeartbeats 40000000 in
theorem rmLong (l : Launch) (Z : State) (a0 : Array Value) (hw : ∀ d ∈ tables_1, d.before a0 Z = true) (ws : List Jvm.Cond) (a1 : Addr) (q1 : Int64) (h0 : Heap) (n0 : Nat) (O0 : Old Z n0 h0) (E1 : Exa Z h0 a1 "java/lang/Long") (G0 : Fld Z h0 a1 "java/lang/Long" "value" "J" (.long (0 : Int64))) (g1 : n0 ≤ a1) :
    Ct l Z (⟨"java/lang/Long", "<init>", "(J)V"⟩ : MethodName) jdk_35_method_26_code 3 none ({ frames := 2, cells := 0, slots := 0, locals := 24 } : Room) ws #[(.ref a1), (.long q1)] h0 (fun v h L => v = none ∧ Fr n0 L ∧ Keep h0 h [a1] ∧ Fld Z h a1 "java/lang/Long" "value" "J" (.long q1)) := by
  refine o_body (plainFor_of_name o_pn_java_lang_Long) ?_
  intro p e s m below meth c s₁ X0 hx hby hml hret hlk hown hnm hZ e0
  have N0 := Fr.nil n0
  refine o_top (g' := (mkF m 0 #[.val (.ref a1), .val (.long q1), .second] [])) (by first | (simp [entryFrame, mkF, argsToLocals, Value.category]; done) | rfl) ?_
  refine o_aloadN (v := (.ref a1)) (pc := 0) X0 hx (hb hby o_d5_0) rfl rfl ?_
  refine o_callN (pc := 1) X0 hx hZ (y := (⟨"java/lang/Number", "<init>", "()V"⟩ : MethodName)) (a := a1) (argsL := []) (rest := []) rfl hown (hw _ (List.mem_of_getElem? (i := 38) rfl)) (hw _ (List.mem_of_getElem? (i := 39) rfl)) (hw _ (List.mem_of_getElem? (i := 42) rfl)) (hw _ (List.mem_of_getElem? (i := 43) rfl)) (by decide) (rmNumber l Z a0 hw [] a1 h0 n0 O0) e0 (by rw [hml]; rfl) (lenOf o_pd0 rfl) (has := rfl) (hst := rfl) (W := 0) (Nat.le_of_ble_eq_true rfl) (hb hby o_d5_1) (by decide) (by decide) (by decide) (by decide) fun v2 T2 h2 L2 X2 e2 q2 => ?_
  obtain ⟨rfl, N2q, rfl⟩ := q2
  have N2 := Fr.app N0 N2q
  show Go p e below T2 (mkF m 4 #[.val (.ref a1), .val (.long q1), .second] []) _
  refine o_aloadN (v := (.ref a1)) (pc := 4) X2 hx (hb hby o_d5_4) rfl rfl ?_
  refine o_lloadN (v := q1) (pc := 5) X2 hx (hb hby o_d5_5) rfl ?_
  refine o_putF (pc := 6) X2 hx hZ hown (host := "") (Or.inl (hw _ (List.mem_of_getElem? (i := 45) rfl))) Via.refl e2 G0 E1 (Or.inr ⟨(hw _ (List.mem_of_getElem? (i := 46) rfl)), rfl, hnm⟩) (hw _ (List.mem_of_getElem? (i := 33) rfl)) (ty := .long) (by decide) rfl rfl (hb hby o_d5_6) fun T3 h3 X3 e3 W3 => ?_
  have F3 := Fld.same W3 G0
  have N3 := Fr.snoc X3 N2 g1
  have O4 := O0.wr W3 g1
  have K4 : Keep h0 h3 [a1] := (Keep.refl h0 [a1]).wr W3 (Or.inl (List.mem_of_getElem? (i := 0) rfl))
  exact o_ret0 (pc := 9) X3 hx hret hlk (hb hby o_d5_9) e3 (by decide) (by decide) ⟨rfl, N3, K4, F3⟩
theorem lc_in {q : Int64} {cl : Cell} (hs : cl.slots.size = (256 : Int32).toNatClampNeg) (h1 : ¬ lcmpW q (-128 : Int64) < 0) (h2 : ¬ 0 < lcmpW q (127 : Int64)) : ¬ ((q.toInt32 + 128) < 0 ∨ cl.slots.size ≤ (q.toInt32 + 128).toNatClampNeg) ∧ (q.toInt32 + 128 - 128).toInt64 = q := by
  rw [lw_lt, Int64.lt_iff_toInt_lt] at h1
  rw [lw_gt, Int64.lt_iff_toInt_lt] at h2
  have e1 : (-128 : Int64).toInt = -128 := rfl
  have e2 : (127 : Int64).toInt = 127 := rfl
  have e3 : (128 : Int32).toInt = 128 := rfl
  have e4 : (256 : Int32).toNatClampNeg = 256 := rfl
  have e5 : (0 : Int32).toInt = 0 := rfl
  have g1 := c_l2i q
  have g2 := rng32 q.toInt32
  have g3 := c_iadd q.toInt32 128
  have g4 := rng32 (q.toInt32 + 128)
  rw [e1] at h1
  rw [e2] at h2
  rw [e3] at g3
  refine ⟨?_, ?_⟩
  · rw [hs, e4, Int32.lt_iff_toInt_lt, e5]
    simp only [Int32.toNatClampNeg]
    omega
  · rw [show q.toInt32 + 128 - 128 = q.toInt32 from by rw [← Int32.toInt_inj]; have g5 := c_isub (q.toInt32 + 128) 128; have g6 := rng32 (q.toInt32 + 128 - 128); rw [e3] at g5; omega]
    rw [← Int64.toInt_inj, c_i2l]
    omega
theorem o_d4_0 : decode jdk_35_method_24_code 0 = .ok (.sipush 128, 3) := by decide +kernel
theorem o_d4_3 : decode jdk_35_method_24_code 3 = .ok (.istore_n 2, 1) := by decide +kernel
theorem o_d4_4 : decode jdk_35_method_24_code 4 = .ok (.lload_n 0, 1) := by decide +kernel
theorem o_d4_5 : decode jdk_35_method_24_code 5 = .ok (.ldc2_w 230, 3) := by decide +kernel
theorem o_d4_8 : decode jdk_35_method_24_code 8 = .ok (.lcmp, 1) := by decide +kernel
theorem o_d4_9 : decode jdk_35_method_24_code 9 = .ok (.ifCond .lt 22, 3) := by decide +kernel
theorem o_d4_31 : decode jdk_35_method_24_code 31 = .ok (.new 1, 3) := by decide +kernel
theorem o_d4_34 : decode jdk_35_method_24_code 34 = .ok (.dup, 1) := by decide +kernel
theorem o_d4_35 : decode jdk_35_method_24_code 35 = .ok (.lload_n 0, 1) := by decide +kernel
theorem o_d4_36 : decode jdk_35_method_24_code 36 = .ok (.invokespecial 240, 3) := by decide +kernel
theorem o_pd1 : parseMethodDescriptor "(J)V" = some ⟨[.long], none⟩ := by decide +kernel
theorem o_d4_39 : decode jdk_35_method_24_code 39 = .ok (.areturn, 1) := by decide +kernel
theorem o_d4_12 : decode jdk_35_method_24_code 12 = .ok (.lload_n 0, 1) := by decide +kernel
theorem o_d4_13 : decode jdk_35_method_24_code 13 = .ok (.ldc2_w 232, 3) := by decide +kernel
theorem o_d4_16 : decode jdk_35_method_24_code 16 = .ok (.lcmp, 1) := by decide +kernel
theorem o_d4_17 : decode jdk_35_method_24_code 17 = .ok (.ifCond .gt 14, 3) := by decide +kernel
theorem o_d4_20 : decode jdk_35_method_24_code 20 = .ok (.getstatic 234, 3) := by decide +kernel
theorem o_d4_23 : decode jdk_35_method_24_code 23 = .ok (.lload_n 0, 1) := by decide +kernel
theorem o_d4_24 : decode jdk_35_method_24_code 24 = .ok (.l2i, 1) := by decide +kernel
theorem o_d4_25 : decode jdk_35_method_24_code 25 = .ok (.sipush 128, 3) := by decide +kernel
theorem o_d4_28 : decode jdk_35_method_24_code 28 = .ok (.iadd, 1) := by decide +kernel
theorem o_d4_29 : decode jdk_35_method_24_code 29 = .ok (.aaload, 1) := by decide +kernel
theorem o_d4_30 : decode jdk_35_method_24_code 30 = .ok (.areturn, 1) := by decide +kernel
set_option maxRecDepth 65536 in
set_option maxHeartbeats 40000000 in
theorem rmValueOf (l : Launch) (Z : State) (a0 : Array Value) (hw : ∀ d ∈ tables_1, d.before a0 Z = true) (ws : List Jvm.Cond) (q1 : Int64) (wl : Addr) (cl : Cell) (h0 : Heap) (n0 : Nat) (O0 : Old Z n0 h0) (LS : Sta Z Z.heap "java/lang/Long$LongCache" "cache" "[Ljava/lang/Long;" (.ref wl)) (LB : Bxs Z wl cl "java/lang/Long" "J" 256 (fun j => .long (j - 128).toInt64)) :
    Ct l Z (⟨"java/lang/Long", "valueOf", "(J)Ljava/lang/Long;"⟩ : MethodName) jdk_35_method_24_code 3 (some (.object "java/lang/Long")) ({ frames := 3, cells := 1, slots := 1, locals := 39 } : Room) ws #[(.long q1)] h0 (fun v h L => ∃ b, v = some (.ref b) ∧ Fr n0 L ∧ Ext h0 h ∧ Exa Z h b "java/lang/Long" ∧ Fld Z h b "java/lang/Long" "value" "J" (.long q1)) := by
  refine o_body (plainFor_of_name o_pn_java_lang_Long) ?_
  intro p e s m below meth c s₁ X0 hx hby hml hret hlk hown hnm hZ e0
  have N0 := Fr.nil n0
  refine o_top (g' := (mkF m 0 #[.val (.long q1), .second, .unset] [])) (by first | (simp [entryFrame, mkF, argsToLocals, Value.category]; done) | rfl) ?_
  refine o_sipush (pc := 0) X0 hx (128 : Int32) (hb hby o_d4_0) rfl ?_
  refine o_istoreN (l' := #[.val (.long q1), .second, .val (.int (128 : Int32))]) (pc := 3) X0 hx (hb hby o_d4_3) rfl ?_
  refine o_lloadN (v := q1) (pc := 4) X0 hx (hb hby o_d4_4) rfl ?_
  refine o_ldc2J (pc := 5) X0 hx hZ hown (hw _ (List.mem_of_getElem? (i := 31) rfl)) (hb hby o_d4_5) ?_
  refine o_lcmp (pc := 8) X0 hx (hb hby o_d4_8) ?_
  by_cases hc5 : (lcmpW q1 (-128 : Int64)) < (0 : Int32)
  · skip
    refine o_ifYes (pc := 9) X0 hx 31 (hb hby o_d4_9) ((if0 _ _).trans (tlt hc5).1) (by decide) (by decide) ?_
    refine o_new (pc := 31) X0 hx hZ hown (hw _ (List.mem_of_getElem? (i := 32) rfl)) (hw _ (List.mem_of_getElem? (i := 33) rfl)) (hw _ (List.mem_of_getElem? (i := 29) rfl)) e0 (hb hby o_d4_31) (by decide) (by decide) fun T6 h6 b6 X6 e6 g6 E6 A6 D6 U6 => ?_
    have O7 := O0.ext E6
    have K7 : Keep h0 h6 [] := (Keep.refl h0 []).ext E6
    have F6_value : Fld Z h6 b6 "java/lang/Long" "value" "J" (.long (0 : Int64)) := D6 (Or.inr (hw _ (List.mem_of_getElem? (i := 46) rfl))) (ty := .long) (by decide)
    refine o_dup (pc := 34) X6 hx (hb hby o_d4_34) rfl ?_
    refine o_lloadN (v := q1) (pc := 35) X6 hx (hb hby o_d4_35) rfl ?_
    refine o_callN (pc := 36) X6 hx hZ (y := (⟨"java/lang/Long", "<init>", "(J)V"⟩ : MethodName)) (a := b6) (argsL := [(.long q1)]) (rest := [(.ref b6)]) rfl hown (hw _ (List.mem_of_getElem? (i := 34) rfl)) (hw _ (List.mem_of_getElem? (i := 35) rfl)) (hw _ (List.mem_of_getElem? (i := 29) rfl)) (hw _ (List.mem_of_getElem? (i := 37) rfl)) (by decide) (rmLong l Z a0 hw [] b6 q1 h6 n0 O7 A6 F6_value (Nat.le_trans (o_n0 O0) g6)) e6 (by rw [hml]; rfl) (lenOf o_pd1 rfl) (has := rfl) (hst := rfl) (W := 1) (Nat.le_of_ble_eq_true rfl) (hb hby o_d4_36) (by decide) (by decide) (by decide) (by decide) fun v8 T8 h8 L8 X8 e8 q8 => ?_
    obtain ⟨rfl, N8q, Kc8, Fn8_0⟩ := q8
    have N8 := Fr.app N0 N8q
    have O9 := O7.keep Kc8 (allS (Nat.le_trans (o_n0 O0) g6) all0)
    have K9 : Keep h0 h8 [] := K7.trans Kc8 (allS (Or.inr (Nat.le_trans (Keep.refl h0 []).1 g6)) all0)
    show Go p e below T8 (mkF m 39 #[.val (.long q1), .second, .val (.int (128 : Int32))] [(.ref b6)]) _
    exact o_retA (pc := 39) X8 hx hret hlk rfl rfl (hb hby o_d4_39) e8 (by decide) (by decide) ⟨b6, rfl, N8, o_keep0 K9, (A6.keep Kc8), Fn8_0⟩
  · skip
    refine o_ifNo (pc := 9) X0 hx (hb hby o_d4_9) ((if0 _ _).trans (flt hc5).1) ?_
    refine o_lloadN (v := q1) (pc := 12) X0 hx (hb hby o_d4_12) rfl ?_
    refine o_ldc2J (pc := 13) X0 hx hZ hown (hw _ (List.mem_of_getElem? (i := 52) rfl)) (hb hby o_d4_13) ?_
    refine o_lcmp (pc := 16) X0 hx (hb hby o_d4_16) ?_
    by_cases hc10 : (0 : Int32) < (lcmpW q1 (127 : Int64))
    · skip
      refine o_ifYes (pc := 17) X0 hx 31 (hb hby o_d4_17) ((if0 _ _).trans (tlt hc10).2.2.1) (by decide) (by decide) ?_
      refine o_new (pc := 31) X0 hx hZ hown (hw _ (List.mem_of_getElem? (i := 32) rfl)) (hw _ (List.mem_of_getElem? (i := 33) rfl)) (hw _ (List.mem_of_getElem? (i := 29) rfl)) e0 (hb hby o_d4_31) (by decide) (by decide) fun T11 h11 b11 X11 e11 g11 E11 A11 D11 U11 => ?_
      have O12 := O0.ext E11
      have K12 : Keep h0 h11 [] := (Keep.refl h0 []).ext E11
      have F11_value : Fld Z h11 b11 "java/lang/Long" "value" "J" (.long (0 : Int64)) := D11 (Or.inr (hw _ (List.mem_of_getElem? (i := 46) rfl))) (ty := .long) (by decide)
      refine o_dup (pc := 34) X11 hx (hb hby o_d4_34) rfl ?_
      refine o_lloadN (v := q1) (pc := 35) X11 hx (hb hby o_d4_35) rfl ?_
      refine o_callN (pc := 36) X11 hx hZ (y := (⟨"java/lang/Long", "<init>", "(J)V"⟩ : MethodName)) (a := b11) (argsL := [(.long q1)]) (rest := [(.ref b11)]) rfl hown (hw _ (List.mem_of_getElem? (i := 34) rfl)) (hw _ (List.mem_of_getElem? (i := 35) rfl)) (hw _ (List.mem_of_getElem? (i := 29) rfl)) (hw _ (List.mem_of_getElem? (i := 37) rfl)) (by decide) (rmLong l Z a0 hw [] b11 q1 h11 n0 O12 A11 F11_value (Nat.le_trans (o_n0 O0) g11)) e11 (by rw [hml]; rfl) (lenOf o_pd1 rfl) (has := rfl) (hst := rfl) (W := 1) (Nat.le_of_ble_eq_true rfl) (hb hby o_d4_36) (by decide) (by decide) (by decide) (by decide) fun v13 T13 h13 L13 X13 e13 q13 => ?_
      obtain ⟨rfl, N13q, Kc13, Fn13_0⟩ := q13
      have N13 := Fr.app N0 N13q
      have O14 := O12.keep Kc13 (allS (Nat.le_trans (o_n0 O0) g11) all0)
      have K14 : Keep h0 h13 [] := K12.trans Kc13 (allS (Or.inr (Nat.le_trans (Keep.refl h0 []).1 g11)) all0)
      show Go p e below T13 (mkF m 39 #[.val (.long q1), .second, .val (.int (128 : Int32))] [(.ref b11)]) _
      exact o_retA (pc := 39) X13 hx hret hlk rfl rfl (hb hby o_d4_39) e13 (by decide) (by decide) ⟨b11, rfl, N13, o_keep0 K14, (A11.keep Kc13), Fn13_0⟩
    · skip
      refine o_ifNo (pc := 17) X0 hx (hb hby o_d4_17) ((if0 _ _).trans (flt hc10).2.2.1) ?_
      refine o_getS (pc := 20) X0 hx hZ hown (host := "") (Or.inl (hw _ (List.mem_of_getElem? (i := 53) rfl))) Via.refl e0 (LS.ext O0.2) (hb hby o_d4_20) fun T15 X15 e15 => ?_
      refine o_lloadN (v := q1) (pc := 23) X15 hx (hb hby o_d4_23) rfl ?_
      refine o_l2i (pc := 24) X15 hx (hb hby o_d4_24) ?_
      refine o_sipush (pc := 25) X15 hx (128 : Int32) (hb hby o_d4_25) rfl ?_
      refine o_iadd (pc := 28) X15 hx (hb hby o_d4_28) ?_
      have lc16 := lc_in LB.2.1 hc5 hc10
      obtain ⟨b16, hb16, Eb16, Fb16⟩ := LB.2.2.2 _ lc16.1
      dsimp only at Fb16
      rw [lc16.2] at Fb16
      refine o_aaloadA (pc := 29) X15 hx hZ e15 (LB.ext O0.2).1 rfl lc16.1 hb16 (hb hby o_d4_29) ?_
      exact o_retA (pc := 30) X15 hx hret hlk rfl rfl (hb hby o_d4_30) e15 (by decide) (by decide) ⟨b16, rfl, N0, o_keep0 (Keep.refl h0 []), (Eb16.ext O0.2), (Fb16.ext O0.2)⟩
theorem o_pn_com_example_isolation_anomaly_finder_isolationanomalyfinder_Transaction_Read : plainName "com/example/isolation_anomaly_finder/isolationanomalyfinder/Transaction$Read" = true := by first | (simp [plainName, overriddenIn]; done) | decide +kernel
theorem o_d1_0 : decode prog_56_method_1_code 0 = .ok (.aload_n 0, 1) := by decide +kernel
theorem o_d1_1 : decode prog_56_method_1_code 1 = .ok (.invokespecial 1, 3) := by decide +kernel
theorem o_d1_4 : decode prog_56_method_1_code 4 = .ok (.aload_n 0, 1) := by decide +kernel
theorem o_d1_5 : decode prog_56_method_1_code 5 = .ok (.aload_n 1, 1) := by decide +kernel
theorem o_d1_6 : decode prog_56_method_1_code 6 = .ok (.putfield 7, 3) := by decide +kernel
theorem o_d1_9 : decode prog_56_method_1_code 9 = .ok (.aload_n 0, 1) := by decide +kernel
theorem o_d1_10 : decode prog_56_method_1_code 10 = .ok (.aload_n 2, 1) := by decide +kernel
theorem o_d1_11 : decode prog_56_method_1_code 11 = .ok (.putfield 13, 3) := by decide +kernel
theorem o_d1_14 : decode prog_56_method_1_code 14 = .ok (.return_, 1) := by decide +kernel
set_option maxRecDepth 65536 in
set_option maxHeartbeats 40000000 in
theorem rm1 (l : Launch) (Z : State) (a0 : Array Value) (hw : ∀ d ∈ tables_1, d.before a0 Z = true) (ws : List Jvm.Cond) (a1 : Addr) (a2 a3 : Addr) (h0 : Heap) (n0 : Nat) (O0 : Old Z n0 h0) (E1 : Exa Z h0 a1 "com/example/isolation_anomaly_finder/isolationanomalyfinder/Transaction$Read") (G0 : Fld Z h0 a1 "com/example/isolation_anomaly_finder/isolationanomalyfinder/Transaction$Read" "key" "Ljava/lang/String;" .null) (G1 : Fld Z h0 a1 "com/example/isolation_anomaly_finder/isolationanomalyfinder/Transaction$Read" "values" "[J" .null) (g1 : n0 ≤ a1) :
    Ct l Z (⟨"com/example/isolation_anomaly_finder/isolationanomalyfinder/Transaction$Read", "<init>", "(Ljava/lang/String;[J)V"⟩ : MethodName) prog_56_method_1_code 3 none ({ frames := 1, cells := 0, slots := 0, locals := 12 } : Room) ws #[(.ref a1), (.ref a2), (.ref a3)] h0 (fun v h L => v = none ∧ Fr n0 L ∧ Keep h0 h [a1] ∧ Fld Z h a1 "com/example/isolation_anomaly_finder/isolationanomalyfinder/Transaction$Read" "key" "Ljava/lang/String;" (.ref a2) ∧ Fld Z h a1 "com/example/isolation_anomaly_finder/isolationanomalyfinder/Transaction$Read" "values" "[J" (.ref a3)) := by
  refine o_body (plainFor_of_name o_pn_com_example_isolation_anomaly_finder_isolationanomalyfinder_Transaction_Read) ?_
  intro p e s m below meth c s₁ X0 hx hby hml hret hlk hown hnm hZ e0
  have N0 := Fr.nil n0
  refine o_top (g' := (mkF m 0 #[.val (.ref a1), .val (.ref a2), .val (.ref a3)] [])) (by first | (simp [entryFrame, mkF, argsToLocals, Value.category]; done) | rfl) ?_
  refine o_aloadN (v := (.ref a1)) (pc := 0) X0 hx (hb hby o_d1_0) rfl rfl ?_
  refine o_initO (pc := 1) X0 hx hZ hown (hw _ (List.mem_of_getElem? (i := 15) rfl)) (hw _ (List.mem_of_getElem? (i := 16) rfl)) (hw _ (List.mem_of_getElem? (i := 17) rfl)) e0 (by rw [hml]; rfl) (hb hby o_d1_1) (by decide) (W := 0) (Nat.le_of_ble_eq_true rfl) (by decide) fun T17 X17 e17 => ?_
  refine o_aloadN (v := (.ref a1)) (pc := 4) X17 hx (hb hby o_d1_4) rfl rfl ?_
  refine o_aloadN (v := (.ref a2)) (pc := 5) X17 hx (hb hby o_d1_5) rfl rfl ?_
  refine o_putF (pc := 6) X17 hx hZ hown (host := "") (Or.inl (hw _ (List.mem_of_getElem? (i := 18) rfl))) Via.refl e17 G0 E1 (Or.inr ⟨(hw _ (List.mem_of_getElem? (i := 19) rfl)), rfl, hnm⟩) (hw _ (List.mem_of_getElem? (i := 2) rfl)) (ty := (.object "java/lang/String")) (by decide) rfl rfl (hb hby o_d1_6) fun T18 h18 X18 e18 W18 => ?_
  have F18 := Fld.same W18 G0
  have N18 := Fr.snoc X18 N0 g1
  have O19 := O0.wr W18 g1
  have K19 : Keep h0 h18 [a1] := (Keep.refl h0 [a1]).wr W18 (Or.inl (List.mem_of_getElem? (i := 0) rfl))
  refine o_aloadN (v := (.ref a1)) (pc := 9) X18 hx (hb hby o_d1_9) rfl rfl ?_
  refine o_aloadN (v := (.ref a3)) (pc := 10) X18 hx (hb hby o_d1_10) rfl rfl ?_
  refine o_putF (pc := 11) X18 hx hZ hown (host := "") (Or.inl (hw _ (List.mem_of_getElem? (i := 20) rfl))) Via.refl e18 (G1.other W18 (Or.inr (slot_ne (C := "com/example/isolation_anomaly_finder/isolationanomalyfinder/Transaction$Read") (Or.inr (hw _ (List.mem_of_getElem? (i := 21) rfl))) (Or.inr (hw _ (List.mem_of_getElem? (i := 19) rfl))) (by decide) (t := (.array .long)) (t' := (.object "java/lang/String")) (by decide) (by decide)))) (E1.wr W18) (Or.inr ⟨(hw _ (List.mem_of_getElem? (i := 21) rfl)), rfl, hnm⟩) (hw _ (List.mem_of_getElem? (i := 2) rfl)) (ty := (.array .long)) (by decide) rfl rfl (hb hby o_d1_11) fun T20 h20 X20 e20 W20 => ?_
  have F20 := Fld.same W20 (G1.other W18 (Or.inr (slot_ne (C := "com/example/isolation_anomaly_finder/isolationanomalyfinder/Transaction$Read") (Or.inr (hw _ (List.mem_of_getElem? (i := 21) rfl))) (Or.inr (hw _ (List.mem_of_getElem? (i := 19) rfl))) (by decide) (t := (.array .long)) (t' := (.object "java/lang/String")) (by decide) (by decide))))
  have N20 := Fr.snoc X20 N18 g1
  have O21 := O19.wr W20 g1
  have K21 : Keep h0 h20 [a1] := K19.wr W20 (Or.inl (List.mem_of_getElem? (i := 0) rfl))
  exact o_ret0 (pc := 14) X20 hx hret hlk (hb hby o_d1_14) e20 (by decide) (by decide) ⟨rfl, N20, K21, (F18.other W20 (Or.inr (slot_ne (C := "com/example/isolation_anomaly_finder/isolationanomalyfinder/Transaction$Read") (Or.inr (hw _ (List.mem_of_getElem? (i := 19) rfl))) (Or.inr (hw _ (List.mem_of_getElem? (i := 21) rfl))) (by decide) (t := (.object "java/lang/String")) (t' := (.array .long)) (by decide) (by decide)))), F20⟩
theorem o_d3_0 : decode prog_56_method_5_code 0 = .ok (.aload_n 0, 1) := by decide +kernel
theorem o_d3_1 : decode prog_56_method_5_code 1 = .ok (.getfield 13, 3) := by decide +kernel
theorem o_d3_4 : decode prog_56_method_5_code 4 = .ok (.arraylength, 1) := by decide +kernel
theorem o_d3_5 : decode prog_56_method_5_code 5 = .ok (.ifCond .ne 7, 3) := by decide +kernel
theorem o_d3_8 : decode prog_56_method_5_code 8 = .ok (.aconst_null, 1) := by decide +kernel
theorem o_d3_9 : decode prog_56_method_5_code 9 = .ok (.goto 18, 3) := by decide +kernel
theorem o_d3_27 : decode prog_56_method_5_code 27 = .ok (.areturn, 1) := by decide +kernel
set_option maxRecDepth 65536 in
set_option maxHeartbeats 40000000 in
theorem rm3_0 (l : Launch) (Z : State) (a0 : Array Value) (hw : ∀ d ∈ tables_1, d.before a0 Z = true) (ws : List Jvm.Cond) (a1 av : Addr) (ka : ClassId) (wl : Addr) (cl : Cell) (h0 : Heap) (n0 : Nat) (O0 : Old Z n0 h0) (LS : Sta Z Z.heap "java/lang/Long$LongCache" "cache" "[Ljava/lang/Long;" (.ref wl)) (LB : Bxs Z wl cl "java/lang/Long" "J" 256 (fun j => .long (j - 128).toInt64)) (F : Fld Z h0 a1 "com/example/isolation_anomaly_finder/isolationanomalyfinder/Transaction$Read" "values" "[J" (.ref av)) (VA : Arv Z h0 av ka .long (0 : Int32) [] (.long (0 : Int64))) :
    Ct l Z (⟨"com/example/isolation_anomaly_finder/isolationanomalyfinder/Transaction$Read", "last", "()Ljava/lang/Long;"⟩ : MethodName) prog_56_method_5_code 1 (some (.object "java/lang/Long")) ({ frames := 0, cells := 0, slots := 0, locals := 0 } : Room) ws #[(.ref a1)] h0 (fun v h L => v = some .null ∧ Fr n0 L ∧ Ext h0 h) := by
  refine o_body (plainFor_of_name o_pn_com_example_isolation_anomaly_finder_isolationanomalyfinder_Transaction_Read) ?_
  intro p e s m below meth c s₁ X0 hx hby hml hret hlk hown hnm hZ e0
  have N0 := Fr.nil n0
  refine o_top (g' := (mkF m 0 #[.val (.ref a1)] [])) (by first | (simp [entryFrame, mkF, argsToLocals, Value.category]; done) | rfl) ?_
  refine o_aloadN (v := (.ref a1)) (pc := 0) X0 hx (hb hby o_d3_0) rfl rfl ?_
  refine o_getF (pc := 1) X0 hx hZ hown (host := "") (Or.inl (hw _ (List.mem_of_getElem? (i := 20) rfl))) Via.refl e0 F (hb hby o_d3_1) fun T22 X22 e22 => ?_
  refine o_arraylength (pc := 4) X22 hx hZ e22 VA (hb hby o_d3_4) ?_
  refine o_ifNo (pc := 5) X22 hx (hb hby o_d3_5) ((if0 _ _).trans (teq (by decide : (0 : Int32) = (0 : Int32))).2) ?_
  refine o_aconst_null (pc := 8) X22 hx (hb hby o_d3_8) ?_
  refine o_goto (pc := 9) X22 hx 27 (hb hby o_d3_9) (by decide) (by decide) ?_
  exact o_retA (pc := 27) X22 hx hret hlk rfl rfl (hb hby o_d3_27) e22 (by decide) (by decide) ⟨rfl, N0, o_keep0 (Keep.refl h0 [])⟩
theorem o_d3_12 : decode prog_56_method_5_code 12 = .ok (.aload_n 0, 1) := by decide +kernel
theorem o_d3_13 : decode prog_56_method_5_code 13 = .ok (.getfield 13, 3) := by decide +kernel
theorem o_d3_16 : decode prog_56_method_5_code 16 = .ok (.aload_n 0, 1) := by decide +kernel
theorem o_d3_17 : decode prog_56_method_5_code 17 = .ok (.getfield 13, 3) := by decide +kernel
theorem o_d3_20 : decode prog_56_method_5_code 20 = .ok (.arraylength, 1) := by decide +kernel
theorem o_d3_21 : decode prog_56_method_5_code 21 = .ok (.iconst 1, 1) := by decide +kernel
theorem o_d3_22 : decode prog_56_method_5_code 22 = .ok (.isub, 1) := by decide +kernel
theorem o_d3_23 : decode prog_56_method_5_code 23 = .ok (.laload, 1) := by decide +kernel
theorem o_d3_24 : decode prog_56_method_5_code 24 = .ok (.invokestatic 17, 3) := by decide +kernel
theorem o_pd2 : parseMethodDescriptor "(J)Ljava/lang/Long;" = some ⟨[.long], some (.object "java/lang/Long")⟩ := by decide +kernel
set_option maxRecDepth 65536 in
set_option maxHeartbeats 40000000 in
theorem rm3_1 (l : Launch) (Z : State) (a0 : Array Value) (hw : ∀ d ∈ tables_1, d.before a0 Z = true) (ws : List Jvm.Cond) (a1 av : Addr) (ka : ClassId) (x1 : Int64) (wl : Addr) (cl : Cell) (h0 : Heap) (n0 : Nat) (O0 : Old Z n0 h0) (LS : Sta Z Z.heap "java/lang/Long$LongCache" "cache" "[Ljava/lang/Long;" (.ref wl)) (LB : Bxs Z wl cl "java/lang/Long" "J" 256 (fun j => .long (j - 128).toInt64)) (F : Fld Z h0 a1 "com/example/isolation_anomaly_finder/isolationanomalyfinder/Transaction$Read" "values" "[J" (.ref av)) (VA : Arv Z h0 av ka .long (1 : Int32) [(.long x1)] (.long (0 : Int64))) :
    Ct l Z (⟨"com/example/isolation_anomaly_finder/isolationanomalyfinder/Transaction$Read", "last", "()Ljava/lang/Long;"⟩ : MethodName) prog_56_method_5_code 1 (some (.object "java/lang/Long")) ({ frames := 4, cells := 1, slots := 1, locals := 53 } : Room) ws #[(.ref a1)] h0 (fun v h L => ∃ b, v = some (.ref b) ∧ Fr n0 L ∧ Ext h0 h ∧ Exa Z h b "java/lang/Long" ∧ Fld Z h b "java/lang/Long" "value" "J" (.long x1)) := by
  refine o_body (plainFor_of_name o_pn_com_example_isolation_anomaly_finder_isolationanomalyfinder_Transaction_Read) ?_
  intro p e s m below meth c s₁ X0 hx hby hml hret hlk hown hnm hZ e0
  have N0 := Fr.nil n0
  refine o_top (g' := (mkF m 0 #[.val (.ref a1)] [])) (by first | (simp [entryFrame, mkF, argsToLocals, Value.category]; done) | rfl) ?_
  refine o_aloadN (v := (.ref a1)) (pc := 0) X0 hx (hb hby o_d3_0) rfl rfl ?_
  refine o_getF (pc := 1) X0 hx hZ hown (host := "") (Or.inl (hw _ (List.mem_of_getElem? (i := 20) rfl))) Via.refl e0 F (hb hby o_d3_1) fun T23 X23 e23 => ?_
  refine o_arraylength (pc := 4) X23 hx hZ e23 VA (hb hby o_d3_4) ?_
  refine o_ifYes (pc := 5) X23 hx 12 (hb hby o_d3_5) ((if0 _ _).trans (feq (by decide : ¬ ((1 : Int32) = (0 : Int32)))).2) (by decide) (by decide) ?_
  refine o_aloadN (v := (.ref a1)) (pc := 12) X23 hx (hb hby o_d3_12) rfl rfl ?_
  refine o_getF (pc := 13) X23 hx hZ hown (host := "") (Or.inl (hw _ (List.mem_of_getElem? (i := 20) rfl))) Via.refl e23 F (hb hby o_d3_13) fun T24 X24 e24 => ?_
  refine o_aloadN (v := (.ref a1)) (pc := 16) X24 hx (hb hby o_d3_16) rfl rfl ?_
  refine o_getF (pc := 17) X24 hx hZ hown (host := "") (Or.inl (hw _ (List.mem_of_getElem? (i := 20) rfl))) Via.refl e24 F (hb hby o_d3_17) fun T25 X25 e25 => ?_
  refine o_arraylength (pc := 20) X25 hx hZ e25 VA (hb hby o_d3_20) ?_
  refine o_iconst (pc := 21) X25 hx (1 : Int32) (hb hby o_d3_21) rfl ?_
  refine o_isub (pc := 22) X25 hx (hb hby o_d3_22) ?_
  rw [show ((1 : Int32) - (1 : Int32)) = (0 : Int32) from rfl]
  refine o_laload (v := (.long x1)) (pc := 23) X25 hx hZ e25 VA ⟨by decide, by decide⟩ rfl (hb hby o_d3_23) ?_
  refine o_callS (pc := 24) X25 hx hZ (y := (⟨"java/lang/Long", "valueOf", "(J)Ljava/lang/Long;"⟩ : MethodName)) (argsL := [(.long x1)]) (rest := []) hown (hw _ (List.mem_of_getElem? (i := 27) rfl)) (hw _ (List.mem_of_getElem? (i := 28) rfl)) (hw _ (List.mem_of_getElem? (i := 29) rfl)) (hw _ (List.mem_of_getElem? (i := 30) rfl)) (by decide) (rmValueOf l Z a0 hw [] x1 wl cl h0 n0 O0 LS LB) e25 (by rw [hml]; rfl) (lenOf o_pd2 rfl) (has := rfl) (hst := rfl) (W := 0) (Nat.le_of_ble_eq_true rfl) (hb hby o_d3_24) (by decide) (by decide) (by decide) (by decide) fun v26 T26 h26 L26 X26 e26 q26 => ?_
  obtain ⟨b26, rfl, N26q, E26, Ex26, Fx26⟩ := q26
  have N26 := Fr.app N0 N26q
  have O27 := O0.ext E26
  have K27 : Keep h0 h26 [] := (Keep.refl h0 []).ext E26
  show Go p e below T26 (mkF m 27 #[.val (.ref a1)] [(.ref b26)]) _
  exact o_retA (pc := 27) X26 hx hret hlk rfl rfl (hb hby o_d3_27) e26 (by decide) (by decide) ⟨b26, rfl, N26, o_keep0 K27, Ex26, Fx26⟩
set_option maxRecDepth 65536 in
set_option maxHeartbeats 40000000 in
theorem rm3_2 (l : Launch) (Z : State) (a0 : Array Value) (hw : ∀ d ∈ tables_1, d.before a0 Z = true) (ws : List Jvm.Cond) (a1 av : Addr) (ka : ClassId) (x1 x2 : Int64) (wl : Addr) (cl : Cell) (h0 : Heap) (n0 : Nat) (O0 : Old Z n0 h0) (LS : Sta Z Z.heap "java/lang/Long$LongCache" "cache" "[Ljava/lang/Long;" (.ref wl)) (LB : Bxs Z wl cl "java/lang/Long" "J" 256 (fun j => .long (j - 128).toInt64)) (F : Fld Z h0 a1 "com/example/isolation_anomaly_finder/isolationanomalyfinder/Transaction$Read" "values" "[J" (.ref av)) (VA : Arv Z h0 av ka .long (2 : Int32) [(.long x1), (.long x2)] (.long (0 : Int64))) :
    Ct l Z (⟨"com/example/isolation_anomaly_finder/isolationanomalyfinder/Transaction$Read", "last", "()Ljava/lang/Long;"⟩ : MethodName) prog_56_method_5_code 1 (some (.object "java/lang/Long")) ({ frames := 4, cells := 1, slots := 1, locals := 53 } : Room) ws #[(.ref a1)] h0 (fun v h L => ∃ b, v = some (.ref b) ∧ Fr n0 L ∧ Ext h0 h ∧ Exa Z h b "java/lang/Long" ∧ Fld Z h b "java/lang/Long" "value" "J" (.long x2)) := by
  refine o_body (plainFor_of_name o_pn_com_example_isolation_anomaly_finder_isolationanomalyfinder_Transaction_Read) ?_
  intro p e s m below meth c s₁ X0 hx hby hml hret hlk hown hnm hZ e0
  have N0 := Fr.nil n0
  refine o_top (g' := (mkF m 0 #[.val (.ref a1)] [])) (by first | (simp [entryFrame, mkF, argsToLocals, Value.category]; done) | rfl) ?_
  refine o_aloadN (v := (.ref a1)) (pc := 0) X0 hx (hb hby o_d3_0) rfl rfl ?_
  refine o_getF (pc := 1) X0 hx hZ hown (host := "") (Or.inl (hw _ (List.mem_of_getElem? (i := 20) rfl))) Via.refl e0 F (hb hby o_d3_1) fun T28 X28 e28 => ?_
  refine o_arraylength (pc := 4) X28 hx hZ e28 VA (hb hby o_d3_4) ?_
  refine o_ifYes (pc := 5) X28 hx 12 (hb hby o_d3_5) ((if0 _ _).trans (feq (by decide : ¬ ((2 : Int32) = (0 : Int32)))).2) (by decide) (by decide) ?_
  refine o_aloadN (v := (.ref a1)) (pc := 12) X28 hx (hb hby o_d3_12) rfl rfl ?_
  refine o_getF (pc := 13) X28 hx hZ hown (host := "") (Or.inl (hw _ (List.mem_of_getElem? (i := 20) rfl))) Via.refl e28 F (hb hby o_d3_13) fun T29 X29 e29 => ?_
  refine o_aloadN (v := (.ref a1)) (pc := 16) X29 hx (hb hby o_d3_16) rfl rfl ?_
  refine o_getF (pc := 17) X29 hx hZ hown (host := "") (Or.inl (hw _ (List.mem_of_getElem? (i := 20) rfl))) Via.refl e29 F (hb hby o_d3_17) fun T30 X30 e30 => ?_
  refine o_arraylength (pc := 20) X30 hx hZ e30 VA (hb hby o_d3_20) ?_
  refine o_iconst (pc := 21) X30 hx (1 : Int32) (hb hby o_d3_21) rfl ?_
  refine o_isub (pc := 22) X30 hx (hb hby o_d3_22) ?_
  rw [show ((2 : Int32) - (1 : Int32)) = (1 : Int32) from rfl]
  refine o_laload (v := (.long x2)) (pc := 23) X30 hx hZ e30 VA ⟨by decide, by decide⟩ rfl (hb hby o_d3_23) ?_
  refine o_callS (pc := 24) X30 hx hZ (y := (⟨"java/lang/Long", "valueOf", "(J)Ljava/lang/Long;"⟩ : MethodName)) (argsL := [(.long x2)]) (rest := []) hown (hw _ (List.mem_of_getElem? (i := 27) rfl)) (hw _ (List.mem_of_getElem? (i := 28) rfl)) (hw _ (List.mem_of_getElem? (i := 29) rfl)) (hw _ (List.mem_of_getElem? (i := 30) rfl)) (by decide) (rmValueOf l Z a0 hw [] x2 wl cl h0 n0 O0 LS LB) e30 (by rw [hml]; rfl) (lenOf o_pd2 rfl) (has := rfl) (hst := rfl) (W := 0) (Nat.le_of_ble_eq_true rfl) (hb hby o_d3_24) (by decide) (by decide) (by decide) (by decide) fun v31 T31 h31 L31 X31 e31 q31 => ?_
  obtain ⟨b31, rfl, N31q, E31, Ex31, Fx31⟩ := q31
  have N31 := Fr.app N0 N31q
  have O32 := O0.ext E31
  have K32 : Keep h0 h31 [] := (Keep.refl h0 []).ext E31
  show Go p e below T31 (mkF m 27 #[.val (.ref a1)] [(.ref b31)]) _
  exact o_retA (pc := 27) X31 hx hret hlk rfl rfl (hb hby o_d3_27) e31 (by decide) (by decide) ⟨b31, rfl, N31, o_keep0 K32, Ex31, Fx31⟩
set_option maxRecDepth 65536 in
set_option maxHeartbeats 40000000 in
theorem rm3_3 (l : Launch) (Z : State) (a0 : Array Value) (hw : ∀ d ∈ tables_1, d.before a0 Z = true) (ws : List Jvm.Cond) (a1 av : Addr) (ka : ClassId) (x1 x2 x3 : Int64) (wl : Addr) (cl : Cell) (h0 : Heap) (n0 : Nat) (O0 : Old Z n0 h0) (LS : Sta Z Z.heap "java/lang/Long$LongCache" "cache" "[Ljava/lang/Long;" (.ref wl)) (LB : Bxs Z wl cl "java/lang/Long" "J" 256 (fun j => .long (j - 128).toInt64)) (F : Fld Z h0 a1 "com/example/isolation_anomaly_finder/isolationanomalyfinder/Transaction$Read" "values" "[J" (.ref av)) (VA : Arv Z h0 av ka .long (3 : Int32) [(.long x1), (.long x2), (.long x3)] (.long (0 : Int64))) :
    Ct l Z (⟨"com/example/isolation_anomaly_finder/isolationanomalyfinder/Transaction$Read", "last", "()Ljava/lang/Long;"⟩ : MethodName) prog_56_method_5_code 1 (some (.object "java/lang/Long")) ({ frames := 4, cells := 1, slots := 1, locals := 53 } : Room) ws #[(.ref a1)] h0 (fun v h L => ∃ b, v = some (.ref b) ∧ Fr n0 L ∧ Ext h0 h ∧ Exa Z h b "java/lang/Long" ∧ Fld Z h b "java/lang/Long" "value" "J" (.long x3)) := by
  refine o_body (plainFor_of_name o_pn_com_example_isolation_anomaly_finder_isolationanomalyfinder_Transaction_Read) ?_
  intro p e s m below meth c s₁ X0 hx hby hml hret hlk hown hnm hZ e0
  have N0 := Fr.nil n0
  refine o_top (g' := (mkF m 0 #[.val (.ref a1)] [])) (by first | (simp [entryFrame, mkF, argsToLocals, Value.category]; done) | rfl) ?_
  refine o_aloadN (v := (.ref a1)) (pc := 0) X0 hx (hb hby o_d3_0) rfl rfl ?_
  refine o_getF (pc := 1) X0 hx hZ hown (host := "") (Or.inl (hw _ (List.mem_of_getElem? (i := 20) rfl))) Via.refl e0 F (hb hby o_d3_1) fun T33 X33 e33 => ?_
  refine o_arraylength (pc := 4) X33 hx hZ e33 VA (hb hby o_d3_4) ?_
  refine o_ifYes (pc := 5) X33 hx 12 (hb hby o_d3_5) ((if0 _ _).trans (feq (by decide : ¬ ((3 : Int32) = (0 : Int32)))).2) (by decide) (by decide) ?_
  refine o_aloadN (v := (.ref a1)) (pc := 12) X33 hx (hb hby o_d3_12) rfl rfl ?_
  refine o_getF (pc := 13) X33 hx hZ hown (host := "") (Or.inl (hw _ (List.mem_of_getElem? (i := 20) rfl))) Via.refl e33 F (hb hby o_d3_13) fun T34 X34 e34 => ?_
  refine o_aloadN (v := (.ref a1)) (pc := 16) X34 hx (hb hby o_d3_16) rfl rfl ?_
  refine o_getF (pc := 17) X34 hx hZ hown (host := "") (Or.inl (hw _ (List.mem_of_getElem? (i := 20) rfl))) Via.refl e34 F (hb hby o_d3_17) fun T35 X35 e35 => ?_
  refine o_arraylength (pc := 20) X35 hx hZ e35 VA (hb hby o_d3_20) ?_
  refine o_iconst (pc := 21) X35 hx (1 : Int32) (hb hby o_d3_21) rfl ?_
  refine o_isub (pc := 22) X35 hx (hb hby o_d3_22) ?_
  rw [show ((3 : Int32) - (1 : Int32)) = (2 : Int32) from rfl]
  refine o_laload (v := (.long x3)) (pc := 23) X35 hx hZ e35 VA ⟨by decide, by decide⟩ rfl (hb hby o_d3_23) ?_
  refine o_callS (pc := 24) X35 hx hZ (y := (⟨"java/lang/Long", "valueOf", "(J)Ljava/lang/Long;"⟩ : MethodName)) (argsL := [(.long x3)]) (rest := []) hown (hw _ (List.mem_of_getElem? (i := 27) rfl)) (hw _ (List.mem_of_getElem? (i := 28) rfl)) (hw _ (List.mem_of_getElem? (i := 29) rfl)) (hw _ (List.mem_of_getElem? (i := 30) rfl)) (by decide) (rmValueOf l Z a0 hw [] x3 wl cl h0 n0 O0 LS LB) e35 (by rw [hml]; rfl) (lenOf o_pd2 rfl) (has := rfl) (hst := rfl) (W := 0) (Nat.le_of_ble_eq_true rfl) (hb hby o_d3_24) (by decide) (by decide) (by decide) (by decide) fun v36 T36 h36 L36 X36 e36 q36 => ?_
  obtain ⟨b36, rfl, N36q, E36, Ex36, Fx36⟩ := q36
  have N36 := Fr.app N0 N36q
  have O37 := O0.ext E36
  have K37 : Keep h0 h36 [] := (Keep.refl h0 []).ext E36
  show Go p e below T36 (mkF m 27 #[.val (.ref a1)] [(.ref b36)]) _
  exact o_retA (pc := 27) X36 hx hret hlk rfl rfl (hb hby o_d3_27) e36 (by decide) (by decide) ⟨b36, rfl, N36, o_keep0 K37, Ex36, Fx36⟩
theorem o_d7_0 : decode jdk_35_method_31_code 0 = .ok (.aload_n 0, 1) := by decide +kernel
theorem o_d7_1 : decode jdk_35_method_31_code 1 = .ok (.getfield 273, 3) := by decide +kernel
theorem o_d7_4 : decode jdk_35_method_31_code 4 = .ok (.lreturn, 1) := by decide +kernel
set_option maxRecDepth 65536 in
set_option maxHeartbeats 40000000 in
theorem rm7 (l : Launch) (Z : State) (a0 : Array Value) (hw : ∀ d ∈ tables_1, d.before a0 Z = true) (ws : List Jvm.Cond) (a1 : Addr) (k : Int64) (h0 : Heap) (n0 : Nat) (O0 : Old Z n0 h0) (F : Fld Z h0 a1 "java/lang/Long" "value" "J" (.long k)) :
    Ct l Z (⟨"java/lang/Long", "longValue", "()J"⟩ : MethodName) jdk_35_method_31_code 1 (some .long) ({ frames := 0, cells := 0, slots := 0, locals := 0 } : Room) ws #[(.ref a1)] h0 (fun v h L => v = some (.long k) ∧ Fr n0 L ∧ h0 = h) := by
  refine o_body (plainFor_of_name o_pn_java_lang_Long) ?_
  intro p e s m below meth c s₁ X0 hx hby hml hret hlk hown hnm hZ e0
  have N0 := Fr.nil n0
  refine o_top (g' := (mkF m 0 #[.val (.ref a1)] [])) (by first | (simp [entryFrame, mkF, argsToLocals, Value.category]; done) | rfl) ?_
  refine o_aloadN (v := (.ref a1)) (pc := 0) X0 hx (hb hby o_d7_0) rfl rfl ?_
  refine o_getF (pc := 1) X0 hx hZ hown (host := "") (Or.inl (hw _ (List.mem_of_getElem? (i := 45) rfl))) Via.refl e0 F (hb hby o_d7_1) fun T38 X38 e38 => ?_
  exact o_retJ (pc := 4) X38 hx hret hlk (hb hby o_d7_4) e38 (by decide) (by decide) ⟨rfl, N0, rfl⟩
theorem o_pn_com_example_isolation_anomaly_finder_isolationanomalyfinder_ReadLastPinLaw : plainName "com/example/isolation_anomaly_finder/isolationanomalyfinder/ReadLastPinLaw" = true := by first | (simp [plainName, overriddenIn]; done) | decide +kernel
theorem o_wS {Z : State} {a0 : Array Value} (hw : ∀ d ∈ tables_1, d.before a0 Z = true) : ∀ a ∈ Bundle.stringAtoms, a.before a0 Z = true := by
  intro a ha
  simp only [Bundle.stringAtoms, List.mem_cons, List.not_mem_nil, or_false] at ha
  rcases ha with rfl | rfl | rfl | rfl | rfl | rfl | rfl
  · exact (hw _ (List.mem_of_getElem? (i := 5) rfl))
  · exact (hw _ (List.mem_of_getElem? (i := 6) rfl))
  · exact (hw _ (List.mem_of_getElem? (i := 7) rfl))
  · exact (hw _ (List.mem_of_getElem? (i := 8) rfl))
  · exact (hw _ (List.mem_of_getElem? (i := 9) rfl))
  · exact (hw _ (List.mem_of_getElem? (i := 10) rfl))
  · exact (hw _ (List.mem_of_getElem? (i := 11) rfl))
theorem o_pd3 : parseMethodDescriptor "(Ljava/lang/String;[J)V" = some ⟨[(.object "java/lang/String"), (.array .long)], none⟩ := by decide +kernel
theorem o_pd4 : parseMethodDescriptor "()Ljava/lang/Long;" = some ⟨[], some (.object "java/lang/Long")⟩ := by decide +kernel
theorem o_pd5 : parseMethodDescriptor "()J" = some ⟨[], some .long⟩ := by decide +kernel
set_option maxRecDepth 65536 in
set_option maxHeartbeats 40000000 in
theorem rm0 (l : Launch) (Z : State) (a0 : Array Value) (hw : ∀ d ∈ tables_1, d.before a0 Z = true) (ws : List Jvm.Cond) (p1 : Int32) (q2 q3 q4 : Int64) (wl : Addr) (cl : Cell) (h0 : Heap) (n0 : Nat) (O0 : Old Z n0 h0) (LS : Sta Z Z.heap "java/lang/Long$LongCache" "cache" "[Ljava/lang/Long;" (.ref wl)) (LB : Bxs Z wl cl "java/lang/Long" "J" 256 (fun j => .long (j - 128).toInt64)) :
    CtW l Z x code maxLocals ret room_1 ws #[(.int p1), (.long q2), (.long q3), (.long q4)] h0 (fun v h L => v = some (.int 1) ∧ Fr n0 L) := by
  refine o_bodyW (plainFor_of_name o_pn_com_example_isolation_anomaly_finder_isolationanomalyfinder_ReadLastPinLaw) ?_
  intro p e s m below meth c s₁ X0 hx hby hml hret hlk hown hnm hZ e0
  have N0 := Fr.nil n0
  have B0 := Bs.start s h0
  refine o_top (g' := (mkF m 0 #[.val (.int p1), .val (.long q2), .second, .val (.long q3), .second, .val (.long q4), .second, .unset, .unset, .unset, .unset, .unset, .unset] [])) (by first | (simp [entryFrame, mkF, argsToLocals, Value.category, maxLocals]; done) | rfl) ?_
  refine o_iloadN (v := p1) (pc := 0) X0 hx (hb hby at_0) rfl ?_
  refine o_iconst (pc := 1) X0 hx (3 : Int32) (hb hby at_1) rfl ?_
  refine o_iand (pc := 2) X0 hx (hb hby at_2) ?_
  refine o_istore (l' := #[.val (.int p1), .val (.long q2), .second, .val (.long q3), .second, .val (.long q4), .second, .val (.int (p1 &&& (3 : Int32))), .unset, .unset, .unset, .unset, .unset]) (pc := 3) X0 hx (hb hby at_3) rfl ?_
  refine o_iload (v := (p1 &&& (3 : Int32))) (pc := 5) X0 hx (hb hby at_5) rfl ?_
  by_cases hc39 : (p1 &&& (3 : Int32)) = (0 : Int32)
  · skip
    refine o_ifNo (pc := 7) X0 hx (hb hby at_7) ((if0 _ _).trans (teq hc39).2) ?_
    refine o_iconst (pc := 10) X0 hx (0 : Int32) (hb hby at_10) rfl ?_
    refine o_newP (pc := 11) X0 hx hZ (hw _ (List.mem_of_getElem? (i := 0) rfl)) e0 (hb hby at_11) (by decide) 0 (by decide) (by decide) (by decide) (by decide) fun T40 h40 b40 k40 X40 e40 g40 E40 V40 => ?_
    have O41 := O0.ext E40
    have B41 := B0.ext E40
    have V40p : Arv Z h40 b40 k40 .long (0 : Int32) [] (.long (0 : Int64)) := V40.pad (pad_rep [] (.long (0 : Int64)) 0)
    refine o_astore (l' := #[.val (.int p1), .val (.long q2), .second, .val (.long q3), .second, .val (.long q4), .second, .val (.int (p1 &&& (3 : Int32))), .val (.ref b40), .unset, .unset, .unset, .unset]) (pc := 13) X40 hx (hb hby at_13) rfl rfl ?_
    refine o_goto (pc := 15) X40 hx 76 (hb hby at_15) (by decide) (by decide) ?_
    refine o_new (pc := 76) X40 hx hZ hown (hw _ (List.mem_of_getElem? (i := 1) rfl)) (hw _ (List.mem_of_getElem? (i := 2) rfl)) (hw _ (List.mem_of_getElem? (i := 3) rfl)) e40 (hb hby at_76) (by decide) (by decide) fun T42 h42 b42 X42 e42 g42 E42 A42 D42 U42 => ?_
    have O43 := O41.ext E42
    have B43 := B41.ext E42
    have F42_key : Fld Z h42 b42 "com/example/isolation_anomaly_finder/isolationanomalyfinder/Transaction$Read" "key" "Ljava/lang/String;" .null := D42 (Or.inr (hw _ (List.mem_of_getElem? (i := 19) rfl))) (ty := (.object "java/lang/String")) (by decide)
    have F42_values : Fld Z h42 b42 "com/example/isolation_anomaly_finder/isolationanomalyfinder/Transaction$Read" "values" "[J" .null := D42 (Or.inr (hw _ (List.mem_of_getElem? (i := 21) rfl))) (ty := (.array .long)) (by decide)
    refine o_dup (pc := 79) X42 hx (hb hby at_79) rfl ?_
    refine o_ldcS (pc := 80) X42 hx hZ hown (hw _ (List.mem_of_getElem? (i := 4) rfl)) (o_wS hw) e42 B43 (hb hby at_80) 4 (by decide) (by decide) (by decide) (by decide) fun sB44 b44 T44 h44 X44 e44 E44 B44 hZ44 hown44 => ?_
    have O45 := O43.ext E44
    refine o_aload (v := (.ref b40)) (pc := 82) X44 hx (hb hby at_82) rfl rfl ?_
    refine o_callN (pc := 84) X44 hx hZ44 (y := (⟨"com/example/isolation_anomaly_finder/isolationanomalyfinder/Transaction$Read", "<init>", "(Ljava/lang/String;[J)V"⟩ : MethodName)) (a := b42) (argsL := [(.ref b44), (.ref b40)]) (rest := [(.ref b42)]) rfl hown44 (hw _ (List.mem_of_getElem? (i := 12) rfl)) (hw _ (List.mem_of_getElem? (i := 13) rfl)) (hw _ (List.mem_of_getElem? (i := 3) rfl)) (hw _ (List.mem_of_getElem? (i := 14) rfl)) (by decide) (rm1 l Z a0 hw [] b42 b44 b40 h44 n0 O45 (A42.ext E44) (F42_key.ext E44) (F42_values.ext E44) (Nat.le_trans (o_n0 O41) g42)) e44 (by rw [hml]; rfl) (lenOf o_pd3 rfl) (has := rfl) (hst := rfl) (W := 1) (Nat.le_of_ble_eq_true rfl) (hb hby at_84) (by decide) (by decide) (by decide) (by decide) fun v46 T46 h46 L46 X46 e46 q46 => ?_
    obtain ⟨rfl, N46q, Kc46, Fn46_0, Fn46_1⟩ := q46
    have N46 := Fr.app N0 N46q
    have O47 := O45.keep Kc46 (allS (Nat.le_trans (o_n0 O41) g42) all0)
    have B47 := B44.keep Kc46
    show Go p e below T46 (mkF m 87 #[.val (.int p1), .val (.long q2), .second, .val (.long q3), .second, .val (.long q4), .second, .val (.int (p1 &&& (3 : Int32))), .val (.ref b40), .unset, .unset, .unset, .unset] [(.ref b42)]) _
    refine o_astore (l' := #[.val (.int p1), .val (.long q2), .second, .val (.long q3), .second, .val (.long q4), .second, .val (.int (p1 &&& (3 : Int32))), .val (.ref b40), .val (.ref b42), .unset, .unset, .unset]) (pc := 87) X46 hx (hb hby at_87) rfl rfl ?_
    refine o_aload (v := (.ref b42)) (pc := 89) X46 hx (hb hby at_89) rfl rfl ?_
    refine o_callV (pc := 91) X46 hx hZ44 (y := (⟨"com/example/isolation_anomaly_finder/isolationanomalyfinder/Transaction$Read", "last", "()Ljava/lang/Long;"⟩ : MethodName)) (z := (⟨"com/example/isolation_anomaly_finder/isolationanomalyfinder/Transaction$Read", "last", "()Ljava/lang/Long;"⟩ : MethodName)) (C := "com/example/isolation_anomaly_finder/isolationanomalyfinder/Transaction$Read") (a := b42) (argsL := []) (rest := []) hown44 (hw _ (List.mem_of_getElem? (i := 22) rfl)) (hw _ (List.mem_of_getElem? (i := 23) rfl)) (notFace_of_selects (args := #[]) (mvT hZ44 (hw _ (List.mem_of_getElem? (i := 25) rfl)))) (hw _ (List.mem_of_getElem? (i := 25) rfl)) (hw _ (List.mem_of_getElem? (i := 24) rfl)) (hw _ (List.mem_of_getElem? (i := 3) rfl)) (hw _ (List.mem_of_getElem? (i := 26) rfl)) (by decide) (rm3_0 l Z a0 hw [] b42 b40 k40 wl cl h46 n0 O47 LS LB Fn46_1 (((V40p.ext E42).ext E44).keep Kc46 (ninS (Nat.ne_of_lt (Nat.lt_of_lt_of_le V40p.lt g42)) nin0))) e46 ((A42.ext E44).keep Kc46) (by rw [hml]; rfl) (lenOf o_pd4 rfl) (has := rfl) (hst := rfl) (W := 0) (Nat.le_of_ble_eq_true rfl) (hb hby at_91) (by decide) (by decide) (by decide) (by decide) fun v48 T48 h48 L48 X48 e48 q48 => ?_
    obtain ⟨rfl, N48q, E48⟩ := q48
    have N48 := Fr.app N46 N48q
    have O49 := O47.ext E48
    have B49 := B47.ext E48
    show Go p e below T48 (mkF m 94 #[.val (.int p1), .val (.long q2), .second, .val (.long q3), .second, .val (.long q4), .second, .val (.int (p1 &&& (3 : Int32))), .val (.ref b40), .val (.ref b42), .unset, .unset, .unset] [.null]) _
    refine o_astore (l' := #[.val (.int p1), .val (.long q2), .second, .val (.long q3), .second, .val (.long q4), .second, .val (.int (p1 &&& (3 : Int32))), .val (.ref b40), .val (.ref b42), .val .null, .unset, .unset]) (pc := 94) X48 hx (hb hby at_94) rfl rfl ?_
    refine o_iload (v := (p1 &&& (3 : Int32))) (pc := 96) X48 hx (hb hby at_96) rfl ?_
    refine o_ifNo (pc := 98) X48 hx (hb hby at_98) ((if0 _ _).trans (teq hc39).2) ?_
    refine o_aload (v := .null) (pc := 101) X48 hx (hb hby at_101) rfl rfl ?_
    refine o_ifnonnullNo (pc := 103) X48 hx (hb hby at_103) ?_
    refine o_iconst (pc := 106) X48 hx (1 : Int32) (hb hby at_106) rfl ?_
    refine o_goto (pc := 107) X48 hx 111 (hb hby at_107) (by decide) (by decide) ?_
    exact o_retNW (pc := 111) X48 hx B49 .boolean hret hlk (by simp) (hb hby at_111) e48 (by decide) (by decide) ⟨rfl, N48⟩
  · skip
    refine o_ifYes (pc := 7) X0 hx 18 (hb hby at_7) ((if0 _ _).trans (feq hc39).2) (by decide) (by decide) ?_
    refine o_iload (v := (p1 &&& (3 : Int32))) (pc := 18) X0 hx (hb hby at_18) rfl ?_
    refine o_iconst (pc := 20) X0 hx (1 : Int32) (hb hby at_20) rfl ?_
    by_cases hc50 : (p1 &&& (3 : Int32)) = (1 : Int32)
    · skip
      refine o_icmpNo (pc := 21) X0 hx (hb hby at_21) (teq hc50).2 ?_
      refine o_iconst (pc := 24) X0 hx (1 : Int32) (hb hby at_24) rfl ?_
      refine o_newP (pc := 25) X0 hx hZ (hw _ (List.mem_of_getElem? (i := 0) rfl)) e0 (hb hby at_25) (by decide) 1 (by decide) (by decide) (by decide) (by decide) fun T51 h51 b51 k51 X51 e51 g51 E51 V51 => ?_
      have O52 := O0.ext E51
      have B52 := B0.ext E51
      have V51p : Arv Z h51 b51 k51 .long (1 : Int32) [(.long (0 : Int64))] (.long (0 : Int64)) := V51.pad (pad_rep [] (.long (0 : Int64)) 1)
      refine o_dup (pc := 27) X51 hx (hb hby at_27) rfl ?_
      refine o_iconst (pc := 28) X51 hx (0 : Int32) (hb hby at_28) rfl ?_
      refine o_lloadN (v := q2) (pc := 29) X51 hx (hb hby at_29) rfl ?_
      refine o_lastore (pc := 30) X51 hx hZ e51 V51p ⟨by decide, by decide⟩ 0 rfl (Nat.le_of_ble_eq_true rfl) (hb hby at_30) fun T53 h53 X53 e53 W53 V53 => ?_
      have N53 := Fr.snoc X53 N0 (Nat.le_trans (o_n0 O0) g51)
      have O54 := O52.wr W53 (Nat.le_trans (o_n0 O0) g51)
      have B54 := B52.wr W53
      refine o_astore (l' := #[.val (.int p1), .val (.long q2), .second, .val (.long q3), .second, .val (.long q4), .second, .val (.int (p1 &&& (3 : Int32))), .val (.ref b51), .unset, .unset, .unset, .unset]) (pc := 31) X53 hx (hb hby at_31) rfl rfl ?_
      refine o_goto (pc := 33) X53 hx 76 (hb hby at_33) (by decide) (by decide) ?_
      refine o_new (pc := 76) X53 hx hZ hown (hw _ (List.mem_of_getElem? (i := 1) rfl)) (hw _ (List.mem_of_getElem? (i := 2) rfl)) (hw _ (List.mem_of_getElem? (i := 3) rfl)) e53 (hb hby at_76) (by decide) (by decide) fun T55 h55 b55 X55 e55 g55 E55 A55 D55 U55 => ?_
      have O56 := O54.ext E55
      have B56 := B54.ext E55
      have F55_key : Fld Z h55 b55 "com/example/isolation_anomaly_finder/isolationanomalyfinder/Transaction$Read" "key" "Ljava/lang/String;" .null := D55 (Or.inr (hw _ (List.mem_of_getElem? (i := 19) rfl))) (ty := (.object "java/lang/String")) (by decide)
      have F55_values : Fld Z h55 b55 "com/example/isolation_anomaly_finder/isolationanomalyfinder/Transaction$Read" "values" "[J" .null := D55 (Or.inr (hw _ (List.mem_of_getElem? (i := 21) rfl))) (ty := (.array .long)) (by decide)
      refine o_dup (pc := 79) X55 hx (hb hby at_79) rfl ?_
      refine o_ldcS (pc := 80) X55 hx hZ hown (hw _ (List.mem_of_getElem? (i := 4) rfl)) (o_wS hw) e55 B56 (hb hby at_80) 4 (by decide) (by decide) (by decide) (by decide) fun sB57 b57 T57 h57 X57 e57 E57 B57 hZ57 hown57 => ?_
      have O58 := O56.ext E57
      refine o_aload (v := (.ref b51)) (pc := 82) X57 hx (hb hby at_82) rfl rfl ?_
      refine o_callN (pc := 84) X57 hx hZ57 (y := (⟨"com/example/isolation_anomaly_finder/isolationanomalyfinder/Transaction$Read", "<init>", "(Ljava/lang/String;[J)V"⟩ : MethodName)) (a := b55) (argsL := [(.ref b57), (.ref b51)]) (rest := [(.ref b55)]) rfl hown57 (hw _ (List.mem_of_getElem? (i := 12) rfl)) (hw _ (List.mem_of_getElem? (i := 13) rfl)) (hw _ (List.mem_of_getElem? (i := 3) rfl)) (hw _ (List.mem_of_getElem? (i := 14) rfl)) (by decide) (rm1 l Z a0 hw [] b55 b57 b51 h57 n0 O58 (A55.ext E57) (F55_key.ext E57) (F55_values.ext E57) (Nat.le_trans (o_n0 O54) g55)) e57 (by rw [hml]; rfl) (lenOf o_pd3 rfl) (has := rfl) (hst := rfl) (W := 1) (Nat.le_of_ble_eq_true rfl) (hb hby at_84) (by decide) (by decide) (by decide) (by decide) fun v59 T59 h59 L59 X59 e59 q59 => ?_
      obtain ⟨rfl, N59q, Kc59, Fn59_0, Fn59_1⟩ := q59
      have N59 := Fr.app N53 N59q
      have O60 := O58.keep Kc59 (allS (Nat.le_trans (o_n0 O54) g55) all0)
      have B60 := B57.keep Kc59
      show Go p e below T59 (mkF m 87 #[.val (.int p1), .val (.long q2), .second, .val (.long q3), .second, .val (.long q4), .second, .val (.int (p1 &&& (3 : Int32))), .val (.ref b51), .unset, .unset, .unset, .unset] [(.ref b55)]) _
      refine o_astore (l' := #[.val (.int p1), .val (.long q2), .second, .val (.long q3), .second, .val (.long q4), .second, .val (.int (p1 &&& (3 : Int32))), .val (.ref b51), .val (.ref b55), .unset, .unset, .unset]) (pc := 87) X59 hx (hb hby at_87) rfl rfl ?_
      refine o_aload (v := (.ref b55)) (pc := 89) X59 hx (hb hby at_89) rfl rfl ?_
      refine o_callV (pc := 91) X59 hx hZ57 (y := (⟨"com/example/isolation_anomaly_finder/isolationanomalyfinder/Transaction$Read", "last", "()Ljava/lang/Long;"⟩ : MethodName)) (z := (⟨"com/example/isolation_anomaly_finder/isolationanomalyfinder/Transaction$Read", "last", "()Ljava/lang/Long;"⟩ : MethodName)) (C := "com/example/isolation_anomaly_finder/isolationanomalyfinder/Transaction$Read") (a := b55) (argsL := []) (rest := []) hown57 (hw _ (List.mem_of_getElem? (i := 22) rfl)) (hw _ (List.mem_of_getElem? (i := 23) rfl)) (notFace_of_selects (args := #[]) (mvT hZ57 (hw _ (List.mem_of_getElem? (i := 25) rfl)))) (hw _ (List.mem_of_getElem? (i := 25) rfl)) (hw _ (List.mem_of_getElem? (i := 24) rfl)) (hw _ (List.mem_of_getElem? (i := 3) rfl)) (hw _ (List.mem_of_getElem? (i := 26) rfl)) (by decide) (rm3_1 l Z a0 hw [] b55 b51 k51 q2 wl cl h59 n0 O60 LS LB Fn59_1 (((V53.ext E55).ext E57).keep Kc59 (ninS (Nat.ne_of_lt (Nat.lt_of_lt_of_le V53.lt g55)) nin0))) e59 ((A55.ext E57).keep Kc59) (by rw [hml]; rfl) (lenOf o_pd4 rfl) (has := rfl) (hst := rfl) (W := 0) (Nat.le_of_ble_eq_true rfl) (hb hby at_91) (by decide) (by decide) (by decide) (by decide) fun v61 T61 h61 L61 X61 e61 q61 => ?_
      obtain ⟨b61, rfl, N61q, E61, Ex61, Fx61⟩ := q61
      have N61 := Fr.app N59 N61q
      have O62 := O60.ext E61
      have B62 := B60.ext E61
      show Go p e below T61 (mkF m 94 #[.val (.int p1), .val (.long q2), .second, .val (.long q3), .second, .val (.long q4), .second, .val (.int (p1 &&& (3 : Int32))), .val (.ref b51), .val (.ref b55), .unset, .unset, .unset] [(.ref b61)]) _
      refine o_astore (l' := #[.val (.int p1), .val (.long q2), .second, .val (.long q3), .second, .val (.long q4), .second, .val (.int (p1 &&& (3 : Int32))), .val (.ref b51), .val (.ref b55), .val (.ref b61), .unset, .unset]) (pc := 94) X61 hx (hb hby at_94) rfl rfl ?_
      refine o_iload (v := (p1 &&& (3 : Int32))) (pc := 96) X61 hx (hb hby at_96) rfl ?_
      refine o_ifYes (pc := 98) X61 hx 112 (hb hby at_98) ((if0 _ _).trans (feq hc39).2) (by decide) (by decide) ?_
      refine o_iload (v := (p1 &&& (3 : Int32))) (pc := 112) X61 hx (hb hby at_112) rfl ?_
      refine o_iconst (pc := 114) X61 hx (1 : Int32) (hb hby at_114) rfl ?_
      refine o_icmpNo (pc := 115) X61 hx (hb hby at_115) (teq hc50).2 ?_
      refine o_lloadN (v := q2) (pc := 118) X61 hx (hb hby at_118) rfl ?_
      refine o_lstore (l' := #[.val (.int p1), .val (.long q2), .second, .val (.long q3), .second, .val (.long q4), .second, .val (.int (p1 &&& (3 : Int32))), .val (.ref b51), .val (.ref b55), .val (.ref b61), .val (.long q2), .second]) (pc := 119) X61 hx (hb hby at_119) rfl ?_
      refine o_goto (pc := 121) X61 hx 140 (hb hby at_121) (by decide) (by decide) ?_
      refine o_aload (v := (.ref b61)) (pc := 140) X61 hx (hb hby at_140) rfl rfl ?_
      refine o_ifnullNo (pc := 142) X61 hx (hb hby at_142) ?_
      refine o_aload (v := (.ref b61)) (pc := 145) X61 hx (hb hby at_145) rfl rfl ?_
      refine o_callV (pc := 147) X61 hx hZ57 (y := (⟨"java/lang/Long", "longValue", "()J"⟩ : MethodName)) (z := (⟨"java/lang/Long", "longValue", "()J"⟩ : MethodName)) (C := "java/lang/Long") (a := b61) (argsL := []) (rest := []) hown57 (hw _ (List.mem_of_getElem? (i := 47) rfl)) (hw _ (List.mem_of_getElem? (i := 48) rfl)) (notFace_of_selects (args := #[]) (mvT hZ57 (hw _ (List.mem_of_getElem? (i := 50) rfl)))) (hw _ (List.mem_of_getElem? (i := 50) rfl)) (hw _ (List.mem_of_getElem? (i := 49) rfl)) (hw _ (List.mem_of_getElem? (i := 29) rfl)) (hw _ (List.mem_of_getElem? (i := 51) rfl)) (by decide) (rm7 l Z a0 hw [] b61 q2 h61 n0 O62 Fx61) e61 Ex61 (by rw [hml]; rfl) (lenOf o_pd5 rfl) (has := rfl) (hst := rfl) (W := 0) (Nat.le_of_ble_eq_true rfl) (hb hby at_147) (by decide) (by decide) (by decide) (by decide) fun v63 T63 h63 L63 X63 e63 q63 => ?_
      obtain ⟨rfl, N63q, rfl⟩ := q63
      have N63 := Fr.app N61 N63q
      show Go p e below T63 (mkF m 150 #[.val (.int p1), .val (.long q2), .second, .val (.long q3), .second, .val (.long q4), .second, .val (.int (p1 &&& (3 : Int32))), .val (.ref b51), .val (.ref b55), .val (.ref b61), .val (.long q2), .second] [(.long q2)]) _
      refine o_lload (v := q2) (pc := 150) X63 hx (hb hby at_150) rfl ?_
      refine o_lcmp (pc := 152) X63 hx (hb hby at_152) ?_
      refine o_ifNo (pc := 153) X63 hx (hb hby at_153) ((if0 _ _).trans (teq ((lw_eq _ _).mpr rfl : (lcmpW q2 q2) = (0 : Int32))).2) ?_
      refine o_iconst (pc := 156) X63 hx (1 : Int32) (hb hby at_156) rfl ?_
      refine o_goto (pc := 157) X63 hx 161 (hb hby at_157) (by decide) (by decide) ?_
      exact o_retNW (pc := 161) X63 hx B62 .boolean hret hlk (by simp) (hb hby at_161) e63 (by decide) (by decide) ⟨rfl, N63⟩
    · skip
      refine o_icmpYes (pc := 21) X0 hx 36 (hb hby at_21) (feq hc50).2 (by decide) (by decide) ?_
      refine o_iload (v := (p1 &&& (3 : Int32))) (pc := 36) X0 hx (hb hby at_36) rfl ?_
      refine o_iconst (pc := 38) X0 hx (2 : Int32) (hb hby at_38) rfl ?_
      by_cases hc64 : (p1 &&& (3 : Int32)) = (2 : Int32)
      · skip
        refine o_icmpNo (pc := 39) X0 hx (hb hby at_39) (teq hc64).2 ?_
        refine o_iconst (pc := 42) X0 hx (2 : Int32) (hb hby at_42) rfl ?_
        refine o_newP (pc := 43) X0 hx hZ (hw _ (List.mem_of_getElem? (i := 0) rfl)) e0 (hb hby at_43) (by decide) 2 (by decide) (by decide) (by decide) (by decide) fun T65 h65 b65 k65 X65 e65 g65 E65 V65 => ?_
        have O66 := O0.ext E65
        have B66 := B0.ext E65
        have V65p : Arv Z h65 b65 k65 .long (2 : Int32) [(.long (0 : Int64)), (.long (0 : Int64))] (.long (0 : Int64)) := V65.pad (pad_rep [] (.long (0 : Int64)) 2)
        refine o_dup (pc := 45) X65 hx (hb hby at_45) rfl ?_
        refine o_iconst (pc := 46) X65 hx (0 : Int32) (hb hby at_46) rfl ?_
        refine o_lloadN (v := q2) (pc := 47) X65 hx (hb hby at_47) rfl ?_
        refine o_lastore (pc := 48) X65 hx hZ e65 V65p ⟨by decide, by decide⟩ 0 rfl (Nat.le_of_ble_eq_true rfl) (hb hby at_48) fun T67 h67 X67 e67 W67 V67 => ?_
        have N67 := Fr.snoc X67 N0 (Nat.le_trans (o_n0 O0) g65)
        have O68 := O66.wr W67 (Nat.le_trans (o_n0 O0) g65)
        have B68 := B66.wr W67
        refine o_dup (pc := 49) X67 hx (hb hby at_49) rfl ?_
        refine o_iconst (pc := 50) X67 hx (1 : Int32) (hb hby at_50) rfl ?_
        refine o_lloadN (v := q3) (pc := 51) X67 hx (hb hby at_51) rfl ?_
        refine o_lastore (pc := 52) X67 hx hZ e67 V67 ⟨by decide, by decide⟩ 1 rfl (Nat.le_of_ble_eq_true rfl) (hb hby at_52) fun T69 h69 X69 e69 W69 V69 => ?_
        have N69 := Fr.snoc X69 N67 (Nat.le_trans (o_n0 O0) g65)
        have O70 := O68.wr W69 (Nat.le_trans (o_n0 O0) g65)
        have B70 := B68.wr W69
        refine o_astore (l' := #[.val (.int p1), .val (.long q2), .second, .val (.long q3), .second, .val (.long q4), .second, .val (.int (p1 &&& (3 : Int32))), .val (.ref b65), .unset, .unset, .unset, .unset]) (pc := 53) X69 hx (hb hby at_53) rfl rfl ?_
        refine o_goto (pc := 55) X69 hx 76 (hb hby at_55) (by decide) (by decide) ?_
        refine o_new (pc := 76) X69 hx hZ hown (hw _ (List.mem_of_getElem? (i := 1) rfl)) (hw _ (List.mem_of_getElem? (i := 2) rfl)) (hw _ (List.mem_of_getElem? (i := 3) rfl)) e69 (hb hby at_76) (by decide) (by decide) fun T71 h71 b71 X71 e71 g71 E71 A71 D71 U71 => ?_
        have O72 := O70.ext E71
        have B72 := B70.ext E71
        have F71_key : Fld Z h71 b71 "com/example/isolation_anomaly_finder/isolationanomalyfinder/Transaction$Read" "key" "Ljava/lang/String;" .null := D71 (Or.inr (hw _ (List.mem_of_getElem? (i := 19) rfl))) (ty := (.object "java/lang/String")) (by decide)
        have F71_values : Fld Z h71 b71 "com/example/isolation_anomaly_finder/isolationanomalyfinder/Transaction$Read" "values" "[J" .null := D71 (Or.inr (hw _ (List.mem_of_getElem? (i := 21) rfl))) (ty := (.array .long)) (by decide)
        refine o_dup (pc := 79) X71 hx (hb hby at_79) rfl ?_
        refine o_ldcS (pc := 80) X71 hx hZ hown (hw _ (List.mem_of_getElem? (i := 4) rfl)) (o_wS hw) e71 B72 (hb hby at_80) 4 (by decide) (by decide) (by decide) (by decide) fun sB73 b73 T73 h73 X73 e73 E73 B73 hZ73 hown73 => ?_
        have O74 := O72.ext E73
        refine o_aload (v := (.ref b65)) (pc := 82) X73 hx (hb hby at_82) rfl rfl ?_
        refine o_callN (pc := 84) X73 hx hZ73 (y := (⟨"com/example/isolation_anomaly_finder/isolationanomalyfinder/Transaction$Read", "<init>", "(Ljava/lang/String;[J)V"⟩ : MethodName)) (a := b71) (argsL := [(.ref b73), (.ref b65)]) (rest := [(.ref b71)]) rfl hown73 (hw _ (List.mem_of_getElem? (i := 12) rfl)) (hw _ (List.mem_of_getElem? (i := 13) rfl)) (hw _ (List.mem_of_getElem? (i := 3) rfl)) (hw _ (List.mem_of_getElem? (i := 14) rfl)) (by decide) (rm1 l Z a0 hw [] b71 b73 b65 h73 n0 O74 (A71.ext E73) (F71_key.ext E73) (F71_values.ext E73) (Nat.le_trans (o_n0 O70) g71)) e73 (by rw [hml]; rfl) (lenOf o_pd3 rfl) (has := rfl) (hst := rfl) (W := 1) (Nat.le_of_ble_eq_true rfl) (hb hby at_84) (by decide) (by decide) (by decide) (by decide) fun v75 T75 h75 L75 X75 e75 q75 => ?_
        obtain ⟨rfl, N75q, Kc75, Fn75_0, Fn75_1⟩ := q75
        have N75 := Fr.app N69 N75q
        have O76 := O74.keep Kc75 (allS (Nat.le_trans (o_n0 O70) g71) all0)
        have B76 := B73.keep Kc75
        show Go p e below T75 (mkF m 87 #[.val (.int p1), .val (.long q2), .second, .val (.long q3), .second, .val (.long q4), .second, .val (.int (p1 &&& (3 : Int32))), .val (.ref b65), .unset, .unset, .unset, .unset] [(.ref b71)]) _
        refine o_astore (l' := #[.val (.int p1), .val (.long q2), .second, .val (.long q3), .second, .val (.long q4), .second, .val (.int (p1 &&& (3 : Int32))), .val (.ref b65), .val (.ref b71), .unset, .unset, .unset]) (pc := 87) X75 hx (hb hby at_87) rfl rfl ?_
        refine o_aload (v := (.ref b71)) (pc := 89) X75 hx (hb hby at_89) rfl rfl ?_
        refine o_callV (pc := 91) X75 hx hZ73 (y := (⟨"com/example/isolation_anomaly_finder/isolationanomalyfinder/Transaction$Read", "last", "()Ljava/lang/Long;"⟩ : MethodName)) (z := (⟨"com/example/isolation_anomaly_finder/isolationanomalyfinder/Transaction$Read", "last", "()Ljava/lang/Long;"⟩ : MethodName)) (C := "com/example/isolation_anomaly_finder/isolationanomalyfinder/Transaction$Read") (a := b71) (argsL := []) (rest := []) hown73 (hw _ (List.mem_of_getElem? (i := 22) rfl)) (hw _ (List.mem_of_getElem? (i := 23) rfl)) (notFace_of_selects (args := #[]) (mvT hZ73 (hw _ (List.mem_of_getElem? (i := 25) rfl)))) (hw _ (List.mem_of_getElem? (i := 25) rfl)) (hw _ (List.mem_of_getElem? (i := 24) rfl)) (hw _ (List.mem_of_getElem? (i := 3) rfl)) (hw _ (List.mem_of_getElem? (i := 26) rfl)) (by decide) (rm3_2 l Z a0 hw [] b71 b65 k65 q2 q3 wl cl h75 n0 O76 LS LB Fn75_1 (((V69.ext E71).ext E73).keep Kc75 (ninS (Nat.ne_of_lt (Nat.lt_of_lt_of_le V69.lt g71)) nin0))) e75 ((A71.ext E73).keep Kc75) (by rw [hml]; rfl) (lenOf o_pd4 rfl) (has := rfl) (hst := rfl) (W := 0) (Nat.le_of_ble_eq_true rfl) (hb hby at_91) (by decide) (by decide) (by decide) (by decide) fun v77 T77 h77 L77 X77 e77 q77 => ?_
        obtain ⟨b77, rfl, N77q, E77, Ex77, Fx77⟩ := q77
        have N77 := Fr.app N75 N77q
        have O78 := O76.ext E77
        have B78 := B76.ext E77
        show Go p e below T77 (mkF m 94 #[.val (.int p1), .val (.long q2), .second, .val (.long q3), .second, .val (.long q4), .second, .val (.int (p1 &&& (3 : Int32))), .val (.ref b65), .val (.ref b71), .unset, .unset, .unset] [(.ref b77)]) _
        refine o_astore (l' := #[.val (.int p1), .val (.long q2), .second, .val (.long q3), .second, .val (.long q4), .second, .val (.int (p1 &&& (3 : Int32))), .val (.ref b65), .val (.ref b71), .val (.ref b77), .unset, .unset]) (pc := 94) X77 hx (hb hby at_94) rfl rfl ?_
        refine o_iload (v := (p1 &&& (3 : Int32))) (pc := 96) X77 hx (hb hby at_96) rfl ?_
        refine o_ifYes (pc := 98) X77 hx 112 (hb hby at_98) ((if0 _ _).trans (feq hc39).2) (by decide) (by decide) ?_
        refine o_iload (v := (p1 &&& (3 : Int32))) (pc := 112) X77 hx (hb hby at_112) rfl ?_
        refine o_iconst (pc := 114) X77 hx (1 : Int32) (hb hby at_114) rfl ?_
        refine o_icmpYes (pc := 115) X77 hx 124 (hb hby at_115) (feq hc50).2 (by decide) (by decide) ?_
        refine o_iload (v := (p1 &&& (3 : Int32))) (pc := 124) X77 hx (hb hby at_124) rfl ?_
        refine o_iconst (pc := 126) X77 hx (2 : Int32) (hb hby at_126) rfl ?_
        refine o_icmpNo (pc := 127) X77 hx (hb hby at_127) (teq hc64).2 ?_
        refine o_lloadN (v := q3) (pc := 130) X77 hx (hb hby at_130) rfl ?_
        refine o_lstore (l' := #[.val (.int p1), .val (.long q2), .second, .val (.long q3), .second, .val (.long q4), .second, .val (.int (p1 &&& (3 : Int32))), .val (.ref b65), .val (.ref b71), .val (.ref b77), .val (.long q3), .second]) (pc := 131) X77 hx (hb hby at_131) rfl ?_
        refine o_goto (pc := 133) X77 hx 140 (hb hby at_133) (by decide) (by decide) ?_
        refine o_aload (v := (.ref b77)) (pc := 140) X77 hx (hb hby at_140) rfl rfl ?_
        refine o_ifnullNo (pc := 142) X77 hx (hb hby at_142) ?_
        refine o_aload (v := (.ref b77)) (pc := 145) X77 hx (hb hby at_145) rfl rfl ?_
        refine o_callV (pc := 147) X77 hx hZ73 (y := (⟨"java/lang/Long", "longValue", "()J"⟩ : MethodName)) (z := (⟨"java/lang/Long", "longValue", "()J"⟩ : MethodName)) (C := "java/lang/Long") (a := b77) (argsL := []) (rest := []) hown73 (hw _ (List.mem_of_getElem? (i := 47) rfl)) (hw _ (List.mem_of_getElem? (i := 48) rfl)) (notFace_of_selects (args := #[]) (mvT hZ73 (hw _ (List.mem_of_getElem? (i := 50) rfl)))) (hw _ (List.mem_of_getElem? (i := 50) rfl)) (hw _ (List.mem_of_getElem? (i := 49) rfl)) (hw _ (List.mem_of_getElem? (i := 29) rfl)) (hw _ (List.mem_of_getElem? (i := 51) rfl)) (by decide) (rm7 l Z a0 hw [] b77 q3 h77 n0 O78 Fx77) e77 Ex77 (by rw [hml]; rfl) (lenOf o_pd5 rfl) (has := rfl) (hst := rfl) (W := 0) (Nat.le_of_ble_eq_true rfl) (hb hby at_147) (by decide) (by decide) (by decide) (by decide) fun v79 T79 h79 L79 X79 e79 q79 => ?_
        obtain ⟨rfl, N79q, rfl⟩ := q79
        have N79 := Fr.app N77 N79q
        show Go p e below T79 (mkF m 150 #[.val (.int p1), .val (.long q2), .second, .val (.long q3), .second, .val (.long q4), .second, .val (.int (p1 &&& (3 : Int32))), .val (.ref b65), .val (.ref b71), .val (.ref b77), .val (.long q3), .second] [(.long q3)]) _
        refine o_lload (v := q3) (pc := 150) X79 hx (hb hby at_150) rfl ?_
        refine o_lcmp (pc := 152) X79 hx (hb hby at_152) ?_
        refine o_ifNo (pc := 153) X79 hx (hb hby at_153) ((if0 _ _).trans (teq ((lw_eq _ _).mpr rfl : (lcmpW q3 q3) = (0 : Int32))).2) ?_
        refine o_iconst (pc := 156) X79 hx (1 : Int32) (hb hby at_156) rfl ?_
        refine o_goto (pc := 157) X79 hx 161 (hb hby at_157) (by decide) (by decide) ?_
        exact o_retNW (pc := 161) X79 hx B78 .boolean hret hlk (by simp) (hb hby at_161) e79 (by decide) (by decide) ⟨rfl, N79⟩
      · skip
        refine o_icmpYes (pc := 39) X0 hx 58 (hb hby at_39) (feq hc64).2 (by decide) (by decide) ?_
        refine o_iconst (pc := 58) X0 hx (3 : Int32) (hb hby at_58) rfl ?_
        refine o_newP (pc := 59) X0 hx hZ (hw _ (List.mem_of_getElem? (i := 0) rfl)) e0 (hb hby at_59) (by decide) 3 (by decide) (by decide) (by decide) (by decide) fun T80 h80 b80 k80 X80 e80 g80 E80 V80 => ?_
        have O81 := O0.ext E80
        have B81 := B0.ext E80
        have V80p : Arv Z h80 b80 k80 .long (3 : Int32) [(.long (0 : Int64)), (.long (0 : Int64)), (.long (0 : Int64))] (.long (0 : Int64)) := V80.pad (pad_rep [] (.long (0 : Int64)) 3)
        refine o_dup (pc := 61) X80 hx (hb hby at_61) rfl ?_
        refine o_iconst (pc := 62) X80 hx (0 : Int32) (hb hby at_62) rfl ?_
        refine o_lloadN (v := q2) (pc := 63) X80 hx (hb hby at_63) rfl ?_
        refine o_lastore (pc := 64) X80 hx hZ e80 V80p ⟨by decide, by decide⟩ 0 rfl (Nat.le_of_ble_eq_true rfl) (hb hby at_64) fun T82 h82 X82 e82 W82 V82 => ?_
        have N82 := Fr.snoc X82 N0 (Nat.le_trans (o_n0 O0) g80)
        have O83 := O81.wr W82 (Nat.le_trans (o_n0 O0) g80)
        have B83 := B81.wr W82
        refine o_dup (pc := 65) X82 hx (hb hby at_65) rfl ?_
        refine o_iconst (pc := 66) X82 hx (1 : Int32) (hb hby at_66) rfl ?_
        refine o_lloadN (v := q3) (pc := 67) X82 hx (hb hby at_67) rfl ?_
        refine o_lastore (pc := 68) X82 hx hZ e82 V82 ⟨by decide, by decide⟩ 1 rfl (Nat.le_of_ble_eq_true rfl) (hb hby at_68) fun T84 h84 X84 e84 W84 V84 => ?_
        have N84 := Fr.snoc X84 N82 (Nat.le_trans (o_n0 O0) g80)
        have O85 := O83.wr W84 (Nat.le_trans (o_n0 O0) g80)
        have B85 := B83.wr W84
        refine o_dup (pc := 69) X84 hx (hb hby at_69) rfl ?_
        refine o_iconst (pc := 70) X84 hx (2 : Int32) (hb hby at_70) rfl ?_
        refine o_lload (v := q4) (pc := 71) X84 hx (hb hby at_71) rfl ?_
        refine o_lastore (pc := 73) X84 hx hZ e84 V84 ⟨by decide, by decide⟩ 2 rfl (Nat.le_of_ble_eq_true rfl) (hb hby at_73) fun T86 h86 X86 e86 W86 V86 => ?_
        have N86 := Fr.snoc X86 N84 (Nat.le_trans (o_n0 O0) g80)
        have O87 := O85.wr W86 (Nat.le_trans (o_n0 O0) g80)
        have B87 := B85.wr W86
        refine o_astore (l' := #[.val (.int p1), .val (.long q2), .second, .val (.long q3), .second, .val (.long q4), .second, .val (.int (p1 &&& (3 : Int32))), .val (.ref b80), .unset, .unset, .unset, .unset]) (pc := 74) X86 hx (hb hby at_74) rfl rfl ?_
        refine o_new (pc := 76) X86 hx hZ hown (hw _ (List.mem_of_getElem? (i := 1) rfl)) (hw _ (List.mem_of_getElem? (i := 2) rfl)) (hw _ (List.mem_of_getElem? (i := 3) rfl)) e86 (hb hby at_76) (by decide) (by decide) fun T88 h88 b88 X88 e88 g88 E88 A88 D88 U88 => ?_
        have O89 := O87.ext E88
        have B89 := B87.ext E88
        have F88_key : Fld Z h88 b88 "com/example/isolation_anomaly_finder/isolationanomalyfinder/Transaction$Read" "key" "Ljava/lang/String;" .null := D88 (Or.inr (hw _ (List.mem_of_getElem? (i := 19) rfl))) (ty := (.object "java/lang/String")) (by decide)
        have F88_values : Fld Z h88 b88 "com/example/isolation_anomaly_finder/isolationanomalyfinder/Transaction$Read" "values" "[J" .null := D88 (Or.inr (hw _ (List.mem_of_getElem? (i := 21) rfl))) (ty := (.array .long)) (by decide)
        refine o_dup (pc := 79) X88 hx (hb hby at_79) rfl ?_
        refine o_ldcS (pc := 80) X88 hx hZ hown (hw _ (List.mem_of_getElem? (i := 4) rfl)) (o_wS hw) e88 B89 (hb hby at_80) 4 (by decide) (by decide) (by decide) (by decide) fun sB90 b90 T90 h90 X90 e90 E90 B90 hZ90 hown90 => ?_
        have O91 := O89.ext E90
        refine o_aload (v := (.ref b80)) (pc := 82) X90 hx (hb hby at_82) rfl rfl ?_
        refine o_callN (pc := 84) X90 hx hZ90 (y := (⟨"com/example/isolation_anomaly_finder/isolationanomalyfinder/Transaction$Read", "<init>", "(Ljava/lang/String;[J)V"⟩ : MethodName)) (a := b88) (argsL := [(.ref b90), (.ref b80)]) (rest := [(.ref b88)]) rfl hown90 (hw _ (List.mem_of_getElem? (i := 12) rfl)) (hw _ (List.mem_of_getElem? (i := 13) rfl)) (hw _ (List.mem_of_getElem? (i := 3) rfl)) (hw _ (List.mem_of_getElem? (i := 14) rfl)) (by decide) (rm1 l Z a0 hw [] b88 b90 b80 h90 n0 O91 (A88.ext E90) (F88_key.ext E90) (F88_values.ext E90) (Nat.le_trans (o_n0 O87) g88)) e90 (by rw [hml]; rfl) (lenOf o_pd3 rfl) (has := rfl) (hst := rfl) (W := 1) (Nat.le_of_ble_eq_true rfl) (hb hby at_84) (by decide) (by decide) (by decide) (by decide) fun v92 T92 h92 L92 X92 e92 q92 => ?_
        obtain ⟨rfl, N92q, Kc92, Fn92_0, Fn92_1⟩ := q92
        have N92 := Fr.app N86 N92q
        have O93 := O91.keep Kc92 (allS (Nat.le_trans (o_n0 O87) g88) all0)
        have B93 := B90.keep Kc92
        show Go p e below T92 (mkF m 87 #[.val (.int p1), .val (.long q2), .second, .val (.long q3), .second, .val (.long q4), .second, .val (.int (p1 &&& (3 : Int32))), .val (.ref b80), .unset, .unset, .unset, .unset] [(.ref b88)]) _
        refine o_astore (l' := #[.val (.int p1), .val (.long q2), .second, .val (.long q3), .second, .val (.long q4), .second, .val (.int (p1 &&& (3 : Int32))), .val (.ref b80), .val (.ref b88), .unset, .unset, .unset]) (pc := 87) X92 hx (hb hby at_87) rfl rfl ?_
        refine o_aload (v := (.ref b88)) (pc := 89) X92 hx (hb hby at_89) rfl rfl ?_
        refine o_callV (pc := 91) X92 hx hZ90 (y := (⟨"com/example/isolation_anomaly_finder/isolationanomalyfinder/Transaction$Read", "last", "()Ljava/lang/Long;"⟩ : MethodName)) (z := (⟨"com/example/isolation_anomaly_finder/isolationanomalyfinder/Transaction$Read", "last", "()Ljava/lang/Long;"⟩ : MethodName)) (C := "com/example/isolation_anomaly_finder/isolationanomalyfinder/Transaction$Read") (a := b88) (argsL := []) (rest := []) hown90 (hw _ (List.mem_of_getElem? (i := 22) rfl)) (hw _ (List.mem_of_getElem? (i := 23) rfl)) (notFace_of_selects (args := #[]) (mvT hZ90 (hw _ (List.mem_of_getElem? (i := 25) rfl)))) (hw _ (List.mem_of_getElem? (i := 25) rfl)) (hw _ (List.mem_of_getElem? (i := 24) rfl)) (hw _ (List.mem_of_getElem? (i := 3) rfl)) (hw _ (List.mem_of_getElem? (i := 26) rfl)) (by decide) (rm3_3 l Z a0 hw [] b88 b80 k80 q2 q3 q4 wl cl h92 n0 O93 LS LB Fn92_1 (((V86.ext E88).ext E90).keep Kc92 (ninS (Nat.ne_of_lt (Nat.lt_of_lt_of_le V86.lt g88)) nin0))) e92 ((A88.ext E90).keep Kc92) (by rw [hml]; rfl) (lenOf o_pd4 rfl) (has := rfl) (hst := rfl) (W := 0) (Nat.le_of_ble_eq_true rfl) (hb hby at_91) (by decide) (by decide) (by decide) (by decide) fun v94 T94 h94 L94 X94 e94 q94 => ?_
        obtain ⟨b94, rfl, N94q, E94, Ex94, Fx94⟩ := q94
        have N94 := Fr.app N92 N94q
        have O95 := O93.ext E94
        have B95 := B93.ext E94
        show Go p e below T94 (mkF m 94 #[.val (.int p1), .val (.long q2), .second, .val (.long q3), .second, .val (.long q4), .second, .val (.int (p1 &&& (3 : Int32))), .val (.ref b80), .val (.ref b88), .unset, .unset, .unset] [(.ref b94)]) _
        refine o_astore (l' := #[.val (.int p1), .val (.long q2), .second, .val (.long q3), .second, .val (.long q4), .second, .val (.int (p1 &&& (3 : Int32))), .val (.ref b80), .val (.ref b88), .val (.ref b94), .unset, .unset]) (pc := 94) X94 hx (hb hby at_94) rfl rfl ?_
        refine o_iload (v := (p1 &&& (3 : Int32))) (pc := 96) X94 hx (hb hby at_96) rfl ?_
        refine o_ifYes (pc := 98) X94 hx 112 (hb hby at_98) ((if0 _ _).trans (feq hc39).2) (by decide) (by decide) ?_
        refine o_iload (v := (p1 &&& (3 : Int32))) (pc := 112) X94 hx (hb hby at_112) rfl ?_
        refine o_iconst (pc := 114) X94 hx (1 : Int32) (hb hby at_114) rfl ?_
        refine o_icmpYes (pc := 115) X94 hx 124 (hb hby at_115) (feq hc50).2 (by decide) (by decide) ?_
        refine o_iload (v := (p1 &&& (3 : Int32))) (pc := 124) X94 hx (hb hby at_124) rfl ?_
        refine o_iconst (pc := 126) X94 hx (2 : Int32) (hb hby at_126) rfl ?_
        refine o_icmpYes (pc := 127) X94 hx 136 (hb hby at_127) (feq hc64).2 (by decide) (by decide) ?_
        refine o_lload (v := q4) (pc := 136) X94 hx (hb hby at_136) rfl ?_
        refine o_lstore (l' := #[.val (.int p1), .val (.long q2), .second, .val (.long q3), .second, .val (.long q4), .second, .val (.int (p1 &&& (3 : Int32))), .val (.ref b80), .val (.ref b88), .val (.ref b94), .val (.long q4), .second]) (pc := 138) X94 hx (hb hby at_138) rfl ?_
        refine o_aload (v := (.ref b94)) (pc := 140) X94 hx (hb hby at_140) rfl rfl ?_
        refine o_ifnullNo (pc := 142) X94 hx (hb hby at_142) ?_
        refine o_aload (v := (.ref b94)) (pc := 145) X94 hx (hb hby at_145) rfl rfl ?_
        refine o_callV (pc := 147) X94 hx hZ90 (y := (⟨"java/lang/Long", "longValue", "()J"⟩ : MethodName)) (z := (⟨"java/lang/Long", "longValue", "()J"⟩ : MethodName)) (C := "java/lang/Long") (a := b94) (argsL := []) (rest := []) hown90 (hw _ (List.mem_of_getElem? (i := 47) rfl)) (hw _ (List.mem_of_getElem? (i := 48) rfl)) (notFace_of_selects (args := #[]) (mvT hZ90 (hw _ (List.mem_of_getElem? (i := 50) rfl)))) (hw _ (List.mem_of_getElem? (i := 50) rfl)) (hw _ (List.mem_of_getElem? (i := 49) rfl)) (hw _ (List.mem_of_getElem? (i := 29) rfl)) (hw _ (List.mem_of_getElem? (i := 51) rfl)) (by decide) (rm7 l Z a0 hw [] b94 q4 h94 n0 O95 Fx94) e94 Ex94 (by rw [hml]; rfl) (lenOf o_pd5 rfl) (has := rfl) (hst := rfl) (W := 0) (Nat.le_of_ble_eq_true rfl) (hb hby at_147) (by decide) (by decide) (by decide) (by decide) fun v96 T96 h96 L96 X96 e96 q96 => ?_
        obtain ⟨rfl, N96q, rfl⟩ := q96
        have N96 := Fr.app N94 N96q
        show Go p e below T96 (mkF m 150 #[.val (.int p1), .val (.long q2), .second, .val (.long q3), .second, .val (.long q4), .second, .val (.int (p1 &&& (3 : Int32))), .val (.ref b80), .val (.ref b88), .val (.ref b94), .val (.long q4), .second] [(.long q4)]) _
        refine o_lload (v := q4) (pc := 150) X96 hx (hb hby at_150) rfl ?_
        refine o_lcmp (pc := 152) X96 hx (hb hby at_152) ?_
        refine o_ifNo (pc := 153) X96 hx (hb hby at_153) ((if0 _ _).trans (teq ((lw_eq _ _).mpr rfl : (lcmpW q4 q4) = (0 : Int32))).2) ?_
        refine o_iconst (pc := 156) X96 hx (1 : Int32) (hb hby at_156) rfl ?_
        refine o_goto (pc := 157) X96 hx 161 (hb hby at_157) (by decide) (by decide) ?_
        exact o_retNW (pc := 161) X96 hx B95 .boolean hret hlk (by simp) (hb hby at_161) e96 (by decide) (by decide) ⟨rfl, N96⟩
set_option maxRecDepth 65536 in
set_option maxHeartbeats 40000000 in
theorem comes_1 {Post : Tables → Env → Array Value → State → Outcome → State → Prop} (hpost : ∀ tb e args s v u, (limb_1_1.after args s (.returned v) u = true ∧ limb_1_2.after args s (.returned v) u = true ∧ True) → ReturnedEndW s (.returned v) u (Jvm.fieldLocs frame_1_writes args s ++ Jvm.arrayLocs frame_1_arrays args s ++ Jvm.staticLocs frame_1_statics s) 16 1152 → Post tb e args s (.returned v) u) :
    ArmFor flags0 classFile x code maxLocals ret World_1 tables_1 room_1 Calls_1 rest_1 Pre_1 Post := by
  intro l hfl _ _ p e ha hc hk s m args below hf hA hF happ hP
  obtain ⟨hcalls, hrest, hpre⟩ := hP
  obtain ⟨-, -, -, hnamed, -, -, -, hat⟩ := (Spec.applies_iff hf).mp happ
  obtain ⟨hg, hn⟩ := and_e (Cond.before_iff.mp (show (Jvm.Cond.and given_1 narrow_1).before args s = true from hpre))
  obtain ⟨g97, g98⟩ := and_e hg
  obtain ⟨g99, g100⟩ := and_e g98
  obtain ⟨g101, g102⟩ := and_e g100
  obtain ⟨g103, g104⟩ := and_e g102
  obtain ⟨w0, w1, w2, w3, rfl⟩ : ∃ w0 w1 w2 w3 : Value, args = #[w0, w1, w2, w3] := by
    have hs : args.size = 4 := by simpa [Cond.value, given_1] using g97
    obtain ⟨L⟩ := args
    match L, hs with
    | [w0, w1, w2, w3], _ => exact ⟨w0, w1, w2, w3, rfl⟩
  have hw := fun d (hd : d ∈ tables_1) => atoms_spec (ws := Jvm.Cond.code x code maxLocals ret :: tables_1) hat d (List.mem_cons_of_mem _ hd)
  have hfit : Fit s := fun {y c} hc i hi => by
    obtain ⟨ha, rfl⟩ := Array.getElem?_eq_some_iff.mp hc
    have q := List.all_eq_true.mp ((Array.all_eq_true_iff_forall_mem.mp hF) _ (Array.getElem_mem ha)) i (List.mem_range.mpr hi)
    simpa [Array.getElem?_eq_getElem hi] using q
  obtain ⟨i0, ei0⟩ := is_v g99
  obtain rfl : w0 = (.int i0) := Option.some.inj ei0
  obtain ⟨i1, ei1⟩ := isL_v g101
  obtain rfl : w1 = (.long i1) := Option.some.inj ei1
  obtain ⟨i2, ei2⟩ := isL_v g103
  obtain rfl : w2 = (.long i2) := Option.some.inj ei2
  obtain ⟨i3, ei3⟩ := isL_v g104
  obtain rfl : w3 = (.long i3) := Option.some.inj ei3
  obtain ⟨hsets, hown0⟩ := atoms_of _ (rest_1_c_eq ▸ (show rest_1_c.before _ s = true from hrest))
  obtain ⟨wl, evl⟩ := exa_v (Cond.before_iff.mp (hsets _ (List.mem_of_getElem? (i := 3) rfl)))
  have LS := Sta.start evl (Or.inl (hsets _ (List.mem_of_getElem? (i := 1) rfl)))
  obtain ⟨cl, LA⟩ := Arr.start evl (Cond.before_iff.mp (hsets _ (List.mem_of_getElem? (i := 2) rfl)))
  have ll := o_eqI (Cond.before_iff.mp (hsets _ (List.mem_of_getElem? (i := 4) rfl)))
  obtain ⟨ll1, ll2⟩ := o_len evl (LA.fin (Vm.Alike.refl _)) ll
  have LB : Bxs s wl cl "java/lang/Long" "J" 256 (fun j => .long (j - 128).toInt64) := Bxs.start (fun _ => evl) LA ll1 ll2 (by decide) (Cond.before_iff.mp (hsets _ (List.mem_of_getElem? (i := 5) rfl))) (fun X j hj h => eqv_l (i2l_at (o_sub (idx_at hj) rfl)) h)
  obtain ⟨n, o, h1, h2, h3, _, L, rfl, ⟨rfl, N⟩, hq⟩ := rm0 l s _ hw tables_1 i0 i1 i2 i3 wl cl s.heap s.heap.size (Old.start s) LS LB p e ha hc hk s m _ below hf ((Spec.applies_iff_loose hf).mp happ).1 ⟨rfl, State.Warmed39.refl s, rfl⟩ trivial
  refine ⟨n, _, h1, h2, h3, hpost _ _ _ _ _ _ ⟨Cond.after_iff.mpr rfl, Cond.after_iff.mpr (eq_i res_at (Term.int_eval (1)) rfl), trivial⟩ ⟨hq.1, hq.2.1, hq.2.2.1, (hq.2.2.2.sift fun y hy => Or.inr (N y hy)).mono (by decide) (by decide)⟩⟩
theorem main_1_1 : Claimed_1_1 := comes_1 fun _ _ _ _ _ _ h hF => ⟨h.1, hF⟩
theorem main_1_2 : Claimed_1_2 := comes_1 fun _ _ _ _ _ _ h hF => ⟨h.2.1, hF⟩
end Jvm.Pilot.@@N@@
namespace Jvm.Pilot.@@N@@
open Jvm Jvm.ClassFile Sem Op Lib Jvm.Free Jvm.Stand Jvm.Pilot.@@N@@.Jvm.D
/-! MADE BY PROGRAM (witnessworld.py) out of the Statement's table words and the real class files: 21 classes; the members and pool entries that the words name. The judged class is class 1, her method 1. -/
namespace start1
open Jvm.ClassFile
def u (s : String) : CpInfo := .utf8 (stringToUtf16 s)
/-- a pool by its gaps: so many unusable entries, then the entry; so many at the end -/
def gap : Nat → List CpInfo → List CpInfo
  | 0, r => r
  | n + 1, r => .unusable :: gap n r
def poolList (es : List (Nat × CpInfo)) (last : Nat) : List CpInfo := es.foldr (fun e r => gap e.1 (e.2 :: r)) (gap last [])
def pool (es : List (Nat × CpInfo)) (last : Nat) : Array CpInfo := ⟨poolList es last⟩
def fileOf (pool : Array CpInfo) (this : Nat) (attrs : Array Attribute := #[]) (ms : Array MethodInfo := #[]) (fl : Nat := 33) (sup : Nat := 0) (ifs : Array Nat := #[]) (fds : Array FieldInfo := #[]) : ClassFile where
  minorVersion := 0
  majorVersion := 65
  constantPool := pool
  accessFlags := fl
  thisClass := this
  superClass := sup
  interfaces := ifs
  fields := fds
  methods := ms
  attributes := attrs
def plain (name : String) (sup : Option ClassId) : Class where
  name := name
  kind := .ordinary
  loader := none
  accessFlags := 33
  super := sup
  interfaces := #[]
  cf := none
  fields := #[]
  methods := #[]
  instanceTypes := #[]
  staticTypes := #[]
  resolved := #[]
  callSites := []
  init := .initialized
  statics := none
  mirror := none

def pool0 : Array CpInfo := pool [(5, u "<init>"), (0, u "()V"), (1, .class_ 10), (1, u "java/lang/Object")] 113

def k0c0 : Code := { maxStack := 0, maxLocals := 1, code := object_method_1_code, exceptionTable := #[], attributes := #[] }
def k0m0 : Method := { name := "<init>", desc := "()V", sig := { parameters := [], returnType := none }, accessFlags := 1, code := some k0c0 }
/-- java/lang/Object -/
def k0 : Class := { plain "java/lang/Object" none with
  accessFlags := 33
  interfaces := #[]
  cf := some (fileOf pool0 8 #[] #[{ accessFlags := 1, nameIndex := 5, descriptorIndex := 6, attributes := #[] }] 33 0 #[] #[])
  fields := #[]
  methods := #[k0m0]
  instanceTypes := #[]
  staticTypes := #[]
  resolved := Array.replicate 124 none
  statics := none }

def pool1 : Array CpInfo := pool [(2, .class_ 4), (1, u "java/lang/Object"), (0, u "<init>"), (0, u "()V"), (0, .class_ 8), (0, u "com/example/isolation_anomaly_finder/isolationanomalyfinder/Transaction$Read"), (0, .string 10), (0, u "k"), (0, .methodref 7 12), (0, .nameAndType 5 13), (0, u "(Ljava/lang/String;[J)V"), (0, .methodref 7 15), (0, .nameAndType 16 17), (0, u "last"), (0, u "()Ljava/lang/Long;"), (0, .methodref 19 20), (0, .class_ 21), (0, .nameAndType 22 23), (0, u "java/lang/Long"), (0, u "longValue"), (0, u "()J"), (0, .class_ 25), (0, u "com/example/isolation_anomaly_finder/isolationanomalyfinder/ReadLastPinLaw"), (2, u "law"), (0, u "(IJJJ)Z")] 9

def k1m0 : Method := { name := "<init>", desc := "()V", sig := { parameters := [], returnType := none }, accessFlags := 1, code := none }
def k1c1 : Code := { maxStack := 5, maxLocals := 13, code := code, exceptionTable := #[], attributes := #[] }
def k1m1 : Method := { name := "law", desc := "(IJJJ)Z", sig := { parameters := [.int, .long, .long, .long], returnType := some .boolean }, accessFlags := 9, code := some k1c1 }
/-- com/example/isolation_anomaly_finder/isolationanomalyfinder/ReadLastPinLaw -/
def k1 : Class := { plain "com/example/isolation_anomaly_finder/isolationanomalyfinder/ReadLastPinLaw" (some 0) with
  accessFlags := 49
  interfaces := #[]
  cf := some (fileOf pool1 24 #[] #[{ accessFlags := 1, nameIndex := 5, descriptorIndex := 6, attributes := #[] }, { accessFlags := 9, nameIndex := 28, descriptorIndex := 29, attributes := #[] }] 49 2 #[] #[])
  fields := #[]
  methods := #[k1m0, k1m1]
  instanceTypes := #[]
  staticTypes := #[]
  resolved := Array.replicate 39 none
  statics := none }

def pool2 : Array CpInfo := pool [(1, .class_ 2), (0, u "com/example/isolation_anomaly_finder/isolationanomalyfinder/Transaction$Operation"), (0, .class_ 4), (0, u "java/lang/Object"), (5, .class_ 11), (0, u "com/example/isolation_anomaly_finder/isolationanomalyfinder/Transaction")] 9

/-- com/example/isolation_anomaly_finder/isolationanomalyfinder/Transaction$Operation -/
def k2 : Class := { plain "com/example/isolation_anomaly_finder/isolationanomalyfinder/Transaction$Operation" (some 0) with
  accessFlags := 1536
  interfaces := #[]
  cf := some (fileOf pool2 1 #[.nestHost 10] #[] 1536 3 #[] #[])
  fields := #[]
  methods := #[]
  instanceTypes := #[]
  staticTypes := #[]
  resolved := Array.replicate 21 none
  statics := none }

def pool3 : Array CpInfo := pool [(1, .methodref 2 3), (0, .class_ 4), (0, .nameAndType 5 6), (0, u "java/lang/Object"), (0, u "<init>"), (0, u "()V"), (0, .fieldref 8 9), (0, .class_ 10), (0, .nameAndType 11 12), (0, u "com/example/isolation_anomaly_finder/isolationanomalyfinder/Transaction$Read"), (0, u "key"), (0, u "Ljava/lang/String;"), (0, .fieldref 8 14), (0, .nameAndType 15 16), (0, u "values"), (0, u "[J"), (0, .methodref 18 19), (0, .class_ 20), (0, .nameAndType 21 22), (0, u "java/lang/Long"), (0, u "valueOf"), (0, u "(J)Ljava/lang/Long;"), (24, .class_ 48), (0, u "com/example/isolation_anomaly_finder/isolationanomalyfinder/Transaction$Operation"), (0, u "(Ljava/lang/String;[J)V"), (6, u "last"), (0, u "()Ljava/lang/Long;"), (8, .class_ 67), (0, u "com/example/isolation_anomaly_finder/isolationanomalyfinder/Transaction")] 3

def k3c0 : Code := { maxStack := 2, maxLocals := 3, code := prog_56_method_1_code, exceptionTable := #[], attributes := #[] }
def k3m0 : Method := { name := "<init>", desc := "(Ljava/lang/String;[J)V", sig := { parameters := [(.object "java/lang/String"), (.array .long)], returnType := none }, accessFlags := 0, code := some k3c0 }
def k3c1 : Code := { maxStack := 3, maxLocals := 1, code := prog_56_method_5_code, exceptionTable := #[], attributes := #[] }
def k3m1 : Method := { name := "last", desc := "()Ljava/lang/Long;", sig := { parameters := [], returnType := some (.object "java/lang/Long") }, accessFlags := 0, code := some k3c1 }
/-- com/example/isolation_anomaly_finder/isolationanomalyfinder/Transaction$Read -/
def k3 : Class := { plain "com/example/isolation_anomaly_finder/isolationanomalyfinder/Transaction$Read" (some 0) with
  accessFlags := 48
  interfaces := #[2]
  cf := some (fileOf pool3 8 #[.nestHost 66] #[{ accessFlags := 0, nameIndex := 5, descriptorIndex := 49, attributes := #[] }, { accessFlags := 0, nameIndex := 56, descriptorIndex := 57, attributes := #[] }] 48 2 #[47] #[{ accessFlags := 18, nameIndex := 11, descriptorIndex := 12, attributes := #[] }, { accessFlags := 18, nameIndex := 15, descriptorIndex := 16, attributes := #[] }])
  fields := #[{ name := "key", type := (.object "java/lang/String"), accessFlags := 18, slot := 0, constantValue := 0 }, { name := "values", type := (.array .long), accessFlags := 18, slot := 1, constantValue := 0 }]
  methods := #[k3m0, k3m1]
  instanceTypes := #[(.object "java/lang/String"), (.array .long)]
  staticTypes := #[]
  resolved := Array.replicate 71 none
  statics := none }

def pool4 : Array CpInfo := pool [(1, .class_ 2), (0, u "java/io/Serializable"), (0, .class_ 4), (0, u "java/lang/Object")] 2

/-- java/io/Serializable -/
def k4 : Class := { plain "java/io/Serializable" (some 0) with
  accessFlags := 1537
  interfaces := #[]
  cf := some (fileOf pool4 1 #[] #[] 1537 3 #[] #[])
  fields := #[]
  methods := #[]
  instanceTypes := #[]
  staticTypes := #[]
  resolved := Array.replicate 7 none
  statics := none }

def pool5 : Array CpInfo := pool [(1, .class_ 2), (0, u "java/lang/Comparable"), (0, .class_ 4), (0, u "java/lang/Object")] 7

/-- java/lang/Comparable -/
def k5 : Class := { plain "java/lang/Comparable" (some 0) with
  accessFlags := 1537
  interfaces := #[]
  cf := some (fileOf pool5 1 #[] #[] 1537 3 #[] #[])
  fields := #[]
  methods := #[]
  instanceTypes := #[]
  staticTypes := #[]
  resolved := Array.replicate 12 none
  statics := none }

def pool6 : Array CpInfo := pool [(2, .class_ 4), (1, u "java/lang/CharSequence"), (42, .class_ 48), (0, u "java/lang/CharSequence$1CodePointIterator"), (10, .class_ 60), (0, u "java/lang/CharSequence$1CharIterator"), (5, .class_ 67), (0, u "java/lang/Object")] 63

/-- java/lang/CharSequence -/
def k6 : Class := { plain "java/lang/CharSequence" (some 0) with
  accessFlags := 1537
  interfaces := #[]
  cf := some (fileOf pool6 2 #[.nestMembers #[47, 59]] #[] 1537 66 #[] #[])
  fields := #[]
  methods := #[]
  instanceTypes := #[]
  staticTypes := #[]
  resolved := Array.replicate 131 none
  statics := none }

def pool7 : Array CpInfo := pool [(1, .class_ 2), (0, u "java/lang/constant/Constable"), (0, .class_ 4), (0, u "java/lang/Object")] 6

/-- java/lang/constant/Constable -/
def k7 : Class := { plain "java/lang/constant/Constable" (some 0) with
  accessFlags := 1537
  interfaces := #[]
  cf := some (fileOf pool7 1 #[] #[] 1537 3 #[] #[])
  fields := #[]
  methods := #[]
  instanceTypes := #[]
  staticTypes := #[]
  resolved := Array.replicate 11 none
  statics := none }

def pool8 : Array CpInfo := pool [(1, .class_ 2), (0, u "java/lang/constant/ConstantDesc"), (0, .class_ 4), (0, u "java/lang/Object")] 32

/-- java/lang/constant/ConstantDesc -/
def k8 : Class := { plain "java/lang/constant/ConstantDesc" (some 0) with
  accessFlags := 1537
  interfaces := #[]
  cf := some (fileOf pool8 1 #[] #[] 1537 3 #[] #[])
  fields := #[]
  methods := #[]
  instanceTypes := #[]
  staticTypes := #[]
  resolved := Array.replicate 37 none
  statics := none }

def pool9 : Array CpInfo := pool [(2, .class_ 4), (1, u "java/lang/Object"), (0, u "<init>"), (0, u "()V"), (3, .class_ 12), (1, u "java/lang/String"), (0, u "value"), (0, u "[B"), (2, u "coder"), (0, u "B"), (2, u "hash"), (0, u "I"), (2, u "hashIsZero"), (0, u "Z"), (13, u "COMPACT_STRINGS"), (534, .class_ 576), (0, u "java/lang/CharSequence"), (22, u "CASE_INSENSITIVE_ORDER"), (0, u "Ljava/util/Comparator;"), (500, u "serialPersistentFields"), (0, u "[Ljava/io/ObjectStreamField;"), (0, .class_ 1104), (0, u "java/lang/String$CaseInsensitiveComparator"), (1, .class_ 1107), (0, u "java/io/Serializable"), (0, .class_ 1109), (0, u "java/lang/Comparable"), (0, .class_ 1111), (0, u "java/lang/constant/Constable"), (0, .class_ 1113), (0, u "java/lang/constant/ConstantDesc"), (2, u "serialVersionUID"), (0, u "J"), (3, u "REPL"), (0, u "C"), (2, u "LATIN1"), (1, u "UTF16")] 323

def k9m0 : Method := { name := "<init>", desc := "()V", sig := { parameters := [], returnType := none }, accessFlags := 1, code := none }
/-- java/lang/String -/
def k9 : Class := { plain "java/lang/String" (some 0) with
  accessFlags := 49
  interfaces := #[4, 5, 6, 7, 8]
  cf := some (fileOf pool9 10 #[.nestMembers #[1103]] #[{ accessFlags := 1, nameIndex := 5, descriptorIndex := 6, attributes := #[] }] 49 2 #[1106, 1108, 575, 1110, 1112] #[{ accessFlags := 18, nameIndex := 13, descriptorIndex := 14, attributes := #[] }, { accessFlags := 18, nameIndex := 17, descriptorIndex := 18, attributes := #[] }, { accessFlags := 2, nameIndex := 21, descriptorIndex := 22, attributes := #[] }, { accessFlags := 2, nameIndex := 25, descriptorIndex := 26, attributes := #[] }, { accessFlags := 26, nameIndex := 1116, descriptorIndex := 1117, attributes := #[] }, { accessFlags := 24, nameIndex := 40, descriptorIndex := 26, attributes := #[] }, { accessFlags := 26, nameIndex := 1101, descriptorIndex := 1102, attributes := #[] }, { accessFlags := 26, nameIndex := 1121, descriptorIndex := 1122, attributes := #[] }, { accessFlags := 25, nameIndex := 599, descriptorIndex := 600, attributes := #[] }, { accessFlags := 24, nameIndex := 1125, descriptorIndex := 18, attributes := #[] }, { accessFlags := 24, nameIndex := 1127, descriptorIndex := 18, attributes := #[] }])
  fields := #[{ name := "value", type := (.array .byte), accessFlags := 18, slot := 0, constantValue := 0 }, { name := "coder", type := .byte, accessFlags := 18, slot := 1, constantValue := 0 }, { name := "hash", type := .int, accessFlags := 2, slot := 2, constantValue := 0 }, { name := "hashIsZero", type := .boolean, accessFlags := 2, slot := 3, constantValue := 0 }, { name := "serialVersionUID", type := .long, accessFlags := 26, slot := 0, constantValue := 0 }, { name := "COMPACT_STRINGS", type := .boolean, accessFlags := 24, slot := 1, constantValue := 0 }, { name := "serialPersistentFields", type := (.array (.object "java/io/ObjectStreamField")), accessFlags := 26, slot := 2, constantValue := 0 }, { name := "REPL", type := .char, accessFlags := 26, slot := 3, constantValue := 0 }, { name := "CASE_INSENSITIVE_ORDER", type := (.object "java/util/Comparator"), accessFlags := 25, slot := 4, constantValue := 0 }, { name := "LATIN1", type := .byte, accessFlags := 24, slot := 5, constantValue := 0 }, { name := "UTF16", type := .byte, accessFlags := 24, slot := 6, constantValue := 0 }]
  methods := #[k9m0]
  instanceTypes := #[(.array .byte), .byte, .int, .boolean]
  staticTypes := #[.long, .boolean, (.array (.object "java/io/ObjectStreamField")), .char, (.object "java/util/Comparator"), .byte, .byte]
  resolved := Array.replicate 1451 none
  statics := none }

def pool10 : Array CpInfo := pool [(1, .methodref 2 3), (0, .class_ 4), (0, .nameAndType 5 6), (0, u "java/lang/Object"), (0, u "<init>"), (0, u "()V"), (1, .class_ 10), (1, u "java/lang/Number"), (2, .class_ 14), (0, u "java/io/Serializable"), (0, u "serialVersionUID"), (0, u "J")] 20

def k10c0 : Code := { maxStack := 1, maxLocals := 1, code := jdk_18_method_1_code, exceptionTable := #[], attributes := #[] }
def k10m0 : Method := { name := "<init>", desc := "()V", sig := { parameters := [], returnType := none }, accessFlags := 1, code := some k10c0 }
/-- java/lang/Number -/
def k10 : Class := { plain "java/lang/Number" (some 0) with
  accessFlags := 1057
  interfaces := #[4]
  cf := some (fileOf pool10 8 #[] #[{ accessFlags := 1, nameIndex := 5, descriptorIndex := 6, attributes := #[] }] 1057 2 #[13] #[{ accessFlags := 26, nameIndex := 15, descriptorIndex := 16, attributes := #[] }])
  fields := #[{ name := "serialVersionUID", type := .long, accessFlags := 26, slot := 0, constantValue := 0 }]
  methods := #[k10m0]
  instanceTypes := #[]
  staticTypes := #[.long]
  resolved := Array.replicate 37 none
  statics := none }

def pool11 : Array CpInfo := pool [(1, .class_ 2), (0, u "java/lang/Long"), (55, .nameAndType 59 60), (0, u "<init>"), (0, u "()V"), (24, u "valueOf"), (143, u "(J)Ljava/lang/Long;"), (0, .long 18446744073709551488), (1, .long 127), (1, .fieldref 235 236), (0, .class_ 237), (0, .nameAndType 238 239), (0, u "java/lang/Long$LongCache"), (0, u "cache"), (0, u "[Ljava/lang/Long;"), (0, .methodref 1 241), (0, .nameAndType 59 242), (0, u "(J)V"), (27, .methodref 271 58), (0, .class_ 272), (0, u "java/lang/Number"), (0, .fieldref 1 274), (0, .nameAndType 275 276), (0, u "value"), (0, u "J"), (5, u "longValue"), (0, u "()J"), (77, u "TYPE"), (0, u "Ljava/lang/Class;"), (0, .class_ 364), (0, u "java/lang/Comparable"), (0, .class_ 366), (0, u "java/lang/constant/Constable"), (0, .class_ 368), (0, u "java/lang/constant/ConstantDesc"), (0, u "MIN_VALUE"), (1, u "MAX_VALUE"), (4, u "SIZE"), (0, u "I"), (1, u "BYTES"), (1, u "serialVersionUID")] 142

def k11c0 : Code := { maxStack := 4, maxLocals := 3, code := jdk_35_method_24_code, exceptionTable := #[], attributes := #[] }
def k11m0 : Method := { name := "valueOf", desc := "(J)Ljava/lang/Long;", sig := { parameters := [.long], returnType := some (.object "java/lang/Long") }, accessFlags := 9, code := some k11c0 }
def k11c1 : Code := { maxStack := 3, maxLocals := 3, code := jdk_35_method_26_code, exceptionTable := #[], attributes := #[] }
def k11m1 : Method := { name := "<init>", desc := "(J)V", sig := { parameters := [.long], returnType := none }, accessFlags := 1, code := some k11c1 }
def k11c2 : Code := { maxStack := 2, maxLocals := 1, code := jdk_35_method_31_code, exceptionTable := #[], attributes := #[] }
def k11m2 : Method := { name := "longValue", desc := "()J", sig := { parameters := [], returnType := some .long }, accessFlags := 1, code := some k11c2 }
/-- java/lang/Long -/
def k11 : Class := { plain "java/lang/Long" (some 10) with
  accessFlags := 49
  interfaces := #[5, 7, 8]
  cf := some (fileOf pool11 1 #[.nestMembers #[235]] #[{ accessFlags := 9, nameIndex := 85, descriptorIndex := 229, attributes := #[] }, { accessFlags := 1, nameIndex := 59, descriptorIndex := 242, attributes := #[] }, { accessFlags := 1, nameIndex := 282, descriptorIndex := 283, attributes := #[] }] 49 271 #[363, 365, 367] #[{ accessFlags := 25, nameIndex := 369, descriptorIndex := 276, attributes := #[] }, { accessFlags := 25, nameIndex := 371, descriptorIndex := 276, attributes := #[] }, { accessFlags := 25, nameIndex := 361, descriptorIndex := 362, attributes := #[] }, { accessFlags := 18, nameIndex := 275, descriptorIndex := 276, attributes := #[] }, { accessFlags := 25, nameIndex := 376, descriptorIndex := 377, attributes := #[] }, { accessFlags := 25, nameIndex := 379, descriptorIndex := 377, attributes := #[] }, { accessFlags := 26, nameIndex := 381, descriptorIndex := 276, attributes := #[] }])
  fields := #[{ name := "MIN_VALUE", type := .long, accessFlags := 25, slot := 0, constantValue := 0 }, { name := "MAX_VALUE", type := .long, accessFlags := 25, slot := 1, constantValue := 0 }, { name := "TYPE", type := (.object "java/lang/Class"), accessFlags := 25, slot := 2, constantValue := 0 }, { name := "value", type := .long, accessFlags := 18, slot := 0, constantValue := 0 }, { name := "SIZE", type := .int, accessFlags := 25, slot := 3, constantValue := 0 }, { name := "BYTES", type := .int, accessFlags := 25, slot := 4, constantValue := 0 }, { name := "serialVersionUID", type := .long, accessFlags := 26, slot := 5, constantValue := 0 }]
  methods := #[k11m0, k11m1, k11m2]
  instanceTypes := #[.long]
  staticTypes := #[.long, .long, (.object "java/lang/Class"), .int, .int, .long]
  resolved := Array.replicate 524 none
  statics := none }

def pool12 : Array CpInfo := pool [(2, .class_ 4), (1, u "java/lang/Object"), (0, u "<init>"), (0, u "()V"), (0, .class_ 8), (0, u "java/lang/Long"), (7, .class_ 18), (1, u "java/lang/Long$LongCache"), (0, u "$assertionsDisabled"), (0, u "Z"), (8, u "archivedCache"), (0, u "[Ljava/lang/Long;"), (7, u "cache")] 24

def k12m0 : Method := { name := "<init>", desc := "()V", sig := { parameters := [], returnType := none }, accessFlags := 2, code := none }
/-- java/lang/Long$LongCache -/
def k12 : Class := { plain "java/lang/Long$LongCache" (some 0) with
  accessFlags := 48
  interfaces := #[]
  cf := some (fileOf pool12 16 #[.nestHost 7] #[{ accessFlags := 2, nameIndex := 5, descriptorIndex := 6, attributes := #[] }] 48 2 #[] #[{ accessFlags := 24, nameIndex := 38, descriptorIndex := 30, attributes := #[] }, { accessFlags := 8, nameIndex := 29, descriptorIndex := 30, attributes := #[] }, { accessFlags := 4120, nameIndex := 19, descriptorIndex := 20, attributes := #[] }])
  fields := #[{ name := "cache", type := (.array (.object "java/lang/Long")), accessFlags := 24, slot := 0, constantValue := 0 }, { name := "archivedCache", type := (.array (.object "java/lang/Long")), accessFlags := 8, slot := 1, constantValue := 0 }, { name := "$assertionsDisabled", type := .boolean, accessFlags := 4120, slot := 2, constantValue := 0 }]
  methods := #[k12m0]
  instanceTypes := #[]
  staticTypes := #[(.array (.object "java/lang/Long")), (.array (.object "java/lang/Long")), .boolean]
  resolved := Array.replicate 63 none
  statics := some 0 }

def pool13 : Array CpInfo := pool [(1, u "java/lang/Cloneable"), (0, .class_ 1), (0, u "java/lang/Object"), (0, .class_ 3)] 3

/-- java/lang/Cloneable -/
def k13 : Class := { plain "java/lang/Cloneable" (some 0) with
  accessFlags := 1537
  interfaces := #[]
  cf := some (fileOf pool13 2 #[] #[] 1537 4 #[] #[])
  fields := #[]
  methods := #[]
  instanceTypes := #[]
  staticTypes := #[]
  resolved := Array.replicate 8 none
  statics := none }

/-- the primitive byte -/
def k14 : Class := { plain "byte" none with kind := .primitive 'B', accessFlags := 0x411 }
/-- [B -/
def k15 : Class := { plain "[B" (some 0) with kind := .array 14 .byte, interfaces := #[13, 4], accessFlags := 1041 }

/-- the primitive int -/
def k16 : Class := { plain "int" none with kind := .primitive 'I', accessFlags := 0x411 }
/-- [I -/
def k17 : Class := { plain "[I" (some 0) with kind := .array 16 .int, interfaces := #[13, 4], accessFlags := 1041 }

/-- the primitive long -/
def k18 : Class := { plain "long" none with kind := .primitive 'J', accessFlags := 0x411 }
/-- [J -/
def k19 : Class := { plain "[J" (some 0) with kind := .array 18 .long, interfaces := #[13, 4], accessFlags := 1041 }

/-- [Ljava/lang/Long; -/
def k20 : Class := { plain "[Ljava/lang/Long;" (some 0) with kind := .array 11 (.object "java/lang/Long"), interfaces := #[13, 4], accessFlags := 1041 }

def heap : Heap := #[{ cls := 12, slots := #[.ref 1, .null, .int 0], vm := .statics 12 },
  { cls := 20, slots := #[.ref 2, .ref 3, .ref 4, .ref 5, .ref 6, .ref 7, .ref 8, .ref 9, .ref 10, .ref 11, .ref 12, .ref 13, .ref 14, .ref 15, .ref 16, .ref 17, .ref 18, .ref 19, .ref 20, .ref 21, .ref 22, .ref 23, .ref 24, .ref 25, .ref 26, .ref 27, .ref 28, .ref 29, .ref 30, .ref 31, .ref 32, .ref 33, .ref 34, .ref 35, .ref 36, .ref 37, .ref 38, .ref 39, .ref 40, .ref 41, .ref 42, .ref 43, .ref 44, .ref 45, .ref 46, .ref 47, .ref 48, .ref 49, .ref 50, .ref 51, .ref 52, .ref 53, .ref 54, .ref 55, .ref 56, .ref 57, .ref 58, .ref 59, .ref 60, .ref 61, .ref 62, .ref 63, .ref 64, .ref 65, .ref 66, .ref 67, .ref 68, .ref 69, .ref 70, .ref 71, .ref 72, .ref 73, .ref 74, .ref 75, .ref 76, .ref 77, .ref 78, .ref 79, .ref 80, .ref 81, .ref 82, .ref 83, .ref 84, .ref 85, .ref 86, .ref 87, .ref 88, .ref 89, .ref 90, .ref 91, .ref 92, .ref 93, .ref 94, .ref 95, .ref 96, .ref 97, .ref 98, .ref 99, .ref 100, .ref 101, .ref 102, .ref 103, .ref 104, .ref 105, .ref 106, .ref 107, .ref 108, .ref 109, .ref 110, .ref 111, .ref 112, .ref 113, .ref 114, .ref 115, .ref 116, .ref 117, .ref 118, .ref 119, .ref 120, .ref 121, .ref 122, .ref 123, .ref 124, .ref 125, .ref 126, .ref 127, .ref 128, .ref 129, .ref 130, .ref 131, .ref 132, .ref 133, .ref 134, .ref 135, .ref 136, .ref 137, .ref 138, .ref 139, .ref 140, .ref 141, .ref 142, .ref 143, .ref 144, .ref 145, .ref 146, .ref 147, .ref 148, .ref 149, .ref 150, .ref 151, .ref 152, .ref 153, .ref 154, .ref 155, .ref 156, .ref 157, .ref 158, .ref 159, .ref 160, .ref 161, .ref 162, .ref 163, .ref 164, .ref 165, .ref 166, .ref 167, .ref 168, .ref 169, .ref 170, .ref 171, .ref 172, .ref 173, .ref 174, .ref 175, .ref 176, .ref 177, .ref 178, .ref 179, .ref 180, .ref 181, .ref 182, .ref 183, .ref 184, .ref 185, .ref 186, .ref 187, .ref 188, .ref 189, .ref 190, .ref 191, .ref 192, .ref 193, .ref 194, .ref 195, .ref 196, .ref 197, .ref 198, .ref 199, .ref 200, .ref 201, .ref 202, .ref 203, .ref 204, .ref 205, .ref 206, .ref 207, .ref 208, .ref 209, .ref 210, .ref 211, .ref 212, .ref 213, .ref 214, .ref 215, .ref 216, .ref 217, .ref 218, .ref 219, .ref 220, .ref 221, .ref 222, .ref 223, .ref 224, .ref 225, .ref 226, .ref 227, .ref 228, .ref 229, .ref 230, .ref 231, .ref 232, .ref 233, .ref 234, .ref 235, .ref 236, .ref 237, .ref 238, .ref 239, .ref 240, .ref 241, .ref 242, .ref 243, .ref 244, .ref 245, .ref 246, .ref 247, .ref 248, .ref 249, .ref 250, .ref 251, .ref 252, .ref 253, .ref 254, .ref 255, .ref 256, .ref 257], vm := .none },
  { cls := 11, slots := #[.long (-128)], vm := .none },
  { cls := 11, slots := #[.long (-127)], vm := .none },
  { cls := 11, slots := #[.long (-126)], vm := .none },
  { cls := 11, slots := #[.long (-125)], vm := .none },
  { cls := 11, slots := #[.long (-124)], vm := .none },
  { cls := 11, slots := #[.long (-123)], vm := .none },
  { cls := 11, slots := #[.long (-122)], vm := .none },
  { cls := 11, slots := #[.long (-121)], vm := .none },
  { cls := 11, slots := #[.long (-120)], vm := .none },
  { cls := 11, slots := #[.long (-119)], vm := .none },
  { cls := 11, slots := #[.long (-118)], vm := .none },
  { cls := 11, slots := #[.long (-117)], vm := .none },
  { cls := 11, slots := #[.long (-116)], vm := .none },
  { cls := 11, slots := #[.long (-115)], vm := .none },
  { cls := 11, slots := #[.long (-114)], vm := .none },
  { cls := 11, slots := #[.long (-113)], vm := .none },
  { cls := 11, slots := #[.long (-112)], vm := .none },
  { cls := 11, slots := #[.long (-111)], vm := .none },
  { cls := 11, slots := #[.long (-110)], vm := .none },
  { cls := 11, slots := #[.long (-109)], vm := .none },
  { cls := 11, slots := #[.long (-108)], vm := .none },
  { cls := 11, slots := #[.long (-107)], vm := .none },
  { cls := 11, slots := #[.long (-106)], vm := .none },
  { cls := 11, slots := #[.long (-105)], vm := .none },
  { cls := 11, slots := #[.long (-104)], vm := .none },
  { cls := 11, slots := #[.long (-103)], vm := .none },
  { cls := 11, slots := #[.long (-102)], vm := .none },
  { cls := 11, slots := #[.long (-101)], vm := .none },
  { cls := 11, slots := #[.long (-100)], vm := .none },
  { cls := 11, slots := #[.long (-99)], vm := .none },
  { cls := 11, slots := #[.long (-98)], vm := .none },
  { cls := 11, slots := #[.long (-97)], vm := .none },
  { cls := 11, slots := #[.long (-96)], vm := .none },
  { cls := 11, slots := #[.long (-95)], vm := .none },
  { cls := 11, slots := #[.long (-94)], vm := .none },
  { cls := 11, slots := #[.long (-93)], vm := .none },
  { cls := 11, slots := #[.long (-92)], vm := .none },
  { cls := 11, slots := #[.long (-91)], vm := .none },
  { cls := 11, slots := #[.long (-90)], vm := .none },
  { cls := 11, slots := #[.long (-89)], vm := .none },
  { cls := 11, slots := #[.long (-88)], vm := .none },
  { cls := 11, slots := #[.long (-87)], vm := .none },
  { cls := 11, slots := #[.long (-86)], vm := .none },
  { cls := 11, slots := #[.long (-85)], vm := .none },
  { cls := 11, slots := #[.long (-84)], vm := .none },
  { cls := 11, slots := #[.long (-83)], vm := .none },
  { cls := 11, slots := #[.long (-82)], vm := .none },
  { cls := 11, slots := #[.long (-81)], vm := .none },
  { cls := 11, slots := #[.long (-80)], vm := .none },
  { cls := 11, slots := #[.long (-79)], vm := .none },
  { cls := 11, slots := #[.long (-78)], vm := .none },
  { cls := 11, slots := #[.long (-77)], vm := .none },
  { cls := 11, slots := #[.long (-76)], vm := .none },
  { cls := 11, slots := #[.long (-75)], vm := .none },
  { cls := 11, slots := #[.long (-74)], vm := .none },
  { cls := 11, slots := #[.long (-73)], vm := .none },
  { cls := 11, slots := #[.long (-72)], vm := .none },
  { cls := 11, slots := #[.long (-71)], vm := .none },
  { cls := 11, slots := #[.long (-70)], vm := .none },
  { cls := 11, slots := #[.long (-69)], vm := .none },
  { cls := 11, slots := #[.long (-68)], vm := .none },
  { cls := 11, slots := #[.long (-67)], vm := .none },
  { cls := 11, slots := #[.long (-66)], vm := .none },
  { cls := 11, slots := #[.long (-65)], vm := .none },
  { cls := 11, slots := #[.long (-64)], vm := .none },
  { cls := 11, slots := #[.long (-63)], vm := .none },
  { cls := 11, slots := #[.long (-62)], vm := .none },
  { cls := 11, slots := #[.long (-61)], vm := .none },
  { cls := 11, slots := #[.long (-60)], vm := .none },
  { cls := 11, slots := #[.long (-59)], vm := .none },
  { cls := 11, slots := #[.long (-58)], vm := .none },
  { cls := 11, slots := #[.long (-57)], vm := .none },
  { cls := 11, slots := #[.long (-56)], vm := .none },
  { cls := 11, slots := #[.long (-55)], vm := .none },
  { cls := 11, slots := #[.long (-54)], vm := .none },
  { cls := 11, slots := #[.long (-53)], vm := .none },
  { cls := 11, slots := #[.long (-52)], vm := .none },
  { cls := 11, slots := #[.long (-51)], vm := .none },
  { cls := 11, slots := #[.long (-50)], vm := .none },
  { cls := 11, slots := #[.long (-49)], vm := .none },
  { cls := 11, slots := #[.long (-48)], vm := .none },
  { cls := 11, slots := #[.long (-47)], vm := .none },
  { cls := 11, slots := #[.long (-46)], vm := .none },
  { cls := 11, slots := #[.long (-45)], vm := .none },
  { cls := 11, slots := #[.long (-44)], vm := .none },
  { cls := 11, slots := #[.long (-43)], vm := .none },
  { cls := 11, slots := #[.long (-42)], vm := .none },
  { cls := 11, slots := #[.long (-41)], vm := .none },
  { cls := 11, slots := #[.long (-40)], vm := .none },
  { cls := 11, slots := #[.long (-39)], vm := .none },
  { cls := 11, slots := #[.long (-38)], vm := .none },
  { cls := 11, slots := #[.long (-37)], vm := .none },
  { cls := 11, slots := #[.long (-36)], vm := .none },
  { cls := 11, slots := #[.long (-35)], vm := .none },
  { cls := 11, slots := #[.long (-34)], vm := .none },
  { cls := 11, slots := #[.long (-33)], vm := .none },
  { cls := 11, slots := #[.long (-32)], vm := .none },
  { cls := 11, slots := #[.long (-31)], vm := .none },
  { cls := 11, slots := #[.long (-30)], vm := .none },
  { cls := 11, slots := #[.long (-29)], vm := .none },
  { cls := 11, slots := #[.long (-28)], vm := .none },
  { cls := 11, slots := #[.long (-27)], vm := .none },
  { cls := 11, slots := #[.long (-26)], vm := .none },
  { cls := 11, slots := #[.long (-25)], vm := .none },
  { cls := 11, slots := #[.long (-24)], vm := .none },
  { cls := 11, slots := #[.long (-23)], vm := .none },
  { cls := 11, slots := #[.long (-22)], vm := .none },
  { cls := 11, slots := #[.long (-21)], vm := .none },
  { cls := 11, slots := #[.long (-20)], vm := .none },
  { cls := 11, slots := #[.long (-19)], vm := .none },
  { cls := 11, slots := #[.long (-18)], vm := .none },
  { cls := 11, slots := #[.long (-17)], vm := .none },
  { cls := 11, slots := #[.long (-16)], vm := .none },
  { cls := 11, slots := #[.long (-15)], vm := .none },
  { cls := 11, slots := #[.long (-14)], vm := .none },
  { cls := 11, slots := #[.long (-13)], vm := .none },
  { cls := 11, slots := #[.long (-12)], vm := .none },
  { cls := 11, slots := #[.long (-11)], vm := .none },
  { cls := 11, slots := #[.long (-10)], vm := .none },
  { cls := 11, slots := #[.long (-9)], vm := .none },
  { cls := 11, slots := #[.long (-8)], vm := .none },
  { cls := 11, slots := #[.long (-7)], vm := .none },
  { cls := 11, slots := #[.long (-6)], vm := .none },
  { cls := 11, slots := #[.long (-5)], vm := .none },
  { cls := 11, slots := #[.long (-4)], vm := .none },
  { cls := 11, slots := #[.long (-3)], vm := .none },
  { cls := 11, slots := #[.long (-2)], vm := .none },
  { cls := 11, slots := #[.long (-1)], vm := .none },
  { cls := 11, slots := #[.long 0], vm := .none },
  { cls := 11, slots := #[.long 1], vm := .none },
  { cls := 11, slots := #[.long 2], vm := .none },
  { cls := 11, slots := #[.long 3], vm := .none },
  { cls := 11, slots := #[.long 4], vm := .none },
  { cls := 11, slots := #[.long 5], vm := .none },
  { cls := 11, slots := #[.long 6], vm := .none },
  { cls := 11, slots := #[.long 7], vm := .none },
  { cls := 11, slots := #[.long 8], vm := .none },
  { cls := 11, slots := #[.long 9], vm := .none },
  { cls := 11, slots := #[.long 10], vm := .none },
  { cls := 11, slots := #[.long 11], vm := .none },
  { cls := 11, slots := #[.long 12], vm := .none },
  { cls := 11, slots := #[.long 13], vm := .none },
  { cls := 11, slots := #[.long 14], vm := .none },
  { cls := 11, slots := #[.long 15], vm := .none },
  { cls := 11, slots := #[.long 16], vm := .none },
  { cls := 11, slots := #[.long 17], vm := .none },
  { cls := 11, slots := #[.long 18], vm := .none },
  { cls := 11, slots := #[.long 19], vm := .none },
  { cls := 11, slots := #[.long 20], vm := .none },
  { cls := 11, slots := #[.long 21], vm := .none },
  { cls := 11, slots := #[.long 22], vm := .none },
  { cls := 11, slots := #[.long 23], vm := .none },
  { cls := 11, slots := #[.long 24], vm := .none },
  { cls := 11, slots := #[.long 25], vm := .none },
  { cls := 11, slots := #[.long 26], vm := .none },
  { cls := 11, slots := #[.long 27], vm := .none },
  { cls := 11, slots := #[.long 28], vm := .none },
  { cls := 11, slots := #[.long 29], vm := .none },
  { cls := 11, slots := #[.long 30], vm := .none },
  { cls := 11, slots := #[.long 31], vm := .none },
  { cls := 11, slots := #[.long 32], vm := .none },
  { cls := 11, slots := #[.long 33], vm := .none },
  { cls := 11, slots := #[.long 34], vm := .none },
  { cls := 11, slots := #[.long 35], vm := .none },
  { cls := 11, slots := #[.long 36], vm := .none },
  { cls := 11, slots := #[.long 37], vm := .none },
  { cls := 11, slots := #[.long 38], vm := .none },
  { cls := 11, slots := #[.long 39], vm := .none },
  { cls := 11, slots := #[.long 40], vm := .none },
  { cls := 11, slots := #[.long 41], vm := .none },
  { cls := 11, slots := #[.long 42], vm := .none },
  { cls := 11, slots := #[.long 43], vm := .none },
  { cls := 11, slots := #[.long 44], vm := .none },
  { cls := 11, slots := #[.long 45], vm := .none },
  { cls := 11, slots := #[.long 46], vm := .none },
  { cls := 11, slots := #[.long 47], vm := .none },
  { cls := 11, slots := #[.long 48], vm := .none },
  { cls := 11, slots := #[.long 49], vm := .none },
  { cls := 11, slots := #[.long 50], vm := .none },
  { cls := 11, slots := #[.long 51], vm := .none },
  { cls := 11, slots := #[.long 52], vm := .none },
  { cls := 11, slots := #[.long 53], vm := .none },
  { cls := 11, slots := #[.long 54], vm := .none },
  { cls := 11, slots := #[.long 55], vm := .none },
  { cls := 11, slots := #[.long 56], vm := .none },
  { cls := 11, slots := #[.long 57], vm := .none },
  { cls := 11, slots := #[.long 58], vm := .none },
  { cls := 11, slots := #[.long 59], vm := .none },
  { cls := 11, slots := #[.long 60], vm := .none },
  { cls := 11, slots := #[.long 61], vm := .none },
  { cls := 11, slots := #[.long 62], vm := .none },
  { cls := 11, slots := #[.long 63], vm := .none },
  { cls := 11, slots := #[.long 64], vm := .none },
  { cls := 11, slots := #[.long 65], vm := .none },
  { cls := 11, slots := #[.long 66], vm := .none },
  { cls := 11, slots := #[.long 67], vm := .none },
  { cls := 11, slots := #[.long 68], vm := .none },
  { cls := 11, slots := #[.long 69], vm := .none },
  { cls := 11, slots := #[.long 70], vm := .none },
  { cls := 11, slots := #[.long 71], vm := .none },
  { cls := 11, slots := #[.long 72], vm := .none },
  { cls := 11, slots := #[.long 73], vm := .none },
  { cls := 11, slots := #[.long 74], vm := .none },
  { cls := 11, slots := #[.long 75], vm := .none },
  { cls := 11, slots := #[.long 76], vm := .none },
  { cls := 11, slots := #[.long 77], vm := .none },
  { cls := 11, slots := #[.long 78], vm := .none },
  { cls := 11, slots := #[.long 79], vm := .none },
  { cls := 11, slots := #[.long 80], vm := .none },
  { cls := 11, slots := #[.long 81], vm := .none },
  { cls := 11, slots := #[.long 82], vm := .none },
  { cls := 11, slots := #[.long 83], vm := .none },
  { cls := 11, slots := #[.long 84], vm := .none },
  { cls := 11, slots := #[.long 85], vm := .none },
  { cls := 11, slots := #[.long 86], vm := .none },
  { cls := 11, slots := #[.long 87], vm := .none },
  { cls := 11, slots := #[.long 88], vm := .none },
  { cls := 11, slots := #[.long 89], vm := .none },
  { cls := 11, slots := #[.long 90], vm := .none },
  { cls := 11, slots := #[.long 91], vm := .none },
  { cls := 11, slots := #[.long 92], vm := .none },
  { cls := 11, slots := #[.long 93], vm := .none },
  { cls := 11, slots := #[.long 94], vm := .none },
  { cls := 11, slots := #[.long 95], vm := .none },
  { cls := 11, slots := #[.long 96], vm := .none },
  { cls := 11, slots := #[.long 97], vm := .none },
  { cls := 11, slots := #[.long 98], vm := .none },
  { cls := 11, slots := #[.long 99], vm := .none },
  { cls := 11, slots := #[.long 100], vm := .none },
  { cls := 11, slots := #[.long 101], vm := .none },
  { cls := 11, slots := #[.long 102], vm := .none },
  { cls := 11, slots := #[.long 103], vm := .none },
  { cls := 11, slots := #[.long 104], vm := .none },
  { cls := 11, slots := #[.long 105], vm := .none },
  { cls := 11, slots := #[.long 106], vm := .none },
  { cls := 11, slots := #[.long 107], vm := .none },
  { cls := 11, slots := #[.long 108], vm := .none },
  { cls := 11, slots := #[.long 109], vm := .none },
  { cls := 11, slots := #[.long 110], vm := .none },
  { cls := 11, slots := #[.long 111], vm := .none },
  { cls := 11, slots := #[.long 112], vm := .none },
  { cls := 11, slots := #[.long 113], vm := .none },
  { cls := 11, slots := #[.long 114], vm := .none },
  { cls := 11, slots := #[.long 115], vm := .none },
  { cls := 11, slots := #[.long 116], vm := .none },
  { cls := 11, slots := #[.long 117], vm := .none },
  { cls := 11, slots := #[.long 118], vm := .none },
  { cls := 11, slots := #[.long 119], vm := .none },
  { cls := 11, slots := #[.long 120], vm := .none },
  { cls := 11, slots := #[.long 121], vm := .none },
  { cls := 11, slots := #[.long 122], vm := .none },
  { cls := 11, slots := #[.long 123], vm := .none },
  { cls := 11, slots := #[.long 124], vm := .none },
  { cls := 11, slots := #[.long 125], vm := .none },
  { cls := 11, slots := #[.long 126], vm := .none },
  { cls := 11, slots := #[.long 127], vm := .none }]
def classes : Array Class := #[k0, k1, k2, k3, k4, k5, k6, k7, k8, k9, k10, k11, k12, k13, k14, k15, k16, k17, k18, k19, k20]
def interned : List (Array UInt16 × Addr) := []
def slotsUsed : Nat := 515
def theMethod : MethodId := ⟨1, 1⟩
def args0 : Array Value := #[.int 5, .long 5, .long 5, .long 5]
def aboutOver (below : List Frame) : State where
  vm := { classes := classes, interned := interned.toArray }
  heap := heap
  slotsUsed := slotsUsed
  threads := #[{ frames := .invoking theMethod args0 :: below }]
def below0 : List Frame := [.native { method := ⟨0, 0⟩, args := #[] }]
def about1 : State := aboutOver below0
def p0 : Program := .bare "" "" ""
def e0 : Env := launch0.env 0 0 0
theorem w_frames : about1.frames = Frame.invoking theMethod args0 :: below0 := rfl
set_option maxRecDepth 65536 in
theorem w_args : argsFit about1.vm theMethod args0 = true := by decide +kernel
set_option maxRecDepth 65536 in
theorem w_heap : heapFits about1 = true := by decide +kernel
set_option maxRecDepth 65536 in
theorem w_runnable : about1.curStatus? = some .runnable := by decide +kernel
set_option maxRecDepth 65536 in
theorem w_alone : about1.alone = true := by decide +kernel
set_option maxRecDepth 65536 in
theorem w_named : about1.methodNamed? x = some theMethod := by decide +kernel
set_option maxRecDepth 65536 in
theorem w_hears : about1.hears theMethod below0 = true := by decide +kernel
set_option maxRecDepth 65536 in
theorem w_ripe : about1.ripe theMethod args0 below0 = true := by decide +kernel
theorem w_running : about1.status = .running := rfl
set_option maxRecDepth 65536 in
theorem w_room : about1.hasRoom e0.platform room_1 = true :=
  launch0.hasRoom_least _ room_1 (by decide +kernel) (by decide +kernel) (by decide +kernel) (by decide +kernel) (by decide +kernel) (by decide +kernel)
theorem allAtoms_all (ts : List Jvm.Cond) (a : Array Jvm.Value) (st : Jvm.State) : (allAtoms ts).before a st = ts.all (fun c => c.before a st) := by
  induction ts with
  | nil => rfl
  | cons c t ih =>
    show (Jvm.Cond.and c (allAtoms t)).before a st = _
    rw [Jvm.Cond.before_and, ih, List.all_cons]
def words1 : List Jvm.Cond := Jvm.Cond.code x code maxLocals ret :: tables_1
/-- a 'code' word, met by the world's own term for the bytes: nothing is compared byte by byte -/
theorem code_word {y : MethodName} {bytes : ByteArray} {mx : Nat} {rt : Option FieldType} {a : Array Value} {s : State} {m : MethodId} {meth : Method} {c : Code} (h1 : s.methodNamed? y = some m) (h2 : s.vm.method? m = some meth) (h3 : meth.code = some c) (h4 : c.code = bytes)
    (h5 : (c.maxLocals == mx && c.exceptionTable.isEmpty && decide (c.maxStack ≤ mostOperands) && decide (meth.sig.returnType = rt) && !meth.locks && decide (parseMethodDescriptor y.desc = some meth.sig)) = true) : (Jvm.Cond.code y bytes mx rt).before a s = true := by
  simp only [Bool.and_eq_true, beq_iff_eq, Bool.not_eq_true', decide_eq_true_eq] at h5
  obtain ⟨⟨⟨⟨⟨g1, g2⟩, g3⟩, g4⟩, g5⟩, g6⟩ := h5
  simp [Cond.before, Cond.holds, Cond.value, h1, h2, h3, h4, g1, g2, g3, g4, g5, g6]
def isCode : Jvm.Cond → Bool
  | .code _ _ _ _ => true
  | _ => false
theorem all_split {L : List Jvm.Cond} {P : Jvm.Cond → Bool} (h1 : L.all (fun c => isCode c || P c) = true) (h2 : ∀ c ∈ L.filter isCode, P c = true) : L.all P = true := by
  refine List.all_eq_true.mpr fun c hc => ?_
  have h := List.all_eq_true.mp h1 c hc
  rcases Bool.eq_false_or_eq_true (isCode c) with hi | hi
  · exact h2 c (List.mem_filter.mpr ⟨hc, hi⟩)
  · simpa [hi] using h
set_option maxRecDepth 65536 in
theorem w_c0 : (Jvm.Cond.code x code maxLocals ret).before args0 about1 = true := code_word (m := ⟨1, 1⟩) (meth := k1m1) (c := k1c1) (by decide +kernel) rfl rfl rfl (by decide +kernel)
set_option maxRecDepth 65536 in
theorem w_c1 : (Jvm.Cond.code ({ cls := "com/example/isolation_anomaly_finder/isolationanomalyfinder/Transaction$Read", name := "<init>", desc := "(Ljava/lang/String;[J)V" } : Jvm.MethodName) prog_56_method_1_code (3 : Nat) (Option.none : Option Jvm.ClassFile.FieldType)).before args0 about1 = true := code_word (m := ⟨3, 0⟩) (meth := k3m0) (c := k3c0) (by decide +kernel) rfl rfl rfl (by decide +kernel)
set_option maxRecDepth 65536 in
theorem w_c2 : (Jvm.Cond.code ({ cls := "java/lang/Object", name := "<init>", desc := "()V" } : Jvm.MethodName) object_method_1_code (1 : Nat) (Option.none : Option Jvm.ClassFile.FieldType)).before args0 about1 = true := code_word (m := ⟨0, 0⟩) (meth := k0m0) (c := k0c0) (by decide +kernel) rfl rfl rfl (by decide +kernel)
set_option maxRecDepth 65536 in
theorem w_c3 : (Jvm.Cond.code ({ cls := "com/example/isolation_anomaly_finder/isolationanomalyfinder/Transaction$Read", name := "last", desc := "()Ljava/lang/Long;" } : Jvm.MethodName) prog_56_method_5_code (1 : Nat) (Option.some (Jvm.ClassFile.FieldType.object "java/lang/Long"))).before args0 about1 = true := code_word (m := ⟨3, 1⟩) (meth := k3m1) (c := k3c1) (by decide +kernel) rfl rfl rfl (by decide +kernel)
set_option maxRecDepth 65536 in
theorem w_c4 : (Jvm.Cond.code ({ cls := "java/lang/Long", name := "valueOf", desc := "(J)Ljava/lang/Long;" } : Jvm.MethodName) jdk_35_method_24_code (3 : Nat) (Option.some (Jvm.ClassFile.FieldType.object "java/lang/Long"))).before args0 about1 = true := code_word (m := ⟨11, 0⟩) (meth := k11m0) (c := k11c0) (by decide +kernel) rfl rfl rfl (by decide +kernel)
set_option maxRecDepth 65536 in
theorem w_c5 : (Jvm.Cond.code ({ cls := "java/lang/Long", name := "<init>", desc := "(J)V" } : Jvm.MethodName) jdk_35_method_26_code (3 : Nat) (Option.none : Option Jvm.ClassFile.FieldType)).before args0 about1 = true := code_word (m := ⟨11, 1⟩) (meth := k11m1) (c := k11c1) (by decide +kernel) rfl rfl rfl (by decide +kernel)
set_option maxRecDepth 65536 in
theorem w_c6 : (Jvm.Cond.code ({ cls := "java/lang/Number", name := "<init>", desc := "()V" } : Jvm.MethodName) jdk_18_method_1_code (1 : Nat) (Option.none : Option Jvm.ClassFile.FieldType)).before args0 about1 = true := code_word (m := ⟨10, 0⟩) (meth := k10m0) (c := k10c0) (by decide +kernel) rfl rfl rfl (by decide +kernel)
set_option maxRecDepth 65536 in
theorem w_c7 : (Jvm.Cond.code ({ cls := "java/lang/Long", name := "longValue", desc := "()J" } : Jvm.MethodName) jdk_35_method_31_code (1 : Nat) (Option.some Jvm.ClassFile.FieldType.long)).before args0 about1 = true := code_word (m := ⟨11, 2⟩) (meth := k11m2) (c := k11c2) (by decide +kernel) rfl rfl rfl (by decide +kernel)
def codes1 : List Jvm.Cond := [Jvm.Cond.code x code maxLocals ret, Jvm.Cond.code ({ cls := "com/example/isolation_anomaly_finder/isolationanomalyfinder/Transaction$Read", name := "<init>", desc := "(Ljava/lang/String;[J)V" } : Jvm.MethodName) prog_56_method_1_code (3 : Nat) (Option.none : Option Jvm.ClassFile.FieldType), Jvm.Cond.code ({ cls := "java/lang/Object", name := "<init>", desc := "()V" } : Jvm.MethodName) object_method_1_code (1 : Nat) (Option.none : Option Jvm.ClassFile.FieldType), Jvm.Cond.code ({ cls := "com/example/isolation_anomaly_finder/isolationanomalyfinder/Transaction$Read", name := "last", desc := "()Ljava/lang/Long;" } : Jvm.MethodName) prog_56_method_5_code (1 : Nat) (Option.some (Jvm.ClassFile.FieldType.object "java/lang/Long")), Jvm.Cond.code ({ cls := "java/lang/Long", name := "valueOf", desc := "(J)Ljava/lang/Long;" } : Jvm.MethodName) jdk_35_method_24_code (3 : Nat) (Option.some (Jvm.ClassFile.FieldType.object "java/lang/Long")), Jvm.Cond.code ({ cls := "java/lang/Long", name := "<init>", desc := "(J)V" } : Jvm.MethodName) jdk_35_method_26_code (3 : Nat) (Option.none : Option Jvm.ClassFile.FieldType), Jvm.Cond.code ({ cls := "java/lang/Number", name := "<init>", desc := "()V" } : Jvm.MethodName) jdk_18_method_1_code (1 : Nat) (Option.none : Option Jvm.ClassFile.FieldType), Jvm.Cond.code ({ cls := "java/lang/Long", name := "longValue", desc := "()J" } : Jvm.MethodName) jdk_35_method_31_code (1 : Nat) (Option.some Jvm.ClassFile.FieldType.long)]
set_option maxRecDepth 65536 in
theorem codes_eq : words1.filter isCode = codes1 := rfl
theorem w_codes : ∀ c ∈ words1.filter isCode, c.before args0 about1 = true := by
  rw [codes_eq]
  intro c hc
  simp only [codes1, List.mem_cons, List.not_mem_nil, or_false] at hc
  rcases hc with rfl | rfl | rfl | rfl | rfl | rfl | rfl | rfl
  · exact w_c0
  · exact w_c1
  · exact w_c2
  · exact w_c3
  · exact w_c4
  · exact w_c5
  · exact w_c6
  · exact w_c7
set_option maxRecDepth 65536 in
theorem w_t1 : (words1.take 24).all (fun c => isCode c || c.before args0 about1) = true := by decide +kernel
set_option maxRecDepth 65536 in
theorem w_t2 : ((words1.drop 24).take 24).all (fun c => isCode c || c.before args0 about1) = true := by decide +kernel
set_option maxRecDepth 65536 in
theorem w_t3 : ((words1.drop 24).drop 24).all (fun c => isCode c || c.before args0 about1) = true := by decide +kernel
theorem w_tables : (allAtoms (Jvm.Cond.code x code maxLocals ret :: tables_1)).before args0 about1 = true := by
  rw [allAtoms_all]
  show words1.all (fun c => c.before args0 about1) = true
  refine all_split ?_ w_codes
  rw [← List.take_append_drop 24 words1, List.all_append, w_t1, ← List.take_append_drop 24 (words1.drop 24), List.all_append, w_t2, w_t3]
  rfl
set_option maxRecDepth 65536 in
theorem w_rest : rest_1_c.before args0 about1 = true := by decide +kernel
set_option maxRecDepth 65536 in
theorem w_case : (Jvm.Cond.and given_1 narrow_1).before args0 about1 = true := by decide +kernel
theorem w_applies : (headSpec (Jvm.Cond.code x code maxLocals ret :: tables_1) room_1).applies x e0.platform about1 = true :=
  (Spec.applies_iff w_frames).mpr ⟨w_running, w_runnable, w_alone, w_named, w_hears, w_ripe, w_room, w_tables⟩
theorem atStart : AtStart classFile x code maxLocals ret World_1 tables_1 room_1 Calls_1 rest_1 Pre_1 launch0 p0 e0 about1 theMethod args0 below0 :=
  ⟨lists_1, trivial, launch0.admits_env _ _ _, launch0.least_env, fairChoices_fair.cas, fairChoices_fair.clock, w_frames, w_args, w_heap, w_applies, trivial, w_rest, w_case⟩
end start1
theorem witness_1 : WitnessClaimed_1 := ⟨start1.p0, start1.e0, start1.about1, start1.theMethod, start1.args0, start1.below0, start1.atStart⟩
end Jvm.Pilot.@@N@@
