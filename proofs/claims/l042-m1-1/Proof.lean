import JvmDerived
import JvmDerived.Pilot.@@N@@Statement
import JvmDerived.Pilot.@@N@@Code
set_option linter.unusedVariables false
set_option linter.unusedSimpArgs false
namespace Jvm.Pilot.@@N@@
open Jvm Jvm.ClassFile Sem Op Lib Jvm.Free Jvm.Stand Jvm.LawKit Jvm.RoadKit Bundle Jvm.Pilot.@@N@@.Jvm.D
section OwnKit
variable {p : Program} {l : Launch} {e : Env} {R : Room} {s : State} {m : MethodId} {args : Array Value} {below : List Frame} {meth : Method} {c : Code} {T : State} {locs : List Loc} {cells slots : Nat} {Z : State} {a0 : Array Value} {h h0 : Heap} {pc : Nat} {Ls : Array Slot} {rest : List Value} {Q : Outcome → State → Prop}
def Go (p : Program) (e : Env) (below : List Frame) (T : State) (g : JFrame) (Q : Outcome → State → Prop) : Prop := ∃ s₂ o, Steps p.tables e below (T.setTop g) s₂ ∧ s₂.status = .running ∧ Ended s₂ below o ∧ Q o s₂
theorem Go.of {T' : State} {g g' : JFrame} (st : ∀ t, Steps p.tables e below (T'.setTop g') t → Steps p.tables e below (T.setTop g) t) (k : Go p e below T' g' Q) : Go p e below T g Q := by
  obtain ⟨a, b, h1, h2⟩ := k; exact ⟨a, b, st a h1, h2⟩
theorem o_iloadN (X : Stand p l e R s m args below meth c T locs cells slots) (hx : p.tables.exec = Jvm.exec) {k : Fin 4} {v : Int32} (hd : decode c.code pc = .ok (.iload_n k, 1)) (hl : Ls[k.val]? = some (.val (.int v))) (q : Go p e below T (mkF m (pc + 1) Ls (.int v :: rest)) Q) : Go p e below T (mkF m pc Ls (rest)) Q := Go.of (fun _ k => XS.iloadN X.here hx rfl hd hl k) q
theorem o_istoreN (X : Stand p l e R s m args below meth c T locs cells slots) (hx : p.tables.exec = Jvm.exec) {k : Fin 4} {v : Int32} {l' : Array Slot} (hd : decode c.code pc = .ok (.istore_n k, 1)) (hl : storeLocals Ls k.val (.int v) = some l') (q : Go p e below T (mkF m (pc + 1) l' (rest)) Q) : Go p e below T (mkF m pc Ls (.int v :: rest)) Q := Go.of (fun _ k => XS.istoreN X.here hx rfl hd rfl hl k) q
theorem o_aload (X : Stand p l e R s m args below meth c T locs cells slots) (hx : p.tables.exec = Jvm.exec) {k : Nat} {v : Value} (hd : decode c.code pc = .ok (.aload k, 2)) (hl : Ls[k]? = some (.val v)) (hv : v.isRef = true) (q : Go p e below T (mkF m (pc + 2) Ls (v :: rest)) Q) : Go p e below T (mkF m pc Ls (rest)) Q := Go.of (fun _ k => XS.aload X.here hx rfl hd hl hv k) q
theorem o_aloadN (X : Stand p l e R s m args below meth c T locs cells slots) (hx : p.tables.exec = Jvm.exec) {k : Fin 4} {v : Value} (hd : decode c.code pc = .ok (.aload_n k, 1)) (hl : Ls[k.val]? = some (.val v)) (hv : v.isRef = true) (q : Go p e below T (mkF m (pc + 1) Ls (v :: rest)) Q) : Go p e below T (mkF m pc Ls (rest)) Q := Go.of (fun _ k => XS.aloadN X.here hx rfl hd hl hv k) q
theorem o_astore (X : Stand p l e R s m args below meth c T locs cells slots) (hx : p.tables.exec = Jvm.exec) {k : Nat} {v : Value} {l' : Array Slot} (hd : decode c.code pc = .ok (.astore k, 2)) (hv : v.isRef = true) (hl : storeLocals Ls k v = some l') (q : Go p e below T (mkF m (pc + 2) l' (rest)) Q) : Go p e below T (mkF m pc Ls (v :: rest)) Q := Go.of (fun _ k => XS.astore X.here hx rfl hd rfl hv hl k) q
theorem o_astoreN (X : Stand p l e R s m args below meth c T locs cells slots) (hx : p.tables.exec = Jvm.exec) {k : Fin 4} {v : Value} {l' : Array Slot} (hd : decode c.code pc = .ok (.astore_n k, 1)) (hv : v.isRef = true) (hl : storeLocals Ls k.val v = some l') (q : Go p e below T (mkF m (pc + 1) l' (rest)) Q) : Go p e below T (mkF m pc Ls (v :: rest)) Q := Go.of (fun _ k => XS.astoreN X.here hx rfl hd rfl hv hl k) q
theorem o_iconst (X : Stand p l e R s m args below meth c T locs cells slots) (hx : p.tables.exec = Jvm.exec) {i : Int} (v : Int32) (hd : decode c.code pc = .ok (.iconst i, 1)) (hv : Int32.ofInt i = v) (q : Go p e below T (mkF m (pc + 1) Ls (.int v :: rest)) Q) : Go p e below T (mkF m pc Ls rest) Q := by
  subst hv
  exact Go.of (fun _ k => XS.iconst X.here hx rfl hd k) q
theorem o_aconst_null (X : Stand p l e R s m args below meth c T locs cells slots) (hx : p.tables.exec = Jvm.exec)  (hd : decode c.code pc = .ok (.aconst_null, 1)) (q : Go p e below T (mkF m (pc + 1) Ls (.null :: rest)) Q) : Go p e below T (mkF m pc Ls (rest)) Q := Go.of (fun _ k => XS.aconstNull X.here hx rfl hd k) q
theorem o_iand (X : Stand p l e R s m args below meth c T locs cells slots) (hx : p.tables.exec = Jvm.exec) {x y : Int32} (hd : decode c.code pc = .ok (.iand, 1)) (q : Go p e below T (mkF m (pc + 1) Ls (.int (x &&& y) :: rest)) Q) : Go p e below T (mkF m pc Ls (.int y :: .int x :: rest)) Q := Go.of (fun _ k => XS.iand X.here hx rfl hd rfl k) q
theorem o_irem (X : Stand p l e R s m args below meth c T locs cells slots) (hx : p.tables.exec = Jvm.exec) {x y : Int32} (hd : decode c.code pc = .ok (.irem, 1)) (hy : y ≠ 0) (q : Go p e below T (mkF m (pc + 1) Ls (.int (x % y) :: rest)) Q) : Go p e below T (mkF m pc Ls (.int y :: .int x :: rest)) Q := Go.of (fun _ k => iremM (g := mkF m pc Ls (.int y :: .int x :: rest)) X hx rfl hd rfl hy k) q
theorem o_dup (X : Stand p l e R s m args below meth c T locs cells slots) (hx : p.tables.exec = Jvm.exec) {v : Value} (hd : decode c.code pc = .ok (.dup, 1)) (hc : v.category = 1) (q : Go p e below T (mkF m (pc + 1) Ls (v :: v :: rest)) Q) : Go p e below T (mkF m pc Ls (v :: rest)) Q := Go.of (fun _ k => XS.dup X.here hx rfl hd rfl hc k) q
theorem o_goto (X : Stand p l e R s m args below meth c T locs cells slots) (hx : p.tables.exec = Jvm.exec) (pc' : Nat) {o : Int} (hd : decode c.code pc = .ok (.goto o, 3)) (ho : 0 ≤ (pc : Int) + o) (hp : ((pc : Int) + o).toNat = pc') (q : Go p e below T (mkF m pc' Ls rest) Q) : Go p e below T (mkF m pc Ls rest) Q := Go.of (fun _ k => XS.goto X.here hx rfl (pc0 := pc) rfl hd ho hp k) q
theorem o_ifYes (X : Stand p l e R s m args below meth c T locs cells slots) (hx : p.tables.exec = Jvm.exec) (pc' : Nat) {cd : ClassFile.Cond} {x : Int32} {o : Int} (hd : decode c.code pc = .ok (.ifCond cd o, 3)) (hc : ifCond.holds cd x = true) (ho : 0 ≤ (pc : Int) + o) (hp : ((pc : Int) + o).toNat = pc') (q : Go p e below T (mkF m pc' Ls rest) Q) : Go p e below T (mkF m pc Ls (.int x :: rest)) Q := Go.of (fun _ k => XS.ifYes X.here hx rfl (pc0 := pc) rfl hd rfl hc ho hp k) q
theorem o_ifNo (X : Stand p l e R s m args below meth c T locs cells slots) (hx : p.tables.exec = Jvm.exec) {cd : ClassFile.Cond} {x : Int32} {o : Int} (hd : decode c.code pc = .ok (.ifCond cd o, 3)) (hc : ifCond.holds cd x = false) (q : Go p e below T (mkF m (pc + 3) Ls rest) Q) : Go p e below T (mkF m pc Ls (.int x :: rest)) Q := Go.of (fun _ k => XS.ifNo X.here hx rfl hd rfl hc k) q
theorem o_icmpYes (X : Stand p l e R s m args below meth c T locs cells slots) (hx : p.tables.exec = Jvm.exec) (pc' : Nat) {cd : ClassFile.Cond} {x y : Int32} {o : Int} (hd : decode c.code pc = .ok (.if_icmp cd o, 3)) (hc : if_icmp.holds cd x y = true) (ho : 0 ≤ (pc : Int) + o) (hp : ((pc : Int) + o).toNat = pc') (q : Go p e below T (mkF m pc' Ls rest) Q) : Go p e below T (mkF m pc Ls (.int y :: .int x :: rest)) Q := Go.of (fun _ k => XS.icmpYes X.here hx rfl (pc0 := pc) rfl hd rfl hc ho hp k) q
theorem o_icmpNo (X : Stand p l e R s m args below meth c T locs cells slots) (hx : p.tables.exec = Jvm.exec) {cd : ClassFile.Cond} {x y : Int32} {o : Int} (hd : decode c.code pc = .ok (.if_icmp cd o, 3)) (hc : if_icmp.holds cd x y = false) (q : Go p e below T (mkF m (pc + 3) Ls rest) Q) : Go p e below T (mkF m pc Ls (.int y :: .int x :: rest)) Q := Go.of (fun _ k => XS.icmpNo X.here hx rfl hd rfl hc k) q
theorem o_ifnullNo (X : Stand p l e R s m args below meth c T locs cells slots) (hx : p.tables.exec = Jvm.exec) {o : Int} {b : Addr} (hd : decode c.code pc = .ok (.ifnull o, 3)) (q : Go p e below T (mkF m (pc + 3) Ls rest) Q) : Go p e below T (mkF m pc Ls (.ref b :: rest)) Q := Go.of (fun _ k => XS.ifnullNo X.here hx rfl hd rfl k) q
theorem o_acmp (X : Stand p l e R s m args below meth c T locs cells slots) (hx : p.tables.exec = Jvm.exec) (pc' : Nat) (same : Bool) {cd : ACond} {x y : Value} {o : Int} (h1 : x.isRef = true) (h2 : y.isRef = true) (hd : decode c.code pc = .ok (.if_acmp cd o, 3)) (hq : decide (x = y) = same) (ho : 0 ≤ (pc : Int) + o) (hp : pc' = if acV cd same = true then ((pc : Int) + o).toNat else pc + 3) (q : Go p e below T (mkF m pc' Ls rest) Q) : Go p e below T (mkF m pc Ls (y :: x :: rest)) Q := Go.of (fun _ k => Jvm.RoadKit.acmp (g := mkF m pc Ls (y :: x :: rest)) X hx rfl h1 h2 (pc0 := pc) rfl hd rfl hq ho hp k) q
theorem o_ldcI (X : Stand p l e R s m args below meth c T locs cells slots) (hx : p.tables.exec = Jvm.exec) (hZ : Z.Warmed39 s.vm) {own : String} {index : Nat} {v : Int32} (hown : s.vm.findClass own = some m.cls) (w : (Cond.constant own index v).before a0 Z = true) (hd : decode c.code pc = .ok (.ldc index, 2)) (q : Go p e below T (mkF m (pc + 2) Ls (.int v :: rest)) Q) : Go p e below T (mkF m pc Ls rest) Q := Go.of (fun t k => X.ldcInt hx hown (mvT hZ w) (g := mkF m pc Ls rest) rfl hd t k) q
theorem o_getS (X : Stand p l e R s m args below meth c T locs cells slots) (hx : p.tables.exec = Jvm.exec) (hZ : Z.Warmed39 s.vm) {own R0 O n d host : String} {index : Nat} (hown : s.vm.findClass own = some m.cls) (w : (Cond.fieldLink own index R0 n d).before a0 Z = true ∨ (Cond.fieldLinkNest own index R0 n d host).before a0 Z = true) (via : Via Z R0 O n d) (eT : T.heap = h) {v : Value} (F : Sta Z h O n d v) (hd : decode c.code pc = .ok (.getstatic index, 3))
    (q : ∀ T', Stand p l e R s m args below meth c T' locs cells slots → T'.heap = h → Go p e below T' (mkF m (pc + 3) Ls (v :: rest)) Q) : Go p e below T (mkF m pc Ls rest) Q := by
  obtain ⟨T', X', e', st⟩ := getS2 X hx hZ hown w via eT F (g := mkF m pc Ls rest) rfl hd
  exact Go.of st (q T' X' e')
theorem o_getF (X : Stand p l e R s m args below meth c T locs cells slots) (hx : p.tables.exec = Jvm.exec) (hZ : Z.Warmed39 s.vm) {own R0 O n d host : String} {index : Nat} (hown : s.vm.findClass own = some m.cls) (w : (Cond.fieldLink own index R0 n d).before a0 Z = true ∨ (Cond.fieldLinkNest own index R0 n d host).before a0 Z = true) (via : Via Z R0 O n d) (eT : T.heap = h) {a : Addr} {v : Value} (F : Fld Z h a O n d v) (hd : decode c.code pc = .ok (.getfield index, 3))
    (q : ∀ T', Stand p l e R s m args below meth c T' locs cells slots → T'.heap = h → Go p e below T' (mkF m (pc + 3) Ls (v :: rest)) Q) : Go p e below T (mkF m pc Ls (.ref a :: rest)) Q := by
  obtain ⟨T', X', e', st⟩ := getF X hx hZ hown w via eT F (g := mkF m pc Ls (.ref a :: rest)) rfl rfl hd
  exact Go.of st (q T' X' e')
theorem o_putF (X : Stand p l e R s m args below meth c T locs cells slots) (hx : p.tables.exec = Jvm.exec) (hZ : Z.Warmed39 s.vm) {own R0 O n d host C : String} {index kk : Nat} {ty : FieldType} (hown : s.vm.findClass own = some m.cls) (w : (Cond.fieldLink own index R0 n d).before a0 Z = true ∨ (Cond.fieldLinkNest own index R0 n d host).before a0 Z = true) (via : Via Z R0 O n d) (eT : T.heap = h) {a : Addr} {v old : Value} (F : Fld Z h a O n d old) (E : Exa Z h a C) (L : (Cond.lays C O n d).before a0 Z = true ∨ ((Cond.laysFinal C O n d).before a0 Z = true ∧ own = O ∧ meth.name = "<init>")) (wi : (Cond.instantiable C kk).before a0 Z = true)
    (hty : parseFieldDescriptor d = some ty) (hn : narrow ty v = v) (hf : fits ty v = true) (hd : decode c.code pc = .ok (.putfield index, 3))
    (q : ∀ T' h', Stand p l e R s m args below meth c T' (locs ++ [⟨a, Jvm.RoadKit.slotOf Z O n d⟩]) cells slots → T'.heap = h' → Wr h h' a (Jvm.RoadKit.slotOf Z O n d) v → Go p e below T' (mkF m (pc + 3) Ls rest) Q) : Go p e below T (mkF m pc Ls (v :: .ref a :: rest)) Q := by
  obtain ⟨T', h', X', e', W, st⟩ := putF X hx hZ hown w via eT F E L wi hty hn hf (g := mkF m pc Ls (v :: .ref a :: rest)) rfl rfl hd
  exact Go.of st (q T' h' X' e' W)
theorem o_new (X : Stand p l e R s m args below meth c T locs cells slots) (hx : p.tables.exec = Jvm.exec) (hZ : Z.Warmed39 s.vm) {own C : String} {index n : Nat} (hown : s.vm.findClass own = some m.cls) (w : (Cond.classLink own index C).before a0 Z = true) (wi : (Cond.instantiable C n).before a0 Z = true) (wz : (Cond.initialized C).before a0 Z = true) (eT : T.heap = h) (hd : decode c.code pc = .ok (.new index, 3)) (hc : cells + 1 ≤ R.cells) (hl : slots + n ≤ R.slots)
    (q : ∀ T' h' a, Stand p l e R s m args below meth c T' locs (cells + 1) (slots + n) → T'.heap = h' → h.size ≤ a → Ext h h' → Exa Z h' a C → (∀ {O nm d : String} {ty : FieldType}, Laid Z a0 C O nm d → parseFieldDescriptor d = some ty → Fld Z h' a O nm d (defaultValue ty)) → Unt h' a → Go p e below T' (mkF m (pc + 3) Ls (.ref a :: rest)) Q) : Go p e below T (mkF m pc Ls rest) Q := by
  obtain ⟨T', h', X', e', E, A, D, U, st⟩ := newO X hx hZ hown w wi wz eT (g := mkF m pc Ls rest) rfl hd hc hl
  exact Go.of st (q T' h' _ X' e' (Nat.le_refl _) E A D U)
theorem o_initO (X : Stand p l e R s m args below meth c T locs cells slots) (hx : p.tables.exec = Jvm.exec) (hZ : Z.Warmed39 s.vm) {own : String} {idx : Nat} (hown : s.vm.findClass own = some m.cls) (w1 : (Cond.methodLink own idx Lib.objectInit).before a0 Z = true) (w2 : (Cond.instanceMethod Lib.objectInit).before a0 Z = true) (w3 : (Cond.code Lib.objectInit ⟨#[0xb1]⟩ 1 none).before a0 Z = true) (eT : T.heap = h) (hsize : Ls.size = c.maxLocals) {a : Addr} (hd : decode c.code pc = .ok (.invokespecial idx, 3)) (hf : 1 ≤ R.frames) {W : Nat} (hW : (rest.map fun v => v.category).sum ≤ W) (hl : W + 12 ≤ R.locals)
    (q : ∀ T', Stand p l e R s m args below meth c T' locs cells slots → T'.heap = h → Go p e below T' (mkF m (pc + 3) Ls rest) Q) : Go p e below T (mkF m pc Ls (.ref a :: rest)) Q := by
  obtain ⟨T', X', e', st⟩ := initO X hx hZ hown w1 w2 w3 eT (g := mkF m pc Ls (.ref a :: rest)) rfl hsize rfl hd hf (W := W) (by show 2 * 0 + _ ≤ W; omega) hl
  exact Go.of st (q T' X' e')
def Lv (s : State) (Qc : Option Value → Heap → List Loc → Prop) (C S : Nat) (o : Outcome) (t : State) : Prop := ∃ v L, o = .returned v ∧ Qc v t.heap L ∧ FrameEnd s o t L C S
abbrev Ct (l : Launch) (Z : State) (y : MethodName) (bytes : ByteArray) (maxL : Nat) (ret : Option FieldType) (rm : Room) (ws : List Jvm.Cond) (as : Array Value) (h0 : Heap) (Qc : Option Value → Heap → List Loc → Prop) : Prop := MetFree l y (head1 (Jvm.Cond.code y bytes maxL ret :: ws) rm) (fun a U => a = as ∧ Z.Warmed39 U.vm ∧ U.heap = h0) (fun _ _ _ _ _ => True) (fun _ U o U' => ∃ v L, o = .returned v ∧ Qc v U'.heap L ∧ FrameEnd U o U' L rm.cells rm.slots)
theorem o_body {y : MethodName} {bytes : ByteArray} {maxL : Nat} {ret : Option FieldType} {rm : Room} {ws : List Jvm.Cond} {as : Array Value} {Qc : Option Value → Heap → List Loc → Prop} (hpl : plainFor y = true)
    (body : ∀ (p : Program) (e : Env) (s : State) (m : MethodId) (below : List Frame) (meth : Method) (c : Code) (s₁ : State), Stand p l e rm s m as below meth c s₁ [] 0 0 → p.tables.exec = Jvm.exec → c.code = bytes → c.maxLocals = maxL → meth.sig.returnType = ret → meth.locks = false → s.vm.findClass y.cls = some m.cls → meth.name = y.name → Z.Warmed39 s.vm → s₁.heap = h0 → Go p e below s₁ (entryFrame m as maxL) (Lv s Qc rm.cells rm.slots)) :
    Ct l Z y bytes maxL ret rm ws as h0 Qc := by
  refine MetFree.of_bodySF hpl hisR ?_
  intro p e s m args below meth c s₁ Bd hml0 hP hK
  obtain ⟨rfl, hZ, hh⟩ := hP
  exact body p e s m below meth c s₁ (Stand.of_body Bd) Bd.exec Bd.bytes hml0 Bd.returns Bd.notSynchronized (findClass_of_methodNamed Bd.named) (name_of_methodNamed Bd.named Bd.method).1 hZ (by rw [← hh, Bd.state]; rfl)
theorem o_top {g g' : JFrame} (q : g = g') (k : Go p e below T g' Q) : Go p e below T g Q := q ▸ k
theorem o_retV (X : Stand p l e R s m args below meth c T locs cells slots) (hx : p.tables.exec = Jvm.exec) {Qc : Option Value → Heap → List Loc → Prop} {C S : Nat} {w : Value} {t : FieldType} {i : Instr} (hret : meth.sig.returnType = some t) (hlk : meth.locks = false) (hn : narrow t w = w)
    (hi : (i = .ireturn ∧ (t = .int ∨ t = .boolean ∨ t = .byte ∨ t = .char ∨ t = .short) ∧ ∃ z, w = .int z) ∨ (i = .lreturn ∧ t = .long ∧ ∃ z, w = .long z) ∨ (i = .dreturn ∧ t = .double ∧ ∃ z, w = .double z) ∨ (i = .freturn ∧ t = .float ∧ ∃ z, w = .float z) ∨ (i = .areturn ∧ t.isReference = true ∧ w.isRef = true))
    (hd : decode c.code pc = .ok (i, 1)) (eT : T.heap = h) (q : Qc (some w) h locs) (hC : cells ≤ C) (hS : slots ≤ S) : Go p e below T (mkF m pc Ls (w :: rest)) (Lv s Qc C S) := by
  obtain ⟨fs, hr, hrun, hended, hW, hsame⟩ := X.leave (v := some w) (fun h => by rw [hret] at h; cases h) hlk
  refine ⟨_, _, retOut X hx hret hn hi hd hr, hrun, hended, some w, locs, rfl, ?_, ⟨_, rfl⟩, hW, hsame.mono hC hS⟩
  show Qc (some w) T.heap locs
  rw [eT]; exact q
theorem o_retA (X : Stand p l e R s m args below meth c T locs cells slots) (hx : p.tables.exec = Jvm.exec) {Qc : Option Value → Heap → List Loc → Prop} {C S : Nat} {w : Value} {t : FieldType} (hret : meth.sig.returnType = some t) (hlk : meth.locks = false) (ht : t.isReference = true) (hw : w.isRef = true) (hd : decode c.code pc = .ok (.areturn, 1)) (eT : T.heap = h) (hC : cells ≤ C) (hS : slots ≤ S) (q : Qc (some w) h locs) : Go p e below T (mkF m pc Ls (w :: rest)) (Lv s Qc C S) := o_retV X hx hret hlk (by rcases ref_cases hw with rfl | ⟨a, rfl⟩ <;> cases t <;> first | rfl | (cases ht; done)) (Or.inr (Or.inr (Or.inr (Or.inr ⟨rfl, ht, hw⟩)))) hd eT q hC hS
theorem o_retN (X : Stand p l e R s m args below meth c T locs cells slots) (hx : p.tables.exec = Jvm.exec) {Qc : Option Value → Heap → List Loc → Prop} {C S : Nat} {z : Int32} (t : FieldType) (hret : meth.sig.returnType = some t) (hlk : meth.locks = false) (ht : t = .boolean ∨ t = .byte ∨ t = .char ∨ t = .short) (hd : decode c.code pc = .ok (.ireturn, 1)) (eT : T.heap = h) (hC : cells ≤ C) (hS : slots ≤ S) (q : Qc (some (.int (nar t z))) h locs) : Go p e below T (mkF m pc Ls (.int z :: rest)) (Lv s Qc C S) := by
  obtain ⟨fs, hr, hrun, hended, hW, hsame⟩ := X.leave (v := some (.int (nar t z))) (fun h => by rw [hret] at h; cases h) hlk
  refine ⟨_, _, retN X hx hret ht hd hr, hrun, hended, some (.int (nar t z)), locs, rfl, ?_, ⟨_, rfl⟩, hW, hsame.mono hC hS⟩
  show Qc _ T.heap locs
  rw [eT]; exact q
theorem o_ret0 (X : Stand p l e R s m args below meth c T locs cells slots) (hx : p.tables.exec = Jvm.exec) {Qc : Option Value → Heap → List Loc → Prop} {C S : Nat} (hret : meth.sig.returnType = none) (hlk : meth.locks = false) (hd : decode c.code pc = .ok (.return_, 1)) (eT : T.heap = h) (hC : cells ≤ C) (hS : slots ≤ S) (q : Qc none h locs) : Go p e below T (mkF m pc Ls []) (Lv s Qc C S) := by
  obtain ⟨fs, hr, hrun, hended, hW, hsame⟩ := X.leave (v := none) (fun _ => rfl) hlk
  refine ⟨_, _, X.returnOut hx hret hd hr, hrun, hended, none, locs, rfl, ?_, ⟨_, rfl⟩, hW, hsame.mono hC hS⟩
  show Qc none T.heap locs
  rw [eT]; exact q
theorem o_callN (X : Stand p l e R s m args below meth c T locs cells slots) (hx : p.tables.exec = Jvm.exec) (hZ : Z.Warmed39 s.vm) {y : MethodName} {bytes : ByteArray} {maxL : Nat} {rm : Room} {as : Array Value} {Qc : Option Value → Heap → List Loc → Prop} {own : String} {index W : Nat} {argsL : List Value} {a : Addr} (hy1 : y.name = "<init>") (hown : s.vm.findClass own = some m.cls) (wl : (Cond.methodLink own index y).before a0 Z = true) (wi : (Cond.instanceMethod y).before a0 Z = true) (wz : (Cond.initialized y.cls).before a0 Z = true) (wc : (Cond.code y bytes maxL none).before a0 Z = true) (hy : y.cls ≠ "java/lang/invoke/MethodHandle" ∧ y.cls ≠ "java/lang/invoke/VarHandle") (hM : Ct l Z y bytes maxL none rm [] as h Qc) (eT : T.heap = h) (hsize : Ls.size = c.maxLocals) (hlen : ∀ sig, parseMethodDescriptor y.desc = some sig → argsL.length = sig.parameters.length) (has : (.ref a :: argsL).toArray = as) {st : List Value} (hst : st = argsL.reverse ++ .ref a :: rest) (hW : (rest.map fun v => v.category).sum ≤ W) (hd : decode c.code pc = .ok (.invokespecial index, 3)) (hf : rm.frames + 1 ≤ R.frames) (hl : W + (maxL + 11) + rm.locals ≤ R.locals) (hc : cells + rm.cells ≤ R.cells) (hs : slots + rm.slots ≤ R.slots)
    (q : ∀ v T' h' L, Stand p l e R s m args below meth c T' (locs ++ L) (cells + rm.cells) (slots + rm.slots) → T'.heap = h' → Qc v h' L → Go p e below T' (mkF m (pc + 3) Ls (v.toList ++ rest)) Q) : Go p e below T (mkF m pc Ls st) Q := by
  obtain ⟨v, vm₁, ⟨T', L', k', n'⟩, -, X', ⟨L, hQ, l1, y1, z1⟩, st'⟩ := X.specialBack hx (y := y) hy1 hown (mvT hZ wl) (mvT hZ wi) (mvT hZ wc) hy (backOf (W := W) hM hZ wc wz hf hl) (g := mkF m pc Ls st) rfl hsize (Steps.refl _) (a := a) hlen hst (by show 2 * 0 + _ ≤ W; omega) hd (fun _ _ => ⟨has, eT, hc, hs⟩)
  dsimp only [Pt.U, Pt.locs, Pt.cells, Pt.slots] at X' l1 y1 z1 st' hQ
  subst l1 y1 z1
  exact Go.of (fun _ k => st'.trans k) (q v T' _ L X' rfl hQ)
theorem o_callV (X : Stand p l e R s m args below meth c T locs cells slots) (hx : p.tables.exec = Jvm.exec) (hZ : Z.Warmed39 s.vm) {y z : MethodName} {bytes : ByteArray} {maxL : Nat} {ret : Option FieldType} {rm : Room} {as : Array Value} {Qc : Option Value → Heap → List Loc → Prop} {own C : String} {index W : Nat} {argsL : List Value} {a : Addr} (hown : s.vm.findClass own = some m.cls) (wl : (Cond.methodLink own index y).before a0 Z = true) (wd : (Cond.declares y).before a0 Z = true) (hnf : NotFace s y) (wsel : (Cond.selects C y z).before a0 Z = true) (wi : (Cond.instanceMethod z).before a0 Z = true) (wz : (Cond.initialized z.cls).before a0 Z = true) (wc : (Cond.code z bytes maxL ret).before a0 Z = true) (hy : y.cls ≠ "java/lang/invoke/MethodHandle" ∧ y.cls ≠ "java/lang/invoke/VarHandle") (hM : Ct l Z z bytes maxL ret rm [] as h Qc) (eT : T.heap = h) (Ea : Exa Z h a C) (hsize : Ls.size = c.maxLocals) (hlen : ∀ sig, parseMethodDescriptor y.desc = some sig → argsL.length = sig.parameters.length) (has : (.ref a :: argsL).toArray = as) {st : List Value} (hst : st = argsL.reverse ++ .ref a :: rest) (hW : (rest.map fun v => v.category).sum ≤ W) (hd : decode c.code pc = .ok (.invokevirtual index, 3)) (hf : rm.frames + 1 ≤ R.frames) (hl : W + (maxL + 11) + rm.locals ≤ R.locals) (hc : cells + rm.cells ≤ R.cells) (hs : slots + rm.slots ≤ R.slots)
    (q : ∀ v T' h' L, Stand p l e R s m args below meth c T' (locs ++ L) (cells + rm.cells) (slots + rm.slots) → T'.heap = h' → Qc v h' L → Go p e below T' (mkF m (pc + 3) Ls (v.toList ++ rest)) Q) : Go p e below T (mkF m pc Ls st) Q := by
  obtain ⟨cq, kq, qa, qb, qc⟩ := isOf hZ eT Ea
  obtain ⟨v, vm₁, ⟨T', L', k', n'⟩, -, X', ⟨L, hQ, l1, y1, z1⟩, st'⟩ := X.virtualBack hx (y := y) (z := z) hown (mvT hZ wl) (mvT hZ wd) hnf (mvT hZ wsel) (mvT hZ wi) hy (backOf (W := W) hM hZ wc wz hf hl) qa qc (g := mkF m pc Ls st) rfl hsize (Steps.refl _) hlen hst (by show 2 * 0 + _ ≤ W; omega) hd (fun _ _ => ⟨has, eT, hc, hs⟩)
  dsimp only [Pt.U, Pt.locs, Pt.cells, Pt.slots] at X' l1 y1 z1 st' hQ
  subst l1 y1 z1
  exact Go.of (fun _ k => st'.trans k) (q v T' _ L X' rfl hQ)
theorem o_n0 {n0 : Nat} (O : Old Z n0 h) : n0 ≤ h.size := O.1 ▸ O.2.1
theorem o_eqI {first s : State} {o : Option Outcome} {idx : List Nat} {a : Term} {n : Int32} (h : (Cond.eq a (.int n)).value args first o s idx = some true) : a.eval args first o idx s = some (.int n) := Cond.eq_int (beq_iff_eq.mpr h) rfl
end OwnKit

abbrev SourceSta (Z : State) (n : String) (w : Addr) : Prop := Sta Z Z.heap "com/example/cloister/cloister/Isolation$Source" n "Lcom/example/cloister/cloister/Isolation$Source;" (.ref w)
abbrev SourceExa (Z : State) (w : Addr) : Prop := Exa Z Z.heap w "com/example/cloister/cloister/Isolation$Source"
theorem rem5 (x : Int32) : (x &&& 2147483647) % 5 = 0 ∨ (x &&& 2147483647) % 5 = 1 ∨ (x &&& 2147483647) % 5 = 2 ∨ (x &&& 2147483647) % 5 = 3 ∨ (x &&& 2147483647) % 5 = 4 := by
  have h := c_mask x 2147483647 31 (by decide) (by decide)
  have g := (c_irem (x &&& 2147483647) 5 5 (by decide)).1 (by rw [h]; omega)
  have e0 : (0 : Int32).toInt = 0 := rfl
  have e1 : (1 : Int32).toInt = 1 := rfl
  have e2 : (2 : Int32).toInt = 2 := rfl
  have e3 : (3 : Int32).toInt = 3 := rfl
  have e4 : (4 : Int32).toInt = 4 := rfl
  simp only [← Int32.toInt_inj, e0, e1, e2, e3, e4]
  omega
theorem o_pn_java_lang_Record : plainName "java/lang/Record" = true := by first | (simp [plainName, overriddenIn]; done) | decide +kernel
theorem o_d2_0 : decode jdk_30_method_1_code 0 = .ok (.aload_n 0, 1) := by decide +kernel
theorem o_d2_1 : decode jdk_30_method_1_code 1 = .ok (.invokespecial 1, 3) := by decide +kernel
theorem o_d2_4 : decode jdk_30_method_1_code 4 = .ok (.return_, 1) := by decide +kernel
set_option maxRecDepth 65536 in
set_option maxHeartbeats 40000000 in
theorem rm2 (l : Launch) (Z : State) (a0 : Array Value) (hw : ∀ d ∈ tables_1, d.before a0 Z = true) (ws : List Jvm.Cond) (a1 : Addr) (h0 : Heap) (n0 : Nat) (O0 : Old Z n0 h0) :
    Ct l Z (⟨"java/lang/Record", "<init>", "()V"⟩ : MethodName) jdk_30_method_1_code 1 none ({ frames := 1, cells := 0, slots := 0, locals := 12 } : Room) ws #[(.ref a1)] h0 (fun v h L => v = none ∧ Fr n0 L ∧ h0 = h) := by
  refine o_body (plainFor_of_name o_pn_java_lang_Record) ?_
  intro p e s m below meth c s₁ X0 hx hby hml hret hlk hown hnm hZ e0
  have N0 := Fr.nil n0
  refine o_top (g' := (mkF m 0 #[.val (.ref a1)] [])) (by first | (simp [entryFrame, mkF, argsToLocals, Value.category]; done) | rfl) ?_
  refine o_aloadN (v := (.ref a1)) (pc := 0) X0 hx (hb hby o_d2_0) rfl rfl ?_
  refine o_initO (pc := 1) X0 hx hZ hown (hw _ (List.mem_of_getElem? (i := 15) rfl)) (hw _ (List.mem_of_getElem? (i := 16) rfl)) (hw _ (List.mem_of_getElem? (i := 17) rfl)) e0 (by rw [hml]; rfl) (hb hby o_d2_1) (by decide) (W := 0) (Nat.le_of_ble_eq_true rfl) (by decide) fun T1 X1 e1 => ?_
  exact o_ret0 (pc := 4) X1 hx hret hlk (hb hby o_d2_4) e1 (by decide) (by decide) ⟨rfl, N0, rfl⟩
theorem o_pn_com_example_cloister_cloister_Isolation_Sharing : plainName "com/example/cloister/cloister/Isolation$Sharing" = true := by first | (simp [plainName, overriddenIn]; done) | decide +kernel
theorem o_d1_0 : decode prog_7_method_1_code 0 = .ok (.aload_n 0, 1) := by decide +kernel
theorem o_d1_1 : decode prog_7_method_1_code 1 = .ok (.invokespecial 1, 3) := by decide +kernel
theorem o_pd0 : parseMethodDescriptor "()V" = some ⟨[], none⟩ := by decide +kernel
theorem o_d1_4 : decode prog_7_method_1_code 4 = .ok (.aload_n 0, 1) := by decide +kernel
theorem o_d1_5 : decode prog_7_method_1_code 5 = .ok (.aload_n 1, 1) := by decide +kernel
theorem o_d1_6 : decode prog_7_method_1_code 6 = .ok (.putfield 7, 3) := by decide +kernel
theorem o_d1_9 : decode prog_7_method_1_code 9 = .ok (.return_, 1) := by decide +kernel
set_option maxRecDepth 65536 in
set_option maxHeartbeats 40000000 in
theorem rm1 (l : Launch) (Z : State) (a0 : Array Value) (hw : ∀ d ∈ tables_1, d.before a0 Z = true) (ws : List Jvm.Cond) (a1 : Addr) (h0 : Heap) (n0 : Nat) (O0 : Old Z n0 h0) (E1 : Exa Z h0 a1 "com/example/cloister/cloister/Isolation$Sharing") (F1 : Fld Z h0 a1 "com/example/cloister/cloister/Isolation$Sharing" "sharedPackages" "Ljava/util/Set;" .null) (g1 : n0 ≤ a1) :
    Ct l Z (⟨"com/example/cloister/cloister/Isolation$Sharing", "<init>", "(Ljava/util/Set;)V"⟩ : MethodName) prog_7_method_1_code 2 none ({ frames := 2, cells := 0, slots := 0, locals := 24 } : Room) ws #[(.ref a1), .null] h0 (fun v h L => v = none ∧ Fr n0 L ∧ Keep h0 h [a1]) := by
  refine o_body (plainFor_of_name o_pn_com_example_cloister_cloister_Isolation_Sharing) ?_
  intro p e s m below meth c s₁ X0 hx hby hml hret hlk hown hnm hZ e0
  have N0 := Fr.nil n0
  refine o_top (g' := (mkF m 0 #[.val (.ref a1), .val .null] [])) (by first | (simp [entryFrame, mkF, argsToLocals, Value.category]; done) | rfl) ?_
  refine o_aloadN (v := (.ref a1)) (pc := 0) X0 hx (hb hby o_d1_0) rfl rfl ?_
  refine o_callN (pc := 1) X0 hx hZ (y := (⟨"java/lang/Record", "<init>", "()V"⟩ : MethodName)) (a := a1) (argsL := []) (rest := []) rfl hown (hw _ (List.mem_of_getElem? (i := 10) rfl)) (hw _ (List.mem_of_getElem? (i := 11) rfl)) (hw _ (List.mem_of_getElem? (i := 13) rfl)) (hw _ (List.mem_of_getElem? (i := 14) rfl)) (by decide) (rm2 l Z a0 hw [] a1 h0 n0 O0) e0 (by rw [hml]; rfl) (lenOf o_pd0 rfl) (has := rfl) (hst := rfl) (W := 0) (Nat.le_of_ble_eq_true rfl) (hb hby o_d1_1) (by decide) (by decide) (by decide) (by decide) fun v2 T2 h2 L2 X2 e2 q2 => ?_
  obtain ⟨rfl, N2q, rfl⟩ := q2
  have N2 := Fr.app N0 N2q
  show Go p e below T2 (mkF m 4 #[.val (.ref a1), .val .null] []) _
  refine o_aloadN (v := (.ref a1)) (pc := 4) X2 hx (hb hby o_d1_4) rfl rfl ?_
  refine o_aloadN (v := .null) (pc := 5) X2 hx (hb hby o_d1_5) rfl rfl ?_
  refine o_putF (pc := 6) X2 hx hZ hown (host := "") (Or.inl (hw _ (List.mem_of_getElem? (i := 18) rfl))) Via.refl e2 F1 E1 (Or.inr ⟨(hw _ (List.mem_of_getElem? (i := 19) rfl)), rfl, hnm⟩) (hw _ (List.mem_of_getElem? (i := 5) rfl)) (ty := (.object "java/util/Set")) (by decide) rfl rfl (hb hby o_d1_6) fun T3 h3 X3 e3 W3 => ?_
  have F3 := Fld.same W3 F1
  have N3 := Fr.snoc X3 N2 g1
  have O4 := O0.wr W3 g1
  have K4 : Keep h0 h3 [a1] := (Keep.refl h0 [a1]).wr W3 (Or.inl (List.mem_of_getElem? (i := 0) rfl))
  exact o_ret0 (pc := 9) X3 hx hret hlk (hb hby o_d1_9) e3 (by decide) (by decide) ⟨rfl, N3, K4⟩
theorem o_d4_0 : decode prog_7_method_4_code 0 = .ok (.aload_n 1, 1) := by decide +kernel
theorem o_d4_1 : decode prog_7_method_4_code 1 = .ok (.getstatic 29, 3) := by decide +kernel
theorem o_d4_4 : decode prog_7_method_4_code 4 = .ok (.if_acmp .ne 9, 3) := by decide +kernel
theorem o_d4_7 : decode prog_7_method_4_code 7 = .ok (.getstatic 32, 3) := by decide +kernel
theorem o_d4_10 : decode prog_7_method_4_code 10 = .ok (.goto 6, 3) := by decide +kernel
theorem o_d4_16 : decode prog_7_method_4_code 16 = .ok (.areturn, 1) := by decide +kernel
theorem o_d4_13 : decode prog_7_method_4_code 13 = .ok (.getstatic 29, 3) := by decide +kernel
set_option maxRecDepth 65536 in
set_option maxHeartbeats 40000000 in
theorem rm4 (l : Launch) (Z : State) (a0 : Array Value) (hw : ∀ d ∈ tables_1, d.before a0 Z = true) (ws : List Jvm.Cond) (a1 a2 : Addr) (w_JDK w_HOST w_PLUGIN_THEN_HOST w_PLUGIN w_CLOSED_PLUGIN : Addr) (h0 : Heap) (n0 : Nat) (O0 : Old Z n0 h0) (S_JDK : SourceSta Z "JDK" w_JDK) (S_HOST : SourceSta Z "HOST" w_HOST) (S_PLUGIN_THEN_HOST : SourceSta Z "PLUGIN_THEN_HOST" w_PLUGIN_THEN_HOST) (S_PLUGIN : SourceSta Z "PLUGIN" w_PLUGIN) (S_CLOSED_PLUGIN : SourceSta Z "CLOSED_PLUGIN" w_CLOSED_PLUGIN) :
    Ct l Z (⟨"com/example/cloister/cloister/Isolation$Sharing", "sourceOfProviderFile", "(Lcom/example/cloister/cloister/Isolation$Source;)Lcom/example/cloister/cloister/Isolation$Source;"⟩ : MethodName) prog_7_method_4_code 2 (some (.object "com/example/cloister/cloister/Isolation$Source")) ({ frames := 0, cells := 0, slots := 0, locals := 0 } : Room) ws #[(.ref a1), (.ref a2)] h0 (fun v h L => v = some (.ref (if a2 = w_PLUGIN_THEN_HOST then w_PLUGIN else w_PLUGIN_THEN_HOST)) ∧ Fr n0 L ∧ h0 = h) := by
  refine o_body (plainFor_of_name o_pn_com_example_cloister_cloister_Isolation_Sharing) ?_
  intro p e s m below meth c s₁ X0 hx hby hml hret hlk hown hnm hZ e0
  have N0 := Fr.nil n0
  refine o_top (g' := (mkF m 0 #[.val (.ref a1), .val (.ref a2)] [])) (by first | (simp [entryFrame, mkF, argsToLocals, Value.category]; done) | rfl) ?_
  refine o_aloadN (v := (.ref a2)) (pc := 0) X0 hx (hb hby o_d4_0) rfl rfl ?_
  refine o_getS (pc := 1) X0 hx hZ hown (host := "") (Or.inl (hw _ (List.mem_of_getElem? (i := 25) rfl))) Via.refl e0 (S_PLUGIN_THEN_HOST.ext O0.2) (hb hby o_d4_1) fun T5 X5 e5 => ?_
  by_cases hc6 : a2 = w_PLUGIN_THEN_HOST
  · skip
    refine o_acmp (x := (.ref a2)) (y := (.ref w_PLUGIN_THEN_HOST)) (pc := 4) X5 hx 7 true rfl rfl (hb hby o_d4_4) (decide_eq_true (congrArg Value.ref hc6)) (by decide) (by decide) ?_
    refine o_getS (pc := 7) X5 hx hZ hown (host := "") (Or.inl (hw _ (List.mem_of_getElem? (i := 36) rfl))) Via.refl e5 (S_PLUGIN.ext O0.2) (hb hby o_d4_7) fun T7 X7 e7 => ?_
    refine o_goto (pc := 10) X7 hx 16 (hb hby o_d4_10) (by decide) (by decide) ?_
    exact o_retA (pc := 16) X7 hx hret hlk rfl rfl (hb hby o_d4_16) e7 (by decide) (by decide) ⟨by simp [hc6], N0, rfl⟩
  · skip
    refine o_acmp (x := (.ref a2)) (y := (.ref w_PLUGIN_THEN_HOST)) (pc := 4) X5 hx 13 false rfl rfl (hb hby o_d4_4) (decide_eq_false fun q => hc6 (Value.ref.inj q)) (by decide) (by decide) ?_
    refine o_getS (pc := 13) X5 hx hZ hown (host := "") (Or.inl (hw _ (List.mem_of_getElem? (i := 25) rfl))) Via.refl e5 (S_PLUGIN_THEN_HOST.ext O0.2) (hb hby o_d4_13) fun T8 X8 e8 => ?_
    exact o_retA (pc := 16) X8 hx hret hlk rfl rfl (hb hby o_d4_16) e8 (by decide) (by decide) ⟨by simp [hc6], N0, rfl⟩
theorem o_pn_com_example_cloister_cloister_SharingSourceOfProviderFilePinLaw : plainName "com/example/cloister/cloister/SharingSourceOfProviderFilePinLaw" = true := by first | (simp [plainName, overriddenIn]; done) | decide +kernel
theorem o_pd1 : parseMethodDescriptor "(Ljava/util/Set;)V" = some ⟨[(.object "java/util/Set")], none⟩ := by decide +kernel
theorem o_pd2 : parseMethodDescriptor "(Lcom/example/cloister/cloister/Isolation$Source;)Lcom/example/cloister/cloister/Isolation$Source;" = some ⟨[(.object "com/example/cloister/cloister/Isolation$Source")], some (.object "com/example/cloister/cloister/Isolation$Source")⟩ := by decide +kernel
set_option maxRecDepth 65536 in
set_option maxHeartbeats 40000000 in
theorem rm0 (l : Launch) (Z : State) (a0 : Array Value) (hw : ∀ d ∈ tables_1, d.before a0 Z = true) (ws : List Jvm.Cond) (p1 : Int32) (w_JDK w_HOST w_PLUGIN_THEN_HOST w_PLUGIN w_CLOSED_PLUGIN : Addr) (h0 : Heap) (n0 : Nat) (O0 : Old Z n0 h0) (S_JDK : SourceSta Z "JDK" w_JDK) (S_HOST : SourceSta Z "HOST" w_HOST) (S_PLUGIN_THEN_HOST : SourceSta Z "PLUGIN_THEN_HOST" w_PLUGIN_THEN_HOST) (S_PLUGIN : SourceSta Z "PLUGIN" w_PLUGIN) (S_CLOSED_PLUGIN : SourceSta Z "CLOSED_PLUGIN" w_CLOSED_PLUGIN) (E_JDK : SourceExa Z w_JDK) (E_HOST : SourceExa Z w_HOST) (E_PLUGIN_THEN_HOST : SourceExa Z w_PLUGIN_THEN_HOST) (E_PLUGIN : SourceExa Z w_PLUGIN) (E_CLOSED_PLUGIN : SourceExa Z w_CLOSED_PLUGIN) (F_JDK_readsContent : Fld Z Z.heap w_JDK "com/example/cloister/cloister/Isolation$Source" "readsContent" "Z" (.int (0 : Int32))) (F_HOST_readsContent : Fld Z Z.heap w_HOST "com/example/cloister/cloister/Isolation$Source" "readsContent" "Z" (.int (0 : Int32))) (F_PLUGIN_THEN_HOST_readsContent : Fld Z Z.heap w_PLUGIN_THEN_HOST "com/example/cloister/cloister/Isolation$Source" "readsContent" "Z" (.int (1 : Int32))) (F_PLUGIN_readsContent : Fld Z Z.heap w_PLUGIN "com/example/cloister/cloister/Isolation$Source" "readsContent" "Z" (.int (1 : Int32))) (F_CLOSED_PLUGIN_readsContent : Fld Z Z.heap w_CLOSED_PLUGIN "com/example/cloister/cloister/Isolation$Source" "readsContent" "Z" (.int (0 : Int32))) (n_JDK_HOST : w_JDK ≠ w_HOST) (n_JDK_PLUGIN_THEN_HOST : w_JDK ≠ w_PLUGIN_THEN_HOST) (n_JDK_PLUGIN : w_JDK ≠ w_PLUGIN) (n_JDK_CLOSED_PLUGIN : w_JDK ≠ w_CLOSED_PLUGIN) (n_HOST_PLUGIN_THEN_HOST : w_HOST ≠ w_PLUGIN_THEN_HOST) (n_HOST_PLUGIN : w_HOST ≠ w_PLUGIN) (n_HOST_CLOSED_PLUGIN : w_HOST ≠ w_CLOSED_PLUGIN) (n_PLUGIN_THEN_HOST_PLUGIN : w_PLUGIN_THEN_HOST ≠ w_PLUGIN) (n_PLUGIN_THEN_HOST_CLOSED_PLUGIN : w_PLUGIN_THEN_HOST ≠ w_CLOSED_PLUGIN) (n_PLUGIN_CLOSED_PLUGIN : w_PLUGIN ≠ w_CLOSED_PLUGIN) :
    Ct l Z x code maxLocals ret room_1 ws #[(.int p1)] h0 (fun v h L => v = some (.int 1) ∧ Fr n0 L) := by
  refine o_body (plainFor_of_name o_pn_com_example_cloister_cloister_SharingSourceOfProviderFilePinLaw) ?_
  intro p e s m below meth c s₁ X0 hx hby hml hret hlk hown hnm hZ e0
  have N0 := Fr.nil n0
  refine o_top (g' := (mkF m 0 #[.val (.int p1), .unset, .unset, .unset, .unset] [])) (by first | (simp [entryFrame, mkF, argsToLocals, Value.category, maxLocals]; done) | rfl) ?_
  refine o_iloadN (v := p1) (pc := 0) X0 hx (hb hby at_0) rfl ?_
  refine o_ldcI (pc := 1) X0 hx hZ hown (hw _ (List.mem_of_getElem? (i := 0) rfl)) (hb hby at_1) ?_
  refine o_iand (pc := 3) X0 hx (hb hby at_3) ?_
  refine o_iconst (pc := 4) X0 hx (5 : Int32) (hb hby at_4) rfl ?_
  refine o_irem (pc := 5) X0 hx (hb hby at_5) (by decide) ?_
  refine o_istoreN (l' := #[.val (.int p1), .val (.int ((p1 &&& (2147483647 : Int32)) % (5 : Int32))), .unset, .unset, .unset]) (pc := 6) X0 hx (hb hby at_6) rfl ?_
  refine o_iloadN (v := ((p1 &&& (2147483647 : Int32)) % (5 : Int32))) (pc := 7) X0 hx (hb hby at_7) rfl ?_
  by_cases hc9 : ((p1 &&& (2147483647 : Int32)) % (5 : Int32)) = (0 : Int32)
  · skip
    refine o_ifNo (pc := 8) X0 hx (hb hby at_8) ((if0 _ _).trans (teq hc9).2) ?_
    refine o_getS (pc := 11) X0 hx hZ hown (host := "") (Or.inl (hw _ (List.mem_of_getElem? (i := 1) rfl))) Via.refl e0 (S_JDK.ext O0.2) (hb hby at_11) fun T10 X10 e10 => ?_
    refine o_astoreN (l' := #[.val (.int p1), .val (.int ((p1 &&& (2147483647 : Int32)) % (5 : Int32))), .val (.ref w_JDK), .unset, .unset]) (pc := 14) X10 hx (hb hby at_14) rfl rfl ?_
    refine o_goto (pc := 15) X10 hx 58 (hb hby at_15) (by decide) (by decide) ?_
    refine o_new (pc := 58) X10 hx hZ hown (hw _ (List.mem_of_getElem? (i := 4) rfl)) (hw _ (List.mem_of_getElem? (i := 5) rfl)) (hw _ (List.mem_of_getElem? (i := 6) rfl)) e10 (hb hby at_58) (by decide) (by decide) fun T11 h11 b11 X11 e11 g11 E11 A11 D11 U11 => ?_
    have O12 := O0.ext E11
    have F11_sharedPackages : Fld Z h11 b11 "com/example/cloister/cloister/Isolation$Sharing" "sharedPackages" "Ljava/util/Set;" .null := D11 (Or.inr (hw _ (List.mem_of_getElem? (i := 19) rfl))) (ty := (.object "java/util/Set")) (by decide)
    refine o_dup (pc := 61) X11 hx (hb hby at_61) rfl ?_
    refine o_aconst_null (pc := 62) X11 hx (hb hby at_62) ?_
    refine o_callN (pc := 63) X11 hx hZ (y := (⟨"com/example/cloister/cloister/Isolation$Sharing", "<init>", "(Ljava/util/Set;)V"⟩ : MethodName)) (a := b11) (argsL := [.null]) (rest := [(.ref b11)]) rfl hown (hw _ (List.mem_of_getElem? (i := 7) rfl)) (hw _ (List.mem_of_getElem? (i := 8) rfl)) (hw _ (List.mem_of_getElem? (i := 6) rfl)) (hw _ (List.mem_of_getElem? (i := 9) rfl)) (by decide) (rm1 l Z a0 hw [] b11 h11 n0 O12 A11 F11_sharedPackages (Nat.le_trans (o_n0 O0) g11)) e11 (by rw [hml]; rfl) (lenOf o_pd1 rfl) (has := rfl) (hst := rfl) (W := 1) (Nat.le_of_ble_eq_true rfl) (hb hby at_63) (by decide) (by decide) (by decide) (by decide) fun v13 T13 h13 L13 X13 e13 q13 => ?_
    obtain ⟨rfl, N13q, K13⟩ := q13
    have N13 := Fr.app N0 N13q
    have O14 := O12.keep K13 (allS (Nat.le_trans (o_n0 O0) g11) all0)
    show Go p e below T13 (mkF m 66 #[.val (.int p1), .val (.int ((p1 &&& (2147483647 : Int32)) % (5 : Int32))), .val (.ref w_JDK), .unset, .unset] [(.ref b11)]) _
    refine o_astoreN (l' := #[.val (.int p1), .val (.int ((p1 &&& (2147483647 : Int32)) % (5 : Int32))), .val (.ref w_JDK), .val (.ref b11), .unset]) (pc := 66) X13 hx (hb hby at_66) rfl rfl ?_
    refine o_aloadN (v := (.ref b11)) (pc := 67) X13 hx (hb hby at_67) rfl rfl ?_
    refine o_aloadN (v := (.ref w_JDK)) (pc := 68) X13 hx (hb hby at_68) rfl rfl ?_
    refine o_callV (pc := 69) X13 hx hZ (y := (⟨"com/example/cloister/cloister/Isolation$Sharing", "sourceOfProviderFile", "(Lcom/example/cloister/cloister/Isolation$Source;)Lcom/example/cloister/cloister/Isolation$Source;"⟩ : MethodName)) (z := (⟨"com/example/cloister/cloister/Isolation$Sharing", "sourceOfProviderFile", "(Lcom/example/cloister/cloister/Isolation$Source;)Lcom/example/cloister/cloister/Isolation$Source;"⟩ : MethodName)) (C := "com/example/cloister/cloister/Isolation$Sharing") (a := b11) (argsL := [(.ref w_JDK)]) (rest := []) hown (hw _ (List.mem_of_getElem? (i := 20) rfl)) (hw _ (List.mem_of_getElem? (i := 21) rfl)) (notFace_of_selects (args := #[]) (mvT hZ (hw _ (List.mem_of_getElem? (i := 23) rfl)))) (hw _ (List.mem_of_getElem? (i := 23) rfl)) (hw _ (List.mem_of_getElem? (i := 22) rfl)) (hw _ (List.mem_of_getElem? (i := 6) rfl)) (hw _ (List.mem_of_getElem? (i := 24) rfl)) (by decide) (rm4 l Z a0 hw [] b11 w_JDK w_JDK w_HOST w_PLUGIN_THEN_HOST w_PLUGIN w_CLOSED_PLUGIN h13 n0 O14 S_JDK S_HOST S_PLUGIN_THEN_HOST S_PLUGIN S_CLOSED_PLUGIN) e13 (A11.keep K13) (by rw [hml]; rfl) (lenOf o_pd2 rfl) (has := rfl) (hst := rfl) (W := 0) (Nat.le_of_ble_eq_true rfl) (hb hby at_69) (by decide) (by decide) (by decide) (by decide) fun v15 T15 h15 L15 X15 e15 q15 => ?_
    obtain ⟨r15, N15q, rfl⟩ := q15
    rw [show (if w_JDK = w_PLUGIN_THEN_HOST then w_PLUGIN else w_PLUGIN_THEN_HOST) = w_PLUGIN_THEN_HOST from if_neg n_JDK_PLUGIN_THEN_HOST] at r15
    subst r15
    have N15 := Fr.app N13 N15q
    show Go p e below T15 (mkF m 72 #[.val (.int p1), .val (.int ((p1 &&& (2147483647 : Int32)) % (5 : Int32))), .val (.ref w_JDK), .val (.ref b11), .unset] [(.ref w_PLUGIN_THEN_HOST)]) _
    refine o_astore (l' := #[.val (.int p1), .val (.int ((p1 &&& (2147483647 : Int32)) % (5 : Int32))), .val (.ref w_JDK), .val (.ref b11), .val (.ref w_PLUGIN_THEN_HOST)]) (pc := 72) X15 hx (hb hby at_72) rfl rfl ?_
    refine o_aload (v := (.ref w_PLUGIN_THEN_HOST)) (pc := 74) X15 hx (hb hby at_74) rfl rfl ?_
    refine o_ifnullNo (pc := 76) X15 hx (hb hby at_76) ?_
    refine o_aload (v := (.ref w_PLUGIN_THEN_HOST)) (pc := 79) X15 hx (hb hby at_79) rfl rfl ?_
    refine o_getF (pc := 81) X15 hx hZ hown (host := "") (Or.inl (hw _ (List.mem_of_getElem? (i := 27) rfl))) Via.refl e15 (F_PLUGIN_THEN_HOST_readsContent.ext O14.2) (hb hby at_81) fun T16 X16 e16 => ?_
    refine o_ifYes (pc := 84) X16 hx 89 (hb hby at_84) ((if0 _ _).trans (feq (by decide : ¬ ((1 : Int32) = (0 : Int32)))).2) (by decide) (by decide) ?_
    refine o_iloadN (v := ((p1 &&& (2147483647 : Int32)) % (5 : Int32))) (pc := 89) X16 hx (hb hby at_89) rfl ?_
    refine o_iconst (pc := 90) X16 hx (1 : Int32) (hb hby at_90) rfl ?_
    refine o_icmpNo (pc := 91) X16 hx (hb hby at_91) (flt (by rw [hc9]; decide : ¬ ((1 : Int32) < ((p1 &&& (2147483647 : Int32)) % (5 : Int32))))).2.2.1 ?_
    refine o_aload (v := (.ref w_PLUGIN_THEN_HOST)) (pc := 94) X16 hx (hb hby at_94) rfl rfl ?_
    refine o_getS (pc := 96) X16 hx hZ hown (host := "") (Or.inl (hw _ (List.mem_of_getElem? (i := 29) rfl))) Via.refl e16 (S_PLUGIN_THEN_HOST.ext O14.2) (hb hby at_96) fun T17 X17 e17 => ?_
    refine o_acmp (x := (.ref w_PLUGIN_THEN_HOST)) (y := (.ref w_PLUGIN_THEN_HOST)) (pc := 99) X17 hx 102 true rfl rfl (hb hby at_99) (decide_eq_true rfl) (by decide) (by decide) ?_
    refine o_iconst (pc := 102) X17 hx (1 : Int32) (hb hby at_102) rfl ?_
    refine o_goto (pc := 103) X17 hx 107 (hb hby at_103) (by decide) (by decide) ?_
    exact o_retN (pc := 107) X17 hx .boolean hret hlk (by simp) (hb hby at_107) e17 (by decide) (by decide) ⟨rfl, N15⟩
  · skip
    refine o_ifYes (pc := 8) X0 hx 18 (hb hby at_8) ((if0 _ _).trans (feq hc9).2) (by decide) (by decide) ?_
    refine o_iloadN (v := ((p1 &&& (2147483647 : Int32)) % (5 : Int32))) (pc := 18) X0 hx (hb hby at_18) rfl ?_
    refine o_iconst (pc := 19) X0 hx (1 : Int32) (hb hby at_19) rfl ?_
    by_cases hc18 : ((p1 &&& (2147483647 : Int32)) % (5 : Int32)) = (1 : Int32)
    · skip
      refine o_icmpNo (pc := 20) X0 hx (hb hby at_20) (teq hc18).2 ?_
      refine o_getS (pc := 23) X0 hx hZ hown (host := "") (Or.inl (hw _ (List.mem_of_getElem? (i := 32) rfl))) Via.refl e0 (S_HOST.ext O0.2) (hb hby at_23) fun T19 X19 e19 => ?_
      refine o_astoreN (l' := #[.val (.int p1), .val (.int ((p1 &&& (2147483647 : Int32)) % (5 : Int32))), .val (.ref w_HOST), .unset, .unset]) (pc := 26) X19 hx (hb hby at_26) rfl rfl ?_
      refine o_goto (pc := 27) X19 hx 58 (hb hby at_27) (by decide) (by decide) ?_
      refine o_new (pc := 58) X19 hx hZ hown (hw _ (List.mem_of_getElem? (i := 4) rfl)) (hw _ (List.mem_of_getElem? (i := 5) rfl)) (hw _ (List.mem_of_getElem? (i := 6) rfl)) e19 (hb hby at_58) (by decide) (by decide) fun T20 h20 b20 X20 e20 g20 E20 A20 D20 U20 => ?_
      have O21 := O0.ext E20
      have F20_sharedPackages : Fld Z h20 b20 "com/example/cloister/cloister/Isolation$Sharing" "sharedPackages" "Ljava/util/Set;" .null := D20 (Or.inr (hw _ (List.mem_of_getElem? (i := 19) rfl))) (ty := (.object "java/util/Set")) (by decide)
      refine o_dup (pc := 61) X20 hx (hb hby at_61) rfl ?_
      refine o_aconst_null (pc := 62) X20 hx (hb hby at_62) ?_
      refine o_callN (pc := 63) X20 hx hZ (y := (⟨"com/example/cloister/cloister/Isolation$Sharing", "<init>", "(Ljava/util/Set;)V"⟩ : MethodName)) (a := b20) (argsL := [.null]) (rest := [(.ref b20)]) rfl hown (hw _ (List.mem_of_getElem? (i := 7) rfl)) (hw _ (List.mem_of_getElem? (i := 8) rfl)) (hw _ (List.mem_of_getElem? (i := 6) rfl)) (hw _ (List.mem_of_getElem? (i := 9) rfl)) (by decide) (rm1 l Z a0 hw [] b20 h20 n0 O21 A20 F20_sharedPackages (Nat.le_trans (o_n0 O0) g20)) e20 (by rw [hml]; rfl) (lenOf o_pd1 rfl) (has := rfl) (hst := rfl) (W := 1) (Nat.le_of_ble_eq_true rfl) (hb hby at_63) (by decide) (by decide) (by decide) (by decide) fun v22 T22 h22 L22 X22 e22 q22 => ?_
      obtain ⟨rfl, N22q, K22⟩ := q22
      have N22 := Fr.app N0 N22q
      have O23 := O21.keep K22 (allS (Nat.le_trans (o_n0 O0) g20) all0)
      show Go p e below T22 (mkF m 66 #[.val (.int p1), .val (.int ((p1 &&& (2147483647 : Int32)) % (5 : Int32))), .val (.ref w_HOST), .unset, .unset] [(.ref b20)]) _
      refine o_astoreN (l' := #[.val (.int p1), .val (.int ((p1 &&& (2147483647 : Int32)) % (5 : Int32))), .val (.ref w_HOST), .val (.ref b20), .unset]) (pc := 66) X22 hx (hb hby at_66) rfl rfl ?_
      refine o_aloadN (v := (.ref b20)) (pc := 67) X22 hx (hb hby at_67) rfl rfl ?_
      refine o_aloadN (v := (.ref w_HOST)) (pc := 68) X22 hx (hb hby at_68) rfl rfl ?_
      refine o_callV (pc := 69) X22 hx hZ (y := (⟨"com/example/cloister/cloister/Isolation$Sharing", "sourceOfProviderFile", "(Lcom/example/cloister/cloister/Isolation$Source;)Lcom/example/cloister/cloister/Isolation$Source;"⟩ : MethodName)) (z := (⟨"com/example/cloister/cloister/Isolation$Sharing", "sourceOfProviderFile", "(Lcom/example/cloister/cloister/Isolation$Source;)Lcom/example/cloister/cloister/Isolation$Source;"⟩ : MethodName)) (C := "com/example/cloister/cloister/Isolation$Sharing") (a := b20) (argsL := [(.ref w_HOST)]) (rest := []) hown (hw _ (List.mem_of_getElem? (i := 20) rfl)) (hw _ (List.mem_of_getElem? (i := 21) rfl)) (notFace_of_selects (args := #[]) (mvT hZ (hw _ (List.mem_of_getElem? (i := 23) rfl)))) (hw _ (List.mem_of_getElem? (i := 23) rfl)) (hw _ (List.mem_of_getElem? (i := 22) rfl)) (hw _ (List.mem_of_getElem? (i := 6) rfl)) (hw _ (List.mem_of_getElem? (i := 24) rfl)) (by decide) (rm4 l Z a0 hw [] b20 w_HOST w_JDK w_HOST w_PLUGIN_THEN_HOST w_PLUGIN w_CLOSED_PLUGIN h22 n0 O23 S_JDK S_HOST S_PLUGIN_THEN_HOST S_PLUGIN S_CLOSED_PLUGIN) e22 (A20.keep K22) (by rw [hml]; rfl) (lenOf o_pd2 rfl) (has := rfl) (hst := rfl) (W := 0) (Nat.le_of_ble_eq_true rfl) (hb hby at_69) (by decide) (by decide) (by decide) (by decide) fun v24 T24 h24 L24 X24 e24 q24 => ?_
      obtain ⟨r24, N24q, rfl⟩ := q24
      rw [show (if w_HOST = w_PLUGIN_THEN_HOST then w_PLUGIN else w_PLUGIN_THEN_HOST) = w_PLUGIN_THEN_HOST from if_neg n_HOST_PLUGIN_THEN_HOST] at r24
      subst r24
      have N24 := Fr.app N22 N24q
      show Go p e below T24 (mkF m 72 #[.val (.int p1), .val (.int ((p1 &&& (2147483647 : Int32)) % (5 : Int32))), .val (.ref w_HOST), .val (.ref b20), .unset] [(.ref w_PLUGIN_THEN_HOST)]) _
      refine o_astore (l' := #[.val (.int p1), .val (.int ((p1 &&& (2147483647 : Int32)) % (5 : Int32))), .val (.ref w_HOST), .val (.ref b20), .val (.ref w_PLUGIN_THEN_HOST)]) (pc := 72) X24 hx (hb hby at_72) rfl rfl ?_
      refine o_aload (v := (.ref w_PLUGIN_THEN_HOST)) (pc := 74) X24 hx (hb hby at_74) rfl rfl ?_
      refine o_ifnullNo (pc := 76) X24 hx (hb hby at_76) ?_
      refine o_aload (v := (.ref w_PLUGIN_THEN_HOST)) (pc := 79) X24 hx (hb hby at_79) rfl rfl ?_
      refine o_getF (pc := 81) X24 hx hZ hown (host := "") (Or.inl (hw _ (List.mem_of_getElem? (i := 27) rfl))) Via.refl e24 (F_PLUGIN_THEN_HOST_readsContent.ext O23.2) (hb hby at_81) fun T25 X25 e25 => ?_
      refine o_ifYes (pc := 84) X25 hx 89 (hb hby at_84) ((if0 _ _).trans (feq (by decide : ¬ ((1 : Int32) = (0 : Int32)))).2) (by decide) (by decide) ?_
      refine o_iloadN (v := ((p1 &&& (2147483647 : Int32)) % (5 : Int32))) (pc := 89) X25 hx (hb hby at_89) rfl ?_
      refine o_iconst (pc := 90) X25 hx (1 : Int32) (hb hby at_90) rfl ?_
      refine o_icmpNo (pc := 91) X25 hx (hb hby at_91) (flt (by rw [hc18]; decide : ¬ ((1 : Int32) < ((p1 &&& (2147483647 : Int32)) % (5 : Int32))))).2.2.1 ?_
      refine o_aload (v := (.ref w_PLUGIN_THEN_HOST)) (pc := 94) X25 hx (hb hby at_94) rfl rfl ?_
      refine o_getS (pc := 96) X25 hx hZ hown (host := "") (Or.inl (hw _ (List.mem_of_getElem? (i := 29) rfl))) Via.refl e25 (S_PLUGIN_THEN_HOST.ext O23.2) (hb hby at_96) fun T26 X26 e26 => ?_
      refine o_acmp (x := (.ref w_PLUGIN_THEN_HOST)) (y := (.ref w_PLUGIN_THEN_HOST)) (pc := 99) X26 hx 102 true rfl rfl (hb hby at_99) (decide_eq_true rfl) (by decide) (by decide) ?_
      refine o_iconst (pc := 102) X26 hx (1 : Int32) (hb hby at_102) rfl ?_
      refine o_goto (pc := 103) X26 hx 107 (hb hby at_103) (by decide) (by decide) ?_
      exact o_retN (pc := 107) X26 hx .boolean hret hlk (by simp) (hb hby at_107) e26 (by decide) (by decide) ⟨rfl, N24⟩
    · skip
      refine o_icmpYes (pc := 20) X0 hx 30 (hb hby at_20) (feq hc18).2 (by decide) (by decide) ?_
      refine o_iloadN (v := ((p1 &&& (2147483647 : Int32)) % (5 : Int32))) (pc := 30) X0 hx (hb hby at_30) rfl ?_
      refine o_iconst (pc := 31) X0 hx (2 : Int32) (hb hby at_31) rfl ?_
      by_cases hc27 : ((p1 &&& (2147483647 : Int32)) % (5 : Int32)) = (2 : Int32)
      · skip
        refine o_icmpNo (pc := 32) X0 hx (hb hby at_32) (teq hc27).2 ?_
        refine o_getS (pc := 35) X0 hx hZ hown (host := "") (Or.inl (hw _ (List.mem_of_getElem? (i := 29) rfl))) Via.refl e0 (S_PLUGIN_THEN_HOST.ext O0.2) (hb hby at_35) fun T28 X28 e28 => ?_
        refine o_astoreN (l' := #[.val (.int p1), .val (.int ((p1 &&& (2147483647 : Int32)) % (5 : Int32))), .val (.ref w_PLUGIN_THEN_HOST), .unset, .unset]) (pc := 38) X28 hx (hb hby at_38) rfl rfl ?_
        refine o_goto (pc := 39) X28 hx 58 (hb hby at_39) (by decide) (by decide) ?_
        refine o_new (pc := 58) X28 hx hZ hown (hw _ (List.mem_of_getElem? (i := 4) rfl)) (hw _ (List.mem_of_getElem? (i := 5) rfl)) (hw _ (List.mem_of_getElem? (i := 6) rfl)) e28 (hb hby at_58) (by decide) (by decide) fun T29 h29 b29 X29 e29 g29 E29 A29 D29 U29 => ?_
        have O30 := O0.ext E29
        have F29_sharedPackages : Fld Z h29 b29 "com/example/cloister/cloister/Isolation$Sharing" "sharedPackages" "Ljava/util/Set;" .null := D29 (Or.inr (hw _ (List.mem_of_getElem? (i := 19) rfl))) (ty := (.object "java/util/Set")) (by decide)
        refine o_dup (pc := 61) X29 hx (hb hby at_61) rfl ?_
        refine o_aconst_null (pc := 62) X29 hx (hb hby at_62) ?_
        refine o_callN (pc := 63) X29 hx hZ (y := (⟨"com/example/cloister/cloister/Isolation$Sharing", "<init>", "(Ljava/util/Set;)V"⟩ : MethodName)) (a := b29) (argsL := [.null]) (rest := [(.ref b29)]) rfl hown (hw _ (List.mem_of_getElem? (i := 7) rfl)) (hw _ (List.mem_of_getElem? (i := 8) rfl)) (hw _ (List.mem_of_getElem? (i := 6) rfl)) (hw _ (List.mem_of_getElem? (i := 9) rfl)) (by decide) (rm1 l Z a0 hw [] b29 h29 n0 O30 A29 F29_sharedPackages (Nat.le_trans (o_n0 O0) g29)) e29 (by rw [hml]; rfl) (lenOf o_pd1 rfl) (has := rfl) (hst := rfl) (W := 1) (Nat.le_of_ble_eq_true rfl) (hb hby at_63) (by decide) (by decide) (by decide) (by decide) fun v31 T31 h31 L31 X31 e31 q31 => ?_
        obtain ⟨rfl, N31q, K31⟩ := q31
        have N31 := Fr.app N0 N31q
        have O32 := O30.keep K31 (allS (Nat.le_trans (o_n0 O0) g29) all0)
        show Go p e below T31 (mkF m 66 #[.val (.int p1), .val (.int ((p1 &&& (2147483647 : Int32)) % (5 : Int32))), .val (.ref w_PLUGIN_THEN_HOST), .unset, .unset] [(.ref b29)]) _
        refine o_astoreN (l' := #[.val (.int p1), .val (.int ((p1 &&& (2147483647 : Int32)) % (5 : Int32))), .val (.ref w_PLUGIN_THEN_HOST), .val (.ref b29), .unset]) (pc := 66) X31 hx (hb hby at_66) rfl rfl ?_
        refine o_aloadN (v := (.ref b29)) (pc := 67) X31 hx (hb hby at_67) rfl rfl ?_
        refine o_aloadN (v := (.ref w_PLUGIN_THEN_HOST)) (pc := 68) X31 hx (hb hby at_68) rfl rfl ?_
        refine o_callV (pc := 69) X31 hx hZ (y := (⟨"com/example/cloister/cloister/Isolation$Sharing", "sourceOfProviderFile", "(Lcom/example/cloister/cloister/Isolation$Source;)Lcom/example/cloister/cloister/Isolation$Source;"⟩ : MethodName)) (z := (⟨"com/example/cloister/cloister/Isolation$Sharing", "sourceOfProviderFile", "(Lcom/example/cloister/cloister/Isolation$Source;)Lcom/example/cloister/cloister/Isolation$Source;"⟩ : MethodName)) (C := "com/example/cloister/cloister/Isolation$Sharing") (a := b29) (argsL := [(.ref w_PLUGIN_THEN_HOST)]) (rest := []) hown (hw _ (List.mem_of_getElem? (i := 20) rfl)) (hw _ (List.mem_of_getElem? (i := 21) rfl)) (notFace_of_selects (args := #[]) (mvT hZ (hw _ (List.mem_of_getElem? (i := 23) rfl)))) (hw _ (List.mem_of_getElem? (i := 23) rfl)) (hw _ (List.mem_of_getElem? (i := 22) rfl)) (hw _ (List.mem_of_getElem? (i := 6) rfl)) (hw _ (List.mem_of_getElem? (i := 24) rfl)) (by decide) (rm4 l Z a0 hw [] b29 w_PLUGIN_THEN_HOST w_JDK w_HOST w_PLUGIN_THEN_HOST w_PLUGIN w_CLOSED_PLUGIN h31 n0 O32 S_JDK S_HOST S_PLUGIN_THEN_HOST S_PLUGIN S_CLOSED_PLUGIN) e31 (A29.keep K31) (by rw [hml]; rfl) (lenOf o_pd2 rfl) (has := rfl) (hst := rfl) (W := 0) (Nat.le_of_ble_eq_true rfl) (hb hby at_69) (by decide) (by decide) (by decide) (by decide) fun v33 T33 h33 L33 X33 e33 q33 => ?_
        obtain ⟨r33, N33q, rfl⟩ := q33
        rw [show (if w_PLUGIN_THEN_HOST = w_PLUGIN_THEN_HOST then w_PLUGIN else w_PLUGIN_THEN_HOST) = w_PLUGIN from if_pos rfl] at r33
        subst r33
        have N33 := Fr.app N31 N33q
        show Go p e below T33 (mkF m 72 #[.val (.int p1), .val (.int ((p1 &&& (2147483647 : Int32)) % (5 : Int32))), .val (.ref w_PLUGIN_THEN_HOST), .val (.ref b29), .unset] [(.ref w_PLUGIN)]) _
        refine o_astore (l' := #[.val (.int p1), .val (.int ((p1 &&& (2147483647 : Int32)) % (5 : Int32))), .val (.ref w_PLUGIN_THEN_HOST), .val (.ref b29), .val (.ref w_PLUGIN)]) (pc := 72) X33 hx (hb hby at_72) rfl rfl ?_
        refine o_aload (v := (.ref w_PLUGIN)) (pc := 74) X33 hx (hb hby at_74) rfl rfl ?_
        refine o_ifnullNo (pc := 76) X33 hx (hb hby at_76) ?_
        refine o_aload (v := (.ref w_PLUGIN)) (pc := 79) X33 hx (hb hby at_79) rfl rfl ?_
        refine o_getF (pc := 81) X33 hx hZ hown (host := "") (Or.inl (hw _ (List.mem_of_getElem? (i := 27) rfl))) Via.refl e33 (F_PLUGIN_readsContent.ext O32.2) (hb hby at_81) fun T34 X34 e34 => ?_
        refine o_ifYes (pc := 84) X34 hx 89 (hb hby at_84) ((if0 _ _).trans (feq (by decide : ¬ ((1 : Int32) = (0 : Int32)))).2) (by decide) (by decide) ?_
        refine o_iloadN (v := ((p1 &&& (2147483647 : Int32)) % (5 : Int32))) (pc := 89) X34 hx (hb hby at_89) rfl ?_
        refine o_iconst (pc := 90) X34 hx (1 : Int32) (hb hby at_90) rfl ?_
        refine o_icmpYes (pc := 91) X34 hx 108 (hb hby at_91) (tlt (by rw [hc27]; decide : (1 : Int32) < ((p1 &&& (2147483647 : Int32)) % (5 : Int32)))).2.2.1 (by decide) (by decide) ?_
        refine o_iloadN (v := ((p1 &&& (2147483647 : Int32)) % (5 : Int32))) (pc := 108) X34 hx (hb hby at_108) rfl ?_
        refine o_iconst (pc := 109) X34 hx (2 : Int32) (hb hby at_109) rfl ?_
        refine o_icmpNo (pc := 110) X34 hx (hb hby at_110) (teq hc27).2 ?_
        refine o_aload (v := (.ref w_PLUGIN)) (pc := 113) X34 hx (hb hby at_113) rfl rfl ?_
        refine o_getS (pc := 115) X34 hx hZ hown (host := "") (Or.inl (hw _ (List.mem_of_getElem? (i := 30) rfl))) Via.refl e34 (S_PLUGIN.ext O32.2) (hb hby at_115) fun T35 X35 e35 => ?_
        refine o_acmp (x := (.ref w_PLUGIN)) (y := (.ref w_PLUGIN)) (pc := 118) X35 hx 121 true rfl rfl (hb hby at_118) (decide_eq_true rfl) (by decide) (by decide) ?_
        refine o_iconst (pc := 121) X35 hx (1 : Int32) (hb hby at_121) rfl ?_
        refine o_goto (pc := 122) X35 hx 126 (hb hby at_122) (by decide) (by decide) ?_
        exact o_retN (pc := 126) X35 hx .boolean hret hlk (by simp) (hb hby at_126) e35 (by decide) (by decide) ⟨rfl, N33⟩
      · skip
        refine o_icmpYes (pc := 32) X0 hx 42 (hb hby at_32) (feq hc27).2 (by decide) (by decide) ?_
        refine o_iloadN (v := ((p1 &&& (2147483647 : Int32)) % (5 : Int32))) (pc := 42) X0 hx (hb hby at_42) rfl ?_
        refine o_iconst (pc := 43) X0 hx (3 : Int32) (hb hby at_43) rfl ?_
        by_cases hc36 : ((p1 &&& (2147483647 : Int32)) % (5 : Int32)) = (3 : Int32)
        · skip
          refine o_icmpNo (pc := 44) X0 hx (hb hby at_44) (teq hc36).2 ?_
          refine o_getS (pc := 47) X0 hx hZ hown (host := "") (Or.inl (hw _ (List.mem_of_getElem? (i := 30) rfl))) Via.refl e0 (S_PLUGIN.ext O0.2) (hb hby at_47) fun T37 X37 e37 => ?_
          refine o_astoreN (l' := #[.val (.int p1), .val (.int ((p1 &&& (2147483647 : Int32)) % (5 : Int32))), .val (.ref w_PLUGIN), .unset, .unset]) (pc := 50) X37 hx (hb hby at_50) rfl rfl ?_
          refine o_goto (pc := 51) X37 hx 58 (hb hby at_51) (by decide) (by decide) ?_
          refine o_new (pc := 58) X37 hx hZ hown (hw _ (List.mem_of_getElem? (i := 4) rfl)) (hw _ (List.mem_of_getElem? (i := 5) rfl)) (hw _ (List.mem_of_getElem? (i := 6) rfl)) e37 (hb hby at_58) (by decide) (by decide) fun T38 h38 b38 X38 e38 g38 E38 A38 D38 U38 => ?_
          have O39 := O0.ext E38
          have F38_sharedPackages : Fld Z h38 b38 "com/example/cloister/cloister/Isolation$Sharing" "sharedPackages" "Ljava/util/Set;" .null := D38 (Or.inr (hw _ (List.mem_of_getElem? (i := 19) rfl))) (ty := (.object "java/util/Set")) (by decide)
          refine o_dup (pc := 61) X38 hx (hb hby at_61) rfl ?_
          refine o_aconst_null (pc := 62) X38 hx (hb hby at_62) ?_
          refine o_callN (pc := 63) X38 hx hZ (y := (⟨"com/example/cloister/cloister/Isolation$Sharing", "<init>", "(Ljava/util/Set;)V"⟩ : MethodName)) (a := b38) (argsL := [.null]) (rest := [(.ref b38)]) rfl hown (hw _ (List.mem_of_getElem? (i := 7) rfl)) (hw _ (List.mem_of_getElem? (i := 8) rfl)) (hw _ (List.mem_of_getElem? (i := 6) rfl)) (hw _ (List.mem_of_getElem? (i := 9) rfl)) (by decide) (rm1 l Z a0 hw [] b38 h38 n0 O39 A38 F38_sharedPackages (Nat.le_trans (o_n0 O0) g38)) e38 (by rw [hml]; rfl) (lenOf o_pd1 rfl) (has := rfl) (hst := rfl) (W := 1) (Nat.le_of_ble_eq_true rfl) (hb hby at_63) (by decide) (by decide) (by decide) (by decide) fun v40 T40 h40 L40 X40 e40 q40 => ?_
          obtain ⟨rfl, N40q, K40⟩ := q40
          have N40 := Fr.app N0 N40q
          have O41 := O39.keep K40 (allS (Nat.le_trans (o_n0 O0) g38) all0)
          show Go p e below T40 (mkF m 66 #[.val (.int p1), .val (.int ((p1 &&& (2147483647 : Int32)) % (5 : Int32))), .val (.ref w_PLUGIN), .unset, .unset] [(.ref b38)]) _
          refine o_astoreN (l' := #[.val (.int p1), .val (.int ((p1 &&& (2147483647 : Int32)) % (5 : Int32))), .val (.ref w_PLUGIN), .val (.ref b38), .unset]) (pc := 66) X40 hx (hb hby at_66) rfl rfl ?_
          refine o_aloadN (v := (.ref b38)) (pc := 67) X40 hx (hb hby at_67) rfl rfl ?_
          refine o_aloadN (v := (.ref w_PLUGIN)) (pc := 68) X40 hx (hb hby at_68) rfl rfl ?_
          refine o_callV (pc := 69) X40 hx hZ (y := (⟨"com/example/cloister/cloister/Isolation$Sharing", "sourceOfProviderFile", "(Lcom/example/cloister/cloister/Isolation$Source;)Lcom/example/cloister/cloister/Isolation$Source;"⟩ : MethodName)) (z := (⟨"com/example/cloister/cloister/Isolation$Sharing", "sourceOfProviderFile", "(Lcom/example/cloister/cloister/Isolation$Source;)Lcom/example/cloister/cloister/Isolation$Source;"⟩ : MethodName)) (C := "com/example/cloister/cloister/Isolation$Sharing") (a := b38) (argsL := [(.ref w_PLUGIN)]) (rest := []) hown (hw _ (List.mem_of_getElem? (i := 20) rfl)) (hw _ (List.mem_of_getElem? (i := 21) rfl)) (notFace_of_selects (args := #[]) (mvT hZ (hw _ (List.mem_of_getElem? (i := 23) rfl)))) (hw _ (List.mem_of_getElem? (i := 23) rfl)) (hw _ (List.mem_of_getElem? (i := 22) rfl)) (hw _ (List.mem_of_getElem? (i := 6) rfl)) (hw _ (List.mem_of_getElem? (i := 24) rfl)) (by decide) (rm4 l Z a0 hw [] b38 w_PLUGIN w_JDK w_HOST w_PLUGIN_THEN_HOST w_PLUGIN w_CLOSED_PLUGIN h40 n0 O41 S_JDK S_HOST S_PLUGIN_THEN_HOST S_PLUGIN S_CLOSED_PLUGIN) e40 (A38.keep K40) (by rw [hml]; rfl) (lenOf o_pd2 rfl) (has := rfl) (hst := rfl) (W := 0) (Nat.le_of_ble_eq_true rfl) (hb hby at_69) (by decide) (by decide) (by decide) (by decide) fun v42 T42 h42 L42 X42 e42 q42 => ?_
          obtain ⟨r42, N42q, rfl⟩ := q42
          rw [show (if w_PLUGIN = w_PLUGIN_THEN_HOST then w_PLUGIN else w_PLUGIN_THEN_HOST) = w_PLUGIN_THEN_HOST from if_neg (Ne.symm n_PLUGIN_THEN_HOST_PLUGIN)] at r42
          subst r42
          have N42 := Fr.app N40 N42q
          show Go p e below T42 (mkF m 72 #[.val (.int p1), .val (.int ((p1 &&& (2147483647 : Int32)) % (5 : Int32))), .val (.ref w_PLUGIN), .val (.ref b38), .unset] [(.ref w_PLUGIN_THEN_HOST)]) _
          refine o_astore (l' := #[.val (.int p1), .val (.int ((p1 &&& (2147483647 : Int32)) % (5 : Int32))), .val (.ref w_PLUGIN), .val (.ref b38), .val (.ref w_PLUGIN_THEN_HOST)]) (pc := 72) X42 hx (hb hby at_72) rfl rfl ?_
          refine o_aload (v := (.ref w_PLUGIN_THEN_HOST)) (pc := 74) X42 hx (hb hby at_74) rfl rfl ?_
          refine o_ifnullNo (pc := 76) X42 hx (hb hby at_76) ?_
          refine o_aload (v := (.ref w_PLUGIN_THEN_HOST)) (pc := 79) X42 hx (hb hby at_79) rfl rfl ?_
          refine o_getF (pc := 81) X42 hx hZ hown (host := "") (Or.inl (hw _ (List.mem_of_getElem? (i := 27) rfl))) Via.refl e42 (F_PLUGIN_THEN_HOST_readsContent.ext O41.2) (hb hby at_81) fun T43 X43 e43 => ?_
          refine o_ifYes (pc := 84) X43 hx 89 (hb hby at_84) ((if0 _ _).trans (feq (by decide : ¬ ((1 : Int32) = (0 : Int32)))).2) (by decide) (by decide) ?_
          refine o_iloadN (v := ((p1 &&& (2147483647 : Int32)) % (5 : Int32))) (pc := 89) X43 hx (hb hby at_89) rfl ?_
          refine o_iconst (pc := 90) X43 hx (1 : Int32) (hb hby at_90) rfl ?_
          refine o_icmpYes (pc := 91) X43 hx 108 (hb hby at_91) (tlt (by rw [hc36]; decide : (1 : Int32) < ((p1 &&& (2147483647 : Int32)) % (5 : Int32)))).2.2.1 (by decide) (by decide) ?_
          refine o_iloadN (v := ((p1 &&& (2147483647 : Int32)) % (5 : Int32))) (pc := 108) X43 hx (hb hby at_108) rfl ?_
          refine o_iconst (pc := 109) X43 hx (2 : Int32) (hb hby at_109) rfl ?_
          refine o_icmpYes (pc := 110) X43 hx 127 (hb hby at_110) (feq hc27).2 (by decide) (by decide) ?_
          refine o_iconst (pc := 127) X43 hx (1 : Int32) (hb hby at_127) rfl ?_
          exact o_retN (pc := 128) X43 hx .boolean hret hlk (by simp) (hb hby at_128) e43 (by decide) (by decide) ⟨rfl, N42⟩
        · skip
          refine o_icmpYes (pc := 44) X0 hx 54 (hb hby at_44) (feq hc36).2 (by decide) (by decide) ?_
          have hk4 : ((p1 &&& (2147483647 : Int32)) % (5 : Int32)) = (4 : Int32) := by rcases rem5 p1 with h | h | h | h | h; exact absurd h hc9; exact absurd h hc18; exact absurd h hc27; exact absurd h hc36; exact h
          refine o_getS (pc := 54) X0 hx hZ hown (host := "") (Or.inl (hw _ (List.mem_of_getElem? (i := 34) rfl))) Via.refl e0 (S_CLOSED_PLUGIN.ext O0.2) (hb hby at_54) fun T44 X44 e44 => ?_
          refine o_astoreN (l' := #[.val (.int p1), .val (.int ((p1 &&& (2147483647 : Int32)) % (5 : Int32))), .val (.ref w_CLOSED_PLUGIN), .unset, .unset]) (pc := 57) X44 hx (hb hby at_57) rfl rfl ?_
          refine o_new (pc := 58) X44 hx hZ hown (hw _ (List.mem_of_getElem? (i := 4) rfl)) (hw _ (List.mem_of_getElem? (i := 5) rfl)) (hw _ (List.mem_of_getElem? (i := 6) rfl)) e44 (hb hby at_58) (by decide) (by decide) fun T45 h45 b45 X45 e45 g45 E45 A45 D45 U45 => ?_
          have O46 := O0.ext E45
          have F45_sharedPackages : Fld Z h45 b45 "com/example/cloister/cloister/Isolation$Sharing" "sharedPackages" "Ljava/util/Set;" .null := D45 (Or.inr (hw _ (List.mem_of_getElem? (i := 19) rfl))) (ty := (.object "java/util/Set")) (by decide)
          refine o_dup (pc := 61) X45 hx (hb hby at_61) rfl ?_
          refine o_aconst_null (pc := 62) X45 hx (hb hby at_62) ?_
          refine o_callN (pc := 63) X45 hx hZ (y := (⟨"com/example/cloister/cloister/Isolation$Sharing", "<init>", "(Ljava/util/Set;)V"⟩ : MethodName)) (a := b45) (argsL := [.null]) (rest := [(.ref b45)]) rfl hown (hw _ (List.mem_of_getElem? (i := 7) rfl)) (hw _ (List.mem_of_getElem? (i := 8) rfl)) (hw _ (List.mem_of_getElem? (i := 6) rfl)) (hw _ (List.mem_of_getElem? (i := 9) rfl)) (by decide) (rm1 l Z a0 hw [] b45 h45 n0 O46 A45 F45_sharedPackages (Nat.le_trans (o_n0 O0) g45)) e45 (by rw [hml]; rfl) (lenOf o_pd1 rfl) (has := rfl) (hst := rfl) (W := 1) (Nat.le_of_ble_eq_true rfl) (hb hby at_63) (by decide) (by decide) (by decide) (by decide) fun v47 T47 h47 L47 X47 e47 q47 => ?_
          obtain ⟨rfl, N47q, K47⟩ := q47
          have N47 := Fr.app N0 N47q
          have O48 := O46.keep K47 (allS (Nat.le_trans (o_n0 O0) g45) all0)
          show Go p e below T47 (mkF m 66 #[.val (.int p1), .val (.int ((p1 &&& (2147483647 : Int32)) % (5 : Int32))), .val (.ref w_CLOSED_PLUGIN), .unset, .unset] [(.ref b45)]) _
          refine o_astoreN (l' := #[.val (.int p1), .val (.int ((p1 &&& (2147483647 : Int32)) % (5 : Int32))), .val (.ref w_CLOSED_PLUGIN), .val (.ref b45), .unset]) (pc := 66) X47 hx (hb hby at_66) rfl rfl ?_
          refine o_aloadN (v := (.ref b45)) (pc := 67) X47 hx (hb hby at_67) rfl rfl ?_
          refine o_aloadN (v := (.ref w_CLOSED_PLUGIN)) (pc := 68) X47 hx (hb hby at_68) rfl rfl ?_
          refine o_callV (pc := 69) X47 hx hZ (y := (⟨"com/example/cloister/cloister/Isolation$Sharing", "sourceOfProviderFile", "(Lcom/example/cloister/cloister/Isolation$Source;)Lcom/example/cloister/cloister/Isolation$Source;"⟩ : MethodName)) (z := (⟨"com/example/cloister/cloister/Isolation$Sharing", "sourceOfProviderFile", "(Lcom/example/cloister/cloister/Isolation$Source;)Lcom/example/cloister/cloister/Isolation$Source;"⟩ : MethodName)) (C := "com/example/cloister/cloister/Isolation$Sharing") (a := b45) (argsL := [(.ref w_CLOSED_PLUGIN)]) (rest := []) hown (hw _ (List.mem_of_getElem? (i := 20) rfl)) (hw _ (List.mem_of_getElem? (i := 21) rfl)) (notFace_of_selects (args := #[]) (mvT hZ (hw _ (List.mem_of_getElem? (i := 23) rfl)))) (hw _ (List.mem_of_getElem? (i := 23) rfl)) (hw _ (List.mem_of_getElem? (i := 22) rfl)) (hw _ (List.mem_of_getElem? (i := 6) rfl)) (hw _ (List.mem_of_getElem? (i := 24) rfl)) (by decide) (rm4 l Z a0 hw [] b45 w_CLOSED_PLUGIN w_JDK w_HOST w_PLUGIN_THEN_HOST w_PLUGIN w_CLOSED_PLUGIN h47 n0 O48 S_JDK S_HOST S_PLUGIN_THEN_HOST S_PLUGIN S_CLOSED_PLUGIN) e47 (A45.keep K47) (by rw [hml]; rfl) (lenOf o_pd2 rfl) (has := rfl) (hst := rfl) (W := 0) (Nat.le_of_ble_eq_true rfl) (hb hby at_69) (by decide) (by decide) (by decide) (by decide) fun v49 T49 h49 L49 X49 e49 q49 => ?_
          obtain ⟨r49, N49q, rfl⟩ := q49
          rw [show (if w_CLOSED_PLUGIN = w_PLUGIN_THEN_HOST then w_PLUGIN else w_PLUGIN_THEN_HOST) = w_PLUGIN_THEN_HOST from if_neg (Ne.symm n_PLUGIN_THEN_HOST_CLOSED_PLUGIN)] at r49
          subst r49
          have N49 := Fr.app N47 N49q
          show Go p e below T49 (mkF m 72 #[.val (.int p1), .val (.int ((p1 &&& (2147483647 : Int32)) % (5 : Int32))), .val (.ref w_CLOSED_PLUGIN), .val (.ref b45), .unset] [(.ref w_PLUGIN_THEN_HOST)]) _
          refine o_astore (l' := #[.val (.int p1), .val (.int ((p1 &&& (2147483647 : Int32)) % (5 : Int32))), .val (.ref w_CLOSED_PLUGIN), .val (.ref b45), .val (.ref w_PLUGIN_THEN_HOST)]) (pc := 72) X49 hx (hb hby at_72) rfl rfl ?_
          refine o_aload (v := (.ref w_PLUGIN_THEN_HOST)) (pc := 74) X49 hx (hb hby at_74) rfl rfl ?_
          refine o_ifnullNo (pc := 76) X49 hx (hb hby at_76) ?_
          refine o_aload (v := (.ref w_PLUGIN_THEN_HOST)) (pc := 79) X49 hx (hb hby at_79) rfl rfl ?_
          refine o_getF (pc := 81) X49 hx hZ hown (host := "") (Or.inl (hw _ (List.mem_of_getElem? (i := 27) rfl))) Via.refl e49 (F_PLUGIN_THEN_HOST_readsContent.ext O48.2) (hb hby at_81) fun T50 X50 e50 => ?_
          refine o_ifYes (pc := 84) X50 hx 89 (hb hby at_84) ((if0 _ _).trans (feq (by decide : ¬ ((1 : Int32) = (0 : Int32)))).2) (by decide) (by decide) ?_
          refine o_iloadN (v := ((p1 &&& (2147483647 : Int32)) % (5 : Int32))) (pc := 89) X50 hx (hb hby at_89) rfl ?_
          refine o_iconst (pc := 90) X50 hx (1 : Int32) (hb hby at_90) rfl ?_
          refine o_icmpYes (pc := 91) X50 hx 108 (hb hby at_91) (tlt (by rw [hk4]; decide : (1 : Int32) < ((p1 &&& (2147483647 : Int32)) % (5 : Int32)))).2.2.1 (by decide) (by decide) ?_
          refine o_iloadN (v := ((p1 &&& (2147483647 : Int32)) % (5 : Int32))) (pc := 108) X50 hx (hb hby at_108) rfl ?_
          refine o_iconst (pc := 109) X50 hx (2 : Int32) (hb hby at_109) rfl ?_
          refine o_icmpYes (pc := 110) X50 hx 127 (hb hby at_110) (feq hc27).2 (by decide) (by decide) ?_
          refine o_iconst (pc := 127) X50 hx (1 : Int32) (hb hby at_127) rfl ?_
          exact o_retN (pc := 128) X50 hx .boolean hret hlk (by simp) (hb hby at_128) e50 (by decide) (by decide) ⟨rfl, N49⟩
set_option maxRecDepth 65536 in
set_option maxHeartbeats 40000000 in
theorem comes_1 {Post : Tables → Env → Array Value → State → Outcome → State → Prop} (hpost : ∀ tb e args s v u, (limb_1_1.after args s (.returned v) u = true ∧ limb_1_2.after args s (.returned v) u = true ∧ True) → FrameEnd s (.returned v) u (Jvm.fieldLocs frame_1_writes args s ++ Jvm.arrayLocs frame_1_arrays args s ++ Jvm.staticLocs frame_1_statics s) 16 128 → Post tb e args s (.returned v) u) :
    ArmFor flags0 classFile x code maxLocals ret World_1 tables_1 room_1 Calls_1 rest_1 Pre_1 Post := by
  intro l hfl _ _ p e ha hc hk s m args below hf hA hF happ hP
  obtain ⟨hcalls, hrest, hpre⟩ := hP
  obtain ⟨-, -, -, hnamed, -, -, -, hat⟩ := (Spec.applies_iff hf).mp happ
  obtain ⟨hg, hn⟩ := and_e (Cond.before_iff.mp (show (Jvm.Cond.and given_1 narrow_1).before args s = true from hpre))
  obtain ⟨g51, g52⟩ := and_e hg
  obtain ⟨g53, g54⟩ := and_e hn
  obtain ⟨g55, g56⟩ := and_e g54
  obtain ⟨g57, g58⟩ := and_e g56
  obtain ⟨g59, g60⟩ := and_e g58
  obtain ⟨g61, g62⟩ := and_e g60
  obtain ⟨g63, g64⟩ := and_e g62
  obtain ⟨g65, g66⟩ := and_e g64
  obtain ⟨g67, g68⟩ := and_e g66
  obtain ⟨g69, g70⟩ := and_e g68
  obtain ⟨g71, g72⟩ := and_e g70
  obtain ⟨g73, g74⟩ := and_e g72
  obtain ⟨g75, g76⟩ := and_e g74
  obtain ⟨g77, g78⟩ := and_e g76
  obtain ⟨g79, g80⟩ := and_e g78
  obtain ⟨w0, rfl⟩ : ∃ w0 : Value, args = #[w0] := by
    have hs : args.size = 1 := by simpa [Cond.value, given_1] using g51
    obtain ⟨L⟩ := args
    match L, hs with
    | [w0], _ => exact ⟨w0, rfl⟩
  have hw := fun d (hd : d ∈ tables_1) => atoms_spec (ws := Jvm.Cond.code x code maxLocals ret :: tables_1) hat d (List.mem_cons_of_mem _ hd)
  have hfit : Fit s := fun {y c} hc i hi => by
    obtain ⟨ha, rfl⟩ := Array.getElem?_eq_some_iff.mp hc
    have q := List.all_eq_true.mp ((Array.all_eq_true_iff_forall_mem.mp hF) _ (Array.getElem_mem ha)) i (List.mem_range.mpr hi)
    simpa [Array.getElem?_eq_getElem hi] using q
  obtain ⟨i0, ei0⟩ := is_v g52
  obtain rfl : w0 = (.int i0) := Option.some.inj ei0
  obtain ⟨w_JDK, ev_JDK⟩ := exa_v g53
  have S_JDK := Sta.start ev_JDK (Or.inr ⟨(hw _ (List.mem_of_getElem? (i := 2) rfl)), (hw _ (List.mem_of_getElem? (i := 3) rfl))⟩)
  have E_JDK := Exa.start ev_JDK g53
  obtain ⟨w_PLUGIN_THEN_HOST, ev_PLUGIN_THEN_HOST⟩ := exa_v g55
  have S_PLUGIN_THEN_HOST := Sta.start ev_PLUGIN_THEN_HOST (Or.inr ⟨(hw _ (List.mem_of_getElem? (i := 2) rfl)), (hw _ (List.mem_of_getElem? (i := 26) rfl))⟩)
  have E_PLUGIN_THEN_HOST := Exa.start ev_PLUGIN_THEN_HOST g55
  obtain ⟨w_PLUGIN, ev_PLUGIN⟩ := exa_v g63
  have S_PLUGIN := Sta.start ev_PLUGIN (Or.inr ⟨(hw _ (List.mem_of_getElem? (i := 2) rfl)), (hw _ (List.mem_of_getElem? (i := 31) rfl))⟩)
  have E_PLUGIN := Exa.start ev_PLUGIN g63
  obtain ⟨w_HOST, ev_HOST⟩ := exa_v g67
  have S_HOST := Sta.start ev_HOST (Or.inr ⟨(hw _ (List.mem_of_getElem? (i := 2) rfl)), (hw _ (List.mem_of_getElem? (i := 33) rfl))⟩)
  have E_HOST := Exa.start ev_HOST g67
  obtain ⟨w_CLOSED_PLUGIN, ev_CLOSED_PLUGIN⟩ := exa_v g71
  have S_CLOSED_PLUGIN := Sta.start ev_CLOSED_PLUGIN (Or.inr ⟨(hw _ (List.mem_of_getElem? (i := 2) rfl)), (hw _ (List.mem_of_getElem? (i := 35) rfl))⟩)
  have E_CLOSED_PLUGIN := Exa.start ev_CLOSED_PLUGIN g71
  have F_JDK_ordinal : Fld s s.heap w_JDK "java/lang/Enum" "ordinal" "I" (.int (0 : Int32)) := Fld.start ((fld_at ev_JDK).symm.trans (o_eqI g57))
  have F_PLUGIN_THEN_HOST_ordinal : Fld s s.heap w_PLUGIN_THEN_HOST "java/lang/Enum" "ordinal" "I" (.int (2 : Int32)) := Fld.start ((fld_at ev_PLUGIN_THEN_HOST).symm.trans (o_eqI g59))
  have F_PLUGIN_THEN_HOST_readsContent : Fld s s.heap w_PLUGIN_THEN_HOST "com/example/cloister/cloister/Isolation$Source" "readsContent" "Z" (.int (1 : Int32)) := Fld.start ((fld_at ev_PLUGIN_THEN_HOST).symm.trans (o_eqI g61))
  have F_PLUGIN_ordinal : Fld s s.heap w_PLUGIN "java/lang/Enum" "ordinal" "I" (.int (3 : Int32)) := Fld.start ((fld_at ev_PLUGIN).symm.trans (o_eqI g65))
  have F_HOST_ordinal : Fld s s.heap w_HOST "java/lang/Enum" "ordinal" "I" (.int (1 : Int32)) := Fld.start ((fld_at ev_HOST).symm.trans (o_eqI g69))
  have F_CLOSED_PLUGIN_ordinal : Fld s s.heap w_CLOSED_PLUGIN "java/lang/Enum" "ordinal" "I" (.int (4 : Int32)) := Fld.start ((fld_at ev_CLOSED_PLUGIN).symm.trans (o_eqI g73))
  have F_PLUGIN_readsContent : Fld s s.heap w_PLUGIN "com/example/cloister/cloister/Isolation$Source" "readsContent" "Z" (.int (1 : Int32)) := Fld.start ((fld_at ev_PLUGIN).symm.trans (o_eqI g75))
  have F_JDK_readsContent : Fld s s.heap w_JDK "com/example/cloister/cloister/Isolation$Source" "readsContent" "Z" (.int (0 : Int32)) := Fld.start ((fld_at ev_JDK).symm.trans (o_eqI g77))
  have F_HOST_readsContent : Fld s s.heap w_HOST "com/example/cloister/cloister/Isolation$Source" "readsContent" "Z" (.int (0 : Int32)) := Fld.start ((fld_at ev_HOST).symm.trans (o_eqI g79))
  have F_CLOSED_PLUGIN_readsContent : Fld s s.heap w_CLOSED_PLUGIN "com/example/cloister/cloister/Isolation$Source" "readsContent" "Z" (.int (0 : Int32)) := Fld.start ((fld_at ev_CLOSED_PLUGIN).symm.trans (o_eqI g80))
  obtain ⟨n, o, h1, h2, h3, _, L, rfl, ⟨rfl, N⟩, hq⟩ := rm0 l s _ hw tables_1 i0 w_JDK w_HOST w_PLUGIN_THEN_HOST w_PLUGIN w_CLOSED_PLUGIN s.heap s.heap.size (Old.start s) S_JDK S_HOST S_PLUGIN_THEN_HOST S_PLUGIN S_CLOSED_PLUGIN E_JDK E_HOST E_PLUGIN_THEN_HOST E_PLUGIN E_CLOSED_PLUGIN F_JDK_readsContent F_HOST_readsContent F_PLUGIN_THEN_HOST_readsContent F_PLUGIN_readsContent F_CLOSED_PLUGIN_readsContent (Fld.ne F_JDK_ordinal F_HOST_ordinal (by simp)) (Fld.ne F_JDK_ordinal F_PLUGIN_THEN_HOST_ordinal (by simp)) (Fld.ne F_JDK_ordinal F_PLUGIN_ordinal (by simp)) (Fld.ne F_JDK_ordinal F_CLOSED_PLUGIN_ordinal (by simp)) (Fld.ne F_HOST_ordinal F_PLUGIN_THEN_HOST_ordinal (by simp)) (Fld.ne F_HOST_ordinal F_PLUGIN_ordinal (by simp)) (Fld.ne F_HOST_ordinal F_CLOSED_PLUGIN_ordinal (by simp)) (Fld.ne F_PLUGIN_THEN_HOST_ordinal F_PLUGIN_ordinal (by simp)) (Fld.ne F_PLUGIN_THEN_HOST_ordinal F_CLOSED_PLUGIN_ordinal (by simp)) (Fld.ne F_PLUGIN_ordinal F_CLOSED_PLUGIN_ordinal (by simp)) p e ha hc hk s m _ below hf ((Spec.applies_iff_loose hf).mp happ).1 ⟨rfl, State.Warmed39.refl s, rfl⟩ trivial
  refine ⟨n, _, h1, h2, h3, hpost _ _ _ _ _ _ ⟨Cond.after_iff.mpr rfl, Cond.after_iff.mpr (eq_i res_at (Term.int_eval (1)) rfl), trivial⟩ ⟨hq.1, hq.2.1, (hq.2.2.sift fun y hy => Or.inr (N y hy)).mono (by decide) (by decide)⟩⟩
theorem main_1_1 : Claimed_1_1 := comes_1 fun _ _ _ _ _ _ h hF => ⟨h.1, hF⟩
theorem main_1_2 : Claimed_1_2 := comes_1 fun _ _ _ _ _ _ h hF => ⟨h.2.1, hF⟩
end Jvm.Pilot.@@N@@
namespace Jvm.Pilot.@@N@@
open Jvm Jvm.ClassFile Sem Op Lib Jvm.Free Jvm.Stand Jvm.Pilot.@@N@@.Jvm.D
/-! MADE BY PROGRAM (witnessworld.py) out of the Statement's table words and the real class files: 15 classes; the members and pool entries that the words name. The judged class is class 1, her method 1. -/
namespace start1
open Jvm.ClassFile
def u (s : String) : CpInfo := .utf8 (stringToUtf16 s)
/-- a pool by its gaps: so many unusable entries, then the entry; so many at the end -/
def gap : Nat → List CpInfo → List CpInfo
  | 0, r => r
  | n + 1, r => .unusable :: gap n r
def poolList (es : List (Nat × CpInfo)) (last : Nat) : List CpInfo := es.foldr (fun e r => gap e.1 (e.2 :: r)) (gap last [])
def pool (es : List (Nat × CpInfo)) (last : Nat) : Array CpInfo := ⟨poolList es last⟩
def fileOf (pool : Array CpInfo) (this : Nat) (attrs : Array Attribute := #[]) (ms : Array MethodInfo := #[]) (fl : Nat := 33) (sup : Nat := 0) (ifs : Array Nat := #[]) (fds : Array FieldInfo := #[]) : ClassFile where
  minorVersion := 0
  majorVersion := 65
  constantPool := pool
  accessFlags := fl
  thisClass := this
  superClass := sup
  interfaces := ifs
  fields := fds
  methods := ms
  attributes := attrs
def plain (name : String) (sup : Option ClassId) : Class where
  name := name
  kind := .ordinary
  loader := none
  accessFlags := 33
  super := sup
  interfaces := #[]
  cf := none
  fields := #[]
  methods := #[]
  instanceTypes := #[]
  staticTypes := #[]
  resolved := #[]
  callSites := []
  init := .initialized
  statics := none
  mirror := none

def pool0 : Array CpInfo := pool [(5, u "<init>"), (0, u "()V"), (1, .class_ 10), (1, u "java/lang/Object")] 113

def k0c0 : Code := { maxStack := 0, maxLocals := 1, code := object_method_1_code, exceptionTable := #[], attributes := #[] }
def k0m0 : Method := { name := "<init>", desc := "()V", sig := { parameters := [], returnType := none }, accessFlags := 1, code := some k0c0 }
/-- java/lang/Object -/
def k0 : Class := { plain "java/lang/Object" none with
  accessFlags := 33
  interfaces := #[]
  cf := some (fileOf pool0 8 #[] #[{ accessFlags := 1, nameIndex := 5, descriptorIndex := 6, attributes := #[] }] 33 0 #[] #[])
  fields := #[]
  methods := #[k0m0]
  instanceTypes := #[]
  staticTypes := #[]
  resolved := Array.replicate 124 none
  statics := none }

def pool1 : Array CpInfo := pool [(2, .class_ 4), (1, u "java/lang/Object"), (0, u "<init>"), (0, u "()V"), (0, .integer 2147483647), (0, .fieldref 9 10), (0, .class_ 11), (0, .nameAndType 12 13), (0, u "com/example/cloister/cloister/Isolation$Source"), (0, u "JDK"), (0, u "Lcom/example/cloister/cloister/Isolation$Source;"), (0, .fieldref 9 15), (0, .nameAndType 16 13), (0, u "HOST"), (0, .fieldref 9 18), (0, .nameAndType 19 13), (0, u "PLUGIN_THEN_HOST"), (0, .fieldref 9 21), (0, .nameAndType 22 13), (0, u "PLUGIN"), (0, .fieldref 9 24), (0, .nameAndType 25 13), (0, u "CLOSED_PLUGIN"), (0, .class_ 27), (0, u "com/example/cloister/cloister/Isolation$Sharing"), (0, .methodref 26 29), (0, .nameAndType 5 30), (0, u "(Ljava/util/Set;)V"), (0, .methodref 26 32), (0, .nameAndType 33 34), (0, u "sourceOfProviderFile"), (0, u "(Lcom/example/cloister/cloister/Isolation$Source;)Lcom/example/cloister/cloister/Isolation$Source;"), (0, .fieldref 9 36), (0, .nameAndType 37 38), (0, u "readsContent"), (0, u "Z"), (0, .class_ 40), (0, u "com/example/cloister/cloister/SharingSourceOfProviderFilePinLaw"), (2, u "law"), (0, u "(I)Z")] 8

def k1m0 : Method := { name := "<init>", desc := "()V", sig := { parameters := [], returnType := none }, accessFlags := 1, code := none }
def k1c1 : Code := { maxStack := 3, maxLocals := 5, code := code, exceptionTable := #[], attributes := #[] }
def k1m1 : Method := { name := "law", desc := "(I)Z", sig := { parameters := [.int], returnType := some .boolean }, accessFlags := 9, code := some k1c1 }
/-- com/example/cloister/cloister/SharingSourceOfProviderFilePinLaw -/
def k1 : Class := { plain "com/example/cloister/cloister/SharingSourceOfProviderFilePinLaw" (some 0) with
  accessFlags := 49
  interfaces := #[]
  cf := some (fileOf pool1 39 #[] #[{ accessFlags := 1, nameIndex := 5, descriptorIndex := 6, attributes := #[] }, { accessFlags := 9, nameIndex := 43, descriptorIndex := 44, attributes := #[] }] 49 2 #[] #[])
  fields := #[]
  methods := #[k1m0, k1m1]
  instanceTypes := #[]
  staticTypes := #[]
  resolved := Array.replicate 53 none
  statics := none }

def pool2 : Array CpInfo := pool [(1, .class_ 2), (0, u "java/lang/constant/Constable"), (0, .class_ 4), (0, u "java/lang/Object")] 6

/-- java/lang/constant/Constable -/
def k2 : Class := { plain "java/lang/constant/Constable" (some 0) with
  accessFlags := 1537
  interfaces := #[]
  cf := some (fileOf pool2 1 #[] #[] 1537 3 #[] #[])
  fields := #[]
  methods := #[]
  instanceTypes := #[]
  staticTypes := #[]
  resolved := Array.replicate 11 none
  statics := none }

def pool3 : Array CpInfo := pool [(1, .class_ 2), (0, u "java/lang/Comparable"), (0, .class_ 4), (0, u "java/lang/Object")] 7

/-- java/lang/Comparable -/
def k3 : Class := { plain "java/lang/Comparable" (some 0) with
  accessFlags := 1537
  interfaces := #[]
  cf := some (fileOf pool3 1 #[] #[] 1537 3 #[] #[])
  fields := #[]
  methods := #[]
  instanceTypes := #[]
  staticTypes := #[]
  resolved := Array.replicate 12 none
  statics := none }

def pool4 : Array CpInfo := pool [(1, .class_ 2), (0, u "java/io/Serializable"), (0, .class_ 4), (0, u "java/lang/Object")] 2

/-- java/io/Serializable -/
def k4 : Class := { plain "java/io/Serializable" (some 0) with
  accessFlags := 1537
  interfaces := #[]
  cf := some (fileOf pool4 1 #[] #[] 1537 3 #[] #[])
  fields := #[]
  methods := #[]
  instanceTypes := #[]
  staticTypes := #[]
  resolved := Array.replicate 7 none
  statics := none }

def pool5 : Array CpInfo := pool [(2, .class_ 4), (1, u "java/lang/Enum"), (0, u "name"), (0, u "Ljava/lang/String;"), (2, u "ordinal"), (0, u "I"), (1, .class_ 14), (1, u "java/lang/Object"), (4, u "hash"), (86, .class_ 108), (1, u "java/lang/Enum$EnumDesc"), (2, .class_ 112), (0, u "java/lang/constant/Constable"), (0, .class_ 114), (0, u "java/lang/Comparable"), (0, .class_ 116), (0, u "java/io/Serializable")] 87

/-- java/lang/Enum -/
def k5 : Class := { plain "java/lang/Enum" (some 0) with
  accessFlags := 1057
  interfaces := #[2, 3, 4]
  cf := some (fileOf pool5 2 #[.nestMembers #[106]] #[] 1057 12 #[111, 113, 115] #[{ accessFlags := 18, nameIndex := 5, descriptorIndex := 6, attributes := #[] }, { accessFlags := 18, nameIndex := 9, descriptorIndex := 10, attributes := #[] }, { accessFlags := 2, nameIndex := 19, descriptorIndex := 10, attributes := #[] }])
  fields := #[{ name := "name", type := (.object "java/lang/String"), accessFlags := 18, slot := 0, constantValue := 0 }, { name := "ordinal", type := .int, accessFlags := 18, slot := 1, constantValue := 0 }, { name := "hash", type := .int, accessFlags := 2, slot := 2, constantValue := 0 }]
  methods := #[]
  instanceTypes := #[(.object "java/lang/String"), .int, .int]
  staticTypes := #[]
  resolved := Array.replicate 204 none
  statics := none }

def pool6 : Array CpInfo := pool [(1, .class_ 2), (0, u "com/example/cloister/cloister/Isolation$Source"), (2, u "JDK"), (0, u "Lcom/example/cloister/cloister/Isolation$Source;"), (2, u "HOST"), (2, u "PLUGIN_THEN_HOST"), (2, u "PLUGIN"), (2, u "CLOSED_PLUGIN"), (2, u "$VALUES"), (0, u "[Lcom/example/cloister/cloister/Isolation$Source;"), (6, .class_ 31), (1, u "java/lang/Enum"), (8, u "readsContent"), (0, u "Z"), (25, .class_ 68), (0, u "com/example/cloister/cloister/Isolation")] 2

/-- com/example/cloister/cloister/Isolation$Source -/
def k6 : Class := { plain "com/example/cloister/cloister/Isolation$Source" (some 5) with
  accessFlags := 16433
  interfaces := #[]
  cf := some (fileOf pool6 1 #[.nestHost 67] #[] 16433 29 #[] #[{ accessFlags := 16409, nameIndex := 5, descriptorIndex := 6, attributes := #[] }, { accessFlags := 16409, nameIndex := 9, descriptorIndex := 6, attributes := #[] }, { accessFlags := 16409, nameIndex := 12, descriptorIndex := 6, attributes := #[] }, { accessFlags := 16409, nameIndex := 15, descriptorIndex := 6, attributes := #[] }, { accessFlags := 16409, nameIndex := 18, descriptorIndex := 6, attributes := #[] }, { accessFlags := 16, nameIndex := 40, descriptorIndex := 41, attributes := #[] }, { accessFlags := 4122, nameIndex := 21, descriptorIndex := 22, attributes := #[] }])
  fields := #[{ name := "JDK", type := (.object "com/example/cloister/cloister/Isolation$Source"), accessFlags := 16409, slot := 0, constantValue := 0 }, { name := "HOST", type := (.object "com/example/cloister/cloister/Isolation$Source"), accessFlags := 16409, slot := 1, constantValue := 0 }, { name := "PLUGIN_THEN_HOST", type := (.object "com/example/cloister/cloister/Isolation$Source"), accessFlags := 16409, slot := 2, constantValue := 0 }, { name := "PLUGIN", type := (.object "com/example/cloister/cloister/Isolation$Source"), accessFlags := 16409, slot := 3, constantValue := 0 }, { name := "CLOSED_PLUGIN", type := (.object "com/example/cloister/cloister/Isolation$Source"), accessFlags := 16409, slot := 4, constantValue := 0 }, { name := "readsContent", type := .boolean, accessFlags := 16, slot := 3, constantValue := 0 }, { name := "$VALUES", type := (.array (.object "com/example/cloister/cloister/Isolation$Source")), accessFlags := 4122, slot := 5, constantValue := 0 }]
  methods := #[]
  instanceTypes := #[(.object "java/lang/String"), .int, .int, .boolean]
  staticTypes := #[(.object "com/example/cloister/cloister/Isolation$Source"), (.object "com/example/cloister/cloister/Isolation$Source"), (.object "com/example/cloister/cloister/Isolation$Source"), (.object "com/example/cloister/cloister/Isolation$Source"), (.object "com/example/cloister/cloister/Isolation$Source"), (.array (.object "com/example/cloister/cloister/Isolation$Source"))]
  resolved := Array.replicate 71 none
  statics := some 0 }

def pool7 : Array CpInfo := pool [(1, .methodref 2 3), (0, .class_ 4), (0, .nameAndType 5 6), (0, u "java/lang/Object"), (0, u "<init>"), (0, u "()V"), (0, .class_ 8), (0, u "java/lang/Record")] 13

def k7c0 : Code := { maxStack := 1, maxLocals := 1, code := jdk_30_method_1_code, exceptionTable := #[], attributes := #[] }
def k7m0 : Method := { name := "<init>", desc := "()V", sig := { parameters := [], returnType := none }, accessFlags := 4, code := some k7c0 }
/-- java/lang/Record -/
def k7 : Class := { plain "java/lang/Record" (some 0) with
  accessFlags := 1057
  interfaces := #[]
  cf := some (fileOf pool7 7 #[] #[{ accessFlags := 4, nameIndex := 5, descriptorIndex := 6, attributes := #[] }] 1057 2 #[] #[])
  fields := #[]
  methods := #[k7m0]
  instanceTypes := #[]
  staticTypes := #[]
  resolved := Array.replicate 22 none
  statics := none }

def pool8 : Array CpInfo := pool [(1, .class_ 2), (0, u "com/example/cloister/cloister/Isolation"), (0, .class_ 4), (0, u "java/lang/Object"), (9, .class_ 15), (0, u "com/example/cloister/cloister/Isolation$Copies"), (0, .class_ 17), (0, u "com/example/cloister/cloister/Isolation$Sharing"), (0, .class_ 19), (0, u "com/example/cloister/cloister/Isolation$Source")] 5

/-- com/example/cloister/cloister/Isolation -/
def k8 : Class := { plain "com/example/cloister/cloister/Isolation" (some 0) with
  accessFlags := 1536
  interfaces := #[]
  cf := some (fileOf pool8 1 #[.nestMembers #[14, 16, 18]] #[] 1536 3 #[] #[])
  fields := #[]
  methods := #[]
  instanceTypes := #[]
  staticTypes := #[]
  resolved := Array.replicate 25 none
  statics := none }

def pool9 : Array CpInfo := pool [(1, .methodref 2 3), (0, .class_ 4), (0, .nameAndType 5 6), (0, u "java/lang/Record"), (0, u "<init>"), (0, u "()V"), (0, .fieldref 8 9), (0, .class_ 10), (0, .nameAndType 11 12), (0, u "com/example/cloister/cloister/Isolation$Sharing"), (0, u "sharedPackages"), (0, u "Ljava/util/Set;"), (11, .class_ 26), (1, u "com/example/cloister/cloister/Isolation$Source"), (1, u "Lcom/example/cloister/cloister/Isolation$Source;"), (0, .fieldref 24 30), (0, .nameAndType 31 28), (0, u "PLUGIN_THEN_HOST"), (0, .fieldref 24 33), (0, .nameAndType 34 28), (0, u "PLUGIN"), (12, .class_ 48), (0, u "com/example/cloister/cloister/Isolation"), (2, u "(Ljava/util/Set;)V"), (7, u "sourceOfProviderFile"), (0, u "(Lcom/example/cloister/cloister/Isolation$Source;)Lcom/example/cloister/cloister/Isolation$Source;")] 26

def k9c0 : Code := { maxStack := 2, maxLocals := 2, code := prog_7_method_1_code, exceptionTable := #[], attributes := #[] }
def k9m0 : Method := { name := "<init>", desc := "(Ljava/util/Set;)V", sig := { parameters := [(.object "java/util/Set")], returnType := none }, accessFlags := 1, code := some k9c0 }
def k9c1 : Code := { maxStack := 2, maxLocals := 2, code := prog_7_method_4_code, exceptionTable := #[], attributes := #[] }
def k9m1 : Method := { name := "sourceOfProviderFile", desc := "(Lcom/example/cloister/cloister/Isolation$Source;)Lcom/example/cloister/cloister/Isolation$Source;", sig := { parameters := [(.object "com/example/cloister/cloister/Isolation$Source")], returnType := some (.object "com/example/cloister/cloister/Isolation$Source") }, accessFlags := 1, code := some k9c1 }
/-- com/example/cloister/cloister/Isolation$Sharing -/
def k9 : Class := { plain "com/example/cloister/cloister/Isolation$Sharing" (some 7) with
  accessFlags := 49
  interfaces := #[8]
  cf := some (fileOf pool9 8 #[.nestHost 47] #[{ accessFlags := 1, nameIndex := 5, descriptorIndex := 51, attributes := #[] }, { accessFlags := 1, nameIndex := 59, descriptorIndex := 60, attributes := #[] }] 49 2 #[47] #[{ accessFlags := 18, nameIndex := 11, descriptorIndex := 12, attributes := #[] }])
  fields := #[{ name := "sharedPackages", type := (.object "java/util/Set"), accessFlags := 18, slot := 0, constantValue := 0 }]
  methods := #[k9m0, k9m1]
  instanceTypes := #[(.object "java/util/Set")]
  staticTypes := #[]
  resolved := Array.replicate 87 none
  statics := none }

def pool10 : Array CpInfo := pool [(1, u "java/lang/Cloneable"), (0, .class_ 1), (0, u "java/lang/Object"), (0, .class_ 3)] 3

/-- java/lang/Cloneable -/
def k10 : Class := { plain "java/lang/Cloneable" (some 0) with
  accessFlags := 1537
  interfaces := #[]
  cf := some (fileOf pool10 2 #[] #[] 1537 4 #[] #[])
  fields := #[]
  methods := #[]
  instanceTypes := #[]
  staticTypes := #[]
  resolved := Array.replicate 8 none
  statics := none }

/-- the primitive byte -/
def k11 : Class := { plain "byte" none with kind := .primitive 'B', accessFlags := 0x411 }
/-- [B -/
def k12 : Class := { plain "[B" (some 0) with kind := .array 11 .byte, interfaces := #[10, 4], accessFlags := 1041 }

/-- the primitive int -/
def k13 : Class := { plain "int" none with kind := .primitive 'I', accessFlags := 0x411 }
/-- [I -/
def k14 : Class := { plain "[I" (some 0) with kind := .array 13 .int, interfaces := #[10, 4], accessFlags := 1041 }

def heap : Heap := #[{ cls := 6, slots := #[.ref 1, .ref 4, .ref 2, .ref 3, .ref 5, .null], vm := .statics 6 },
  { cls := 6, slots := #[.null, .int 0, .int 0, .int 0], vm := .none },
  { cls := 6, slots := #[.null, .int 2, .int 0, .int 1], vm := .none },
  { cls := 6, slots := #[.null, .int 3, .int 0, .int 1], vm := .none },
  { cls := 6, slots := #[.null, .int 1, .int 0, .int 0], vm := .none },
  { cls := 6, slots := #[.null, .int 4, .int 0, .int 0], vm := .none }]
def classes : Array Class := #[k0, k1, k2, k3, k4, k5, k6, k7, k8, k9, k10, k11, k12, k13, k14]
def interned : List (Array UInt16 × Addr) := []
def slotsUsed : Nat := 26
def theMethod : MethodId := ⟨1, 1⟩
def args0 : Array Value := #[.int 5]
def aboutOver (below : List Frame) : State where
  vm := { classes := classes, interned := interned.toArray }
  heap := heap
  slotsUsed := slotsUsed
  threads := #[{ frames := .invoking theMethod args0 :: below }]
def below0 : List Frame := [.native { method := ⟨0, 0⟩, args := #[] }]
def about1 : State := aboutOver below0
def p0 : Program := .bare "" "" ""
def e0 : Env := launch0.env 0 0 0
theorem w_frames : about1.frames = Frame.invoking theMethod args0 :: below0 := rfl
set_option maxRecDepth 65536 in
theorem w_args : argsFit about1.vm theMethod args0 = true := by decide +kernel
set_option maxRecDepth 65536 in
theorem w_heap : heapFits about1 = true := by decide +kernel
set_option maxRecDepth 65536 in
theorem w_runnable : about1.curStatus? = some .runnable := by decide +kernel
set_option maxRecDepth 65536 in
theorem w_alone : about1.alone = true := by decide +kernel
set_option maxRecDepth 65536 in
theorem w_named : about1.methodNamed? x = some theMethod := by decide +kernel
set_option maxRecDepth 65536 in
theorem w_hears : about1.hears theMethod below0 = true := by decide +kernel
set_option maxRecDepth 65536 in
theorem w_ripe : about1.ripe theMethod args0 below0 = true := by decide +kernel
theorem w_running : about1.status = .running := rfl
set_option maxRecDepth 65536 in
theorem w_room : about1.hasRoom e0.platform room_1 = true :=
  launch0.hasRoom_least _ room_1 (by decide +kernel) (by decide +kernel) (by decide +kernel) (by decide +kernel) (by decide +kernel) (by decide +kernel)
theorem allAtoms_all (ts : List Jvm.Cond) (a : Array Jvm.Value) (st : Jvm.State) : (allAtoms ts).before a st = ts.all (fun c => c.before a st) := by
  induction ts with
  | nil => rfl
  | cons c t ih =>
    show (Jvm.Cond.and c (allAtoms t)).before a st = _
    rw [Jvm.Cond.before_and, ih, List.all_cons]
def words1 : List Jvm.Cond := Jvm.Cond.code x code maxLocals ret :: tables_1
/-- a 'code' word, met by the world's own term for the bytes: nothing is compared byte by byte -/
theorem code_word {y : MethodName} {bytes : ByteArray} {mx : Nat} {rt : Option FieldType} {a : Array Value} {s : State} {m : MethodId} {meth : Method} {c : Code} (h1 : s.methodNamed? y = some m) (h2 : s.vm.method? m = some meth) (h3 : meth.code = some c) (h4 : c.code = bytes)
    (h5 : (c.maxLocals == mx && c.exceptionTable.isEmpty && decide (c.maxStack ≤ mostOperands) && decide (meth.sig.returnType = rt) && !meth.locks && decide (parseMethodDescriptor y.desc = some meth.sig)) = true) : (Jvm.Cond.code y bytes mx rt).before a s = true := by
  simp only [Bool.and_eq_true, beq_iff_eq, Bool.not_eq_true', decide_eq_true_eq] at h5
  obtain ⟨⟨⟨⟨⟨g1, g2⟩, g3⟩, g4⟩, g5⟩, g6⟩ := h5
  simp [Cond.before, Cond.holds, Cond.value, h1, h2, h3, h4, g1, g2, g3, g4, g5, g6]
def isCode : Jvm.Cond → Bool
  | .code _ _ _ _ => true
  | _ => false
theorem all_split {L : List Jvm.Cond} {P : Jvm.Cond → Bool} (h1 : L.all (fun c => isCode c || P c) = true) (h2 : ∀ c ∈ L.filter isCode, P c = true) : L.all P = true := by
  refine List.all_eq_true.mpr fun c hc => ?_
  have h := List.all_eq_true.mp h1 c hc
  rcases Bool.eq_false_or_eq_true (isCode c) with hi | hi
  · exact h2 c (List.mem_filter.mpr ⟨hc, hi⟩)
  · simpa [hi] using h
set_option maxRecDepth 65536 in
theorem w_c0 : (Jvm.Cond.code x code maxLocals ret).before args0 about1 = true := code_word (m := ⟨1, 1⟩) (meth := k1m1) (c := k1c1) (by decide +kernel) rfl rfl rfl (by decide +kernel)
set_option maxRecDepth 65536 in
theorem w_c1 : (Jvm.Cond.code ({ cls := "com/example/cloister/cloister/Isolation$Sharing", name := "<init>", desc := "(Ljava/util/Set;)V" } : Jvm.MethodName) prog_7_method_1_code (2 : Nat) (Option.none : Option Jvm.ClassFile.FieldType)).before args0 about1 = true := code_word (m := ⟨9, 0⟩) (meth := k9m0) (c := k9c0) (by decide +kernel) rfl rfl rfl (by decide +kernel)
set_option maxRecDepth 65536 in
theorem w_c2 : (Jvm.Cond.code ({ cls := "java/lang/Record", name := "<init>", desc := "()V" } : Jvm.MethodName) jdk_30_method_1_code (1 : Nat) (Option.none : Option Jvm.ClassFile.FieldType)).before args0 about1 = true := code_word (m := ⟨7, 0⟩) (meth := k7m0) (c := k7c0) (by decide +kernel) rfl rfl rfl (by decide +kernel)
set_option maxRecDepth 65536 in
theorem w_c3 : (Jvm.Cond.code ({ cls := "java/lang/Object", name := "<init>", desc := "()V" } : Jvm.MethodName) object_method_1_code (1 : Nat) (Option.none : Option Jvm.ClassFile.FieldType)).before args0 about1 = true := code_word (m := ⟨0, 0⟩) (meth := k0m0) (c := k0c0) (by decide +kernel) rfl rfl rfl (by decide +kernel)
set_option maxRecDepth 65536 in
theorem w_c4 : (Jvm.Cond.code ({ cls := "com/example/cloister/cloister/Isolation$Sharing", name := "sourceOfProviderFile", desc := "(Lcom/example/cloister/cloister/Isolation$Source;)Lcom/example/cloister/cloister/Isolation$Source;" } : Jvm.MethodName) prog_7_method_4_code (2 : Nat) (Option.some (Jvm.ClassFile.FieldType.object "com/example/cloister/cloister/Isolation$Source"))).before args0 about1 = true := code_word (m := ⟨9, 1⟩) (meth := k9m1) (c := k9c1) (by decide +kernel) rfl rfl rfl (by decide +kernel)
def codes1 : List Jvm.Cond := [Jvm.Cond.code x code maxLocals ret, Jvm.Cond.code ({ cls := "com/example/cloister/cloister/Isolation$Sharing", name := "<init>", desc := "(Ljava/util/Set;)V" } : Jvm.MethodName) prog_7_method_1_code (2 : Nat) (Option.none : Option Jvm.ClassFile.FieldType), Jvm.Cond.code ({ cls := "java/lang/Record", name := "<init>", desc := "()V" } : Jvm.MethodName) jdk_30_method_1_code (1 : Nat) (Option.none : Option Jvm.ClassFile.FieldType), Jvm.Cond.code ({ cls := "java/lang/Object", name := "<init>", desc := "()V" } : Jvm.MethodName) object_method_1_code (1 : Nat) (Option.none : Option Jvm.ClassFile.FieldType), Jvm.Cond.code ({ cls := "com/example/cloister/cloister/Isolation$Sharing", name := "sourceOfProviderFile", desc := "(Lcom/example/cloister/cloister/Isolation$Source;)Lcom/example/cloister/cloister/Isolation$Source;" } : Jvm.MethodName) prog_7_method_4_code (2 : Nat) (Option.some (Jvm.ClassFile.FieldType.object "com/example/cloister/cloister/Isolation$Source"))]
set_option maxRecDepth 65536 in
theorem codes_eq : words1.filter isCode = codes1 := rfl
theorem w_codes : ∀ c ∈ words1.filter isCode, c.before args0 about1 = true := by
  rw [codes_eq]
  intro c hc
  simp only [codes1, List.mem_cons, List.not_mem_nil, or_false] at hc
  rcases hc with rfl | rfl | rfl | rfl | rfl
  · exact w_c0
  · exact w_c1
  · exact w_c2
  · exact w_c3
  · exact w_c4
set_option maxRecDepth 65536 in
theorem w_t1 : (words1.take 24).all (fun c => isCode c || c.before args0 about1) = true := by decide +kernel
set_option maxRecDepth 65536 in
theorem w_t2 : (words1.drop 24).all (fun c => isCode c || c.before args0 about1) = true := by decide +kernel
theorem w_tables : (allAtoms (Jvm.Cond.code x code maxLocals ret :: tables_1)).before args0 about1 = true := by
  rw [allAtoms_all]
  show words1.all (fun c => c.before args0 about1) = true
  refine all_split ?_ w_codes
  rw [← List.take_append_drop 24 words1, List.all_append, w_t1, w_t2]
  rfl
set_option maxRecDepth 65536 in
theorem w_case : (Jvm.Cond.and given_1 narrow_1).before args0 about1 = true := by decide +kernel
theorem w_applies : (headSpec (Jvm.Cond.code x code maxLocals ret :: tables_1) room_1).applies x e0.platform about1 = true :=
  (Spec.applies_iff w_frames).mpr ⟨w_running, w_runnable, w_alone, w_named, w_hears, w_ripe, w_room, w_tables⟩
theorem atStart : AtStart classFile x code maxLocals ret World_1 tables_1 room_1 Calls_1 rest_1 Pre_1 launch0 p0 e0 about1 theMethod args0 below0 :=
  ⟨lists_1, trivial, launch0.admits_env _ _ _, launch0.least_env, fairChoices_fair.cas, fairChoices_fair.clock, w_frames, w_args, w_heap, w_applies, trivial, trivial, w_case⟩
end start1
theorem witness_1 : WitnessClaimed_1 := ⟨start1.p0, start1.e0, start1.about1, start1.theMethod, start1.args0, start1.below0, start1.atStart⟩
end Jvm.Pilot.@@N@@
