import JvmDerived
import JvmDerived.Pilot.@@N@@Statement
import JvmDerived.Pilot.@@N@@Code
set_option linter.unusedVariables false
set_option linter.unusedSimpArgs false
namespace Jvm.Pilot.@@N@@
open Jvm Jvm.ClassFile Sem Op Lib Jvm.Free Jvm.Stand Jvm.LawKit Jvm.RoadKit Bundle Jvm.Pilot.@@N@@.Jvm.D
section OwnKit
variable {p : Program} {l : Launch} {e : Env} {R : Room} {s : State} {m : MethodId} {args : Array Value} {below : List Frame} {meth : Method} {c : Code} {T : State} {locs : List Loc} {cells slots : Nat} {Z : State} {a0 : Array Value} {h h0 : Heap} {pc : Nat} {Ls : Array Slot} {rest : List Value} {Q : Outcome → State → Prop}
def Go (p : Program) (e : Env) (below : List Frame) (T : State) (g : JFrame) (Q : Outcome → State → Prop) : Prop := ∃ s₂ o, Steps p.tables e below (T.setTop g) s₂ ∧ s₂.status = .running ∧ Ended s₂ below o ∧ Q o s₂
theorem Go.of {T' : State} {g g' : JFrame} (st : ∀ t, Steps p.tables e below (T'.setTop g') t → Steps p.tables e below (T.setTop g) t) (k : Go p e below T' g' Q) : Go p e below T g Q := by
  obtain ⟨a, b, h1, h2⟩ := k; exact ⟨a, b, st a h1, h2⟩
theorem o_iload (X : Stand p l e R s m args below meth c T locs cells slots) (hx : p.tables.exec = Jvm.exec) {k : Nat} {v : Int32} (hd : decode c.code pc = .ok (.iload k, 2)) (hl : Ls[k]? = some (.val (.int v))) (q : Go p e below T (mkF m (pc + 2) Ls (.int v :: rest)) Q) : Go p e below T (mkF m pc Ls (rest)) Q := Go.of (fun _ k => XS.iload X.here hx rfl hd hl k) q
theorem o_iloadN (X : Stand p l e R s m args below meth c T locs cells slots) (hx : p.tables.exec = Jvm.exec) {k : Fin 4} {v : Int32} (hd : decode c.code pc = .ok (.iload_n k, 1)) (hl : Ls[k.val]? = some (.val (.int v))) (q : Go p e below T (mkF m (pc + 1) Ls (.int v :: rest)) Q) : Go p e below T (mkF m pc Ls (rest)) Q := Go.of (fun _ k => XS.iloadN X.here hx rfl hd hl k) q
theorem o_istore (X : Stand p l e R s m args below meth c T locs cells slots) (hx : p.tables.exec = Jvm.exec) {k : Nat} {v : Int32} {l' : Array Slot} (hd : decode c.code pc = .ok (.istore k, 2)) (hl : storeLocals Ls k (.int v) = some l') (q : Go p e below T (mkF m (pc + 2) l' (rest)) Q) : Go p e below T (mkF m pc Ls (.int v :: rest)) Q := Go.of (fun _ k => XS.istore X.here hx rfl hd rfl hl k) q
theorem o_istoreN (X : Stand p l e R s m args below meth c T locs cells slots) (hx : p.tables.exec = Jvm.exec) {k : Fin 4} {v : Int32} {l' : Array Slot} (hd : decode c.code pc = .ok (.istore_n k, 1)) (hl : storeLocals Ls k.val (.int v) = some l') (q : Go p e below T (mkF m (pc + 1) l' (rest)) Q) : Go p e below T (mkF m pc Ls (.int v :: rest)) Q := Go.of (fun _ k => XS.istoreN X.here hx rfl hd rfl hl k) q
theorem o_aloadN (X : Stand p l e R s m args below meth c T locs cells slots) (hx : p.tables.exec = Jvm.exec) {k : Fin 4} {v : Value} (hd : decode c.code pc = .ok (.aload_n k, 1)) (hl : Ls[k.val]? = some (.val v)) (hv : v.isRef = true) (q : Go p e below T (mkF m (pc + 1) Ls (v :: rest)) Q) : Go p e below T (mkF m pc Ls (rest)) Q := Go.of (fun _ k => XS.aloadN X.here hx rfl hd hl hv k) q
theorem o_iconst (X : Stand p l e R s m args below meth c T locs cells slots) (hx : p.tables.exec = Jvm.exec) {i : Int} (v : Int32) (hd : decode c.code pc = .ok (.iconst i, 1)) (hv : Int32.ofInt i = v) (q : Go p e below T (mkF m (pc + 1) Ls (.int v :: rest)) Q) : Go p e below T (mkF m pc Ls rest) Q := by
  subst hv
  exact Go.of (fun _ k => XS.iconst X.here hx rfl hd k) q
theorem o_bipush (X : Stand p l e R s m args below meth c T locs cells slots) (hx : p.tables.exec = Jvm.exec) {i : Int} (v : Int32) (hd : decode c.code pc = .ok (.bipush i, 2)) (hv : (Int8.ofInt i).toInt32 = v) (q : Go p e below T (mkF m (pc + 2) Ls (.int v :: rest)) Q) : Go p e below T (mkF m pc Ls rest) Q := by
  subst hv
  exact Go.of (fun _ k => XS.bipush X.here hx rfl hd k) q
theorem o_iand (X : Stand p l e R s m args below meth c T locs cells slots) (hx : p.tables.exec = Jvm.exec) {x y : Int32} (hd : decode c.code pc = .ok (.iand, 1)) (q : Go p e below T (mkF m (pc + 1) Ls (.int (x &&& y) :: rest)) Q) : Go p e below T (mkF m pc Ls (.int y :: .int x :: rest)) Q := Go.of (fun _ k => XS.iand X.here hx rfl hd rfl k) q
theorem o_irem (X : Stand p l e R s m args below meth c T locs cells slots) (hx : p.tables.exec = Jvm.exec) {x y : Int32} (hd : decode c.code pc = .ok (.irem, 1)) (hy : y ≠ 0) (q : Go p e below T (mkF m (pc + 1) Ls (.int (x % y) :: rest)) Q) : Go p e below T (mkF m pc Ls (.int y :: .int x :: rest)) Q := Go.of (fun _ k => iremM (g := mkF m pc Ls (.int y :: .int x :: rest)) X hx rfl hd rfl hy k) q
theorem o_ishr (X : Stand p l e R s m args below meth c T locs cells slots) (hx : p.tables.exec = Jvm.exec) {x y : Int32} (hd : decode c.code pc = .ok (.ishr, 1)) (q : Go p e below T (mkF m (pc + 1) Ls (.int (x >>> (y &&& 31)) :: rest)) Q) : Go p e below T (mkF m pc Ls (.int y :: .int x :: rest)) Q := Go.of (fun _ k => XS.ishr X.here hx rfl hd rfl k) q
theorem o_goto (X : Stand p l e R s m args below meth c T locs cells slots) (hx : p.tables.exec = Jvm.exec) (pc' : Nat) {o : Int} (hd : decode c.code pc = .ok (.goto o, 3)) (ho : 0 ≤ (pc : Int) + o) (hp : ((pc : Int) + o).toNat = pc') (q : Go p e below T (mkF m pc' Ls rest) Q) : Go p e below T (mkF m pc Ls rest) Q := Go.of (fun _ k => XS.goto X.here hx rfl (pc0 := pc) rfl hd ho hp k) q
theorem o_ifYes (X : Stand p l e R s m args below meth c T locs cells slots) (hx : p.tables.exec = Jvm.exec) (pc' : Nat) {cd : ClassFile.Cond} {x : Int32} {o : Int} (hd : decode c.code pc = .ok (.ifCond cd o, 3)) (hc : ifCond.holds cd x = true) (ho : 0 ≤ (pc : Int) + o) (hp : ((pc : Int) + o).toNat = pc') (q : Go p e below T (mkF m pc' Ls rest) Q) : Go p e below T (mkF m pc Ls (.int x :: rest)) Q := Go.of (fun _ k => XS.ifYes X.here hx rfl (pc0 := pc) rfl hd rfl hc ho hp k) q
theorem o_ifNo (X : Stand p l e R s m args below meth c T locs cells slots) (hx : p.tables.exec = Jvm.exec) {cd : ClassFile.Cond} {x : Int32} {o : Int} (hd : decode c.code pc = .ok (.ifCond cd o, 3)) (hc : ifCond.holds cd x = false) (q : Go p e below T (mkF m (pc + 3) Ls rest) Q) : Go p e below T (mkF m pc Ls (.int x :: rest)) Q := Go.of (fun _ k => XS.ifNo X.here hx rfl hd rfl hc k) q
theorem o_icmpYes (X : Stand p l e R s m args below meth c T locs cells slots) (hx : p.tables.exec = Jvm.exec) (pc' : Nat) {cd : ClassFile.Cond} {x y : Int32} {o : Int} (hd : decode c.code pc = .ok (.if_icmp cd o, 3)) (hc : if_icmp.holds cd x y = true) (ho : 0 ≤ (pc : Int) + o) (hp : ((pc : Int) + o).toNat = pc') (q : Go p e below T (mkF m pc' Ls rest) Q) : Go p e below T (mkF m pc Ls (.int y :: .int x :: rest)) Q := Go.of (fun _ k => XS.icmpYes X.here hx rfl (pc0 := pc) rfl hd rfl hc ho hp k) q
theorem o_icmpNo (X : Stand p l e R s m args below meth c T locs cells slots) (hx : p.tables.exec = Jvm.exec) {cd : ClassFile.Cond} {x y : Int32} {o : Int} (hd : decode c.code pc = .ok (.if_icmp cd o, 3)) (hc : if_icmp.holds cd x y = false) (q : Go p e below T (mkF m (pc + 3) Ls rest) Q) : Go p e below T (mkF m pc Ls (.int y :: .int x :: rest)) Q := Go.of (fun _ k => XS.icmpNo X.here hx rfl hd rfl hc k) q
theorem o_acmp (X : Stand p l e R s m args below meth c T locs cells slots) (hx : p.tables.exec = Jvm.exec) (pc' : Nat) (same : Bool) {cd : ACond} {x y : Value} {o : Int} (h1 : x.isRef = true) (h2 : y.isRef = true) (hd : decode c.code pc = .ok (.if_acmp cd o, 3)) (hq : decide (x = y) = same) (ho : 0 ≤ (pc : Int) + o) (hp : pc' = if acV cd same = true then ((pc : Int) + o).toNat else pc + 3) (q : Go p e below T (mkF m pc' Ls rest) Q) : Go p e below T (mkF m pc Ls (y :: x :: rest)) Q := Go.of (fun _ k => Jvm.RoadKit.acmp (g := mkF m pc Ls (y :: x :: rest)) X hx rfl h1 h2 (pc0 := pc) rfl hd rfl hq ho hp k) q
theorem o_lswHit (X : Stand p l e R s m args below meth c T locs cells slots) (hx : p.tables.exec = Jvm.exec) (pc' : Nat) {k k0 : Int32} {default : Int} {pairs : Array (Int × Int)} {len : Nat} (hd : decode c.code pc = .ok (.lookupswitch default pairs, len)) (hk : k = k0) (hsorted : (pairs.toList.zip (pairs.toList.drop 1)).all (fun (a, next) => a.1 < next.1) = true) {a off : Int} (hfind : pairs.find? (·.1 == k0.toInt) = some (a, off)) (hoff : 0 ≤ (pc : Int) + off) (hp : ((pc : Int) + off).toNat = pc') (q : Go p e below T (mkF m pc' Ls rest) Q) : Go p e below T (mkF m pc Ls (.int k :: rest)) Q := by
  subst hk hp
  exact Go.of (fun t kk => X.lookupswitchHit hx (g := mkF m pc Ls (.int k :: rest)) rfl rfl hd hsorted hfind hoff t kk) q
theorem o_lswMiss (X : Stand p l e R s m args below meth c T locs cells slots) (hx : p.tables.exec = Jvm.exec) (pc' : Nat) {k : Int32} {default : Int} {pairs : Array (Int × Int)} {len : Nat} (hd : decode c.code pc = .ok (.lookupswitch default pairs, len)) (hsorted : (pairs.toList.zip (pairs.toList.drop 1)).all (fun (a, next) => a.1 < next.1) = true) (hfind : pairs.find? (·.1 == k.toInt) = none) (hoff : 0 ≤ (pc : Int) + default) (hp : ((pc : Int) + default).toNat = pc') (q : Go p e below T (mkF m pc' Ls rest) Q) : Go p e below T (mkF m pc Ls (.int k :: rest)) Q := by
  subst hp
  exact Go.of (fun t kk => X.lookupswitchMiss hx (g := mkF m pc Ls (.int k :: rest)) rfl rfl hd hsorted hfind hoff t kk) q
theorem o_ldcI (X : Stand p l e R s m args below meth c T locs cells slots) (hx : p.tables.exec = Jvm.exec) (hZ : Z.Warmed39 s.vm) {own : String} {index : Nat} {v : Int32} (hown : s.vm.findClass own = some m.cls) (w : (Cond.constant own index v).before a0 Z = true) (hd : decode c.code pc = .ok (.ldc index, 2)) (q : Go p e below T (mkF m (pc + 2) Ls (.int v :: rest)) Q) : Go p e below T (mkF m pc Ls rest) Q := Go.of (fun t k => X.ldcInt hx hown (mvT hZ w) (g := mkF m pc Ls rest) rfl hd t k) q
theorem o_getS (X : Stand p l e R s m args below meth c T locs cells slots) (hx : p.tables.exec = Jvm.exec) (hZ : Z.Warmed39 s.vm) {own R0 O n d host : String} {index : Nat} (hown : s.vm.findClass own = some m.cls) (w : (Cond.fieldLink own index R0 n d).before a0 Z = true ∨ (Cond.fieldLinkNest own index R0 n d host).before a0 Z = true) (via : Via Z R0 O n d) (eT : T.heap = h) {v : Value} (F : Sta Z h O n d v) (hd : decode c.code pc = .ok (.getstatic index, 3))
    (q : ∀ T', Stand p l e R s m args below meth c T' locs cells slots → T'.heap = h → Go p e below T' (mkF m (pc + 3) Ls (v :: rest)) Q) : Go p e below T (mkF m pc Ls rest) Q := by
  obtain ⟨T', X', e', st⟩ := getS2 X hx hZ hown w via eT F (g := mkF m pc Ls rest) rfl hd
  exact Go.of st (q T' X' e')
theorem o_getF (X : Stand p l e R s m args below meth c T locs cells slots) (hx : p.tables.exec = Jvm.exec) (hZ : Z.Warmed39 s.vm) {own R0 O n d host : String} {index : Nat} (hown : s.vm.findClass own = some m.cls) (w : (Cond.fieldLink own index R0 n d).before a0 Z = true ∨ (Cond.fieldLinkNest own index R0 n d host).before a0 Z = true) (via : Via Z R0 O n d) (eT : T.heap = h) {a : Addr} {v : Value} (F : Fld Z h a O n d v) (hd : decode c.code pc = .ok (.getfield index, 3))
    (q : ∀ T', Stand p l e R s m args below meth c T' locs cells slots → T'.heap = h → Go p e below T' (mkF m (pc + 3) Ls (v :: rest)) Q) : Go p e below T (mkF m pc Ls (.ref a :: rest)) Q := by
  obtain ⟨T', X', e', st⟩ := getF X hx hZ hown w via eT F (g := mkF m pc Ls (.ref a :: rest)) rfl rfl hd
  exact Go.of st (q T' X' e')
def Lv (s : State) (Qc : Option Value → Heap → List Loc → Prop) (C S : Nat) (o : Outcome) (t : State) : Prop := ∃ v L, o = .returned v ∧ Qc v t.heap L ∧ FrameEnd s o t L C S
abbrev Ct (l : Launch) (Z : State) (y : MethodName) (bytes : ByteArray) (maxL : Nat) (ret : Option FieldType) (rm : Room) (ws : List Jvm.Cond) (as : Array Value) (h0 : Heap) (Qc : Option Value → Heap → List Loc → Prop) : Prop := MetFree l y (head1 (Jvm.Cond.code y bytes maxL ret :: ws) rm) (fun a U => a = as ∧ Z.Warmed39 U.vm ∧ U.heap = h0) (fun _ _ _ _ _ => True) (fun _ U o U' => ∃ v L, o = .returned v ∧ Qc v U'.heap L ∧ FrameEnd U o U' L rm.cells rm.slots)
theorem o_body {y : MethodName} {bytes : ByteArray} {maxL : Nat} {ret : Option FieldType} {rm : Room} {ws : List Jvm.Cond} {as : Array Value} {Qc : Option Value → Heap → List Loc → Prop} (hpl : plainFor y = true)
    (body : ∀ (p : Program) (e : Env) (s : State) (m : MethodId) (below : List Frame) (meth : Method) (c : Code) (s₁ : State), Stand p l e rm s m as below meth c s₁ [] 0 0 → p.tables.exec = Jvm.exec → c.code = bytes → c.maxLocals = maxL → meth.sig.returnType = ret → meth.locks = false → s.vm.findClass y.cls = some m.cls → meth.name = y.name → Z.Warmed39 s.vm → s₁.heap = h0 → Go p e below s₁ (entryFrame m as maxL) (Lv s Qc rm.cells rm.slots)) :
    Ct l Z y bytes maxL ret rm ws as h0 Qc := by
  refine MetFree.of_bodySF hpl hisR ?_
  intro p e s m args below meth c s₁ Bd hml0 hP hK
  obtain ⟨rfl, hZ, hh⟩ := hP
  exact body p e s m below meth c s₁ (Stand.of_body Bd) Bd.exec Bd.bytes hml0 Bd.returns Bd.notSynchronized (findClass_of_methodNamed Bd.named) (name_of_methodNamed Bd.named Bd.method).1 hZ (by rw [← hh, Bd.state]; rfl)
theorem o_top {g g' : JFrame} (q : g = g') (k : Go p e below T g' Q) : Go p e below T g Q := q ▸ k
theorem o_retV (X : Stand p l e R s m args below meth c T locs cells slots) (hx : p.tables.exec = Jvm.exec) {Qc : Option Value → Heap → List Loc → Prop} {C S : Nat} {w : Value} {t : FieldType} {i : Instr} (hret : meth.sig.returnType = some t) (hlk : meth.locks = false) (hn : narrow t w = w)
    (hi : (i = .ireturn ∧ (t = .int ∨ t = .boolean ∨ t = .byte ∨ t = .char ∨ t = .short) ∧ ∃ z, w = .int z) ∨ (i = .lreturn ∧ t = .long ∧ ∃ z, w = .long z) ∨ (i = .dreturn ∧ t = .double ∧ ∃ z, w = .double z) ∨ (i = .freturn ∧ t = .float ∧ ∃ z, w = .float z) ∨ (i = .areturn ∧ t.isReference = true ∧ w.isRef = true))
    (hd : decode c.code pc = .ok (i, 1)) (eT : T.heap = h) (q : Qc (some w) h locs) (hC : cells ≤ C) (hS : slots ≤ S) : Go p e below T (mkF m pc Ls (w :: rest)) (Lv s Qc C S) := by
  obtain ⟨fs, hr, hrun, hended, hW, hsame⟩ := X.leave (v := some w) (fun h => by rw [hret] at h; cases h) hlk
  refine ⟨_, _, retOut X hx hret hn hi hd hr, hrun, hended, some w, locs, rfl, ?_, ⟨_, rfl⟩, hW, hsame.mono hC hS⟩
  show Qc (some w) T.heap locs
  rw [eT]; exact q
theorem o_retI (X : Stand p l e R s m args below meth c T locs cells slots) (hx : p.tables.exec = Jvm.exec) {Qc : Option Value → Heap → List Loc → Prop} {C S : Nat} {z : Int32} (hret : meth.sig.returnType = some .int) (hlk : meth.locks = false) (hd : decode c.code pc = .ok (.ireturn, 1)) (eT : T.heap = h) (hC : cells ≤ C) (hS : slots ≤ S) (q : Qc (some (.int z)) h locs) : Go p e below T (mkF m pc Ls (.int z :: rest)) (Lv s Qc C S) := o_retV X hx hret hlk rfl (Or.inl ⟨rfl, Or.inl rfl, z, rfl⟩) hd eT q hC hS
theorem o_retA (X : Stand p l e R s m args below meth c T locs cells slots) (hx : p.tables.exec = Jvm.exec) {Qc : Option Value → Heap → List Loc → Prop} {C S : Nat} {w : Value} {t : FieldType} (hret : meth.sig.returnType = some t) (hlk : meth.locks = false) (ht : t.isReference = true) (hw : w.isRef = true) (hd : decode c.code pc = .ok (.areturn, 1)) (eT : T.heap = h) (hC : cells ≤ C) (hS : slots ≤ S) (q : Qc (some w) h locs) : Go p e below T (mkF m pc Ls (w :: rest)) (Lv s Qc C S) := o_retV X hx hret hlk (by rcases ref_cases hw with rfl | ⟨a, rfl⟩ <;> cases t <;> first | rfl | (cases ht; done)) (Or.inr (Or.inr (Or.inr (Or.inr ⟨rfl, ht, hw⟩)))) hd eT q hC hS
theorem o_retN (X : Stand p l e R s m args below meth c T locs cells slots) (hx : p.tables.exec = Jvm.exec) {Qc : Option Value → Heap → List Loc → Prop} {C S : Nat} {z : Int32} (t : FieldType) (hret : meth.sig.returnType = some t) (hlk : meth.locks = false) (ht : t = .boolean ∨ t = .byte ∨ t = .char ∨ t = .short) (hd : decode c.code pc = .ok (.ireturn, 1)) (eT : T.heap = h) (hC : cells ≤ C) (hS : slots ≤ S) (q : Qc (some (.int (nar t z))) h locs) : Go p e below T (mkF m pc Ls (.int z :: rest)) (Lv s Qc C S) := by
  obtain ⟨fs, hr, hrun, hended, hW, hsame⟩ := X.leave (v := some (.int (nar t z))) (fun h => by rw [hret] at h; cases h) hlk
  refine ⟨_, _, retN X hx hret ht hd hr, hrun, hended, some (.int (nar t z)), locs, rfl, ?_, ⟨_, rfl⟩, hW, hsame.mono hC hS⟩
  show Qc _ T.heap locs
  rw [eT]; exact q
theorem o_callS (X : Stand p l e R s m args below meth c T locs cells slots) (hx : p.tables.exec = Jvm.exec) (hZ : Z.Warmed39 s.vm) {y : MethodName} {bytes : ByteArray} {maxL : Nat} {ret : Option FieldType} {rm : Room} {as : Array Value} {Qc : Option Value → Heap → List Loc → Prop} {own : String} {index W : Nat} {argsL : List Value} (hown : s.vm.findClass own = some m.cls) (wl : (Cond.methodLink own index y).before a0 Z = true) (wst : (Cond.static y).before a0 Z = true) (wz : (Cond.initialized y.cls).before a0 Z = true) (wc : (Cond.code y bytes maxL ret).before a0 Z = true) (hy : y.cls ≠ "java/lang/invoke/MethodHandle" ∧ y.cls ≠ "java/lang/invoke/VarHandle") (hM : Ct l Z y bytes maxL ret rm [] as h Qc) (eT : T.heap = h) (hsize : Ls.size = c.maxLocals) (hlen : ∀ sig, parseMethodDescriptor y.desc = some sig → argsL.length = sig.parameters.length) (has : argsL.toArray = as) {st : List Value} (hst : st = argsL.reverse ++ rest) (hW : (rest.map fun v => v.category).sum ≤ W) (hd : decode c.code pc = .ok (.invokestatic index, 3)) (hf : rm.frames + 1 ≤ R.frames) (hl : W + (maxL + 11) + rm.locals ≤ R.locals) (hc : cells + rm.cells ≤ R.cells) (hs : slots + rm.slots ≤ R.slots)
    (q : ∀ v T' h' L, Stand p l e R s m args below meth c T' (locs ++ L) (cells + rm.cells) (slots + rm.slots) → T'.heap = h' → Qc v h' L → Go p e below T' (mkF m (pc + 3) Ls (v.toList ++ rest)) Q) : Go p e below T (mkF m pc Ls st) Q := by
  obtain ⟨v, vm₁, ⟨T', L', k', n'⟩, -, X', ⟨L, hQ, l1, y1, z1⟩, st'⟩ := Jvm.LawKit.callS X hx (y := y) hown (mvT hZ wl) (mvT hZ wst) (mvT hZ wz) (mvT hZ wc) hy (backOf (W := W) hM hZ wc wz hf hl) (g := mkF m pc Ls st) rfl hsize hlen hst (by show 2 * 0 + _ ≤ W; omega) hd (fun _ _ => ⟨has, eT, hc, hs⟩)
  dsimp only [Pt.U, Pt.locs, Pt.cells, Pt.slots] at X' l1 y1 z1 st' hQ
  subst l1 y1 z1
  exact Go.of st' (q v T' _ L X' rfl hQ)
theorem o_callV (X : Stand p l e R s m args below meth c T locs cells slots) (hx : p.tables.exec = Jvm.exec) (hZ : Z.Warmed39 s.vm) {y z : MethodName} {bytes : ByteArray} {maxL : Nat} {ret : Option FieldType} {rm : Room} {as : Array Value} {Qc : Option Value → Heap → List Loc → Prop} {own C : String} {index W : Nat} {argsL : List Value} {a : Addr} (hown : s.vm.findClass own = some m.cls) (wl : (Cond.methodLink own index y).before a0 Z = true) (wd : (Cond.declares y).before a0 Z = true) (hnf : NotFace s y) (wsel : (Cond.selects C y z).before a0 Z = true) (wi : (Cond.instanceMethod z).before a0 Z = true) (wz : (Cond.initialized z.cls).before a0 Z = true) (wc : (Cond.code z bytes maxL ret).before a0 Z = true) (hy : y.cls ≠ "java/lang/invoke/MethodHandle" ∧ y.cls ≠ "java/lang/invoke/VarHandle") (hM : Ct l Z z bytes maxL ret rm [] as h Qc) (eT : T.heap = h) (Ea : Exa Z h a C) (hsize : Ls.size = c.maxLocals) (hlen : ∀ sig, parseMethodDescriptor y.desc = some sig → argsL.length = sig.parameters.length) (has : (.ref a :: argsL).toArray = as) {st : List Value} (hst : st = argsL.reverse ++ .ref a :: rest) (hW : (rest.map fun v => v.category).sum ≤ W) (hd : decode c.code pc = .ok (.invokevirtual index, 3)) (hf : rm.frames + 1 ≤ R.frames) (hl : W + (maxL + 11) + rm.locals ≤ R.locals) (hc : cells + rm.cells ≤ R.cells) (hs : slots + rm.slots ≤ R.slots)
    (q : ∀ v T' h' L, Stand p l e R s m args below meth c T' (locs ++ L) (cells + rm.cells) (slots + rm.slots) → T'.heap = h' → Qc v h' L → Go p e below T' (mkF m (pc + 3) Ls (v.toList ++ rest)) Q) : Go p e below T (mkF m pc Ls st) Q := by
  obtain ⟨cq, kq, qa, qb, qc⟩ := isOf hZ eT Ea
  obtain ⟨v, vm₁, ⟨T', L', k', n'⟩, -, X', ⟨L, hQ, l1, y1, z1⟩, st'⟩ := X.virtualBack hx (y := y) (z := z) hown (mvT hZ wl) (mvT hZ wd) hnf (mvT hZ wsel) (mvT hZ wi) hy (backOf (W := W) hM hZ wc wz hf hl) qa qc (g := mkF m pc Ls st) rfl hsize (Steps.refl _) hlen hst (by show 2 * 0 + _ ≤ W; omega) hd (fun _ _ => ⟨has, eT, hc, hs⟩)
  dsimp only [Pt.U, Pt.locs, Pt.cells, Pt.slots] at X' l1 y1 z1 st' hQ
  subst l1 y1 z1
  exact Go.of (fun _ k => st'.trans k) (q v T' _ L X' rfl hQ)
theorem o_callVU (X : Stand p l e R s m args below meth c T locs cells slots) (hx : p.tables.exec = Jvm.exec) (hZ : Z.Warmed39 s.vm) {y z : MethodName} {bytes : ByteArray} {maxL : Nat} {ret : Option FieldType} {rm : Room} {as : Array Value} {Qc : Option Value → Heap → List Loc → Prop} {own C owner : String} {index W : Nat} {argsL : List Value} {a : Addr} (hown : s.vm.findClass own = some m.cls) (wl : (Cond.methodLink own index y).before a0 Z = true) (wsm : (Cond.sameMethod y.cls owner y.name y.desc).before a0 Z = true) (wd : (Cond.declares ⟨owner, y.name, y.desc⟩).before a0 Z = true) (wsel : (Cond.selects C y z).before a0 Z = true) (wi : (Cond.instanceMethod z).before a0 Z = true) (wz : (Cond.initialized z.cls).before a0 Z = true) (wc : (Cond.code z bytes maxL ret).before a0 Z = true) (hy : owner ≠ "java/lang/invoke/MethodHandle" ∧ owner ≠ "java/lang/invoke/VarHandle") (hM : Ct l Z z bytes maxL ret rm [] as h Qc) (eT : T.heap = h) (Ea : Exa Z h a C) (hsize : Ls.size = c.maxLocals) (hlen : ∀ sig, parseMethodDescriptor y.desc = some sig → argsL.length = sig.parameters.length) (has : (.ref a :: argsL).toArray = as) {st : List Value} (hst : st = argsL.reverse ++ .ref a :: rest) (hW : (rest.map fun v => v.category).sum ≤ W) (hd : decode c.code pc = .ok (.invokevirtual index, 3)) (hf : rm.frames + 1 ≤ R.frames) (hl : W + (maxL + 11) + rm.locals ≤ R.locals) (hc : cells + rm.cells ≤ R.cells) (hs : slots + rm.slots ≤ R.slots)
    (q : ∀ v T' h' L, Stand p l e R s m args below meth c T' (locs ++ L) (cells + rm.cells) (slots + rm.slots) → T'.heap = h' → Qc v h' L → Go p e below T' (mkF m (pc + 3) Ls (v.toList ++ rest)) Q) : Go p e below T (mkF m pc Ls st) Q := by
  obtain ⟨cq, kq, qa, qb, qc⟩ := isOf hZ eT Ea
  obtain ⟨v, vm₁, ⟨T', L', k', n'⟩, -, X', ⟨L, hQ, l1, y1, z1⟩, st'⟩ := X.virtualBackUp hx (x := y) (y := z) hown (mvT hZ wl) (mvT hZ wsm) (mvT hZ wd) hy (mvT hZ wsel) (mvT hZ wi) (backOf (W := W) hM hZ wc wz hf hl) qa qc (g := mkF m pc Ls st) rfl hsize (Steps.refl _) hlen hst (by show 2 * 0 + _ ≤ W; omega) hd (fun _ _ => ⟨has, eT, hc, hs⟩)
  dsimp only [Pt.U, Pt.locs, Pt.cells, Pt.slots] at X' l1 y1 z1 st' hQ
  subst l1 y1 z1
  exact Go.of (fun _ k => st'.trans k) (q v T' _ L X' rfl hQ)
theorem o_eqI {first s : State} {o : Option Outcome} {idx : List Nat} {a : Term} {n : Int32} (h : (Cond.eq a (.int n)).value args first o s idx = some true) : a.eval args first o idx s = some (.int n) := Cond.eq_int (beq_iff_eq.mpr h) rfl
end OwnKit

abbrev KindSta (Z : State) (n : String) (w : Addr) : Prop := Sta Z Z.heap "com/example/handvisor/handvisor/ProvisioningElement$Kind" n "Lcom/example/handvisor/handvisor/ProvisioningElement$Kind;" (.ref w)
abbrev KindExa (Z : State) (w : Addr) : Prop := Exa Z Z.heap w "com/example/handvisor/handvisor/ProvisioningElement$Kind"
def K (i : Int32) (d c p q r : Addr) : Addr := if i = 0 then d else if i = 1 then c else if i = 2 then p else if i = 3 then q else r
def H (k : Int32) (a d c r : Addr) : Int32 := if k = 0 then (if a = c ∨ a = r then 1 else 0) else if k = 1 then (if a = d then 0 else 1) else 0
def Row (k : Int32) : Int32 := if k = 0 then 18 else if k = 1 then 30 else 0
theorem rem5 (x : Int32) : (x &&& 2147483647) % 5 = 0 ∨ (x &&& 2147483647) % 5 = 1 ∨ (x &&& 2147483647) % 5 = 2 ∨ (x &&& 2147483647) % 5 = 3 ∨ (x &&& 2147483647) % 5 = 4 := by
  have h := c_mask x 2147483647 31 (by decide) (by decide)
  have g := (c_irem (x &&& 2147483647) 5 5 (by decide)).1 (by rw [h]; omega)
  have e0 : (0 : Int32).toInt = 0 := rfl
  have e1 : (1 : Int32).toInt = 1 := rfl
  have e2 : (2 : Int32).toInt = 2 := rfl
  have e3 : (3 : Int32).toInt = 3 := rfl
  have e4 : (4 : Int32).toInt = 4 := rfl
  simp only [← Int32.toInt_inj, e0, e1, e2, e3, e4]
  omega
theorem o_nti {k n : Int32} (h : ¬ k = n) : n.toInt ≠ k.toInt := fun e => h (Int32.toInt_inj.mp e.symm)
theorem table {i j : Int32} {d c p q r : Addr} (hi : i = 0 ∨ i = 1 ∨ i = 2 ∨ i = 3 ∨ i = 4) (hj : j = 0 ∨ j = 1 ∨ j = 2 ∨ j = 3 ∨ j = 4) (h1 : d ≠ c) (h2 : d ≠ p) (h3 : d ≠ q) (h4 : d ≠ r) (h5 : c ≠ p) (h6 : c ≠ q) (h7 : c ≠ r) (h8 : p ≠ q) (h9 : p ≠ r) (h10 : q ≠ r) :
    H i (K j d c p q r) d c r = if ((Row i) >>> (j &&& 31)) &&& 1 = 0 then 0 else 1 := by
  rcases hi with rfl | rfl | rfl | rfl | rfl <;> rcases hj with rfl | rfl | rfl | rfl | rfl <;> simp [K, H, Row, h1, h2, h3, h4, h5, h6, h7, h8, h9, h10, h1.symm, h2.symm, h3.symm, h4.symm, h5.symm, h6.symm, h7.symm, h8.symm, h9.symm, h10.symm] <;> decide
theorem kexa {Z : State} {c : Int32} {d e f g h : Addr} (h1 : KindExa Z d) (h2 : KindExa Z e) (h3 : KindExa Z f) (h4 : KindExa Z g) (h5 : KindExa Z h) : KindExa Z (K c d e f g h) := by
  unfold K; split; · exact h1
  split; · exact h2
  split; · exact h3
  split; · exact h4
  exact h5
theorem kfld {Z : State} {c : Int32} {d e f g h : Addr} (hc : c = 0 ∨ c = 1 ∨ c = 2 ∨ c = 3 ∨ c = 4) (h1 : Fld Z Z.heap d "java/lang/Enum" "ordinal" "I" (.int (0 : Int32))) (h2 : Fld Z Z.heap e "java/lang/Enum" "ordinal" "I" (.int (1 : Int32))) (h3 : Fld Z Z.heap f "java/lang/Enum" "ordinal" "I" (.int (2 : Int32))) (h4 : Fld Z Z.heap g "java/lang/Enum" "ordinal" "I" (.int (3 : Int32))) (h5 : Fld Z Z.heap h "java/lang/Enum" "ordinal" "I" (.int (4 : Int32))) : Fld Z Z.heap (K c d e f g h) "java/lang/Enum" "ordinal" "I" (.int c) := by
  rcases hc with rfl | rfl | rfl | rfl | rfl <;> simpa [K] using by assumption
theorem o_pn_java_lang_Enum : plainName "java/lang/Enum" = true := by first | (simp [plainName, overriddenIn]; done) | decide +kernel
theorem o_d3_0 : decode jdk_37_method_2_code 0 = .ok (.aload_n 0, 1) := by decide +kernel
theorem o_d3_1 : decode jdk_37_method_2_code 1 = .ok (.getfield 7, 3) := by decide +kernel
theorem o_d3_4 : decode jdk_37_method_2_code 4 = .ok (.ireturn, 1) := by decide +kernel
set_option maxRecDepth 65536 in
set_option maxHeartbeats 40000000 in
theorem rm3 (l : Launch) (Z : State) (a0 : Array Value) (hw : ∀ d ∈ tables_1, d.before a0 Z = true) (ws : List Jvm.Cond) (a1 : Addr) (k : Int32) (h0 : Heap) (n0 : Nat) (O0 : Old Z n0 h0) (F : Fld Z Z.heap a1 "java/lang/Enum" "ordinal" "I" (.int k)) :
    Ct l Z (⟨"java/lang/Enum", "ordinal", "()I"⟩ : MethodName) jdk_37_method_2_code 1 (some .int) ({ frames := 0, cells := 0, slots := 0, locals := 0 } : Room) ws #[(.ref a1)] h0 (fun v h L => v = some (.int k) ∧ Fr n0 L ∧ h0 = h) := by
  refine o_body (plainFor_of_name o_pn_java_lang_Enum) ?_
  intro p e s m below meth c s₁ X0 hx hby hml hret hlk hown hnm hZ e0
  have N0 := Fr.nil n0
  refine o_top (g' := (mkF m 0 #[.val (.ref a1)] [])) (by first | (simp [entryFrame, mkF, argsToLocals, Value.category]; done) | rfl) ?_
  refine o_aloadN (v := (.ref a1)) (pc := 0) X0 hx (hb hby o_d3_0) rfl rfl ?_
  refine o_getF (pc := 1) X0 hx hZ hown (host := "") (Or.inl (hw _ (List.mem_of_getElem? (i := 22) rfl))) Via.refl e0 (F.ext O0.2) (hb hby o_d3_1) fun T1 X1 e1 => ?_
  exact o_retI (pc := 4) X1 hx hret hlk (hb hby o_d3_4) e1 (by decide) (by decide) ⟨rfl, N0, rfl⟩
theorem o_pn_com_example_handvisor_handvisor_KindHoldsPinLaw : plainName "com/example/handvisor/handvisor/KindHoldsPinLaw" = true := by first | (simp [plainName, overriddenIn]; done) | decide +kernel
theorem o_d1_0 : decode method_3_code 0 = .ok (.iload_n 0, 1) := by decide +kernel
theorem o_d1_1 : decode method_3_code 1 = .ok (.ifCond .ne 7, 3) := by decide +kernel
theorem o_d1_4 : decode method_3_code 4 = .ok (.getstatic 20, 3) := by decide +kernel
theorem o_d1_7 : decode method_3_code 7 = .ok (.areturn, 1) := by decide +kernel
theorem o_d1_8 : decode method_3_code 8 = .ok (.iload_n 0, 1) := by decide +kernel
theorem o_d1_9 : decode method_3_code 9 = .ok (.iconst 1, 1) := by decide +kernel
theorem o_d1_10 : decode method_3_code 10 = .ok (.if_icmp .ne 7, 3) := by decide +kernel
theorem o_d1_13 : decode method_3_code 13 = .ok (.getstatic 24, 3) := by decide +kernel
theorem o_d1_16 : decode method_3_code 16 = .ok (.areturn, 1) := by decide +kernel
theorem o_d1_17 : decode method_3_code 17 = .ok (.iload_n 0, 1) := by decide +kernel
theorem o_d1_18 : decode method_3_code 18 = .ok (.iconst 2, 1) := by decide +kernel
theorem o_d1_19 : decode method_3_code 19 = .ok (.if_icmp .ne 7, 3) := by decide +kernel
theorem o_d1_22 : decode method_3_code 22 = .ok (.getstatic 27, 3) := by decide +kernel
theorem o_d1_25 : decode method_3_code 25 = .ok (.areturn, 1) := by decide +kernel
theorem o_d1_26 : decode method_3_code 26 = .ok (.iload_n 0, 1) := by decide +kernel
theorem o_d1_27 : decode method_3_code 27 = .ok (.iconst 3, 1) := by decide +kernel
theorem o_d1_28 : decode method_3_code 28 = .ok (.if_icmp .ne 7, 3) := by decide +kernel
theorem o_d1_31 : decode method_3_code 31 = .ok (.getstatic 30, 3) := by decide +kernel
theorem o_d1_34 : decode method_3_code 34 = .ok (.areturn, 1) := by decide +kernel
theorem o_d1_35 : decode method_3_code 35 = .ok (.getstatic 33, 3) := by decide +kernel
theorem o_d1_38 : decode method_3_code 38 = .ok (.areturn, 1) := by decide +kernel
set_option maxRecDepth 65536 in
set_option maxHeartbeats 40000000 in
theorem rm1 (l : Launch) (Z : State) (a0 : Array Value) (hw : ∀ d ∈ tables_1, d.before a0 Z = true) (ws : List Jvm.Cond) (p1 : Int32) (w_DOCUMENT w_CHARACTERISTIC w_PARM w_PARM_QUERY w_CHARACTERISTIC_QUERY : Addr) (h0 : Heap) (n0 : Nat) (O0 : Old Z n0 h0) (S_DOCUMENT : KindSta Z "DOCUMENT" w_DOCUMENT) (S_CHARACTERISTIC : KindSta Z "CHARACTERISTIC" w_CHARACTERISTIC) (S_PARM : KindSta Z "PARM" w_PARM) (S_PARM_QUERY : KindSta Z "PARM_QUERY" w_PARM_QUERY) (S_CHARACTERISTIC_QUERY : KindSta Z "CHARACTERISTIC_QUERY" w_CHARACTERISTIC_QUERY) :
    Ct l Z (⟨"com/example/handvisor/handvisor/KindHoldsPinLaw", "kindOf", "(I)Lcom/example/handvisor/handvisor/ProvisioningElement$Kind;"⟩ : MethodName) method_3_code 1 (some (.object "com/example/handvisor/handvisor/ProvisioningElement$Kind")) ({ frames := 0, cells := 0, slots := 0, locals := 0 } : Room) ws #[(.int p1)] h0 (fun v h L => v = some (.ref (K p1 w_DOCUMENT w_CHARACTERISTIC w_PARM w_PARM_QUERY w_CHARACTERISTIC_QUERY)) ∧ Fr n0 L ∧ h0 = h) := by
  refine o_body (plainFor_of_name o_pn_com_example_handvisor_handvisor_KindHoldsPinLaw) ?_
  intro p e s m below meth c s₁ X0 hx hby hml hret hlk hown hnm hZ e0
  have N0 := Fr.nil n0
  refine o_top (g' := (mkF m 0 #[.val (.int p1)] [])) (by first | (simp [entryFrame, mkF, argsToLocals, Value.category]; done) | rfl) ?_
  refine o_iloadN (v := p1) (pc := 0) X0 hx (hb hby o_d1_0) rfl ?_
  by_cases hc2 : p1 = (0 : Int32)
  · skip
    refine o_ifNo (pc := 1) X0 hx (hb hby o_d1_1) ((if0 _ _).trans (teq hc2).2) ?_
    refine o_getS (pc := 4) X0 hx hZ hown (host := "") (Or.inl (hw _ (List.mem_of_getElem? (i := 5) rfl))) Via.refl e0 (S_DOCUMENT.ext O0.2) (hb hby o_d1_4) fun T3 X3 e3 => ?_
    exact o_retA (pc := 7) X3 hx hret hlk rfl rfl (hb hby o_d1_7) e3 (by decide) (by decide) ⟨by simp [K, hc2], N0, rfl⟩
  · skip
    refine o_ifYes (pc := 1) X0 hx 8 (hb hby o_d1_1) ((if0 _ _).trans (feq hc2).2) (by decide) (by decide) ?_
    refine o_iloadN (v := p1) (pc := 8) X0 hx (hb hby o_d1_8) rfl ?_
    refine o_iconst (pc := 9) X0 hx (1 : Int32) (hb hby o_d1_9) rfl ?_
    by_cases hc4 : p1 = (1 : Int32)
    · skip
      refine o_icmpNo (pc := 10) X0 hx (hb hby o_d1_10) (teq hc4).2 ?_
      refine o_getS (pc := 13) X0 hx hZ hown (host := "") (Or.inl (hw _ (List.mem_of_getElem? (i := 29) rfl))) Via.refl e0 (S_CHARACTERISTIC.ext O0.2) (hb hby o_d1_13) fun T5 X5 e5 => ?_
      exact o_retA (pc := 16) X5 hx hret hlk rfl rfl (hb hby o_d1_16) e5 (by decide) (by decide) ⟨by simp [K, hc2, hc4], N0, rfl⟩
    · skip
      refine o_icmpYes (pc := 10) X0 hx 17 (hb hby o_d1_10) (feq hc4).2 (by decide) (by decide) ?_
      refine o_iloadN (v := p1) (pc := 17) X0 hx (hb hby o_d1_17) rfl ?_
      refine o_iconst (pc := 18) X0 hx (2 : Int32) (hb hby o_d1_18) rfl ?_
      by_cases hc6 : p1 = (2 : Int32)
      · skip
        refine o_icmpNo (pc := 19) X0 hx (hb hby o_d1_19) (teq hc6).2 ?_
        refine o_getS (pc := 22) X0 hx hZ hown (host := "") (Or.inl (hw _ (List.mem_of_getElem? (i := 31) rfl))) Via.refl e0 (S_PARM.ext O0.2) (hb hby o_d1_22) fun T7 X7 e7 => ?_
        exact o_retA (pc := 25) X7 hx hret hlk rfl rfl (hb hby o_d1_25) e7 (by decide) (by decide) ⟨by simp [K, hc2, hc4, hc6], N0, rfl⟩
      · skip
        refine o_icmpYes (pc := 19) X0 hx 26 (hb hby o_d1_19) (feq hc6).2 (by decide) (by decide) ?_
        refine o_iloadN (v := p1) (pc := 26) X0 hx (hb hby o_d1_26) rfl ?_
        refine o_iconst (pc := 27) X0 hx (3 : Int32) (hb hby o_d1_27) rfl ?_
        by_cases hc8 : p1 = (3 : Int32)
        · skip
          refine o_icmpNo (pc := 28) X0 hx (hb hby o_d1_28) (teq hc8).2 ?_
          refine o_getS (pc := 31) X0 hx hZ hown (host := "") (Or.inl (hw _ (List.mem_of_getElem? (i := 8) rfl))) Via.refl e0 (S_PARM_QUERY.ext O0.2) (hb hby o_d1_31) fun T9 X9 e9 => ?_
          exact o_retA (pc := 34) X9 hx hret hlk rfl rfl (hb hby o_d1_34) e9 (by decide) (by decide) ⟨by simp [K, hc2, hc4, hc6, hc8], N0, rfl⟩
        · skip
          refine o_icmpYes (pc := 28) X0 hx 35 (hb hby o_d1_28) (feq hc8).2 (by decide) (by decide) ?_
          refine o_getS (pc := 35) X0 hx hZ hown (host := "") (Or.inl (hw _ (List.mem_of_getElem? (i := 28) rfl))) Via.refl e0 (S_CHARACTERISTIC_QUERY.ext O0.2) (hb hby o_d1_35) fun T10 X10 e10 => ?_
          exact o_retA (pc := 38) X10 hx hret hlk rfl rfl (hb hby o_d1_38) e10 (by decide) (by decide) ⟨by simp [K, hc2, hc4, hc6, hc8], N0, rfl⟩
theorem o_pn_com_example_handvisor_handvisor_ProvisioningElement_Kind : plainName "com/example/handvisor/handvisor/ProvisioningElement$Kind" = true := by first | (simp [plainName, overriddenIn]; done) | decide +kernel
theorem o_d2_0 : decode prog_35_method_7_code 0 = .ok (.aload_n 0, 1) := by decide +kernel
theorem o_d2_1 : decode prog_35_method_7_code 1 = .ok (.invokevirtual 65, 3) := by decide +kernel
theorem o_pd0 : parseMethodDescriptor "()I" = some ⟨[], some .int⟩ := by decide +kernel
theorem o_d2_4 : decode prog_35_method_7_code 4 = .ok (.lookupswitch 65 #[(0, 28), (1, 50)], 28) := by decide +kernel
theorem o_d2_32 : decode prog_35_method_7_code 32 = .ok (.aload_n 1, 1) := by decide +kernel
theorem o_d2_33 : decode prog_35_method_7_code 33 = .ok (.getstatic 7, 3) := by decide +kernel
theorem o_d2_36 : decode prog_35_method_7_code 36 = .ok (.if_acmp .eq 10, 3) := by decide +kernel
theorem o_d2_46 : decode prog_35_method_7_code 46 = .ok (.iconst 1, 1) := by decide +kernel
theorem o_d2_47 : decode prog_35_method_7_code 47 = .ok (.goto 23, 3) := by decide +kernel
theorem o_d2_70 : decode prog_35_method_7_code 70 = .ok (.ireturn, 1) := by decide +kernel
theorem o_d2_39 : decode prog_35_method_7_code 39 = .ok (.aload_n 1, 1) := by decide +kernel
theorem o_d2_40 : decode prog_35_method_7_code 40 = .ok (.getstatic 16, 3) := by decide +kernel
theorem o_d2_43 : decode prog_35_method_7_code 43 = .ok (.if_acmp .ne 7, 3) := by decide +kernel
theorem o_d2_50 : decode prog_35_method_7_code 50 = .ok (.iconst 0, 1) := by decide +kernel
theorem o_d2_51 : decode prog_35_method_7_code 51 = .ok (.goto 19, 3) := by decide +kernel
theorem o_d2_54 : decode prog_35_method_7_code 54 = .ok (.aload_n 1, 1) := by decide +kernel
theorem o_d2_55 : decode prog_35_method_7_code 55 = .ok (.getstatic 3, 3) := by decide +kernel
theorem o_d2_58 : decode prog_35_method_7_code 58 = .ok (.if_acmp .eq 7, 3) := by decide +kernel
theorem o_d2_65 : decode prog_35_method_7_code 65 = .ok (.iconst 0, 1) := by decide +kernel
theorem o_d2_66 : decode prog_35_method_7_code 66 = .ok (.goto 4, 3) := by decide +kernel
theorem o_d2_61 : decode prog_35_method_7_code 61 = .ok (.iconst 1, 1) := by decide +kernel
theorem o_d2_62 : decode prog_35_method_7_code 62 = .ok (.goto 8, 3) := by decide +kernel
theorem o_d2_69 : decode prog_35_method_7_code 69 = .ok (.iconst 0, 1) := by decide +kernel
set_option maxRecDepth 65536 in
set_option maxHeartbeats 40000000 in
theorem rm2 (l : Launch) (Z : State) (a0 : Array Value) (hw : ∀ d ∈ tables_1, d.before a0 Z = true) (ws : List Jvm.Cond) (a1 a2 : Addr) (k : Int32) (w_DOCUMENT w_CHARACTERISTIC w_PARM w_PARM_QUERY w_CHARACTERISTIC_QUERY : Addr) (h0 : Heap) (n0 : Nat) (O0 : Old Z n0 h0) (S_DOCUMENT : KindSta Z "DOCUMENT" w_DOCUMENT) (S_CHARACTERISTIC : KindSta Z "CHARACTERISTIC" w_CHARACTERISTIC) (S_PARM : KindSta Z "PARM" w_PARM) (S_PARM_QUERY : KindSta Z "PARM_QUERY" w_PARM_QUERY) (S_CHARACTERISTIC_QUERY : KindSta Z "CHARACTERISTIC_QUERY" w_CHARACTERISTIC_QUERY) (Ea : KindExa Z a1) (F : Fld Z Z.heap a1 "java/lang/Enum" "ordinal" "I" (.int k)) :
    Ct l Z (⟨"com/example/handvisor/handvisor/ProvisioningElement$Kind", "holds", "(Lcom/example/handvisor/handvisor/ProvisioningElement$Kind;)Z"⟩ : MethodName) prog_35_method_7_code 2 (some .boolean) ({ frames := 1, cells := 0, slots := 0, locals := 12 } : Room) ws #[(.ref a1), (.ref a2)] h0 (fun v h L => v = some (.int (H k a2 w_DOCUMENT w_CHARACTERISTIC w_CHARACTERISTIC_QUERY)) ∧ Fr n0 L ∧ h0 = h) := by
  refine o_body (plainFor_of_name o_pn_com_example_handvisor_handvisor_ProvisioningElement_Kind) ?_
  intro p e s m below meth c s₁ X0 hx hby hml hret hlk hown hnm hZ e0
  have N0 := Fr.nil n0
  refine o_top (g' := (mkF m 0 #[.val (.ref a1), .val (.ref a2)] [])) (by first | (simp [entryFrame, mkF, argsToLocals, Value.category]; done) | rfl) ?_
  refine o_aloadN (v := (.ref a1)) (pc := 0) X0 hx (hb hby o_d2_0) rfl rfl ?_
  refine o_callVU (pc := 1) X0 hx hZ (y := (⟨"com/example/handvisor/handvisor/ProvisioningElement$Kind", "ordinal", "()I"⟩ : MethodName)) (z := (⟨"java/lang/Enum", "ordinal", "()I"⟩ : MethodName)) (C := "com/example/handvisor/handvisor/ProvisioningElement$Kind") (owner := "java/lang/Enum") (a := a1) (argsL := []) (rest := []) hown (hw _ (List.mem_of_getElem? (i := 15) rfl)) (hw _ (List.mem_of_getElem? (i := 16) rfl)) (hw _ (List.mem_of_getElem? (i := 17) rfl)) (hw _ (List.mem_of_getElem? (i := 19) rfl)) (hw _ (List.mem_of_getElem? (i := 18) rfl)) (hw _ (List.mem_of_getElem? (i := 20) rfl)) (hw _ (List.mem_of_getElem? (i := 21) rfl)) (by decide) (rm3 l Z a0 hw [] a1 k h0 n0 O0 F) e0 (Ea.ext O0.2) (by rw [hml]; rfl) (lenOf o_pd0 rfl) (has := rfl) (hst := rfl) (W := 0) (Nat.le_of_ble_eq_true rfl) (hb hby o_d2_1) (by decide) (by decide) (by decide) (by decide) fun v11 T11 h11 L11 X11 e11 q11 => ?_
  obtain ⟨rfl, N11q, rfl⟩ := q11
  have N11 := Fr.app N0 N11q
  show Go p e below T11 (mkF m 4 #[.val (.ref a1), .val (.ref a2)] [(.int k)]) _
  by_cases hc12 : k = (0 : Int32)
  · skip
    refine o_lswHit (pc := 4) X11 hx 32 (hb hby o_d2_4) hc12 rfl (k0 := (0 : Int32)) (a := 0) (off := 28) rfl (by decide) (by decide) ?_
    refine o_aloadN (v := (.ref a2)) (pc := 32) X11 hx (hb hby o_d2_32) rfl rfl ?_
    refine o_getS (pc := 33) X11 hx hZ hown (host := "") (Or.inl (hw _ (List.mem_of_getElem? (i := 24) rfl))) Via.refl e11 (S_CHARACTERISTIC.ext O0.2) (hb hby o_d2_33) fun T13 X13 e13 => ?_
    by_cases hc14 : a2 = w_CHARACTERISTIC
    · skip
      refine o_acmp (x := (.ref a2)) (y := (.ref w_CHARACTERISTIC)) (pc := 36) X13 hx 46 true rfl rfl (hb hby o_d2_36) (decide_eq_true (congrArg Value.ref hc14)) (by decide) (by decide) ?_
      refine o_iconst (pc := 46) X13 hx (1 : Int32) (hb hby o_d2_46) rfl ?_
      refine o_goto (pc := 47) X13 hx 70 (hb hby o_d2_47) (by decide) (by decide) ?_
      exact o_retN (pc := 70) X13 hx .boolean hret hlk (by simp) (hb hby o_d2_70) e13 (by decide) (by decide) ⟨by simp [H, nar, hc12, hc14], N11, rfl⟩
    · skip
      refine o_acmp (x := (.ref a2)) (y := (.ref w_CHARACTERISTIC)) (pc := 36) X13 hx 39 false rfl rfl (hb hby o_d2_36) (decide_eq_false fun q => hc14 (Value.ref.inj q)) (by decide) (by decide) ?_
      refine o_aloadN (v := (.ref a2)) (pc := 39) X13 hx (hb hby o_d2_39) rfl rfl ?_
      refine o_getS (pc := 40) X13 hx hZ hown (host := "") (Or.inl (hw _ (List.mem_of_getElem? (i := 26) rfl))) Via.refl e13 (S_CHARACTERISTIC_QUERY.ext O0.2) (hb hby o_d2_40) fun T15 X15 e15 => ?_
      by_cases hc16 : a2 = w_CHARACTERISTIC_QUERY
      · skip
        refine o_acmp (x := (.ref a2)) (y := (.ref w_CHARACTERISTIC_QUERY)) (pc := 43) X15 hx 46 true rfl rfl (hb hby o_d2_43) (decide_eq_true (congrArg Value.ref hc16)) (by decide) (by decide) ?_
        refine o_iconst (pc := 46) X15 hx (1 : Int32) (hb hby o_d2_46) rfl ?_
        refine o_goto (pc := 47) X15 hx 70 (hb hby o_d2_47) (by decide) (by decide) ?_
        exact o_retN (pc := 70) X15 hx .boolean hret hlk (by simp) (hb hby o_d2_70) e15 (by decide) (by decide) ⟨by simp [H, nar, hc12, hc14, hc16], N11, rfl⟩
      · skip
        refine o_acmp (x := (.ref a2)) (y := (.ref w_CHARACTERISTIC_QUERY)) (pc := 43) X15 hx 50 false rfl rfl (hb hby o_d2_43) (decide_eq_false fun q => hc16 (Value.ref.inj q)) (by decide) (by decide) ?_
        refine o_iconst (pc := 50) X15 hx (0 : Int32) (hb hby o_d2_50) rfl ?_
        refine o_goto (pc := 51) X15 hx 70 (hb hby o_d2_51) (by decide) (by decide) ?_
        exact o_retN (pc := 70) X15 hx .boolean hret hlk (by simp) (hb hby o_d2_70) e15 (by decide) (by decide) ⟨by simp [H, nar, hc12, hc14, hc16], N11, rfl⟩
  · skip
    by_cases hc17 : k = (1 : Int32)
    · skip
      refine o_lswHit (pc := 4) X11 hx 54 (hb hby o_d2_4) hc17 rfl (k0 := (1 : Int32)) (a := 1) (off := 50) rfl (by decide) (by decide) ?_
      refine o_aloadN (v := (.ref a2)) (pc := 54) X11 hx (hb hby o_d2_54) rfl rfl ?_
      refine o_getS (pc := 55) X11 hx hZ hown (host := "") (Or.inl (hw _ (List.mem_of_getElem? (i := 30) rfl))) Via.refl e11 (S_DOCUMENT.ext O0.2) (hb hby o_d2_55) fun T18 X18 e18 => ?_
      by_cases hc19 : a2 = w_DOCUMENT
      · skip
        refine o_acmp (x := (.ref a2)) (y := (.ref w_DOCUMENT)) (pc := 58) X18 hx 65 true rfl rfl (hb hby o_d2_58) (decide_eq_true (congrArg Value.ref hc19)) (by decide) (by decide) ?_
        refine o_iconst (pc := 65) X18 hx (0 : Int32) (hb hby o_d2_65) rfl ?_
        refine o_goto (pc := 66) X18 hx 70 (hb hby o_d2_66) (by decide) (by decide) ?_
        exact o_retN (pc := 70) X18 hx .boolean hret hlk (by simp) (hb hby o_d2_70) e18 (by decide) (by decide) ⟨by simp [H, nar, hc12, hc17, hc19], N11, rfl⟩
      · skip
        refine o_acmp (x := (.ref a2)) (y := (.ref w_DOCUMENT)) (pc := 58) X18 hx 61 false rfl rfl (hb hby o_d2_58) (decide_eq_false fun q => hc19 (Value.ref.inj q)) (by decide) (by decide) ?_
        refine o_iconst (pc := 61) X18 hx (1 : Int32) (hb hby o_d2_61) rfl ?_
        refine o_goto (pc := 62) X18 hx 70 (hb hby o_d2_62) (by decide) (by decide) ?_
        exact o_retN (pc := 70) X18 hx .boolean hret hlk (by simp) (hb hby o_d2_70) e18 (by decide) (by decide) ⟨by simp [H, nar, hc12, hc17, hc19], N11, rfl⟩
    · skip
      refine o_lswMiss (pc := 4) X11 hx 69 (hb hby o_d2_4) rfl (find_miss fun q hq => by have hq : q ∈ [((0 : Int), (28 : Int)), ((1 : Int), (50 : Int))] := hq; simp only [List.mem_cons, List.not_mem_nil, or_false] at hq; rcases hq with rfl | rfl <;> first | exact o_nti (n := 0) hc12 | exact o_nti (n := 1) hc17) (by decide) (by decide) ?_
      refine o_iconst (pc := 69) X11 hx (0 : Int32) (hb hby o_d2_69) rfl ?_
      exact o_retN (pc := 70) X11 hx .boolean hret hlk (by simp) (hb hby o_d2_70) e11 (by decide) (by decide) ⟨by simp [H, nar, hc12, hc17], N11, rfl⟩
theorem o_pd1 : parseMethodDescriptor "(I)Lcom/example/handvisor/handvisor/ProvisioningElement$Kind;" = some ⟨[.int], some (.object "com/example/handvisor/handvisor/ProvisioningElement$Kind")⟩ := by decide +kernel
theorem o_pd2 : parseMethodDescriptor "(Lcom/example/handvisor/handvisor/ProvisioningElement$Kind;)Z" = some ⟨[(.object "com/example/handvisor/handvisor/ProvisioningElement$Kind")], some .boolean⟩ := by decide +kernel
set_option maxRecDepth 65536 in
set_option maxHeartbeats 40000000 in
theorem rm0 (l : Launch) (Z : State) (a0 : Array Value) (hw : ∀ d ∈ tables_1, d.before a0 Z = true) (ws : List Jvm.Cond) (p1 p2 : Int32) (w_DOCUMENT w_CHARACTERISTIC w_PARM w_PARM_QUERY w_CHARACTERISTIC_QUERY : Addr) (h0 : Heap) (n0 : Nat) (O0 : Old Z n0 h0) (S_DOCUMENT : KindSta Z "DOCUMENT" w_DOCUMENT) (S_CHARACTERISTIC : KindSta Z "CHARACTERISTIC" w_CHARACTERISTIC) (S_PARM : KindSta Z "PARM" w_PARM) (S_PARM_QUERY : KindSta Z "PARM_QUERY" w_PARM_QUERY) (S_CHARACTERISTIC_QUERY : KindSta Z "CHARACTERISTIC_QUERY" w_CHARACTERISTIC_QUERY) (E_DOCUMENT : KindExa Z w_DOCUMENT) (E_CHARACTERISTIC : KindExa Z w_CHARACTERISTIC) (E_PARM : KindExa Z w_PARM) (E_PARM_QUERY : KindExa Z w_PARM_QUERY) (E_CHARACTERISTIC_QUERY : KindExa Z w_CHARACTERISTIC_QUERY) (F_DOCUMENT_ordinal : Fld Z Z.heap w_DOCUMENT "java/lang/Enum" "ordinal" "I" (.int (0 : Int32))) (F_CHARACTERISTIC_ordinal : Fld Z Z.heap w_CHARACTERISTIC "java/lang/Enum" "ordinal" "I" (.int (1 : Int32))) (F_PARM_ordinal : Fld Z Z.heap w_PARM "java/lang/Enum" "ordinal" "I" (.int (2 : Int32))) (F_PARM_QUERY_ordinal : Fld Z Z.heap w_PARM_QUERY "java/lang/Enum" "ordinal" "I" (.int (3 : Int32))) (F_CHARACTERISTIC_QUERY_ordinal : Fld Z Z.heap w_CHARACTERISTIC_QUERY "java/lang/Enum" "ordinal" "I" (.int (4 : Int32))) (n_DOCUMENT_CHARACTERISTIC : w_DOCUMENT ≠ w_CHARACTERISTIC) (n_DOCUMENT_PARM : w_DOCUMENT ≠ w_PARM) (n_DOCUMENT_PARM_QUERY : w_DOCUMENT ≠ w_PARM_QUERY) (n_DOCUMENT_CHARACTERISTIC_QUERY : w_DOCUMENT ≠ w_CHARACTERISTIC_QUERY) (n_CHARACTERISTIC_PARM : w_CHARACTERISTIC ≠ w_PARM) (n_CHARACTERISTIC_PARM_QUERY : w_CHARACTERISTIC ≠ w_PARM_QUERY) (n_CHARACTERISTIC_CHARACTERISTIC_QUERY : w_CHARACTERISTIC ≠ w_CHARACTERISTIC_QUERY) (n_PARM_PARM_QUERY : w_PARM ≠ w_PARM_QUERY) (n_PARM_CHARACTERISTIC_QUERY : w_PARM ≠ w_CHARACTERISTIC_QUERY) (n_PARM_QUERY_CHARACTERISTIC_QUERY : w_PARM_QUERY ≠ w_CHARACTERISTIC_QUERY) :
    Ct l Z x code maxLocals ret room_1 ws #[(.int p1), (.int p2)] h0 (fun v h L => v = some (.int 1) ∧ Fr n0 L) := by
  refine o_body (plainFor_of_name o_pn_com_example_handvisor_handvisor_KindHoldsPinLaw) ?_
  intro p e s m below meth c s₁ X0 hx hby hml hret hlk hown hnm hZ e0
  have N0 := Fr.nil n0
  refine o_top (g' := (mkF m 0 #[.val (.int p1), .val (.int p2), .unset, .unset, .unset, .unset] [])) (by first | (simp [entryFrame, mkF, argsToLocals, Value.category, maxLocals]; done) | rfl) ?_
  refine o_iloadN (v := p1) (pc := 0) X0 hx (hb hby at_0) rfl ?_
  refine o_ldcI (pc := 1) X0 hx hZ hown (hw _ (List.mem_of_getElem? (i := 0) rfl)) (hb hby at_1) ?_
  refine o_iand (pc := 3) X0 hx (hb hby at_3) ?_
  refine o_iconst (pc := 4) X0 hx (5 : Int32) (hb hby at_4) rfl ?_
  refine o_irem (pc := 5) X0 hx (hb hby at_5) (by decide) ?_
  refine o_istoreN (l' := #[.val (.int p1), .val (.int p2), .val (.int ((p1 &&& (2147483647 : Int32)) % (5 : Int32))), .unset, .unset, .unset]) (pc := 6) X0 hx (hb hby at_6) rfl ?_
  refine o_iloadN (v := p2) (pc := 7) X0 hx (hb hby at_7) rfl ?_
  refine o_ldcI (pc := 8) X0 hx hZ hown (hw _ (List.mem_of_getElem? (i := 0) rfl)) (hb hby at_8) ?_
  refine o_iand (pc := 10) X0 hx (hb hby at_10) ?_
  refine o_iconst (pc := 11) X0 hx (5 : Int32) (hb hby at_11) rfl ?_
  refine o_irem (pc := 12) X0 hx (hb hby at_12) (by decide) ?_
  refine o_istoreN (l' := #[.val (.int p1), .val (.int p2), .val (.int ((p1 &&& (2147483647 : Int32)) % (5 : Int32))), .val (.int ((p2 &&& (2147483647 : Int32)) % (5 : Int32))), .unset, .unset]) (pc := 13) X0 hx (hb hby at_13) rfl ?_
  refine o_iconst (pc := 14) X0 hx (0 : Int32) (hb hby at_14) rfl ?_
  refine o_istore (l' := #[.val (.int p1), .val (.int p2), .val (.int ((p1 &&& (2147483647 : Int32)) % (5 : Int32))), .val (.int ((p2 &&& (2147483647 : Int32)) % (5 : Int32))), .val (.int (0 : Int32)), .unset]) (pc := 15) X0 hx (hb hby at_15) rfl ?_
  refine o_iloadN (v := ((p1 &&& (2147483647 : Int32)) % (5 : Int32))) (pc := 17) X0 hx (hb hby at_17) rfl ?_
  by_cases hc20 : ((p1 &&& (2147483647 : Int32)) % (5 : Int32)) = (0 : Int32)
  · skip
    refine o_ifNo (pc := 18) X0 hx (hb hby at_18) ((if0 _ _).trans (teq hc20).2) ?_
    refine o_bipush (pc := 21) X0 hx (18 : Int32) (hb hby at_21) rfl ?_
    refine o_istore (l' := #[.val (.int p1), .val (.int p2), .val (.int ((p1 &&& (2147483647 : Int32)) % (5 : Int32))), .val (.int ((p2 &&& (2147483647 : Int32)) % (5 : Int32))), .val (.int (18 : Int32)), .unset]) (pc := 23) X0 hx (hb hby at_23) rfl ?_
    refine o_goto (pc := 25) X0 hx 37 (hb hby at_25) (by decide) (by decide) ?_
    refine o_iload (v := (18 : Int32)) (pc := 37) X0 hx (hb hby at_37) rfl ?_
    refine o_iloadN (v := ((p2 &&& (2147483647 : Int32)) % (5 : Int32))) (pc := 39) X0 hx (hb hby at_39) rfl ?_
    refine o_ishr (pc := 40) X0 hx (hb hby at_40) ?_
    refine o_iconst (pc := 41) X0 hx (1 : Int32) (hb hby at_41) rfl ?_
    refine o_iand (pc := 42) X0 hx (hb hby at_42) ?_
    by_cases hc21 : (((18 : Int32) >>> (((p2 &&& (2147483647 : Int32)) % (5 : Int32)) &&& 31)) &&& (1 : Int32)) = (0 : Int32)
    · skip
      refine o_ifYes (pc := 43) X0 hx 50 (hb hby at_43) ((if0 _ _).trans (teq hc21).1) (by decide) (by decide) ?_
      refine o_iconst (pc := 50) X0 hx (0 : Int32) (hb hby at_50) rfl ?_
      refine o_istore (l' := #[.val (.int p1), .val (.int p2), .val (.int ((p1 &&& (2147483647 : Int32)) % (5 : Int32))), .val (.int ((p2 &&& (2147483647 : Int32)) % (5 : Int32))), .val (.int (18 : Int32)), .val (.int (0 : Int32))]) (pc := 51) X0 hx (hb hby at_51) rfl ?_
      refine o_iloadN (v := ((p1 &&& (2147483647 : Int32)) % (5 : Int32))) (pc := 53) X0 hx (hb hby at_53) rfl ?_
      refine o_callS (pc := 54) X0 hx hZ (y := (⟨"com/example/handvisor/handvisor/KindHoldsPinLaw", "kindOf", "(I)Lcom/example/handvisor/handvisor/ProvisioningElement$Kind;"⟩ : MethodName)) (argsL := [(.int ((p1 &&& (2147483647 : Int32)) % (5 : Int32)))]) (rest := []) hown (hw _ (List.mem_of_getElem? (i := 1) rfl)) (hw _ (List.mem_of_getElem? (i := 2) rfl)) (hw _ (List.mem_of_getElem? (i := 3) rfl)) (hw _ (List.mem_of_getElem? (i := 4) rfl)) (by decide) (rm1 l Z a0 hw [] ((p1 &&& (2147483647 : Int32)) % (5 : Int32)) w_DOCUMENT w_CHARACTERISTIC w_PARM w_PARM_QUERY w_CHARACTERISTIC_QUERY h0 n0 O0 S_DOCUMENT S_CHARACTERISTIC S_PARM S_PARM_QUERY S_CHARACTERISTIC_QUERY) e0 (by rw [hml]; rfl) (lenOf o_pd1 rfl) (has := rfl) (hst := rfl) (W := 0) (Nat.le_of_ble_eq_true rfl) (hb hby at_54) (by decide) (by decide) (by decide) (by decide) fun v22 T22 h22 L22 X22 e22 q22 => ?_
      obtain ⟨rfl, N22q, rfl⟩ := q22
      have N22 := Fr.app N0 N22q
      show Go p e below T22 (mkF m 57 #[.val (.int p1), .val (.int p2), .val (.int ((p1 &&& (2147483647 : Int32)) % (5 : Int32))), .val (.int ((p2 &&& (2147483647 : Int32)) % (5 : Int32))), .val (.int (18 : Int32)), .val (.int (0 : Int32))] [(.ref (K ((p1 &&& (2147483647 : Int32)) % (5 : Int32)) w_DOCUMENT w_CHARACTERISTIC w_PARM w_PARM_QUERY w_CHARACTERISTIC_QUERY))]) _
      refine o_iloadN (v := ((p2 &&& (2147483647 : Int32)) % (5 : Int32))) (pc := 57) X22 hx (hb hby at_57) rfl ?_
      refine o_callS (pc := 58) X22 hx hZ (y := (⟨"com/example/handvisor/handvisor/KindHoldsPinLaw", "kindOf", "(I)Lcom/example/handvisor/handvisor/ProvisioningElement$Kind;"⟩ : MethodName)) (argsL := [(.int ((p2 &&& (2147483647 : Int32)) % (5 : Int32)))]) (rest := [(.ref (K ((p1 &&& (2147483647 : Int32)) % (5 : Int32)) w_DOCUMENT w_CHARACTERISTIC w_PARM w_PARM_QUERY w_CHARACTERISTIC_QUERY))]) hown (hw _ (List.mem_of_getElem? (i := 1) rfl)) (hw _ (List.mem_of_getElem? (i := 2) rfl)) (hw _ (List.mem_of_getElem? (i := 3) rfl)) (hw _ (List.mem_of_getElem? (i := 4) rfl)) (by decide) (rm1 l Z a0 hw [] ((p2 &&& (2147483647 : Int32)) % (5 : Int32)) w_DOCUMENT w_CHARACTERISTIC w_PARM w_PARM_QUERY w_CHARACTERISTIC_QUERY h0 n0 O0 S_DOCUMENT S_CHARACTERISTIC S_PARM S_PARM_QUERY S_CHARACTERISTIC_QUERY) e22 (by rw [hml]; rfl) (lenOf o_pd1 rfl) (has := rfl) (hst := rfl) (W := 1) (Nat.le_of_ble_eq_true rfl) (hb hby at_58) (by decide) (by decide) (by decide) (by decide) fun v23 T23 h23 L23 X23 e23 q23 => ?_
      obtain ⟨rfl, N23q, rfl⟩ := q23
      have N23 := Fr.app N22 N23q
      show Go p e below T23 (mkF m 61 #[.val (.int p1), .val (.int p2), .val (.int ((p1 &&& (2147483647 : Int32)) % (5 : Int32))), .val (.int ((p2 &&& (2147483647 : Int32)) % (5 : Int32))), .val (.int (18 : Int32)), .val (.int (0 : Int32))] [(.ref (K ((p2 &&& (2147483647 : Int32)) % (5 : Int32)) w_DOCUMENT w_CHARACTERISTIC w_PARM w_PARM_QUERY w_CHARACTERISTIC_QUERY)), (.ref (K ((p1 &&& (2147483647 : Int32)) % (5 : Int32)) w_DOCUMENT w_CHARACTERISTIC w_PARM w_PARM_QUERY w_CHARACTERISTIC_QUERY))]) _
      refine o_callV (pc := 61) X23 hx hZ (y := (⟨"com/example/handvisor/handvisor/ProvisioningElement$Kind", "holds", "(Lcom/example/handvisor/handvisor/ProvisioningElement$Kind;)Z"⟩ : MethodName)) (z := (⟨"com/example/handvisor/handvisor/ProvisioningElement$Kind", "holds", "(Lcom/example/handvisor/handvisor/ProvisioningElement$Kind;)Z"⟩ : MethodName)) (C := "com/example/handvisor/handvisor/ProvisioningElement$Kind") (a := (K ((p1 &&& (2147483647 : Int32)) % (5 : Int32)) w_DOCUMENT w_CHARACTERISTIC w_PARM w_PARM_QUERY w_CHARACTERISTIC_QUERY)) (argsL := [(.ref (K ((p2 &&& (2147483647 : Int32)) % (5 : Int32)) w_DOCUMENT w_CHARACTERISTIC w_PARM w_PARM_QUERY w_CHARACTERISTIC_QUERY))]) (rest := []) hown (hw _ (List.mem_of_getElem? (i := 10) rfl)) (hw _ (List.mem_of_getElem? (i := 11) rfl)) (notFace_of_selects (args := #[]) (mvT hZ (hw _ (List.mem_of_getElem? (i := 13) rfl)))) (hw _ (List.mem_of_getElem? (i := 13) rfl)) (hw _ (List.mem_of_getElem? (i := 12) rfl)) (hw _ (List.mem_of_getElem? (i := 6) rfl)) (hw _ (List.mem_of_getElem? (i := 14) rfl)) (by decide) (rm2 l Z a0 hw [] (K ((p1 &&& (2147483647 : Int32)) % (5 : Int32)) w_DOCUMENT w_CHARACTERISTIC w_PARM w_PARM_QUERY w_CHARACTERISTIC_QUERY) (K ((p2 &&& (2147483647 : Int32)) % (5 : Int32)) w_DOCUMENT w_CHARACTERISTIC w_PARM w_PARM_QUERY w_CHARACTERISTIC_QUERY) ((p1 &&& (2147483647 : Int32)) % (5 : Int32)) w_DOCUMENT w_CHARACTERISTIC w_PARM w_PARM_QUERY w_CHARACTERISTIC_QUERY h0 n0 O0 S_DOCUMENT S_CHARACTERISTIC S_PARM S_PARM_QUERY S_CHARACTERISTIC_QUERY (kexa (c := ((p1 &&& (2147483647 : Int32)) % (5 : Int32))) E_DOCUMENT E_CHARACTERISTIC E_PARM E_PARM_QUERY E_CHARACTERISTIC_QUERY) (kfld (rem5 p1) F_DOCUMENT_ordinal F_CHARACTERISTIC_ordinal F_PARM_ordinal F_PARM_QUERY_ordinal F_CHARACTERISTIC_QUERY_ordinal)) e23 ((kexa (c := ((p1 &&& (2147483647 : Int32)) % (5 : Int32))) E_DOCUMENT E_CHARACTERISTIC E_PARM E_PARM_QUERY E_CHARACTERISTIC_QUERY).ext O0.2) (by rw [hml]; rfl) (lenOf o_pd2 rfl) (has := rfl) (hst := rfl) (W := 0) (Nat.le_of_ble_eq_true rfl) (hb hby at_61) (by decide) (by decide) (by decide) (by decide) fun v24 T24 h24 L24 X24 e24 q24 => ?_
      obtain ⟨rfl, N24q, rfl⟩ := q24
      have N24 := Fr.app N23 N24q
      show Go p e below T24 (mkF m 64 #[.val (.int p1), .val (.int p2), .val (.int ((p1 &&& (2147483647 : Int32)) % (5 : Int32))), .val (.int ((p2 &&& (2147483647 : Int32)) % (5 : Int32))), .val (.int (18 : Int32)), .val (.int (0 : Int32))] [(.int (H ((p1 &&& (2147483647 : Int32)) % (5 : Int32)) (K ((p2 &&& (2147483647 : Int32)) % (5 : Int32)) w_DOCUMENT w_CHARACTERISTIC w_PARM w_PARM_QUERY w_CHARACTERISTIC_QUERY) w_DOCUMENT w_CHARACTERISTIC w_CHARACTERISTIC_QUERY))]) _
      refine o_iload (v := (0 : Int32)) (pc := 64) X24 hx (hb hby at_64) rfl ?_
      refine o_icmpNo (pc := 66) X24 hx (hb hby at_66) (teq (by first | (rw [table (rem5 p1) (rem5 p2) n_DOCUMENT_CHARACTERISTIC n_DOCUMENT_PARM n_DOCUMENT_PARM_QUERY n_DOCUMENT_CHARACTERISTIC_QUERY n_CHARACTERISTIC_PARM n_CHARACTERISTIC_PARM_QUERY n_CHARACTERISTIC_CHARACTERISTIC_QUERY n_PARM_PARM_QUERY n_PARM_CHARACTERISTIC_QUERY n_PARM_QUERY_CHARACTERISTIC_QUERY]; simp [Row, hc20, hc21]; done) | exact absurd (by simp) hc20 | exact absurd (by simp) hc21 : (H ((p1 &&& (2147483647 : Int32)) % (5 : Int32)) (K ((p2 &&& (2147483647 : Int32)) % (5 : Int32)) w_DOCUMENT w_CHARACTERISTIC w_PARM w_PARM_QUERY w_CHARACTERISTIC_QUERY) w_DOCUMENT w_CHARACTERISTIC w_CHARACTERISTIC_QUERY) = (0 : Int32))).2 ?_
      refine o_iconst (pc := 69) X24 hx (1 : Int32) (hb hby at_69) rfl ?_
      refine o_goto (pc := 70) X24 hx 74 (hb hby at_70) (by decide) (by decide) ?_
      exact o_retN (pc := 74) X24 hx .boolean hret hlk (by simp) (hb hby at_74) e24 (by decide) (by decide) ⟨rfl, N24⟩
    · skip
      refine o_ifNo (pc := 43) X0 hx (hb hby at_43) ((if0 _ _).trans (feq hc21).1) ?_
      refine o_iconst (pc := 46) X0 hx (1 : Int32) (hb hby at_46) rfl ?_
      refine o_goto (pc := 47) X0 hx 51 (hb hby at_47) (by decide) (by decide) ?_
      refine o_istore (l' := #[.val (.int p1), .val (.int p2), .val (.int ((p1 &&& (2147483647 : Int32)) % (5 : Int32))), .val (.int ((p2 &&& (2147483647 : Int32)) % (5 : Int32))), .val (.int (18 : Int32)), .val (.int (1 : Int32))]) (pc := 51) X0 hx (hb hby at_51) rfl ?_
      refine o_iloadN (v := ((p1 &&& (2147483647 : Int32)) % (5 : Int32))) (pc := 53) X0 hx (hb hby at_53) rfl ?_
      refine o_callS (pc := 54) X0 hx hZ (y := (⟨"com/example/handvisor/handvisor/KindHoldsPinLaw", "kindOf", "(I)Lcom/example/handvisor/handvisor/ProvisioningElement$Kind;"⟩ : MethodName)) (argsL := [(.int ((p1 &&& (2147483647 : Int32)) % (5 : Int32)))]) (rest := []) hown (hw _ (List.mem_of_getElem? (i := 1) rfl)) (hw _ (List.mem_of_getElem? (i := 2) rfl)) (hw _ (List.mem_of_getElem? (i := 3) rfl)) (hw _ (List.mem_of_getElem? (i := 4) rfl)) (by decide) (rm1 l Z a0 hw [] ((p1 &&& (2147483647 : Int32)) % (5 : Int32)) w_DOCUMENT w_CHARACTERISTIC w_PARM w_PARM_QUERY w_CHARACTERISTIC_QUERY h0 n0 O0 S_DOCUMENT S_CHARACTERISTIC S_PARM S_PARM_QUERY S_CHARACTERISTIC_QUERY) e0 (by rw [hml]; rfl) (lenOf o_pd1 rfl) (has := rfl) (hst := rfl) (W := 0) (Nat.le_of_ble_eq_true rfl) (hb hby at_54) (by decide) (by decide) (by decide) (by decide) fun v25 T25 h25 L25 X25 e25 q25 => ?_
      obtain ⟨rfl, N25q, rfl⟩ := q25
      have N25 := Fr.app N0 N25q
      show Go p e below T25 (mkF m 57 #[.val (.int p1), .val (.int p2), .val (.int ((p1 &&& (2147483647 : Int32)) % (5 : Int32))), .val (.int ((p2 &&& (2147483647 : Int32)) % (5 : Int32))), .val (.int (18 : Int32)), .val (.int (1 : Int32))] [(.ref (K ((p1 &&& (2147483647 : Int32)) % (5 : Int32)) w_DOCUMENT w_CHARACTERISTIC w_PARM w_PARM_QUERY w_CHARACTERISTIC_QUERY))]) _
      refine o_iloadN (v := ((p2 &&& (2147483647 : Int32)) % (5 : Int32))) (pc := 57) X25 hx (hb hby at_57) rfl ?_
      refine o_callS (pc := 58) X25 hx hZ (y := (⟨"com/example/handvisor/handvisor/KindHoldsPinLaw", "kindOf", "(I)Lcom/example/handvisor/handvisor/ProvisioningElement$Kind;"⟩ : MethodName)) (argsL := [(.int ((p2 &&& (2147483647 : Int32)) % (5 : Int32)))]) (rest := [(.ref (K ((p1 &&& (2147483647 : Int32)) % (5 : Int32)) w_DOCUMENT w_CHARACTERISTIC w_PARM w_PARM_QUERY w_CHARACTERISTIC_QUERY))]) hown (hw _ (List.mem_of_getElem? (i := 1) rfl)) (hw _ (List.mem_of_getElem? (i := 2) rfl)) (hw _ (List.mem_of_getElem? (i := 3) rfl)) (hw _ (List.mem_of_getElem? (i := 4) rfl)) (by decide) (rm1 l Z a0 hw [] ((p2 &&& (2147483647 : Int32)) % (5 : Int32)) w_DOCUMENT w_CHARACTERISTIC w_PARM w_PARM_QUERY w_CHARACTERISTIC_QUERY h0 n0 O0 S_DOCUMENT S_CHARACTERISTIC S_PARM S_PARM_QUERY S_CHARACTERISTIC_QUERY) e25 (by rw [hml]; rfl) (lenOf o_pd1 rfl) (has := rfl) (hst := rfl) (W := 1) (Nat.le_of_ble_eq_true rfl) (hb hby at_58) (by decide) (by decide) (by decide) (by decide) fun v26 T26 h26 L26 X26 e26 q26 => ?_
      obtain ⟨rfl, N26q, rfl⟩ := q26
      have N26 := Fr.app N25 N26q
      show Go p e below T26 (mkF m 61 #[.val (.int p1), .val (.int p2), .val (.int ((p1 &&& (2147483647 : Int32)) % (5 : Int32))), .val (.int ((p2 &&& (2147483647 : Int32)) % (5 : Int32))), .val (.int (18 : Int32)), .val (.int (1 : Int32))] [(.ref (K ((p2 &&& (2147483647 : Int32)) % (5 : Int32)) w_DOCUMENT w_CHARACTERISTIC w_PARM w_PARM_QUERY w_CHARACTERISTIC_QUERY)), (.ref (K ((p1 &&& (2147483647 : Int32)) % (5 : Int32)) w_DOCUMENT w_CHARACTERISTIC w_PARM w_PARM_QUERY w_CHARACTERISTIC_QUERY))]) _
      refine o_callV (pc := 61) X26 hx hZ (y := (⟨"com/example/handvisor/handvisor/ProvisioningElement$Kind", "holds", "(Lcom/example/handvisor/handvisor/ProvisioningElement$Kind;)Z"⟩ : MethodName)) (z := (⟨"com/example/handvisor/handvisor/ProvisioningElement$Kind", "holds", "(Lcom/example/handvisor/handvisor/ProvisioningElement$Kind;)Z"⟩ : MethodName)) (C := "com/example/handvisor/handvisor/ProvisioningElement$Kind") (a := (K ((p1 &&& (2147483647 : Int32)) % (5 : Int32)) w_DOCUMENT w_CHARACTERISTIC w_PARM w_PARM_QUERY w_CHARACTERISTIC_QUERY)) (argsL := [(.ref (K ((p2 &&& (2147483647 : Int32)) % (5 : Int32)) w_DOCUMENT w_CHARACTERISTIC w_PARM w_PARM_QUERY w_CHARACTERISTIC_QUERY))]) (rest := []) hown (hw _ (List.mem_of_getElem? (i := 10) rfl)) (hw _ (List.mem_of_getElem? (i := 11) rfl)) (notFace_of_selects (args := #[]) (mvT hZ (hw _ (List.mem_of_getElem? (i := 13) rfl)))) (hw _ (List.mem_of_getElem? (i := 13) rfl)) (hw _ (List.mem_of_getElem? (i := 12) rfl)) (hw _ (List.mem_of_getElem? (i := 6) rfl)) (hw _ (List.mem_of_getElem? (i := 14) rfl)) (by decide) (rm2 l Z a0 hw [] (K ((p1 &&& (2147483647 : Int32)) % (5 : Int32)) w_DOCUMENT w_CHARACTERISTIC w_PARM w_PARM_QUERY w_CHARACTERISTIC_QUERY) (K ((p2 &&& (2147483647 : Int32)) % (5 : Int32)) w_DOCUMENT w_CHARACTERISTIC w_PARM w_PARM_QUERY w_CHARACTERISTIC_QUERY) ((p1 &&& (2147483647 : Int32)) % (5 : Int32)) w_DOCUMENT w_CHARACTERISTIC w_PARM w_PARM_QUERY w_CHARACTERISTIC_QUERY h0 n0 O0 S_DOCUMENT S_CHARACTERISTIC S_PARM S_PARM_QUERY S_CHARACTERISTIC_QUERY (kexa (c := ((p1 &&& (2147483647 : Int32)) % (5 : Int32))) E_DOCUMENT E_CHARACTERISTIC E_PARM E_PARM_QUERY E_CHARACTERISTIC_QUERY) (kfld (rem5 p1) F_DOCUMENT_ordinal F_CHARACTERISTIC_ordinal F_PARM_ordinal F_PARM_QUERY_ordinal F_CHARACTERISTIC_QUERY_ordinal)) e26 ((kexa (c := ((p1 &&& (2147483647 : Int32)) % (5 : Int32))) E_DOCUMENT E_CHARACTERISTIC E_PARM E_PARM_QUERY E_CHARACTERISTIC_QUERY).ext O0.2) (by rw [hml]; rfl) (lenOf o_pd2 rfl) (has := rfl) (hst := rfl) (W := 0) (Nat.le_of_ble_eq_true rfl) (hb hby at_61) (by decide) (by decide) (by decide) (by decide) fun v27 T27 h27 L27 X27 e27 q27 => ?_
      obtain ⟨rfl, N27q, rfl⟩ := q27
      have N27 := Fr.app N26 N27q
      show Go p e below T27 (mkF m 64 #[.val (.int p1), .val (.int p2), .val (.int ((p1 &&& (2147483647 : Int32)) % (5 : Int32))), .val (.int ((p2 &&& (2147483647 : Int32)) % (5 : Int32))), .val (.int (18 : Int32)), .val (.int (1 : Int32))] [(.int (H ((p1 &&& (2147483647 : Int32)) % (5 : Int32)) (K ((p2 &&& (2147483647 : Int32)) % (5 : Int32)) w_DOCUMENT w_CHARACTERISTIC w_PARM w_PARM_QUERY w_CHARACTERISTIC_QUERY) w_DOCUMENT w_CHARACTERISTIC w_CHARACTERISTIC_QUERY))]) _
      refine o_iload (v := (1 : Int32)) (pc := 64) X27 hx (hb hby at_64) rfl ?_
      refine o_icmpNo (pc := 66) X27 hx (hb hby at_66) (teq (by first | (rw [table (rem5 p1) (rem5 p2) n_DOCUMENT_CHARACTERISTIC n_DOCUMENT_PARM n_DOCUMENT_PARM_QUERY n_DOCUMENT_CHARACTERISTIC_QUERY n_CHARACTERISTIC_PARM n_CHARACTERISTIC_PARM_QUERY n_CHARACTERISTIC_CHARACTERISTIC_QUERY n_PARM_PARM_QUERY n_PARM_CHARACTERISTIC_QUERY n_PARM_QUERY_CHARACTERISTIC_QUERY]; simp [Row, hc20, hc21]; done) | exact absurd (by simp) hc20 | exact absurd (by simp) hc21 : (H ((p1 &&& (2147483647 : Int32)) % (5 : Int32)) (K ((p2 &&& (2147483647 : Int32)) % (5 : Int32)) w_DOCUMENT w_CHARACTERISTIC w_PARM w_PARM_QUERY w_CHARACTERISTIC_QUERY) w_DOCUMENT w_CHARACTERISTIC w_CHARACTERISTIC_QUERY) = (1 : Int32))).2 ?_
      refine o_iconst (pc := 69) X27 hx (1 : Int32) (hb hby at_69) rfl ?_
      refine o_goto (pc := 70) X27 hx 74 (hb hby at_70) (by decide) (by decide) ?_
      exact o_retN (pc := 74) X27 hx .boolean hret hlk (by simp) (hb hby at_74) e27 (by decide) (by decide) ⟨rfl, N27⟩
  · skip
    refine o_ifYes (pc := 18) X0 hx 28 (hb hby at_18) ((if0 _ _).trans (feq hc20).2) (by decide) (by decide) ?_
    refine o_iloadN (v := ((p1 &&& (2147483647 : Int32)) % (5 : Int32))) (pc := 28) X0 hx (hb hby at_28) rfl ?_
    refine o_iconst (pc := 29) X0 hx (1 : Int32) (hb hby at_29) rfl ?_
    by_cases hc28 : ((p1 &&& (2147483647 : Int32)) % (5 : Int32)) = (1 : Int32)
    · skip
      refine o_icmpNo (pc := 30) X0 hx (hb hby at_30) (teq hc28).2 ?_
      refine o_bipush (pc := 33) X0 hx (30 : Int32) (hb hby at_33) rfl ?_
      refine o_istore (l' := #[.val (.int p1), .val (.int p2), .val (.int ((p1 &&& (2147483647 : Int32)) % (5 : Int32))), .val (.int ((p2 &&& (2147483647 : Int32)) % (5 : Int32))), .val (.int (30 : Int32)), .unset]) (pc := 35) X0 hx (hb hby at_35) rfl ?_
      refine o_iload (v := (30 : Int32)) (pc := 37) X0 hx (hb hby at_37) rfl ?_
      refine o_iloadN (v := ((p2 &&& (2147483647 : Int32)) % (5 : Int32))) (pc := 39) X0 hx (hb hby at_39) rfl ?_
      refine o_ishr (pc := 40) X0 hx (hb hby at_40) ?_
      refine o_iconst (pc := 41) X0 hx (1 : Int32) (hb hby at_41) rfl ?_
      refine o_iand (pc := 42) X0 hx (hb hby at_42) ?_
      by_cases hc29 : (((30 : Int32) >>> (((p2 &&& (2147483647 : Int32)) % (5 : Int32)) &&& 31)) &&& (1 : Int32)) = (0 : Int32)
      · skip
        refine o_ifYes (pc := 43) X0 hx 50 (hb hby at_43) ((if0 _ _).trans (teq hc29).1) (by decide) (by decide) ?_
        refine o_iconst (pc := 50) X0 hx (0 : Int32) (hb hby at_50) rfl ?_
        refine o_istore (l' := #[.val (.int p1), .val (.int p2), .val (.int ((p1 &&& (2147483647 : Int32)) % (5 : Int32))), .val (.int ((p2 &&& (2147483647 : Int32)) % (5 : Int32))), .val (.int (30 : Int32)), .val (.int (0 : Int32))]) (pc := 51) X0 hx (hb hby at_51) rfl ?_
        refine o_iloadN (v := ((p1 &&& (2147483647 : Int32)) % (5 : Int32))) (pc := 53) X0 hx (hb hby at_53) rfl ?_
        refine o_callS (pc := 54) X0 hx hZ (y := (⟨"com/example/handvisor/handvisor/KindHoldsPinLaw", "kindOf", "(I)Lcom/example/handvisor/handvisor/ProvisioningElement$Kind;"⟩ : MethodName)) (argsL := [(.int ((p1 &&& (2147483647 : Int32)) % (5 : Int32)))]) (rest := []) hown (hw _ (List.mem_of_getElem? (i := 1) rfl)) (hw _ (List.mem_of_getElem? (i := 2) rfl)) (hw _ (List.mem_of_getElem? (i := 3) rfl)) (hw _ (List.mem_of_getElem? (i := 4) rfl)) (by decide) (rm1 l Z a0 hw [] ((p1 &&& (2147483647 : Int32)) % (5 : Int32)) w_DOCUMENT w_CHARACTERISTIC w_PARM w_PARM_QUERY w_CHARACTERISTIC_QUERY h0 n0 O0 S_DOCUMENT S_CHARACTERISTIC S_PARM S_PARM_QUERY S_CHARACTERISTIC_QUERY) e0 (by rw [hml]; rfl) (lenOf o_pd1 rfl) (has := rfl) (hst := rfl) (W := 0) (Nat.le_of_ble_eq_true rfl) (hb hby at_54) (by decide) (by decide) (by decide) (by decide) fun v30 T30 h30 L30 X30 e30 q30 => ?_
        obtain ⟨rfl, N30q, rfl⟩ := q30
        have N30 := Fr.app N0 N30q
        show Go p e below T30 (mkF m 57 #[.val (.int p1), .val (.int p2), .val (.int ((p1 &&& (2147483647 : Int32)) % (5 : Int32))), .val (.int ((p2 &&& (2147483647 : Int32)) % (5 : Int32))), .val (.int (30 : Int32)), .val (.int (0 : Int32))] [(.ref (K ((p1 &&& (2147483647 : Int32)) % (5 : Int32)) w_DOCUMENT w_CHARACTERISTIC w_PARM w_PARM_QUERY w_CHARACTERISTIC_QUERY))]) _
        refine o_iloadN (v := ((p2 &&& (2147483647 : Int32)) % (5 : Int32))) (pc := 57) X30 hx (hb hby at_57) rfl ?_
        refine o_callS (pc := 58) X30 hx hZ (y := (⟨"com/example/handvisor/handvisor/KindHoldsPinLaw", "kindOf", "(I)Lcom/example/handvisor/handvisor/ProvisioningElement$Kind;"⟩ : MethodName)) (argsL := [(.int ((p2 &&& (2147483647 : Int32)) % (5 : Int32)))]) (rest := [(.ref (K ((p1 &&& (2147483647 : Int32)) % (5 : Int32)) w_DOCUMENT w_CHARACTERISTIC w_PARM w_PARM_QUERY w_CHARACTERISTIC_QUERY))]) hown (hw _ (List.mem_of_getElem? (i := 1) rfl)) (hw _ (List.mem_of_getElem? (i := 2) rfl)) (hw _ (List.mem_of_getElem? (i := 3) rfl)) (hw _ (List.mem_of_getElem? (i := 4) rfl)) (by decide) (rm1 l Z a0 hw [] ((p2 &&& (2147483647 : Int32)) % (5 : Int32)) w_DOCUMENT w_CHARACTERISTIC w_PARM w_PARM_QUERY w_CHARACTERISTIC_QUERY h0 n0 O0 S_DOCUMENT S_CHARACTERISTIC S_PARM S_PARM_QUERY S_CHARACTERISTIC_QUERY) e30 (by rw [hml]; rfl) (lenOf o_pd1 rfl) (has := rfl) (hst := rfl) (W := 1) (Nat.le_of_ble_eq_true rfl) (hb hby at_58) (by decide) (by decide) (by decide) (by decide) fun v31 T31 h31 L31 X31 e31 q31 => ?_
        obtain ⟨rfl, N31q, rfl⟩ := q31
        have N31 := Fr.app N30 N31q
        show Go p e below T31 (mkF m 61 #[.val (.int p1), .val (.int p2), .val (.int ((p1 &&& (2147483647 : Int32)) % (5 : Int32))), .val (.int ((p2 &&& (2147483647 : Int32)) % (5 : Int32))), .val (.int (30 : Int32)), .val (.int (0 : Int32))] [(.ref (K ((p2 &&& (2147483647 : Int32)) % (5 : Int32)) w_DOCUMENT w_CHARACTERISTIC w_PARM w_PARM_QUERY w_CHARACTERISTIC_QUERY)), (.ref (K ((p1 &&& (2147483647 : Int32)) % (5 : Int32)) w_DOCUMENT w_CHARACTERISTIC w_PARM w_PARM_QUERY w_CHARACTERISTIC_QUERY))]) _
        refine o_callV (pc := 61) X31 hx hZ (y := (⟨"com/example/handvisor/handvisor/ProvisioningElement$Kind", "holds", "(Lcom/example/handvisor/handvisor/ProvisioningElement$Kind;)Z"⟩ : MethodName)) (z := (⟨"com/example/handvisor/handvisor/ProvisioningElement$Kind", "holds", "(Lcom/example/handvisor/handvisor/ProvisioningElement$Kind;)Z"⟩ : MethodName)) (C := "com/example/handvisor/handvisor/ProvisioningElement$Kind") (a := (K ((p1 &&& (2147483647 : Int32)) % (5 : Int32)) w_DOCUMENT w_CHARACTERISTIC w_PARM w_PARM_QUERY w_CHARACTERISTIC_QUERY)) (argsL := [(.ref (K ((p2 &&& (2147483647 : Int32)) % (5 : Int32)) w_DOCUMENT w_CHARACTERISTIC w_PARM w_PARM_QUERY w_CHARACTERISTIC_QUERY))]) (rest := []) hown (hw _ (List.mem_of_getElem? (i := 10) rfl)) (hw _ (List.mem_of_getElem? (i := 11) rfl)) (notFace_of_selects (args := #[]) (mvT hZ (hw _ (List.mem_of_getElem? (i := 13) rfl)))) (hw _ (List.mem_of_getElem? (i := 13) rfl)) (hw _ (List.mem_of_getElem? (i := 12) rfl)) (hw _ (List.mem_of_getElem? (i := 6) rfl)) (hw _ (List.mem_of_getElem? (i := 14) rfl)) (by decide) (rm2 l Z a0 hw [] (K ((p1 &&& (2147483647 : Int32)) % (5 : Int32)) w_DOCUMENT w_CHARACTERISTIC w_PARM w_PARM_QUERY w_CHARACTERISTIC_QUERY) (K ((p2 &&& (2147483647 : Int32)) % (5 : Int32)) w_DOCUMENT w_CHARACTERISTIC w_PARM w_PARM_QUERY w_CHARACTERISTIC_QUERY) ((p1 &&& (2147483647 : Int32)) % (5 : Int32)) w_DOCUMENT w_CHARACTERISTIC w_PARM w_PARM_QUERY w_CHARACTERISTIC_QUERY h0 n0 O0 S_DOCUMENT S_CHARACTERISTIC S_PARM S_PARM_QUERY S_CHARACTERISTIC_QUERY (kexa (c := ((p1 &&& (2147483647 : Int32)) % (5 : Int32))) E_DOCUMENT E_CHARACTERISTIC E_PARM E_PARM_QUERY E_CHARACTERISTIC_QUERY) (kfld (rem5 p1) F_DOCUMENT_ordinal F_CHARACTERISTIC_ordinal F_PARM_ordinal F_PARM_QUERY_ordinal F_CHARACTERISTIC_QUERY_ordinal)) e31 ((kexa (c := ((p1 &&& (2147483647 : Int32)) % (5 : Int32))) E_DOCUMENT E_CHARACTERISTIC E_PARM E_PARM_QUERY E_CHARACTERISTIC_QUERY).ext O0.2) (by rw [hml]; rfl) (lenOf o_pd2 rfl) (has := rfl) (hst := rfl) (W := 0) (Nat.le_of_ble_eq_true rfl) (hb hby at_61) (by decide) (by decide) (by decide) (by decide) fun v32 T32 h32 L32 X32 e32 q32 => ?_
        obtain ⟨rfl, N32q, rfl⟩ := q32
        have N32 := Fr.app N31 N32q
        show Go p e below T32 (mkF m 64 #[.val (.int p1), .val (.int p2), .val (.int ((p1 &&& (2147483647 : Int32)) % (5 : Int32))), .val (.int ((p2 &&& (2147483647 : Int32)) % (5 : Int32))), .val (.int (30 : Int32)), .val (.int (0 : Int32))] [(.int (H ((p1 &&& (2147483647 : Int32)) % (5 : Int32)) (K ((p2 &&& (2147483647 : Int32)) % (5 : Int32)) w_DOCUMENT w_CHARACTERISTIC w_PARM w_PARM_QUERY w_CHARACTERISTIC_QUERY) w_DOCUMENT w_CHARACTERISTIC w_CHARACTERISTIC_QUERY))]) _
        refine o_iload (v := (0 : Int32)) (pc := 64) X32 hx (hb hby at_64) rfl ?_
        refine o_icmpNo (pc := 66) X32 hx (hb hby at_66) (teq (by first | (rw [table (rem5 p1) (rem5 p2) n_DOCUMENT_CHARACTERISTIC n_DOCUMENT_PARM n_DOCUMENT_PARM_QUERY n_DOCUMENT_CHARACTERISTIC_QUERY n_CHARACTERISTIC_PARM n_CHARACTERISTIC_PARM_QUERY n_CHARACTERISTIC_CHARACTERISTIC_QUERY n_PARM_PARM_QUERY n_PARM_CHARACTERISTIC_QUERY n_PARM_QUERY_CHARACTERISTIC_QUERY]; simp [Row, hc20, hc28, hc29]; done) | exact absurd (by simp) hc20 | exact absurd (by simp) hc28 | exact absurd (by simp) hc29 : (H ((p1 &&& (2147483647 : Int32)) % (5 : Int32)) (K ((p2 &&& (2147483647 : Int32)) % (5 : Int32)) w_DOCUMENT w_CHARACTERISTIC w_PARM w_PARM_QUERY w_CHARACTERISTIC_QUERY) w_DOCUMENT w_CHARACTERISTIC w_CHARACTERISTIC_QUERY) = (0 : Int32))).2 ?_
        refine o_iconst (pc := 69) X32 hx (1 : Int32) (hb hby at_69) rfl ?_
        refine o_goto (pc := 70) X32 hx 74 (hb hby at_70) (by decide) (by decide) ?_
        exact o_retN (pc := 74) X32 hx .boolean hret hlk (by simp) (hb hby at_74) e32 (by decide) (by decide) ⟨rfl, N32⟩
      · skip
        refine o_ifNo (pc := 43) X0 hx (hb hby at_43) ((if0 _ _).trans (feq hc29).1) ?_
        refine o_iconst (pc := 46) X0 hx (1 : Int32) (hb hby at_46) rfl ?_
        refine o_goto (pc := 47) X0 hx 51 (hb hby at_47) (by decide) (by decide) ?_
        refine o_istore (l' := #[.val (.int p1), .val (.int p2), .val (.int ((p1 &&& (2147483647 : Int32)) % (5 : Int32))), .val (.int ((p2 &&& (2147483647 : Int32)) % (5 : Int32))), .val (.int (30 : Int32)), .val (.int (1 : Int32))]) (pc := 51) X0 hx (hb hby at_51) rfl ?_
        refine o_iloadN (v := ((p1 &&& (2147483647 : Int32)) % (5 : Int32))) (pc := 53) X0 hx (hb hby at_53) rfl ?_
        refine o_callS (pc := 54) X0 hx hZ (y := (⟨"com/example/handvisor/handvisor/KindHoldsPinLaw", "kindOf", "(I)Lcom/example/handvisor/handvisor/ProvisioningElement$Kind;"⟩ : MethodName)) (argsL := [(.int ((p1 &&& (2147483647 : Int32)) % (5 : Int32)))]) (rest := []) hown (hw _ (List.mem_of_getElem? (i := 1) rfl)) (hw _ (List.mem_of_getElem? (i := 2) rfl)) (hw _ (List.mem_of_getElem? (i := 3) rfl)) (hw _ (List.mem_of_getElem? (i := 4) rfl)) (by decide) (rm1 l Z a0 hw [] ((p1 &&& (2147483647 : Int32)) % (5 : Int32)) w_DOCUMENT w_CHARACTERISTIC w_PARM w_PARM_QUERY w_CHARACTERISTIC_QUERY h0 n0 O0 S_DOCUMENT S_CHARACTERISTIC S_PARM S_PARM_QUERY S_CHARACTERISTIC_QUERY) e0 (by rw [hml]; rfl) (lenOf o_pd1 rfl) (has := rfl) (hst := rfl) (W := 0) (Nat.le_of_ble_eq_true rfl) (hb hby at_54) (by decide) (by decide) (by decide) (by decide) fun v33 T33 h33 L33 X33 e33 q33 => ?_
        obtain ⟨rfl, N33q, rfl⟩ := q33
        have N33 := Fr.app N0 N33q
        show Go p e below T33 (mkF m 57 #[.val (.int p1), .val (.int p2), .val (.int ((p1 &&& (2147483647 : Int32)) % (5 : Int32))), .val (.int ((p2 &&& (2147483647 : Int32)) % (5 : Int32))), .val (.int (30 : Int32)), .val (.int (1 : Int32))] [(.ref (K ((p1 &&& (2147483647 : Int32)) % (5 : Int32)) w_DOCUMENT w_CHARACTERISTIC w_PARM w_PARM_QUERY w_CHARACTERISTIC_QUERY))]) _
        refine o_iloadN (v := ((p2 &&& (2147483647 : Int32)) % (5 : Int32))) (pc := 57) X33 hx (hb hby at_57) rfl ?_
        refine o_callS (pc := 58) X33 hx hZ (y := (⟨"com/example/handvisor/handvisor/KindHoldsPinLaw", "kindOf", "(I)Lcom/example/handvisor/handvisor/ProvisioningElement$Kind;"⟩ : MethodName)) (argsL := [(.int ((p2 &&& (2147483647 : Int32)) % (5 : Int32)))]) (rest := [(.ref (K ((p1 &&& (2147483647 : Int32)) % (5 : Int32)) w_DOCUMENT w_CHARACTERISTIC w_PARM w_PARM_QUERY w_CHARACTERISTIC_QUERY))]) hown (hw _ (List.mem_of_getElem? (i := 1) rfl)) (hw _ (List.mem_of_getElem? (i := 2) rfl)) (hw _ (List.mem_of_getElem? (i := 3) rfl)) (hw _ (List.mem_of_getElem? (i := 4) rfl)) (by decide) (rm1 l Z a0 hw [] ((p2 &&& (2147483647 : Int32)) % (5 : Int32)) w_DOCUMENT w_CHARACTERISTIC w_PARM w_PARM_QUERY w_CHARACTERISTIC_QUERY h0 n0 O0 S_DOCUMENT S_CHARACTERISTIC S_PARM S_PARM_QUERY S_CHARACTERISTIC_QUERY) e33 (by rw [hml]; rfl) (lenOf o_pd1 rfl) (has := rfl) (hst := rfl) (W := 1) (Nat.le_of_ble_eq_true rfl) (hb hby at_58) (by decide) (by decide) (by decide) (by decide) fun v34 T34 h34 L34 X34 e34 q34 => ?_
        obtain ⟨rfl, N34q, rfl⟩ := q34
        have N34 := Fr.app N33 N34q
        show Go p e below T34 (mkF m 61 #[.val (.int p1), .val (.int p2), .val (.int ((p1 &&& (2147483647 : Int32)) % (5 : Int32))), .val (.int ((p2 &&& (2147483647 : Int32)) % (5 : Int32))), .val (.int (30 : Int32)), .val (.int (1 : Int32))] [(.ref (K ((p2 &&& (2147483647 : Int32)) % (5 : Int32)) w_DOCUMENT w_CHARACTERISTIC w_PARM w_PARM_QUERY w_CHARACTERISTIC_QUERY)), (.ref (K ((p1 &&& (2147483647 : Int32)) % (5 : Int32)) w_DOCUMENT w_CHARACTERISTIC w_PARM w_PARM_QUERY w_CHARACTERISTIC_QUERY))]) _
        refine o_callV (pc := 61) X34 hx hZ (y := (⟨"com/example/handvisor/handvisor/ProvisioningElement$Kind", "holds", "(Lcom/example/handvisor/handvisor/ProvisioningElement$Kind;)Z"⟩ : MethodName)) (z := (⟨"com/example/handvisor/handvisor/ProvisioningElement$Kind", "holds", "(Lcom/example/handvisor/handvisor/ProvisioningElement$Kind;)Z"⟩ : MethodName)) (C := "com/example/handvisor/handvisor/ProvisioningElement$Kind") (a := (K ((p1 &&& (2147483647 : Int32)) % (5 : Int32)) w_DOCUMENT w_CHARACTERISTIC w_PARM w_PARM_QUERY w_CHARACTERISTIC_QUERY)) (argsL := [(.ref (K ((p2 &&& (2147483647 : Int32)) % (5 : Int32)) w_DOCUMENT w_CHARACTERISTIC w_PARM w_PARM_QUERY w_CHARACTERISTIC_QUERY))]) (rest := []) hown (hw _ (List.mem_of_getElem? (i := 10) rfl)) (hw _ (List.mem_of_getElem? (i := 11) rfl)) (notFace_of_selects (args := #[]) (mvT hZ (hw _ (List.mem_of_getElem? (i := 13) rfl)))) (hw _ (List.mem_of_getElem? (i := 13) rfl)) (hw _ (List.mem_of_getElem? (i := 12) rfl)) (hw _ (List.mem_of_getElem? (i := 6) rfl)) (hw _ (List.mem_of_getElem? (i := 14) rfl)) (by decide) (rm2 l Z a0 hw [] (K ((p1 &&& (2147483647 : Int32)) % (5 : Int32)) w_DOCUMENT w_CHARACTERISTIC w_PARM w_PARM_QUERY w_CHARACTERISTIC_QUERY) (K ((p2 &&& (2147483647 : Int32)) % (5 : Int32)) w_DOCUMENT w_CHARACTERISTIC w_PARM w_PARM_QUERY w_CHARACTERISTIC_QUERY) ((p1 &&& (2147483647 : Int32)) % (5 : Int32)) w_DOCUMENT w_CHARACTERISTIC w_PARM w_PARM_QUERY w_CHARACTERISTIC_QUERY h0 n0 O0 S_DOCUMENT S_CHARACTERISTIC S_PARM S_PARM_QUERY S_CHARACTERISTIC_QUERY (kexa (c := ((p1 &&& (2147483647 : Int32)) % (5 : Int32))) E_DOCUMENT E_CHARACTERISTIC E_PARM E_PARM_QUERY E_CHARACTERISTIC_QUERY) (kfld (rem5 p1) F_DOCUMENT_ordinal F_CHARACTERISTIC_ordinal F_PARM_ordinal F_PARM_QUERY_ordinal F_CHARACTERISTIC_QUERY_ordinal)) e34 ((kexa (c := ((p1 &&& (2147483647 : Int32)) % (5 : Int32))) E_DOCUMENT E_CHARACTERISTIC E_PARM E_PARM_QUERY E_CHARACTERISTIC_QUERY).ext O0.2) (by rw [hml]; rfl) (lenOf o_pd2 rfl) (has := rfl) (hst := rfl) (W := 0) (Nat.le_of_ble_eq_true rfl) (hb hby at_61) (by decide) (by decide) (by decide) (by decide) fun v35 T35 h35 L35 X35 e35 q35 => ?_
        obtain ⟨rfl, N35q, rfl⟩ := q35
        have N35 := Fr.app N34 N35q
        show Go p e below T35 (mkF m 64 #[.val (.int p1), .val (.int p2), .val (.int ((p1 &&& (2147483647 : Int32)) % (5 : Int32))), .val (.int ((p2 &&& (2147483647 : Int32)) % (5 : Int32))), .val (.int (30 : Int32)), .val (.int (1 : Int32))] [(.int (H ((p1 &&& (2147483647 : Int32)) % (5 : Int32)) (K ((p2 &&& (2147483647 : Int32)) % (5 : Int32)) w_DOCUMENT w_CHARACTERISTIC w_PARM w_PARM_QUERY w_CHARACTERISTIC_QUERY) w_DOCUMENT w_CHARACTERISTIC w_CHARACTERISTIC_QUERY))]) _
        refine o_iload (v := (1 : Int32)) (pc := 64) X35 hx (hb hby at_64) rfl ?_
        refine o_icmpNo (pc := 66) X35 hx (hb hby at_66) (teq (by first | (rw [table (rem5 p1) (rem5 p2) n_DOCUMENT_CHARACTERISTIC n_DOCUMENT_PARM n_DOCUMENT_PARM_QUERY n_DOCUMENT_CHARACTERISTIC_QUERY n_CHARACTERISTIC_PARM n_CHARACTERISTIC_PARM_QUERY n_CHARACTERISTIC_CHARACTERISTIC_QUERY n_PARM_PARM_QUERY n_PARM_CHARACTERISTIC_QUERY n_PARM_QUERY_CHARACTERISTIC_QUERY]; simp [Row, hc20, hc28, hc29]; done) | exact absurd (by simp) hc20 | exact absurd (by simp) hc28 | exact absurd (by simp) hc29 : (H ((p1 &&& (2147483647 : Int32)) % (5 : Int32)) (K ((p2 &&& (2147483647 : Int32)) % (5 : Int32)) w_DOCUMENT w_CHARACTERISTIC w_PARM w_PARM_QUERY w_CHARACTERISTIC_QUERY) w_DOCUMENT w_CHARACTERISTIC w_CHARACTERISTIC_QUERY) = (1 : Int32))).2 ?_
        refine o_iconst (pc := 69) X35 hx (1 : Int32) (hb hby at_69) rfl ?_
        refine o_goto (pc := 70) X35 hx 74 (hb hby at_70) (by decide) (by decide) ?_
        exact o_retN (pc := 74) X35 hx .boolean hret hlk (by simp) (hb hby at_74) e35 (by decide) (by decide) ⟨rfl, N35⟩
    · skip
      refine o_icmpYes (pc := 30) X0 hx 37 (hb hby at_30) (feq hc28).2 (by decide) (by decide) ?_
      refine o_iload (v := (0 : Int32)) (pc := 37) X0 hx (hb hby at_37) rfl ?_
      refine o_iloadN (v := ((p2 &&& (2147483647 : Int32)) % (5 : Int32))) (pc := 39) X0 hx (hb hby at_39) rfl ?_
      refine o_ishr (pc := 40) X0 hx (hb hby at_40) ?_
      refine o_iconst (pc := 41) X0 hx (1 : Int32) (hb hby at_41) rfl ?_
      refine o_iand (pc := 42) X0 hx (hb hby at_42) ?_
      by_cases hc36 : (((0 : Int32) >>> (((p2 &&& (2147483647 : Int32)) % (5 : Int32)) &&& 31)) &&& (1 : Int32)) = (0 : Int32)
      · skip
        refine o_ifYes (pc := 43) X0 hx 50 (hb hby at_43) ((if0 _ _).trans (teq hc36).1) (by decide) (by decide) ?_
        refine o_iconst (pc := 50) X0 hx (0 : Int32) (hb hby at_50) rfl ?_
        refine o_istore (l' := #[.val (.int p1), .val (.int p2), .val (.int ((p1 &&& (2147483647 : Int32)) % (5 : Int32))), .val (.int ((p2 &&& (2147483647 : Int32)) % (5 : Int32))), .val (.int (0 : Int32)), .val (.int (0 : Int32))]) (pc := 51) X0 hx (hb hby at_51) rfl ?_
        refine o_iloadN (v := ((p1 &&& (2147483647 : Int32)) % (5 : Int32))) (pc := 53) X0 hx (hb hby at_53) rfl ?_
        refine o_callS (pc := 54) X0 hx hZ (y := (⟨"com/example/handvisor/handvisor/KindHoldsPinLaw", "kindOf", "(I)Lcom/example/handvisor/handvisor/ProvisioningElement$Kind;"⟩ : MethodName)) (argsL := [(.int ((p1 &&& (2147483647 : Int32)) % (5 : Int32)))]) (rest := []) hown (hw _ (List.mem_of_getElem? (i := 1) rfl)) (hw _ (List.mem_of_getElem? (i := 2) rfl)) (hw _ (List.mem_of_getElem? (i := 3) rfl)) (hw _ (List.mem_of_getElem? (i := 4) rfl)) (by decide) (rm1 l Z a0 hw [] ((p1 &&& (2147483647 : Int32)) % (5 : Int32)) w_DOCUMENT w_CHARACTERISTIC w_PARM w_PARM_QUERY w_CHARACTERISTIC_QUERY h0 n0 O0 S_DOCUMENT S_CHARACTERISTIC S_PARM S_PARM_QUERY S_CHARACTERISTIC_QUERY) e0 (by rw [hml]; rfl) (lenOf o_pd1 rfl) (has := rfl) (hst := rfl) (W := 0) (Nat.le_of_ble_eq_true rfl) (hb hby at_54) (by decide) (by decide) (by decide) (by decide) fun v37 T37 h37 L37 X37 e37 q37 => ?_
        obtain ⟨rfl, N37q, rfl⟩ := q37
        have N37 := Fr.app N0 N37q
        show Go p e below T37 (mkF m 57 #[.val (.int p1), .val (.int p2), .val (.int ((p1 &&& (2147483647 : Int32)) % (5 : Int32))), .val (.int ((p2 &&& (2147483647 : Int32)) % (5 : Int32))), .val (.int (0 : Int32)), .val (.int (0 : Int32))] [(.ref (K ((p1 &&& (2147483647 : Int32)) % (5 : Int32)) w_DOCUMENT w_CHARACTERISTIC w_PARM w_PARM_QUERY w_CHARACTERISTIC_QUERY))]) _
        refine o_iloadN (v := ((p2 &&& (2147483647 : Int32)) % (5 : Int32))) (pc := 57) X37 hx (hb hby at_57) rfl ?_
        refine o_callS (pc := 58) X37 hx hZ (y := (⟨"com/example/handvisor/handvisor/KindHoldsPinLaw", "kindOf", "(I)Lcom/example/handvisor/handvisor/ProvisioningElement$Kind;"⟩ : MethodName)) (argsL := [(.int ((p2 &&& (2147483647 : Int32)) % (5 : Int32)))]) (rest := [(.ref (K ((p1 &&& (2147483647 : Int32)) % (5 : Int32)) w_DOCUMENT w_CHARACTERISTIC w_PARM w_PARM_QUERY w_CHARACTERISTIC_QUERY))]) hown (hw _ (List.mem_of_getElem? (i := 1) rfl)) (hw _ (List.mem_of_getElem? (i := 2) rfl)) (hw _ (List.mem_of_getElem? (i := 3) rfl)) (hw _ (List.mem_of_getElem? (i := 4) rfl)) (by decide) (rm1 l Z a0 hw [] ((p2 &&& (2147483647 : Int32)) % (5 : Int32)) w_DOCUMENT w_CHARACTERISTIC w_PARM w_PARM_QUERY w_CHARACTERISTIC_QUERY h0 n0 O0 S_DOCUMENT S_CHARACTERISTIC S_PARM S_PARM_QUERY S_CHARACTERISTIC_QUERY) e37 (by rw [hml]; rfl) (lenOf o_pd1 rfl) (has := rfl) (hst := rfl) (W := 1) (Nat.le_of_ble_eq_true rfl) (hb hby at_58) (by decide) (by decide) (by decide) (by decide) fun v38 T38 h38 L38 X38 e38 q38 => ?_
        obtain ⟨rfl, N38q, rfl⟩ := q38
        have N38 := Fr.app N37 N38q
        show Go p e below T38 (mkF m 61 #[.val (.int p1), .val (.int p2), .val (.int ((p1 &&& (2147483647 : Int32)) % (5 : Int32))), .val (.int ((p2 &&& (2147483647 : Int32)) % (5 : Int32))), .val (.int (0 : Int32)), .val (.int (0 : Int32))] [(.ref (K ((p2 &&& (2147483647 : Int32)) % (5 : Int32)) w_DOCUMENT w_CHARACTERISTIC w_PARM w_PARM_QUERY w_CHARACTERISTIC_QUERY)), (.ref (K ((p1 &&& (2147483647 : Int32)) % (5 : Int32)) w_DOCUMENT w_CHARACTERISTIC w_PARM w_PARM_QUERY w_CHARACTERISTIC_QUERY))]) _
        refine o_callV (pc := 61) X38 hx hZ (y := (⟨"com/example/handvisor/handvisor/ProvisioningElement$Kind", "holds", "(Lcom/example/handvisor/handvisor/ProvisioningElement$Kind;)Z"⟩ : MethodName)) (z := (⟨"com/example/handvisor/handvisor/ProvisioningElement$Kind", "holds", "(Lcom/example/handvisor/handvisor/ProvisioningElement$Kind;)Z"⟩ : MethodName)) (C := "com/example/handvisor/handvisor/ProvisioningElement$Kind") (a := (K ((p1 &&& (2147483647 : Int32)) % (5 : Int32)) w_DOCUMENT w_CHARACTERISTIC w_PARM w_PARM_QUERY w_CHARACTERISTIC_QUERY)) (argsL := [(.ref (K ((p2 &&& (2147483647 : Int32)) % (5 : Int32)) w_DOCUMENT w_CHARACTERISTIC w_PARM w_PARM_QUERY w_CHARACTERISTIC_QUERY))]) (rest := []) hown (hw _ (List.mem_of_getElem? (i := 10) rfl)) (hw _ (List.mem_of_getElem? (i := 11) rfl)) (notFace_of_selects (args := #[]) (mvT hZ (hw _ (List.mem_of_getElem? (i := 13) rfl)))) (hw _ (List.mem_of_getElem? (i := 13) rfl)) (hw _ (List.mem_of_getElem? (i := 12) rfl)) (hw _ (List.mem_of_getElem? (i := 6) rfl)) (hw _ (List.mem_of_getElem? (i := 14) rfl)) (by decide) (rm2 l Z a0 hw [] (K ((p1 &&& (2147483647 : Int32)) % (5 : Int32)) w_DOCUMENT w_CHARACTERISTIC w_PARM w_PARM_QUERY w_CHARACTERISTIC_QUERY) (K ((p2 &&& (2147483647 : Int32)) % (5 : Int32)) w_DOCUMENT w_CHARACTERISTIC w_PARM w_PARM_QUERY w_CHARACTERISTIC_QUERY) ((p1 &&& (2147483647 : Int32)) % (5 : Int32)) w_DOCUMENT w_CHARACTERISTIC w_PARM w_PARM_QUERY w_CHARACTERISTIC_QUERY h0 n0 O0 S_DOCUMENT S_CHARACTERISTIC S_PARM S_PARM_QUERY S_CHARACTERISTIC_QUERY (kexa (c := ((p1 &&& (2147483647 : Int32)) % (5 : Int32))) E_DOCUMENT E_CHARACTERISTIC E_PARM E_PARM_QUERY E_CHARACTERISTIC_QUERY) (kfld (rem5 p1) F_DOCUMENT_ordinal F_CHARACTERISTIC_ordinal F_PARM_ordinal F_PARM_QUERY_ordinal F_CHARACTERISTIC_QUERY_ordinal)) e38 ((kexa (c := ((p1 &&& (2147483647 : Int32)) % (5 : Int32))) E_DOCUMENT E_CHARACTERISTIC E_PARM E_PARM_QUERY E_CHARACTERISTIC_QUERY).ext O0.2) (by rw [hml]; rfl) (lenOf o_pd2 rfl) (has := rfl) (hst := rfl) (W := 0) (Nat.le_of_ble_eq_true rfl) (hb hby at_61) (by decide) (by decide) (by decide) (by decide) fun v39 T39 h39 L39 X39 e39 q39 => ?_
        obtain ⟨rfl, N39q, rfl⟩ := q39
        have N39 := Fr.app N38 N39q
        show Go p e below T39 (mkF m 64 #[.val (.int p1), .val (.int p2), .val (.int ((p1 &&& (2147483647 : Int32)) % (5 : Int32))), .val (.int ((p2 &&& (2147483647 : Int32)) % (5 : Int32))), .val (.int (0 : Int32)), .val (.int (0 : Int32))] [(.int (H ((p1 &&& (2147483647 : Int32)) % (5 : Int32)) (K ((p2 &&& (2147483647 : Int32)) % (5 : Int32)) w_DOCUMENT w_CHARACTERISTIC w_PARM w_PARM_QUERY w_CHARACTERISTIC_QUERY) w_DOCUMENT w_CHARACTERISTIC w_CHARACTERISTIC_QUERY))]) _
        refine o_iload (v := (0 : Int32)) (pc := 64) X39 hx (hb hby at_64) rfl ?_
        refine o_icmpNo (pc := 66) X39 hx (hb hby at_66) (teq (by first | (rw [table (rem5 p1) (rem5 p2) n_DOCUMENT_CHARACTERISTIC n_DOCUMENT_PARM n_DOCUMENT_PARM_QUERY n_DOCUMENT_CHARACTERISTIC_QUERY n_CHARACTERISTIC_PARM n_CHARACTERISTIC_PARM_QUERY n_CHARACTERISTIC_CHARACTERISTIC_QUERY n_PARM_PARM_QUERY n_PARM_CHARACTERISTIC_QUERY n_PARM_QUERY_CHARACTERISTIC_QUERY]; simp [Row, hc20, hc28, hc36]; done) | exact absurd (by simp) hc20 | exact absurd (by simp) hc28 | exact absurd (by simp) hc36 : (H ((p1 &&& (2147483647 : Int32)) % (5 : Int32)) (K ((p2 &&& (2147483647 : Int32)) % (5 : Int32)) w_DOCUMENT w_CHARACTERISTIC w_PARM w_PARM_QUERY w_CHARACTERISTIC_QUERY) w_DOCUMENT w_CHARACTERISTIC w_CHARACTERISTIC_QUERY) = (0 : Int32))).2 ?_
        refine o_iconst (pc := 69) X39 hx (1 : Int32) (hb hby at_69) rfl ?_
        refine o_goto (pc := 70) X39 hx 74 (hb hby at_70) (by decide) (by decide) ?_
        exact o_retN (pc := 74) X39 hx .boolean hret hlk (by simp) (hb hby at_74) e39 (by decide) (by decide) ⟨rfl, N39⟩
      · skip
        refine o_ifNo (pc := 43) X0 hx (hb hby at_43) ((if0 _ _).trans (feq hc36).1) ?_
        refine o_iconst (pc := 46) X0 hx (1 : Int32) (hb hby at_46) rfl ?_
        refine o_goto (pc := 47) X0 hx 51 (hb hby at_47) (by decide) (by decide) ?_
        refine o_istore (l' := #[.val (.int p1), .val (.int p2), .val (.int ((p1 &&& (2147483647 : Int32)) % (5 : Int32))), .val (.int ((p2 &&& (2147483647 : Int32)) % (5 : Int32))), .val (.int (0 : Int32)), .val (.int (1 : Int32))]) (pc := 51) X0 hx (hb hby at_51) rfl ?_
        refine o_iloadN (v := ((p1 &&& (2147483647 : Int32)) % (5 : Int32))) (pc := 53) X0 hx (hb hby at_53) rfl ?_
        refine o_callS (pc := 54) X0 hx hZ (y := (⟨"com/example/handvisor/handvisor/KindHoldsPinLaw", "kindOf", "(I)Lcom/example/handvisor/handvisor/ProvisioningElement$Kind;"⟩ : MethodName)) (argsL := [(.int ((p1 &&& (2147483647 : Int32)) % (5 : Int32)))]) (rest := []) hown (hw _ (List.mem_of_getElem? (i := 1) rfl)) (hw _ (List.mem_of_getElem? (i := 2) rfl)) (hw _ (List.mem_of_getElem? (i := 3) rfl)) (hw _ (List.mem_of_getElem? (i := 4) rfl)) (by decide) (rm1 l Z a0 hw [] ((p1 &&& (2147483647 : Int32)) % (5 : Int32)) w_DOCUMENT w_CHARACTERISTIC w_PARM w_PARM_QUERY w_CHARACTERISTIC_QUERY h0 n0 O0 S_DOCUMENT S_CHARACTERISTIC S_PARM S_PARM_QUERY S_CHARACTERISTIC_QUERY) e0 (by rw [hml]; rfl) (lenOf o_pd1 rfl) (has := rfl) (hst := rfl) (W := 0) (Nat.le_of_ble_eq_true rfl) (hb hby at_54) (by decide) (by decide) (by decide) (by decide) fun v40 T40 h40 L40 X40 e40 q40 => ?_
        obtain ⟨rfl, N40q, rfl⟩ := q40
        have N40 := Fr.app N0 N40q
        show Go p e below T40 (mkF m 57 #[.val (.int p1), .val (.int p2), .val (.int ((p1 &&& (2147483647 : Int32)) % (5 : Int32))), .val (.int ((p2 &&& (2147483647 : Int32)) % (5 : Int32))), .val (.int (0 : Int32)), .val (.int (1 : Int32))] [(.ref (K ((p1 &&& (2147483647 : Int32)) % (5 : Int32)) w_DOCUMENT w_CHARACTERISTIC w_PARM w_PARM_QUERY w_CHARACTERISTIC_QUERY))]) _
        refine o_iloadN (v := ((p2 &&& (2147483647 : Int32)) % (5 : Int32))) (pc := 57) X40 hx (hb hby at_57) rfl ?_
        refine o_callS (pc := 58) X40 hx hZ (y := (⟨"com/example/handvisor/handvisor/KindHoldsPinLaw", "kindOf", "(I)Lcom/example/handvisor/handvisor/ProvisioningElement$Kind;"⟩ : MethodName)) (argsL := [(.int ((p2 &&& (2147483647 : Int32)) % (5 : Int32)))]) (rest := [(.ref (K ((p1 &&& (2147483647 : Int32)) % (5 : Int32)) w_DOCUMENT w_CHARACTERISTIC w_PARM w_PARM_QUERY w_CHARACTERISTIC_QUERY))]) hown (hw _ (List.mem_of_getElem? (i := 1) rfl)) (hw _ (List.mem_of_getElem? (i := 2) rfl)) (hw _ (List.mem_of_getElem? (i := 3) rfl)) (hw _ (List.mem_of_getElem? (i := 4) rfl)) (by decide) (rm1 l Z a0 hw [] ((p2 &&& (2147483647 : Int32)) % (5 : Int32)) w_DOCUMENT w_CHARACTERISTIC w_PARM w_PARM_QUERY w_CHARACTERISTIC_QUERY h0 n0 O0 S_DOCUMENT S_CHARACTERISTIC S_PARM S_PARM_QUERY S_CHARACTERISTIC_QUERY) e40 (by rw [hml]; rfl) (lenOf o_pd1 rfl) (has := rfl) (hst := rfl) (W := 1) (Nat.le_of_ble_eq_true rfl) (hb hby at_58) (by decide) (by decide) (by decide) (by decide) fun v41 T41 h41 L41 X41 e41 q41 => ?_
        obtain ⟨rfl, N41q, rfl⟩ := q41
        have N41 := Fr.app N40 N41q
        show Go p e below T41 (mkF m 61 #[.val (.int p1), .val (.int p2), .val (.int ((p1 &&& (2147483647 : Int32)) % (5 : Int32))), .val (.int ((p2 &&& (2147483647 : Int32)) % (5 : Int32))), .val (.int (0 : Int32)), .val (.int (1 : Int32))] [(.ref (K ((p2 &&& (2147483647 : Int32)) % (5 : Int32)) w_DOCUMENT w_CHARACTERISTIC w_PARM w_PARM_QUERY w_CHARACTERISTIC_QUERY)), (.ref (K ((p1 &&& (2147483647 : Int32)) % (5 : Int32)) w_DOCUMENT w_CHARACTERISTIC w_PARM w_PARM_QUERY w_CHARACTERISTIC_QUERY))]) _
        refine o_callV (pc := 61) X41 hx hZ (y := (⟨"com/example/handvisor/handvisor/ProvisioningElement$Kind", "holds", "(Lcom/example/handvisor/handvisor/ProvisioningElement$Kind;)Z"⟩ : MethodName)) (z := (⟨"com/example/handvisor/handvisor/ProvisioningElement$Kind", "holds", "(Lcom/example/handvisor/handvisor/ProvisioningElement$Kind;)Z"⟩ : MethodName)) (C := "com/example/handvisor/handvisor/ProvisioningElement$Kind") (a := (K ((p1 &&& (2147483647 : Int32)) % (5 : Int32)) w_DOCUMENT w_CHARACTERISTIC w_PARM w_PARM_QUERY w_CHARACTERISTIC_QUERY)) (argsL := [(.ref (K ((p2 &&& (2147483647 : Int32)) % (5 : Int32)) w_DOCUMENT w_CHARACTERISTIC w_PARM w_PARM_QUERY w_CHARACTERISTIC_QUERY))]) (rest := []) hown (hw _ (List.mem_of_getElem? (i := 10) rfl)) (hw _ (List.mem_of_getElem? (i := 11) rfl)) (notFace_of_selects (args := #[]) (mvT hZ (hw _ (List.mem_of_getElem? (i := 13) rfl)))) (hw _ (List.mem_of_getElem? (i := 13) rfl)) (hw _ (List.mem_of_getElem? (i := 12) rfl)) (hw _ (List.mem_of_getElem? (i := 6) rfl)) (hw _ (List.mem_of_getElem? (i := 14) rfl)) (by decide) (rm2 l Z a0 hw [] (K ((p1 &&& (2147483647 : Int32)) % (5 : Int32)) w_DOCUMENT w_CHARACTERISTIC w_PARM w_PARM_QUERY w_CHARACTERISTIC_QUERY) (K ((p2 &&& (2147483647 : Int32)) % (5 : Int32)) w_DOCUMENT w_CHARACTERISTIC w_PARM w_PARM_QUERY w_CHARACTERISTIC_QUERY) ((p1 &&& (2147483647 : Int32)) % (5 : Int32)) w_DOCUMENT w_CHARACTERISTIC w_PARM w_PARM_QUERY w_CHARACTERISTIC_QUERY h0 n0 O0 S_DOCUMENT S_CHARACTERISTIC S_PARM S_PARM_QUERY S_CHARACTERISTIC_QUERY (kexa (c := ((p1 &&& (2147483647 : Int32)) % (5 : Int32))) E_DOCUMENT E_CHARACTERISTIC E_PARM E_PARM_QUERY E_CHARACTERISTIC_QUERY) (kfld (rem5 p1) F_DOCUMENT_ordinal F_CHARACTERISTIC_ordinal F_PARM_ordinal F_PARM_QUERY_ordinal F_CHARACTERISTIC_QUERY_ordinal)) e41 ((kexa (c := ((p1 &&& (2147483647 : Int32)) % (5 : Int32))) E_DOCUMENT E_CHARACTERISTIC E_PARM E_PARM_QUERY E_CHARACTERISTIC_QUERY).ext O0.2) (by rw [hml]; rfl) (lenOf o_pd2 rfl) (has := rfl) (hst := rfl) (W := 0) (Nat.le_of_ble_eq_true rfl) (hb hby at_61) (by decide) (by decide) (by decide) (by decide) fun v42 T42 h42 L42 X42 e42 q42 => ?_
        obtain ⟨rfl, N42q, rfl⟩ := q42
        have N42 := Fr.app N41 N42q
        show Go p e below T42 (mkF m 64 #[.val (.int p1), .val (.int p2), .val (.int ((p1 &&& (2147483647 : Int32)) % (5 : Int32))), .val (.int ((p2 &&& (2147483647 : Int32)) % (5 : Int32))), .val (.int (0 : Int32)), .val (.int (1 : Int32))] [(.int (H ((p1 &&& (2147483647 : Int32)) % (5 : Int32)) (K ((p2 &&& (2147483647 : Int32)) % (5 : Int32)) w_DOCUMENT w_CHARACTERISTIC w_PARM w_PARM_QUERY w_CHARACTERISTIC_QUERY) w_DOCUMENT w_CHARACTERISTIC w_CHARACTERISTIC_QUERY))]) _
        refine o_iload (v := (1 : Int32)) (pc := 64) X42 hx (hb hby at_64) rfl ?_
        refine o_icmpNo (pc := 66) X42 hx (hb hby at_66) (teq (by first | (rw [table (rem5 p1) (rem5 p2) n_DOCUMENT_CHARACTERISTIC n_DOCUMENT_PARM n_DOCUMENT_PARM_QUERY n_DOCUMENT_CHARACTERISTIC_QUERY n_CHARACTERISTIC_PARM n_CHARACTERISTIC_PARM_QUERY n_CHARACTERISTIC_CHARACTERISTIC_QUERY n_PARM_PARM_QUERY n_PARM_CHARACTERISTIC_QUERY n_PARM_QUERY_CHARACTERISTIC_QUERY]; simp [Row, hc20, hc28, hc36]; done) | exact absurd (by simp) hc20 | exact absurd (by simp) hc28 | exact absurd (by simp) hc36 : (H ((p1 &&& (2147483647 : Int32)) % (5 : Int32)) (K ((p2 &&& (2147483647 : Int32)) % (5 : Int32)) w_DOCUMENT w_CHARACTERISTIC w_PARM w_PARM_QUERY w_CHARACTERISTIC_QUERY) w_DOCUMENT w_CHARACTERISTIC w_CHARACTERISTIC_QUERY) = (1 : Int32))).2 ?_
        refine o_iconst (pc := 69) X42 hx (1 : Int32) (hb hby at_69) rfl ?_
        refine o_goto (pc := 70) X42 hx 74 (hb hby at_70) (by decide) (by decide) ?_
        exact o_retN (pc := 74) X42 hx .boolean hret hlk (by simp) (hb hby at_74) e42 (by decide) (by decide) ⟨rfl, N42⟩
set_option maxRecDepth 65536 in
set_option maxHeartbeats 40000000 in
theorem comes_1 {Post : Tables → Env → Array Value → State → Outcome → State → Prop} (hpost : ∀ tb e args s v u, (limb_1_1.after args s (.returned v) u = true ∧ limb_1_2.after args s (.returned v) u = true ∧ True) → FrameEnd s (.returned v) u (Jvm.fieldLocs frame_1_writes args s ++ Jvm.arrayLocs frame_1_arrays args s ++ Jvm.staticLocs frame_1_statics s) 0 0 → Post tb e args s (.returned v) u) :
    ArmFor flags0 classFile x code maxLocals ret World_1 tables_1 room_1 Calls_1 rest_1 Pre_1 Post := by
  intro l hfl _ _ p e ha hc hk s m args below hf hA hF happ hP
  obtain ⟨hcalls, hrest, hpre⟩ := hP
  obtain ⟨-, -, -, hnamed, -, -, -, hat⟩ := (Spec.applies_iff hf).mp happ
  obtain ⟨hg, hn⟩ := and_e (Cond.before_iff.mp (show (Jvm.Cond.and given_1 narrow_1).before args s = true from hpre))
  obtain ⟨g43, g44⟩ := and_e hg
  obtain ⟨g45, g46⟩ := and_e g44
  obtain ⟨g47, g48⟩ := and_e hn
  obtain ⟨g49, g50⟩ := and_e g48
  obtain ⟨g51, g52⟩ := and_e g50
  obtain ⟨g53, g54⟩ := and_e g52
  obtain ⟨g55, g56⟩ := and_e g54
  obtain ⟨g57, g58⟩ := and_e g56
  obtain ⟨g59, g60⟩ := and_e g58
  obtain ⟨g61, g62⟩ := and_e g60
  obtain ⟨g63, g64⟩ := and_e g62
  obtain ⟨w0, w1, rfl⟩ : ∃ w0 w1 : Value, args = #[w0, w1] := by
    have hs : args.size = 2 := by simpa [Cond.value, given_1] using g43
    obtain ⟨L⟩ := args
    match L, hs with
    | [w0, w1], _ => exact ⟨w0, w1, rfl⟩
  have hw := fun d (hd : d ∈ tables_1) => atoms_spec (ws := Jvm.Cond.code x code maxLocals ret :: tables_1) hat d (List.mem_cons_of_mem _ hd)
  have hfit : Fit s := fun {y c} hc i hi => by
    obtain ⟨ha, rfl⟩ := Array.getElem?_eq_some_iff.mp hc
    have q := List.all_eq_true.mp ((Array.all_eq_true_iff_forall_mem.mp hF) _ (Array.getElem_mem ha)) i (List.mem_range.mpr hi)
    simpa [Array.getElem?_eq_getElem hi] using q
  obtain ⟨i0, ei0⟩ := is_v g45
  obtain rfl : w0 = (.int i0) := Option.some.inj ei0
  obtain ⟨i1, ei1⟩ := is_v g46
  obtain rfl : w1 = (.int i1) := Option.some.inj ei1
  obtain ⟨w_DOCUMENT, ev_DOCUMENT⟩ := exa_v g47
  have S_DOCUMENT := Sta.start ev_DOCUMENT (Or.inr ⟨(hw _ (List.mem_of_getElem? (i := 6) rfl)), (hw _ (List.mem_of_getElem? (i := 7) rfl))⟩)
  have E_DOCUMENT := Exa.start ev_DOCUMENT g47
  obtain ⟨w_PARM_QUERY, ev_PARM_QUERY⟩ := exa_v g49
  have S_PARM_QUERY := Sta.start ev_PARM_QUERY (Or.inr ⟨(hw _ (List.mem_of_getElem? (i := 6) rfl)), (hw _ (List.mem_of_getElem? (i := 9) rfl))⟩)
  have E_PARM_QUERY := Exa.start ev_PARM_QUERY g49
  obtain ⟨w_CHARACTERISTIC, ev_CHARACTERISTIC⟩ := exa_v g53
  have S_CHARACTERISTIC := Sta.start ev_CHARACTERISTIC (Or.inr ⟨(hw _ (List.mem_of_getElem? (i := 6) rfl)), (hw _ (List.mem_of_getElem? (i := 25) rfl))⟩)
  have E_CHARACTERISTIC := Exa.start ev_CHARACTERISTIC g53
  obtain ⟨w_CHARACTERISTIC_QUERY, ev_CHARACTERISTIC_QUERY⟩ := exa_v g59
  have S_CHARACTERISTIC_QUERY := Sta.start ev_CHARACTERISTIC_QUERY (Or.inr ⟨(hw _ (List.mem_of_getElem? (i := 6) rfl)), (hw _ (List.mem_of_getElem? (i := 27) rfl))⟩)
  have E_CHARACTERISTIC_QUERY := Exa.start ev_CHARACTERISTIC_QUERY g59
  obtain ⟨w_PARM, ev_PARM⟩ := exa_v g63
  have S_PARM := Sta.start ev_PARM (Or.inr ⟨(hw _ (List.mem_of_getElem? (i := 6) rfl)), (hw _ (List.mem_of_getElem? (i := 32) rfl))⟩)
  have E_PARM := Exa.start ev_PARM g63
  have F_DOCUMENT_ordinal : Fld s s.heap w_DOCUMENT "java/lang/Enum" "ordinal" "I" (.int (0 : Int32)) := Fld.start ((fld_at ev_DOCUMENT).symm.trans (o_eqI g51))
  have F_PARM_QUERY_ordinal : Fld s s.heap w_PARM_QUERY "java/lang/Enum" "ordinal" "I" (.int (3 : Int32)) := Fld.start ((fld_at ev_PARM_QUERY).symm.trans (o_eqI g55))
  have F_CHARACTERISTIC_ordinal : Fld s s.heap w_CHARACTERISTIC "java/lang/Enum" "ordinal" "I" (.int (1 : Int32)) := Fld.start ((fld_at ev_CHARACTERISTIC).symm.trans (o_eqI g57))
  have F_CHARACTERISTIC_QUERY_ordinal : Fld s s.heap w_CHARACTERISTIC_QUERY "java/lang/Enum" "ordinal" "I" (.int (4 : Int32)) := Fld.start ((fld_at ev_CHARACTERISTIC_QUERY).symm.trans (o_eqI g61))
  have F_PARM_ordinal : Fld s s.heap w_PARM "java/lang/Enum" "ordinal" "I" (.int (2 : Int32)) := Fld.start ((fld_at ev_PARM).symm.trans (o_eqI g64))
  obtain ⟨n, o, h1, h2, h3, _, L, rfl, ⟨rfl, N⟩, hq⟩ := rm0 l s _ hw tables_1 i0 i1 w_DOCUMENT w_CHARACTERISTIC w_PARM w_PARM_QUERY w_CHARACTERISTIC_QUERY s.heap s.heap.size (Old.start s) S_DOCUMENT S_CHARACTERISTIC S_PARM S_PARM_QUERY S_CHARACTERISTIC_QUERY E_DOCUMENT E_CHARACTERISTIC E_PARM E_PARM_QUERY E_CHARACTERISTIC_QUERY F_DOCUMENT_ordinal F_CHARACTERISTIC_ordinal F_PARM_ordinal F_PARM_QUERY_ordinal F_CHARACTERISTIC_QUERY_ordinal (Fld.ne F_DOCUMENT_ordinal F_CHARACTERISTIC_ordinal (by simp)) (Fld.ne F_DOCUMENT_ordinal F_PARM_ordinal (by simp)) (Fld.ne F_DOCUMENT_ordinal F_PARM_QUERY_ordinal (by simp)) (Fld.ne F_DOCUMENT_ordinal F_CHARACTERISTIC_QUERY_ordinal (by simp)) (Fld.ne F_CHARACTERISTIC_ordinal F_PARM_ordinal (by simp)) (Fld.ne F_CHARACTERISTIC_ordinal F_PARM_QUERY_ordinal (by simp)) (Fld.ne F_CHARACTERISTIC_ordinal F_CHARACTERISTIC_QUERY_ordinal (by simp)) (Fld.ne F_PARM_ordinal F_PARM_QUERY_ordinal (by simp)) (Fld.ne F_PARM_ordinal F_CHARACTERISTIC_QUERY_ordinal (by simp)) (Fld.ne F_PARM_QUERY_ordinal F_CHARACTERISTIC_QUERY_ordinal (by simp)) p e ha hc hk s m _ below hf ((Spec.applies_iff_loose hf).mp happ).1 ⟨rfl, State.Warmed39.refl s, rfl⟩ trivial
  refine ⟨n, _, h1, h2, h3, hpost _ _ _ _ _ _ ⟨Cond.after_iff.mpr rfl, Cond.after_iff.mpr (eq_i res_at (Term.int_eval (1)) rfl), trivial⟩ ⟨hq.1, hq.2.1, (hq.2.2.sift fun y hy => Or.inr (N y hy)).mono (by decide) (by decide)⟩⟩
theorem main_1_1 : Claimed_1_1 := comes_1 fun _ _ _ _ _ _ h hF => ⟨h.1, hF⟩
theorem main_1_2 : Claimed_1_2 := comes_1 fun _ _ _ _ _ _ h hF => ⟨h.2.1, hF⟩
end Jvm.Pilot.@@N@@
namespace Jvm.Pilot.@@N@@
open Jvm Jvm.ClassFile Sem Op Lib Jvm.Free Jvm.Stand Jvm.Pilot.@@N@@.Jvm.D
/-! MADE BY PROGRAM (witnessworld.py) out of the Statement's table words and the real class files: 12 classes; the members and pool entries that the words name. The judged class is class 1, her method 1. -/
namespace start1
open Jvm.ClassFile
def u (s : String) : CpInfo := .utf8 (stringToUtf16 s)
/-- a pool by its gaps: so many unusable entries, then the entry; so many at the end -/
def gap : Nat → List CpInfo → List CpInfo
  | 0, r => r
  | n + 1, r => .unusable :: gap n r
def poolList (es : List (Nat × CpInfo)) (last : Nat) : List CpInfo := es.foldr (fun e r => gap e.1 (e.2 :: r)) (gap last [])
def pool (es : List (Nat × CpInfo)) (last : Nat) : Array CpInfo := ⟨poolList es last⟩
def fileOf (pool : Array CpInfo) (this : Nat) (attrs : Array Attribute := #[]) (ms : Array MethodInfo := #[]) (fl : Nat := 33) (sup : Nat := 0) (ifs : Array Nat := #[]) (fds : Array FieldInfo := #[]) : ClassFile where
  minorVersion := 0
  majorVersion := 65
  constantPool := pool
  accessFlags := fl
  thisClass := this
  superClass := sup
  interfaces := ifs
  fields := fds
  methods := ms
  attributes := attrs
def plain (name : String) (sup : Option ClassId) : Class where
  name := name
  kind := .ordinary
  loader := none
  accessFlags := 33
  super := sup
  interfaces := #[]
  cf := none
  fields := #[]
  methods := #[]
  instanceTypes := #[]
  staticTypes := #[]
  resolved := #[]
  callSites := []
  init := .initialized
  statics := none
  mirror := none

def pool0 : Array CpInfo := pool [(5, u "<init>"), (0, u "()V"), (1, .class_ 10), (1, u "java/lang/Object")] 113

def k0m0 : Method := { name := "<init>", desc := "()V", sig := { parameters := [], returnType := none }, accessFlags := 1, code := none }
/-- java/lang/Object -/
def k0 : Class := { plain "java/lang/Object" none with
  accessFlags := 33
  interfaces := #[]
  cf := some (fileOf pool0 8 #[] #[{ accessFlags := 1, nameIndex := 5, descriptorIndex := 6, attributes := #[] }] 33 0 #[] #[])
  fields := #[]
  methods := #[k0m0]
  instanceTypes := #[]
  staticTypes := #[]
  resolved := Array.replicate 124 none
  statics := none }

def pool1 : Array CpInfo := pool [(2, .class_ 4), (1, u "java/lang/Object"), (0, u "<init>"), (0, u "()V"), (0, .integer 2147483647), (0, .methodref 9 10), (0, .class_ 11), (0, .nameAndType 12 13), (0, u "com/example/handvisor/handvisor/KindHoldsPinLaw"), (0, u "kindOf"), (0, u "(I)Lcom/example/handvisor/handvisor/ProvisioningElement$Kind;"), (0, .methodref 15 16), (0, .class_ 17), (0, .nameAndType 18 19), (0, u "com/example/handvisor/handvisor/ProvisioningElement$Kind"), (0, u "holds"), (0, u "(Lcom/example/handvisor/handvisor/ProvisioningElement$Kind;)Z"), (0, .fieldref 15 21), (0, .nameAndType 22 23), (0, u "DOCUMENT"), (0, u "Lcom/example/handvisor/handvisor/ProvisioningElement$Kind;"), (0, .fieldref 15 25), (0, .nameAndType 26 23), (0, u "CHARACTERISTIC"), (0, .fieldref 15 28), (0, .nameAndType 29 23), (0, u "PARM"), (0, .fieldref 15 31), (0, .nameAndType 32 23), (0, u "PARM_QUERY"), (0, .fieldref 15 34), (0, .nameAndType 35 23), (0, u "CHARACTERISTIC_QUERY"), (2, u "law"), (0, u "(II)Z")] 7

def k1m0 : Method := { name := "<init>", desc := "()V", sig := { parameters := [], returnType := none }, accessFlags := 1, code := none }
def k1c1 : Code := { maxStack := 2, maxLocals := 6, code := code, exceptionTable := #[], attributes := #[] }
def k1m1 : Method := { name := "law", desc := "(II)Z", sig := { parameters := [.int, .int], returnType := some .boolean }, accessFlags := 9, code := some k1c1 }
def k1c2 : Code := { maxStack := 2, maxLocals := 1, code := method_3_code, exceptionTable := #[], attributes := #[] }
def k1m2 : Method := { name := "kindOf", desc := "(I)Lcom/example/handvisor/handvisor/ProvisioningElement$Kind;", sig := { parameters := [.int], returnType := some (.object "com/example/handvisor/handvisor/ProvisioningElement$Kind") }, accessFlags := 10, code := some k1c2 }
/-- com/example/handvisor/handvisor/KindHoldsPinLaw -/
def k1 : Class := { plain "com/example/handvisor/handvisor/KindHoldsPinLaw" (some 0) with
  accessFlags := 49
  interfaces := #[]
  cf := some (fileOf pool1 9 #[] #[{ accessFlags := 1, nameIndex := 5, descriptorIndex := 6, attributes := #[] }, { accessFlags := 9, nameIndex := 38, descriptorIndex := 39, attributes := #[] }, { accessFlags := 10, nameIndex := 12, descriptorIndex := 13, attributes := #[] }] 49 2 #[] #[])
  fields := #[]
  methods := #[k1m0, k1m1, k1m2]
  instanceTypes := #[]
  staticTypes := #[]
  resolved := Array.replicate 47 none
  statics := none }

def pool2 : Array CpInfo := pool [(1, .class_ 2), (0, u "java/lang/constant/Constable"), (0, .class_ 4), (0, u "java/lang/Object")] 6

/-- java/lang/constant/Constable -/
def k2 : Class := { plain "java/lang/constant/Constable" (some 0) with
  accessFlags := 1537
  interfaces := #[]
  cf := some (fileOf pool2 1 #[] #[] 1537 3 #[] #[])
  fields := #[]
  methods := #[]
  instanceTypes := #[]
  staticTypes := #[]
  resolved := Array.replicate 11 none
  statics := none }

def pool3 : Array CpInfo := pool [(1, .class_ 2), (0, u "java/lang/Comparable"), (0, .class_ 4), (0, u "java/lang/Object")] 7

/-- java/lang/Comparable -/
def k3 : Class := { plain "java/lang/Comparable" (some 0) with
  accessFlags := 1537
  interfaces := #[]
  cf := some (fileOf pool3 1 #[] #[] 1537 3 #[] #[])
  fields := #[]
  methods := #[]
  instanceTypes := #[]
  staticTypes := #[]
  resolved := Array.replicate 12 none
  statics := none }

def pool4 : Array CpInfo := pool [(1, .class_ 2), (0, u "java/io/Serializable"), (0, .class_ 4), (0, u "java/lang/Object")] 2

/-- java/io/Serializable -/
def k4 : Class := { plain "java/io/Serializable" (some 0) with
  accessFlags := 1537
  interfaces := #[]
  cf := some (fileOf pool4 1 #[] #[] 1537 3 #[] #[])
  fields := #[]
  methods := #[]
  instanceTypes := #[]
  staticTypes := #[]
  resolved := Array.replicate 7 none
  statics := none }

def pool5 : Array CpInfo := pool [(2, .class_ 4), (1, u "java/lang/Enum"), (0, u "name"), (0, u "Ljava/lang/String;"), (0, .fieldref 2 8), (0, .nameAndType 9 10), (0, u "ordinal"), (0, u "I"), (1, .class_ 14), (1, u "java/lang/Object"), (4, u "hash"), (86, .class_ 108), (1, u "java/lang/Enum$EnumDesc"), (2, .class_ 112), (0, u "java/lang/constant/Constable"), (0, .class_ 114), (0, u "java/lang/Comparable"), (0, .class_ 116), (0, u "java/io/Serializable"), (9, u "()I")] 77

def k5c0 : Code := { maxStack := 1, maxLocals := 1, code := jdk_37_method_2_code, exceptionTable := #[], attributes := #[] }
def k5m0 : Method := { name := "ordinal", desc := "()I", sig := { parameters := [], returnType := some .int }, accessFlags := 17, code := some k5c0 }
/-- java/lang/Enum -/
def k5 : Class := { plain "java/lang/Enum" (some 0) with
  accessFlags := 1057
  interfaces := #[2, 3, 4]
  cf := some (fileOf pool5 2 #[.nestMembers #[106]] #[{ accessFlags := 17, nameIndex := 9, descriptorIndex := 126, attributes := #[] }] 1057 12 #[111, 113, 115] #[{ accessFlags := 18, nameIndex := 5, descriptorIndex := 6, attributes := #[] }, { accessFlags := 18, nameIndex := 9, descriptorIndex := 10, attributes := #[] }, { accessFlags := 2, nameIndex := 19, descriptorIndex := 10, attributes := #[] }])
  fields := #[{ name := "name", type := (.object "java/lang/String"), accessFlags := 18, slot := 0, constantValue := 0 }, { name := "ordinal", type := .int, accessFlags := 18, slot := 1, constantValue := 0 }, { name := "hash", type := .int, accessFlags := 2, slot := 2, constantValue := 0 }]
  methods := #[k5m0]
  instanceTypes := #[(.object "java/lang/String"), .int, .int]
  staticTypes := #[]
  resolved := Array.replicate 204 none
  statics := none }

def pool6 : Array CpInfo := pool [(1, .class_ 2), (0, u "com/example/handvisor/handvisor/ProvisioningElement$Kind"), (0, .fieldref 1 4), (0, .nameAndType 5 6), (0, u "DOCUMENT"), (0, u "Lcom/example/handvisor/handvisor/ProvisioningElement$Kind;"), (0, .fieldref 1 8), (0, .nameAndType 9 6), (0, u "CHARACTERISTIC"), (2, u "PARM"), (2, u "PARM_QUERY"), (0, .fieldref 1 17), (0, .nameAndType 18 6), (0, u "CHARACTERISTIC_QUERY"), (2, u "$VALUES"), (0, u "[Lcom/example/handvisor/handvisor/ProvisioningElement$Kind;"), (6, .class_ 31), (1, u "java/lang/Enum"), (8, u "tag"), (0, u "Ljava/lang/String;"), (2, u "key"), (20, .methodref 1 66), (0, .nameAndType 67 68), (0, u "ordinal"), (0, u "()I"), (38, u "holds"), (0, u "(Lcom/example/handvisor/handvisor/ProvisioningElement$Kind;)Z"), (6, .class_ 116), (0, u "com/example/handvisor/handvisor/ProvisioningElement")] 2

def k6c0 : Code := { maxStack := 2, maxLocals := 2, code := prog_35_method_7_code, exceptionTable := #[], attributes := #[] }
def k6m0 : Method := { name := "holds", desc := "(Lcom/example/handvisor/handvisor/ProvisioningElement$Kind;)Z", sig := { parameters := [(.object "com/example/handvisor/handvisor/ProvisioningElement$Kind")], returnType := some .boolean }, accessFlags := 0, code := some k6c0 }
/-- com/example/handvisor/handvisor/ProvisioningElement$Kind -/
def k6 : Class := { plain "com/example/handvisor/handvisor/ProvisioningElement$Kind" (some 5) with
  accessFlags := 16432
  interfaces := #[]
  cf := some (fileOf pool6 1 #[.nestHost 115] #[{ accessFlags := 0, nameIndex := 107, descriptorIndex := 108, attributes := #[] }] 16432 29 #[] #[{ accessFlags := 16409, nameIndex := 5, descriptorIndex := 6, attributes := #[] }, { accessFlags := 16409, nameIndex := 9, descriptorIndex := 6, attributes := #[] }, { accessFlags := 16409, nameIndex := 12, descriptorIndex := 6, attributes := #[] }, { accessFlags := 16409, nameIndex := 15, descriptorIndex := 6, attributes := #[] }, { accessFlags := 16409, nameIndex := 18, descriptorIndex := 6, attributes := #[] }, { accessFlags := 18, nameIndex := 40, descriptorIndex := 41, attributes := #[] }, { accessFlags := 18, nameIndex := 44, descriptorIndex := 41, attributes := #[] }, { accessFlags := 4122, nameIndex := 21, descriptorIndex := 22, attributes := #[] }])
  fields := #[{ name := "DOCUMENT", type := (.object "com/example/handvisor/handvisor/ProvisioningElement$Kind"), accessFlags := 16409, slot := 0, constantValue := 0 }, { name := "CHARACTERISTIC", type := (.object "com/example/handvisor/handvisor/ProvisioningElement$Kind"), accessFlags := 16409, slot := 1, constantValue := 0 }, { name := "PARM", type := (.object "com/example/handvisor/handvisor/ProvisioningElement$Kind"), accessFlags := 16409, slot := 2, constantValue := 0 }, { name := "PARM_QUERY", type := (.object "com/example/handvisor/handvisor/ProvisioningElement$Kind"), accessFlags := 16409, slot := 3, constantValue := 0 }, { name := "CHARACTERISTIC_QUERY", type := (.object "com/example/handvisor/handvisor/ProvisioningElement$Kind"), accessFlags := 16409, slot := 4, constantValue := 0 }, { name := "tag", type := (.object "java/lang/String"), accessFlags := 18, slot := 3, constantValue := 0 }, { name := "key", type := (.object "java/lang/String"), accessFlags := 18, slot := 4, constantValue := 0 }, { name := "$VALUES", type := (.array (.object "com/example/handvisor/handvisor/ProvisioningElement$Kind")), accessFlags := 4122, slot := 5, constantValue := 0 }]
  methods := #[k6m0]
  instanceTypes := #[(.object "java/lang/String"), .int, .int, (.object "java/lang/String"), (.object "java/lang/String")]
  staticTypes := #[(.object "com/example/handvisor/handvisor/ProvisioningElement$Kind"), (.object "com/example/handvisor/handvisor/ProvisioningElement$Kind"), (.object "com/example/handvisor/handvisor/ProvisioningElement$Kind"), (.object "com/example/handvisor/handvisor/ProvisioningElement$Kind"), (.object "com/example/handvisor/handvisor/ProvisioningElement$Kind"), (.array (.object "com/example/handvisor/handvisor/ProvisioningElement$Kind"))]
  resolved := Array.replicate 119 none
  statics := some 0 }

def pool7 : Array CpInfo := pool [(1, u "java/lang/Cloneable"), (0, .class_ 1), (0, u "java/lang/Object"), (0, .class_ 3)] 3

/-- java/lang/Cloneable -/
def k7 : Class := { plain "java/lang/Cloneable" (some 0) with
  accessFlags := 1537
  interfaces := #[]
  cf := some (fileOf pool7 2 #[] #[] 1537 4 #[] #[])
  fields := #[]
  methods := #[]
  instanceTypes := #[]
  staticTypes := #[]
  resolved := Array.replicate 8 none
  statics := none }

/-- the primitive byte -/
def k8 : Class := { plain "byte" none with kind := .primitive 'B', accessFlags := 0x411 }
/-- [B -/
def k9 : Class := { plain "[B" (some 0) with kind := .array 8 .byte, interfaces := #[7, 4], accessFlags := 1041 }

/-- the primitive int -/
def k10 : Class := { plain "int" none with kind := .primitive 'I', accessFlags := 0x411 }
/-- [I -/
def k11 : Class := { plain "[I" (some 0) with kind := .array 10 .int, interfaces := #[7, 4], accessFlags := 1041 }

def heap : Heap := #[{ cls := 6, slots := #[.ref 1, .ref 3, .ref 5, .ref 2, .ref 4, .null], vm := .statics 6 },
  { cls := 6, slots := #[.null, .int 0, .int 0, .null, .null], vm := .none },
  { cls := 6, slots := #[.null, .int 3, .int 0, .null, .null], vm := .none },
  { cls := 6, slots := #[.null, .int 1, .int 0, .null, .null], vm := .none },
  { cls := 6, slots := #[.null, .int 4, .int 0, .null, .null], vm := .none },
  { cls := 6, slots := #[.null, .int 2, .int 0, .null, .null], vm := .none }]
def classes : Array Class := #[k0, k1, k2, k3, k4, k5, k6, k7, k8, k9, k10, k11]
def interned : List (Array UInt16 × Addr) := []
def slotsUsed : Nat := 31
def theMethod : MethodId := ⟨1, 1⟩
def args0 : Array Value := #[.int 5, .int 5]
def aboutOver (below : List Frame) : State where
  vm := { classes := classes, interned := interned.toArray }
  heap := heap
  slotsUsed := slotsUsed
  threads := #[{ frames := .invoking theMethod args0 :: below }]
def below0 : List Frame := [.native { method := ⟨0, 0⟩, args := #[] }]
def about1 : State := aboutOver below0
def p0 : Program := .bare "" "" ""
def e0 : Env := launch0.env 0 0 0
theorem w_frames : about1.frames = Frame.invoking theMethod args0 :: below0 := rfl
set_option maxRecDepth 65536 in
theorem w_args : argsFit about1.vm theMethod args0 = true := by decide +kernel
set_option maxRecDepth 65536 in
theorem w_heap : heapFits about1 = true := by decide +kernel
set_option maxRecDepth 65536 in
theorem w_runnable : about1.curStatus? = some .runnable := by decide +kernel
set_option maxRecDepth 65536 in
theorem w_alone : about1.alone = true := by decide +kernel
set_option maxRecDepth 65536 in
theorem w_named : about1.methodNamed? x = some theMethod := by decide +kernel
set_option maxRecDepth 65536 in
theorem w_hears : about1.hears theMethod below0 = true := by decide +kernel
set_option maxRecDepth 65536 in
theorem w_ripe : about1.ripe theMethod args0 below0 = true := by decide +kernel
theorem w_running : about1.status = .running := rfl
set_option maxRecDepth 65536 in
theorem w_room : about1.hasRoom e0.platform room_1 = true :=
  launch0.hasRoom_least _ room_1 (by decide +kernel) (by decide +kernel) (by decide +kernel) (by decide +kernel) (by decide +kernel) (by decide +kernel)
theorem allAtoms_all (ts : List Jvm.Cond) (a : Array Jvm.Value) (st : Jvm.State) : (allAtoms ts).before a st = ts.all (fun c => c.before a st) := by
  induction ts with
  | nil => rfl
  | cons c t ih =>
    show (Jvm.Cond.and c (allAtoms t)).before a st = _
    rw [Jvm.Cond.before_and, ih, List.all_cons]
def words1 : List Jvm.Cond := Jvm.Cond.code x code maxLocals ret :: tables_1
/-- a 'code' word, met by the world's own term for the bytes: nothing is compared byte by byte -/
theorem code_word {y : MethodName} {bytes : ByteArray} {mx : Nat} {rt : Option FieldType} {a : Array Value} {s : State} {m : MethodId} {meth : Method} {c : Code} (h1 : s.methodNamed? y = some m) (h2 : s.vm.method? m = some meth) (h3 : meth.code = some c) (h4 : c.code = bytes)
    (h5 : (c.maxLocals == mx && c.exceptionTable.isEmpty && decide (c.maxStack ≤ mostOperands) && decide (meth.sig.returnType = rt) && !meth.locks && decide (parseMethodDescriptor y.desc = some meth.sig)) = true) : (Jvm.Cond.code y bytes mx rt).before a s = true := by
  simp only [Bool.and_eq_true, beq_iff_eq, Bool.not_eq_true', decide_eq_true_eq] at h5
  obtain ⟨⟨⟨⟨⟨g1, g2⟩, g3⟩, g4⟩, g5⟩, g6⟩ := h5
  simp [Cond.before, Cond.holds, Cond.value, h1, h2, h3, h4, g1, g2, g3, g4, g5, g6]
def isCode : Jvm.Cond → Bool
  | .code _ _ _ _ => true
  | _ => false
theorem all_split {L : List Jvm.Cond} {P : Jvm.Cond → Bool} (h1 : L.all (fun c => isCode c || P c) = true) (h2 : ∀ c ∈ L.filter isCode, P c = true) : L.all P = true := by
  refine List.all_eq_true.mpr fun c hc => ?_
  have h := List.all_eq_true.mp h1 c hc
  rcases Bool.eq_false_or_eq_true (isCode c) with hi | hi
  · exact h2 c (List.mem_filter.mpr ⟨hc, hi⟩)
  · simpa [hi] using h
set_option maxRecDepth 65536 in
theorem w_c0 : (Jvm.Cond.code x code maxLocals ret).before args0 about1 = true := code_word (m := ⟨1, 1⟩) (meth := k1m1) (c := k1c1) (by decide +kernel) rfl rfl rfl (by decide +kernel)
set_option maxRecDepth 65536 in
theorem w_c1 : (Jvm.Cond.code ({ cls := "com/example/handvisor/handvisor/KindHoldsPinLaw", name := "kindOf", desc := "(I)Lcom/example/handvisor/handvisor/ProvisioningElement$Kind;" } : Jvm.MethodName) method_3_code (1 : Nat) (Option.some (Jvm.ClassFile.FieldType.object "com/example/handvisor/handvisor/ProvisioningElement$Kind"))).before args0 about1 = true := code_word (m := ⟨1, 2⟩) (meth := k1m2) (c := k1c2) (by decide +kernel) rfl rfl rfl (by decide +kernel)
set_option maxRecDepth 65536 in
theorem w_c2 : (Jvm.Cond.code ({ cls := "com/example/handvisor/handvisor/ProvisioningElement$Kind", name := "holds", desc := "(Lcom/example/handvisor/handvisor/ProvisioningElement$Kind;)Z" } : Jvm.MethodName) prog_35_method_7_code (2 : Nat) (Option.some Jvm.ClassFile.FieldType.boolean)).before args0 about1 = true := code_word (m := ⟨6, 0⟩) (meth := k6m0) (c := k6c0) (by decide +kernel) rfl rfl rfl (by decide +kernel)
set_option maxRecDepth 65536 in
theorem w_c3 : (Jvm.Cond.code ({ cls := "java/lang/Enum", name := "ordinal", desc := "()I" } : Jvm.MethodName) jdk_37_method_2_code (1 : Nat) (Option.some Jvm.ClassFile.FieldType.int)).before args0 about1 = true := code_word (m := ⟨5, 0⟩) (meth := k5m0) (c := k5c0) (by decide +kernel) rfl rfl rfl (by decide +kernel)
def codes1 : List Jvm.Cond := [Jvm.Cond.code x code maxLocals ret, Jvm.Cond.code ({ cls := "com/example/handvisor/handvisor/KindHoldsPinLaw", name := "kindOf", desc := "(I)Lcom/example/handvisor/handvisor/ProvisioningElement$Kind;" } : Jvm.MethodName) method_3_code (1 : Nat) (Option.some (Jvm.ClassFile.FieldType.object "com/example/handvisor/handvisor/ProvisioningElement$Kind")), Jvm.Cond.code ({ cls := "com/example/handvisor/handvisor/ProvisioningElement$Kind", name := "holds", desc := "(Lcom/example/handvisor/handvisor/ProvisioningElement$Kind;)Z" } : Jvm.MethodName) prog_35_method_7_code (2 : Nat) (Option.some Jvm.ClassFile.FieldType.boolean), Jvm.Cond.code ({ cls := "java/lang/Enum", name := "ordinal", desc := "()I" } : Jvm.MethodName) jdk_37_method_2_code (1 : Nat) (Option.some Jvm.ClassFile.FieldType.int)]
set_option maxRecDepth 65536 in
theorem codes_eq : words1.filter isCode = codes1 := rfl
theorem w_codes : ∀ c ∈ words1.filter isCode, c.before args0 about1 = true := by
  rw [codes_eq]
  intro c hc
  simp only [codes1, List.mem_cons, List.not_mem_nil, or_false] at hc
  rcases hc with rfl | rfl | rfl | rfl
  · exact w_c0
  · exact w_c1
  · exact w_c2
  · exact w_c3
set_option maxRecDepth 65536 in
theorem w_t1 : (words1.take 24).all (fun c => isCode c || c.before args0 about1) = true := by decide +kernel
set_option maxRecDepth 65536 in
theorem w_t2 : (words1.drop 24).all (fun c => isCode c || c.before args0 about1) = true := by decide +kernel
theorem w_tables : (allAtoms (Jvm.Cond.code x code maxLocals ret :: tables_1)).before args0 about1 = true := by
  rw [allAtoms_all]
  show words1.all (fun c => c.before args0 about1) = true
  refine all_split ?_ w_codes
  rw [← List.take_append_drop 24 words1, List.all_append, w_t1, w_t2]
  rfl
set_option maxRecDepth 65536 in
theorem w_case : (Jvm.Cond.and given_1 narrow_1).before args0 about1 = true := by decide +kernel
theorem w_applies : (headSpec (Jvm.Cond.code x code maxLocals ret :: tables_1) room_1).applies x e0.platform about1 = true :=
  (Spec.applies_iff w_frames).mpr ⟨w_running, w_runnable, w_alone, w_named, w_hears, w_ripe, w_room, w_tables⟩
theorem atStart : AtStart classFile x code maxLocals ret World_1 tables_1 room_1 Calls_1 rest_1 Pre_1 launch0 p0 e0 about1 theMethod args0 below0 :=
  ⟨lists_1, trivial, launch0.admits_env _ _ _, launch0.least_env, fairChoices_fair.cas, fairChoices_fair.clock, w_frames, w_args, w_heap, w_applies, trivial, trivial, w_case⟩
end start1
theorem witness_1 : WitnessClaimed_1 := ⟨start1.p0, start1.e0, start1.about1, start1.theMethod, start1.args0, start1.below0, start1.atStart⟩
end Jvm.Pilot.@@N@@
