import JvmDerived
import JvmDerived.Pilot.@@N@@Statement
import JvmDerived.Pilot.@@N@@Code
set_option linter.unusedVariables false
set_option linter.unusedSimpArgs false
namespace Jvm.Pilot.@@N@@
open Jvm Jvm.ClassFile Sem Op Lib Jvm.Free Jvm.Stand Jvm.LawKit Jvm.RoadKit Bundle Jvm.Pilot.@@N@@.Jvm.D
def own_Go (p : Program) (e : Env) (below : List Frame) (G : State → Outcome → Prop) (σ : State) : Prop := ∃ U o, Steps p.tables e below σ U ∧ U.status = .running ∧ Ended U below o ∧ G U o
theorem own_go {p : Program} {e : Env} {below : List Frame} {G : State → Outcome → Prop} {σ σ' : State} (h : ∀ t, Steps p.tables e below σ' t → Steps p.tables e below σ t) (k : own_Go p e below G σ') : own_Go p e below G σ := by
  obtain ⟨U, o, h1, h2⟩ := k
  exact ⟨U, o, h _ h1, h2⟩
def own_Post (s : State) (Q : Option Value → Heap → List Loc → Prop) (C S : Nat) (U : State) (o : Outcome) : Prop := ∃ v L, o = .returned v ∧ Q v U.heap L ∧ FrameEnd s o U L C S
theorem own_gtL {x y : Int64} (h : y < x) : ifCond.holds .gt (lcmpW x y) = true ∧ ifCond.holds .le (lcmpW x y) = false := by
  have q := (lw_gt x y).mpr h
  exact ⟨(if0 _ _).trans (tlt q).2.2.1, (if0 _ _).trans (tlt q).2.2.2⟩
theorem own_ngtL {x y : Int64} (h : ¬ y < x) : ifCond.holds .gt (lcmpW x y) = false ∧ ifCond.holds .le (lcmpW x y) = true := by
  have q := fun z => h ((lw_gt x y).mp z)
  exact ⟨(if0 _ _).trans (flt q).2.2.1, (if0 _ _).trans (flt q).2.2.2⟩
section OwnSteps
variable {p : Program} {l : Launch} {e : Env} {R : Room} {s : State} {m : MethodId} {args : Array Value} {below : List Frame} {meth : Method} {c : Code} {T : State} {locs : List Loc} {cells slots : Nat} {G : State → Outcome → Prop} {Ls : Array Slot} {rest : List Value} {pc : Nat}
theorem own_iload (X : Stand p l e R s m args below meth c T locs cells slots) (hx : p.tables.exec = Jvm.exec) {i : Nat} {v : Int32} (hd : decode c.code pc = .ok (.iload i, 2)) (hl : Ls[i]? = some (.val (.int v))) (pc' : Nat) (hp : pc + 2 = pc') (k : own_Go p e below G (T.setTop (mkF m pc' Ls (.int v :: rest)))) : own_Go p e below G (T.setTop (mkF m pc Ls (rest))) := by
  subst hp; exact own_go (fun t q => XS.iload X.here hx rfl hd hl q) k
theorem own_lloadN (X : Stand p l e R s m args below meth c T locs cells slots) (hx : p.tables.exec = Jvm.exec) {i : Fin 4} {v : Int64} (hd : decode c.code pc = .ok (.lload_n i, 1)) (hl : Ls[i.val]? = some (.val (.long v))) (pc' : Nat) (hp : pc + 1 = pc') (k : own_Go p e below G (T.setTop (mkF m pc' Ls (.long v :: rest)))) : own_Go p e below G (T.setTop (mkF m pc Ls (rest))) := by
  subst hp; exact own_go (fun t q => XS.lloadN X.here hx rfl hd hl q) k
theorem own_lload (X : Stand p l e R s m args below meth c T locs cells slots) (hx : p.tables.exec = Jvm.exec) {i : Nat} {v : Int64} (hd : decode c.code pc = .ok (.lload i, 2)) (hl : Ls[i]? = some (.val (.long v))) (pc' : Nat) (hp : pc + 2 = pc') (k : own_Go p e below G (T.setTop (mkF m pc' Ls (.long v :: rest)))) : own_Go p e below G (T.setTop (mkF m pc Ls (rest))) := by
  subst hp; exact own_go (fun t q => XS.lload X.here hx rfl hd hl q) k
theorem own_aloadN (X : Stand p l e R s m args below meth c T locs cells slots) (hx : p.tables.exec = Jvm.exec) {i : Fin 4} {v : Value} (hd : decode c.code pc = .ok (.aload_n i, 1)) (hl : Ls[i.val]? = some (.val v)) (hv : v.isRef = true) (pc' : Nat) (hp : pc + 1 = pc') (k : own_Go p e below G (T.setTop (mkF m pc' Ls (v :: rest)))) : own_Go p e below G (T.setTop (mkF m pc Ls (rest))) := by
  subst hp; exact own_go (fun t q => XS.aloadN X.here hx rfl hd hl hv q) k
theorem own_aload (X : Stand p l e R s m args below meth c T locs cells slots) (hx : p.tables.exec = Jvm.exec) {i : Nat} {v : Value} (hd : decode c.code pc = .ok (.aload i, 2)) (hl : Ls[i]? = some (.val v)) (hv : v.isRef = true) (pc' : Nat) (hp : pc + 2 = pc') (k : own_Go p e below G (T.setTop (mkF m pc' Ls (v :: rest)))) : own_Go p e below G (T.setTop (mkF m pc Ls (rest))) := by
  subst hp; exact own_go (fun t q => XS.aload X.here hx rfl hd hl hv q) k
theorem own_istore (X : Stand p l e R s m args below meth c T locs cells slots) (hx : p.tables.exec = Jvm.exec) {i : Nat} {v : Int32} (hd : decode c.code pc = .ok (.istore i, 2)) (l' : Array Slot) (hl : storeLocals Ls i (.int v) = some l') (pc' : Nat) (hp : pc + 2 = pc') (k : own_Go p e below G (T.setTop (mkF m pc' l' (rest)))) : own_Go p e below G (T.setTop (mkF m pc Ls (.int v :: rest))) := by
  subst hp; exact own_go (fun t q => XS.istore X.here hx rfl hd rfl hl q) k
theorem own_astore (X : Stand p l e R s m args below meth c T locs cells slots) (hx : p.tables.exec = Jvm.exec) {i : Nat} {v : Value} (hd : decode c.code pc = .ok (.astore i, 2)) (hv : v.isRef = true) (l' : Array Slot) (hl : storeLocals Ls i v = some l') (pc' : Nat) (hp : pc + 2 = pc') (k : own_Go p e below G (T.setTop (mkF m pc' l' (rest)))) : own_Go p e below G (T.setTop (mkF m pc Ls (v :: rest))) := by
  subst hp; exact own_go (fun t q => XS.astore X.here hx rfl hd rfl hv hl q) k
theorem own_iconst (X : Stand p l e R s m args below meth c T locs cells slots) (hx : p.tables.exec = Jvm.exec) {i : Int} (hd : decode c.code pc = .ok (.iconst i, 1)) (v : Int32) (hv : v = Int32.ofInt i) (pc' : Nat) (hp : pc + 1 = pc') (k : own_Go p e below G (T.setTop (mkF m pc' Ls (.int v :: rest)))) : own_Go p e below G (T.setTop (mkF m pc Ls (rest))) := by
  subst hp; exact own_go (fun t q => XS.iconst X.here hx rfl hd (hv ▸ q)) k
theorem own_ldc2Long (X : Stand p l e R s m args below meth c T locs cells slots) (hx : p.tables.exec = Jvm.exec) {own : String} {index : Nat} {v : Int64} (hown : s.vm.findClass own = some m.cls) (hc : (Cond.constantLong own index v).before args s = true) (hd : decode c.code pc = .ok (.ldc2_w index, 3)) (pc' : Nat) (hp : pc + 3 = pc') (k : own_Go p e below G (T.setTop (mkF m pc' Ls (.long v :: rest)))) : own_Go p e below G (T.setTop (mkF m pc Ls rest)) := by
  subst hp; exact own_go (X.ldc2Long hx hown hc (g := mkF m pc Ls rest) rfl hd) k
theorem own_dup (X : Stand p l e R s m args below meth c T locs cells slots) (hx : p.tables.exec = Jvm.exec) {x : Value} (hd : decode c.code pc = .ok (.dup, 1)) (hc : x.category = 1) (pc' : Nat) (hp : pc + 1 = pc') (k : own_Go p e below G (T.setTop (mkF m pc' Ls (x :: x :: rest)))) : own_Go p e below G (T.setTop (mkF m pc Ls (x :: rest))) := by
  subst hp; exact own_go (fun t q => XS.dup X.here hx rfl hd rfl hc q) k
theorem own_lcmp (X : Stand p l e R s m args below meth c T locs cells slots) (hx : p.tables.exec = Jvm.exec) {x y : Int64} (hd : decode c.code pc = .ok (.lcmp, 1)) (pc' : Nat) (hp : pc + 1 = pc') (k : own_Go p e below G (T.setTop (mkF m pc' Ls (.int (lcmpW x y) :: rest)))) : own_Go p e below G (T.setTop (mkF m pc Ls (.long y :: .long x :: rest))) := by
  subst hp; exact own_go (fun t q => XS.lcmp X.here hx rfl hd rfl q) k
theorem own_goto (X : Stand p l e R s m args below meth c T locs cells slots) (hx : p.tables.exec = Jvm.exec) {o : Int} (hd : decode c.code pc = .ok (.goto o, 3)) (pc' : Nat) (hp : 0 ≤ (pc : Int) + o ∧ ((pc : Int) + o).toNat = pc') (k : own_Go p e below G (T.setTop (mkF m pc' Ls rest))) : own_Go p e below G (T.setTop (mkF m pc Ls rest)) :=
  own_go (fun t q => XS.goto X.here hx rfl (pc0 := pc) (pc' := pc') rfl hd hp.1 hp.2 q) k
theorem own_ifY (X : Stand p l e R s m args below meth c T locs cells slots) (hx : p.tables.exec = Jvm.exec) {o : Int} {cd : ClassFile.Cond} {x : Int32} (hd : decode c.code pc = .ok (.ifCond cd o, 3)) (hc : ifCond.holds cd x = true) (pc' : Nat) (hp : 0 ≤ (pc : Int) + o ∧ ((pc : Int) + o).toNat = pc') (k : own_Go p e below G (T.setTop (mkF m pc' Ls rest))) : own_Go p e below G (T.setTop (mkF m pc Ls (.int x :: rest))) :=
  own_go (fun t q => XS.ifYes X.here hx rfl (pc0 := pc) (pc' := pc') rfl hd rfl hc hp.1 hp.2 q) k
theorem own_ifN (X : Stand p l e R s m args below meth c T locs cells slots) (hx : p.tables.exec = Jvm.exec) {o : Int} {cd : ClassFile.Cond} {x : Int32} (hd : decode c.code pc = .ok (.ifCond cd o, 3)) (hc : ifCond.holds cd x = false) (pc' : Nat) (hp : pc + 3 = pc') (k : own_Go p e below G (T.setTop (mkF m pc' Ls (rest)))) : own_Go p e below G (T.setTop (mkF m pc Ls (.int x :: rest))) := by
  subst hp; exact own_go (fun t q => XS.ifNo X.here hx rfl hd rfl hc q) k
theorem own_icmpN (X : Stand p l e R s m args below meth c T locs cells slots) (hx : p.tables.exec = Jvm.exec) {o : Int} {cd : ClassFile.Cond} {x y : Int32} (hd : decode c.code pc = .ok (.if_icmp cd o, 3)) (hc : if_icmp.holds cd x y = false) (pc' : Nat) (hp : pc + 3 = pc') (k : own_Go p e below G (T.setTop (mkF m pc' Ls (rest)))) : own_Go p e below G (T.setTop (mkF m pc Ls (.int y :: .int x :: rest))) := by
  subst hp; exact own_go (fun t q => XS.icmpNo X.here hx rfl hd rfl hc q) k
theorem own_ret {f : JFrame} {Q : Option Value → Heap → List Loc → Prop} {C S : Nat} (X : Stand p l e R s m args below meth c T locs cells slots) (hlk : meth.locks = false) (hG : own_Post s Q C S = G) {v : Option Value} (hv : meth.sig.returnType = none → v = none)
    (st : ∀ fs, (∀ (f : JFrame) (acts : List Action), f.method = m → f.locked = none → f.entered = [] → (doReturn e (T.setTop f) acts v).1 = T.setFrames fs) → Steps p.tables e below (T.setTop f) (T.setFrames fs)) (hc : cells ≤ C) (hs : slots ≤ S) (hq : Q v T.heap locs) : own_Go p e below G (T.setTop f) := by
  subst hG
  obtain ⟨fs, hr, hrun, hended, hW, hsame⟩ := X.leave (v := v) hv hlk
  exact ⟨_, _, st fs hr, hrun, hended, _, _, rfl, hq, ⟨_, rfl⟩, hW, hsame.mono hc hs⟩
theorem own_nreturn {z : Int32} {ty : FieldType} {Q : Option Value → Heap → List Loc → Prop} {C S : Nat} (X : Stand p l e R s m args below meth c T locs cells slots) (hx : p.tables.exec = Jvm.exec) (hlk : meth.locks = false) (hG : own_Post s Q C S = G) (hret : meth.sig.returnType = some ty) (ht : ty = .boolean ∨ ty = .byte ∨ ty = .char ∨ ty = .short) (hd : decode c.code pc = .ok (.ireturn, 1)) (hc : cells ≤ C) (hs : slots ≤ S) (hq : Q (some (.int (nar ty z))) T.heap locs) : own_Go p e below G (T.setTop (mkF m pc Ls (.int z :: rest))) :=
  own_ret X hlk hG (fun h => by rw [hret] at h; cases h) (fun fs hr => retN X hx hret ht hd hr) hc hs hq
theorem own_areturn {w : Value} {ty : FieldType} {Q : Option Value → Heap → List Loc → Prop} {C S : Nat} (X : Stand p l e R s m args below meth c T locs cells slots) (hx : p.tables.exec = Jvm.exec) (hlk : meth.locks = false) (hG : own_Post s Q C S = G) (hret : meth.sig.returnType = some ty) (ht : ty.isReference = true) (hn : narrow ty w = w) (hw : w.isRef = true) (hd : decode c.code pc = .ok (.areturn, 1)) (hc : cells ≤ C) (hs : slots ≤ S) (hq : Q (some w) T.heap locs) : own_Go p e below G (T.setTop (mkF m pc Ls (w :: rest))) :=
  own_ret X hlk hG (fun h => by rw [hret] at h; cases h) (fun fs hr => retOut X hx hret hn (Or.inr (Or.inr (Or.inr (Or.inr ⟨rfl, ht, hw⟩)))) hd hr) hc hs hq
theorem own_return {Q : Option Value → Heap → List Loc → Prop} {C S : Nat} (X : Stand p l e R s m args below meth c T locs cells slots) (hx : p.tables.exec = Jvm.exec) (hlk : meth.locks = false) (hG : own_Post s Q C S = G) (hret : meth.sig.returnType = none) (hd : decode c.code pc = .ok (.return_, 1)) (hc : cells ≤ C) (hs : slots ≤ S) (hq : Q none T.heap locs) : own_Go p e below G (T.setTop (mkF m pc Ls [])) :=
  own_ret X hlk hG (fun _ => rfl) (fun fs hr => X.returnOut hx hret hd hr) hc hs hq
variable {Z : State} {a0 : Array Value} {h : Heap}
theorem own_getF (X : Stand p l e R s m args below meth c T locs cells slots) (hx : p.tables.exec = Jvm.exec) (hZ : Z.Warmed39 s.vm) {own R0 O n d : String} {index : Nat} (hown : s.vm.findClass own = some m.cls) (w : (Cond.fieldLink own index R0 n d).before a0 Z = true) (via : Via Z R0 O n d) (eT : T.heap = h) {a : Addr} {v : Value} (F : Fld Z h a O n d v) (hd : decode c.code pc = .ok (.getfield index, 3)) (pc' : Nat) (hp : pc + 3 = pc')
    (k : ∀ T' : State, Stand p l e R s m args below meth c T' locs cells slots → T'.heap = h → own_Go p e below G (T'.setTop (mkF m pc' Ls (v :: rest)))) : own_Go p e below G (T.setTop (mkF m pc Ls (.ref a :: rest))) := by
  subst hp
  obtain ⟨T', X', e', st⟩ := getF X hx hZ hown (host := "") (Or.inl w) via eT F (g := mkF m pc Ls (.ref a :: rest)) rfl rfl hd
  exact own_go st (k T' X' e')
theorem own_putF (X : Stand p l e R s m args below meth c T locs cells slots) (hx : p.tables.exec = Jvm.exec) (hZ : Z.Warmed39 s.vm) {own R0 O n d C : String} {index kk : Nat} {ty : FieldType} (hown : s.vm.findClass own = some m.cls) (w : (Cond.fieldLink own index R0 n d).before a0 Z = true) (via : Via Z R0 O n d) (eT : T.heap = h) {a : Addr} {v v' old : Value} (F : Fld Z h a O n d old) (E : Exa Z h a C) (L : (Cond.lays C O n d).before a0 Z = true ∨ ((Cond.laysFinal C O n d).before a0 Z = true ∧ own = O ∧ meth.name = "<init>")) (wi : (Cond.instantiable C kk).before a0 Z = true) (hty : parseFieldDescriptor d = some ty) (hn : narrow ty v = v') (hf : fits ty v' = true) (hd : decode c.code pc = .ok (.putfield index, 3)) (pc' : Nat) (hp : pc + 3 = pc')
    (k : ∀ (T' : State) (h' : Heap), Stand p l e R s m args below meth c T' (locs ++ [⟨a, Jvm.RoadKit.slotOf Z O n d⟩]) cells slots → T'.heap = h' → Wr h h' a (Jvm.RoadKit.slotOf Z O n d) v' → own_Go p e below G (T'.setTop (mkF m pc' Ls rest))) : own_Go p e below G (T.setTop (mkF m pc Ls (v :: .ref a :: rest))) := by
  subst hp
  obtain ⟨T', h', X', e', W, st⟩ := putFN X hx hZ hown w via eT F E L wi hty hn hf (g := mkF m pc Ls (v :: .ref a :: rest)) rfl rfl hd
  exact own_go st (k T' h' X' e' W)
theorem own_newO (X : Stand p l e R s m args below meth c T locs cells slots) (hx : p.tables.exec = Jvm.exec) (hZ : Z.Warmed39 s.vm) {own C : String} {index n : Nat} (hown : s.vm.findClass own = some m.cls) (w : (Cond.classLink own index C).before a0 Z = true) (wi : (Cond.instantiable C n).before a0 Z = true) (wz : (Cond.initialized C).before a0 Z = true) (eT : T.heap = h) (hd : decode c.code pc = .ok (.new index, 3)) (hc : cells + 1 ≤ R.cells) (hl : slots + n ≤ R.slots) (pc' : Nat) (hp : pc + 3 = pc')
    (k : ∀ (T' : State) (h' : Heap) (a' : Addr), a' = h.size → Stand p l e R s m args below meth c T' locs (cells + 1) (slots + n) → T'.heap = h' → Ext h h' → Exa Z h' a' C → (∀ {O nm d : String} {ty : FieldType}, Laid Z a0 C O nm d → parseFieldDescriptor d = some ty → Fld Z h' a' O nm d (defaultValue ty)) → own_Go p e below G (T'.setTop (mkF m pc' Ls (.ref a' :: rest)))) : own_Go p e below G (T.setTop (mkF m pc Ls rest)) := by
  subst hp
  obtain ⟨T', h', X', e', E', A', D', -, st⟩ := newO X hx hZ hown w wi wz eT (g := mkF m pc Ls rest) rfl hd hc hl
  exact own_go st (k T' h' _ rfl X' e' E' A' D')
theorem own_initO (X : Stand p l e R s m args below meth c T locs cells slots) (hx : p.tables.exec = Jvm.exec) (hZ : Z.Warmed39 s.vm) {own : String} {idx : Nat} (hown : s.vm.findClass own = some m.cls) (w1 : (Cond.methodLink own idx Lib.objectInit).before a0 Z = true) (w2 : (Cond.instanceMethod Lib.objectInit).before a0 Z = true) (w3 : (Cond.code Lib.objectInit object_method_1_code 1 none).before a0 Z = true) (eT : T.heap = h) (hsize : Ls.size = c.maxLocals) {a : Addr} (hd : decode c.code pc = .ok (.invokespecial idx, 3)) (hf : 1 ≤ R.frames) (W : Nat) (hW : (rest.map fun v => v.category).sum ≤ W) (hl : W + 12 ≤ R.locals) (pc' : Nat) (hp : pc + 3 = pc')
    (k : ∀ T' : State, Stand p l e R s m args below meth c T' locs cells slots → T'.heap = h → own_Go p e below G (T'.setTop (mkF m pc' Ls rest))) : own_Go p e below G (T.setTop (mkF m pc Ls (.ref a :: rest))) := by
  subst hp
  obtain ⟨T', X', e', st⟩ := initO X hx hZ hown w1 w2 w3 eT (g := mkF m pc Ls (.ref a :: rest)) rfl hsize rfl hd hf (W := W) (by show 2 * 0 + _ ≤ W; rw [Nat.mul_zero, Nat.zero_add]; exact hW) hl
  exact own_go st (k T' X' e')
theorem own_callS {bytes : ByteArray} {maxL : Nat} {ret : Option FieldType} {rm : Room} {y : MethodName} {argsL : List Value} {Q : Option Value → Heap → List Loc → Prop} (X : Stand p l e R s m args below meth c T locs cells slots) (hx : p.tables.exec = Jvm.exec) (hZ : Z.Warmed39 s.vm) {own : String} {index : Nat} (hown : s.vm.findClass own = some m.cls) (w1 : (Cond.methodLink own index y).before a0 Z = true) (w2 : (Cond.static y).before a0 Z = true) (w3 : (Cond.initialized y.cls).before a0 Z = true) (w4 : (Cond.code y bytes maxL ret).before a0 Z = true) (hy : y.cls ≠ "java/lang/invoke/MethodHandle" ∧ y.cls ≠ "java/lang/invoke/VarHandle") (eT : T.heap = h)
    (hM : MetFree l y (head1 [Cond.code y bytes maxL ret] rm) (fun a U => a = argsL.toArray ∧ Z.Warmed39 U.vm ∧ U.heap = h) (fun _ _ _ _ _ => True) (fun _ U o U' => ∃ v L, o = .returned v ∧ Q v U'.heap L ∧ FrameEnd U o U' L rm.cells rm.slots))
    (hsize : Ls.size = c.maxLocals) {ps : List FieldType} {rt : Option FieldType} (hdesc : parseMethodDescriptor y.desc = some ⟨ps, rt⟩) (hlen : argsL.length = ps.length) {st : List Value} (hst : st = argsL.reverse ++ rest) (hd : decode c.code pc = .ok (.invokestatic index, 3)) (W : Nat) (hW : (rest.map fun v => v.category).sum ≤ W) (hf : rm.frames + 1 ≤ R.frames) (hl : W + (maxL + 11) + rm.locals ≤ R.locals) (hc : cells + rm.cells ≤ R.cells) (hs : slots + rm.slots ≤ R.slots) (pc' : Nat) (hp : pc + 3 = pc')
    (k : ∀ (T' : State) (L : List Loc) (v : Option Value), Stand p l e R s m args below meth c T' (locs ++ L) (cells + rm.cells) (slots + rm.slots) → Q v T'.heap L → own_Go p e below G (T'.setTop (mkF m pc' Ls (v.toList ++ rest)))) : own_Go p e below G (T.setTop (mkF m pc Ls st)) := by
  subst hp hst
  obtain ⟨v, _, ⟨T', L', k', n'⟩, -, X', ⟨Lc, hQ, l', y', z'⟩, st⟩ := Jvm.LawKit.callS X hx hown (mvT hZ w1) (mvT hZ w2) (mvT hZ w3) (mvT hZ w4) hy (backOf (W := W) hM hZ w4 w3 hf hl) (g := mkF m pc Ls (argsL.reverse ++ rest)) rfl hsize (argsL := argsL) (rest := rest) (lenOf hdesc hlen) rfl (by show 2 * 0 + _ ≤ W; rw [Nat.mul_zero, Nat.zero_add]; exact hW) hd (fun _ _ => ⟨rfl, eT, hc, hs⟩)
  dsimp only [Pt.U, Pt.locs, Pt.cells, Pt.slots] at X' l' y' z' st hQ
  subst l' y' z'
  exact own_go st (k T' Lc v X' hQ)
theorem own_callI {bytes : ByteArray} {maxL : Nat} {rm : Room} {y : MethodName} {argsL : List Value} {Q : Option Value → Heap → List Loc → Prop} (X : Stand p l e R s m args below meth c T locs cells slots) (hx : p.tables.exec = Jvm.exec) (hZ : Z.Warmed39 s.vm) (hy1 : y.name = "<init>") {own : String} {index : Nat} (hown : s.vm.findClass own = some m.cls) (w1 : (Cond.methodLink own index y).before a0 Z = true) (w2 : (Cond.instanceMethod y).before a0 Z = true) (w3 : (Cond.initialized y.cls).before a0 Z = true) (w4 : (Cond.code y bytes maxL none).before a0 Z = true) (hy : y.cls ≠ "java/lang/invoke/MethodHandle" ∧ y.cls ≠ "java/lang/invoke/VarHandle") (eT : T.heap = h) {b : Addr}
    (hM : MetFree l y (head1 [Cond.code y bytes maxL none] rm) (fun a U => a = (.ref b :: argsL).toArray ∧ Z.Warmed39 U.vm ∧ U.heap = h) (fun _ _ _ _ _ => True) (fun _ U o U' => ∃ v L, o = .returned v ∧ Q v U'.heap L ∧ FrameEnd U o U' L rm.cells rm.slots))
    (hsize : Ls.size = c.maxLocals) {ps : List FieldType} {rt : Option FieldType} (hdesc : parseMethodDescriptor y.desc = some ⟨ps, rt⟩) (hlen : argsL.length = ps.length) {st : List Value} (hst : st = argsL.reverse ++ .ref b :: rest) (hd : decode c.code pc = .ok (.invokespecial index, 3)) (W : Nat) (hW : (rest.map fun v => v.category).sum ≤ W) (hf : rm.frames + 1 ≤ R.frames) (hl : W + (maxL + 11) + rm.locals ≤ R.locals) (hc : cells + rm.cells ≤ R.cells) (hs : slots + rm.slots ≤ R.slots) (pc' : Nat) (hp : pc + 3 = pc')
    (k : ∀ (T' : State) (L : List Loc) (v : Option Value), Stand p l e R s m args below meth c T' (locs ++ L) (cells + rm.cells) (slots + rm.slots) → Q v T'.heap L → own_Go p e below G (T'.setTop (mkF m pc' Ls (v.toList ++ rest)))) : own_Go p e below G (T.setTop (mkF m pc Ls st)) := by
  subst hp hst
  obtain ⟨v, _, ⟨T', L', k', n'⟩, -, X', ⟨Lc, hQ, l', y', z'⟩, st⟩ := X.specialBack hx hy1 hown (mvT hZ w1) (mvT hZ w2) (mvT hZ w4) hy (backOf (W := W) hM hZ w4 w3 hf hl) (g := mkF m pc Ls (argsL.reverse ++ .ref b :: rest)) rfl hsize (Steps.refl _) (a := b) (argsL := argsL) (rest := rest) (lenOf hdesc hlen) rfl (by show 2 * 0 + _ ≤ W; rw [Nat.mul_zero, Nat.zero_add]; exact hW) hd (fun _ _ => ⟨rfl, eT, hc, hs⟩)
  dsimp only [Pt.U, Pt.locs, Pt.cells, Pt.slots] at X' l' y' z' st hQ
  subst l' y' z'
  exact own_go (fun t q => st.trans q) (k T' Lc v X' hQ)
theorem own_callV {bytes : ByteArray} {maxL : Nat} {ret : Option FieldType} {rm : Room} {y z : MethodName} {argsL : List Value} {Q : Option Value → Heap → List Loc → Prop} (X : Stand p l e R s m args below meth c T locs cells slots) (hx : p.tables.exec = Jvm.exec) (hZ : Z.Warmed39 s.vm) {own C : String} {index : Nat} (hown : s.vm.findClass own = some m.cls) (w1 : (Cond.methodLink own index y).before a0 Z = true) (w2 : (Cond.declares y).before a0 Z = true) (w5 : (Cond.selects C y z).before a0 Z = true) (nf : NotFace s y) (w6 : (Cond.instanceMethod z).before a0 Z = true) (w3 : (Cond.initialized z.cls).before a0 Z = true) (w4 : (Cond.code z bytes maxL ret).before a0 Z = true) (hy : y.cls ≠ "java/lang/invoke/MethodHandle" ∧ y.cls ≠ "java/lang/invoke/VarHandle") (eT : T.heap = h) {b : Addr} (E : Exa Z h b C)
    (hM : MetFree l z (head1 [Cond.code z bytes maxL ret] rm) (fun a U => a = (.ref b :: argsL).toArray ∧ Z.Warmed39 U.vm ∧ U.heap = h) (fun _ _ _ _ _ => True) (fun _ U o U' => ∃ v L, o = .returned v ∧ Q v U'.heap L ∧ FrameEnd U o U' L rm.cells rm.slots))
    (hsize : Ls.size = c.maxLocals) {ps : List FieldType} {rt : Option FieldType} (hdesc : parseMethodDescriptor y.desc = some ⟨ps, rt⟩) (hlen : argsL.length = ps.length) {st : List Value} (hst : st = argsL.reverse ++ .ref b :: rest) (hd : decode c.code pc = .ok (.invokevirtual index, 3)) (W : Nat) (hW : (rest.map fun v => v.category).sum ≤ W) (hf : rm.frames + 1 ≤ R.frames) (hl : W + (maxL + 11) + rm.locals ≤ R.locals) (hc : cells + rm.cells ≤ R.cells) (hs : slots + rm.slots ≤ R.slots) (pc' : Nat) (hp : pc + 3 = pc')
    (k : ∀ (T' : State) (L : List Loc) (v : Option Value), Stand p l e R s m args below meth c T' (locs ++ L) (cells + rm.cells) (slots + rm.slots) → Q v T'.heap L → own_Go p e below G (T'.setTop (mkF m pc' Ls (v.toList ++ rest)))) : own_Go p e below G (T.setTop (mkF m pc Ls st)) := by
  subst hp hst
  obtain ⟨cq, kq, qa, qb, qc⟩ := isOf hZ eT E
  obtain ⟨v, _, ⟨T', L', k', n'⟩, -, X', ⟨Lc, hQ, l', y', z'⟩, st⟩ := X.virtualBack hx (y := y) (z := z) hown (mvT hZ w1) (mvT hZ w2) nf (mvT hZ w5) (mvT hZ w6) hy (backOf (W := W) hM hZ w4 w3 hf hl) qa qc (g := mkF m pc Ls (argsL.reverse ++ .ref b :: rest)) rfl hsize (Steps.refl _) (argsL := argsL) (rest := rest) (lenOf hdesc hlen) rfl (by show 2 * 0 + _ ≤ W; rw [Nat.mul_zero, Nat.zero_add]; exact hW) hd (fun _ _ => ⟨rfl, eT, hc, hs⟩)
  dsimp only [Pt.U, Pt.locs, Pt.cells, Pt.slots] at X' l' y' z' st hQ
  subst l' y' z'
  exact own_go (fun t q => st.trans q) (k T' Lc v X' hQ)
def own_A {α : Type} (ty : FieldType) (f : α → Value) (Z : State) (h : Heap) (a : Addr) (L : List α) : Prop := ∃ cl : Cell, Arr Z h a cl ty ∧ cl.slots = (L.map f).toArray ∧ L.length < 2147483648
section OwnArr
variable {α : Type} {ty : FieldType} {f : α → Value} {h' : Heap} {a b : Addr} {L : List α}
theorem own_A.lt (F : own_A ty f Z h a L) : a < h.size := by obtain ⟨cl, A, -⟩ := F; exact A.lt
theorem own_A.ext (F : own_A ty f Z h a L) (E : Ext h h') : own_A ty f Z h' a L := by obtain ⟨cl, A, r⟩ := F; exact ⟨cl, A.ext E, r⟩
theorem own_A.other {sl : Nat} {v : Value} (F : own_A ty f Z h b L) (W : Wr h h' a sl v) (q : b ≠ a) : own_A ty f Z h' b L := by obtain ⟨cl, A, r⟩ := F; exact ⟨cl, A.other W q, r⟩
theorem own_A.keep {ws : List Addr} (F : own_A ty f Z h a L) (K : Keep h h' ws) (q : a ∉ ws) : own_A ty f Z h' a L := by obtain ⟨cl, A, r⟩ := F; exact ⟨cl, ⟨K.2.1 a cl A.1 q, A.2⟩, r⟩
theorem own_A.len (F : own_A ty f Z h a L) : L.length < 2147483648 := by obtain ⟨cl, A, -, r⟩ := F; exact r
theorem own_A.set {i : Nat} {x : α} (F : own_A ty f Z h a L) (W : Wr h h' a i (f x)) : own_A ty f Z h' a (L.set i x) := by
  obtain ⟨cl, A, r, r'⟩ := F
  refine ⟨_, A.same W, ?_, by simpa using r'⟩
  show cl.slots.setIfInBounds i (f x) = _
  rw [r, List.map_set]; simp
theorem own_idx {j : Int32} {i n : Nat} (hj : j = Int32.ofNat i) (hi : i < n) (hn : n < 2147483648) : ¬ (j < 0 ∨ n ≤ j.toNatClampNeg) ∧ j.toNatClampNeg = i := by
  subst hj
  have q : (Int32.ofNat i).toInt = i := Int32.toInt_ofNat_of_lt (by omega)
  have q2 : (Int32.ofNat i).toNatClampNeg = i := by rw [Int32.toNatClampNeg, q]; rfl
  refine ⟨fun z => z.elim (fun z => ?_) fun z => by omega, q2⟩
  rw [Int32.lt_iff_toInt_lt, q, show (0 : Int32).toInt = 0 from rfl] at z; omega
theorem own_A.new {k : ClassId} {n : Int32} {d : α} (hd : f d = defaultValue ty) (A : Arr Z h a (newA k ty n) ty) (i : Nat) (hn : n = Int32.ofNat i) (hi : i < 2147483648) : own_A ty f Z h a (List.replicate i d) := by
  refine ⟨_, A, ?_, by simpa using hi⟩
  have q := (own_idx hn (Nat.lt_succ_self i) (n := i + 1))
  have q2 : n.toNatClampNeg = i := by
    subst hn
    rw [Int32.toNatClampNeg, Int32.toInt_ofNat_of_lt (by omega)]; rfl
  simp [newA, q2, hd]
end OwnArr
end OwnSteps
theorem own_w {Z : State} {a0 : Array Value} (hw : ∀ d ∈ tables_1, d.before a0 Z = true) (i : Nat) {d : Cond} (h : tables_1[i]? = some d) : d.before a0 Z = true := hw d (List.mem_of_getElem? h)
abbrev oc0 : String := "com/example/equitide/equitide/policy/backfilling/PlannedEnds$Window"
section OwnSn
variable {Z : State} {a0 : Array Value}
theorem sn_0 (hw : ∀ d ∈ tables_1, d.before a0 Z = true) : Jvm.RoadKit.slotOf Z oc0 "extra" "J" ≠ Jvm.RoadKit.slotOf Z oc0 "free" "J" := slot_ne (C := oc0) (Or.inr (own_w hw 17 rfl)) (Or.inr (own_w hw 15 rfl)) (by decide) (t := .long) (t' := .long) (by decide) (by decide)
theorem sn_1 (hw : ∀ d ∈ tables_1, d.before a0 Z = true) : Jvm.RoadKit.slotOf Z oc0 "longest" "J" ≠ Jvm.RoadKit.slotOf Z oc0 "free" "J" := slot_ne (C := oc0) (Or.inr (own_w hw 19 rfl)) (Or.inr (own_w hw 15 rfl)) (by decide) (t := .long) (t' := .long) (by decide) (by decide)
theorem sn_2 (hw : ∀ d ∈ tables_1, d.before a0 Z = true) : Jvm.RoadKit.slotOf Z oc0 "free" "J" ≠ Jvm.RoadKit.slotOf Z oc0 "extra" "J" := slot_ne (C := oc0) (Or.inr (own_w hw 15 rfl)) (Or.inr (own_w hw 17 rfl)) (by decide) (t := .long) (t' := .long) (by decide) (by decide)
theorem sn_3 (hw : ∀ d ∈ tables_1, d.before a0 Z = true) : Jvm.RoadKit.slotOf Z oc0 "longest" "J" ≠ Jvm.RoadKit.slotOf Z oc0 "extra" "J" := slot_ne (C := oc0) (Or.inr (own_w hw 19 rfl)) (Or.inr (own_w hw 17 rfl)) (by decide) (t := .long) (t' := .long) (by decide) (by decide)
theorem sn_4 (hw : ∀ d ∈ tables_1, d.before a0 Z = true) : Jvm.RoadKit.slotOf Z oc0 "free" "J" ≠ Jvm.RoadKit.slotOf Z oc0 "longest" "J" := slot_ne (C := oc0) (Or.inr (own_w hw 15 rfl)) (Or.inr (own_w hw 19 rfl)) (by decide) (t := .long) (t' := .long) (by decide) (by decide)
theorem sn_5 (hw : ∀ d ∈ tables_1, d.before a0 Z = true) : Jvm.RoadKit.slotOf Z oc0 "extra" "J" ≠ Jvm.RoadKit.slotOf Z oc0 "longest" "J" := slot_ne (C := oc0) (Or.inr (own_w hw 17 rfl)) (Or.inr (own_w hw 19 rfl)) (by decide) (t := .long) (t' := .long) (by decide) (by decide)
end OwnSn
theorem own_isl {args : Array Value} {first s : State} {o : Option Outcome} {idx : List Nat} {t : Term} (h : (Cond.isLong t).value args first o s idx = some true) : ∃ x, t.eval args first o idx s = some (.long x) := isL_v h
theorem d1_0 : decode prog_67_method_1_code 0 = .ok (.aload_n 0, 1) := by decide +kernel
theorem d1_1 : decode prog_67_method_1_code 1 = .ok (.invokespecial 1, 3) := by decide +kernel
theorem d1_4 : decode prog_67_method_1_code 4 = .ok (.aload_n 0, 1) := by decide +kernel
theorem d1_5 : decode prog_67_method_1_code 5 = .ok (.lload_n 1, 1) := by decide +kernel
theorem d1_6 : decode prog_67_method_1_code 6 = .ok (.putfield 7, 3) := by decide +kernel
theorem d1_9 : decode prog_67_method_1_code 9 = .ok (.aload_n 0, 1) := by decide +kernel
theorem d1_10 : decode prog_67_method_1_code 10 = .ok (.lload_n 3, 1) := by decide +kernel
theorem d1_11 : decode prog_67_method_1_code 11 = .ok (.putfield 13, 3) := by decide +kernel
theorem d1_14 : decode prog_67_method_1_code 14 = .ok (.aload_n 0, 1) := by decide +kernel
theorem d1_15 : decode prog_67_method_1_code 15 = .ok (.lload 5, 2) := by decide +kernel
theorem d1_17 : decode prog_67_method_1_code 17 = .ok (.putfield 16, 3) := by decide +kernel
theorem d1_20 : decode prog_67_method_1_code 20 = .ok (.return_, 1) := by decide +kernel
theorem d2_0 : decode jdk_30_method_1_code 0 = .ok (.aload_n 0, 1) := by decide +kernel
theorem d2_1 : decode jdk_30_method_1_code 1 = .ok (.invokespecial 1, 3) := by decide +kernel
theorem d2_4 : decode jdk_30_method_1_code 4 = .ok (.return_, 1) := by decide +kernel
theorem d4_0 : decode prog_67_method_2_code 0 = .ok (.new 8, 3) := by decide +kernel
theorem d4_3 : decode prog_67_method_2_code 3 = .ok (.dup, 1) := by decide +kernel
theorem d4_4 : decode prog_67_method_2_code 4 = .ok (.lload_n 0, 1) := by decide +kernel
theorem d4_5 : decode prog_67_method_2_code 5 = .ok (.lload_n 0, 1) := by decide +kernel
theorem d4_6 : decode prog_67_method_2_code 6 = .ok (.ldc2_w 19, 3) := by decide +kernel
theorem d4_9 : decode prog_67_method_2_code 9 = .ok (.invokespecial 21, 3) := by decide +kernel
theorem d4_12 : decode prog_67_method_2_code 12 = .ok (.areturn, 1) := by decide +kernel
theorem d5_0 : decode prog_67_method_3_code 0 = .ok (.lload_n 1, 1) := by decide +kernel
theorem d5_1 : decode prog_67_method_3_code 1 = .ok (.aload_n 0, 1) := by decide +kernel
theorem d5_2 : decode prog_67_method_3_code 2 = .ok (.getfield 7, 3) := by decide +kernel
theorem d5_5 : decode prog_67_method_3_code 5 = .ok (.lcmp, 1) := by decide +kernel
theorem d5_6 : decode prog_67_method_3_code 6 = .ok (.ifCond .gt 25, 3) := by decide +kernel
theorem d5_9 : decode prog_67_method_3_code 9 = .ok (.lload_n 1, 1) := by decide +kernel
theorem d5_10 : decode prog_67_method_3_code 10 = .ok (.aload_n 0, 1) := by decide +kernel
theorem d5_11 : decode prog_67_method_3_code 11 = .ok (.getfield 13, 3) := by decide +kernel
theorem d5_14 : decode prog_67_method_3_code 14 = .ok (.lcmp, 1) := by decide +kernel
theorem d5_15 : decode prog_67_method_3_code 15 = .ok (.ifCond .le 12, 3) := by decide +kernel
theorem d5_18 : decode prog_67_method_3_code 18 = .ok (.lload_n 3, 1) := by decide +kernel
theorem d5_19 : decode prog_67_method_3_code 19 = .ok (.aload_n 0, 1) := by decide +kernel
theorem d5_20 : decode prog_67_method_3_code 20 = .ok (.getfield 16, 3) := by decide +kernel
theorem d5_23 : decode prog_67_method_3_code 23 = .ok (.lcmp, 1) := by decide +kernel
theorem d5_24 : decode prog_67_method_3_code 24 = .ok (.ifCond .gt 7, 3) := by decide +kernel
theorem d5_27 : decode prog_67_method_3_code 27 = .ok (.iconst 1, 1) := by decide +kernel
theorem d5_28 : decode prog_67_method_3_code 28 = .ok (.goto 4, 3) := by decide +kernel
theorem d5_31 : decode prog_67_method_3_code 31 = .ok (.iconst 0, 1) := by decide +kernel
theorem d5_32 : decode prog_67_method_3_code 32 = .ok (.ireturn, 1) := by decide +kernel
abbrev own_y2 : MethodName := ⟨"java/lang/Record", "<init>", "()V"⟩
abbrev own_y1 : MethodName := ⟨"com/example/equitide/equitide/policy/backfilling/PlannedEnds$Window", "<init>", "(JJJ)V"⟩
abbrev own_y4 : MethodName := ⟨"com/example/equitide/equitide/policy/backfilling/PlannedEnds$Window", "fitting", "(J)Lcom/example/equitide/equitide/policy/backfilling/PlannedEnds$Window;"⟩
abbrev own_y5 : MethodName := ⟨"com/example/equitide/equitide/policy/backfilling/PlannedEnds$Window", "admits", "(JJ)Z"⟩
theorem pf_2 : plainFor own_y2 = true := by decide +kernel
theorem pf_1 : plainFor own_y1 = true := by decide +kernel
theorem pf_4 : plainFor own_y4 = true := by decide +kernel
theorem pf_5 : plainFor own_y5 = true := by decide +kernel
theorem pn_0 : plainName "com/example/equitide/equitide/policy/backfilling/WindowAdmitsPinLaw" = true := by first | (simp [plainName, overriddenIn]; done) | decide +kernel
theorem pd_0 : parseMethodDescriptor "()V" = some ⟨[], none⟩ := by decide +kernel
theorem pd_1 : parseMethodDescriptor "(JJJ)V" = some ⟨[.long, .long, .long], none⟩ := by decide +kernel
theorem pd_2 : parseMethodDescriptor "(J)Lcom/example/equitide/equitide/policy/backfilling/PlannedEnds$Window;" = some ⟨[.long], some (.object "com/example/equitide/equitide/policy/backfilling/PlannedEnds$Window")⟩ := by decide +kernel
theorem pd_3 : parseMethodDescriptor "(JJ)Z" = some ⟨[.long, .long], some .boolean⟩ := by decide +kernel
def own_adm (fr ex lo p n : Int64) : Int32 := if fr < p then 0 else if ex < p then (if lo < n then 0 else 1) else 1
def own_exp (fr ex lo p n : Int64) : Int32 := if fr < p then 0 else if lo < n then (if ex < p then 0 else 1) else 1
theorem own_same (fr ex lo p n : Int64) : own_adm fr ex lo p n = own_exp fr ex lo p n := by
  unfold own_adm own_exp
  by_cases h1 : fr < p <;> by_cases h2 : ex < p <;> by_cases h3 : lo < n <;> simp only [h1, h2, h3, ↓reduceIte]
theorem own_fit (fr lo p n : Int64) : own_adm fr fr lo p n = if fr < p then 0 else 1 := by
  unfold own_adm
  by_cases h1 : fr < p <;> simp only [h1, ↓reduceIte]
def Q2 (h0 : Heap) (n0 : Nat) (v : Option Value) (h : Heap) (L : List Loc) : Prop := v = none ∧ Fr n0 L ∧ h = h0
theorem ef_rm2 (m : MethodId) (x0 : Addr) : entryFrame m #[(.ref x0)] 1 = mkF m 0 #[.val (.ref x0)] [] := by first | (simp [entryFrame, mkF, argsToLocals, Value.category, maxLocals]; done) | rfl
set_option maxRecDepth 65536 in
set_option maxHeartbeats 40000000 in
theorem rm2 (l : Launch) (Z : State) (a0 : Array Value) (hw : ∀ d ∈ tables_1, d.before a0 Z = true) (ws : List Jvm.Cond) (a : Addr) (h0 : Heap) (n0 : Nat)  :
    MetFree l own_y2 (head1 (Jvm.Cond.code own_y2 jdk_30_method_1_code 1 none :: ws) ({ frames := 1, cells := 0, slots := 0, locals := 12 } : Room)) (fun aR U => aR = #[(.ref a)] ∧ Z.Warmed39 U.vm ∧ U.heap = h0) (fun _ _ _ _ _ => True) (fun _ U o U' => ∃ v L, o = .returned v ∧ Q2 h0 n0 v U'.heap L ∧ FrameEnd U o U' L ({ frames := 1, cells := 0, slots := 0, locals := 12 } : Room).cells ({ frames := 1, cells := 0, slots := 0, locals := 12 } : Room).slots) := by
  refine MetFree.of_bodySF pf_2 hisR ?_
  intro p e s m args below meth c s₁ Bd hml0 hP hK
  obtain ⟨rfl, hZ, hhE⟩ := hP
  have hx := Bd.exec
  have hby := Bd.bytes
  have hml : c.maxLocals = 1 := hml0
  have hown : s.vm.findClass "java/lang/Record" = some m.cls := findClass_of_methodNamed Bd.named
  have hnm := (name_of_methodNamed Bd.named Bd.method).1
  have X0 : Stand p l e ({ frames := 1, cells := 0, slots := 0, locals := 12 } : Room) s m #[(.ref a)] below meth c s₁ [] 0 0 := Stand.of_body Bd
  have e0 : s₁.heap = h0 := by rw [← hhE, Bd.state]; rfl
  have N0 := Fr.nil n0
  show own_Go p e below (own_Post s (Q2 h0 n0) ({ frames := 1, cells := 0, slots := 0, locals := 12 } : Room).cells ({ frames := 1, cells := 0, slots := 0, locals := 12 } : Room).slots) (s₁.setTop (entryFrame m #[(.ref a)] 1))
  rw [ef_rm2]
  generalize hG : own_Post s (Q2 h0 n0) ({ frames := 1, cells := 0, slots := 0, locals := 12 } : Room).cells ({ frames := 1, cells := 0, slots := 0, locals := 12 } : Room).slots = G
  refine own_aloadN X0 hx (hb hby d2_0) rfl rfl 1 rfl ?_
  refine own_initO X0 hx hZ hown (own_w hw 11 rfl) (own_w hw 12 rfl) (own_w hw 13 rfl) e0 (by rw [hml]; rfl) (hb hby d2_1) (by decide) 0 (Nat.le_of_eq rfl) (by decide) 4 rfl (fun T1 X1 e1 => ?_)
  refine own_return X1 hx Bd.notSynchronized hG Bd.returns (hb hby d2_4) (by decide) (by decide) ?_
  rw [e1]
  exact ⟨rfl, N0, rfl⟩
def Q1 (Z : State) (a : Addr) (fr ex lo : Int64) (h0 : Heap) (n0 : Nat) (v : Option Value) (h : Heap) (L : List Loc) : Prop := v = none ∧ Fr n0 L ∧ Keep h0 h [a] ∧ Exa Z h a "com/example/equitide/equitide/policy/backfilling/PlannedEnds$Window" ∧ Fld Z h a "com/example/equitide/equitide/policy/backfilling/PlannedEnds$Window" "free" "J" (.long fr) ∧ Fld Z h a "com/example/equitide/equitide/policy/backfilling/PlannedEnds$Window" "extra" "J" (.long ex) ∧ Fld Z h a "com/example/equitide/equitide/policy/backfilling/PlannedEnds$Window" "longest" "J" (.long lo)
theorem ef_rm1 (m : MethodId) (x0 : Addr) (x1 : Int64) (x2 : Int64) (x3 : Int64) : entryFrame m #[(.ref x0), (.long x1), (.long x2), (.long x3)] 7 = mkF m 0 #[.val (.ref x0), .val (.long x1), .second, .val (.long x2), .second, .val (.long x3), .second] [] := by first | (simp [entryFrame, mkF, argsToLocals, Value.category, maxLocals]; done) | rfl
set_option maxRecDepth 65536 in
set_option maxHeartbeats 40000000 in
theorem rm1 (l : Launch) (Z : State) (a0 : Array Value) (hw : ∀ d ∈ tables_1, d.before a0 Z = true) (ws : List Jvm.Cond) (a : Addr) (fr ex lo : Int64) (h0 : Heap) (n0 : Nat) (Z0 : n0 ≤ h0.size) (ga : n0 ≤ a) (E0 : Exa Z h0 a "com/example/equitide/equitide/policy/backfilling/PlannedEnds$Window") (F0 : Fld Z h0 a "com/example/equitide/equitide/policy/backfilling/PlannedEnds$Window" "free" "J" (.long 0)) (F1 : Fld Z h0 a "com/example/equitide/equitide/policy/backfilling/PlannedEnds$Window" "extra" "J" (.long 0)) (F2 : Fld Z h0 a "com/example/equitide/equitide/policy/backfilling/PlannedEnds$Window" "longest" "J" (.long 0)) :
    MetFree l own_y1 (head1 (Jvm.Cond.code own_y1 prog_67_method_1_code 7 none :: ws) ({ frames := 2, cells := 0, slots := 0, locals := 24 } : Room)) (fun aR U => aR = #[(.ref a), (.long fr), (.long ex), (.long lo)] ∧ Z.Warmed39 U.vm ∧ U.heap = h0) (fun _ _ _ _ _ => True) (fun _ U o U' => ∃ v L, o = .returned v ∧ Q1 Z a fr ex lo h0 n0 v U'.heap L ∧ FrameEnd U o U' L ({ frames := 2, cells := 0, slots := 0, locals := 24 } : Room).cells ({ frames := 2, cells := 0, slots := 0, locals := 24 } : Room).slots) := by
  refine MetFree.of_bodySF pf_1 hisR ?_
  intro p e s m args below meth c s₁ Bd hml0 hP hK
  obtain ⟨rfl, hZ, hhE⟩ := hP
  have hx := Bd.exec
  have hby := Bd.bytes
  have hml : c.maxLocals = 7 := hml0
  have hown : s.vm.findClass "com/example/equitide/equitide/policy/backfilling/PlannedEnds$Window" = some m.cls := findClass_of_methodNamed Bd.named
  have hnm := (name_of_methodNamed Bd.named Bd.method).1
  have X0 : Stand p l e ({ frames := 2, cells := 0, slots := 0, locals := 24 } : Room) s m #[(.ref a), (.long fr), (.long ex), (.long lo)] below meth c s₁ [] 0 0 := Stand.of_body Bd
  have e0 : s₁.heap = h0 := by rw [← hhE, Bd.state]; rfl
  have N0 := Fr.nil n0
  show own_Go p e below (own_Post s (Q1 Z a fr ex lo h0 n0) ({ frames := 2, cells := 0, slots := 0, locals := 24 } : Room).cells ({ frames := 2, cells := 0, slots := 0, locals := 24 } : Room).slots) (s₁.setTop (entryFrame m #[(.ref a), (.long fr), (.long ex), (.long lo)] 7))
  rw [ef_rm1]
  generalize hG : own_Post s (Q1 Z a fr ex lo h0 n0) ({ frames := 2, cells := 0, slots := 0, locals := 24 } : Room).cells ({ frames := 2, cells := 0, slots := 0, locals := 24 } : Room).slots = G
  refine own_aloadN X0 hx (hb hby d1_0) rfl rfl 1 rfl ?_
  refine own_callI X0 hx hZ rfl hown (own_w hw 6 rfl) (own_w hw 7 rfl) (own_w hw 9 rfl) (own_w hw 10 rfl) (by decide) e0 (rm2 l Z a0 hw [] a h0 n0) (by rw [hml]; rfl) pd_0 (argsL := []) rfl (rest := []) rfl (hb hby d1_1) 0 (Nat.le_of_eq rfl) (by decide) (by decide) (by decide) (by decide) 4 rfl (fun T2 L2 v2 X2 hQ2 => ?_)
  obtain ⟨rfl, N2, e2⟩ := hQ2
  have N3 := Fr.app N0 N2
  show own_Go p e below G (T2.setTop (mkF m 4 #[.val (.ref a), .val (.long fr), .second, .val (.long ex), .second, .val (.long lo), .second] []))
  have K0 : Keep h0 h0 [a] := Keep.refl _ _
  refine own_aloadN X2 hx (hb hby d1_4) rfl rfl 5 rfl ?_
  refine own_lloadN X2 hx (hb hby d1_5) rfl 6 rfl ?_
  refine own_putF X2 hx hZ hown (own_w hw 14 rfl) Via.refl e2 F0 E0 (Or.inr ⟨(own_w hw 15 rfl), rfl, hnm⟩) (own_w hw 1 rfl) (ty := .long) (v' := (.long fr)) (by decide) rfl rfl (hb hby d1_6) 9 rfl (fun T4 h4 X4 e4 W4 => ?_)
  have N5 := Fr.snoc X4 N3 ga
  have Z6 : n0 ≤ h4.size := by rw [W4.size]; exact Z0
  have E7 := E0.wr W4
  have F8 := F0.same W4
  have F9 := F1.other W4 (Or.inr (sn_0 hw))
  have F10 := F2.other W4 (Or.inr (sn_1 hw))
  have K11 := Keep.wr K0 W4 (Or.inl (List.mem_singleton.mpr rfl))
  refine own_aloadN X4 hx (hb hby d1_9) rfl rfl 10 rfl ?_
  refine own_lloadN X4 hx (hb hby d1_10) rfl 11 rfl ?_
  refine own_putF X4 hx hZ hown (own_w hw 16 rfl) Via.refl e4 F9 E7 (Or.inr ⟨(own_w hw 17 rfl), rfl, hnm⟩) (own_w hw 1 rfl) (ty := .long) (v' := (.long ex)) (by decide) rfl rfl (hb hby d1_11) 14 rfl (fun T12 h12 X12 e12 W12 => ?_)
  have N13 := Fr.snoc X12 N5 ga
  have Z14 : n0 ≤ h12.size := by rw [W12.size]; exact Z6
  have E15 := E7.wr W12
  have F16 := F8.other W12 (Or.inr (sn_2 hw))
  have F17 := F9.same W12
  have F18 := F10.other W12 (Or.inr (sn_3 hw))
  have K19 := Keep.wr K11 W12 (Or.inl (List.mem_singleton.mpr rfl))
  refine own_aloadN X12 hx (hb hby d1_14) rfl rfl 15 rfl ?_
  refine own_lload X12 hx (hb hby d1_15) rfl 17 rfl ?_
  refine own_putF X12 hx hZ hown (own_w hw 18 rfl) Via.refl e12 F18 E15 (Or.inr ⟨(own_w hw 19 rfl), rfl, hnm⟩) (own_w hw 1 rfl) (ty := .long) (v' := (.long lo)) (by decide) rfl rfl (hb hby d1_17) 20 rfl (fun T20 h20 X20 e20 W20 => ?_)
  have N21 := Fr.snoc X20 N13 ga
  have Z22 : n0 ≤ h20.size := by rw [W20.size]; exact Z14
  have E23 := E15.wr W20
  have F24 := F16.other W20 (Or.inr (sn_4 hw))
  have F25 := F17.other W20 (Or.inr (sn_5 hw))
  have F26 := F18.same W20
  have K27 := Keep.wr K19 W20 (Or.inl (List.mem_singleton.mpr rfl))
  refine own_return X20 hx Bd.notSynchronized hG Bd.returns (hb hby d1_20) (by decide) (by decide) ?_
  rw [e20]
  exact ⟨rfl, N21, K27, E23, F24, F25, F26⟩
def Q4 (Z : State) (fr : Int64) (h0 : Heap) (n0 : Nat) (v : Option Value) (h : Heap) (L : List Loc) : Prop := ∃ b : Addr, v = some (.ref b) ∧ Fr n0 L ∧ Keep h0 h [] ∧ Exa Z h b "com/example/equitide/equitide/policy/backfilling/PlannedEnds$Window" ∧ Fld Z h b "com/example/equitide/equitide/policy/backfilling/PlannedEnds$Window" "free" "J" (.long fr) ∧ Fld Z h b "com/example/equitide/equitide/policy/backfilling/PlannedEnds$Window" "extra" "J" (.long fr) ∧ Fld Z h b "com/example/equitide/equitide/policy/backfilling/PlannedEnds$Window" "longest" "J" (.long (-1))
theorem ef_rm4 (m : MethodId) (x0 : Int64) : entryFrame m #[(.long x0)] 2 = mkF m 0 #[.val (.long x0), .second] [] := by first | (simp [entryFrame, mkF, argsToLocals, Value.category, maxLocals]; done) | rfl
set_option maxRecDepth 65536 in
set_option maxHeartbeats 40000000 in
theorem rm4 (l : Launch) (Z : State) (a0 : Array Value) (hw : ∀ d ∈ tables_1, d.before a0 Z = true) (ws : List Jvm.Cond) (fr : Int64) (h0 : Heap) (n0 : Nat) (Z0 : n0 ≤ h0.size) :
    MetFree l own_y4 (head1 (Jvm.Cond.code own_y4 prog_67_method_2_code 2 (some (.object "com/example/equitide/equitide/policy/backfilling/PlannedEnds$Window")) :: ws) ({ frames := 3, cells := 1, slots := 3, locals := 44 } : Room)) (fun aR U => aR = #[(.long fr)] ∧ Z.Warmed39 U.vm ∧ U.heap = h0) (fun _ _ _ _ _ => True) (fun _ U o U' => ∃ v L, o = .returned v ∧ Q4 Z fr h0 n0 v U'.heap L ∧ FrameEnd U o U' L ({ frames := 3, cells := 1, slots := 3, locals := 44 } : Room).cells ({ frames := 3, cells := 1, slots := 3, locals := 44 } : Room).slots) := by
  refine MetFree.of_bodySF pf_4 hisR ?_
  intro p e s m args below meth c s₁ Bd hml0 hP hK
  obtain ⟨rfl, hZ, hhE⟩ := hP
  have hx := Bd.exec
  have hby := Bd.bytes
  have hml : c.maxLocals = 2 := hml0
  have hown : s.vm.findClass "com/example/equitide/equitide/policy/backfilling/PlannedEnds$Window" = some m.cls := findClass_of_methodNamed Bd.named
  have hnm := (name_of_methodNamed Bd.named Bd.method).1
  have X0 : Stand p l e ({ frames := 3, cells := 1, slots := 3, locals := 44 } : Room) s m #[(.long fr)] below meth c s₁ [] 0 0 := Stand.of_body Bd
  have e0 : s₁.heap = h0 := by rw [← hhE, Bd.state]; rfl
  have N0 := Fr.nil n0
  show own_Go p e below (own_Post s (Q4 Z fr h0 n0) ({ frames := 3, cells := 1, slots := 3, locals := 44 } : Room).cells ({ frames := 3, cells := 1, slots := 3, locals := 44 } : Room).slots) (s₁.setTop (entryFrame m #[(.long fr)] 2))
  rw [ef_rm4]
  generalize hG : own_Post s (Q4 Z fr h0 n0) ({ frames := 3, cells := 1, slots := 3, locals := 44 } : Room).cells ({ frames := 3, cells := 1, slots := 3, locals := 44 } : Room).slots = G
  refine own_newO X0 hx hZ hown (own_w hw 23 rfl) (own_w hw 1 rfl) (own_w hw 2 rfl) e0 (hb hby d4_0) (by decide) (by decide) 3 rfl (fun T28 h28 a28 g28 X28 e28 E28 A28 D28 => ?_)
  have ge29 : n0 ≤ a28 := by rw [g28]; exact Z0
  have Z30 : n0 ≤ h28.size := Nat.le_trans Z0 E28.1
  have F31 : Fld Z h28 a28 "com/example/equitide/equitide/policy/backfilling/PlannedEnds$Window" "free" "J" (.long (0 : Int64)) := D28 (Or.inr (own_w hw 15 rfl)) (ty := .long) (by decide)
  have F32 : Fld Z h28 a28 "com/example/equitide/equitide/policy/backfilling/PlannedEnds$Window" "extra" "J" (.long (0 : Int64)) := D28 (Or.inr (own_w hw 17 rfl)) (ty := .long) (by decide)
  have F33 : Fld Z h28 a28 "com/example/equitide/equitide/policy/backfilling/PlannedEnds$Window" "longest" "J" (.long (0 : Int64)) := D28 (Or.inr (own_w hw 19 rfl)) (ty := .long) (by decide)
  refine own_dup X28 hx (hb hby d4_3) rfl 4 rfl ?_
  refine own_lloadN X28 hx (hb hby d4_4) rfl 5 rfl ?_
  refine own_lloadN X28 hx (hb hby d4_5) rfl 6 rfl ?_
  refine own_ldc2Long X28 hx hown (mvT hZ (own_w hw 24 rfl)) (hb hby d4_6) 9 rfl ?_
  refine own_callI X28 hx hZ rfl hown (own_w hw 25 rfl) (own_w hw 4 rfl) (own_w hw 2 rfl) (own_w hw 5 rfl) (by decide) e28 (rm1 l Z a0 hw [] a28 fr fr (-1 : Int64) h28 n0 Z30 ge29 A28 F31 F32 F33) (by rw [hml]; rfl) pd_1 (argsL := [(.long fr), (.long fr), (.long (-1 : Int64))]) rfl (rest := [(.ref a28)]) rfl (hb hby d4_9) 1 (Nat.le_of_eq rfl) (by decide) (by decide) (by decide) (by decide) 12 rfl (fun T34 L34 v34 X34 hQ34 => ?_)
  obtain ⟨rfl, N34, K34, E34, Fa34, Fb34, Fc34⟩ := hQ34
  have N35 := Fr.app N0 N34
  have E36 := A28.keep K34
  have Z37 : n0 ≤ T34.heap.size := Nat.le_trans Z30 K34.1
  show own_Go p e below G (T34.setTop (mkF m 12 #[.val (.long fr), .second] [(.ref a28)]))
  refine own_areturn X34 hx Bd.notSynchronized hG Bd.returns rfl rfl rfl (hb hby d4_12) (by decide) (by decide) ?_
  skip
  exact ⟨_, rfl, N35, ((Keep.refl _ _).ext E28).trans K34 (allS (Or.inr (Nat.le_of_eq g28.symm)) all0), E34, Fa34, Fb34, Fc34⟩
def Q5 (fr ex lo p n : Int64) (h0 : Heap) (n0 : Nat) (v : Option Value) (h : Heap) (L : List Loc) : Prop := v = some (.int (own_adm fr ex lo p n)) ∧ Fr n0 L ∧ h = h0
theorem ef_rm5 (m : MethodId) (x0 : Addr) (x1 : Int64) (x2 : Int64) : entryFrame m #[(.ref x0), (.long x1), (.long x2)] 5 = mkF m 0 #[.val (.ref x0), .val (.long x1), .second, .val (.long x2), .second] [] := by first | (simp [entryFrame, mkF, argsToLocals, Value.category, maxLocals]; done) | rfl
set_option maxRecDepth 65536 in
set_option maxHeartbeats 40000000 in
theorem rm5 (l : Launch) (Z : State) (a0 : Array Value) (hw : ∀ d ∈ tables_1, d.before a0 Z = true) (ws : List Jvm.Cond) (a : Addr) (fr ex lo pr ln : Int64) (h0 : Heap) (n0 : Nat) (F0 : Fld Z h0 a "com/example/equitide/equitide/policy/backfilling/PlannedEnds$Window" "free" "J" (.long fr)) (F1 : Fld Z h0 a "com/example/equitide/equitide/policy/backfilling/PlannedEnds$Window" "extra" "J" (.long ex)) (F2 : Fld Z h0 a "com/example/equitide/equitide/policy/backfilling/PlannedEnds$Window" "longest" "J" (.long lo)) :
    MetFree l own_y5 (head1 (Jvm.Cond.code own_y5 prog_67_method_3_code 5 (some .boolean) :: ws) ({ frames := 0, cells := 0, slots := 0, locals := 0 } : Room)) (fun aR U => aR = #[(.ref a), (.long pr), (.long ln)] ∧ Z.Warmed39 U.vm ∧ U.heap = h0) (fun _ _ _ _ _ => True) (fun _ U o U' => ∃ v L, o = .returned v ∧ Q5 fr ex lo pr ln h0 n0 v U'.heap L ∧ FrameEnd U o U' L ({ frames := 0, cells := 0, slots := 0, locals := 0 } : Room).cells ({ frames := 0, cells := 0, slots := 0, locals := 0 } : Room).slots) := by
  refine MetFree.of_bodySF pf_5 hisR ?_
  intro p e s m args below meth c s₁ Bd hml0 hP hK
  obtain ⟨rfl, hZ, hhE⟩ := hP
  have hx := Bd.exec
  have hby := Bd.bytes
  have hml : c.maxLocals = 5 := hml0
  have hown : s.vm.findClass "com/example/equitide/equitide/policy/backfilling/PlannedEnds$Window" = some m.cls := findClass_of_methodNamed Bd.named
  have hnm := (name_of_methodNamed Bd.named Bd.method).1
  have X0 : Stand p l e ({ frames := 0, cells := 0, slots := 0, locals := 0 } : Room) s m #[(.ref a), (.long pr), (.long ln)] below meth c s₁ [] 0 0 := Stand.of_body Bd
  have e0 : s₁.heap = h0 := by rw [← hhE, Bd.state]; rfl
  have N0 := Fr.nil n0
  show own_Go p e below (own_Post s (Q5 fr ex lo pr ln h0 n0) ({ frames := 0, cells := 0, slots := 0, locals := 0 } : Room).cells ({ frames := 0, cells := 0, slots := 0, locals := 0 } : Room).slots) (s₁.setTop (entryFrame m #[(.ref a), (.long pr), (.long ln)] 5))
  rw [ef_rm5]
  generalize hG : own_Post s (Q5 fr ex lo pr ln h0 n0) ({ frames := 0, cells := 0, slots := 0, locals := 0 } : Room).cells ({ frames := 0, cells := 0, slots := 0, locals := 0 } : Room).slots = G
  refine own_lloadN X0 hx (hb hby d5_0) rfl 1 rfl ?_
  refine own_aloadN X0 hx (hb hby d5_1) rfl rfl 2 rfl ?_
  refine own_getF X0 hx hZ hown (own_w hw 14 rfl) Via.refl e0 F0 (hb hby d5_2) 5 rfl (fun T38 X38 e38 => ?_)
  refine own_lcmp X38 hx (hb hby d5_5) 6 rfl ?_
  by_cases c39 : fr < pr
  ·
    refine own_ifY X38 hx (hb hby d5_6) (own_gtL c39).1 31 ⟨by decide, by decide⟩ ?_
    refine own_iconst X38 hx (hb hby d5_31) (0 : Int32) rfl 32 rfl ?_
    refine own_nreturn X38 hx Bd.notSynchronized hG Bd.returns (by simp) (hb hby d5_32) (by decide) (by decide) ?_
    rw [e38]
    exact ⟨by first | (unfold own_adm; (try simp only [↓reduceIte, c39]) <;> rfl) | (simp [own_adm, c39, nar]; done) | (simp [own_adm, c39] <;> rfl), N0, rfl⟩
  ·
    refine own_ifN X38 hx (hb hby d5_6) (own_ngtL c39).1 9 rfl ?_
    refine own_lloadN X38 hx (hb hby d5_9) rfl 10 rfl ?_
    refine own_aloadN X38 hx (hb hby d5_10) rfl rfl 11 rfl ?_
    refine own_getF X38 hx hZ hown (own_w hw 16 rfl) Via.refl e38 F1 (hb hby d5_11) 14 rfl (fun T40 X40 e40 => ?_)
    refine own_lcmp X40 hx (hb hby d5_14) 15 rfl ?_
    by_cases c41 : ex < pr
    ·
      refine own_ifN X40 hx (hb hby d5_15) (own_gtL c41).2 18 rfl ?_
      refine own_lloadN X40 hx (hb hby d5_18) rfl 19 rfl ?_
      refine own_aloadN X40 hx (hb hby d5_19) rfl rfl 20 rfl ?_
      refine own_getF X40 hx hZ hown (own_w hw 18 rfl) Via.refl e40 F2 (hb hby d5_20) 23 rfl (fun T42 X42 e42 => ?_)
      refine own_lcmp X42 hx (hb hby d5_23) 24 rfl ?_
      by_cases c43 : lo < ln
      ·
        refine own_ifY X42 hx (hb hby d5_24) (own_gtL c43).1 31 ⟨by decide, by decide⟩ ?_
        refine own_iconst X42 hx (hb hby d5_31) (0 : Int32) rfl 32 rfl ?_
        refine own_nreturn X42 hx Bd.notSynchronized hG Bd.returns (by simp) (hb hby d5_32) (by decide) (by decide) ?_
        rw [e42]
        exact ⟨by first | (unfold own_adm; (try simp only [↓reduceIte, c39, c41, c43]) <;> rfl) | (simp [own_adm, c39, c41, c43, nar]; done) | (simp [own_adm, c39, c41, c43] <;> rfl), N0, rfl⟩
      ·
        refine own_ifN X42 hx (hb hby d5_24) (own_ngtL c43).1 27 rfl ?_
        refine own_iconst X42 hx (hb hby d5_27) (1 : Int32) rfl 28 rfl ?_
        refine own_goto X42 hx (hb hby d5_28) 32 ⟨by decide, by decide⟩ ?_
        refine own_nreturn X42 hx Bd.notSynchronized hG Bd.returns (by simp) (hb hby d5_32) (by decide) (by decide) ?_
        rw [e42]
        exact ⟨by first | (unfold own_adm; (try simp only [↓reduceIte, c39, c41, c43]) <;> rfl) | (simp [own_adm, c39, c41, c43, nar]; done) | (simp [own_adm, c39, c41, c43] <;> rfl), N0, rfl⟩
    ·
      refine own_ifY X40 hx (hb hby d5_15) (own_ngtL c41).2 27 ⟨by decide, by decide⟩ ?_
      refine own_iconst X40 hx (hb hby d5_27) (1 : Int32) rfl 28 rfl ?_
      refine own_goto X40 hx (hb hby d5_28) 32 ⟨by decide, by decide⟩ ?_
      refine own_nreturn X40 hx Bd.notSynchronized hG Bd.returns (by simp) (hb hby d5_32) (by decide) (by decide) ?_
      rw [e40]
      exact ⟨by first | (unfold own_adm; (try simp only [↓reduceIte, c39, c41]) <;> rfl) | (simp [own_adm, c39, c41, nar]; done) | (simp [own_adm, c39, c41] <;> rfl), N0, rfl⟩
def Q0 (h0 : Heap) (n0 : Nat) (v : Option Value) (h : Heap) (L : List Loc) : Prop := v = some (.int 1) ∧ Fr n0 L
theorem ef_rm0 (m : MethodId) (x0 : Int64) (x1 : Int64) (x2 : Int64) (x3 : Int64) (x4 : Int64) : entryFrame m #[(.long x0), (.long x1), (.long x2), (.long x3), (.long x4)] maxLocals = mkF m 0 #[.val (.long x0), .second, .val (.long x1), .second, .val (.long x2), .second, .val (.long x3), .second, .val (.long x4), .second, .unset, .unset, .unset, .unset, .unset] [] := by first | (simp [entryFrame, mkF, argsToLocals, Value.category, maxLocals]; done) | rfl
set_option maxRecDepth 65536 in
set_option maxHeartbeats 40000000 in
theorem rm0 (l : Launch) (Z : State) (a0 : Array Value) (hw : ∀ d ∈ tables_1, d.before a0 Z = true) (ws : List Jvm.Cond) (fr ex lo pr ln : Int64) (h0 : Heap) (n0 : Nat) (Z0 : n0 ≤ h0.size) :
    MetFree l x (head1 (Jvm.Cond.code x code maxLocals ret :: ws) room_1) (fun aR U => aR = #[(.long fr), (.long ex), (.long lo), (.long pr), (.long ln)] ∧ Z.Warmed39 U.vm ∧ U.heap = h0) (fun _ _ _ _ _ => True) (fun _ U o U' => ∃ v L, o = .returned v ∧ Q0 h0 n0 v U'.heap L ∧ FrameEnd U o U' L room_1.cells room_1.slots) := by
  refine MetFree.of_bodySF (plainFor_of_name pn_0) hisR ?_
  intro p e s m args below meth c s₁ Bd hml0 hP hK
  obtain ⟨rfl, hZ, hhE⟩ := hP
  have hx := Bd.exec
  have hby := Bd.bytes
  have hml : c.maxLocals = 15 := hml0
  have hown : s.vm.findClass "com/example/equitide/equitide/policy/backfilling/WindowAdmitsPinLaw" = some m.cls := findClass_of_methodNamed Bd.named
  have hnm := (name_of_methodNamed Bd.named Bd.method).1
  have X0 : Stand p l e room_1 s m #[(.long fr), (.long ex), (.long lo), (.long pr), (.long ln)] below meth c s₁ [] 0 0 := Stand.of_body Bd
  have e0 : s₁.heap = h0 := by rw [← hhE, Bd.state]; rfl
  have N0 := Fr.nil n0
  show own_Go p e below (own_Post s (Q0 h0 n0) room_1.cells room_1.slots) (s₁.setTop (entryFrame m #[(.long fr), (.long ex), (.long lo), (.long pr), (.long ln)] maxLocals))
  rw [ef_rm0]
  generalize hG : own_Post s (Q0 h0 n0) room_1.cells room_1.slots = G
  refine own_newO X0 hx hZ hown (own_w hw 0 rfl) (own_w hw 1 rfl) (own_w hw 2 rfl) e0 (hb hby at_0) (by decide) (by decide) 3 rfl (fun T44 h44 a44 g44 X44 e44 E44 A44 D44 => ?_)
  have ge45 : n0 ≤ a44 := by rw [g44]; exact Z0
  have Z46 : n0 ≤ h44.size := Nat.le_trans Z0 E44.1
  have F47 : Fld Z h44 a44 "com/example/equitide/equitide/policy/backfilling/PlannedEnds$Window" "free" "J" (.long (0 : Int64)) := D44 (Or.inr (own_w hw 15 rfl)) (ty := .long) (by decide)
  have F48 : Fld Z h44 a44 "com/example/equitide/equitide/policy/backfilling/PlannedEnds$Window" "extra" "J" (.long (0 : Int64)) := D44 (Or.inr (own_w hw 17 rfl)) (ty := .long) (by decide)
  have F49 : Fld Z h44 a44 "com/example/equitide/equitide/policy/backfilling/PlannedEnds$Window" "longest" "J" (.long (0 : Int64)) := D44 (Or.inr (own_w hw 19 rfl)) (ty := .long) (by decide)
  refine own_dup X44 hx (hb hby at_3) rfl 4 rfl ?_
  refine own_lloadN X44 hx (hb hby at_4) rfl 5 rfl ?_
  refine own_lloadN X44 hx (hb hby at_5) rfl 6 rfl ?_
  refine own_lload X44 hx (hb hby at_6) rfl 8 rfl ?_
  refine own_callI X44 hx hZ rfl hown (own_w hw 3 rfl) (own_w hw 4 rfl) (own_w hw 2 rfl) (own_w hw 5 rfl) (by decide) e44 (rm1 l Z a0 hw [] a44 fr ex lo h44 n0 Z46 ge45 A44 F47 F48 F49) (by rw [hml]; rfl) pd_1 (argsL := [(.long fr), (.long ex), (.long lo)]) rfl (rest := [(.ref a44)]) rfl (hb hby at_8) 1 (Nat.le_of_eq rfl) (by decide) (by decide) (by decide) (by decide) 11 rfl (fun T50 L50 v50 X50 hQ50 => ?_)
  obtain ⟨rfl, N50, K50, E50, Fa50, Fb50, Fc50⟩ := hQ50
  have N51 := Fr.app N0 N50
  have Z52 : n0 ≤ T50.heap.size := Nat.le_trans Z46 K50.1
  show own_Go p e below G (T50.setTop (mkF m 11 #[.val (.long fr), .second, .val (.long ex), .second, .val (.long lo), .second, .val (.long pr), .second, .val (.long ln), .second, .unset, .unset, .unset, .unset, .unset] [(.ref a44)]))
  refine own_astore X50 hx (hb hby at_11) rfl #[.val (.long fr), .second, .val (.long ex), .second, .val (.long lo), .second, .val (.long pr), .second, .val (.long ln), .second, .val (.ref a44), .unset, .unset, .unset, .unset] rfl 13 rfl ?_
  refine own_lloadN X50 hx (hb hby at_13) rfl 14 rfl ?_
  refine own_callS X50 hx hZ hown (own_w hw 20 rfl) (own_w hw 21 rfl) (own_w hw 2 rfl) (own_w hw 22 rfl) (by decide) (rfl : T50.heap = T50.heap) (rm4 l Z a0 hw [] fr T50.heap n0 Z52) (by rw [hml]; rfl) pd_2 (argsL := [(.long fr)]) rfl (rest := []) rfl (hb hby at_14) 0 (Nat.le_of_eq rfl) (by decide) (by decide) (by decide) (by decide) 17 rfl (fun T53 L53 v53 X53 hQ53 => ?_)
  obtain ⟨b53, hQ53⟩ := hQ53
  obtain ⟨rfl, N53, K53, E53, Fa53, Fb53, Fc53⟩ := hQ53
  have N54 := Fr.app N51 N53
  have E55 := E50.keep K53
  have F56 := Fa50.keep K53 nin0
  have F57 := Fb50.keep K53 nin0
  have F58 := Fc50.keep K53 nin0
  have Z59 : n0 ≤ T53.heap.size := Nat.le_trans Z52 K53.1
  show own_Go p e below G (T53.setTop (mkF m 17 #[.val (.long fr), .second, .val (.long ex), .second, .val (.long lo), .second, .val (.long pr), .second, .val (.long ln), .second, .val (.ref a44), .unset, .unset, .unset, .unset] [(.ref b53)]))
  refine own_astore X53 hx (hb hby at_17) rfl #[.val (.long fr), .second, .val (.long ex), .second, .val (.long lo), .second, .val (.long pr), .second, .val (.long ln), .second, .val (.ref a44), .val (.ref b53), .unset, .unset, .unset] rfl 19 rfl ?_
  refine own_lload X53 hx (hb hby at_19) rfl 21 rfl ?_
  refine own_lloadN X53 hx (hb hby at_21) rfl 22 rfl ?_
  refine own_lcmp X53 hx (hb hby at_22) 23 rfl ?_
  suffices kj61 : ∀ u60 : Int32, u60 = own_exp fr ex lo pr ln → own_Go p e below G (T53.setTop (mkF m 60 #[.val (.long fr), .second, .val (.long ex), .second, .val (.long lo), .second, .val (.long pr), .second, .val (.long ln), .second, .val (.ref a44), .val (.ref b53), .val (.int u60), .unset, .unset] [])) by
    by_cases c62 : fr < pr
    ·
      refine own_ifN X53 hx (hb hby at_23) (own_gtL c62).2 26 rfl ?_
      refine own_iconst X53 hx (hb hby at_26) (0 : Int32) rfl 27 rfl ?_
      refine own_istore X53 hx (hb hby at_27) #[.val (.long fr), .second, .val (.long ex), .second, .val (.long lo), .second, .val (.long pr), .second, .val (.long ln), .second, .val (.ref a44), .val (.ref b53), .val (.int (0 : Int32)), .unset, .unset] rfl 29 rfl ?_
      refine own_goto X53 hx (hb hby at_29) 60 ⟨by decide, by decide⟩ ?_
      exact kj61 (0 : Int32) (by first | (unfold own_exp; (try simp only [↓reduceIte, c62]) <;> rfl) | (simp [own_exp, c62, nar]; done) | (simp [own_exp, c62] <;> rfl))
    ·
      refine own_ifY X53 hx (hb hby at_23) (own_ngtL c62).2 32 ⟨by decide, by decide⟩ ?_
      refine own_lload X53 hx (hb hby at_32) rfl 34 rfl ?_
      refine own_lload X53 hx (hb hby at_34) rfl 36 rfl ?_
      refine own_lcmp X53 hx (hb hby at_36) 37 rfl ?_
      by_cases c63 : lo < ln
      ·
        refine own_ifY X53 hx (hb hby at_37) (own_gtL c63).1 46 ⟨by decide, by decide⟩ ?_
        refine own_lload X53 hx (hb hby at_46) rfl 48 rfl ?_
        refine own_lloadN X53 hx (hb hby at_48) rfl 49 rfl ?_
        refine own_lcmp X53 hx (hb hby at_49) 50 rfl ?_
        by_cases c64 : ex < pr
        ·
          refine own_ifY X53 hx (hb hby at_50) (own_gtL c64).1 57 ⟨by decide, by decide⟩ ?_
          refine own_iconst X53 hx (hb hby at_57) (0 : Int32) rfl 58 rfl ?_
          refine own_istore X53 hx (hb hby at_58) #[.val (.long fr), .second, .val (.long ex), .second, .val (.long lo), .second, .val (.long pr), .second, .val (.long ln), .second, .val (.ref a44), .val (.ref b53), .val (.int (0 : Int32)), .unset, .unset] rfl 60 rfl ?_
          exact kj61 (0 : Int32) (by first | (unfold own_exp; (try simp only [↓reduceIte, c62, c63, c64]) <;> rfl) | (simp [own_exp, c62, c63, c64, nar]; done) | (simp [own_exp, c62, c63, c64] <;> rfl))
        ·
          refine own_ifN X53 hx (hb hby at_50) (own_ngtL c64).1 53 rfl ?_
          refine own_iconst X53 hx (hb hby at_53) (1 : Int32) rfl 54 rfl ?_
          refine own_goto X53 hx (hb hby at_54) 58 ⟨by decide, by decide⟩ ?_
          refine own_istore X53 hx (hb hby at_58) #[.val (.long fr), .second, .val (.long ex), .second, .val (.long lo), .second, .val (.long pr), .second, .val (.long ln), .second, .val (.ref a44), .val (.ref b53), .val (.int (1 : Int32)), .unset, .unset] rfl 60 rfl ?_
          exact kj61 (1 : Int32) (by first | (unfold own_exp; (try simp only [↓reduceIte, c62, c63, c64]) <;> rfl) | (simp [own_exp, c62, c63, c64, nar]; done) | (simp [own_exp, c62, c63, c64] <;> rfl))
      ·
        refine own_ifN X53 hx (hb hby at_37) (own_ngtL c63).1 40 rfl ?_
        refine own_iconst X53 hx (hb hby at_40) (1 : Int32) rfl 41 rfl ?_
        refine own_istore X53 hx (hb hby at_41) #[.val (.long fr), .second, .val (.long ex), .second, .val (.long lo), .second, .val (.long pr), .second, .val (.long ln), .second, .val (.ref a44), .val (.ref b53), .val (.int (1 : Int32)), .unset, .unset] rfl 43 rfl ?_
        refine own_goto X53 hx (hb hby at_43) 60 ⟨by decide, by decide⟩ ?_
        exact kj61 (1 : Int32) (by first | (unfold own_exp; (try simp only [↓reduceIte, c62, c63]) <;> rfl) | (simp [own_exp, c62, c63, nar]; done) | (simp [own_exp, c62, c63] <;> rfl))
  intro u60 hu60
  refine own_aload X53 hx (hb hby at_60) rfl rfl 62 rfl ?_
  refine own_lload X53 hx (hb hby at_62) rfl 64 rfl ?_
  refine own_lload X53 hx (hb hby at_64) rfl 66 rfl ?_
  refine own_callV X53 hx hZ hown (own_w hw 26 rfl) (own_w hw 27 rfl) (own_w hw 29 rfl) (notFace_of_selects (args := #[]) (mvT hZ (own_w hw 29 rfl))) (own_w hw 28 rfl) (own_w hw 2 rfl) (own_w hw 30 rfl) (by decide) (rfl : T53.heap = T53.heap) E55 (rm5 l Z a0 hw [] a44 fr ex lo pr ln T53.heap n0 F56 F57 F58) (by rw [hml]; rfl) pd_3 (argsL := [(.long pr), (.long ln)]) rfl (rest := []) rfl (hb hby at_66) 0 (Nat.le_of_eq rfl) (by decide) (by decide) (by decide) (by decide) 69 rfl (fun T65 L65 v65 X65 hQ65 => ?_)
  obtain ⟨rfl, N65, e65⟩ := hQ65
  have N66 := Fr.app N54 N65
  show own_Go p e below G (T65.setTop (mkF m 69 #[.val (.long fr), .second, .val (.long ex), .second, .val (.long lo), .second, .val (.long pr), .second, .val (.long ln), .second, .val (.ref a44), .val (.ref b53), .val (.int u60), .unset, .unset] [(.int (own_adm fr ex lo pr ln))]))
  generalize hy67 : (own_adm fr ex lo pr ln) = y67
  refine own_istore X65 hx (hb hby at_69) #[.val (.long fr), .second, .val (.long ex), .second, .val (.long lo), .second, .val (.long pr), .second, .val (.long ln), .second, .val (.ref a44), .val (.ref b53), .val (.int u60), .val (.int y67), .unset] rfl 71 rfl ?_
  refine own_aload X65 hx (hb hby at_71) rfl rfl 73 rfl ?_
  refine own_lload X65 hx (hb hby at_73) rfl 75 rfl ?_
  refine own_lload X65 hx (hb hby at_75) rfl 77 rfl ?_
  refine own_callV X65 hx hZ hown (own_w hw 26 rfl) (own_w hw 27 rfl) (own_w hw 29 rfl) (notFace_of_selects (args := #[]) (mvT hZ (own_w hw 29 rfl))) (own_w hw 28 rfl) (own_w hw 2 rfl) (own_w hw 30 rfl) (by decide) e65 E53 (rm5 l Z a0 hw [] b53 fr fr (-1) pr ln T53.heap n0 Fa53 Fb53 Fc53) (by rw [hml]; rfl) pd_3 (argsL := [(.long pr), (.long ln)]) rfl (rest := []) rfl (hb hby at_77) 0 (Nat.le_of_eq rfl) (by decide) (by decide) (by decide) (by decide) 80 rfl (fun T68 L68 v68 X68 hQ68 => ?_)
  obtain ⟨rfl, N68, e68⟩ := hQ68
  have N69 := Fr.app N66 N68
  show own_Go p e below G (T68.setTop (mkF m 80 #[.val (.long fr), .second, .val (.long ex), .second, .val (.long lo), .second, .val (.long pr), .second, .val (.long ln), .second, .val (.ref a44), .val (.ref b53), .val (.int u60), .val (.int y67), .unset] [(.int (own_adm fr fr (-1) pr ln))]))
  generalize hy70 : (own_adm fr fr (-1) pr ln) = y70
  refine own_istore X68 hx (hb hby at_80) #[.val (.long fr), .second, .val (.long ex), .second, .val (.long lo), .second, .val (.long pr), .second, .val (.long ln), .second, .val (.ref a44), .val (.ref b53), .val (.int u60), .val (.int y67), .val (.int y70)] rfl 82 rfl ?_
  refine own_iload X68 hx (hb hby at_82) rfl 84 rfl ?_
  refine own_iload X68 hx (hb hby at_84) rfl 86 rfl ?_
  refine own_icmpN X68 hx (hb hby at_86) (teq (by rw [hu60, ← hy67]; exact own_same _ _ _ _ _)).2 89 rfl ?_
  refine own_iload X68 hx (hb hby at_89) rfl 91 rfl ?_
  refine own_lload X68 hx (hb hby at_91) rfl 93 rfl ?_
  refine own_lloadN X68 hx (hb hby at_93) rfl 94 rfl ?_
  refine own_lcmp X68 hx (hb hby at_94) 95 rfl ?_
  suffices kj72 : ∀ u71 : Int32, u71 = (if fr < pr then 0 else 1) → own_Go p e below G (T68.setTop (mkF m 103 #[.val (.long fr), .second, .val (.long ex), .second, .val (.long lo), .second, .val (.long pr), .second, .val (.long ln), .second, .val (.ref a44), .val (.ref b53), .val (.int u60), .val (.int y67), .val (.int y70)] [(.int u71), (.int y70)])) by
    by_cases c73 : fr < pr
    ·
      refine own_ifY X68 hx (hb hby at_95) (own_gtL c73).1 102 ⟨by decide, by decide⟩ ?_
      refine own_iconst X68 hx (hb hby at_102) (0 : Int32) rfl 103 rfl ?_
      exact kj72 (0 : Int32) (by simp [c73])
    ·
      refine own_ifN X68 hx (hb hby at_95) (own_ngtL c73).1 98 rfl ?_
      refine own_iconst X68 hx (hb hby at_98) (1 : Int32) rfl 99 rfl ?_
      refine own_goto X68 hx (hb hby at_99) 103 ⟨by decide, by decide⟩ ?_
      exact kj72 (1 : Int32) (by simp [c73])
  intro u71 hu71
  refine own_icmpN X68 hx (hb hby at_103) (teq (by rw [hu71, ← hy70]; exact own_fit _ _ _ _)).2 106 rfl ?_
  refine own_iconst X68 hx (hb hby at_106) (1 : Int32) rfl 107 rfl ?_
  refine own_goto X68 hx (hb hby at_107) 111 ⟨by decide, by decide⟩ ?_
  refine own_nreturn X68 hx Bd.notSynchronized hG Bd.returns (by simp) (hb hby at_111) (by decide) (by decide) ?_
  rw [e68]
  exact ⟨rfl, N69⟩
set_option maxRecDepth 65536 in
set_option maxHeartbeats 40000000 in
theorem comes_1 {Post : Tables → Env → Array Value → State → Outcome → State → Prop} (hpost : ∀ tb e args s v u, (limb_1_1.after args s (.returned v) u = true ∧ limb_1_2.after args s (.returned v) u = true ∧ True) → FrameEnd s (.returned v) u (Jvm.fieldLocs frame_1_writes args s ++ Jvm.arrayLocs frame_1_arrays args s ++ Jvm.staticLocs frame_1_statics s) 16 128 → Post tb e args s (.returned v) u) :
    ArmFor flags0 classFile x code maxLocals ret World_1 tables_1 room_1 Calls_1 rest_1 Pre_1 Post := by
  intro l hfl _ _ p e ha hc hk s m args below hf hA hF happ hP
  obtain ⟨hcalls, hrest, hpre⟩ := hP
  obtain ⟨-, -, -, hnamed, -, -, -, hat⟩ := (Spec.applies_iff hf).mp happ
  obtain ⟨hg, hn⟩ := and_e (Cond.before_iff.mp (show (Jvm.Cond.and given_1 narrow_1).before args s = true from hpre))
  obtain ⟨hcount, k0⟩ := and_e hg
  obtain ⟨q0, k1⟩ := and_e k0
  obtain ⟨q1, k2⟩ := and_e k1
  obtain ⟨q2, k3⟩ := and_e k2
  obtain ⟨q3, k4⟩ := and_e k3
  have q4 := k4
  obtain ⟨w0, w1, w2, w3, w4, rfl⟩ : ∃ w0 w1 w2 w3 w4 : Value, args = #[w0, w1, w2, w3, w4] := by
    have hs : args.size = 5 := by simpa [Cond.value, given_1] using hcount
    obtain ⟨L⟩ := args
    match L, hs with
    | [w0, w1, w2, w3, w4], _ => exact ⟨w0, w1, w2, w3, w4, rfl⟩
  have hw := fun d (hd : d ∈ tables_1) => atoms_spec (ws := Jvm.Cond.code x code maxLocals ret :: tables_1) hat d (List.mem_cons_of_mem _ hd)
  have hfit : Fit s := fun {y c} hc i hi => by
    obtain ⟨ha, rfl⟩ := Array.getElem?_eq_some_iff.mp hc
    have q := List.all_eq_true.mp ((Array.all_eq_true_iff_forall_mem.mp hF) _ (Array.getElem_mem ha)) i (List.mem_range.mpr hi)
    simpa [Array.getElem?_eq_getElem hi] using q
  obtain ⟨i0, r0⟩ := own_isl q0
  obtain rfl : w0 = (.long i0) := Option.some.inj r0
  obtain ⟨i1, r1⟩ := own_isl q1
  obtain rfl : w1 = (.long i1) := Option.some.inj r1
  obtain ⟨i2, r2⟩ := own_isl q2
  obtain rfl : w2 = (.long i2) := Option.some.inj r2
  obtain ⟨i3, r3⟩ := own_isl q3
  obtain rfl : w3 = (.long i3) := Option.some.inj r3
  obtain ⟨i4, r4⟩ := own_isl q4
  obtain rfl : w4 = (.long i4) := Option.some.inj r4
  obtain ⟨n, o, h1, h2, h3, _, L, rfl, ⟨rfl, N⟩, hq⟩ := rm0 l s _ hw tables_1 i0 i1 i2 i3 i4 s.heap s.heap.size (Nat.le_refl _) p e ha hc hk s m _ below hf ((Spec.applies_iff_loose hf).mp happ).1 ⟨rfl, State.Warmed39.refl s, rfl⟩ trivial
  refine ⟨n, _, h1, h2, h3, hpost _ _ _ _ _ _ ⟨Cond.after_iff.mpr rfl, Cond.after_iff.mpr (eq_i res_at (Term.int_eval (1)) rfl), trivial⟩ ⟨hq.1, hq.2.1, (hq.2.2.sift fun y hy => Or.inr (N y hy)).mono (by decide) (by decide)⟩⟩
theorem main_1_1 : Claimed_1_1 := comes_1 fun _ _ _ _ _ _ h hF => ⟨h.1, hF⟩
theorem main_1_2 : Claimed_1_2 := comes_1 fun _ _ _ _ _ _ h hF => ⟨h.2.1, hF⟩
end Jvm.Pilot.@@N@@
namespace Jvm.Pilot.@@N@@
open Jvm Jvm.ClassFile Sem Op Lib Jvm.Free Jvm.Stand Jvm.Pilot.@@N@@.Jvm.D
/-! MADE BY PROGRAM (witnessworld.py) out of the Statement's table words and the real class files: 10 classes; the members and pool entries that the words name. The judged class is class 1, her method 1. -/
namespace start1
open Jvm.ClassFile
def u (s : String) : CpInfo := .utf8 (stringToUtf16 s)
/-- a pool by its gaps: so many unusable entries, then the entry; so many at the end -/
def gap : Nat → List CpInfo → List CpInfo
  | 0, r => r
  | n + 1, r => .unusable :: gap n r
def poolList (es : List (Nat × CpInfo)) (last : Nat) : List CpInfo := es.foldr (fun e r => gap e.1 (e.2 :: r)) (gap last [])
def pool (es : List (Nat × CpInfo)) (last : Nat) : Array CpInfo := ⟨poolList es last⟩
def fileOf (pool : Array CpInfo) (this : Nat) (attrs : Array Attribute := #[]) (ms : Array MethodInfo := #[]) (fl : Nat := 33) (sup : Nat := 0) (ifs : Array Nat := #[]) (fds : Array FieldInfo := #[]) : ClassFile where
  minorVersion := 0
  majorVersion := 65
  constantPool := pool
  accessFlags := fl
  thisClass := this
  superClass := sup
  interfaces := ifs
  fields := fds
  methods := ms
  attributes := attrs
def plain (name : String) (sup : Option ClassId) : Class where
  name := name
  kind := .ordinary
  loader := none
  accessFlags := 33
  super := sup
  interfaces := #[]
  cf := none
  fields := #[]
  methods := #[]
  instanceTypes := #[]
  staticTypes := #[]
  resolved := #[]
  callSites := []
  init := .initialized
  statics := none
  mirror := none

def pool0 : Array CpInfo := pool [(5, u "<init>"), (0, u "()V"), (1, .class_ 10), (1, u "java/lang/Object")] 113

def k0c0 : Code := { maxStack := 0, maxLocals := 1, code := object_method_1_code, exceptionTable := #[], attributes := #[] }
def k0m0 : Method := { name := "<init>", desc := "()V", sig := { parameters := [], returnType := none }, accessFlags := 1, code := some k0c0 }
/-- java/lang/Object -/
def k0 : Class := { plain "java/lang/Object" none with
  accessFlags := 33
  interfaces := #[]
  cf := some (fileOf pool0 8 #[] #[{ accessFlags := 1, nameIndex := 5, descriptorIndex := 6, attributes := #[] }] 33 0 #[] #[])
  fields := #[]
  methods := #[k0m0]
  instanceTypes := #[]
  staticTypes := #[]
  resolved := Array.replicate 124 none
  statics := none }

def pool1 : Array CpInfo := pool [(2, .class_ 4), (1, u "java/lang/Object"), (0, u "<init>"), (0, u "()V"), (0, .class_ 8), (0, u "com/example/equitide/equitide/policy/backfilling/PlannedEnds$Window"), (0, .methodref 7 10), (0, .nameAndType 5 11), (0, u "(JJJ)V"), (0, .methodref 7 13), (0, .nameAndType 14 15), (0, u "fitting"), (0, u "(J)Lcom/example/equitide/equitide/policy/backfilling/PlannedEnds$Window;"), (0, .methodref 7 17), (0, .nameAndType 18 19), (0, u "admits"), (0, u "(JJ)Z"), (0, .class_ 21), (0, u "com/example/equitide/equitide/policy/backfilling/WindowAdmitsPinLaw"), (2, u "law"), (0, u "(JJJJJ)Z")] 7

def k1m0 : Method := { name := "<init>", desc := "()V", sig := { parameters := [], returnType := none }, accessFlags := 1, code := none }
def k1c1 : Code := { maxStack := 8, maxLocals := 15, code := code, exceptionTable := #[], attributes := #[] }
def k1m1 : Method := { name := "law", desc := "(JJJJJ)Z", sig := { parameters := [.long, .long, .long, .long, .long], returnType := some .boolean }, accessFlags := 9, code := some k1c1 }
/-- com/example/equitide/equitide/policy/backfilling/WindowAdmitsPinLaw -/
def k1 : Class := { plain "com/example/equitide/equitide/policy/backfilling/WindowAdmitsPinLaw" (some 0) with
  accessFlags := 49
  interfaces := #[]
  cf := some (fileOf pool1 20 #[] #[{ accessFlags := 1, nameIndex := 5, descriptorIndex := 6, attributes := #[] }, { accessFlags := 9, nameIndex := 24, descriptorIndex := 25, attributes := #[] }] 49 2 #[] #[])
  fields := #[]
  methods := #[k1m0, k1m1]
  instanceTypes := #[]
  staticTypes := #[]
  resolved := Array.replicate 33 none
  statics := none }

def pool2 : Array CpInfo := pool [(1, .methodref 2 3), (0, .class_ 4), (0, .nameAndType 5 6), (0, u "java/lang/Object"), (0, u "<init>"), (0, u "()V"), (0, .class_ 8), (0, u "java/lang/Record")] 13

def k2c0 : Code := { maxStack := 1, maxLocals := 1, code := jdk_30_method_1_code, exceptionTable := #[], attributes := #[] }
def k2m0 : Method := { name := "<init>", desc := "()V", sig := { parameters := [], returnType := none }, accessFlags := 4, code := some k2c0 }
/-- java/lang/Record -/
def k2 : Class := { plain "java/lang/Record" (some 0) with
  accessFlags := 1057
  interfaces := #[]
  cf := some (fileOf pool2 7 #[] #[{ accessFlags := 4, nameIndex := 5, descriptorIndex := 6, attributes := #[] }] 1057 2 #[] #[])
  fields := #[]
  methods := #[k2m0]
  instanceTypes := #[]
  staticTypes := #[]
  resolved := Array.replicate 22 none
  statics := none }

def pool3 : Array CpInfo := pool [(1, .methodref 2 3), (0, .class_ 4), (0, .nameAndType 5 6), (0, u "java/lang/Record"), (0, u "<init>"), (0, u "()V"), (0, .fieldref 8 9), (0, .class_ 10), (0, .nameAndType 11 12), (0, u "com/example/equitide/equitide/policy/backfilling/PlannedEnds$Window"), (0, u "free"), (0, u "J"), (0, .fieldref 8 14), (0, .nameAndType 15 12), (0, u "extra"), (0, .fieldref 8 17), (0, .nameAndType 18 12), (0, u "longest"), (0, .long 18446744073709551615), (1, .methodref 8 22), (0, .nameAndType 5 23), (0, u "(JJJ)V"), (15, u "fitting"), (0, u "(J)Lcom/example/equitide/equitide/policy/backfilling/PlannedEnds$Window;"), (0, u "admits"), (0, u "(JJ)Z"), (10, .class_ 54), (0, u "com/example/equitide/equitide/policy/backfilling/PlannedEnds")] 21

def k3c0 : Code := { maxStack := 3, maxLocals := 7, code := prog_67_method_1_code, exceptionTable := #[], attributes := #[] }
def k3m0 : Method := { name := "<init>", desc := "(JJJ)V", sig := { parameters := [.long, .long, .long], returnType := none }, accessFlags := 1, code := some k3c0 }
def k3c1 : Code := { maxStack := 8, maxLocals := 2, code := prog_67_method_2_code, exceptionTable := #[], attributes := #[] }
def k3m1 : Method := { name := "fitting", desc := "(J)Lcom/example/equitide/equitide/policy/backfilling/PlannedEnds$Window;", sig := { parameters := [.long], returnType := some (.object "com/example/equitide/equitide/policy/backfilling/PlannedEnds$Window") }, accessFlags := 9, code := some k3c1 }
def k3c2 : Code := { maxStack := 4, maxLocals := 5, code := prog_67_method_3_code, exceptionTable := #[], attributes := #[] }
def k3m2 : Method := { name := "admits", desc := "(JJ)Z", sig := { parameters := [.long, .long], returnType := some .boolean }, accessFlags := 1, code := some k3c2 }
/-- com/example/equitide/equitide/policy/backfilling/PlannedEnds$Window -/
def k3 : Class := { plain "com/example/equitide/equitide/policy/backfilling/PlannedEnds$Window" (some 2) with
  accessFlags := 49
  interfaces := #[]
  cf := some (fileOf pool3 8 #[.nestHost 53] #[{ accessFlags := 1, nameIndex := 5, descriptorIndex := 23, attributes := #[] }, { accessFlags := 9, nameIndex := 39, descriptorIndex := 40, attributes := #[] }, { accessFlags := 1, nameIndex := 41, descriptorIndex := 42, attributes := #[] }] 49 2 #[] #[{ accessFlags := 18, nameIndex := 11, descriptorIndex := 12, attributes := #[] }, { accessFlags := 18, nameIndex := 15, descriptorIndex := 12, attributes := #[] }, { accessFlags := 18, nameIndex := 18, descriptorIndex := 12, attributes := #[] }])
  fields := #[{ name := "free", type := .long, accessFlags := 18, slot := 0, constantValue := 0 }, { name := "extra", type := .long, accessFlags := 18, slot := 1, constantValue := 0 }, { name := "longest", type := .long, accessFlags := 18, slot := 2, constantValue := 0 }]
  methods := #[k3m0, k3m1, k3m2]
  instanceTypes := #[.long, .long, .long]
  staticTypes := #[]
  resolved := Array.replicate 76 none
  statics := none }

def pool4 : Array CpInfo := pool [(1, u "java/lang/Cloneable"), (0, .class_ 1), (0, u "java/lang/Object"), (0, .class_ 3)] 3

/-- java/lang/Cloneable -/
def k4 : Class := { plain "java/lang/Cloneable" (some 0) with
  accessFlags := 1537
  interfaces := #[]
  cf := some (fileOf pool4 2 #[] #[] 1537 4 #[] #[])
  fields := #[]
  methods := #[]
  instanceTypes := #[]
  staticTypes := #[]
  resolved := Array.replicate 8 none
  statics := none }

def pool5 : Array CpInfo := pool [(1, u "java/io/Serializable"), (0, .class_ 1), (0, u "java/lang/Object"), (0, .class_ 3)] 3

/-- java/io/Serializable -/
def k5 : Class := { plain "java/io/Serializable" (some 0) with
  accessFlags := 1537
  interfaces := #[]
  cf := some (fileOf pool5 2 #[] #[] 1537 4 #[] #[])
  fields := #[]
  methods := #[]
  instanceTypes := #[]
  staticTypes := #[]
  resolved := Array.replicate 8 none
  statics := none }

/-- the primitive byte -/
def k6 : Class := { plain "byte" none with kind := .primitive 'B', accessFlags := 0x411 }
/-- [B -/
def k7 : Class := { plain "[B" (some 0) with kind := .array 6 .byte, interfaces := #[4, 5], accessFlags := 1041 }

/-- the primitive int -/
def k8 : Class := { plain "int" none with kind := .primitive 'I', accessFlags := 0x411 }
/-- [I -/
def k9 : Class := { plain "[I" (some 0) with kind := .array 8 .int, interfaces := #[4, 5], accessFlags := 1041 }

def heap : Heap := #[]
def classes : Array Class := #[k0, k1, k2, k3, k4, k5, k6, k7, k8, k9]
def interned : List (Array UInt16 × Addr) := []
def slotsUsed : Nat := 0
def theMethod : MethodId := ⟨1, 1⟩
def args0 : Array Value := #[.long 5, .long 9, .long 3, .long 4, .long 6]
def aboutOver (below : List Frame) : State where
  vm := { classes := classes, interned := interned.toArray }
  heap := heap
  slotsUsed := slotsUsed
  threads := #[{ frames := .invoking theMethod args0 :: below }]
def below0 : List Frame := [.native { method := ⟨0, 0⟩, args := #[] }]
def about1 : State := aboutOver below0
def p0 : Program := .bare "" "" ""
def e0 : Env := launch0.env 0 0 0
theorem w_frames : about1.frames = Frame.invoking theMethod args0 :: below0 := rfl
set_option maxRecDepth 65536 in
theorem w_args : argsFit about1.vm theMethod args0 = true := by decide +kernel
set_option maxRecDepth 65536 in
theorem w_heap : heapFits about1 = true := by decide +kernel
set_option maxRecDepth 65536 in
theorem w_runnable : about1.curStatus? = some .runnable := by decide +kernel
set_option maxRecDepth 65536 in
theorem w_alone : about1.alone = true := by decide +kernel
set_option maxRecDepth 65536 in
theorem w_named : about1.methodNamed? x = some theMethod := by decide +kernel
set_option maxRecDepth 65536 in
theorem w_hears : about1.hears theMethod below0 = true := by decide +kernel
set_option maxRecDepth 65536 in
theorem w_ripe : about1.ripe theMethod args0 below0 = true := by decide +kernel
theorem w_running : about1.status = .running := rfl
set_option maxRecDepth 65536 in
theorem w_room : about1.hasRoom e0.platform room_1 = true :=
  launch0.hasRoom_least _ room_1 (by decide +kernel) (by decide +kernel) (by decide +kernel) (by decide +kernel) (by decide +kernel) (by decide +kernel)
theorem allAtoms_all (ts : List Jvm.Cond) (a : Array Jvm.Value) (st : Jvm.State) : (allAtoms ts).before a st = ts.all (fun c => c.before a st) := by
  induction ts with
  | nil => rfl
  | cons c t ih =>
    show (Jvm.Cond.and c (allAtoms t)).before a st = _
    rw [Jvm.Cond.before_and, ih, List.all_cons]
def words1 : List Jvm.Cond := Jvm.Cond.code x code maxLocals ret :: tables_1
/-- a 'code' word, met by the world's own term for the bytes: nothing is compared byte by byte -/
theorem code_word {y : MethodName} {bytes : ByteArray} {mx : Nat} {rt : Option FieldType} {a : Array Value} {s : State} {m : MethodId} {meth : Method} {c : Code} (h1 : s.methodNamed? y = some m) (h2 : s.vm.method? m = some meth) (h3 : meth.code = some c) (h4 : c.code = bytes)
    (h5 : (c.maxLocals == mx && c.exceptionTable.isEmpty && decide (c.maxStack ≤ mostOperands) && decide (meth.sig.returnType = rt) && !meth.locks && decide (parseMethodDescriptor y.desc = some meth.sig)) = true) : (Jvm.Cond.code y bytes mx rt).before a s = true := by
  simp only [Bool.and_eq_true, beq_iff_eq, Bool.not_eq_true', decide_eq_true_eq] at h5
  obtain ⟨⟨⟨⟨⟨g1, g2⟩, g3⟩, g4⟩, g5⟩, g6⟩ := h5
  simp [Cond.before, Cond.holds, Cond.value, h1, h2, h3, h4, g1, g2, g3, g4, g5, g6]
def isCode : Jvm.Cond → Bool
  | .code _ _ _ _ => true
  | _ => false
theorem all_split {L : List Jvm.Cond} {P : Jvm.Cond → Bool} (h1 : L.all (fun c => isCode c || P c) = true) (h2 : ∀ c ∈ L.filter isCode, P c = true) : L.all P = true := by
  refine List.all_eq_true.mpr fun c hc => ?_
  have h := List.all_eq_true.mp h1 c hc
  rcases Bool.eq_false_or_eq_true (isCode c) with hi | hi
  · exact h2 c (List.mem_filter.mpr ⟨hc, hi⟩)
  · simpa [hi] using h
set_option maxRecDepth 65536 in
theorem w_c0 : (Jvm.Cond.code x code maxLocals ret).before args0 about1 = true := code_word (m := ⟨1, 1⟩) (meth := k1m1) (c := k1c1) (by decide +kernel) rfl rfl rfl (by decide +kernel)
set_option maxRecDepth 65536 in
theorem w_c1 : (Jvm.Cond.code ({ cls := "com/example/equitide/equitide/policy/backfilling/PlannedEnds$Window", name := "<init>", desc := "(JJJ)V" } : Jvm.MethodName) prog_67_method_1_code (7 : Nat) (Option.none : Option Jvm.ClassFile.FieldType)).before args0 about1 = true := code_word (m := ⟨3, 0⟩) (meth := k3m0) (c := k3c0) (by decide +kernel) rfl rfl rfl (by decide +kernel)
set_option maxRecDepth 65536 in
theorem w_c2 : (Jvm.Cond.code ({ cls := "java/lang/Record", name := "<init>", desc := "()V" } : Jvm.MethodName) jdk_30_method_1_code (1 : Nat) (Option.none : Option Jvm.ClassFile.FieldType)).before args0 about1 = true := code_word (m := ⟨2, 0⟩) (meth := k2m0) (c := k2c0) (by decide +kernel) rfl rfl rfl (by decide +kernel)
set_option maxRecDepth 65536 in
theorem w_c3 : (Jvm.Cond.code ({ cls := "java/lang/Object", name := "<init>", desc := "()V" } : Jvm.MethodName) object_method_1_code (1 : Nat) (Option.none : Option Jvm.ClassFile.FieldType)).before args0 about1 = true := code_word (m := ⟨0, 0⟩) (meth := k0m0) (c := k0c0) (by decide +kernel) rfl rfl rfl (by decide +kernel)
set_option maxRecDepth 65536 in
theorem w_c4 : (Jvm.Cond.code ({ cls := "com/example/equitide/equitide/policy/backfilling/PlannedEnds$Window", name := "fitting", desc := "(J)Lcom/example/equitide/equitide/policy/backfilling/PlannedEnds$Window;" } : Jvm.MethodName) prog_67_method_2_code (2 : Nat) (Option.some (Jvm.ClassFile.FieldType.object "com/example/equitide/equitide/policy/backfilling/PlannedEnds$Window"))).before args0 about1 = true := code_word (m := ⟨3, 1⟩) (meth := k3m1) (c := k3c1) (by decide +kernel) rfl rfl rfl (by decide +kernel)
set_option maxRecDepth 65536 in
theorem w_c5 : (Jvm.Cond.code ({ cls := "com/example/equitide/equitide/policy/backfilling/PlannedEnds$Window", name := "admits", desc := "(JJ)Z" } : Jvm.MethodName) prog_67_method_3_code (5 : Nat) (Option.some Jvm.ClassFile.FieldType.boolean)).before args0 about1 = true := code_word (m := ⟨3, 2⟩) (meth := k3m2) (c := k3c2) (by decide +kernel) rfl rfl rfl (by decide +kernel)
def codes1 : List Jvm.Cond := [Jvm.Cond.code x code maxLocals ret, Jvm.Cond.code ({ cls := "com/example/equitide/equitide/policy/backfilling/PlannedEnds$Window", name := "<init>", desc := "(JJJ)V" } : Jvm.MethodName) prog_67_method_1_code (7 : Nat) (Option.none : Option Jvm.ClassFile.FieldType), Jvm.Cond.code ({ cls := "java/lang/Record", name := "<init>", desc := "()V" } : Jvm.MethodName) jdk_30_method_1_code (1 : Nat) (Option.none : Option Jvm.ClassFile.FieldType), Jvm.Cond.code ({ cls := "java/lang/Object", name := "<init>", desc := "()V" } : Jvm.MethodName) object_method_1_code (1 : Nat) (Option.none : Option Jvm.ClassFile.FieldType), Jvm.Cond.code ({ cls := "com/example/equitide/equitide/policy/backfilling/PlannedEnds$Window", name := "fitting", desc := "(J)Lcom/example/equitide/equitide/policy/backfilling/PlannedEnds$Window;" } : Jvm.MethodName) prog_67_method_2_code (2 : Nat) (Option.some (Jvm.ClassFile.FieldType.object "com/example/equitide/equitide/policy/backfilling/PlannedEnds$Window")), Jvm.Cond.code ({ cls := "com/example/equitide/equitide/policy/backfilling/PlannedEnds$Window", name := "admits", desc := "(JJ)Z" } : Jvm.MethodName) prog_67_method_3_code (5 : Nat) (Option.some Jvm.ClassFile.FieldType.boolean)]
set_option maxRecDepth 65536 in
theorem codes_eq : words1.filter isCode = codes1 := rfl
theorem w_codes : ∀ c ∈ words1.filter isCode, c.before args0 about1 = true := by
  rw [codes_eq]
  intro c hc
  simp only [codes1, List.mem_cons, List.not_mem_nil, or_false] at hc
  rcases hc with rfl | rfl | rfl | rfl | rfl | rfl
  · exact w_c0
  · exact w_c1
  · exact w_c2
  · exact w_c3
  · exact w_c4
  · exact w_c5
set_option maxRecDepth 65536 in
theorem w_t1 : (words1.take 24).all (fun c => isCode c || c.before args0 about1) = true := by decide +kernel
set_option maxRecDepth 65536 in
theorem w_t2 : (words1.drop 24).all (fun c => isCode c || c.before args0 about1) = true := by decide +kernel
theorem w_tables : (allAtoms (Jvm.Cond.code x code maxLocals ret :: tables_1)).before args0 about1 = true := by
  rw [allAtoms_all]
  show words1.all (fun c => c.before args0 about1) = true
  refine all_split ?_ w_codes
  rw [← List.take_append_drop 24 words1, List.all_append, w_t1, w_t2]
  rfl
set_option maxRecDepth 65536 in
theorem w_case : (Jvm.Cond.and given_1 narrow_1).before args0 about1 = true := by decide +kernel
theorem w_applies : (headSpec (Jvm.Cond.code x code maxLocals ret :: tables_1) room_1).applies x e0.platform about1 = true :=
  (Spec.applies_iff w_frames).mpr ⟨w_running, w_runnable, w_alone, w_named, w_hears, w_ripe, w_room, w_tables⟩
theorem atStart : AtStart classFile x code maxLocals ret World_1 tables_1 room_1 Calls_1 rest_1 Pre_1 launch0 p0 e0 about1 theMethod args0 below0 :=
  ⟨lists_1, trivial, launch0.admits_env _ _ _, launch0.least_env, fairChoices_fair.cas, fairChoices_fair.clock, w_frames, w_args, w_heap, w_applies, trivial, trivial, w_case⟩
end start1
theorem witness_1 : WitnessClaimed_1 := ⟨start1.p0, start1.e0, start1.about1, start1.theMethod, start1.args0, start1.below0, start1.atStart⟩
end Jvm.Pilot.@@N@@
