import JvmDerived
import JvmDerived.Pilot.@@N@@Statement
import JvmDerived.Pilot.@@N@@Code
set_option linter.unusedVariables false
set_option linter.unusedSimpArgs false
namespace Jvm.Pilot.@@N@@
open Jvm Jvm.ClassFile Sem Op Lib Jvm.Free Jvm.Stand Jvm.LawKit Jvm.RoadKit Bundle Jvm.Pilot.@@N@@.Jvm.D
def own_Go (p : Program) (e : Env) (below : List Frame) (G : State → Outcome → Prop) (σ : State) : Prop := ∃ U o, Steps p.tables e below σ U ∧ U.status = .running ∧ Ended U below o ∧ G U o
theorem own_go {p : Program} {e : Env} {below : List Frame} {G : State → Outcome → Prop} {σ σ' : State} (h : ∀ t, Steps p.tables e below σ' t → Steps p.tables e below σ t) (k : own_Go p e below G σ') : own_Go p e below G σ := by
  obtain ⟨U, o, h1, h2⟩ := k
  exact ⟨U, o, h _ h1, h2⟩
def own_Post (s : State) (Q : Option Value → Heap → List Loc → Prop) (C S : Nat) (U : State) (o : Outcome) : Prop := ∃ v L, o = .returned v ∧ Q v U.heap L ∧ FrameEnd s o U L C S
theorem own_ltL {x y : Int64} (h : x < y) : ifCond.holds .lt (lcmpW x y) = true ∧ ifCond.holds .ge (lcmpW x y) = false := by
  have q := (lw_lt x y).mpr h
  exact ⟨(if0 _ _).trans (tlt q).1, (if0 _ _).trans (tlt q).2.1⟩
theorem own_nltL {x y : Int64} (h : ¬ x < y) : ifCond.holds .lt (lcmpW x y) = false ∧ ifCond.holds .ge (lcmpW x y) = true := by
  have q := fun z => h ((lw_lt x y).mp z)
  exact ⟨(if0 _ _).trans (flt q).1, (if0 _ _).trans (flt q).2.1⟩
theorem own_eqL {x y : Int64} (h : x = y) : ifCond.holds .eq (lcmpW x y) = true ∧ ifCond.holds .ne (lcmpW x y) = false := by
  have q := (lw_eq x y).mpr h
  exact ⟨(if0 _ _).trans (teq q).1, (if0 _ _).trans (teq q).2⟩
section OwnSteps
variable {p : Program} {l : Launch} {e : Env} {R : Room} {s : State} {m : MethodId} {args : Array Value} {below : List Frame} {meth : Method} {c : Code} {T : State} {locs : List Loc} {cells slots : Nat} {G : State → Outcome → Prop} {Ls : Array Slot} {rest : List Value} {pc : Nat}
theorem own_iload (X : Stand p l e R s m args below meth c T locs cells slots) (hx : p.tables.exec = Jvm.exec) {i : Nat} {v : Int32} (hd : decode c.code pc = .ok (.iload i, 2)) (hl : Ls[i]? = some (.val (.int v))) (pc' : Nat) (hp : pc + 2 = pc') (k : own_Go p e below G (T.setTop (mkF m pc' Ls (.int v :: rest)))) : own_Go p e below G (T.setTop (mkF m pc Ls (rest))) := by
  subst hp; exact own_go (fun t q => XS.iload X.here hx rfl hd hl q) k
theorem own_lloadN (X : Stand p l e R s m args below meth c T locs cells slots) (hx : p.tables.exec = Jvm.exec) {i : Fin 4} {v : Int64} (hd : decode c.code pc = .ok (.lload_n i, 1)) (hl : Ls[i.val]? = some (.val (.long v))) (pc' : Nat) (hp : pc + 1 = pc') (k : own_Go p e below G (T.setTop (mkF m pc' Ls (.long v :: rest)))) : own_Go p e below G (T.setTop (mkF m pc Ls (rest))) := by
  subst hp; exact own_go (fun t q => XS.lloadN X.here hx rfl hd hl q) k
theorem own_lload (X : Stand p l e R s m args below meth c T locs cells slots) (hx : p.tables.exec = Jvm.exec) {i : Nat} {v : Int64} (hd : decode c.code pc = .ok (.lload i, 2)) (hl : Ls[i]? = some (.val (.long v))) (pc' : Nat) (hp : pc + 2 = pc') (k : own_Go p e below G (T.setTop (mkF m pc' Ls (.long v :: rest)))) : own_Go p e below G (T.setTop (mkF m pc Ls (rest))) := by
  subst hp; exact own_go (fun t q => XS.lload X.here hx rfl hd hl q) k
theorem own_aloadN (X : Stand p l e R s m args below meth c T locs cells slots) (hx : p.tables.exec = Jvm.exec) {i : Fin 4} {v : Value} (hd : decode c.code pc = .ok (.aload_n i, 1)) (hl : Ls[i.val]? = some (.val v)) (hv : v.isRef = true) (pc' : Nat) (hp : pc + 1 = pc') (k : own_Go p e below G (T.setTop (mkF m pc' Ls (v :: rest)))) : own_Go p e below G (T.setTop (mkF m pc Ls (rest))) := by
  subst hp; exact own_go (fun t q => XS.aloadN X.here hx rfl hd hl hv q) k
theorem own_aload (X : Stand p l e R s m args below meth c T locs cells slots) (hx : p.tables.exec = Jvm.exec) {i : Nat} {v : Value} (hd : decode c.code pc = .ok (.aload i, 2)) (hl : Ls[i]? = some (.val v)) (hv : v.isRef = true) (pc' : Nat) (hp : pc + 2 = pc') (k : own_Go p e below G (T.setTop (mkF m pc' Ls (v :: rest)))) : own_Go p e below G (T.setTop (mkF m pc Ls (rest))) := by
  subst hp; exact own_go (fun t q => XS.aload X.here hx rfl hd hl hv q) k
theorem own_istore (X : Stand p l e R s m args below meth c T locs cells slots) (hx : p.tables.exec = Jvm.exec) {i : Nat} {v : Int32} (hd : decode c.code pc = .ok (.istore i, 2)) (l' : Array Slot) (hl : storeLocals Ls i (.int v) = some l') (pc' : Nat) (hp : pc + 2 = pc') (k : own_Go p e below G (T.setTop (mkF m pc' l' (rest)))) : own_Go p e below G (T.setTop (mkF m pc Ls (.int v :: rest))) := by
  subst hp; exact own_go (fun t q => XS.istore X.here hx rfl hd rfl hl q) k
theorem own_lstore (X : Stand p l e R s m args below meth c T locs cells slots) (hx : p.tables.exec = Jvm.exec) {i : Nat} {v : Int64} (hd : decode c.code pc = .ok (.lstore i, 2)) (l' : Array Slot) (hl : storeLocals Ls i (.long v) = some l') (pc' : Nat) (hp : pc + 2 = pc') (k : own_Go p e below G (T.setTop (mkF m pc' l' (rest)))) : own_Go p e below G (T.setTop (mkF m pc Ls (.long v :: rest))) := by
  subst hp; exact own_go (fun t q => XS.lstore X.here hx rfl hd rfl hl q) k
theorem own_astore (X : Stand p l e R s m args below meth c T locs cells slots) (hx : p.tables.exec = Jvm.exec) {i : Nat} {v : Value} (hd : decode c.code pc = .ok (.astore i, 2)) (hv : v.isRef = true) (l' : Array Slot) (hl : storeLocals Ls i v = some l') (pc' : Nat) (hp : pc + 2 = pc') (k : own_Go p e below G (T.setTop (mkF m pc' l' (rest)))) : own_Go p e below G (T.setTop (mkF m pc Ls (v :: rest))) := by
  subst hp; exact own_go (fun t q => XS.astore X.here hx rfl hd rfl hv hl q) k
theorem own_iconst (X : Stand p l e R s m args below meth c T locs cells slots) (hx : p.tables.exec = Jvm.exec) {i : Int} (hd : decode c.code pc = .ok (.iconst i, 1)) (v : Int32) (hv : v = Int32.ofInt i) (pc' : Nat) (hp : pc + 1 = pc') (k : own_Go p e below G (T.setTop (mkF m pc' Ls (.int v :: rest)))) : own_Go p e below G (T.setTop (mkF m pc Ls (rest))) := by
  subst hp; exact own_go (fun t q => XS.iconst X.here hx rfl hd (hv ▸ q)) k
theorem own_lconst (X : Stand p l e R s m args below meth c T locs cells slots) (hx : p.tables.exec = Jvm.exec) {i : Fin 2} (hd : decode c.code pc = .ok (.lconst i, 1)) (v : Int64) (hv : v = Int64.ofNat i) (pc' : Nat) (hp : pc + 1 = pc') (k : own_Go p e below G (T.setTop (mkF m pc' Ls (.long v :: rest)))) : own_Go p e below G (T.setTop (mkF m pc Ls (rest))) := by
  subst hp; exact own_go (fun t q => XS.lconst X.here hx rfl hd (hv ▸ q)) k
theorem own_iand (X : Stand p l e R s m args below meth c T locs cells slots) (hx : p.tables.exec = Jvm.exec) {x y : Int32} (hd : decode c.code pc = .ok (.iand, 1)) (pc' : Nat) (hp : pc + 1 = pc') (k : own_Go p e below G (T.setTop (mkF m pc' Ls (.int (x &&& y) :: rest)))) : own_Go p e below G (T.setTop (mkF m pc Ls (.int y :: .int x :: rest))) := by
  subst hp; exact own_go (fun t q => XS.iand X.here hx rfl hd rfl q) k
theorem own_lsub (X : Stand p l e R s m args below meth c T locs cells slots) (hx : p.tables.exec = Jvm.exec) {x y : Int64} (hd : decode c.code pc = .ok (.lsub, 1)) (pc' : Nat) (hp : pc + 1 = pc') (k : own_Go p e below G (T.setTop (mkF m pc' Ls (.long (x - y) :: rest)))) : own_Go p e below G (T.setTop (mkF m pc Ls (.long y :: .long x :: rest))) := by
  subst hp; exact own_go (fun t q => XS.lsub X.here hx rfl hd rfl q) k
theorem own_dup (X : Stand p l e R s m args below meth c T locs cells slots) (hx : p.tables.exec = Jvm.exec) {x : Value} (hd : decode c.code pc = .ok (.dup, 1)) (hc : x.category = 1) (pc' : Nat) (hp : pc + 1 = pc') (k : own_Go p e below G (T.setTop (mkF m pc' Ls (x :: x :: rest)))) : own_Go p e below G (T.setTop (mkF m pc Ls (x :: rest))) := by
  subst hp; exact own_go (fun t q => XS.dup X.here hx rfl hd rfl hc q) k
theorem own_lcmp (X : Stand p l e R s m args below meth c T locs cells slots) (hx : p.tables.exec = Jvm.exec) {x y : Int64} (hd : decode c.code pc = .ok (.lcmp, 1)) (pc' : Nat) (hp : pc + 1 = pc') (k : own_Go p e below G (T.setTop (mkF m pc' Ls (.int (lcmpW x y) :: rest)))) : own_Go p e below G (T.setTop (mkF m pc Ls (.long y :: .long x :: rest))) := by
  subst hp; exact own_go (fun t q => XS.lcmp X.here hx rfl hd rfl q) k
theorem own_goto (X : Stand p l e R s m args below meth c T locs cells slots) (hx : p.tables.exec = Jvm.exec) {o : Int} (hd : decode c.code pc = .ok (.goto o, 3)) (pc' : Nat) (hp : 0 ≤ (pc : Int) + o ∧ ((pc : Int) + o).toNat = pc') (k : own_Go p e below G (T.setTop (mkF m pc' Ls rest))) : own_Go p e below G (T.setTop (mkF m pc Ls rest)) :=
  own_go (fun t q => XS.goto X.here hx rfl (pc0 := pc) (pc' := pc') rfl hd hp.1 hp.2 q) k
theorem own_ifY (X : Stand p l e R s m args below meth c T locs cells slots) (hx : p.tables.exec = Jvm.exec) {o : Int} {cd : ClassFile.Cond} {x : Int32} (hd : decode c.code pc = .ok (.ifCond cd o, 3)) (hc : ifCond.holds cd x = true) (pc' : Nat) (hp : 0 ≤ (pc : Int) + o ∧ ((pc : Int) + o).toNat = pc') (k : own_Go p e below G (T.setTop (mkF m pc' Ls rest))) : own_Go p e below G (T.setTop (mkF m pc Ls (.int x :: rest))) :=
  own_go (fun t q => XS.ifYes X.here hx rfl (pc0 := pc) (pc' := pc') rfl hd rfl hc hp.1 hp.2 q) k
theorem own_ifN (X : Stand p l e R s m args below meth c T locs cells slots) (hx : p.tables.exec = Jvm.exec) {o : Int} {cd : ClassFile.Cond} {x : Int32} (hd : decode c.code pc = .ok (.ifCond cd o, 3)) (hc : ifCond.holds cd x = false) (pc' : Nat) (hp : pc + 3 = pc') (k : own_Go p e below G (T.setTop (mkF m pc' Ls (rest)))) : own_Go p e below G (T.setTop (mkF m pc Ls (.int x :: rest))) := by
  subst hp; exact own_go (fun t q => XS.ifNo X.here hx rfl hd rfl hc q) k
theorem own_icmpN (X : Stand p l e R s m args below meth c T locs cells slots) (hx : p.tables.exec = Jvm.exec) {o : Int} {cd : ClassFile.Cond} {x y : Int32} (hd : decode c.code pc = .ok (.if_icmp cd o, 3)) (hc : if_icmp.holds cd x y = false) (pc' : Nat) (hp : pc + 3 = pc') (k : own_Go p e below G (T.setTop (mkF m pc' Ls (rest)))) : own_Go p e below G (T.setTop (mkF m pc Ls (.int y :: .int x :: rest))) := by
  subst hp; exact own_go (fun t q => XS.icmpNo X.here hx rfl hd rfl hc q) k
theorem own_ret {f : JFrame} {Q : Option Value → Heap → List Loc → Prop} {C S : Nat} (X : Stand p l e R s m args below meth c T locs cells slots) (hlk : meth.locks = false) (hG : own_Post s Q C S = G) {v : Option Value} (hv : meth.sig.returnType = none → v = none)
    (st : ∀ fs, (∀ (f : JFrame) (acts : List Action), f.method = m → f.locked = none → f.entered = [] → (doReturn e (T.setTop f) acts v).1 = T.setFrames fs) → Steps p.tables e below (T.setTop f) (T.setFrames fs)) (hc : cells ≤ C) (hs : slots ≤ S) (hq : Q v T.heap locs) : own_Go p e below G (T.setTop f) := by
  subst hG
  obtain ⟨fs, hr, hrun, hended, hW, hsame⟩ := X.leave (v := v) hv hlk
  exact ⟨_, _, st fs hr, hrun, hended, _, _, rfl, hq, ⟨_, rfl⟩, hW, hsame.mono hc hs⟩
theorem own_nreturn {z : Int32} {ty : FieldType} {Q : Option Value → Heap → List Loc → Prop} {C S : Nat} (X : Stand p l e R s m args below meth c T locs cells slots) (hx : p.tables.exec = Jvm.exec) (hlk : meth.locks = false) (hG : own_Post s Q C S = G) (hret : meth.sig.returnType = some ty) (ht : ty = .boolean ∨ ty = .byte ∨ ty = .char ∨ ty = .short) (hd : decode c.code pc = .ok (.ireturn, 1)) (hc : cells ≤ C) (hs : slots ≤ S) (hq : Q (some (.int (nar ty z))) T.heap locs) : own_Go p e below G (T.setTop (mkF m pc Ls (.int z :: rest))) :=
  own_ret X hlk hG (fun h => by rw [hret] at h; cases h) (fun fs hr => retN X hx hret ht hd hr) hc hs hq
theorem own_lreturn {z : Int64} {Q : Option Value → Heap → List Loc → Prop} {C S : Nat} (X : Stand p l e R s m args below meth c T locs cells slots) (hx : p.tables.exec = Jvm.exec) (hlk : meth.locks = false) (hG : own_Post s Q C S = G) (hret : meth.sig.returnType = some .long) (hd : decode c.code pc = .ok (.lreturn, 1)) (hc : cells ≤ C) (hs : slots ≤ S) (hq : Q (some (.long z)) T.heap locs) : own_Go p e below G (T.setTop (mkF m pc Ls (.long z :: rest))) :=
  own_ret X hlk hG (fun h => by rw [hret] at h; cases h) (fun fs hr => retOut X hx hret rfl (Or.inr (Or.inl ⟨rfl, rfl, _, rfl⟩)) hd hr) hc hs hq
theorem own_return {Q : Option Value → Heap → List Loc → Prop} {C S : Nat} (X : Stand p l e R s m args below meth c T locs cells slots) (hx : p.tables.exec = Jvm.exec) (hlk : meth.locks = false) (hG : own_Post s Q C S = G) (hret : meth.sig.returnType = none) (hd : decode c.code pc = .ok (.return_, 1)) (hc : cells ≤ C) (hs : slots ≤ S) (hq : Q none T.heap locs) : own_Go p e below G (T.setTop (mkF m pc Ls [])) :=
  own_ret X hlk hG (fun _ => rfl) (fun fs hr => X.returnOut hx hret hd hr) hc hs hq
variable {Z : State} {a0 : Array Value} {h : Heap}
theorem own_getF (X : Stand p l e R s m args below meth c T locs cells slots) (hx : p.tables.exec = Jvm.exec) (hZ : Z.Warmed39 s.vm) {own R0 O n d : String} {index : Nat} (hown : s.vm.findClass own = some m.cls) (w : (Cond.fieldLink own index R0 n d).before a0 Z = true) (via : Via Z R0 O n d) (eT : T.heap = h) {a : Addr} {v : Value} (F : Fld Z h a O n d v) (hd : decode c.code pc = .ok (.getfield index, 3)) (pc' : Nat) (hp : pc + 3 = pc')
    (k : ∀ T' : State, Stand p l e R s m args below meth c T' locs cells slots → T'.heap = h → own_Go p e below G (T'.setTop (mkF m pc' Ls (v :: rest)))) : own_Go p e below G (T.setTop (mkF m pc Ls (.ref a :: rest))) := by
  subst hp
  obtain ⟨T', X', e', st⟩ := getF X hx hZ hown (host := "") (Or.inl w) via eT F (g := mkF m pc Ls (.ref a :: rest)) rfl rfl hd
  exact own_go st (k T' X' e')
theorem own_putF (X : Stand p l e R s m args below meth c T locs cells slots) (hx : p.tables.exec = Jvm.exec) (hZ : Z.Warmed39 s.vm) {own R0 O n d C : String} {index kk : Nat} {ty : FieldType} (hown : s.vm.findClass own = some m.cls) (w : (Cond.fieldLink own index R0 n d).before a0 Z = true) (via : Via Z R0 O n d) (eT : T.heap = h) {a : Addr} {v v' old : Value} (F : Fld Z h a O n d old) (E : Exa Z h a C) (L : (Cond.lays C O n d).before a0 Z = true ∨ ((Cond.laysFinal C O n d).before a0 Z = true ∧ own = O ∧ meth.name = "<init>")) (wi : (Cond.instantiable C kk).before a0 Z = true) (hty : parseFieldDescriptor d = some ty) (hn : narrow ty v = v') (hf : fits ty v' = true) (hd : decode c.code pc = .ok (.putfield index, 3)) (pc' : Nat) (hp : pc + 3 = pc')
    (k : ∀ (T' : State) (h' : Heap), Stand p l e R s m args below meth c T' (locs ++ [⟨a, Jvm.RoadKit.slotOf Z O n d⟩]) cells slots → T'.heap = h' → Wr h h' a (Jvm.RoadKit.slotOf Z O n d) v' → own_Go p e below G (T'.setTop (mkF m pc' Ls rest))) : own_Go p e below G (T.setTop (mkF m pc Ls (v :: .ref a :: rest))) := by
  subst hp
  obtain ⟨T', h', X', e', W, st⟩ := putFN X hx hZ hown w via eT F E L wi hty hn hf (g := mkF m pc Ls (v :: .ref a :: rest)) rfl rfl hd
  exact own_go st (k T' h' X' e' W)
theorem own_newO (X : Stand p l e R s m args below meth c T locs cells slots) (hx : p.tables.exec = Jvm.exec) (hZ : Z.Warmed39 s.vm) {own C : String} {index n : Nat} (hown : s.vm.findClass own = some m.cls) (w : (Cond.classLink own index C).before a0 Z = true) (wi : (Cond.instantiable C n).before a0 Z = true) (wz : (Cond.initialized C).before a0 Z = true) (eT : T.heap = h) (hd : decode c.code pc = .ok (.new index, 3)) (hc : cells + 1 ≤ R.cells) (hl : slots + n ≤ R.slots) (pc' : Nat) (hp : pc + 3 = pc')
    (k : ∀ (T' : State) (h' : Heap) (a' : Addr), a' = h.size → Stand p l e R s m args below meth c T' locs (cells + 1) (slots + n) → T'.heap = h' → Ext h h' → Exa Z h' a' C → (∀ {O nm d : String} {ty : FieldType}, Laid Z a0 C O nm d → parseFieldDescriptor d = some ty → Fld Z h' a' O nm d (defaultValue ty)) → own_Go p e below G (T'.setTop (mkF m pc' Ls (.ref a' :: rest)))) : own_Go p e below G (T.setTop (mkF m pc Ls rest)) := by
  subst hp
  obtain ⟨T', h', X', e', E', A', D', -, st⟩ := newO X hx hZ hown w wi wz eT (g := mkF m pc Ls rest) rfl hd hc hl
  exact own_go st (k T' h' _ rfl X' e' E' A' D')
theorem own_initO (X : Stand p l e R s m args below meth c T locs cells slots) (hx : p.tables.exec = Jvm.exec) (hZ : Z.Warmed39 s.vm) {own : String} {idx : Nat} (hown : s.vm.findClass own = some m.cls) (w1 : (Cond.methodLink own idx Lib.objectInit).before a0 Z = true) (w2 : (Cond.instanceMethod Lib.objectInit).before a0 Z = true) (w3 : (Cond.code Lib.objectInit object_method_1_code 1 none).before a0 Z = true) (eT : T.heap = h) (hsize : Ls.size = c.maxLocals) {a : Addr} (hd : decode c.code pc = .ok (.invokespecial idx, 3)) (hf : 1 ≤ R.frames) (W : Nat) (hW : (rest.map fun v => v.category).sum ≤ W) (hl : W + 12 ≤ R.locals) (pc' : Nat) (hp : pc + 3 = pc')
    (k : ∀ T' : State, Stand p l e R s m args below meth c T' locs cells slots → T'.heap = h → own_Go p e below G (T'.setTop (mkF m pc' Ls rest))) : own_Go p e below G (T.setTop (mkF m pc Ls (.ref a :: rest))) := by
  subst hp
  obtain ⟨T', X', e', st⟩ := initO X hx hZ hown w1 w2 w3 eT (g := mkF m pc Ls (.ref a :: rest)) rfl hsize rfl hd hf (W := W) (by show 2 * 0 + _ ≤ W; rw [Nat.mul_zero, Nat.zero_add]; exact hW) hl
  exact own_go st (k T' X' e')
theorem own_callI {bytes : ByteArray} {maxL : Nat} {rm : Room} {y : MethodName} {argsL : List Value} {Q : Option Value → Heap → List Loc → Prop} (X : Stand p l e R s m args below meth c T locs cells slots) (hx : p.tables.exec = Jvm.exec) (hZ : Z.Warmed39 s.vm) (hy1 : y.name = "<init>") {own : String} {index : Nat} (hown : s.vm.findClass own = some m.cls) (w1 : (Cond.methodLink own index y).before a0 Z = true) (w2 : (Cond.instanceMethod y).before a0 Z = true) (w3 : (Cond.initialized y.cls).before a0 Z = true) (w4 : (Cond.code y bytes maxL none).before a0 Z = true) (hy : y.cls ≠ "java/lang/invoke/MethodHandle" ∧ y.cls ≠ "java/lang/invoke/VarHandle") (eT : T.heap = h) {b : Addr}
    (hM : MetFree l y (head1 [Cond.code y bytes maxL none] rm) (fun a U => a = (.ref b :: argsL).toArray ∧ Z.Warmed39 U.vm ∧ U.heap = h) (fun _ _ _ _ _ => True) (fun _ U o U' => ∃ v L, o = .returned v ∧ Q v U'.heap L ∧ FrameEnd U o U' L rm.cells rm.slots))
    (hsize : Ls.size = c.maxLocals) {ps : List FieldType} {rt : Option FieldType} (hdesc : parseMethodDescriptor y.desc = some ⟨ps, rt⟩) (hlen : argsL.length = ps.length) {st : List Value} (hst : st = argsL.reverse ++ .ref b :: rest) (hd : decode c.code pc = .ok (.invokespecial index, 3)) (W : Nat) (hW : (rest.map fun v => v.category).sum ≤ W) (hf : rm.frames + 1 ≤ R.frames) (hl : W + (maxL + 11) + rm.locals ≤ R.locals) (hc : cells + rm.cells ≤ R.cells) (hs : slots + rm.slots ≤ R.slots) (pc' : Nat) (hp : pc + 3 = pc')
    (k : ∀ (T' : State) (L : List Loc) (v : Option Value), Stand p l e R s m args below meth c T' (locs ++ L) (cells + rm.cells) (slots + rm.slots) → Q v T'.heap L → own_Go p e below G (T'.setTop (mkF m pc' Ls (v.toList ++ rest)))) : own_Go p e below G (T.setTop (mkF m pc Ls st)) := by
  subst hp hst
  obtain ⟨v, _, ⟨T', L', k', n'⟩, -, X', ⟨Lc, hQ, l', y', z'⟩, st⟩ := X.specialBack hx hy1 hown (mvT hZ w1) (mvT hZ w2) (mvT hZ w4) hy (backOf (W := W) hM hZ w4 w3 hf hl) (g := mkF m pc Ls (argsL.reverse ++ .ref b :: rest)) rfl hsize (Steps.refl _) (a := b) (argsL := argsL) (rest := rest) (lenOf hdesc hlen) rfl (by show 2 * 0 + _ ≤ W; rw [Nat.mul_zero, Nat.zero_add]; exact hW) hd (fun _ _ => ⟨rfl, eT, hc, hs⟩)
  dsimp only [Pt.U, Pt.locs, Pt.cells, Pt.slots] at X' l' y' z' st hQ
  subst l' y' z'
  exact own_go (fun t q => st.trans q) (k T' Lc v X' hQ)
theorem own_callV {bytes : ByteArray} {maxL : Nat} {ret : Option FieldType} {rm : Room} {y z : MethodName} {argsL : List Value} {Q : Option Value → Heap → List Loc → Prop} (X : Stand p l e R s m args below meth c T locs cells slots) (hx : p.tables.exec = Jvm.exec) (hZ : Z.Warmed39 s.vm) {own C : String} {index : Nat} (hown : s.vm.findClass own = some m.cls) (w1 : (Cond.methodLink own index y).before a0 Z = true) (w2 : (Cond.declares y).before a0 Z = true) (w5 : (Cond.selects C y z).before a0 Z = true) (nf : NotFace s y) (w6 : (Cond.instanceMethod z).before a0 Z = true) (w3 : (Cond.initialized z.cls).before a0 Z = true) (w4 : (Cond.code z bytes maxL ret).before a0 Z = true) (hy : y.cls ≠ "java/lang/invoke/MethodHandle" ∧ y.cls ≠ "java/lang/invoke/VarHandle") (eT : T.heap = h) {b : Addr} (E : Exa Z h b C)
    (hM : MetFree l z (head1 [Cond.code z bytes maxL ret] rm) (fun a U => a = (.ref b :: argsL).toArray ∧ Z.Warmed39 U.vm ∧ U.heap = h) (fun _ _ _ _ _ => True) (fun _ U o U' => ∃ v L, o = .returned v ∧ Q v U'.heap L ∧ FrameEnd U o U' L rm.cells rm.slots))
    (hsize : Ls.size = c.maxLocals) {ps : List FieldType} {rt : Option FieldType} (hdesc : parseMethodDescriptor y.desc = some ⟨ps, rt⟩) (hlen : argsL.length = ps.length) {st : List Value} (hst : st = argsL.reverse ++ .ref b :: rest) (hd : decode c.code pc = .ok (.invokevirtual index, 3)) (W : Nat) (hW : (rest.map fun v => v.category).sum ≤ W) (hf : rm.frames + 1 ≤ R.frames) (hl : W + (maxL + 11) + rm.locals ≤ R.locals) (hc : cells + rm.cells ≤ R.cells) (hs : slots + rm.slots ≤ R.slots) (pc' : Nat) (hp : pc + 3 = pc')
    (k : ∀ (T' : State) (L : List Loc) (v : Option Value), Stand p l e R s m args below meth c T' (locs ++ L) (cells + rm.cells) (slots + rm.slots) → Q v T'.heap L → own_Go p e below G (T'.setTop (mkF m pc' Ls (v.toList ++ rest)))) : own_Go p e below G (T.setTop (mkF m pc Ls st)) := by
  subst hp hst
  obtain ⟨cq, kq, qa, qb, qc⟩ := isOf hZ eT E
  obtain ⟨v, _, ⟨T', L', k', n'⟩, -, X', ⟨Lc, hQ, l', y', z'⟩, st⟩ := X.virtualBack hx (y := y) (z := z) hown (mvT hZ w1) (mvT hZ w2) nf (mvT hZ w5) (mvT hZ w6) hy (backOf (W := W) hM hZ w4 w3 hf hl) qa qc (g := mkF m pc Ls (argsL.reverse ++ .ref b :: rest)) rfl hsize (Steps.refl _) (argsL := argsL) (rest := rest) (lenOf hdesc hlen) rfl (by show 2 * 0 + _ ≤ W; rw [Nat.mul_zero, Nat.zero_add]; exact hW) hd (fun _ _ => ⟨rfl, eT, hc, hs⟩)
  dsimp only [Pt.U, Pt.locs, Pt.cells, Pt.slots] at X' l' y' z' st hQ
  subst l' y' z'
  exact own_go (fun t q => st.trans q) (k T' Lc v X' hQ)
def own_A {α : Type} (ty : FieldType) (f : α → Value) (Z : State) (h : Heap) (a : Addr) (L : List α) : Prop := ∃ cl : Cell, Arr Z h a cl ty ∧ cl.slots = (L.map f).toArray ∧ L.length < 2147483648
section OwnArr
variable {α : Type} {ty : FieldType} {f : α → Value} {h' : Heap} {a b : Addr} {L : List α}
theorem own_A.lt (F : own_A ty f Z h a L) : a < h.size := by obtain ⟨cl, A, -⟩ := F; exact A.lt
theorem own_A.ext (F : own_A ty f Z h a L) (E : Ext h h') : own_A ty f Z h' a L := by obtain ⟨cl, A, r⟩ := F; exact ⟨cl, A.ext E, r⟩
theorem own_A.other {sl : Nat} {v : Value} (F : own_A ty f Z h b L) (W : Wr h h' a sl v) (q : b ≠ a) : own_A ty f Z h' b L := by obtain ⟨cl, A, r⟩ := F; exact ⟨cl, A.other W q, r⟩
theorem own_A.keep {ws : List Addr} (F : own_A ty f Z h a L) (K : Keep h h' ws) (q : a ∉ ws) : own_A ty f Z h' a L := by obtain ⟨cl, A, r⟩ := F; exact ⟨cl, ⟨K.2.1 a cl A.1 q, A.2⟩, r⟩
theorem own_A.len (F : own_A ty f Z h a L) : L.length < 2147483648 := by obtain ⟨cl, A, -, r⟩ := F; exact r
theorem own_A.set {i : Nat} {x : α} (F : own_A ty f Z h a L) (W : Wr h h' a i (f x)) : own_A ty f Z h' a (L.set i x) := by
  obtain ⟨cl, A, r, r'⟩ := F
  refine ⟨_, A.same W, ?_, by simpa using r'⟩
  show cl.slots.setIfInBounds i (f x) = _
  rw [r, List.map_set]; simp
theorem own_idx {j : Int32} {i n : Nat} (hj : j = Int32.ofNat i) (hi : i < n) (hn : n < 2147483648) : ¬ (j < 0 ∨ n ≤ j.toNatClampNeg) ∧ j.toNatClampNeg = i := by
  subst hj
  have q : (Int32.ofNat i).toInt = i := Int32.toInt_ofNat_of_lt (by omega)
  have q2 : (Int32.ofNat i).toNatClampNeg = i := by rw [Int32.toNatClampNeg, q]; rfl
  refine ⟨fun z => z.elim (fun z => ?_) fun z => by omega, q2⟩
  rw [Int32.lt_iff_toInt_lt, q, show (0 : Int32).toInt = 0 from rfl] at z; omega
theorem own_A.new {k : ClassId} {n : Int32} {d : α} (hd : f d = defaultValue ty) (A : Arr Z h a (newA k ty n) ty) (i : Nat) (hn : n = Int32.ofNat i) (hi : i < 2147483648) : own_A ty f Z h a (List.replicate i d) := by
  refine ⟨_, A, ?_, by simpa using hi⟩
  have q := (own_idx hn (Nat.lt_succ_self i) (n := i + 1))
  have q2 : n.toNatClampNeg = i := by
    subst hn
    rw [Int32.toNatClampNeg, Int32.toInt_ofNat_of_lt (by omega)]; rfl
  simp [newA, q2, hd]
end OwnArr
end OwnSteps
theorem own_w {Z : State} {a0 : Array Value} (hw : ∀ d ∈ tables_1, d.before a0 Z = true) (i : Nat) {d : Cond} (h : tables_1[i]? = some d) : d.before a0 Z = true := hw d (List.mem_of_getElem? h)
abbrev oc0 : String := "com/example/causeway/causeway/server/HandoverWait"
section OwnSn
variable {Z : State} {a0 : Array Value}
theorem sn_0 (hw : ∀ d ∈ tables_1, d.before a0 Z = true) : Jvm.RoadKit.slotOf Z oc0 "waitNanos" "J" ≠ Jvm.RoadKit.slotOf Z oc0 "leaseNanos" "J" := slot_ne (C := oc0) (Or.inl (own_w hw 12 rfl)) (Or.inr (own_w hw 10 rfl)) (by decide) (t := .long) (t' := .long) (by decide) (by decide)
theorem sn_1 (hw : ∀ d ∈ tables_1, d.before a0 Z = true) : Jvm.RoadKit.slotOf Z oc0 "retryAfter" "J" ≠ Jvm.RoadKit.slotOf Z oc0 "leaseNanos" "J" := slot_ne (C := oc0) (Or.inl (own_w hw 14 rfl)) (Or.inr (own_w hw 10 rfl)) (by decide) (t := .long) (t' := .long) (by decide) (by decide)
theorem sn_2 (hw : ∀ d ∈ tables_1, d.before a0 Z = true) : Jvm.RoadKit.slotOf Z oc0 "caughtUp" "Z" ≠ Jvm.RoadKit.slotOf Z oc0 "leaseNanos" "J" := slot_ne (C := oc0) (Or.inl (own_w hw 21 rfl)) (Or.inr (own_w hw 10 rfl)) (by decide) (t := .boolean) (t' := .long) (by decide) (by decide)
theorem sn_3 (hw : ∀ d ∈ tables_1, d.before a0 Z = true) : Jvm.RoadKit.slotOf Z oc0 "caughtUpSince" "J" ≠ Jvm.RoadKit.slotOf Z oc0 "leaseNanos" "J" := slot_ne (C := oc0) (Or.inl (own_w hw 38 rfl)) (Or.inr (own_w hw 10 rfl)) (by decide) (t := .long) (t' := .long) (by decide) (by decide)
theorem sn_4 (hw : ∀ d ∈ tables_1, d.before a0 Z = true) : Jvm.RoadKit.slotOf Z oc0 "leaseNanos" "J" ≠ Jvm.RoadKit.slotOf Z oc0 "waitNanos" "J" := slot_ne (C := oc0) (Or.inr (own_w hw 10 rfl)) (Or.inl (own_w hw 12 rfl)) (by decide) (t := .long) (t' := .long) (by decide) (by decide)
theorem sn_5 (hw : ∀ d ∈ tables_1, d.before a0 Z = true) : Jvm.RoadKit.slotOf Z oc0 "retryAfter" "J" ≠ Jvm.RoadKit.slotOf Z oc0 "waitNanos" "J" := slot_ne (C := oc0) (Or.inl (own_w hw 14 rfl)) (Or.inl (own_w hw 12 rfl)) (by decide) (t := .long) (t' := .long) (by decide) (by decide)
theorem sn_6 (hw : ∀ d ∈ tables_1, d.before a0 Z = true) : Jvm.RoadKit.slotOf Z oc0 "caughtUp" "Z" ≠ Jvm.RoadKit.slotOf Z oc0 "waitNanos" "J" := slot_ne (C := oc0) (Or.inl (own_w hw 21 rfl)) (Or.inl (own_w hw 12 rfl)) (by decide) (t := .boolean) (t' := .long) (by decide) (by decide)
theorem sn_7 (hw : ∀ d ∈ tables_1, d.before a0 Z = true) : Jvm.RoadKit.slotOf Z oc0 "caughtUpSince" "J" ≠ Jvm.RoadKit.slotOf Z oc0 "waitNanos" "J" := slot_ne (C := oc0) (Or.inl (own_w hw 38 rfl)) (Or.inl (own_w hw 12 rfl)) (by decide) (t := .long) (t' := .long) (by decide) (by decide)
theorem sn_8 (hw : ∀ d ∈ tables_1, d.before a0 Z = true) : Jvm.RoadKit.slotOf Z oc0 "leaseNanos" "J" ≠ Jvm.RoadKit.slotOf Z oc0 "retryAfter" "J" := slot_ne (C := oc0) (Or.inr (own_w hw 10 rfl)) (Or.inl (own_w hw 14 rfl)) (by decide) (t := .long) (t' := .long) (by decide) (by decide)
theorem sn_9 (hw : ∀ d ∈ tables_1, d.before a0 Z = true) : Jvm.RoadKit.slotOf Z oc0 "waitNanos" "J" ≠ Jvm.RoadKit.slotOf Z oc0 "retryAfter" "J" := slot_ne (C := oc0) (Or.inl (own_w hw 12 rfl)) (Or.inl (own_w hw 14 rfl)) (by decide) (t := .long) (t' := .long) (by decide) (by decide)
theorem sn_10 (hw : ∀ d ∈ tables_1, d.before a0 Z = true) : Jvm.RoadKit.slotOf Z oc0 "caughtUp" "Z" ≠ Jvm.RoadKit.slotOf Z oc0 "retryAfter" "J" := slot_ne (C := oc0) (Or.inl (own_w hw 21 rfl)) (Or.inl (own_w hw 14 rfl)) (by decide) (t := .boolean) (t' := .long) (by decide) (by decide)
theorem sn_11 (hw : ∀ d ∈ tables_1, d.before a0 Z = true) : Jvm.RoadKit.slotOf Z oc0 "caughtUpSince" "J" ≠ Jvm.RoadKit.slotOf Z oc0 "retryAfter" "J" := slot_ne (C := oc0) (Or.inl (own_w hw 38 rfl)) (Or.inl (own_w hw 14 rfl)) (by decide) (t := .long) (t' := .long) (by decide) (by decide)
theorem sn_12 (hw : ∀ d ∈ tables_1, d.before a0 Z = true) : Jvm.RoadKit.slotOf Z oc0 "leaseNanos" "J" ≠ Jvm.RoadKit.slotOf Z oc0 "caughtUp" "Z" := slot_ne (C := oc0) (Or.inr (own_w hw 10 rfl)) (Or.inl (own_w hw 21 rfl)) (by decide) (t := .long) (t' := .boolean) (by decide) (by decide)
theorem sn_13 (hw : ∀ d ∈ tables_1, d.before a0 Z = true) : Jvm.RoadKit.slotOf Z oc0 "waitNanos" "J" ≠ Jvm.RoadKit.slotOf Z oc0 "caughtUp" "Z" := slot_ne (C := oc0) (Or.inl (own_w hw 12 rfl)) (Or.inl (own_w hw 21 rfl)) (by decide) (t := .long) (t' := .boolean) (by decide) (by decide)
theorem sn_14 (hw : ∀ d ∈ tables_1, d.before a0 Z = true) : Jvm.RoadKit.slotOf Z oc0 "retryAfter" "J" ≠ Jvm.RoadKit.slotOf Z oc0 "caughtUp" "Z" := slot_ne (C := oc0) (Or.inl (own_w hw 14 rfl)) (Or.inl (own_w hw 21 rfl)) (by decide) (t := .long) (t' := .boolean) (by decide) (by decide)
theorem sn_15 (hw : ∀ d ∈ tables_1, d.before a0 Z = true) : Jvm.RoadKit.slotOf Z oc0 "caughtUpSince" "J" ≠ Jvm.RoadKit.slotOf Z oc0 "caughtUp" "Z" := slot_ne (C := oc0) (Or.inl (own_w hw 38 rfl)) (Or.inl (own_w hw 21 rfl)) (by decide) (t := .long) (t' := .boolean) (by decide) (by decide)
theorem sn_16 (hw : ∀ d ∈ tables_1, d.before a0 Z = true) : Jvm.RoadKit.slotOf Z oc0 "leaseNanos" "J" ≠ Jvm.RoadKit.slotOf Z oc0 "caughtUpSince" "J" := slot_ne (C := oc0) (Or.inr (own_w hw 10 rfl)) (Or.inl (own_w hw 38 rfl)) (by decide) (t := .long) (t' := .long) (by decide) (by decide)
theorem sn_17 (hw : ∀ d ∈ tables_1, d.before a0 Z = true) : Jvm.RoadKit.slotOf Z oc0 "waitNanos" "J" ≠ Jvm.RoadKit.slotOf Z oc0 "caughtUpSince" "J" := slot_ne (C := oc0) (Or.inl (own_w hw 12 rfl)) (Or.inl (own_w hw 38 rfl)) (by decide) (t := .long) (t' := .long) (by decide) (by decide)
theorem sn_18 (hw : ∀ d ∈ tables_1, d.before a0 Z = true) : Jvm.RoadKit.slotOf Z oc0 "retryAfter" "J" ≠ Jvm.RoadKit.slotOf Z oc0 "caughtUpSince" "J" := slot_ne (C := oc0) (Or.inl (own_w hw 14 rfl)) (Or.inl (own_w hw 38 rfl)) (by decide) (t := .long) (t' := .long) (by decide) (by decide)
theorem sn_19 (hw : ∀ d ∈ tables_1, d.before a0 Z = true) : Jvm.RoadKit.slotOf Z oc0 "caughtUp" "Z" ≠ Jvm.RoadKit.slotOf Z oc0 "caughtUpSince" "J" := slot_ne (C := oc0) (Or.inl (own_w hw 21 rfl)) (Or.inl (own_w hw 38 rfl)) (by decide) (t := .boolean) (t' := .long) (by decide) (by decide)
end OwnSn
theorem own_isl {args : Array Value} {first s : State} {o : Option Outcome} {idx : List Nat} {t : Term} (h : (Cond.isLong t).value args first o s idx = some true) : ∃ x, t.eval args first o idx s = some (.long x) := isL_v h
theorem d1_0 : decode prog_83_method_1_code 0 = .ok (.aload_n 0, 1) := by decide +kernel
theorem d1_1 : decode prog_83_method_1_code 1 = .ok (.invokespecial 1, 3) := by decide +kernel
theorem d1_4 : decode prog_83_method_1_code 4 = .ok (.aload_n 0, 1) := by decide +kernel
theorem d1_5 : decode prog_83_method_1_code 5 = .ok (.lload_n 1, 1) := by decide +kernel
theorem d1_6 : decode prog_83_method_1_code 6 = .ok (.putfield 7, 3) := by decide +kernel
theorem d1_9 : decode prog_83_method_1_code 9 = .ok (.aload_n 0, 1) := by decide +kernel
theorem d1_10 : decode prog_83_method_1_code 10 = .ok (.lload_n 1, 1) := by decide +kernel
theorem d1_11 : decode prog_83_method_1_code 11 = .ok (.putfield 13, 3) := by decide +kernel
theorem d1_14 : decode prog_83_method_1_code 14 = .ok (.aload_n 0, 1) := by decide +kernel
theorem d1_15 : decode prog_83_method_1_code 15 = .ok (.lload_n 3, 1) := by decide +kernel
theorem d1_16 : decode prog_83_method_1_code 16 = .ok (.putfield 16, 3) := by decide +kernel
theorem d1_19 : decode prog_83_method_1_code 19 = .ok (.return_, 1) := by decide +kernel
theorem d3_0 : decode prog_83_method_4_code 0 = .ok (.aload_n 0, 1) := by decide +kernel
theorem d3_1 : decode prog_83_method_4_code 1 = .ok (.iconst 0, 1) := by decide +kernel
theorem d3_2 : decode prog_83_method_4_code 2 = .ok (.putfield 41, 3) := by decide +kernel
theorem d3_5 : decode prog_83_method_4_code 5 = .ok (.return_, 1) := by decide +kernel
theorem d4_0 : decode prog_83_method_6_code 0 = .ok (.aload_n 0, 1) := by decide +kernel
theorem d4_1 : decode prog_83_method_6_code 1 = .ok (.getfield 41, 3) := by decide +kernel
theorem d4_4 : decode prog_83_method_6_code 4 = .ok (.ifCond .eq 32, 3) := by decide +kernel
theorem d4_7 : decode prog_83_method_6_code 7 = .ok (.lload_n 1, 1) := by decide +kernel
theorem d4_8 : decode prog_83_method_6_code 8 = .ok (.aload_n 0, 1) := by decide +kernel
theorem d4_9 : decode prog_83_method_6_code 9 = .ok (.getfield 44, 3) := by decide +kernel
theorem d4_12 : decode prog_83_method_6_code 12 = .ok (.lsub, 1) := by decide +kernel
theorem d4_13 : decode prog_83_method_6_code 13 = .ok (.aload_n 0, 1) := by decide +kernel
theorem d4_14 : decode prog_83_method_6_code 14 = .ok (.getfield 13, 3) := by decide +kernel
theorem d4_17 : decode prog_83_method_6_code 17 = .ok (.lcmp, 1) := by decide +kernel
theorem d4_18 : decode prog_83_method_6_code 18 = .ok (.ifCond .lt 18, 3) := by decide +kernel
theorem d4_21 : decode prog_83_method_6_code 21 = .ok (.lload_n 1, 1) := by decide +kernel
theorem d4_22 : decode prog_83_method_6_code 22 = .ok (.aload_n 0, 1) := by decide +kernel
theorem d4_23 : decode prog_83_method_6_code 23 = .ok (.getfield 16, 3) := by decide +kernel
theorem d4_26 : decode prog_83_method_6_code 26 = .ok (.lsub, 1) := by decide +kernel
theorem d4_27 : decode prog_83_method_6_code 27 = .ok (.lconst 0, 1) := by decide +kernel
theorem d4_28 : decode prog_83_method_6_code 28 = .ok (.lcmp, 1) := by decide +kernel
theorem d4_29 : decode prog_83_method_6_code 29 = .ok (.ifCond .lt 7, 3) := by decide +kernel
theorem d4_32 : decode prog_83_method_6_code 32 = .ok (.iconst 1, 1) := by decide +kernel
theorem d4_33 : decode prog_83_method_6_code 33 = .ok (.goto 4, 3) := by decide +kernel
theorem d4_36 : decode prog_83_method_6_code 36 = .ok (.iconst 0, 1) := by decide +kernel
theorem d4_37 : decode prog_83_method_6_code 37 = .ok (.ireturn, 1) := by decide +kernel
theorem d5_0 : decode prog_83_method_7_code 0 = .ok (.aload_n 0, 1) := by decide +kernel
theorem d5_1 : decode prog_83_method_7_code 1 = .ok (.getfield 13, 3) := by decide +kernel
theorem d5_4 : decode prog_83_method_7_code 4 = .ok (.lreturn, 1) := by decide +kernel
theorem d6_0 : decode prog_83_method_3_code 0 = .ok (.aload_n 0, 1) := by decide +kernel
theorem d6_1 : decode prog_83_method_3_code 1 = .ok (.getfield 41, 3) := by decide +kernel
theorem d6_4 : decode prog_83_method_3_code 4 = .ok (.ifCond .ne 13, 3) := by decide +kernel
theorem d6_7 : decode prog_83_method_3_code 7 = .ok (.aload_n 0, 1) := by decide +kernel
theorem d6_8 : decode prog_83_method_3_code 8 = .ok (.iconst 1, 1) := by decide +kernel
theorem d6_9 : decode prog_83_method_3_code 9 = .ok (.putfield 41, 3) := by decide +kernel
theorem d6_12 : decode prog_83_method_3_code 12 = .ok (.aload_n 0, 1) := by decide +kernel
theorem d6_13 : decode prog_83_method_3_code 13 = .ok (.lload_n 1, 1) := by decide +kernel
theorem d6_14 : decode prog_83_method_3_code 14 = .ok (.putfield 44, 3) := by decide +kernel
theorem d6_17 : decode prog_83_method_3_code 17 = .ok (.return_, 1) := by decide +kernel
abbrev own_y1 : MethodName := ⟨"com/example/causeway/causeway/server/HandoverWait", "<init>", "(JJ)V"⟩
abbrev own_y6 : MethodName := ⟨"com/example/causeway/causeway/server/HandoverWait", "caughtUp", "(J)V"⟩
abbrev own_y3 : MethodName := ⟨"com/example/causeway/causeway/server/HandoverWait", "lost", "()V"⟩
abbrev own_y4 : MethodName := ⟨"com/example/causeway/causeway/server/HandoverWait", "due", "(J)Z"⟩
abbrev own_y5 : MethodName := ⟨"com/example/causeway/causeway/server/HandoverWait", "nanos", "()J"⟩
theorem pf_1 : plainFor own_y1 = true := by decide +kernel
theorem pf_6 : plainFor own_y6 = true := by decide +kernel
theorem pf_3 : plainFor own_y3 = true := by decide +kernel
theorem pf_4 : plainFor own_y4 = true := by decide +kernel
theorem pf_5 : plainFor own_y5 = true := by decide +kernel
theorem pn_0 : plainName "com/example/causeway/causeway/server/HandoverWaitCaughtUpPinLaw" = true := by first | (simp [plainName, overriddenIn]; done) | decide +kernel
theorem pd_0 : parseMethodDescriptor "(JJ)V" = some ⟨[.long, .long], none⟩ := by decide +kernel
theorem pd_1 : parseMethodDescriptor "(J)Z" = some ⟨[.long], some .boolean⟩ := by decide +kernel
theorem pd_2 : parseMethodDescriptor "()J" = some ⟨[], some .long⟩ := by decide +kernel
theorem pd_3 : parseMethodDescriptor "(J)V" = some ⟨[.long], none⟩ := by decide +kernel
theorem pd_4 : parseMethodDescriptor "()V" = some ⟨[], none⟩ := by decide +kernel
def own_due (cu : Int32) (sv wt rt q : Int64) : Int32 := if cu = 0 then 0 else if q - sv < wt then 0 else if q - rt < 0 then 0 else 1
def own_HW (Z : State) (h : Heap) (a : Addr) (f0 : Int64) (f1 : Int64) (f2 : Int64) (f3 : Int32) (f4 : Int64) : Prop := Exa Z h a "com/example/causeway/causeway/server/HandoverWait" ∧ Fld Z h a "com/example/causeway/causeway/server/HandoverWait" "leaseNanos" "J" (.long f0) ∧ Fld Z h a "com/example/causeway/causeway/server/HandoverWait" "waitNanos" "J" (.long f1) ∧ Fld Z h a "com/example/causeway/causeway/server/HandoverWait" "retryAfter" "J" (.long f2) ∧ Fld Z h a "com/example/causeway/causeway/server/HandoverWait" "caughtUp" "Z" (.int f3) ∧ Fld Z h a "com/example/causeway/causeway/server/HandoverWait" "caughtUpSince" "J" (.long f4)
def Q1 (Z : State) (a : Addr) (le st : Int64) (h0 : Heap) (n0 : Nat) (v : Option Value) (h : Heap) (L : List Loc) : Prop := v = none ∧ Fr n0 L ∧ Keep h0 h [a] ∧ own_HW Z h a le le st (0 : Int32) (0 : Int64)
theorem ef_rm1 (m : MethodId) (x0 : Addr) (x1 : Int64) (x2 : Int64) : entryFrame m #[(.ref x0), (.long x1), (.long x2)] 5 = mkF m 0 #[.val (.ref x0), .val (.long x1), .second, .val (.long x2), .second] [] := by first | (simp [entryFrame, mkF, argsToLocals, Value.category, maxLocals]; done) | rfl
set_option maxRecDepth 65536 in
set_option maxHeartbeats 40000000 in
theorem rm1 (l : Launch) (Z : State) (a0 : Array Value) (hw : ∀ d ∈ tables_1, d.before a0 Z = true) (ws : List Jvm.Cond) (a : Addr) (le st : Int64) (h0 : Heap) (n0 : Nat) (Z0 : n0 ≤ h0.size) (ga : n0 ≤ a) (B : own_HW Z h0 a (0 : Int64) (0 : Int64) (0 : Int64) (0 : Int32) (0 : Int64)) :
    MetFree l own_y1 (head1 (Jvm.Cond.code own_y1 prog_83_method_1_code 5 none :: ws) ({ frames := 1, cells := 0, slots := 0, locals := 12 } : Room)) (fun aR U => aR = #[(.ref a), (.long le), (.long st)] ∧ Z.Warmed39 U.vm ∧ U.heap = h0) (fun _ _ _ _ _ => True) (fun _ U o U' => ∃ v L, o = .returned v ∧ Q1 Z a le st h0 n0 v U'.heap L ∧ FrameEnd U o U' L ({ frames := 1, cells := 0, slots := 0, locals := 12 } : Room).cells ({ frames := 1, cells := 0, slots := 0, locals := 12 } : Room).slots) := by
  refine MetFree.of_bodySF pf_1 hisR ?_
  intro p e s m args below meth c s₁ Bd hml0 hP hK
  obtain ⟨rfl, hZ, hhE⟩ := hP
  have hx := Bd.exec
  have hby := Bd.bytes
  have hml : c.maxLocals = 5 := hml0
  have hown : s.vm.findClass "com/example/causeway/causeway/server/HandoverWait" = some m.cls := findClass_of_methodNamed Bd.named
  have hnm := (name_of_methodNamed Bd.named Bd.method).1
  have X0 : Stand p l e ({ frames := 1, cells := 0, slots := 0, locals := 12 } : Room) s m #[(.ref a), (.long le), (.long st)] below meth c s₁ [] 0 0 := Stand.of_body Bd
  have e0 : s₁.heap = h0 := by rw [← hhE, Bd.state]; rfl
  have N0 := Fr.nil n0
  show own_Go p e below (own_Post s (Q1 Z a le st h0 n0) ({ frames := 1, cells := 0, slots := 0, locals := 12 } : Room).cells ({ frames := 1, cells := 0, slots := 0, locals := 12 } : Room).slots) (s₁.setTop (entryFrame m #[(.ref a), (.long le), (.long st)] 5))
  rw [ef_rm1]
  generalize hG : own_Post s (Q1 Z a le st h0 n0) ({ frames := 1, cells := 0, slots := 0, locals := 12 } : Room).cells ({ frames := 1, cells := 0, slots := 0, locals := 12 } : Room).slots = G
  obtain ⟨E0, F0_0, F1_0, F2_0, F3_0, F4_0⟩ := B
  have K0 : Keep h0 h0 [a] := Keep.refl _ _
  refine own_aloadN X0 hx (hb hby d1_0) rfl rfl 1 rfl ?_
  refine own_initO X0 hx hZ hown (own_w hw 6 rfl) (own_w hw 7 rfl) (own_w hw 8 rfl) e0 (by rw [hml]; rfl) (hb hby d1_1) (by decide) 0 (Nat.le_of_eq rfl) (by decide) 4 rfl (fun T1 X1 e1 => ?_)
  refine own_aloadN X1 hx (hb hby d1_4) rfl rfl 5 rfl ?_
  refine own_lloadN X1 hx (hb hby d1_5) rfl 6 rfl ?_
  refine own_putF X1 hx hZ hown (own_w hw 9 rfl) Via.refl e1 F0_0 E0 (Or.inr ⟨(own_w hw 10 rfl), rfl, hnm⟩) (own_w hw 1 rfl) (ty := .long) (v' := (.long le)) (by decide) rfl rfl (hb hby d1_6) 9 rfl (fun T2 h2 X2 e2 W2 => ?_)
  have N3 := Fr.snoc X2 N0 ga
  have Z4 : n0 ≤ h2.size := by rw [W2.size]; exact Z0
  have E5 := E0.wr W2
  have F6 := F0_0.same W2
  have F7 := F1_0.other W2 (Or.inr (sn_0 hw))
  have F8 := F2_0.other W2 (Or.inr (sn_1 hw))
  have F9 := F3_0.other W2 (Or.inr (sn_2 hw))
  have F10 := F4_0.other W2 (Or.inr (sn_3 hw))
  have K11 := Keep.wr K0 W2 (Or.inl (List.mem_singleton.mpr rfl))
  refine own_aloadN X2 hx (hb hby d1_9) rfl rfl 10 rfl ?_
  refine own_lloadN X2 hx (hb hby d1_10) rfl 11 rfl ?_
  refine own_putF X2 hx hZ hown (own_w hw 11 rfl) Via.refl e2 F7 E5 (Or.inl (own_w hw 12 rfl)) (own_w hw 1 rfl) (ty := .long) (v' := (.long le)) (by decide) rfl rfl (hb hby d1_11) 14 rfl (fun T12 h12 X12 e12 W12 => ?_)
  have N13 := Fr.snoc X12 N3 ga
  have Z14 : n0 ≤ h12.size := by rw [W12.size]; exact Z4
  have E15 := E5.wr W12
  have F16 := F6.other W12 (Or.inr (sn_4 hw))
  have F17 := F7.same W12
  have F18 := F8.other W12 (Or.inr (sn_5 hw))
  have F19 := F9.other W12 (Or.inr (sn_6 hw))
  have F20 := F10.other W12 (Or.inr (sn_7 hw))
  have K21 := Keep.wr K11 W12 (Or.inl (List.mem_singleton.mpr rfl))
  refine own_aloadN X12 hx (hb hby d1_14) rfl rfl 15 rfl ?_
  refine own_lloadN X12 hx (hb hby d1_15) rfl 16 rfl ?_
  refine own_putF X12 hx hZ hown (own_w hw 13 rfl) Via.refl e12 F18 E15 (Or.inl (own_w hw 14 rfl)) (own_w hw 1 rfl) (ty := .long) (v' := (.long st)) (by decide) rfl rfl (hb hby d1_16) 19 rfl (fun T22 h22 X22 e22 W22 => ?_)
  have N23 := Fr.snoc X22 N13 ga
  have Z24 : n0 ≤ h22.size := by rw [W22.size]; exact Z14
  have E25 := E15.wr W22
  have F26 := F16.other W22 (Or.inr (sn_8 hw))
  have F27 := F17.other W22 (Or.inr (sn_9 hw))
  have F28 := F18.same W22
  have F29 := F19.other W22 (Or.inr (sn_10 hw))
  have F30 := F20.other W22 (Or.inr (sn_11 hw))
  have K31 := Keep.wr K21 W22 (Or.inl (List.mem_singleton.mpr rfl))
  refine own_return X22 hx Bd.notSynchronized hG Bd.returns (hb hby d1_19) (by decide) (by decide) ?_
  rw [e22]
  exact ⟨rfl, N23, K31, ⟨E25, F26, F27, F28, F29, F30⟩⟩
def Q2 (Z : State) (a : Addr) (t : Int64) (f0 : Int64) (f1 : Int64) (f2 : Int64) (f3 : Int32) (f4 : Int64) (h0 : Heap) (n0 : Nat) (v : Option Value) (h : Heap) (L : List Loc) : Prop := v = none ∧ Fr n0 L ∧ Keep h0 h [a] ∧ own_HW Z h a f0 f1 f2 (if f3 = 0 then 1 else f3) (if f3 = 0 then t else f4)
theorem ef_rm2 (m : MethodId) (x0 : Addr) (x1 : Int64) : entryFrame m #[(.ref x0), (.long x1)] 3 = mkF m 0 #[.val (.ref x0), .val (.long x1), .second] [] := by first | (simp [entryFrame, mkF, argsToLocals, Value.category, maxLocals]; done) | rfl
set_option maxRecDepth 65536 in
set_option maxHeartbeats 40000000 in
theorem rm2 (l : Launch) (Z : State) (a0 : Array Value) (hw : ∀ d ∈ tables_1, d.before a0 Z = true) (ws : List Jvm.Cond) (a : Addr) (t : Int64) (f0 : Int64) (f1 : Int64) (f2 : Int64) (f3 : Int32) (f4 : Int64) (h0 : Heap) (n0 : Nat) (Z0 : n0 ≤ h0.size) (ga : n0 ≤ a) (B : own_HW Z h0 a f0 f1 f2 f3 f4) :
    MetFree l own_y6 (head1 (Jvm.Cond.code own_y6 prog_83_method_3_code 3 none :: ws) ({ frames := 0, cells := 0, slots := 0, locals := 0 } : Room)) (fun aR U => aR = #[(.ref a), (.long t)] ∧ Z.Warmed39 U.vm ∧ U.heap = h0) (fun _ _ _ _ _ => True) (fun _ U o U' => ∃ v L, o = .returned v ∧ Q2 Z a t f0 f1 f2 f3 f4 h0 n0 v U'.heap L ∧ FrameEnd U o U' L ({ frames := 0, cells := 0, slots := 0, locals := 0 } : Room).cells ({ frames := 0, cells := 0, slots := 0, locals := 0 } : Room).slots) := by
  refine MetFree.of_bodySF pf_6 hisR ?_
  intro p e s m args below meth c s₁ Bd hml0 hP hK
  obtain ⟨rfl, hZ, hhE⟩ := hP
  have hx := Bd.exec
  have hby := Bd.bytes
  have hml : c.maxLocals = 3 := hml0
  have hown : s.vm.findClass "com/example/causeway/causeway/server/HandoverWait" = some m.cls := findClass_of_methodNamed Bd.named
  have hnm := (name_of_methodNamed Bd.named Bd.method).1
  have X0 : Stand p l e ({ frames := 0, cells := 0, slots := 0, locals := 0 } : Room) s m #[(.ref a), (.long t)] below meth c s₁ [] 0 0 := Stand.of_body Bd
  have e0 : s₁.heap = h0 := by rw [← hhE, Bd.state]; rfl
  have N0 := Fr.nil n0
  show own_Go p e below (own_Post s (Q2 Z a t f0 f1 f2 f3 f4 h0 n0) ({ frames := 0, cells := 0, slots := 0, locals := 0 } : Room).cells ({ frames := 0, cells := 0, slots := 0, locals := 0 } : Room).slots) (s₁.setTop (entryFrame m #[(.ref a), (.long t)] 3))
  rw [ef_rm2]
  generalize hG : own_Post s (Q2 Z a t f0 f1 f2 f3 f4 h0 n0) ({ frames := 0, cells := 0, slots := 0, locals := 0 } : Room).cells ({ frames := 0, cells := 0, slots := 0, locals := 0 } : Room).slots = G
  obtain ⟨E0, F0_0, F1_0, F2_0, F3_0, F4_0⟩ := B
  have K0 : Keep h0 h0 [a] := Keep.refl _ _
  refine own_aloadN X0 hx (hb hby d6_0) rfl rfl 1 rfl ?_
  refine own_getF X0 hx hZ hown (own_w hw 20 rfl) Via.refl e0 F3_0 (hb hby d6_1) 4 rfl (fun T32 X32 e32 => ?_)
  by_cases hc : f3 = (0 : Int32)
  ·
    refine own_ifN X32 hx (hb hby d6_4) ((if0 _ _).trans (teq hc).2) 7 rfl ?_
    refine own_aloadN X32 hx (hb hby d6_7) rfl rfl 8 rfl ?_
    refine own_iconst X32 hx (hb hby d6_8) (1 : Int32) rfl 9 rfl ?_
    refine own_putF X32 hx hZ hown (own_w hw 20 rfl) Via.refl e32 F3_0 E0 (Or.inl (own_w hw 21 rfl)) (own_w hw 1 rfl) (ty := .boolean) (v' := (.int (1 : Int32))) (by decide) rfl rfl (hb hby d6_9) 12 rfl (fun T33 h33 X33 e33 W33 => ?_)
    have N34 := Fr.snoc X33 N0 ga
    have Z35 : n0 ≤ h33.size := by rw [W33.size]; exact Z0
    have E36 := E0.wr W33
    have F37 := F0_0.other W33 (Or.inr (sn_12 hw))
    have F38 := F1_0.other W33 (Or.inr (sn_13 hw))
    have F39 := F2_0.other W33 (Or.inr (sn_14 hw))
    have F40 := F3_0.same W33
    have F41 := F4_0.other W33 (Or.inr (sn_15 hw))
    have K42 := Keep.wr K0 W33 (Or.inl (List.mem_singleton.mpr rfl))
    refine own_aloadN X33 hx (hb hby d6_12) rfl rfl 13 rfl ?_
    refine own_lloadN X33 hx (hb hby d6_13) rfl 14 rfl ?_
    refine own_putF X33 hx hZ hown (own_w hw 37 rfl) Via.refl e33 F41 E36 (Or.inl (own_w hw 38 rfl)) (own_w hw 1 rfl) (ty := .long) (v' := (.long t)) (by decide) rfl rfl (hb hby d6_14) 17 rfl (fun T43 h43 X43 e43 W43 => ?_)
    have N44 := Fr.snoc X43 N34 ga
    have Z45 : n0 ≤ h43.size := by rw [W43.size]; exact Z35
    have E46 := E36.wr W43
    have F47 := F37.other W43 (Or.inr (sn_16 hw))
    have F48 := F38.other W43 (Or.inr (sn_17 hw))
    have F49 := F39.other W43 (Or.inr (sn_18 hw))
    have F50 := F40.other W43 (Or.inr (sn_19 hw))
    have F51 := F41.same W43
    have K52 := Keep.wr K42 W43 (Or.inl (List.mem_singleton.mpr rfl))
    skip
    refine own_return X43 hx Bd.notSynchronized hG Bd.returns (hb hby d6_17) (by decide) (by decide) ?_
    rw [e43]
    refine ⟨rfl, N44, K52, ?_⟩
    simp only [if_pos hc]
    exact ⟨E46, F47, F48, F49, F50, F51⟩
  ·
    refine own_ifY X32 hx (hb hby d6_4) ((if0 _ _).trans (feq hc).2) 17 ⟨by decide, by decide⟩ ?_
    skip
    refine own_return X32 hx Bd.notSynchronized hG Bd.returns (hb hby d6_17) (by decide) (by decide) ?_
    rw [e32]
    refine ⟨rfl, N0, K0, ?_⟩
    simp only [if_neg hc]
    exact ⟨E0, F0_0, F1_0, F2_0, F3_0, F4_0⟩
def Q3 (Z : State) (a : Addr)  (f0 : Int64) (f1 : Int64) (f2 : Int64) (f3 : Int32) (f4 : Int64) (h0 : Heap) (n0 : Nat) (v : Option Value) (h : Heap) (L : List Loc) : Prop := v = none ∧ Fr n0 L ∧ Keep h0 h [a] ∧ own_HW Z h a f0 f1 f2 0 f4
theorem ef_rm3 (m : MethodId) (x0 : Addr) : entryFrame m #[(.ref x0)] 1 = mkF m 0 #[.val (.ref x0)] [] := by first | (simp [entryFrame, mkF, argsToLocals, Value.category, maxLocals]; done) | rfl
set_option maxRecDepth 65536 in
set_option maxHeartbeats 40000000 in
theorem rm3 (l : Launch) (Z : State) (a0 : Array Value) (hw : ∀ d ∈ tables_1, d.before a0 Z = true) (ws : List Jvm.Cond) (a : Addr)  (f0 : Int64) (f1 : Int64) (f2 : Int64) (f3 : Int32) (f4 : Int64) (h0 : Heap) (n0 : Nat) (Z0 : n0 ≤ h0.size) (ga : n0 ≤ a) (B : own_HW Z h0 a f0 f1 f2 f3 f4) :
    MetFree l own_y3 (head1 (Jvm.Cond.code own_y3 prog_83_method_4_code 1 none :: ws) ({ frames := 0, cells := 0, slots := 0, locals := 0 } : Room)) (fun aR U => aR = #[(.ref a)] ∧ Z.Warmed39 U.vm ∧ U.heap = h0) (fun _ _ _ _ _ => True) (fun _ U o U' => ∃ v L, o = .returned v ∧ Q3 Z a  f0 f1 f2 f3 f4 h0 n0 v U'.heap L ∧ FrameEnd U o U' L ({ frames := 0, cells := 0, slots := 0, locals := 0 } : Room).cells ({ frames := 0, cells := 0, slots := 0, locals := 0 } : Room).slots) := by
  refine MetFree.of_bodySF pf_3 hisR ?_
  intro p e s m args below meth c s₁ Bd hml0 hP hK
  obtain ⟨rfl, hZ, hhE⟩ := hP
  have hx := Bd.exec
  have hby := Bd.bytes
  have hml : c.maxLocals = 1 := hml0
  have hown : s.vm.findClass "com/example/causeway/causeway/server/HandoverWait" = some m.cls := findClass_of_methodNamed Bd.named
  have hnm := (name_of_methodNamed Bd.named Bd.method).1
  have X0 : Stand p l e ({ frames := 0, cells := 0, slots := 0, locals := 0 } : Room) s m #[(.ref a)] below meth c s₁ [] 0 0 := Stand.of_body Bd
  have e0 : s₁.heap = h0 := by rw [← hhE, Bd.state]; rfl
  have N0 := Fr.nil n0
  show own_Go p e below (own_Post s (Q3 Z a  f0 f1 f2 f3 f4 h0 n0) ({ frames := 0, cells := 0, slots := 0, locals := 0 } : Room).cells ({ frames := 0, cells := 0, slots := 0, locals := 0 } : Room).slots) (s₁.setTop (entryFrame m #[(.ref a)] 1))
  rw [ef_rm3]
  generalize hG : own_Post s (Q3 Z a  f0 f1 f2 f3 f4 h0 n0) ({ frames := 0, cells := 0, slots := 0, locals := 0 } : Room).cells ({ frames := 0, cells := 0, slots := 0, locals := 0 } : Room).slots = G
  obtain ⟨E0, F0_0, F1_0, F2_0, F3_0, F4_0⟩ := B
  have K0 : Keep h0 h0 [a] := Keep.refl _ _
  refine own_aloadN X0 hx (hb hby d3_0) rfl rfl 1 rfl ?_
  refine own_iconst X0 hx (hb hby d3_1) (0 : Int32) rfl 2 rfl ?_
  refine own_putF X0 hx hZ hown (own_w hw 20 rfl) Via.refl e0 F3_0 E0 (Or.inl (own_w hw 21 rfl)) (own_w hw 1 rfl) (ty := .boolean) (v' := (.int (0 : Int32))) (by decide) rfl rfl (hb hby d3_2) 5 rfl (fun T53 h53 X53 e53 W53 => ?_)
  have N54 := Fr.snoc X53 N0 ga
  have Z55 : n0 ≤ h53.size := by rw [W53.size]; exact Z0
  have E56 := E0.wr W53
  have F57 := F0_0.other W53 (Or.inr (sn_12 hw))
  have F58 := F1_0.other W53 (Or.inr (sn_13 hw))
  have F59 := F2_0.other W53 (Or.inr (sn_14 hw))
  have F60 := F3_0.same W53
  have F61 := F4_0.other W53 (Or.inr (sn_15 hw))
  have K62 := Keep.wr K0 W53 (Or.inl (List.mem_singleton.mpr rfl))
  refine own_return X53 hx Bd.notSynchronized hG Bd.returns (hb hby d3_5) (by decide) (by decide) ?_
  rw [e53]
  exact ⟨rfl, N54, K62, ⟨E56, F57, F58, F59, F60, F61⟩⟩
def Q4 (f1 f2 : Int64) (f3 : Int32) (f4 q : Int64) (h0 : Heap) (n0 : Nat) (v : Option Value) (h : Heap) (L : List Loc) : Prop := v = some (.int (own_due f3 f4 f1 f2 q)) ∧ Fr n0 L ∧ h = h0
theorem ef_rm4 (m : MethodId) (x0 : Addr) (x1 : Int64) : entryFrame m #[(.ref x0), (.long x1)] 3 = mkF m 0 #[.val (.ref x0), .val (.long x1), .second] [] := by first | (simp [entryFrame, mkF, argsToLocals, Value.category, maxLocals]; done) | rfl
set_option maxRecDepth 65536 in
set_option maxHeartbeats 40000000 in
theorem rm4 (l : Launch) (Z : State) (a0 : Array Value) (hw : ∀ d ∈ tables_1, d.before a0 Z = true) (ws : List Jvm.Cond) (a : Addr) (q : Int64) (f0 : Int64) (f1 : Int64) (f2 : Int64) (f3 : Int32) (f4 : Int64) (h0 : Heap) (n0 : Nat) (Z0 : n0 ≤ h0.size) (ga : n0 ≤ a) (B : own_HW Z h0 a f0 f1 f2 f3 f4) :
    MetFree l own_y4 (head1 (Jvm.Cond.code own_y4 prog_83_method_6_code 3 (some .boolean) :: ws) ({ frames := 0, cells := 0, slots := 0, locals := 0 } : Room)) (fun aR U => aR = #[(.ref a), (.long q)] ∧ Z.Warmed39 U.vm ∧ U.heap = h0) (fun _ _ _ _ _ => True) (fun _ U o U' => ∃ v L, o = .returned v ∧ Q4 f1 f2 f3 f4 q h0 n0 v U'.heap L ∧ FrameEnd U o U' L ({ frames := 0, cells := 0, slots := 0, locals := 0 } : Room).cells ({ frames := 0, cells := 0, slots := 0, locals := 0 } : Room).slots) := by
  refine MetFree.of_bodySF pf_4 hisR ?_
  intro p e s m args below meth c s₁ Bd hml0 hP hK
  obtain ⟨rfl, hZ, hhE⟩ := hP
  have hx := Bd.exec
  have hby := Bd.bytes
  have hml : c.maxLocals = 3 := hml0
  have hown : s.vm.findClass "com/example/causeway/causeway/server/HandoverWait" = some m.cls := findClass_of_methodNamed Bd.named
  have hnm := (name_of_methodNamed Bd.named Bd.method).1
  have X0 : Stand p l e ({ frames := 0, cells := 0, slots := 0, locals := 0 } : Room) s m #[(.ref a), (.long q)] below meth c s₁ [] 0 0 := Stand.of_body Bd
  have e0 : s₁.heap = h0 := by rw [← hhE, Bd.state]; rfl
  have N0 := Fr.nil n0
  show own_Go p e below (own_Post s (Q4 f1 f2 f3 f4 q h0 n0) ({ frames := 0, cells := 0, slots := 0, locals := 0 } : Room).cells ({ frames := 0, cells := 0, slots := 0, locals := 0 } : Room).slots) (s₁.setTop (entryFrame m #[(.ref a), (.long q)] 3))
  rw [ef_rm4]
  generalize hG : own_Post s (Q4 f1 f2 f3 f4 q h0 n0) ({ frames := 0, cells := 0, slots := 0, locals := 0 } : Room).cells ({ frames := 0, cells := 0, slots := 0, locals := 0 } : Room).slots = G
  obtain ⟨E0, F0_0, F1_0, F2_0, F3_0, F4_0⟩ := B
  refine own_aloadN X0 hx (hb hby d4_0) rfl rfl 1 rfl ?_
  refine own_getF X0 hx hZ hown (own_w hw 20 rfl) Via.refl e0 F3_0 (hb hby d4_1) 4 rfl (fun T63 X63 e63 => ?_)
  by_cases c64 : f3 = (0 : Int32)
  ·
    refine own_ifY X63 hx (hb hby d4_4) ((if0 _ _).trans (teq c64).1) 36 ⟨by decide, by decide⟩ ?_
    refine own_iconst X63 hx (hb hby d4_36) (0 : Int32) rfl 37 rfl ?_
    refine own_nreturn X63 hx Bd.notSynchronized hG Bd.returns (by simp) (hb hby d4_37) (by decide) (by decide) ?_
    rw [e63]
    exact ⟨by first | (unfold own_due; (try simp only [↓reduceIte, c64]) <;> rfl) | (simp [own_due, c64, nar]; done) | (simp [own_due, c64] <;> rfl), N0, rfl⟩
  ·
    refine own_ifN X63 hx (hb hby d4_4) ((if0 _ _).trans (feq c64).1) 7 rfl ?_
    refine own_lloadN X63 hx (hb hby d4_7) rfl 8 rfl ?_
    refine own_aloadN X63 hx (hb hby d4_8) rfl rfl 9 rfl ?_
    refine own_getF X63 hx hZ hown (own_w hw 37 rfl) Via.refl e63 F4_0 (hb hby d4_9) 12 rfl (fun T65 X65 e65 => ?_)
    refine own_lsub X65 hx (hb hby d4_12) 13 rfl ?_
    refine own_aloadN X65 hx (hb hby d4_13) rfl rfl 14 rfl ?_
    refine own_getF X65 hx hZ hown (own_w hw 11 rfl) Via.refl e65 F1_0 (hb hby d4_14) 17 rfl (fun T66 X66 e66 => ?_)
    refine own_lcmp X66 hx (hb hby d4_17) 18 rfl ?_
    by_cases c67 : (q - f4) < f1
    ·
      refine own_ifY X66 hx (hb hby d4_18) (own_ltL c67).1 36 ⟨by decide, by decide⟩ ?_
      refine own_iconst X66 hx (hb hby d4_36) (0 : Int32) rfl 37 rfl ?_
      refine own_nreturn X66 hx Bd.notSynchronized hG Bd.returns (by simp) (hb hby d4_37) (by decide) (by decide) ?_
      rw [e66]
      exact ⟨by first | (unfold own_due; (try simp only [↓reduceIte, c64, c67]) <;> rfl) | (simp [own_due, c64, c67, nar]; done) | (simp [own_due, c64, c67] <;> rfl), N0, rfl⟩
    ·
      refine own_ifN X66 hx (hb hby d4_18) (own_nltL c67).1 21 rfl ?_
      refine own_lloadN X66 hx (hb hby d4_21) rfl 22 rfl ?_
      refine own_aloadN X66 hx (hb hby d4_22) rfl rfl 23 rfl ?_
      refine own_getF X66 hx hZ hown (own_w hw 13 rfl) Via.refl e66 F2_0 (hb hby d4_23) 26 rfl (fun T68 X68 e68 => ?_)
      refine own_lsub X68 hx (hb hby d4_26) 27 rfl ?_
      refine own_lconst X68 hx (hb hby d4_27) (0 : Int64) rfl 28 rfl ?_
      refine own_lcmp X68 hx (hb hby d4_28) 29 rfl ?_
      by_cases c69 : (q - f2) < (0 : Int64)
      ·
        refine own_ifY X68 hx (hb hby d4_29) (own_ltL c69).1 36 ⟨by decide, by decide⟩ ?_
        refine own_iconst X68 hx (hb hby d4_36) (0 : Int32) rfl 37 rfl ?_
        refine own_nreturn X68 hx Bd.notSynchronized hG Bd.returns (by simp) (hb hby d4_37) (by decide) (by decide) ?_
        rw [e68]
        exact ⟨by first | (unfold own_due; (try simp only [↓reduceIte, c64, c67, c69]) <;> rfl) | (simp [own_due, c64, c67, c69, nar]; done) | (simp [own_due, c64, c67, c69] <;> rfl), N0, rfl⟩
      ·
        refine own_ifN X68 hx (hb hby d4_29) (own_nltL c69).1 32 rfl ?_
        refine own_iconst X68 hx (hb hby d4_32) (1 : Int32) rfl 33 rfl ?_
        refine own_goto X68 hx (hb hby d4_33) 37 ⟨by decide, by decide⟩ ?_
        refine own_nreturn X68 hx Bd.notSynchronized hG Bd.returns (by simp) (hb hby d4_37) (by decide) (by decide) ?_
        rw [e68]
        exact ⟨by first | (unfold own_due; (try simp only [↓reduceIte, c64, c67, c69]) <;> rfl) | (simp [own_due, c64, c67, c69, nar]; done) | (simp [own_due, c64, c67, c69] <;> rfl), N0, rfl⟩
def Q5 (f1 : Int64) (h0 : Heap) (n0 : Nat) (v : Option Value) (h : Heap) (L : List Loc) : Prop := v = some (.long f1) ∧ Fr n0 L ∧ h = h0
theorem ef_rm5 (m : MethodId) (x0 : Addr) : entryFrame m #[(.ref x0)] 1 = mkF m 0 #[.val (.ref x0)] [] := by first | (simp [entryFrame, mkF, argsToLocals, Value.category, maxLocals]; done) | rfl
set_option maxRecDepth 65536 in
set_option maxHeartbeats 40000000 in
theorem rm5 (l : Launch) (Z : State) (a0 : Array Value) (hw : ∀ d ∈ tables_1, d.before a0 Z = true) (ws : List Jvm.Cond) (a : Addr) (f0 : Int64) (f1 : Int64) (f2 : Int64) (f3 : Int32) (f4 : Int64) (h0 : Heap) (n0 : Nat) (Z0 : n0 ≤ h0.size) (ga : n0 ≤ a) (B : own_HW Z h0 a f0 f1 f2 f3 f4) :
    MetFree l own_y5 (head1 (Jvm.Cond.code own_y5 prog_83_method_7_code 1 (some .long) :: ws) ({ frames := 0, cells := 0, slots := 0, locals := 0 } : Room)) (fun aR U => aR = #[(.ref a)] ∧ Z.Warmed39 U.vm ∧ U.heap = h0) (fun _ _ _ _ _ => True) (fun _ U o U' => ∃ v L, o = .returned v ∧ Q5 f1 h0 n0 v U'.heap L ∧ FrameEnd U o U' L ({ frames := 0, cells := 0, slots := 0, locals := 0 } : Room).cells ({ frames := 0, cells := 0, slots := 0, locals := 0 } : Room).slots) := by
  refine MetFree.of_bodySF pf_5 hisR ?_
  intro p e s m args below meth c s₁ Bd hml0 hP hK
  obtain ⟨rfl, hZ, hhE⟩ := hP
  have hx := Bd.exec
  have hby := Bd.bytes
  have hml : c.maxLocals = 1 := hml0
  have hown : s.vm.findClass "com/example/causeway/causeway/server/HandoverWait" = some m.cls := findClass_of_methodNamed Bd.named
  have hnm := (name_of_methodNamed Bd.named Bd.method).1
  have X0 : Stand p l e ({ frames := 0, cells := 0, slots := 0, locals := 0 } : Room) s m #[(.ref a)] below meth c s₁ [] 0 0 := Stand.of_body Bd
  have e0 : s₁.heap = h0 := by rw [← hhE, Bd.state]; rfl
  have N0 := Fr.nil n0
  show own_Go p e below (own_Post s (Q5 f1 h0 n0) ({ frames := 0, cells := 0, slots := 0, locals := 0 } : Room).cells ({ frames := 0, cells := 0, slots := 0, locals := 0 } : Room).slots) (s₁.setTop (entryFrame m #[(.ref a)] 1))
  rw [ef_rm5]
  generalize hG : own_Post s (Q5 f1 h0 n0) ({ frames := 0, cells := 0, slots := 0, locals := 0 } : Room).cells ({ frames := 0, cells := 0, slots := 0, locals := 0 } : Room).slots = G
  obtain ⟨E0, F0_0, F1_0, F2_0, F3_0, F4_0⟩ := B
  refine own_aloadN X0 hx (hb hby d5_0) rfl rfl 1 rfl ?_
  refine own_getF X0 hx hZ hown (own_w hw 11 rfl) Via.refl e0 F1_0 (hb hby d5_1) 4 rfl (fun T70 X70 e70 => ?_)
  refine own_lreturn X70 hx Bd.notSynchronized hG Bd.returns (hb hby d5_4) (by decide) (by decide) ?_
  rw [e70]
  exact ⟨rfl, N0, rfl⟩
def Q0 (h0 : Heap) (n0 : Nat) (v : Option Value) (h : Heap) (L : List Loc) : Prop := v = some (.int 1) ∧ Fr n0 L
theorem ef_rm0 (m : MethodId) (x0 : Int64) (x1 : Int64) (x2 : Int64) (x3 : Int64) (x4 : Int64) (x5 : Int32) : entryFrame m #[(.long x0), (.long x1), (.long x2), (.long x3), (.long x4), (.int x5)] maxLocals = mkF m 0 #[.val (.long x0), .second, .val (.long x1), .second, .val (.long x2), .second, .val (.long x3), .second, .val (.long x4), .second, .val (.int x5), .unset, .unset, .unset, .unset, .unset, .unset, .unset, .unset, .unset] [] := by first | (simp [entryFrame, mkF, argsToLocals, Value.category, maxLocals]; done) | rfl
set_option maxRecDepth 65536 in
set_option maxHeartbeats 40000000 in
theorem rm0 (l : Launch) (Z : State) (a0 : Array Value) (hw : ∀ d ∈ tables_1, d.before a0 Z = true) (ws : List Jvm.Cond) (le st t1 t2 q : Int64) (fl : Int32) (h0 : Heap) (n0 : Nat) (Z0 : n0 ≤ h0.size) :
    MetFree l x (head1 (Jvm.Cond.code x code maxLocals ret :: ws) room_1) (fun aR U => aR = #[(.long le), (.long st), (.long t1), (.long t2), (.long q), (.int fl)] ∧ Z.Warmed39 U.vm ∧ U.heap = h0) (fun _ _ _ _ _ => True) (fun _ U o U' => ∃ v L, o = .returned v ∧ Q0 h0 n0 v U'.heap L ∧ FrameEnd U o U' L room_1.cells room_1.slots) := by
  refine MetFree.of_bodySF (plainFor_of_name pn_0) hisR ?_
  intro p e s m args below meth c s₁ Bd hml0 hP hK
  obtain ⟨rfl, hZ, hhE⟩ := hP
  have hx := Bd.exec
  have hby := Bd.bytes
  have hml : c.maxLocals = 20 := hml0
  have hown : s.vm.findClass "com/example/causeway/causeway/server/HandoverWaitCaughtUpPinLaw" = some m.cls := findClass_of_methodNamed Bd.named
  have hnm := (name_of_methodNamed Bd.named Bd.method).1
  have X0 : Stand p l e room_1 s m #[(.long le), (.long st), (.long t1), (.long t2), (.long q), (.int fl)] below meth c s₁ [] 0 0 := Stand.of_body Bd
  have e0 : s₁.heap = h0 := by rw [← hhE, Bd.state]; rfl
  have N0 := Fr.nil n0
  show own_Go p e below (own_Post s (Q0 h0 n0) room_1.cells room_1.slots) (s₁.setTop (entryFrame m #[(.long le), (.long st), (.long t1), (.long t2), (.long q), (.int fl)] maxLocals))
  rw [ef_rm0]
  generalize hG : own_Post s (Q0 h0 n0) room_1.cells room_1.slots = G
  refine own_iload X0 hx (hb hby at_0) rfl 2 rfl ?_
  refine own_iconst X0 hx (hb hby at_2) (1 : Int32) rfl 3 rfl ?_
  refine own_iand X0 hx (hb hby at_3) 4 rfl ?_
  suffices kj73 : ∀ u72 : Int32, ((fl &&& (1 : Int32)) = (0 : Int32) → u72 = (0 : Int32)) → (¬ ((fl &&& (1 : Int32)) = (0 : Int32)) → u72 = (1 : Int32)) → own_Go p e below G (s₁.setTop (mkF m 12 #[.val (.long le), .second, .val (.long st), .second, .val (.long t1), .second, .val (.long t2), .second, .val (.long q), .second, .val (.int fl), .unset, .unset, .unset, .unset, .unset, .unset, .unset, .unset, .unset] [(.int u72)])) by
    by_cases c71 : (fl &&& (1 : Int32)) = (0 : Int32)
    ·
      refine own_ifY X0 hx (hb hby at_4) ((if0 _ _).trans (teq c71).1) 11 ⟨by decide, by decide⟩ ?_
      refine own_iconst X0 hx (hb hby at_11) (0 : Int32) rfl 12 rfl ?_
      exact kj73 (0 : Int32) (fun _ => rfl) (fun q => absurd c71 q)
    ·
      refine own_ifN X0 hx (hb hby at_4) ((if0 _ _).trans (feq c71).1) 7 rfl ?_
      refine own_iconst X0 hx (hb hby at_7) (1 : Int32) rfl 8 rfl ?_
      refine own_goto X0 hx (hb hby at_8) 12 ⟨by decide, by decide⟩ ?_
      exact kj73 (1 : Int32) (fun q => absurd q c71) (fun _ => rfl)
  intro u72 hu72T hu72F
  refine own_istore X0 hx (hb hby at_12) #[.val (.long le), .second, .val (.long st), .second, .val (.long t1), .second, .val (.long t2), .second, .val (.long q), .second, .val (.int fl), .val (.int u72), .unset, .unset, .unset, .unset, .unset, .unset, .unset, .unset] rfl 14 rfl ?_
  refine own_iload X0 hx (hb hby at_14) rfl 16 rfl ?_
  refine own_iconst X0 hx (hb hby at_16) (2 : Int32) rfl 17 rfl ?_
  refine own_iand X0 hx (hb hby at_17) 18 rfl ?_
  suffices kj76 : ∀ u75 : Int32, ((fl &&& (2 : Int32)) = (0 : Int32) → u75 = (0 : Int32)) → (¬ ((fl &&& (2 : Int32)) = (0 : Int32)) → u75 = (1 : Int32)) → own_Go p e below G (s₁.setTop (mkF m 26 #[.val (.long le), .second, .val (.long st), .second, .val (.long t1), .second, .val (.long t2), .second, .val (.long q), .second, .val (.int fl), .val (.int u72), .unset, .unset, .unset, .unset, .unset, .unset, .unset, .unset] [(.int u75)])) by
    by_cases c74 : (fl &&& (2 : Int32)) = (0 : Int32)
    ·
      refine own_ifY X0 hx (hb hby at_18) ((if0 _ _).trans (teq c74).1) 25 ⟨by decide, by decide⟩ ?_
      refine own_iconst X0 hx (hb hby at_25) (0 : Int32) rfl 26 rfl ?_
      exact kj76 (0 : Int32) (fun _ => rfl) (fun q => absurd c74 q)
    ·
      refine own_ifN X0 hx (hb hby at_18) ((if0 _ _).trans (feq c74).1) 21 rfl ?_
      refine own_iconst X0 hx (hb hby at_21) (1 : Int32) rfl 22 rfl ?_
      refine own_goto X0 hx (hb hby at_22) 26 ⟨by decide, by decide⟩ ?_
      exact kj76 (1 : Int32) (fun q => absurd q c74) (fun _ => rfl)
  intro u75 hu75T hu75F
  refine own_istore X0 hx (hb hby at_26) #[.val (.long le), .second, .val (.long st), .second, .val (.long t1), .second, .val (.long t2), .second, .val (.long q), .second, .val (.int fl), .val (.int u72), .val (.int u75), .unset, .unset, .unset, .unset, .unset, .unset, .unset] rfl 28 rfl ?_
  refine own_iload X0 hx (hb hby at_28) rfl 30 rfl ?_
  refine own_iconst X0 hx (hb hby at_30) (4 : Int32) rfl 31 rfl ?_
  refine own_iand X0 hx (hb hby at_31) 32 rfl ?_
  suffices kj79 : ∀ u78 : Int32, ((fl &&& (4 : Int32)) = (0 : Int32) → u78 = (0 : Int32)) → (¬ ((fl &&& (4 : Int32)) = (0 : Int32)) → u78 = (1 : Int32)) → own_Go p e below G (s₁.setTop (mkF m 40 #[.val (.long le), .second, .val (.long st), .second, .val (.long t1), .second, .val (.long t2), .second, .val (.long q), .second, .val (.int fl), .val (.int u72), .val (.int u75), .unset, .unset, .unset, .unset, .unset, .unset, .unset] [(.int u78)])) by
    by_cases c77 : (fl &&& (4 : Int32)) = (0 : Int32)
    ·
      refine own_ifY X0 hx (hb hby at_32) ((if0 _ _).trans (teq c77).1) 39 ⟨by decide, by decide⟩ ?_
      refine own_iconst X0 hx (hb hby at_39) (0 : Int32) rfl 40 rfl ?_
      exact kj79 (0 : Int32) (fun _ => rfl) (fun q => absurd c77 q)
    ·
      refine own_ifN X0 hx (hb hby at_32) ((if0 _ _).trans (feq c77).1) 35 rfl ?_
      refine own_iconst X0 hx (hb hby at_35) (1 : Int32) rfl 36 rfl ?_
      refine own_goto X0 hx (hb hby at_36) 40 ⟨by decide, by decide⟩ ?_
      exact kj79 (1 : Int32) (fun q => absurd q c77) (fun _ => rfl)
  intro u78 hu78T hu78F
  refine own_istore X0 hx (hb hby at_40) #[.val (.long le), .second, .val (.long st), .second, .val (.long t1), .second, .val (.long t2), .second, .val (.long q), .second, .val (.int fl), .val (.int u72), .val (.int u75), .val (.int u78), .unset, .unset, .unset, .unset, .unset, .unset] rfl 42 rfl ?_
  refine own_newO X0 hx hZ hown (own_w hw 0 rfl) (own_w hw 1 rfl) (own_w hw 2 rfl) e0 (hb hby at_42) (by decide) (by decide) 45 rfl (fun T80 h80 a80 g80 X80 e80 E80 A80 D80 => ?_)
  have ge81 : n0 ≤ a80 := by rw [g80]; exact Z0
  have Z82 : n0 ≤ h80.size := Nat.le_trans Z0 E80.1
  have F83 : Fld Z h80 a80 "com/example/causeway/causeway/server/HandoverWait" "leaseNanos" "J" (.long (0 : Int64)) := D80 (Or.inr (own_w hw 10 rfl)) (ty := .long) (by decide)
  have F84 : Fld Z h80 a80 "com/example/causeway/causeway/server/HandoverWait" "waitNanos" "J" (.long (0 : Int64)) := D80 (Or.inl (own_w hw 12 rfl)) (ty := .long) (by decide)
  have F85 : Fld Z h80 a80 "com/example/causeway/causeway/server/HandoverWait" "retryAfter" "J" (.long (0 : Int64)) := D80 (Or.inl (own_w hw 14 rfl)) (ty := .long) (by decide)
  have F86 : Fld Z h80 a80 "com/example/causeway/causeway/server/HandoverWait" "caughtUp" "Z" (.int (0 : Int32)) := D80 (Or.inl (own_w hw 21 rfl)) (ty := .boolean) (by decide)
  have F87 : Fld Z h80 a80 "com/example/causeway/causeway/server/HandoverWait" "caughtUpSince" "J" (.long (0 : Int64)) := D80 (Or.inl (own_w hw 38 rfl)) (ty := .long) (by decide)
  refine own_dup X80 hx (hb hby at_45) rfl 46 rfl ?_
  refine own_lloadN X80 hx (hb hby at_46) rfl 47 rfl ?_
  refine own_lloadN X80 hx (hb hby at_47) rfl 48 rfl ?_
  refine own_callI X80 hx hZ rfl hown (own_w hw 3 rfl) (own_w hw 4 rfl) (own_w hw 2 rfl) (own_w hw 5 rfl) (by decide) e80 (rm1 l Z a0 hw [] a80 le st h80 n0 Z82 ge81 ⟨A80, F83, F84, F85, F86, F87⟩) (by rw [hml]; rfl) pd_0 (argsL := [(.long le), (.long st)]) rfl (rest := [(.ref a80)]) rfl (hb hby at_48) 1 (Nat.le_of_eq rfl) (by decide) (by decide) (by decide) (by decide) 51 rfl (fun T88 L88 v88 X88 hQ88 => ?_)
  obtain ⟨rfl, N88, K88, E88, F0_88, F1_88, F2_88, F3_88, F4_88⟩ := hQ88
  have N89 := Fr.app N0 N88
  have Z90 : n0 ≤ T88.heap.size := Nat.le_trans Z82 K88.1
  show own_Go p e below G (T88.setTop (mkF m 51 #[.val (.long le), .second, .val (.long st), .second, .val (.long t1), .second, .val (.long t2), .second, .val (.long q), .second, .val (.int fl), .val (.int u72), .val (.int u75), .val (.int u78), .unset, .unset, .unset, .unset, .unset, .unset] [(.ref a80)]))
  refine own_astore X88 hx (hb hby at_51) rfl #[.val (.long le), .second, .val (.long st), .second, .val (.long t1), .second, .val (.long t2), .second, .val (.long q), .second, .val (.int fl), .val (.int u72), .val (.int u75), .val (.int u78), .val (.ref a80), .unset, .unset, .unset, .unset, .unset] rfl 53 rfl ?_
  refine own_iconst X88 hx (hb hby at_53) (0 : Int32) rfl 54 rfl ?_
  refine own_istore X88 hx (hb hby at_54) #[.val (.long le), .second, .val (.long st), .second, .val (.long t1), .second, .val (.long t2), .second, .val (.long q), .second, .val (.int fl), .val (.int u72), .val (.int u75), .val (.int u78), .val (.ref a80), .val (.int (0 : Int32)), .unset, .unset, .unset, .unset] rfl 56 rfl ?_
  refine own_lconst X88 hx (hb hby at_56) (0 : Int64) rfl 57 rfl ?_
  refine own_lstore X88 hx (hb hby at_57) #[.val (.long le), .second, .val (.long st), .second, .val (.long t1), .second, .val (.long t2), .second, .val (.long q), .second, .val (.int fl), .val (.int u72), .val (.int u75), .val (.int u78), .val (.ref a80), .val (.int (0 : Int32)), .val (.long (0 : Int64)), .second, .unset, .unset] rfl 59 rfl ?_
  refine own_iload X88 hx (hb hby at_59) rfl 61 rfl ?_
  by_cases c91 : u72 = (0 : Int32)
  ·
    refine own_ifY X88 hx (hb hby at_61) ((if0 _ _).trans (teq c91).1) 78 ⟨by decide, by decide⟩ ?_
    refine own_iload X88 hx (hb hby at_78) rfl 80 rfl ?_
    by_cases c92 : u75 = (0 : Int32)
    ·
      refine own_ifY X88 hx (hb hby at_80) ((if0 _ _).trans (teq c92).1) 91 ⟨by decide, by decide⟩ ?_
      refine own_iload X88 hx (hb hby at_91) rfl 93 rfl ?_
      by_cases c93 : u78 = (0 : Int32)
      ·
        refine own_ifY X88 hx (hb hby at_93) ((if0 _ _).trans (teq c93).1) 115 ⟨by decide, by decide⟩ ?_
        refine own_iconst X88 hx (hb hby at_115) (0 : Int32) rfl 116 rfl ?_
        refine own_istore X88 hx (hb hby at_116) #[.val (.long le), .second, .val (.long st), .second, .val (.long t1), .second, .val (.long t2), .second, .val (.long q), .second, .val (.int fl), .val (.int u72), .val (.int u75), .val (.int u78), .val (.ref a80), .val (.int (0 : Int32)), .val (.long (0 : Int64)), .second, .val (.int (0 : Int32)), .unset] rfl 118 rfl ?_
        suffices kj95 : ∀ u94 : Int32, u94 = own_due (0 : Int32) (0 : Int64) le st q → own_Go p e below G (T88.setTop (mkF m 145 #[.val (.long le), .second, .val (.long st), .second, .val (.long t1), .second, .val (.long t2), .second, .val (.long q), .second, .val (.int fl), .val (.int u72), .val (.int u75), .val (.int u78), .val (.ref a80), .val (.int (0 : Int32)), .val (.long (0 : Int64)), .second, .val (.int u94), .unset] [])) by
          refine own_iload X88 hx (hb hby at_118) rfl 120 rfl ?_
          refine own_ifY X88 hx (hb hby at_120) ((if0 _ _).trans (teq (by decide)).1) 145 ⟨by decide, by decide⟩ ?_
          exact kj95 (0 : Int32) (by simp [own_due, c91, c92, c93])
        intro u94 hu94
        refine own_aload X88 hx (hb hby at_145) rfl rfl 147 rfl ?_
        refine own_lload X88 hx (hb hby at_147) rfl 149 rfl ?_
        refine own_callV X88 hx hZ hown (own_w hw 22 rfl) (own_w hw 23 rfl) (own_w hw 25 rfl) (notFace_of_selects (args := #[]) (mvT hZ (own_w hw 25 rfl))) (own_w hw 24 rfl) (own_w hw 2 rfl) (own_w hw 26 rfl) (by decide) (rfl : T88.heap = T88.heap) E88 (rm4 l Z a0 hw [] a80 q le le st (0 : Int32) (0 : Int64) T88.heap n0 Z90 ge81 ⟨E88, F0_88, F1_88, F2_88, F3_88, F4_88⟩) (by rw [hml]; rfl) pd_1 (argsL := [(.long q)]) rfl (rest := []) rfl (hb hby at_149) 0 (Nat.le_of_eq rfl) (by decide) (by decide) (by decide) (by decide) 152 rfl (fun T96 L96 v96 X96 hQ96 => ?_)
        obtain ⟨rfl, N96, e96⟩ := hQ96
        have N97 := Fr.app N89 N96
        show own_Go p e below G (T96.setTop (mkF m 152 #[.val (.long le), .second, .val (.long st), .second, .val (.long t1), .second, .val (.long t2), .second, .val (.long q), .second, .val (.int fl), .val (.int u72), .val (.int u75), .val (.int u78), .val (.ref a80), .val (.int (0 : Int32)), .val (.long (0 : Int64)), .second, .val (.int u94), .unset] [(.int (own_due (0 : Int32) (0 : Int64) le st q))]))
        refine own_istore X96 hx (hb hby at_152) #[.val (.long le), .second, .val (.long st), .second, .val (.long t1), .second, .val (.long t2), .second, .val (.long q), .second, .val (.int fl), .val (.int u72), .val (.int u75), .val (.int u78), .val (.ref a80), .val (.int (0 : Int32)), .val (.long (0 : Int64)), .second, .val (.int u94), .val (.int (own_due (0 : Int32) (0 : Int64) le st q))] rfl 154 rfl ?_
        refine own_iload X96 hx (hb hby at_154) rfl 156 rfl ?_
        refine own_iload X96 hx (hb hby at_156) rfl 158 rfl ?_
        refine own_icmpN X96 hx (hb hby at_158) (teq (by subst hu94; first | rfl | (simp [own_due]))).2 161 rfl ?_
        refine own_aload X96 hx (hb hby at_161) rfl rfl 163 rfl ?_
        refine own_callV X96 hx hZ hown (own_w hw 27 rfl) (own_w hw 28 rfl) (own_w hw 30 rfl) (notFace_of_selects (args := #[]) (mvT hZ (own_w hw 30 rfl))) (own_w hw 29 rfl) (own_w hw 2 rfl) (own_w hw 31 rfl) (by decide) e96 E88 (rm5 l Z a0 hw [] a80 le le st (0 : Int32) (0 : Int64) T88.heap n0 Z90 ge81 ⟨E88, F0_88, F1_88, F2_88, F3_88, F4_88⟩) (by rw [hml]; rfl) pd_2 (argsL := []) rfl (rest := []) rfl (hb hby at_163) 0 (Nat.le_of_eq rfl) (by decide) (by decide) (by decide) (by decide) 166 rfl (fun T98 L98 v98 X98 hQ98 => ?_)
        obtain ⟨rfl, N98, e98⟩ := hQ98
        have N99 := Fr.app N97 N98
        show own_Go p e below G (T98.setTop (mkF m 166 #[.val (.long le), .second, .val (.long st), .second, .val (.long t1), .second, .val (.long t2), .second, .val (.long q), .second, .val (.int fl), .val (.int u72), .val (.int u75), .val (.int u78), .val (.ref a80), .val (.int (0 : Int32)), .val (.long (0 : Int64)), .second, .val (.int u94), .val (.int (own_due (0 : Int32) (0 : Int64) le st q))] [(.long le)]))
        refine own_lloadN X98 hx (hb hby at_166) rfl 167 rfl ?_
        refine own_lcmp X98 hx (hb hby at_167) 168 rfl ?_
        refine own_ifN X98 hx (hb hby at_168) (own_eqL rfl).2 171 rfl ?_
        refine own_iconst X98 hx (hb hby at_171) (1 : Int32) rfl 172 rfl ?_
        refine own_goto X98 hx (hb hby at_172) 176 ⟨by decide, by decide⟩ ?_
        refine own_nreturn X98 hx Bd.notSynchronized hG Bd.returns (by simp) (hb hby at_176) (by decide) (by decide) ?_
        rw [e98]
        exact ⟨rfl, N99⟩
      ·
        refine own_ifN X88 hx (hb hby at_93) ((if0 _ _).trans (feq c93).1) 96 rfl ?_
        refine own_aload X88 hx (hb hby at_96) rfl rfl 98 rfl ?_
        refine own_lload X88 hx (hb hby at_98) rfl 100 rfl ?_
        refine own_callV X88 hx hZ hown (own_w hw 32 rfl) (own_w hw 33 rfl) (own_w hw 35 rfl) (notFace_of_selects (args := #[]) (mvT hZ (own_w hw 35 rfl))) (own_w hw 34 rfl) (own_w hw 2 rfl) (own_w hw 36 rfl) (by decide) (rfl : T88.heap = T88.heap) E88 (rm2 l Z a0 hw [] a80 t2 le le st (0 : Int32) (0 : Int64) T88.heap n0 Z90 ge81 ⟨E88, F0_88, F1_88, F2_88, F3_88, F4_88⟩) (by rw [hml]; rfl) pd_3 (argsL := [(.long t2)]) rfl (rest := []) rfl (hb hby at_100) 0 (Nat.le_of_eq rfl) (by decide) (by decide) (by decide) (by decide) 103 rfl (fun T100 L100 v100 X100 hQ100 => ?_)
        have hQ100 : v100 = none ∧ Fr n0 L100 ∧ Keep T88.heap T100.heap [a80] ∧ own_HW Z T100.heap a80 le le st (1 : Int32) t2 := hQ100
        obtain ⟨rfl, N100, K100, E100, F0_100, F1_100, F2_100, F3_100, F4_100⟩ := hQ100
        have N101 := Fr.app N89 N100
        have Z102 : n0 ≤ T100.heap.size := Nat.le_trans Z90 K100.1
        show own_Go p e below G (T100.setTop (mkF m 103 #[.val (.long le), .second, .val (.long st), .second, .val (.long t1), .second, .val (.long t2), .second, .val (.long q), .second, .val (.int fl), .val (.int u72), .val (.int u75), .val (.int u78), .val (.ref a80), .val (.int (0 : Int32)), .val (.long (0 : Int64)), .second, .unset, .unset] []))
        refine own_iload X100 hx (hb hby at_103) rfl 105 rfl ?_
        refine own_ifN X100 hx (hb hby at_105) ((if0 _ _).trans (teq (by decide)).2) 108 rfl ?_
        refine own_iconst X100 hx (hb hby at_108) (1 : Int32) rfl 109 rfl ?_
        refine own_istore X100 hx (hb hby at_109) #[.val (.long le), .second, .val (.long st), .second, .val (.long t1), .second, .val (.long t2), .second, .val (.long q), .second, .val (.int fl), .val (.int u72), .val (.int u75), .val (.int u78), .val (.ref a80), .val (.int (1 : Int32)), .val (.long (0 : Int64)), .second, .unset, .unset] rfl 111 rfl ?_
        refine own_lload X100 hx (hb hby at_111) rfl 113 rfl ?_
        refine own_lstore X100 hx (hb hby at_113) #[.val (.long le), .second, .val (.long st), .second, .val (.long t1), .second, .val (.long t2), .second, .val (.long q), .second, .val (.int fl), .val (.int u72), .val (.int u75), .val (.int u78), .val (.ref a80), .val (.int (1 : Int32)), .val (.long t2), .second, .unset, .unset] rfl 115 rfl ?_
        refine own_iconst X100 hx (hb hby at_115) (0 : Int32) rfl 116 rfl ?_
        refine own_istore X100 hx (hb hby at_116) #[.val (.long le), .second, .val (.long st), .second, .val (.long t1), .second, .val (.long t2), .second, .val (.long q), .second, .val (.int fl), .val (.int u72), .val (.int u75), .val (.int u78), .val (.ref a80), .val (.int (1 : Int32)), .val (.long t2), .second, .val (.int (0 : Int32)), .unset] rfl 118 rfl ?_
        suffices kj104 : ∀ u103 : Int32, u103 = own_due (1 : Int32) t2 le st q → own_Go p e below G (T100.setTop (mkF m 145 #[.val (.long le), .second, .val (.long st), .second, .val (.long t1), .second, .val (.long t2), .second, .val (.long q), .second, .val (.int fl), .val (.int u72), .val (.int u75), .val (.int u78), .val (.ref a80), .val (.int (1 : Int32)), .val (.long t2), .second, .val (.int u103), .unset] [])) by
          refine own_iload X100 hx (hb hby at_118) rfl 120 rfl ?_
          refine own_ifN X100 hx (hb hby at_120) ((if0 _ _).trans (feq (by decide)).1) 123 rfl ?_
          refine own_lload X100 hx (hb hby at_123) rfl 125 rfl ?_
          refine own_lload X100 hx (hb hby at_125) rfl 127 rfl ?_
          refine own_lsub X100 hx (hb hby at_127) 128 rfl ?_
          refine own_lloadN X100 hx (hb hby at_128) rfl 129 rfl ?_
          refine own_lcmp X100 hx (hb hby at_129) 130 rfl ?_
          by_cases c105 : (q - t2) < le
          ·
            refine own_ifY X100 hx (hb hby at_130) (own_ltL c105).1 145 ⟨by decide, by decide⟩ ?_
            exact kj104 (0 : Int32) (by simp [own_due, c91, c92, c93, c105])
          ·
            refine own_ifN X100 hx (hb hby at_130) (own_nltL c105).1 133 rfl ?_
            refine own_lload X100 hx (hb hby at_133) rfl 135 rfl ?_
            refine own_lloadN X100 hx (hb hby at_135) rfl 136 rfl ?_
            refine own_lsub X100 hx (hb hby at_136) 137 rfl ?_
            refine own_lconst X100 hx (hb hby at_137) (0 : Int64) rfl 138 rfl ?_
            refine own_lcmp X100 hx (hb hby at_138) 139 rfl ?_
            by_cases c106 : (q - st) < (0 : Int64)
            ·
              refine own_ifY X100 hx (hb hby at_139) (own_ltL c106).1 145 ⟨by decide, by decide⟩ ?_
              exact kj104 (0 : Int32) (by simp [own_due, c91, c92, c93, c105, c106])
            ·
              refine own_ifN X100 hx (hb hby at_139) (own_nltL c106).1 142 rfl ?_
              refine own_iconst X100 hx (hb hby at_142) (1 : Int32) rfl 143 rfl ?_
              refine own_istore X100 hx (hb hby at_143) #[.val (.long le), .second, .val (.long st), .second, .val (.long t1), .second, .val (.long t2), .second, .val (.long q), .second, .val (.int fl), .val (.int u72), .val (.int u75), .val (.int u78), .val (.ref a80), .val (.int (1 : Int32)), .val (.long t2), .second, .val (.int (1 : Int32)), .unset] rfl 145 rfl ?_
              exact kj104 (1 : Int32) (by simp [own_due, c91, c92, c93, c105, c106])
        intro u103 hu103
        refine own_aload X100 hx (hb hby at_145) rfl rfl 147 rfl ?_
        refine own_lload X100 hx (hb hby at_147) rfl 149 rfl ?_
        refine own_callV X100 hx hZ hown (own_w hw 22 rfl) (own_w hw 23 rfl) (own_w hw 25 rfl) (notFace_of_selects (args := #[]) (mvT hZ (own_w hw 25 rfl))) (own_w hw 24 rfl) (own_w hw 2 rfl) (own_w hw 26 rfl) (by decide) (rfl : T100.heap = T100.heap) E100 (rm4 l Z a0 hw [] a80 q le le st (1 : Int32) t2 T100.heap n0 Z102 ge81 ⟨E100, F0_100, F1_100, F2_100, F3_100, F4_100⟩) (by rw [hml]; rfl) pd_1 (argsL := [(.long q)]) rfl (rest := []) rfl (hb hby at_149) 0 (Nat.le_of_eq rfl) (by decide) (by decide) (by decide) (by decide) 152 rfl (fun T107 L107 v107 X107 hQ107 => ?_)
        obtain ⟨rfl, N107, e107⟩ := hQ107
        have N108 := Fr.app N101 N107
        show own_Go p e below G (T107.setTop (mkF m 152 #[.val (.long le), .second, .val (.long st), .second, .val (.long t1), .second, .val (.long t2), .second, .val (.long q), .second, .val (.int fl), .val (.int u72), .val (.int u75), .val (.int u78), .val (.ref a80), .val (.int (1 : Int32)), .val (.long t2), .second, .val (.int u103), .unset] [(.int (own_due (1 : Int32) t2 le st q))]))
        refine own_istore X107 hx (hb hby at_152) #[.val (.long le), .second, .val (.long st), .second, .val (.long t1), .second, .val (.long t2), .second, .val (.long q), .second, .val (.int fl), .val (.int u72), .val (.int u75), .val (.int u78), .val (.ref a80), .val (.int (1 : Int32)), .val (.long t2), .second, .val (.int u103), .val (.int (own_due (1 : Int32) t2 le st q))] rfl 154 rfl ?_
        refine own_iload X107 hx (hb hby at_154) rfl 156 rfl ?_
        refine own_iload X107 hx (hb hby at_156) rfl 158 rfl ?_
        refine own_icmpN X107 hx (hb hby at_158) (teq (by subst hu103; first | rfl | (simp [own_due]))).2 161 rfl ?_
        refine own_aload X107 hx (hb hby at_161) rfl rfl 163 rfl ?_
        refine own_callV X107 hx hZ hown (own_w hw 27 rfl) (own_w hw 28 rfl) (own_w hw 30 rfl) (notFace_of_selects (args := #[]) (mvT hZ (own_w hw 30 rfl))) (own_w hw 29 rfl) (own_w hw 2 rfl) (own_w hw 31 rfl) (by decide) e107 E100 (rm5 l Z a0 hw [] a80 le le st (1 : Int32) t2 T100.heap n0 Z102 ge81 ⟨E100, F0_100, F1_100, F2_100, F3_100, F4_100⟩) (by rw [hml]; rfl) pd_2 (argsL := []) rfl (rest := []) rfl (hb hby at_163) 0 (Nat.le_of_eq rfl) (by decide) (by decide) (by decide) (by decide) 166 rfl (fun T109 L109 v109 X109 hQ109 => ?_)
        obtain ⟨rfl, N109, e109⟩ := hQ109
        have N110 := Fr.app N108 N109
        show own_Go p e below G (T109.setTop (mkF m 166 #[.val (.long le), .second, .val (.long st), .second, .val (.long t1), .second, .val (.long t2), .second, .val (.long q), .second, .val (.int fl), .val (.int u72), .val (.int u75), .val (.int u78), .val (.ref a80), .val (.int (1 : Int32)), .val (.long t2), .second, .val (.int u103), .val (.int (own_due (1 : Int32) t2 le st q))] [(.long le)]))
        refine own_lloadN X109 hx (hb hby at_166) rfl 167 rfl ?_
        refine own_lcmp X109 hx (hb hby at_167) 168 rfl ?_
        refine own_ifN X109 hx (hb hby at_168) (own_eqL rfl).2 171 rfl ?_
        refine own_iconst X109 hx (hb hby at_171) (1 : Int32) rfl 172 rfl ?_
        refine own_goto X109 hx (hb hby at_172) 176 ⟨by decide, by decide⟩ ?_
        refine own_nreturn X109 hx Bd.notSynchronized hG Bd.returns (by simp) (hb hby at_176) (by decide) (by decide) ?_
        rw [e109]
        exact ⟨rfl, N110⟩
    ·
      refine own_ifN X88 hx (hb hby at_80) ((if0 _ _).trans (feq c92).1) 83 rfl ?_
      refine own_aload X88 hx (hb hby at_83) rfl rfl 85 rfl ?_
      refine own_callV X88 hx hZ hown (own_w hw 15 rfl) (own_w hw 16 rfl) (own_w hw 18 rfl) (notFace_of_selects (args := #[]) (mvT hZ (own_w hw 18 rfl))) (own_w hw 17 rfl) (own_w hw 2 rfl) (own_w hw 19 rfl) (by decide) (rfl : T88.heap = T88.heap) E88 (rm3 l Z a0 hw [] a80 le le st (0 : Int32) (0 : Int64) T88.heap n0 Z90 ge81 ⟨E88, F0_88, F1_88, F2_88, F3_88, F4_88⟩) (by rw [hml]; rfl) pd_4 (argsL := []) rfl (rest := []) rfl (hb hby at_85) 0 (Nat.le_of_eq rfl) (by decide) (by decide) (by decide) (by decide) 88 rfl (fun T111 L111 v111 X111 hQ111 => ?_)
      obtain ⟨rfl, N111, K111, E111, F0_111, F1_111, F2_111, F3_111, F4_111⟩ := hQ111
      have N112 := Fr.app N89 N111
      have Z113 : n0 ≤ T111.heap.size := Nat.le_trans Z90 K111.1
      show own_Go p e below G (T111.setTop (mkF m 88 #[.val (.long le), .second, .val (.long st), .second, .val (.long t1), .second, .val (.long t2), .second, .val (.long q), .second, .val (.int fl), .val (.int u72), .val (.int u75), .val (.int u78), .val (.ref a80), .val (.int (0 : Int32)), .val (.long (0 : Int64)), .second, .unset, .unset] []))
      refine own_iconst X111 hx (hb hby at_88) (0 : Int32) rfl 89 rfl ?_
      refine own_istore X111 hx (hb hby at_89) #[.val (.long le), .second, .val (.long st), .second, .val (.long t1), .second, .val (.long t2), .second, .val (.long q), .second, .val (.int fl), .val (.int u72), .val (.int u75), .val (.int u78), .val (.ref a80), .val (.int (0 : Int32)), .val (.long (0 : Int64)), .second, .unset, .unset] rfl 91 rfl ?_
      refine own_iload X111 hx (hb hby at_91) rfl 93 rfl ?_
      by_cases c114 : u78 = (0 : Int32)
      ·
        refine own_ifY X111 hx (hb hby at_93) ((if0 _ _).trans (teq c114).1) 115 ⟨by decide, by decide⟩ ?_
        refine own_iconst X111 hx (hb hby at_115) (0 : Int32) rfl 116 rfl ?_
        refine own_istore X111 hx (hb hby at_116) #[.val (.long le), .second, .val (.long st), .second, .val (.long t1), .second, .val (.long t2), .second, .val (.long q), .second, .val (.int fl), .val (.int u72), .val (.int u75), .val (.int u78), .val (.ref a80), .val (.int (0 : Int32)), .val (.long (0 : Int64)), .second, .val (.int (0 : Int32)), .unset] rfl 118 rfl ?_
        suffices kj116 : ∀ u115 : Int32, u115 = own_due (0 : Int32) (0 : Int64) le st q → own_Go p e below G (T111.setTop (mkF m 145 #[.val (.long le), .second, .val (.long st), .second, .val (.long t1), .second, .val (.long t2), .second, .val (.long q), .second, .val (.int fl), .val (.int u72), .val (.int u75), .val (.int u78), .val (.ref a80), .val (.int (0 : Int32)), .val (.long (0 : Int64)), .second, .val (.int u115), .unset] [])) by
          refine own_iload X111 hx (hb hby at_118) rfl 120 rfl ?_
          refine own_ifY X111 hx (hb hby at_120) ((if0 _ _).trans (teq (by decide)).1) 145 ⟨by decide, by decide⟩ ?_
          exact kj116 (0 : Int32) (by simp [own_due, c91, c92, c114])
        intro u115 hu115
        refine own_aload X111 hx (hb hby at_145) rfl rfl 147 rfl ?_
        refine own_lload X111 hx (hb hby at_147) rfl 149 rfl ?_
        refine own_callV X111 hx hZ hown (own_w hw 22 rfl) (own_w hw 23 rfl) (own_w hw 25 rfl) (notFace_of_selects (args := #[]) (mvT hZ (own_w hw 25 rfl))) (own_w hw 24 rfl) (own_w hw 2 rfl) (own_w hw 26 rfl) (by decide) (rfl : T111.heap = T111.heap) E111 (rm4 l Z a0 hw [] a80 q le le st (0 : Int32) (0 : Int64) T111.heap n0 Z113 ge81 ⟨E111, F0_111, F1_111, F2_111, F3_111, F4_111⟩) (by rw [hml]; rfl) pd_1 (argsL := [(.long q)]) rfl (rest := []) rfl (hb hby at_149) 0 (Nat.le_of_eq rfl) (by decide) (by decide) (by decide) (by decide) 152 rfl (fun T117 L117 v117 X117 hQ117 => ?_)
        obtain ⟨rfl, N117, e117⟩ := hQ117
        have N118 := Fr.app N112 N117
        show own_Go p e below G (T117.setTop (mkF m 152 #[.val (.long le), .second, .val (.long st), .second, .val (.long t1), .second, .val (.long t2), .second, .val (.long q), .second, .val (.int fl), .val (.int u72), .val (.int u75), .val (.int u78), .val (.ref a80), .val (.int (0 : Int32)), .val (.long (0 : Int64)), .second, .val (.int u115), .unset] [(.int (own_due (0 : Int32) (0 : Int64) le st q))]))
        refine own_istore X117 hx (hb hby at_152) #[.val (.long le), .second, .val (.long st), .second, .val (.long t1), .second, .val (.long t2), .second, .val (.long q), .second, .val (.int fl), .val (.int u72), .val (.int u75), .val (.int u78), .val (.ref a80), .val (.int (0 : Int32)), .val (.long (0 : Int64)), .second, .val (.int u115), .val (.int (own_due (0 : Int32) (0 : Int64) le st q))] rfl 154 rfl ?_
        refine own_iload X117 hx (hb hby at_154) rfl 156 rfl ?_
        refine own_iload X117 hx (hb hby at_156) rfl 158 rfl ?_
        refine own_icmpN X117 hx (hb hby at_158) (teq (by subst hu115; first | rfl | (simp [own_due]))).2 161 rfl ?_
        refine own_aload X117 hx (hb hby at_161) rfl rfl 163 rfl ?_
        refine own_callV X117 hx hZ hown (own_w hw 27 rfl) (own_w hw 28 rfl) (own_w hw 30 rfl) (notFace_of_selects (args := #[]) (mvT hZ (own_w hw 30 rfl))) (own_w hw 29 rfl) (own_w hw 2 rfl) (own_w hw 31 rfl) (by decide) e117 E111 (rm5 l Z a0 hw [] a80 le le st (0 : Int32) (0 : Int64) T111.heap n0 Z113 ge81 ⟨E111, F0_111, F1_111, F2_111, F3_111, F4_111⟩) (by rw [hml]; rfl) pd_2 (argsL := []) rfl (rest := []) rfl (hb hby at_163) 0 (Nat.le_of_eq rfl) (by decide) (by decide) (by decide) (by decide) 166 rfl (fun T119 L119 v119 X119 hQ119 => ?_)
        obtain ⟨rfl, N119, e119⟩ := hQ119
        have N120 := Fr.app N118 N119
        show own_Go p e below G (T119.setTop (mkF m 166 #[.val (.long le), .second, .val (.long st), .second, .val (.long t1), .second, .val (.long t2), .second, .val (.long q), .second, .val (.int fl), .val (.int u72), .val (.int u75), .val (.int u78), .val (.ref a80), .val (.int (0 : Int32)), .val (.long (0 : Int64)), .second, .val (.int u115), .val (.int (own_due (0 : Int32) (0 : Int64) le st q))] [(.long le)]))
        refine own_lloadN X119 hx (hb hby at_166) rfl 167 rfl ?_
        refine own_lcmp X119 hx (hb hby at_167) 168 rfl ?_
        refine own_ifN X119 hx (hb hby at_168) (own_eqL rfl).2 171 rfl ?_
        refine own_iconst X119 hx (hb hby at_171) (1 : Int32) rfl 172 rfl ?_
        refine own_goto X119 hx (hb hby at_172) 176 ⟨by decide, by decide⟩ ?_
        refine own_nreturn X119 hx Bd.notSynchronized hG Bd.returns (by simp) (hb hby at_176) (by decide) (by decide) ?_
        rw [e119]
        exact ⟨rfl, N120⟩
      ·
        refine own_ifN X111 hx (hb hby at_93) ((if0 _ _).trans (feq c114).1) 96 rfl ?_
        refine own_aload X111 hx (hb hby at_96) rfl rfl 98 rfl ?_
        refine own_lload X111 hx (hb hby at_98) rfl 100 rfl ?_
        refine own_callV X111 hx hZ hown (own_w hw 32 rfl) (own_w hw 33 rfl) (own_w hw 35 rfl) (notFace_of_selects (args := #[]) (mvT hZ (own_w hw 35 rfl))) (own_w hw 34 rfl) (own_w hw 2 rfl) (own_w hw 36 rfl) (by decide) (rfl : T111.heap = T111.heap) E111 (rm2 l Z a0 hw [] a80 t2 le le st (0 : Int32) (0 : Int64) T111.heap n0 Z113 ge81 ⟨E111, F0_111, F1_111, F2_111, F3_111, F4_111⟩) (by rw [hml]; rfl) pd_3 (argsL := [(.long t2)]) rfl (rest := []) rfl (hb hby at_100) 0 (Nat.le_of_eq rfl) (by decide) (by decide) (by decide) (by decide) 103 rfl (fun T121 L121 v121 X121 hQ121 => ?_)
        have hQ121 : v121 = none ∧ Fr n0 L121 ∧ Keep T111.heap T121.heap [a80] ∧ own_HW Z T121.heap a80 le le st (1 : Int32) t2 := hQ121
        obtain ⟨rfl, N121, K121, E121, F0_121, F1_121, F2_121, F3_121, F4_121⟩ := hQ121
        have N122 := Fr.app N112 N121
        have Z123 : n0 ≤ T121.heap.size := Nat.le_trans Z113 K121.1
        show own_Go p e below G (T121.setTop (mkF m 103 #[.val (.long le), .second, .val (.long st), .second, .val (.long t1), .second, .val (.long t2), .second, .val (.long q), .second, .val (.int fl), .val (.int u72), .val (.int u75), .val (.int u78), .val (.ref a80), .val (.int (0 : Int32)), .val (.long (0 : Int64)), .second, .unset, .unset] []))
        refine own_iload X121 hx (hb hby at_103) rfl 105 rfl ?_
        refine own_ifN X121 hx (hb hby at_105) ((if0 _ _).trans (teq (by decide)).2) 108 rfl ?_
        refine own_iconst X121 hx (hb hby at_108) (1 : Int32) rfl 109 rfl ?_
        refine own_istore X121 hx (hb hby at_109) #[.val (.long le), .second, .val (.long st), .second, .val (.long t1), .second, .val (.long t2), .second, .val (.long q), .second, .val (.int fl), .val (.int u72), .val (.int u75), .val (.int u78), .val (.ref a80), .val (.int (1 : Int32)), .val (.long (0 : Int64)), .second, .unset, .unset] rfl 111 rfl ?_
        refine own_lload X121 hx (hb hby at_111) rfl 113 rfl ?_
        refine own_lstore X121 hx (hb hby at_113) #[.val (.long le), .second, .val (.long st), .second, .val (.long t1), .second, .val (.long t2), .second, .val (.long q), .second, .val (.int fl), .val (.int u72), .val (.int u75), .val (.int u78), .val (.ref a80), .val (.int (1 : Int32)), .val (.long t2), .second, .unset, .unset] rfl 115 rfl ?_
        refine own_iconst X121 hx (hb hby at_115) (0 : Int32) rfl 116 rfl ?_
        refine own_istore X121 hx (hb hby at_116) #[.val (.long le), .second, .val (.long st), .second, .val (.long t1), .second, .val (.long t2), .second, .val (.long q), .second, .val (.int fl), .val (.int u72), .val (.int u75), .val (.int u78), .val (.ref a80), .val (.int (1 : Int32)), .val (.long t2), .second, .val (.int (0 : Int32)), .unset] rfl 118 rfl ?_
        suffices kj125 : ∀ u124 : Int32, u124 = own_due (1 : Int32) t2 le st q → own_Go p e below G (T121.setTop (mkF m 145 #[.val (.long le), .second, .val (.long st), .second, .val (.long t1), .second, .val (.long t2), .second, .val (.long q), .second, .val (.int fl), .val (.int u72), .val (.int u75), .val (.int u78), .val (.ref a80), .val (.int (1 : Int32)), .val (.long t2), .second, .val (.int u124), .unset] [])) by
          refine own_iload X121 hx (hb hby at_118) rfl 120 rfl ?_
          refine own_ifN X121 hx (hb hby at_120) ((if0 _ _).trans (feq (by decide)).1) 123 rfl ?_
          refine own_lload X121 hx (hb hby at_123) rfl 125 rfl ?_
          refine own_lload X121 hx (hb hby at_125) rfl 127 rfl ?_
          refine own_lsub X121 hx (hb hby at_127) 128 rfl ?_
          refine own_lloadN X121 hx (hb hby at_128) rfl 129 rfl ?_
          refine own_lcmp X121 hx (hb hby at_129) 130 rfl ?_
          by_cases c126 : (q - t2) < le
          ·
            refine own_ifY X121 hx (hb hby at_130) (own_ltL c126).1 145 ⟨by decide, by decide⟩ ?_
            exact kj125 (0 : Int32) (by simp [own_due, c91, c92, c114, c126])
          ·
            refine own_ifN X121 hx (hb hby at_130) (own_nltL c126).1 133 rfl ?_
            refine own_lload X121 hx (hb hby at_133) rfl 135 rfl ?_
            refine own_lloadN X121 hx (hb hby at_135) rfl 136 rfl ?_
            refine own_lsub X121 hx (hb hby at_136) 137 rfl ?_
            refine own_lconst X121 hx (hb hby at_137) (0 : Int64) rfl 138 rfl ?_
            refine own_lcmp X121 hx (hb hby at_138) 139 rfl ?_
            by_cases c127 : (q - st) < (0 : Int64)
            ·
              refine own_ifY X121 hx (hb hby at_139) (own_ltL c127).1 145 ⟨by decide, by decide⟩ ?_
              exact kj125 (0 : Int32) (by simp [own_due, c91, c92, c114, c126, c127])
            ·
              refine own_ifN X121 hx (hb hby at_139) (own_nltL c127).1 142 rfl ?_
              refine own_iconst X121 hx (hb hby at_142) (1 : Int32) rfl 143 rfl ?_
              refine own_istore X121 hx (hb hby at_143) #[.val (.long le), .second, .val (.long st), .second, .val (.long t1), .second, .val (.long t2), .second, .val (.long q), .second, .val (.int fl), .val (.int u72), .val (.int u75), .val (.int u78), .val (.ref a80), .val (.int (1 : Int32)), .val (.long t2), .second, .val (.int (1 : Int32)), .unset] rfl 145 rfl ?_
              exact kj125 (1 : Int32) (by simp [own_due, c91, c92, c114, c126, c127])
        intro u124 hu124
        refine own_aload X121 hx (hb hby at_145) rfl rfl 147 rfl ?_
        refine own_lload X121 hx (hb hby at_147) rfl 149 rfl ?_
        refine own_callV X121 hx hZ hown (own_w hw 22 rfl) (own_w hw 23 rfl) (own_w hw 25 rfl) (notFace_of_selects (args := #[]) (mvT hZ (own_w hw 25 rfl))) (own_w hw 24 rfl) (own_w hw 2 rfl) (own_w hw 26 rfl) (by decide) (rfl : T121.heap = T121.heap) E121 (rm4 l Z a0 hw [] a80 q le le st (1 : Int32) t2 T121.heap n0 Z123 ge81 ⟨E121, F0_121, F1_121, F2_121, F3_121, F4_121⟩) (by rw [hml]; rfl) pd_1 (argsL := [(.long q)]) rfl (rest := []) rfl (hb hby at_149) 0 (Nat.le_of_eq rfl) (by decide) (by decide) (by decide) (by decide) 152 rfl (fun T128 L128 v128 X128 hQ128 => ?_)
        obtain ⟨rfl, N128, e128⟩ := hQ128
        have N129 := Fr.app N122 N128
        show own_Go p e below G (T128.setTop (mkF m 152 #[.val (.long le), .second, .val (.long st), .second, .val (.long t1), .second, .val (.long t2), .second, .val (.long q), .second, .val (.int fl), .val (.int u72), .val (.int u75), .val (.int u78), .val (.ref a80), .val (.int (1 : Int32)), .val (.long t2), .second, .val (.int u124), .unset] [(.int (own_due (1 : Int32) t2 le st q))]))
        refine own_istore X128 hx (hb hby at_152) #[.val (.long le), .second, .val (.long st), .second, .val (.long t1), .second, .val (.long t2), .second, .val (.long q), .second, .val (.int fl), .val (.int u72), .val (.int u75), .val (.int u78), .val (.ref a80), .val (.int (1 : Int32)), .val (.long t2), .second, .val (.int u124), .val (.int (own_due (1 : Int32) t2 le st q))] rfl 154 rfl ?_
        refine own_iload X128 hx (hb hby at_154) rfl 156 rfl ?_
        refine own_iload X128 hx (hb hby at_156) rfl 158 rfl ?_
        refine own_icmpN X128 hx (hb hby at_158) (teq (by subst hu124; first | rfl | (simp [own_due]))).2 161 rfl ?_
        refine own_aload X128 hx (hb hby at_161) rfl rfl 163 rfl ?_
        refine own_callV X128 hx hZ hown (own_w hw 27 rfl) (own_w hw 28 rfl) (own_w hw 30 rfl) (notFace_of_selects (args := #[]) (mvT hZ (own_w hw 30 rfl))) (own_w hw 29 rfl) (own_w hw 2 rfl) (own_w hw 31 rfl) (by decide) e128 E121 (rm5 l Z a0 hw [] a80 le le st (1 : Int32) t2 T121.heap n0 Z123 ge81 ⟨E121, F0_121, F1_121, F2_121, F3_121, F4_121⟩) (by rw [hml]; rfl) pd_2 (argsL := []) rfl (rest := []) rfl (hb hby at_163) 0 (Nat.le_of_eq rfl) (by decide) (by decide) (by decide) (by decide) 166 rfl (fun T130 L130 v130 X130 hQ130 => ?_)
        obtain ⟨rfl, N130, e130⟩ := hQ130
        have N131 := Fr.app N129 N130
        show own_Go p e below G (T130.setTop (mkF m 166 #[.val (.long le), .second, .val (.long st), .second, .val (.long t1), .second, .val (.long t2), .second, .val (.long q), .second, .val (.int fl), .val (.int u72), .val (.int u75), .val (.int u78), .val (.ref a80), .val (.int (1 : Int32)), .val (.long t2), .second, .val (.int u124), .val (.int (own_due (1 : Int32) t2 le st q))] [(.long le)]))
        refine own_lloadN X130 hx (hb hby at_166) rfl 167 rfl ?_
        refine own_lcmp X130 hx (hb hby at_167) 168 rfl ?_
        refine own_ifN X130 hx (hb hby at_168) (own_eqL rfl).2 171 rfl ?_
        refine own_iconst X130 hx (hb hby at_171) (1 : Int32) rfl 172 rfl ?_
        refine own_goto X130 hx (hb hby at_172) 176 ⟨by decide, by decide⟩ ?_
        refine own_nreturn X130 hx Bd.notSynchronized hG Bd.returns (by simp) (hb hby at_176) (by decide) (by decide) ?_
        rw [e130]
        exact ⟨rfl, N131⟩
  ·
    refine own_ifN X88 hx (hb hby at_61) ((if0 _ _).trans (feq c91).1) 64 rfl ?_
    refine own_aload X88 hx (hb hby at_64) rfl rfl 66 rfl ?_
    refine own_lload X88 hx (hb hby at_66) rfl 68 rfl ?_
    refine own_callV X88 hx hZ hown (own_w hw 32 rfl) (own_w hw 33 rfl) (own_w hw 35 rfl) (notFace_of_selects (args := #[]) (mvT hZ (own_w hw 35 rfl))) (own_w hw 34 rfl) (own_w hw 2 rfl) (own_w hw 36 rfl) (by decide) (rfl : T88.heap = T88.heap) E88 (rm2 l Z a0 hw [] a80 t1 le le st (0 : Int32) (0 : Int64) T88.heap n0 Z90 ge81 ⟨E88, F0_88, F1_88, F2_88, F3_88, F4_88⟩) (by rw [hml]; rfl) pd_3 (argsL := [(.long t1)]) rfl (rest := []) rfl (hb hby at_68) 0 (Nat.le_of_eq rfl) (by decide) (by decide) (by decide) (by decide) 71 rfl (fun T132 L132 v132 X132 hQ132 => ?_)
    have hQ132 : v132 = none ∧ Fr n0 L132 ∧ Keep T88.heap T132.heap [a80] ∧ own_HW Z T132.heap a80 le le st (1 : Int32) t1 := hQ132
    obtain ⟨rfl, N132, K132, E132, F0_132, F1_132, F2_132, F3_132, F4_132⟩ := hQ132
    have N133 := Fr.app N89 N132
    have Z134 : n0 ≤ T132.heap.size := Nat.le_trans Z90 K132.1
    show own_Go p e below G (T132.setTop (mkF m 71 #[.val (.long le), .second, .val (.long st), .second, .val (.long t1), .second, .val (.long t2), .second, .val (.long q), .second, .val (.int fl), .val (.int u72), .val (.int u75), .val (.int u78), .val (.ref a80), .val (.int (0 : Int32)), .val (.long (0 : Int64)), .second, .unset, .unset] []))
    refine own_iconst X132 hx (hb hby at_71) (1 : Int32) rfl 72 rfl ?_
    refine own_istore X132 hx (hb hby at_72) #[.val (.long le), .second, .val (.long st), .second, .val (.long t1), .second, .val (.long t2), .second, .val (.long q), .second, .val (.int fl), .val (.int u72), .val (.int u75), .val (.int u78), .val (.ref a80), .val (.int (1 : Int32)), .val (.long (0 : Int64)), .second, .unset, .unset] rfl 74 rfl ?_
    refine own_lload X132 hx (hb hby at_74) rfl 76 rfl ?_
    refine own_lstore X132 hx (hb hby at_76) #[.val (.long le), .second, .val (.long st), .second, .val (.long t1), .second, .val (.long t2), .second, .val (.long q), .second, .val (.int fl), .val (.int u72), .val (.int u75), .val (.int u78), .val (.ref a80), .val (.int (1 : Int32)), .val (.long t1), .second, .unset, .unset] rfl 78 rfl ?_
    refine own_iload X132 hx (hb hby at_78) rfl 80 rfl ?_
    by_cases c135 : u75 = (0 : Int32)
    ·
      refine own_ifY X132 hx (hb hby at_80) ((if0 _ _).trans (teq c135).1) 91 ⟨by decide, by decide⟩ ?_
      refine own_iload X132 hx (hb hby at_91) rfl 93 rfl ?_
      by_cases c136 : u78 = (0 : Int32)
      ·
        refine own_ifY X132 hx (hb hby at_93) ((if0 _ _).trans (teq c136).1) 115 ⟨by decide, by decide⟩ ?_
        refine own_iconst X132 hx (hb hby at_115) (0 : Int32) rfl 116 rfl ?_
        refine own_istore X132 hx (hb hby at_116) #[.val (.long le), .second, .val (.long st), .second, .val (.long t1), .second, .val (.long t2), .second, .val (.long q), .second, .val (.int fl), .val (.int u72), .val (.int u75), .val (.int u78), .val (.ref a80), .val (.int (1 : Int32)), .val (.long t1), .second, .val (.int (0 : Int32)), .unset] rfl 118 rfl ?_
        suffices kj138 : ∀ u137 : Int32, u137 = own_due (1 : Int32) t1 le st q → own_Go p e below G (T132.setTop (mkF m 145 #[.val (.long le), .second, .val (.long st), .second, .val (.long t1), .second, .val (.long t2), .second, .val (.long q), .second, .val (.int fl), .val (.int u72), .val (.int u75), .val (.int u78), .val (.ref a80), .val (.int (1 : Int32)), .val (.long t1), .second, .val (.int u137), .unset] [])) by
          refine own_iload X132 hx (hb hby at_118) rfl 120 rfl ?_
          refine own_ifN X132 hx (hb hby at_120) ((if0 _ _).trans (feq (by decide)).1) 123 rfl ?_
          refine own_lload X132 hx (hb hby at_123) rfl 125 rfl ?_
          refine own_lload X132 hx (hb hby at_125) rfl 127 rfl ?_
          refine own_lsub X132 hx (hb hby at_127) 128 rfl ?_
          refine own_lloadN X132 hx (hb hby at_128) rfl 129 rfl ?_
          refine own_lcmp X132 hx (hb hby at_129) 130 rfl ?_
          by_cases c139 : (q - t1) < le
          ·
            refine own_ifY X132 hx (hb hby at_130) (own_ltL c139).1 145 ⟨by decide, by decide⟩ ?_
            exact kj138 (0 : Int32) (by simp [own_due, c91, c135, c136, c139])
          ·
            refine own_ifN X132 hx (hb hby at_130) (own_nltL c139).1 133 rfl ?_
            refine own_lload X132 hx (hb hby at_133) rfl 135 rfl ?_
            refine own_lloadN X132 hx (hb hby at_135) rfl 136 rfl ?_
            refine own_lsub X132 hx (hb hby at_136) 137 rfl ?_
            refine own_lconst X132 hx (hb hby at_137) (0 : Int64) rfl 138 rfl ?_
            refine own_lcmp X132 hx (hb hby at_138) 139 rfl ?_
            by_cases c140 : (q - st) < (0 : Int64)
            ·
              refine own_ifY X132 hx (hb hby at_139) (own_ltL c140).1 145 ⟨by decide, by decide⟩ ?_
              exact kj138 (0 : Int32) (by simp [own_due, c91, c135, c136, c139, c140])
            ·
              refine own_ifN X132 hx (hb hby at_139) (own_nltL c140).1 142 rfl ?_
              refine own_iconst X132 hx (hb hby at_142) (1 : Int32) rfl 143 rfl ?_
              refine own_istore X132 hx (hb hby at_143) #[.val (.long le), .second, .val (.long st), .second, .val (.long t1), .second, .val (.long t2), .second, .val (.long q), .second, .val (.int fl), .val (.int u72), .val (.int u75), .val (.int u78), .val (.ref a80), .val (.int (1 : Int32)), .val (.long t1), .second, .val (.int (1 : Int32)), .unset] rfl 145 rfl ?_
              exact kj138 (1 : Int32) (by simp [own_due, c91, c135, c136, c139, c140])
        intro u137 hu137
        refine own_aload X132 hx (hb hby at_145) rfl rfl 147 rfl ?_
        refine own_lload X132 hx (hb hby at_147) rfl 149 rfl ?_
        refine own_callV X132 hx hZ hown (own_w hw 22 rfl) (own_w hw 23 rfl) (own_w hw 25 rfl) (notFace_of_selects (args := #[]) (mvT hZ (own_w hw 25 rfl))) (own_w hw 24 rfl) (own_w hw 2 rfl) (own_w hw 26 rfl) (by decide) (rfl : T132.heap = T132.heap) E132 (rm4 l Z a0 hw [] a80 q le le st (1 : Int32) t1 T132.heap n0 Z134 ge81 ⟨E132, F0_132, F1_132, F2_132, F3_132, F4_132⟩) (by rw [hml]; rfl) pd_1 (argsL := [(.long q)]) rfl (rest := []) rfl (hb hby at_149) 0 (Nat.le_of_eq rfl) (by decide) (by decide) (by decide) (by decide) 152 rfl (fun T141 L141 v141 X141 hQ141 => ?_)
        obtain ⟨rfl, N141, e141⟩ := hQ141
        have N142 := Fr.app N133 N141
        show own_Go p e below G (T141.setTop (mkF m 152 #[.val (.long le), .second, .val (.long st), .second, .val (.long t1), .second, .val (.long t2), .second, .val (.long q), .second, .val (.int fl), .val (.int u72), .val (.int u75), .val (.int u78), .val (.ref a80), .val (.int (1 : Int32)), .val (.long t1), .second, .val (.int u137), .unset] [(.int (own_due (1 : Int32) t1 le st q))]))
        refine own_istore X141 hx (hb hby at_152) #[.val (.long le), .second, .val (.long st), .second, .val (.long t1), .second, .val (.long t2), .second, .val (.long q), .second, .val (.int fl), .val (.int u72), .val (.int u75), .val (.int u78), .val (.ref a80), .val (.int (1 : Int32)), .val (.long t1), .second, .val (.int u137), .val (.int (own_due (1 : Int32) t1 le st q))] rfl 154 rfl ?_
        refine own_iload X141 hx (hb hby at_154) rfl 156 rfl ?_
        refine own_iload X141 hx (hb hby at_156) rfl 158 rfl ?_
        refine own_icmpN X141 hx (hb hby at_158) (teq (by subst hu137; first | rfl | (simp [own_due]))).2 161 rfl ?_
        refine own_aload X141 hx (hb hby at_161) rfl rfl 163 rfl ?_
        refine own_callV X141 hx hZ hown (own_w hw 27 rfl) (own_w hw 28 rfl) (own_w hw 30 rfl) (notFace_of_selects (args := #[]) (mvT hZ (own_w hw 30 rfl))) (own_w hw 29 rfl) (own_w hw 2 rfl) (own_w hw 31 rfl) (by decide) e141 E132 (rm5 l Z a0 hw [] a80 le le st (1 : Int32) t1 T132.heap n0 Z134 ge81 ⟨E132, F0_132, F1_132, F2_132, F3_132, F4_132⟩) (by rw [hml]; rfl) pd_2 (argsL := []) rfl (rest := []) rfl (hb hby at_163) 0 (Nat.le_of_eq rfl) (by decide) (by decide) (by decide) (by decide) 166 rfl (fun T143 L143 v143 X143 hQ143 => ?_)
        obtain ⟨rfl, N143, e143⟩ := hQ143
        have N144 := Fr.app N142 N143
        show own_Go p e below G (T143.setTop (mkF m 166 #[.val (.long le), .second, .val (.long st), .second, .val (.long t1), .second, .val (.long t2), .second, .val (.long q), .second, .val (.int fl), .val (.int u72), .val (.int u75), .val (.int u78), .val (.ref a80), .val (.int (1 : Int32)), .val (.long t1), .second, .val (.int u137), .val (.int (own_due (1 : Int32) t1 le st q))] [(.long le)]))
        refine own_lloadN X143 hx (hb hby at_166) rfl 167 rfl ?_
        refine own_lcmp X143 hx (hb hby at_167) 168 rfl ?_
        refine own_ifN X143 hx (hb hby at_168) (own_eqL rfl).2 171 rfl ?_
        refine own_iconst X143 hx (hb hby at_171) (1 : Int32) rfl 172 rfl ?_
        refine own_goto X143 hx (hb hby at_172) 176 ⟨by decide, by decide⟩ ?_
        refine own_nreturn X143 hx Bd.notSynchronized hG Bd.returns (by simp) (hb hby at_176) (by decide) (by decide) ?_
        rw [e143]
        exact ⟨rfl, N144⟩
      ·
        refine own_ifN X132 hx (hb hby at_93) ((if0 _ _).trans (feq c136).1) 96 rfl ?_
        refine own_aload X132 hx (hb hby at_96) rfl rfl 98 rfl ?_
        refine own_lload X132 hx (hb hby at_98) rfl 100 rfl ?_
        refine own_callV X132 hx hZ hown (own_w hw 32 rfl) (own_w hw 33 rfl) (own_w hw 35 rfl) (notFace_of_selects (args := #[]) (mvT hZ (own_w hw 35 rfl))) (own_w hw 34 rfl) (own_w hw 2 rfl) (own_w hw 36 rfl) (by decide) (rfl : T132.heap = T132.heap) E132 (rm2 l Z a0 hw [] a80 t2 le le st (1 : Int32) t1 T132.heap n0 Z134 ge81 ⟨E132, F0_132, F1_132, F2_132, F3_132, F4_132⟩) (by rw [hml]; rfl) pd_3 (argsL := [(.long t2)]) rfl (rest := []) rfl (hb hby at_100) 0 (Nat.le_of_eq rfl) (by decide) (by decide) (by decide) (by decide) 103 rfl (fun T145 L145 v145 X145 hQ145 => ?_)
        have hQ145 : v145 = none ∧ Fr n0 L145 ∧ Keep T132.heap T145.heap [a80] ∧ own_HW Z T145.heap a80 le le st (1 : Int32) t1 := hQ145
        obtain ⟨rfl, N145, K145, E145, F0_145, F1_145, F2_145, F3_145, F4_145⟩ := hQ145
        have N146 := Fr.app N133 N145
        have Z147 : n0 ≤ T145.heap.size := Nat.le_trans Z134 K145.1
        show own_Go p e below G (T145.setTop (mkF m 103 #[.val (.long le), .second, .val (.long st), .second, .val (.long t1), .second, .val (.long t2), .second, .val (.long q), .second, .val (.int fl), .val (.int u72), .val (.int u75), .val (.int u78), .val (.ref a80), .val (.int (1 : Int32)), .val (.long t1), .second, .unset, .unset] []))
        refine own_iload X145 hx (hb hby at_103) rfl 105 rfl ?_
        refine own_ifY X145 hx (hb hby at_105) ((if0 _ _).trans (feq (by decide)).2) 115 ⟨by decide, by decide⟩ ?_
        refine own_iconst X145 hx (hb hby at_115) (0 : Int32) rfl 116 rfl ?_
        refine own_istore X145 hx (hb hby at_116) #[.val (.long le), .second, .val (.long st), .second, .val (.long t1), .second, .val (.long t2), .second, .val (.long q), .second, .val (.int fl), .val (.int u72), .val (.int u75), .val (.int u78), .val (.ref a80), .val (.int (1 : Int32)), .val (.long t1), .second, .val (.int (0 : Int32)), .unset] rfl 118 rfl ?_
        suffices kj149 : ∀ u148 : Int32, u148 = own_due (1 : Int32) t1 le st q → own_Go p e below G (T145.setTop (mkF m 145 #[.val (.long le), .second, .val (.long st), .second, .val (.long t1), .second, .val (.long t2), .second, .val (.long q), .second, .val (.int fl), .val (.int u72), .val (.int u75), .val (.int u78), .val (.ref a80), .val (.int (1 : Int32)), .val (.long t1), .second, .val (.int u148), .unset] [])) by
          refine own_iload X145 hx (hb hby at_118) rfl 120 rfl ?_
          refine own_ifN X145 hx (hb hby at_120) ((if0 _ _).trans (feq (by decide)).1) 123 rfl ?_
          refine own_lload X145 hx (hb hby at_123) rfl 125 rfl ?_
          refine own_lload X145 hx (hb hby at_125) rfl 127 rfl ?_
          refine own_lsub X145 hx (hb hby at_127) 128 rfl ?_
          refine own_lloadN X145 hx (hb hby at_128) rfl 129 rfl ?_
          refine own_lcmp X145 hx (hb hby at_129) 130 rfl ?_
          by_cases c150 : (q - t1) < le
          ·
            refine own_ifY X145 hx (hb hby at_130) (own_ltL c150).1 145 ⟨by decide, by decide⟩ ?_
            exact kj149 (0 : Int32) (by simp [own_due, c91, c135, c136, c150])
          ·
            refine own_ifN X145 hx (hb hby at_130) (own_nltL c150).1 133 rfl ?_
            refine own_lload X145 hx (hb hby at_133) rfl 135 rfl ?_
            refine own_lloadN X145 hx (hb hby at_135) rfl 136 rfl ?_
            refine own_lsub X145 hx (hb hby at_136) 137 rfl ?_
            refine own_lconst X145 hx (hb hby at_137) (0 : Int64) rfl 138 rfl ?_
            refine own_lcmp X145 hx (hb hby at_138) 139 rfl ?_
            by_cases c151 : (q - st) < (0 : Int64)
            ·
              refine own_ifY X145 hx (hb hby at_139) (own_ltL c151).1 145 ⟨by decide, by decide⟩ ?_
              exact kj149 (0 : Int32) (by simp [own_due, c91, c135, c136, c150, c151])
            ·
              refine own_ifN X145 hx (hb hby at_139) (own_nltL c151).1 142 rfl ?_
              refine own_iconst X145 hx (hb hby at_142) (1 : Int32) rfl 143 rfl ?_
              refine own_istore X145 hx (hb hby at_143) #[.val (.long le), .second, .val (.long st), .second, .val (.long t1), .second, .val (.long t2), .second, .val (.long q), .second, .val (.int fl), .val (.int u72), .val (.int u75), .val (.int u78), .val (.ref a80), .val (.int (1 : Int32)), .val (.long t1), .second, .val (.int (1 : Int32)), .unset] rfl 145 rfl ?_
              exact kj149 (1 : Int32) (by simp [own_due, c91, c135, c136, c150, c151])
        intro u148 hu148
        refine own_aload X145 hx (hb hby at_145) rfl rfl 147 rfl ?_
        refine own_lload X145 hx (hb hby at_147) rfl 149 rfl ?_
        refine own_callV X145 hx hZ hown (own_w hw 22 rfl) (own_w hw 23 rfl) (own_w hw 25 rfl) (notFace_of_selects (args := #[]) (mvT hZ (own_w hw 25 rfl))) (own_w hw 24 rfl) (own_w hw 2 rfl) (own_w hw 26 rfl) (by decide) (rfl : T145.heap = T145.heap) E145 (rm4 l Z a0 hw [] a80 q le le st (1 : Int32) t1 T145.heap n0 Z147 ge81 ⟨E145, F0_145, F1_145, F2_145, F3_145, F4_145⟩) (by rw [hml]; rfl) pd_1 (argsL := [(.long q)]) rfl (rest := []) rfl (hb hby at_149) 0 (Nat.le_of_eq rfl) (by decide) (by decide) (by decide) (by decide) 152 rfl (fun T152 L152 v152 X152 hQ152 => ?_)
        obtain ⟨rfl, N152, e152⟩ := hQ152
        have N153 := Fr.app N146 N152
        show own_Go p e below G (T152.setTop (mkF m 152 #[.val (.long le), .second, .val (.long st), .second, .val (.long t1), .second, .val (.long t2), .second, .val (.long q), .second, .val (.int fl), .val (.int u72), .val (.int u75), .val (.int u78), .val (.ref a80), .val (.int (1 : Int32)), .val (.long t1), .second, .val (.int u148), .unset] [(.int (own_due (1 : Int32) t1 le st q))]))
        refine own_istore X152 hx (hb hby at_152) #[.val (.long le), .second, .val (.long st), .second, .val (.long t1), .second, .val (.long t2), .second, .val (.long q), .second, .val (.int fl), .val (.int u72), .val (.int u75), .val (.int u78), .val (.ref a80), .val (.int (1 : Int32)), .val (.long t1), .second, .val (.int u148), .val (.int (own_due (1 : Int32) t1 le st q))] rfl 154 rfl ?_
        refine own_iload X152 hx (hb hby at_154) rfl 156 rfl ?_
        refine own_iload X152 hx (hb hby at_156) rfl 158 rfl ?_
        refine own_icmpN X152 hx (hb hby at_158) (teq (by subst hu148; first | rfl | (simp [own_due]))).2 161 rfl ?_
        refine own_aload X152 hx (hb hby at_161) rfl rfl 163 rfl ?_
        refine own_callV X152 hx hZ hown (own_w hw 27 rfl) (own_w hw 28 rfl) (own_w hw 30 rfl) (notFace_of_selects (args := #[]) (mvT hZ (own_w hw 30 rfl))) (own_w hw 29 rfl) (own_w hw 2 rfl) (own_w hw 31 rfl) (by decide) e152 E145 (rm5 l Z a0 hw [] a80 le le st (1 : Int32) t1 T145.heap n0 Z147 ge81 ⟨E145, F0_145, F1_145, F2_145, F3_145, F4_145⟩) (by rw [hml]; rfl) pd_2 (argsL := []) rfl (rest := []) rfl (hb hby at_163) 0 (Nat.le_of_eq rfl) (by decide) (by decide) (by decide) (by decide) 166 rfl (fun T154 L154 v154 X154 hQ154 => ?_)
        obtain ⟨rfl, N154, e154⟩ := hQ154
        have N155 := Fr.app N153 N154
        show own_Go p e below G (T154.setTop (mkF m 166 #[.val (.long le), .second, .val (.long st), .second, .val (.long t1), .second, .val (.long t2), .second, .val (.long q), .second, .val (.int fl), .val (.int u72), .val (.int u75), .val (.int u78), .val (.ref a80), .val (.int (1 : Int32)), .val (.long t1), .second, .val (.int u148), .val (.int (own_due (1 : Int32) t1 le st q))] [(.long le)]))
        refine own_lloadN X154 hx (hb hby at_166) rfl 167 rfl ?_
        refine own_lcmp X154 hx (hb hby at_167) 168 rfl ?_
        refine own_ifN X154 hx (hb hby at_168) (own_eqL rfl).2 171 rfl ?_
        refine own_iconst X154 hx (hb hby at_171) (1 : Int32) rfl 172 rfl ?_
        refine own_goto X154 hx (hb hby at_172) 176 ⟨by decide, by decide⟩ ?_
        refine own_nreturn X154 hx Bd.notSynchronized hG Bd.returns (by simp) (hb hby at_176) (by decide) (by decide) ?_
        rw [e154]
        exact ⟨rfl, N155⟩
    ·
      refine own_ifN X132 hx (hb hby at_80) ((if0 _ _).trans (feq c135).1) 83 rfl ?_
      refine own_aload X132 hx (hb hby at_83) rfl rfl 85 rfl ?_
      refine own_callV X132 hx hZ hown (own_w hw 15 rfl) (own_w hw 16 rfl) (own_w hw 18 rfl) (notFace_of_selects (args := #[]) (mvT hZ (own_w hw 18 rfl))) (own_w hw 17 rfl) (own_w hw 2 rfl) (own_w hw 19 rfl) (by decide) (rfl : T132.heap = T132.heap) E132 (rm3 l Z a0 hw [] a80 le le st (1 : Int32) t1 T132.heap n0 Z134 ge81 ⟨E132, F0_132, F1_132, F2_132, F3_132, F4_132⟩) (by rw [hml]; rfl) pd_4 (argsL := []) rfl (rest := []) rfl (hb hby at_85) 0 (Nat.le_of_eq rfl) (by decide) (by decide) (by decide) (by decide) 88 rfl (fun T156 L156 v156 X156 hQ156 => ?_)
      obtain ⟨rfl, N156, K156, E156, F0_156, F1_156, F2_156, F3_156, F4_156⟩ := hQ156
      have N157 := Fr.app N133 N156
      have Z158 : n0 ≤ T156.heap.size := Nat.le_trans Z134 K156.1
      show own_Go p e below G (T156.setTop (mkF m 88 #[.val (.long le), .second, .val (.long st), .second, .val (.long t1), .second, .val (.long t2), .second, .val (.long q), .second, .val (.int fl), .val (.int u72), .val (.int u75), .val (.int u78), .val (.ref a80), .val (.int (1 : Int32)), .val (.long t1), .second, .unset, .unset] []))
      refine own_iconst X156 hx (hb hby at_88) (0 : Int32) rfl 89 rfl ?_
      refine own_istore X156 hx (hb hby at_89) #[.val (.long le), .second, .val (.long st), .second, .val (.long t1), .second, .val (.long t2), .second, .val (.long q), .second, .val (.int fl), .val (.int u72), .val (.int u75), .val (.int u78), .val (.ref a80), .val (.int (0 : Int32)), .val (.long t1), .second, .unset, .unset] rfl 91 rfl ?_
      refine own_iload X156 hx (hb hby at_91) rfl 93 rfl ?_
      by_cases c159 : u78 = (0 : Int32)
      ·
        refine own_ifY X156 hx (hb hby at_93) ((if0 _ _).trans (teq c159).1) 115 ⟨by decide, by decide⟩ ?_
        refine own_iconst X156 hx (hb hby at_115) (0 : Int32) rfl 116 rfl ?_
        refine own_istore X156 hx (hb hby at_116) #[.val (.long le), .second, .val (.long st), .second, .val (.long t1), .second, .val (.long t2), .second, .val (.long q), .second, .val (.int fl), .val (.int u72), .val (.int u75), .val (.int u78), .val (.ref a80), .val (.int (0 : Int32)), .val (.long t1), .second, .val (.int (0 : Int32)), .unset] rfl 118 rfl ?_
        suffices kj161 : ∀ u160 : Int32, u160 = own_due (0 : Int32) t1 le st q → own_Go p e below G (T156.setTop (mkF m 145 #[.val (.long le), .second, .val (.long st), .second, .val (.long t1), .second, .val (.long t2), .second, .val (.long q), .second, .val (.int fl), .val (.int u72), .val (.int u75), .val (.int u78), .val (.ref a80), .val (.int (0 : Int32)), .val (.long t1), .second, .val (.int u160), .unset] [])) by
          refine own_iload X156 hx (hb hby at_118) rfl 120 rfl ?_
          refine own_ifY X156 hx (hb hby at_120) ((if0 _ _).trans (teq (by decide)).1) 145 ⟨by decide, by decide⟩ ?_
          exact kj161 (0 : Int32) (by simp [own_due, c91, c135, c159])
        intro u160 hu160
        refine own_aload X156 hx (hb hby at_145) rfl rfl 147 rfl ?_
        refine own_lload X156 hx (hb hby at_147) rfl 149 rfl ?_
        refine own_callV X156 hx hZ hown (own_w hw 22 rfl) (own_w hw 23 rfl) (own_w hw 25 rfl) (notFace_of_selects (args := #[]) (mvT hZ (own_w hw 25 rfl))) (own_w hw 24 rfl) (own_w hw 2 rfl) (own_w hw 26 rfl) (by decide) (rfl : T156.heap = T156.heap) E156 (rm4 l Z a0 hw [] a80 q le le st (0 : Int32) t1 T156.heap n0 Z158 ge81 ⟨E156, F0_156, F1_156, F2_156, F3_156, F4_156⟩) (by rw [hml]; rfl) pd_1 (argsL := [(.long q)]) rfl (rest := []) rfl (hb hby at_149) 0 (Nat.le_of_eq rfl) (by decide) (by decide) (by decide) (by decide) 152 rfl (fun T162 L162 v162 X162 hQ162 => ?_)
        obtain ⟨rfl, N162, e162⟩ := hQ162
        have N163 := Fr.app N157 N162
        show own_Go p e below G (T162.setTop (mkF m 152 #[.val (.long le), .second, .val (.long st), .second, .val (.long t1), .second, .val (.long t2), .second, .val (.long q), .second, .val (.int fl), .val (.int u72), .val (.int u75), .val (.int u78), .val (.ref a80), .val (.int (0 : Int32)), .val (.long t1), .second, .val (.int u160), .unset] [(.int (own_due (0 : Int32) t1 le st q))]))
        refine own_istore X162 hx (hb hby at_152) #[.val (.long le), .second, .val (.long st), .second, .val (.long t1), .second, .val (.long t2), .second, .val (.long q), .second, .val (.int fl), .val (.int u72), .val (.int u75), .val (.int u78), .val (.ref a80), .val (.int (0 : Int32)), .val (.long t1), .second, .val (.int u160), .val (.int (own_due (0 : Int32) t1 le st q))] rfl 154 rfl ?_
        refine own_iload X162 hx (hb hby at_154) rfl 156 rfl ?_
        refine own_iload X162 hx (hb hby at_156) rfl 158 rfl ?_
        refine own_icmpN X162 hx (hb hby at_158) (teq (by subst hu160; first | rfl | (simp [own_due]))).2 161 rfl ?_
        refine own_aload X162 hx (hb hby at_161) rfl rfl 163 rfl ?_
        refine own_callV X162 hx hZ hown (own_w hw 27 rfl) (own_w hw 28 rfl) (own_w hw 30 rfl) (notFace_of_selects (args := #[]) (mvT hZ (own_w hw 30 rfl))) (own_w hw 29 rfl) (own_w hw 2 rfl) (own_w hw 31 rfl) (by decide) e162 E156 (rm5 l Z a0 hw [] a80 le le st (0 : Int32) t1 T156.heap n0 Z158 ge81 ⟨E156, F0_156, F1_156, F2_156, F3_156, F4_156⟩) (by rw [hml]; rfl) pd_2 (argsL := []) rfl (rest := []) rfl (hb hby at_163) 0 (Nat.le_of_eq rfl) (by decide) (by decide) (by decide) (by decide) 166 rfl (fun T164 L164 v164 X164 hQ164 => ?_)
        obtain ⟨rfl, N164, e164⟩ := hQ164
        have N165 := Fr.app N163 N164
        show own_Go p e below G (T164.setTop (mkF m 166 #[.val (.long le), .second, .val (.long st), .second, .val (.long t1), .second, .val (.long t2), .second, .val (.long q), .second, .val (.int fl), .val (.int u72), .val (.int u75), .val (.int u78), .val (.ref a80), .val (.int (0 : Int32)), .val (.long t1), .second, .val (.int u160), .val (.int (own_due (0 : Int32) t1 le st q))] [(.long le)]))
        refine own_lloadN X164 hx (hb hby at_166) rfl 167 rfl ?_
        refine own_lcmp X164 hx (hb hby at_167) 168 rfl ?_
        refine own_ifN X164 hx (hb hby at_168) (own_eqL rfl).2 171 rfl ?_
        refine own_iconst X164 hx (hb hby at_171) (1 : Int32) rfl 172 rfl ?_
        refine own_goto X164 hx (hb hby at_172) 176 ⟨by decide, by decide⟩ ?_
        refine own_nreturn X164 hx Bd.notSynchronized hG Bd.returns (by simp) (hb hby at_176) (by decide) (by decide) ?_
        rw [e164]
        exact ⟨rfl, N165⟩
      ·
        refine own_ifN X156 hx (hb hby at_93) ((if0 _ _).trans (feq c159).1) 96 rfl ?_
        refine own_aload X156 hx (hb hby at_96) rfl rfl 98 rfl ?_
        refine own_lload X156 hx (hb hby at_98) rfl 100 rfl ?_
        refine own_callV X156 hx hZ hown (own_w hw 32 rfl) (own_w hw 33 rfl) (own_w hw 35 rfl) (notFace_of_selects (args := #[]) (mvT hZ (own_w hw 35 rfl))) (own_w hw 34 rfl) (own_w hw 2 rfl) (own_w hw 36 rfl) (by decide) (rfl : T156.heap = T156.heap) E156 (rm2 l Z a0 hw [] a80 t2 le le st (0 : Int32) t1 T156.heap n0 Z158 ge81 ⟨E156, F0_156, F1_156, F2_156, F3_156, F4_156⟩) (by rw [hml]; rfl) pd_3 (argsL := [(.long t2)]) rfl (rest := []) rfl (hb hby at_100) 0 (Nat.le_of_eq rfl) (by decide) (by decide) (by decide) (by decide) 103 rfl (fun T166 L166 v166 X166 hQ166 => ?_)
        have hQ166 : v166 = none ∧ Fr n0 L166 ∧ Keep T156.heap T166.heap [a80] ∧ own_HW Z T166.heap a80 le le st (1 : Int32) t2 := hQ166
        obtain ⟨rfl, N166, K166, E166, F0_166, F1_166, F2_166, F3_166, F4_166⟩ := hQ166
        have N167 := Fr.app N157 N166
        have Z168 : n0 ≤ T166.heap.size := Nat.le_trans Z158 K166.1
        show own_Go p e below G (T166.setTop (mkF m 103 #[.val (.long le), .second, .val (.long st), .second, .val (.long t1), .second, .val (.long t2), .second, .val (.long q), .second, .val (.int fl), .val (.int u72), .val (.int u75), .val (.int u78), .val (.ref a80), .val (.int (0 : Int32)), .val (.long t1), .second, .unset, .unset] []))
        refine own_iload X166 hx (hb hby at_103) rfl 105 rfl ?_
        refine own_ifN X166 hx (hb hby at_105) ((if0 _ _).trans (teq (by decide)).2) 108 rfl ?_
        refine own_iconst X166 hx (hb hby at_108) (1 : Int32) rfl 109 rfl ?_
        refine own_istore X166 hx (hb hby at_109) #[.val (.long le), .second, .val (.long st), .second, .val (.long t1), .second, .val (.long t2), .second, .val (.long q), .second, .val (.int fl), .val (.int u72), .val (.int u75), .val (.int u78), .val (.ref a80), .val (.int (1 : Int32)), .val (.long t1), .second, .unset, .unset] rfl 111 rfl ?_
        refine own_lload X166 hx (hb hby at_111) rfl 113 rfl ?_
        refine own_lstore X166 hx (hb hby at_113) #[.val (.long le), .second, .val (.long st), .second, .val (.long t1), .second, .val (.long t2), .second, .val (.long q), .second, .val (.int fl), .val (.int u72), .val (.int u75), .val (.int u78), .val (.ref a80), .val (.int (1 : Int32)), .val (.long t2), .second, .unset, .unset] rfl 115 rfl ?_
        refine own_iconst X166 hx (hb hby at_115) (0 : Int32) rfl 116 rfl ?_
        refine own_istore X166 hx (hb hby at_116) #[.val (.long le), .second, .val (.long st), .second, .val (.long t1), .second, .val (.long t2), .second, .val (.long q), .second, .val (.int fl), .val (.int u72), .val (.int u75), .val (.int u78), .val (.ref a80), .val (.int (1 : Int32)), .val (.long t2), .second, .val (.int (0 : Int32)), .unset] rfl 118 rfl ?_
        suffices kj170 : ∀ u169 : Int32, u169 = own_due (1 : Int32) t2 le st q → own_Go p e below G (T166.setTop (mkF m 145 #[.val (.long le), .second, .val (.long st), .second, .val (.long t1), .second, .val (.long t2), .second, .val (.long q), .second, .val (.int fl), .val (.int u72), .val (.int u75), .val (.int u78), .val (.ref a80), .val (.int (1 : Int32)), .val (.long t2), .second, .val (.int u169), .unset] [])) by
          refine own_iload X166 hx (hb hby at_118) rfl 120 rfl ?_
          refine own_ifN X166 hx (hb hby at_120) ((if0 _ _).trans (feq (by decide)).1) 123 rfl ?_
          refine own_lload X166 hx (hb hby at_123) rfl 125 rfl ?_
          refine own_lload X166 hx (hb hby at_125) rfl 127 rfl ?_
          refine own_lsub X166 hx (hb hby at_127) 128 rfl ?_
          refine own_lloadN X166 hx (hb hby at_128) rfl 129 rfl ?_
          refine own_lcmp X166 hx (hb hby at_129) 130 rfl ?_
          by_cases c171 : (q - t2) < le
          ·
            refine own_ifY X166 hx (hb hby at_130) (own_ltL c171).1 145 ⟨by decide, by decide⟩ ?_
            exact kj170 (0 : Int32) (by simp [own_due, c91, c135, c159, c171])
          ·
            refine own_ifN X166 hx (hb hby at_130) (own_nltL c171).1 133 rfl ?_
            refine own_lload X166 hx (hb hby at_133) rfl 135 rfl ?_
            refine own_lloadN X166 hx (hb hby at_135) rfl 136 rfl ?_
            refine own_lsub X166 hx (hb hby at_136) 137 rfl ?_
            refine own_lconst X166 hx (hb hby at_137) (0 : Int64) rfl 138 rfl ?_
            refine own_lcmp X166 hx (hb hby at_138) 139 rfl ?_
            by_cases c172 : (q - st) < (0 : Int64)
            ·
              refine own_ifY X166 hx (hb hby at_139) (own_ltL c172).1 145 ⟨by decide, by decide⟩ ?_
              exact kj170 (0 : Int32) (by simp [own_due, c91, c135, c159, c171, c172])
            ·
              refine own_ifN X166 hx (hb hby at_139) (own_nltL c172).1 142 rfl ?_
              refine own_iconst X166 hx (hb hby at_142) (1 : Int32) rfl 143 rfl ?_
              refine own_istore X166 hx (hb hby at_143) #[.val (.long le), .second, .val (.long st), .second, .val (.long t1), .second, .val (.long t2), .second, .val (.long q), .second, .val (.int fl), .val (.int u72), .val (.int u75), .val (.int u78), .val (.ref a80), .val (.int (1 : Int32)), .val (.long t2), .second, .val (.int (1 : Int32)), .unset] rfl 145 rfl ?_
              exact kj170 (1 : Int32) (by simp [own_due, c91, c135, c159, c171, c172])
        intro u169 hu169
        refine own_aload X166 hx (hb hby at_145) rfl rfl 147 rfl ?_
        refine own_lload X166 hx (hb hby at_147) rfl 149 rfl ?_
        refine own_callV X166 hx hZ hown (own_w hw 22 rfl) (own_w hw 23 rfl) (own_w hw 25 rfl) (notFace_of_selects (args := #[]) (mvT hZ (own_w hw 25 rfl))) (own_w hw 24 rfl) (own_w hw 2 rfl) (own_w hw 26 rfl) (by decide) (rfl : T166.heap = T166.heap) E166 (rm4 l Z a0 hw [] a80 q le le st (1 : Int32) t2 T166.heap n0 Z168 ge81 ⟨E166, F0_166, F1_166, F2_166, F3_166, F4_166⟩) (by rw [hml]; rfl) pd_1 (argsL := [(.long q)]) rfl (rest := []) rfl (hb hby at_149) 0 (Nat.le_of_eq rfl) (by decide) (by decide) (by decide) (by decide) 152 rfl (fun T173 L173 v173 X173 hQ173 => ?_)
        obtain ⟨rfl, N173, e173⟩ := hQ173
        have N174 := Fr.app N167 N173
        show own_Go p e below G (T173.setTop (mkF m 152 #[.val (.long le), .second, .val (.long st), .second, .val (.long t1), .second, .val (.long t2), .second, .val (.long q), .second, .val (.int fl), .val (.int u72), .val (.int u75), .val (.int u78), .val (.ref a80), .val (.int (1 : Int32)), .val (.long t2), .second, .val (.int u169), .unset] [(.int (own_due (1 : Int32) t2 le st q))]))
        refine own_istore X173 hx (hb hby at_152) #[.val (.long le), .second, .val (.long st), .second, .val (.long t1), .second, .val (.long t2), .second, .val (.long q), .second, .val (.int fl), .val (.int u72), .val (.int u75), .val (.int u78), .val (.ref a80), .val (.int (1 : Int32)), .val (.long t2), .second, .val (.int u169), .val (.int (own_due (1 : Int32) t2 le st q))] rfl 154 rfl ?_
        refine own_iload X173 hx (hb hby at_154) rfl 156 rfl ?_
        refine own_iload X173 hx (hb hby at_156) rfl 158 rfl ?_
        refine own_icmpN X173 hx (hb hby at_158) (teq (by subst hu169; first | rfl | (simp [own_due]))).2 161 rfl ?_
        refine own_aload X173 hx (hb hby at_161) rfl rfl 163 rfl ?_
        refine own_callV X173 hx hZ hown (own_w hw 27 rfl) (own_w hw 28 rfl) (own_w hw 30 rfl) (notFace_of_selects (args := #[]) (mvT hZ (own_w hw 30 rfl))) (own_w hw 29 rfl) (own_w hw 2 rfl) (own_w hw 31 rfl) (by decide) e173 E166 (rm5 l Z a0 hw [] a80 le le st (1 : Int32) t2 T166.heap n0 Z168 ge81 ⟨E166, F0_166, F1_166, F2_166, F3_166, F4_166⟩) (by rw [hml]; rfl) pd_2 (argsL := []) rfl (rest := []) rfl (hb hby at_163) 0 (Nat.le_of_eq rfl) (by decide) (by decide) (by decide) (by decide) 166 rfl (fun T175 L175 v175 X175 hQ175 => ?_)
        obtain ⟨rfl, N175, e175⟩ := hQ175
        have N176 := Fr.app N174 N175
        show own_Go p e below G (T175.setTop (mkF m 166 #[.val (.long le), .second, .val (.long st), .second, .val (.long t1), .second, .val (.long t2), .second, .val (.long q), .second, .val (.int fl), .val (.int u72), .val (.int u75), .val (.int u78), .val (.ref a80), .val (.int (1 : Int32)), .val (.long t2), .second, .val (.int u169), .val (.int (own_due (1 : Int32) t2 le st q))] [(.long le)]))
        refine own_lloadN X175 hx (hb hby at_166) rfl 167 rfl ?_
        refine own_lcmp X175 hx (hb hby at_167) 168 rfl ?_
        refine own_ifN X175 hx (hb hby at_168) (own_eqL rfl).2 171 rfl ?_
        refine own_iconst X175 hx (hb hby at_171) (1 : Int32) rfl 172 rfl ?_
        refine own_goto X175 hx (hb hby at_172) 176 ⟨by decide, by decide⟩ ?_
        refine own_nreturn X175 hx Bd.notSynchronized hG Bd.returns (by simp) (hb hby at_176) (by decide) (by decide) ?_
        rw [e175]
        exact ⟨rfl, N176⟩
set_option maxRecDepth 65536 in
set_option maxHeartbeats 40000000 in
theorem comes_1 {Post : Tables → Env → Array Value → State → Outcome → State → Prop} (hpost : ∀ tb e args s v u, (limb_1_1.after args s (.returned v) u = true ∧ limb_1_2.after args s (.returned v) u = true ∧ True) → FrameEnd s (.returned v) u (Jvm.fieldLocs frame_1_writes args s ++ Jvm.arrayLocs frame_1_arrays args s ++ Jvm.staticLocs frame_1_statics s) 16 128 → Post tb e args s (.returned v) u) :
    ArmFor flags0 classFile x code maxLocals ret World_1 tables_1 room_1 Calls_1 rest_1 Pre_1 Post := by
  intro l hfl _ _ p e ha hc hk s m args below hf hA hF happ hP
  obtain ⟨hcalls, hrest, hpre⟩ := hP
  obtain ⟨-, -, -, hnamed, -, -, -, hat⟩ := (Spec.applies_iff hf).mp happ
  obtain ⟨hg, hn⟩ := and_e (Cond.before_iff.mp (show (Jvm.Cond.and given_1 narrow_1).before args s = true from hpre))
  obtain ⟨hcount, k0⟩ := and_e hg
  obtain ⟨q0, k1⟩ := and_e k0
  obtain ⟨q1, k2⟩ := and_e k1
  obtain ⟨q2, k3⟩ := and_e k2
  obtain ⟨q3, k4⟩ := and_e k3
  obtain ⟨q4, k5⟩ := and_e k4
  have q5 := k5
  obtain ⟨w0, w1, w2, w3, w4, w5, rfl⟩ : ∃ w0 w1 w2 w3 w4 w5 : Value, args = #[w0, w1, w2, w3, w4, w5] := by
    have hs : args.size = 6 := by simpa [Cond.value, given_1] using hcount
    obtain ⟨L⟩ := args
    match L, hs with
    | [w0, w1, w2, w3, w4, w5], _ => exact ⟨w0, w1, w2, w3, w4, w5, rfl⟩
  have hw := fun d (hd : d ∈ tables_1) => atoms_spec (ws := Jvm.Cond.code x code maxLocals ret :: tables_1) hat d (List.mem_cons_of_mem _ hd)
  have hfit : Fit s := fun {y c} hc i hi => by
    obtain ⟨ha, rfl⟩ := Array.getElem?_eq_some_iff.mp hc
    have q := List.all_eq_true.mp ((Array.all_eq_true_iff_forall_mem.mp hF) _ (Array.getElem_mem ha)) i (List.mem_range.mpr hi)
    simpa [Array.getElem?_eq_getElem hi] using q
  obtain ⟨i0, r0⟩ := own_isl q0
  obtain rfl : w0 = (.long i0) := Option.some.inj r0
  obtain ⟨i1, r1⟩ := own_isl q1
  obtain rfl : w1 = (.long i1) := Option.some.inj r1
  obtain ⟨i2, r2⟩ := own_isl q2
  obtain rfl : w2 = (.long i2) := Option.some.inj r2
  obtain ⟨i3, r3⟩ := own_isl q3
  obtain rfl : w3 = (.long i3) := Option.some.inj r3
  obtain ⟨i4, r4⟩ := own_isl q4
  obtain rfl : w4 = (.long i4) := Option.some.inj r4
  obtain ⟨i5, r5⟩ := is_v q5
  obtain rfl : w5 = (.int i5) := Option.some.inj r5
  obtain ⟨n, o, h1, h2, h3, _, L, rfl, ⟨rfl, N⟩, hq⟩ := rm0 l s _ hw tables_1 i0 i1 i2 i3 i4 i5 s.heap s.heap.size (Nat.le_refl _) p e ha hc hk s m _ below hf ((Spec.applies_iff_loose hf).mp happ).1 ⟨rfl, State.Warmed39.refl s, rfl⟩ trivial
  refine ⟨n, _, h1, h2, h3, hpost _ _ _ _ _ _ ⟨Cond.after_iff.mpr rfl, Cond.after_iff.mpr (eq_i res_at (Term.int_eval (1)) rfl), trivial⟩ ⟨hq.1, hq.2.1, (hq.2.2.sift fun y hy => Or.inr (N y hy)).mono (by decide) (by decide)⟩⟩
theorem main_1_1 : Claimed_1_1 := comes_1 fun _ _ _ _ _ _ h hF => ⟨h.1, hF⟩
theorem main_1_2 : Claimed_1_2 := comes_1 fun _ _ _ _ _ _ h hF => ⟨h.2.1, hF⟩
end Jvm.Pilot.@@N@@
namespace Jvm.Pilot.@@N@@
open Jvm Jvm.ClassFile Sem Op Lib Jvm.Free Jvm.Stand Jvm.Pilot.@@N@@.Jvm.D
/-! MADE BY PROGRAM (witnessworld.py) out of the Statement's table words and the real class files: 9 classes; the members and pool entries that the words name. The judged class is class 1, her method 1. -/
namespace start1
open Jvm.ClassFile
def u (s : String) : CpInfo := .utf8 (stringToUtf16 s)
/-- a pool by its gaps: so many unusable entries, then the entry; so many at the end -/
def gap : Nat → List CpInfo → List CpInfo
  | 0, r => r
  | n + 1, r => .unusable :: gap n r
def poolList (es : List (Nat × CpInfo)) (last : Nat) : List CpInfo := es.foldr (fun e r => gap e.1 (e.2 :: r)) (gap last [])
def pool (es : List (Nat × CpInfo)) (last : Nat) : Array CpInfo := ⟨poolList es last⟩
def fileOf (pool : Array CpInfo) (this : Nat) (attrs : Array Attribute := #[]) (ms : Array MethodInfo := #[]) (fl : Nat := 33) (sup : Nat := 0) (ifs : Array Nat := #[]) (fds : Array FieldInfo := #[]) : ClassFile where
  minorVersion := 0
  majorVersion := 65
  constantPool := pool
  accessFlags := fl
  thisClass := this
  superClass := sup
  interfaces := ifs
  fields := fds
  methods := ms
  attributes := attrs
def plain (name : String) (sup : Option ClassId) : Class where
  name := name
  kind := .ordinary
  loader := none
  accessFlags := 33
  super := sup
  interfaces := #[]
  cf := none
  fields := #[]
  methods := #[]
  instanceTypes := #[]
  staticTypes := #[]
  resolved := #[]
  callSites := []
  init := .initialized
  statics := none
  mirror := none

def pool0 : Array CpInfo := pool [(5, u "<init>"), (0, u "()V"), (1, .class_ 10), (1, u "java/lang/Object")] 113

def k0c0 : Code := { maxStack := 0, maxLocals := 1, code := object_method_1_code, exceptionTable := #[], attributes := #[] }
def k0m0 : Method := { name := "<init>", desc := "()V", sig := { parameters := [], returnType := none }, accessFlags := 1, code := some k0c0 }
/-- java/lang/Object -/
def k0 : Class := { plain "java/lang/Object" none with
  accessFlags := 33
  interfaces := #[]
  cf := some (fileOf pool0 8 #[] #[{ accessFlags := 1, nameIndex := 5, descriptorIndex := 6, attributes := #[] }] 33 0 #[] #[])
  fields := #[]
  methods := #[k0m0]
  instanceTypes := #[]
  staticTypes := #[]
  resolved := Array.replicate 124 none
  statics := none }

def pool1 : Array CpInfo := pool [(2, .class_ 4), (1, u "java/lang/Object"), (0, u "<init>"), (0, u "()V"), (0, .class_ 8), (0, u "com/example/causeway/causeway/server/HandoverWait"), (0, .methodref 7 10), (0, .nameAndType 5 11), (0, u "(JJ)V"), (0, .methodref 7 13), (0, .nameAndType 14 15), (0, u "caughtUp"), (0, u "(J)V"), (0, .methodref 7 17), (0, .nameAndType 18 6), (0, u "lost"), (0, .methodref 7 20), (0, .nameAndType 21 22), (0, u "due"), (0, u "(J)Z"), (0, .methodref 7 24), (0, .nameAndType 25 26), (0, u "nanos"), (0, u "()J"), (0, .class_ 28), (0, u "com/example/causeway/causeway/server/HandoverWaitCaughtUpPinLaw"), (2, u "law"), (0, u "(JJJJJI)Z")] 3

def k1m0 : Method := { name := "<init>", desc := "()V", sig := { parameters := [], returnType := none }, accessFlags := 2, code := none }
def k1c1 : Code := { maxStack := 6, maxLocals := 20, code := code, exceptionTable := #[], attributes := #[] }
def k1m1 : Method := { name := "law", desc := "(JJJJJI)Z", sig := { parameters := [.long, .long, .long, .long, .long, .int], returnType := some .boolean }, accessFlags := 9, code := some k1c1 }
/-- com/example/causeway/causeway/server/HandoverWaitCaughtUpPinLaw -/
def k1 : Class := { plain "com/example/causeway/causeway/server/HandoverWaitCaughtUpPinLaw" (some 0) with
  accessFlags := 49
  interfaces := #[]
  cf := some (fileOf pool1 27 #[] #[{ accessFlags := 2, nameIndex := 5, descriptorIndex := 6, attributes := #[] }, { accessFlags := 9, nameIndex := 31, descriptorIndex := 32, attributes := #[] }] 49 2 #[] #[])
  fields := #[]
  methods := #[k1m0, k1m1]
  instanceTypes := #[]
  staticTypes := #[]
  resolved := Array.replicate 36 none
  statics := none }

def pool2 : Array CpInfo := pool [(1, .methodref 2 3), (0, .class_ 4), (0, .nameAndType 5 6), (0, u "java/lang/Object"), (0, u "<init>"), (0, u "()V"), (0, .fieldref 8 9), (0, .class_ 10), (0, .nameAndType 11 12), (0, u "com/example/causeway/causeway/server/HandoverWait"), (0, u "leaseNanos"), (0, u "J"), (0, .fieldref 8 14), (0, .nameAndType 15 12), (0, u "waitNanos"), (0, .fieldref 8 17), (0, .nameAndType 18 12), (0, u "retryAfter"), (2, u "led"), (0, u "Z"), (2, u "ledSince"), (2, u "ledUntil"), (12, .fieldref 8 42), (0, .nameAndType 43 22), (0, u "caughtUp"), (0, .fieldref 8 45), (0, .nameAndType 46 12), (0, u "caughtUpSince"), (2, u "RETRY_NANOS"), (12, u "GROWTH"), (1, u "MOST_LEASES"), (0, u "SOON_LEASES"), (0, u "(JJ)V"), (5, u "(J)V"), (0, u "lost"), (1, u "due"), (0, u "(J)Z"), (0, u "nanos"), (0, u "()J")] 3

def k2c0 : Code := { maxStack := 3, maxLocals := 5, code := prog_83_method_1_code, exceptionTable := #[], attributes := #[] }
def k2m0 : Method := { name := "<init>", desc := "(JJ)V", sig := { parameters := [.long, .long], returnType := none }, accessFlags := 0, code := some k2c0 }
def k2c1 : Code := { maxStack := 3, maxLocals := 3, code := prog_83_method_3_code, exceptionTable := #[], attributes := #[] }
def k2m1 : Method := { name := "caughtUp", desc := "(J)V", sig := { parameters := [.long], returnType := none }, accessFlags := 0, code := some k2c1 }
def k2c2 : Code := { maxStack := 2, maxLocals := 1, code := prog_83_method_4_code, exceptionTable := #[], attributes := #[] }
def k2m2 : Method := { name := "lost", desc := "()V", sig := { parameters := [], returnType := none }, accessFlags := 0, code := some k2c2 }
def k2c3 : Code := { maxStack := 4, maxLocals := 3, code := prog_83_method_6_code, exceptionTable := #[], attributes := #[] }
def k2m3 : Method := { name := "due", desc := "(J)Z", sig := { parameters := [.long], returnType := some .boolean }, accessFlags := 0, code := some k2c3 }
def k2c4 : Code := { maxStack := 2, maxLocals := 1, code := prog_83_method_7_code, exceptionTable := #[], attributes := #[] }
def k2m4 : Method := { name := "nanos", desc := "()J", sig := { parameters := [], returnType := some .long }, accessFlags := 0, code := some k2c4 }
/-- com/example/causeway/causeway/server/HandoverWait -/
def k2 : Class := { plain "com/example/causeway/causeway/server/HandoverWait" (some 0) with
  accessFlags := 48
  interfaces := #[]
  cf := some (fileOf pool2 8 #[] #[{ accessFlags := 0, nameIndex := 5, descriptorIndex := 66, attributes := #[] }, { accessFlags := 0, nameIndex := 43, descriptorIndex := 72, attributes := #[] }, { accessFlags := 0, nameIndex := 73, descriptorIndex := 6, attributes := #[] }, { accessFlags := 0, nameIndex := 75, descriptorIndex := 76, attributes := #[] }, { accessFlags := 0, nameIndex := 77, descriptorIndex := 78, attributes := #[] }] 48 2 #[] #[{ accessFlags := 26, nameIndex := 62, descriptorIndex := 12, attributes := #[] }, { accessFlags := 26, nameIndex := 64, descriptorIndex := 12, attributes := #[] }, { accessFlags := 26, nameIndex := 65, descriptorIndex := 12, attributes := #[] }, { accessFlags := 26, nameIndex := 49, descriptorIndex := 12, attributes := #[] }, { accessFlags := 18, nameIndex := 11, descriptorIndex := 12, attributes := #[] }, { accessFlags := 2, nameIndex := 15, descriptorIndex := 12, attributes := #[] }, { accessFlags := 2, nameIndex := 21, descriptorIndex := 22, attributes := #[] }, { accessFlags := 2, nameIndex := 25, descriptorIndex := 12, attributes := #[] }, { accessFlags := 2, nameIndex := 28, descriptorIndex := 12, attributes := #[] }, { accessFlags := 2, nameIndex := 43, descriptorIndex := 22, attributes := #[] }, { accessFlags := 2, nameIndex := 46, descriptorIndex := 12, attributes := #[] }, { accessFlags := 2, nameIndex := 18, descriptorIndex := 12, attributes := #[] }])
  fields := #[{ name := "GROWTH", type := .long, accessFlags := 26, slot := 0, constantValue := 0 }, { name := "MOST_LEASES", type := .long, accessFlags := 26, slot := 1, constantValue := 0 }, { name := "SOON_LEASES", type := .long, accessFlags := 26, slot := 2, constantValue := 0 }, { name := "RETRY_NANOS", type := .long, accessFlags := 26, slot := 3, constantValue := 0 }, { name := "leaseNanos", type := .long, accessFlags := 18, slot := 0, constantValue := 0 }, { name := "waitNanos", type := .long, accessFlags := 2, slot := 1, constantValue := 0 }, { name := "led", type := .boolean, accessFlags := 2, slot := 2, constantValue := 0 }, { name := "ledSince", type := .long, accessFlags := 2, slot := 3, constantValue := 0 }, { name := "ledUntil", type := .long, accessFlags := 2, slot := 4, constantValue := 0 }, { name := "caughtUp", type := .boolean, accessFlags := 2, slot := 5, constantValue := 0 }, { name := "caughtUpSince", type := .long, accessFlags := 2, slot := 6, constantValue := 0 }, { name := "retryAfter", type := .long, accessFlags := 2, slot := 7, constantValue := 0 }]
  methods := #[k2m0, k2m1, k2m2, k2m3, k2m4]
  instanceTypes := #[.long, .long, .boolean, .long, .long, .boolean, .long, .long]
  staticTypes := #[.long, .long, .long, .long]
  resolved := Array.replicate 82 none
  statics := none }

def pool3 : Array CpInfo := pool [(1, u "java/lang/Cloneable"), (0, .class_ 1), (0, u "java/lang/Object"), (0, .class_ 3)] 3

/-- java/lang/Cloneable -/
def k3 : Class := { plain "java/lang/Cloneable" (some 0) with
  accessFlags := 1537
  interfaces := #[]
  cf := some (fileOf pool3 2 #[] #[] 1537 4 #[] #[])
  fields := #[]
  methods := #[]
  instanceTypes := #[]
  staticTypes := #[]
  resolved := Array.replicate 8 none
  statics := none }

def pool4 : Array CpInfo := pool [(1, u "java/io/Serializable"), (0, .class_ 1), (0, u "java/lang/Object"), (0, .class_ 3)] 3

/-- java/io/Serializable -/
def k4 : Class := { plain "java/io/Serializable" (some 0) with
  accessFlags := 1537
  interfaces := #[]
  cf := some (fileOf pool4 2 #[] #[] 1537 4 #[] #[])
  fields := #[]
  methods := #[]
  instanceTypes := #[]
  staticTypes := #[]
  resolved := Array.replicate 8 none
  statics := none }

/-- the primitive byte -/
def k5 : Class := { plain "byte" none with kind := .primitive 'B', accessFlags := 0x411 }
/-- [B -/
def k6 : Class := { plain "[B" (some 0) with kind := .array 5 .byte, interfaces := #[3, 4], accessFlags := 1041 }

/-- the primitive int -/
def k7 : Class := { plain "int" none with kind := .primitive 'I', accessFlags := 0x411 }
/-- [I -/
def k8 : Class := { plain "[I" (some 0) with kind := .array 7 .int, interfaces := #[3, 4], accessFlags := 1041 }

def heap : Heap := #[]
def classes : Array Class := #[k0, k1, k2, k3, k4, k5, k6, k7, k8]
def interned : List (Array UInt16 × Addr) := []
def slotsUsed : Nat := 0
def theMethod : MethodId := ⟨1, 1⟩
def args0 : Array Value := #[.long 5, .long 9, .long 3, .long 4, .long 6, .int 5]
def aboutOver (below : List Frame) : State where
  vm := { classes := classes, interned := interned.toArray }
  heap := heap
  slotsUsed := slotsUsed
  threads := #[{ frames := .invoking theMethod args0 :: below }]
def below0 : List Frame := [.native { method := ⟨0, 0⟩, args := #[] }]
def about1 : State := aboutOver below0
def p0 : Program := .bare "" "" ""
def e0 : Env := launch0.env 0 0 0
theorem w_frames : about1.frames = Frame.invoking theMethod args0 :: below0 := rfl
set_option maxRecDepth 65536 in
theorem w_args : argsFit about1.vm theMethod args0 = true := by decide +kernel
set_option maxRecDepth 65536 in
theorem w_heap : heapFits about1 = true := by decide +kernel
set_option maxRecDepth 65536 in
theorem w_runnable : about1.curStatus? = some .runnable := by decide +kernel
set_option maxRecDepth 65536 in
theorem w_alone : about1.alone = true := by decide +kernel
set_option maxRecDepth 65536 in
theorem w_named : about1.methodNamed? x = some theMethod := by decide +kernel
set_option maxRecDepth 65536 in
theorem w_hears : about1.hears theMethod below0 = true := by decide +kernel
set_option maxRecDepth 65536 in
theorem w_ripe : about1.ripe theMethod args0 below0 = true := by decide +kernel
theorem w_running : about1.status = .running := rfl
set_option maxRecDepth 65536 in
theorem w_room : about1.hasRoom e0.platform room_1 = true :=
  launch0.hasRoom_least _ room_1 (by decide +kernel) (by decide +kernel) (by decide +kernel) (by decide +kernel) (by decide +kernel) (by decide +kernel)
theorem allAtoms_all (ts : List Jvm.Cond) (a : Array Jvm.Value) (st : Jvm.State) : (allAtoms ts).before a st = ts.all (fun c => c.before a st) := by
  induction ts with
  | nil => rfl
  | cons c t ih =>
    show (Jvm.Cond.and c (allAtoms t)).before a st = _
    rw [Jvm.Cond.before_and, ih, List.all_cons]
def words1 : List Jvm.Cond := Jvm.Cond.code x code maxLocals ret :: tables_1
/-- a 'code' word, met by the world's own term for the bytes: nothing is compared byte by byte -/
theorem code_word {y : MethodName} {bytes : ByteArray} {mx : Nat} {rt : Option FieldType} {a : Array Value} {s : State} {m : MethodId} {meth : Method} {c : Code} (h1 : s.methodNamed? y = some m) (h2 : s.vm.method? m = some meth) (h3 : meth.code = some c) (h4 : c.code = bytes)
    (h5 : (c.maxLocals == mx && c.exceptionTable.isEmpty && decide (c.maxStack ≤ mostOperands) && decide (meth.sig.returnType = rt) && !meth.locks && decide (parseMethodDescriptor y.desc = some meth.sig)) = true) : (Jvm.Cond.code y bytes mx rt).before a s = true := by
  simp only [Bool.and_eq_true, beq_iff_eq, Bool.not_eq_true', decide_eq_true_eq] at h5
  obtain ⟨⟨⟨⟨⟨g1, g2⟩, g3⟩, g4⟩, g5⟩, g6⟩ := h5
  simp [Cond.before, Cond.holds, Cond.value, h1, h2, h3, h4, g1, g2, g3, g4, g5, g6]
def isCode : Jvm.Cond → Bool
  | .code _ _ _ _ => true
  | _ => false
theorem all_split {L : List Jvm.Cond} {P : Jvm.Cond → Bool} (h1 : L.all (fun c => isCode c || P c) = true) (h2 : ∀ c ∈ L.filter isCode, P c = true) : L.all P = true := by
  refine List.all_eq_true.mpr fun c hc => ?_
  have h := List.all_eq_true.mp h1 c hc
  rcases Bool.eq_false_or_eq_true (isCode c) with hi | hi
  · exact h2 c (List.mem_filter.mpr ⟨hc, hi⟩)
  · simpa [hi] using h
set_option maxRecDepth 65536 in
theorem w_c0 : (Jvm.Cond.code x code maxLocals ret).before args0 about1 = true := code_word (m := ⟨1, 1⟩) (meth := k1m1) (c := k1c1) (by decide +kernel) rfl rfl rfl (by decide +kernel)
set_option maxRecDepth 65536 in
theorem w_c1 : (Jvm.Cond.code ({ cls := "com/example/causeway/causeway/server/HandoverWait", name := "<init>", desc := "(JJ)V" } : Jvm.MethodName) prog_83_method_1_code (5 : Nat) (Option.none : Option Jvm.ClassFile.FieldType)).before args0 about1 = true := code_word (m := ⟨2, 0⟩) (meth := k2m0) (c := k2c0) (by decide +kernel) rfl rfl rfl (by decide +kernel)
set_option maxRecDepth 65536 in
theorem w_c2 : (Jvm.Cond.code ({ cls := "java/lang/Object", name := "<init>", desc := "()V" } : Jvm.MethodName) object_method_1_code (1 : Nat) (Option.none : Option Jvm.ClassFile.FieldType)).before args0 about1 = true := code_word (m := ⟨0, 0⟩) (meth := k0m0) (c := k0c0) (by decide +kernel) rfl rfl rfl (by decide +kernel)
set_option maxRecDepth 65536 in
theorem w_c3 : (Jvm.Cond.code ({ cls := "com/example/causeway/causeway/server/HandoverWait", name := "lost", desc := "()V" } : Jvm.MethodName) prog_83_method_4_code (1 : Nat) (Option.none : Option Jvm.ClassFile.FieldType)).before args0 about1 = true := code_word (m := ⟨2, 2⟩) (meth := k2m2) (c := k2c2) (by decide +kernel) rfl rfl rfl (by decide +kernel)
set_option maxRecDepth 65536 in
theorem w_c4 : (Jvm.Cond.code ({ cls := "com/example/causeway/causeway/server/HandoverWait", name := "due", desc := "(J)Z" } : Jvm.MethodName) prog_83_method_6_code (3 : Nat) (Option.some Jvm.ClassFile.FieldType.boolean)).before args0 about1 = true := code_word (m := ⟨2, 3⟩) (meth := k2m3) (c := k2c3) (by decide +kernel) rfl rfl rfl (by decide +kernel)
set_option maxRecDepth 65536 in
theorem w_c5 : (Jvm.Cond.code ({ cls := "com/example/causeway/causeway/server/HandoverWait", name := "nanos", desc := "()J" } : Jvm.MethodName) prog_83_method_7_code (1 : Nat) (Option.some Jvm.ClassFile.FieldType.long)).before args0 about1 = true := code_word (m := ⟨2, 4⟩) (meth := k2m4) (c := k2c4) (by decide +kernel) rfl rfl rfl (by decide +kernel)
set_option maxRecDepth 65536 in
theorem w_c6 : (Jvm.Cond.code ({ cls := "com/example/causeway/causeway/server/HandoverWait", name := "caughtUp", desc := "(J)V" } : Jvm.MethodName) prog_83_method_3_code (3 : Nat) (Option.none : Option Jvm.ClassFile.FieldType)).before args0 about1 = true := code_word (m := ⟨2, 1⟩) (meth := k2m1) (c := k2c1) (by decide +kernel) rfl rfl rfl (by decide +kernel)
def codes1 : List Jvm.Cond := [Jvm.Cond.code x code maxLocals ret, Jvm.Cond.code ({ cls := "com/example/causeway/causeway/server/HandoverWait", name := "<init>", desc := "(JJ)V" } : Jvm.MethodName) prog_83_method_1_code (5 : Nat) (Option.none : Option Jvm.ClassFile.FieldType), Jvm.Cond.code ({ cls := "java/lang/Object", name := "<init>", desc := "()V" } : Jvm.MethodName) object_method_1_code (1 : Nat) (Option.none : Option Jvm.ClassFile.FieldType), Jvm.Cond.code ({ cls := "com/example/causeway/causeway/server/HandoverWait", name := "lost", desc := "()V" } : Jvm.MethodName) prog_83_method_4_code (1 : Nat) (Option.none : Option Jvm.ClassFile.FieldType), Jvm.Cond.code ({ cls := "com/example/causeway/causeway/server/HandoverWait", name := "due", desc := "(J)Z" } : Jvm.MethodName) prog_83_method_6_code (3 : Nat) (Option.some Jvm.ClassFile.FieldType.boolean), Jvm.Cond.code ({ cls := "com/example/causeway/causeway/server/HandoverWait", name := "nanos", desc := "()J" } : Jvm.MethodName) prog_83_method_7_code (1 : Nat) (Option.some Jvm.ClassFile.FieldType.long), Jvm.Cond.code ({ cls := "com/example/causeway/causeway/server/HandoverWait", name := "caughtUp", desc := "(J)V" } : Jvm.MethodName) prog_83_method_3_code (3 : Nat) (Option.none : Option Jvm.ClassFile.FieldType)]
set_option maxRecDepth 65536 in
theorem codes_eq : words1.filter isCode = codes1 := rfl
theorem w_codes : ∀ c ∈ words1.filter isCode, c.before args0 about1 = true := by
  rw [codes_eq]
  intro c hc
  simp only [codes1, List.mem_cons, List.not_mem_nil, or_false] at hc
  rcases hc with rfl | rfl | rfl | rfl | rfl | rfl | rfl
  · exact w_c0
  · exact w_c1
  · exact w_c2
  · exact w_c3
  · exact w_c4
  · exact w_c5
  · exact w_c6
set_option maxRecDepth 65536 in
theorem w_t1 : (words1.take 24).all (fun c => isCode c || c.before args0 about1) = true := by decide +kernel
set_option maxRecDepth 65536 in
theorem w_t2 : (words1.drop 24).all (fun c => isCode c || c.before args0 about1) = true := by decide +kernel
theorem w_tables : (allAtoms (Jvm.Cond.code x code maxLocals ret :: tables_1)).before args0 about1 = true := by
  rw [allAtoms_all]
  show words1.all (fun c => c.before args0 about1) = true
  refine all_split ?_ w_codes
  rw [← List.take_append_drop 24 words1, List.all_append, w_t1, w_t2]
  rfl
set_option maxRecDepth 65536 in
theorem w_case : (Jvm.Cond.and given_1 narrow_1).before args0 about1 = true := by decide +kernel
theorem w_applies : (headSpec (Jvm.Cond.code x code maxLocals ret :: tables_1) room_1).applies x e0.platform about1 = true :=
  (Spec.applies_iff w_frames).mpr ⟨w_running, w_runnable, w_alone, w_named, w_hears, w_ripe, w_room, w_tables⟩
theorem atStart : AtStart classFile x code maxLocals ret World_1 tables_1 room_1 Calls_1 rest_1 Pre_1 launch0 p0 e0 about1 theMethod args0 below0 :=
  ⟨lists_1, trivial, launch0.admits_env _ _ _, launch0.least_env, fairChoices_fair.cas, fairChoices_fair.clock, w_frames, w_args, w_heap, w_applies, trivial, trivial, w_case⟩
end start1
theorem witness_1 : WitnessClaimed_1 := ⟨start1.p0, start1.e0, start1.about1, start1.theMethod, start1.args0, start1.below0, start1.atStart⟩
end Jvm.Pilot.@@N@@
