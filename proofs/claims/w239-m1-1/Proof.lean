import JvmDerived
import JvmDerived.Pilot.@@N@@Statement
import JvmDerived.Pilot.@@N@@Code
set_option linter.unusedVariables false
set_option linter.unusedSimpArgs false
namespace Jvm.Pilot.@@N@@
open Jvm Jvm.ClassFile Sem Op Lib Jvm.Free Jvm.Stand Jvm.LawKit Jvm.RoadKit Bundle Jvm.Pilot.@@N@@.Jvm.D
def own_Go (p : Program) (e : Env) (below : List Frame) (G : State → Outcome → Prop) (σ : State) : Prop := ∃ U o, Steps p.tables e below σ U ∧ U.status = .running ∧ Ended U below o ∧ G U o
theorem own_go {p : Program} {e : Env} {below : List Frame} {G : State → Outcome → Prop} {σ σ' : State} (h : ∀ t, Steps p.tables e below σ' t → Steps p.tables e below σ t) (k : own_Go p e below G σ') : own_Go p e below G σ := by
  obtain ⟨U, o, h1, h2⟩ := k
  exact ⟨U, o, h _ h1, h2⟩
def own_Post (s : State) (Q : Option Value → Heap → List Loc → Prop) (C S : Nat) (U : State) (o : Outcome) : Prop := ∃ v L, o = .returned v ∧ Q v U.heap L ∧ FrameEnd s o U L C S
section OwnSteps
variable {p : Program} {l : Launch} {e : Env} {R : Room} {s : State} {m : MethodId} {args : Array Value} {below : List Frame} {meth : Method} {c : Code} {T : State} {locs : List Loc} {cells slots : Nat} {G : State → Outcome → Prop} {Ls : Array Slot} {rest : List Value} {pc : Nat}
theorem own_iloadN (X : Stand p l e R s m args below meth c T locs cells slots) (hx : p.tables.exec = Jvm.exec) {i : Fin 4} {v : Int32} (hd : decode c.code pc = .ok (.iload_n i, 1)) (hl : Ls[i.val]? = some (.val (.int v))) (pc' : Nat) (hp : pc + 1 = pc') (k : own_Go p e below G (T.setTop (mkF m pc' Ls (.int v :: rest)))) : own_Go p e below G (T.setTop (mkF m pc Ls (rest))) := by
  subst hp; exact own_go (fun t q => XS.iloadN X.here hx rfl hd hl q) k
theorem own_iload (X : Stand p l e R s m args below meth c T locs cells slots) (hx : p.tables.exec = Jvm.exec) {i : Nat} {v : Int32} (hd : decode c.code pc = .ok (.iload i, 2)) (hl : Ls[i]? = some (.val (.int v))) (pc' : Nat) (hp : pc + 2 = pc') (k : own_Go p e below G (T.setTop (mkF m pc' Ls (.int v :: rest)))) : own_Go p e below G (T.setTop (mkF m pc Ls (rest))) := by
  subst hp; exact own_go (fun t q => XS.iload X.here hx rfl hd hl q) k
theorem own_aloadN (X : Stand p l e R s m args below meth c T locs cells slots) (hx : p.tables.exec = Jvm.exec) {i : Fin 4} {v : Value} (hd : decode c.code pc = .ok (.aload_n i, 1)) (hl : Ls[i.val]? = some (.val v)) (hv : v.isRef = true) (pc' : Nat) (hp : pc + 1 = pc') (k : own_Go p e below G (T.setTop (mkF m pc' Ls (v :: rest)))) : own_Go p e below G (T.setTop (mkF m pc Ls (rest))) := by
  subst hp; exact own_go (fun t q => XS.aloadN X.here hx rfl hd hl hv q) k
theorem own_aload (X : Stand p l e R s m args below meth c T locs cells slots) (hx : p.tables.exec = Jvm.exec) {i : Nat} {v : Value} (hd : decode c.code pc = .ok (.aload i, 2)) (hl : Ls[i]? = some (.val v)) (hv : v.isRef = true) (pc' : Nat) (hp : pc + 2 = pc') (k : own_Go p e below G (T.setTop (mkF m pc' Ls (v :: rest)))) : own_Go p e below G (T.setTop (mkF m pc Ls (rest))) := by
  subst hp; exact own_go (fun t q => XS.aload X.here hx rfl hd hl hv q) k
theorem own_istoreN (X : Stand p l e R s m args below meth c T locs cells slots) (hx : p.tables.exec = Jvm.exec) {i : Fin 4} {v : Int32} (hd : decode c.code pc = .ok (.istore_n i, 1)) (l' : Array Slot) (hl : storeLocals Ls i.val (.int v) = some l') (pc' : Nat) (hp : pc + 1 = pc') (k : own_Go p e below G (T.setTop (mkF m pc' l' (rest)))) : own_Go p e below G (T.setTop (mkF m pc Ls (.int v :: rest))) := by
  subst hp; exact own_go (fun t q => XS.istoreN X.here hx rfl hd rfl hl q) k
theorem own_istore (X : Stand p l e R s m args below meth c T locs cells slots) (hx : p.tables.exec = Jvm.exec) {i : Nat} {v : Int32} (hd : decode c.code pc = .ok (.istore i, 2)) (l' : Array Slot) (hl : storeLocals Ls i (.int v) = some l') (pc' : Nat) (hp : pc + 2 = pc') (k : own_Go p e below G (T.setTop (mkF m pc' l' (rest)))) : own_Go p e below G (T.setTop (mkF m pc Ls (.int v :: rest))) := by
  subst hp; exact own_go (fun t q => XS.istore X.here hx rfl hd rfl hl q) k
theorem own_astoreN (X : Stand p l e R s m args below meth c T locs cells slots) (hx : p.tables.exec = Jvm.exec) {i : Fin 4} {v : Value} (hd : decode c.code pc = .ok (.astore_n i, 1)) (hv : v.isRef = true) (l' : Array Slot) (hl : storeLocals Ls i.val v = some l') (pc' : Nat) (hp : pc + 1 = pc') (k : own_Go p e below G (T.setTop (mkF m pc' l' (rest)))) : own_Go p e below G (T.setTop (mkF m pc Ls (v :: rest))) := by
  subst hp; exact own_go (fun t q => XS.astoreN X.here hx rfl hd rfl hv hl q) k
theorem own_astore (X : Stand p l e R s m args below meth c T locs cells slots) (hx : p.tables.exec = Jvm.exec) {i : Nat} {v : Value} (hd : decode c.code pc = .ok (.astore i, 2)) (hv : v.isRef = true) (l' : Array Slot) (hl : storeLocals Ls i v = some l') (pc' : Nat) (hp : pc + 2 = pc') (k : own_Go p e below G (T.setTop (mkF m pc' l' (rest)))) : own_Go p e below G (T.setTop (mkF m pc Ls (v :: rest))) := by
  subst hp; exact own_go (fun t q => XS.astore X.here hx rfl hd rfl hv hl q) k
theorem own_iinc (X : Stand p l e R s m args below meth c T locs cells slots) (hx : p.tables.exec = Jvm.exec) {i : Nat} {z : Int} {v : Int32} (hd : decode c.code pc = .ok (.iinc i z, 3)) (hl : Ls[i]? = some (.val (.int v))) (l' : Array Slot) (hl' : storeLocals Ls i (.int (v + Int32.ofInt z)) = some l') (pc' : Nat) (hp : pc + 3 = pc') (k : own_Go p e below G (T.setTop (mkF m pc' l' (rest)))) : own_Go p e below G (T.setTop (mkF m pc Ls (rest))) := by
  subst hp; exact own_go (fun t q => XS.iinc X.here hx rfl hd hl hl' q) k
theorem own_iconst (X : Stand p l e R s m args below meth c T locs cells slots) (hx : p.tables.exec = Jvm.exec) {i : Int} (hd : decode c.code pc = .ok (.iconst i, 1)) (v : Int32) (hv : v = Int32.ofInt i) (pc' : Nat) (hp : pc + 1 = pc') (k : own_Go p e below G (T.setTop (mkF m pc' Ls (.int v :: rest)))) : own_Go p e below G (T.setTop (mkF m pc Ls (rest))) := by
  subst hp; exact own_go (fun t q => XS.iconst X.here hx rfl hd (hv ▸ q)) k
theorem own_ldcInt (X : Stand p l e R s m args below meth c T locs cells slots) (hx : p.tables.exec = Jvm.exec) {own : String} {index : Nat} {v : Int32} (hown : s.vm.findClass own = some m.cls) (hc : (Cond.constant own index v).before args s = true) (hd : decode c.code pc = .ok (.ldc index, 2)) (pc' : Nat) (hp : pc + 2 = pc') (k : own_Go p e below G (T.setTop (mkF m pc' Ls (.int v :: rest)))) : own_Go p e below G (T.setTop (mkF m pc Ls rest)) := by
  subst hp; exact own_go (X.ldcInt hx hown hc (g := mkF m pc Ls rest) rfl hd) k
theorem own_iadd (X : Stand p l e R s m args below meth c T locs cells slots) (hx : p.tables.exec = Jvm.exec) {x y : Int32} (hd : decode c.code pc = .ok (.iadd, 1)) (pc' : Nat) (hp : pc + 1 = pc') (k : own_Go p e below G (T.setTop (mkF m pc' Ls (.int (x + y) :: rest)))) : own_Go p e below G (T.setTop (mkF m pc Ls (.int y :: .int x :: rest))) := by
  subst hp; exact own_go (fun t q => XS.iadd X.here hx rfl hd rfl q) k
theorem own_isub (X : Stand p l e R s m args below meth c T locs cells slots) (hx : p.tables.exec = Jvm.exec) {x y : Int32} (hd : decode c.code pc = .ok (.isub, 1)) (pc' : Nat) (hp : pc + 1 = pc') (k : own_Go p e below G (T.setTop (mkF m pc' Ls (.int (x - y) :: rest)))) : own_Go p e below G (T.setTop (mkF m pc Ls (.int y :: .int x :: rest))) := by
  subst hp; exact own_go (fun t q => XS.isub X.here hx rfl hd rfl q) k
theorem own_iand (X : Stand p l e R s m args below meth c T locs cells slots) (hx : p.tables.exec = Jvm.exec) {x y : Int32} (hd : decode c.code pc = .ok (.iand, 1)) (pc' : Nat) (hp : pc + 1 = pc') (k : own_Go p e below G (T.setTop (mkF m pc' Ls (.int (x &&& y) :: rest)))) : own_Go p e below G (T.setTop (mkF m pc Ls (.int y :: .int x :: rest))) := by
  subst hp; exact own_go (fun t q => XS.iand X.here hx rfl hd rfl q) k
theorem own_irem (X : Stand p l e R s m args below meth c T locs cells slots) (hx : p.tables.exec = Jvm.exec) {x y : Int32} (hd : decode c.code pc = .ok (.irem, 1)) (hy : y ≠ 0) (pc' : Nat) (hp : pc + 1 = pc') (k : own_Go p e below G (T.setTop (mkF m pc' Ls (.int (x % y) :: rest)))) : own_Go p e below G (T.setTop (mkF m pc Ls (.int y :: .int x :: rest))) := by
  subst hp; exact own_go (fun t q => iremM X hx rfl hd rfl hy q) k
theorem own_iushr (X : Stand p l e R s m args below meth c T locs cells slots) (hx : p.tables.exec = Jvm.exec) {x y : Int32} (hd : decode c.code pc = .ok (.iushr, 1)) (pc' : Nat) (hp : pc + 1 = pc') (k : own_Go p e below G (T.setTop (mkF m pc' Ls (.int ((x.toUInt32 >>> (y &&& 31).toUInt32).toInt32) :: rest)))) : own_Go p e below G (T.setTop (mkF m pc Ls (.int y :: .int x :: rest))) := by
  subst hp; exact own_go (fun t q => XS.iushr X.here hx rfl hd rfl q) k
theorem own_dup (X : Stand p l e R s m args below meth c T locs cells slots) (hx : p.tables.exec = Jvm.exec) {x : Value} (hd : decode c.code pc = .ok (.dup, 1)) (hc : x.category = 1) (pc' : Nat) (hp : pc + 1 = pc') (k : own_Go p e below G (T.setTop (mkF m pc' Ls (x :: x :: rest)))) : own_Go p e below G (T.setTop (mkF m pc Ls (x :: rest))) := by
  subst hp; exact own_go (fun t q => XS.dup X.here hx rfl hd rfl hc q) k
theorem own_dupX1 (X : Stand p l e R s m args below meth c T locs cells slots) (hx : p.tables.exec = Jvm.exec) {x y : Value} (hd : decode c.code pc = .ok (.dup_x1, 1)) (hc : x.category = 1) (hc' : y.category = 1) (pc' : Nat) (hp : pc + 1 = pc') (k : own_Go p e below G (T.setTop (mkF m pc' Ls (x :: y :: x :: rest)))) : own_Go p e below G (T.setTop (mkF m pc Ls (x :: y :: rest))) := by
  subst hp; exact own_go (fun t q => XS.dupX1 X.here hx rfl hd rfl hc hc' q) k
theorem own_dup2 (X : Stand p l e R s m args below meth c T locs cells slots) (hx : p.tables.exec = Jvm.exec) {x y : Value} (hd : decode c.code pc = .ok (.dup2, 1)) (hc : x.category = 1) (hc' : y.category = 1) (pc' : Nat) (hp : pc + 1 = pc') (k : own_Go p e below G (T.setTop (mkF m pc' Ls (x :: y :: x :: y :: rest)))) : own_Go p e below G (T.setTop (mkF m pc Ls (x :: y :: rest))) := by
  subst hp; exact own_go (fun t q => XT.dup2 X.here hx rfl hd rfl hc hc' q) k
theorem own_goto (X : Stand p l e R s m args below meth c T locs cells slots) (hx : p.tables.exec = Jvm.exec) {o : Int} (hd : decode c.code pc = .ok (.goto o, 3)) (pc' : Nat) (hp : 0 ≤ (pc : Int) + o ∧ ((pc : Int) + o).toNat = pc') (k : own_Go p e below G (T.setTop (mkF m pc' Ls rest))) : own_Go p e below G (T.setTop (mkF m pc Ls rest)) :=
  own_go (fun t q => XS.goto X.here hx rfl (pc0 := pc) (pc' := pc') rfl hd hp.1 hp.2 q) k
theorem own_ifY (X : Stand p l e R s m args below meth c T locs cells slots) (hx : p.tables.exec = Jvm.exec) {o : Int} {cd : ClassFile.Cond} {x : Int32} (hd : decode c.code pc = .ok (.ifCond cd o, 3)) (hc : ifCond.holds cd x = true) (pc' : Nat) (hp : 0 ≤ (pc : Int) + o ∧ ((pc : Int) + o).toNat = pc') (k : own_Go p e below G (T.setTop (mkF m pc' Ls rest))) : own_Go p e below G (T.setTop (mkF m pc Ls (.int x :: rest))) :=
  own_go (fun t q => XS.ifYes X.here hx rfl (pc0 := pc) (pc' := pc') rfl hd rfl hc hp.1 hp.2 q) k
theorem own_ifN (X : Stand p l e R s m args below meth c T locs cells slots) (hx : p.tables.exec = Jvm.exec) {o : Int} {cd : ClassFile.Cond} {x : Int32} (hd : decode c.code pc = .ok (.ifCond cd o, 3)) (hc : ifCond.holds cd x = false) (pc' : Nat) (hp : pc + 3 = pc') (k : own_Go p e below G (T.setTop (mkF m pc' Ls (rest)))) : own_Go p e below G (T.setTop (mkF m pc Ls (.int x :: rest))) := by
  subst hp; exact own_go (fun t q => XS.ifNo X.here hx rfl hd rfl hc q) k
theorem own_icmpY (X : Stand p l e R s m args below meth c T locs cells slots) (hx : p.tables.exec = Jvm.exec) {o : Int} {cd : ClassFile.Cond} {x y : Int32} (hd : decode c.code pc = .ok (.if_icmp cd o, 3)) (hc : if_icmp.holds cd x y = true) (pc' : Nat) (hp : 0 ≤ (pc : Int) + o ∧ ((pc : Int) + o).toNat = pc') (k : own_Go p e below G (T.setTop (mkF m pc' Ls rest))) : own_Go p e below G (T.setTop (mkF m pc Ls (.int y :: .int x :: rest))) :=
  own_go (fun t q => XS.icmpYes X.here hx rfl (pc0 := pc) (pc' := pc') rfl hd rfl hc hp.1 hp.2 q) k
theorem own_icmpN (X : Stand p l e R s m args below meth c T locs cells slots) (hx : p.tables.exec = Jvm.exec) {o : Int} {cd : ClassFile.Cond} {x y : Int32} (hd : decode c.code pc = .ok (.if_icmp cd o, 3)) (hc : if_icmp.holds cd x y = false) (pc' : Nat) (hp : pc + 3 = pc') (k : own_Go p e below G (T.setTop (mkF m pc' Ls (rest)))) : own_Go p e below G (T.setTop (mkF m pc Ls (.int y :: .int x :: rest))) := by
  subst hp; exact own_go (fun t q => XS.icmpNo X.here hx rfl hd rfl hc q) k
theorem own_ret {f : JFrame} {Q : Option Value → Heap → List Loc → Prop} {C S : Nat} (X : Stand p l e R s m args below meth c T locs cells slots) (hlk : meth.locks = false) (hG : own_Post s Q C S = G) {v : Option Value} (hv : meth.sig.returnType = none → v = none)
    (st : ∀ fs, (∀ (f : JFrame) (acts : List Action), f.method = m → f.locked = none → f.entered = [] → (doReturn e (T.setTop f) acts v).1 = T.setFrames fs) → Steps p.tables e below (T.setTop f) (T.setFrames fs)) (hc : cells ≤ C) (hs : slots ≤ S) (hq : Q v T.heap locs) : own_Go p e below G (T.setTop f) := by
  subst hG
  obtain ⟨fs, hr, hrun, hended, hW, hsame⟩ := X.leave (v := v) hv hlk
  exact ⟨_, _, st fs hr, hrun, hended, _, _, rfl, hq, ⟨_, rfl⟩, hW, hsame.mono hc hs⟩
theorem own_ireturn {z : Int32} {Q : Option Value → Heap → List Loc → Prop} {C S : Nat} (X : Stand p l e R s m args below meth c T locs cells slots) (hx : p.tables.exec = Jvm.exec) (hlk : meth.locks = false) (hG : own_Post s Q C S = G) (hret : meth.sig.returnType = some .int) (hd : decode c.code pc = .ok (.ireturn, 1)) (hc : cells ≤ C) (hs : slots ≤ S) (hq : Q (some (.int z)) T.heap locs) : own_Go p e below G (T.setTop (mkF m pc Ls (.int z :: rest))) :=
  own_ret X hlk hG (fun h => by rw [hret] at h; cases h) (fun fs hr => retOut X hx hret rfl (Or.inl ⟨rfl, Or.inl rfl, _, rfl⟩) hd hr) hc hs hq
theorem own_nreturn {z : Int32} {ty : FieldType} {Q : Option Value → Heap → List Loc → Prop} {C S : Nat} (X : Stand p l e R s m args below meth c T locs cells slots) (hx : p.tables.exec = Jvm.exec) (hlk : meth.locks = false) (hG : own_Post s Q C S = G) (hret : meth.sig.returnType = some ty) (ht : ty = .boolean ∨ ty = .byte ∨ ty = .char ∨ ty = .short) (hd : decode c.code pc = .ok (.ireturn, 1)) (hc : cells ≤ C) (hs : slots ≤ S) (hq : Q (some (.int (nar ty z))) T.heap locs) : own_Go p e below G (T.setTop (mkF m pc Ls (.int z :: rest))) :=
  own_ret X hlk hG (fun h => by rw [hret] at h; cases h) (fun fs hr => retN X hx hret ht hd hr) hc hs hq
theorem own_return {Q : Option Value → Heap → List Loc → Prop} {C S : Nat} (X : Stand p l e R s m args below meth c T locs cells slots) (hx : p.tables.exec = Jvm.exec) (hlk : meth.locks = false) (hG : own_Post s Q C S = G) (hret : meth.sig.returnType = none) (hd : decode c.code pc = .ok (.return_, 1)) (hc : cells ≤ C) (hs : slots ≤ S) (hq : Q none T.heap locs) : own_Go p e below G (T.setTop (mkF m pc Ls [])) :=
  own_ret X hlk hG (fun _ => rfl) (fun fs hr => X.returnOut hx hret hd hr) hc hs hq
variable {Z : State} {a0 : Array Value} {h : Heap}
theorem own_getF (X : Stand p l e R s m args below meth c T locs cells slots) (hx : p.tables.exec = Jvm.exec) (hZ : Z.Warmed39 s.vm) {own R0 O n d : String} {index : Nat} (hown : s.vm.findClass own = some m.cls) (w : (Cond.fieldLink own index R0 n d).before a0 Z = true) (via : Via Z R0 O n d) (eT : T.heap = h) {a : Addr} {v : Value} (F : Fld Z h a O n d v) (hd : decode c.code pc = .ok (.getfield index, 3)) (pc' : Nat) (hp : pc + 3 = pc')
    (k : ∀ T' : State, Stand p l e R s m args below meth c T' locs cells slots → T'.heap = h → own_Go p e below G (T'.setTop (mkF m pc' Ls (v :: rest)))) : own_Go p e below G (T.setTop (mkF m pc Ls (.ref a :: rest))) := by
  subst hp
  obtain ⟨T', X', e', st⟩ := getF X hx hZ hown (host := "") (Or.inl w) via eT F (g := mkF m pc Ls (.ref a :: rest)) rfl rfl hd
  exact own_go st (k T' X' e')
theorem own_putF (X : Stand p l e R s m args below meth c T locs cells slots) (hx : p.tables.exec = Jvm.exec) (hZ : Z.Warmed39 s.vm) {own R0 O n d C : String} {index kk : Nat} {ty : FieldType} (hown : s.vm.findClass own = some m.cls) (w : (Cond.fieldLink own index R0 n d).before a0 Z = true) (via : Via Z R0 O n d) (eT : T.heap = h) {a : Addr} {v v' old : Value} (F : Fld Z h a O n d old) (E : Exa Z h a C) (L : (Cond.lays C O n d).before a0 Z = true ∨ ((Cond.laysFinal C O n d).before a0 Z = true ∧ own = O ∧ meth.name = "<init>")) (wi : (Cond.instantiable C kk).before a0 Z = true) (hty : parseFieldDescriptor d = some ty) (hn : narrow ty v = v') (hf : fits ty v' = true) (hd : decode c.code pc = .ok (.putfield index, 3)) (pc' : Nat) (hp : pc + 3 = pc')
    (k : ∀ (T' : State) (h' : Heap), Stand p l e R s m args below meth c T' (locs ++ [⟨a, Jvm.RoadKit.slotOf Z O n d⟩]) cells slots → T'.heap = h' → Wr h h' a (Jvm.RoadKit.slotOf Z O n d) v' → own_Go p e below G (T'.setTop (mkF m pc' Ls rest))) : own_Go p e below G (T.setTop (mkF m pc Ls (v :: .ref a :: rest))) := by
  subst hp
  obtain ⟨T', h', X', e', W, st⟩ := putFN X hx hZ hown w via eT F E L wi hty hn hf (g := mkF m pc Ls (v :: .ref a :: rest)) rfl rfl hd
  exact own_go st (k T' h' X' e' W)
theorem own_newO (X : Stand p l e R s m args below meth c T locs cells slots) (hx : p.tables.exec = Jvm.exec) (hZ : Z.Warmed39 s.vm) {own C : String} {index n : Nat} (hown : s.vm.findClass own = some m.cls) (w : (Cond.classLink own index C).before a0 Z = true) (wi : (Cond.instantiable C n).before a0 Z = true) (wz : (Cond.initialized C).before a0 Z = true) (eT : T.heap = h) (hd : decode c.code pc = .ok (.new index, 3)) (hc : cells + 1 ≤ R.cells) (hl : slots + n ≤ R.slots) (pc' : Nat) (hp : pc + 3 = pc')
    (k : ∀ (T' : State) (h' : Heap) (a' : Addr), a' = h.size → Stand p l e R s m args below meth c T' locs (cells + 1) (slots + n) → T'.heap = h' → Ext h h' → Exa Z h' a' C → (∀ {O nm d : String} {ty : FieldType}, Laid Z a0 C O nm d → parseFieldDescriptor d = some ty → Fld Z h' a' O nm d (defaultValue ty)) → own_Go p e below G (T'.setTop (mkF m pc' Ls (.ref a' :: rest)))) : own_Go p e below G (T.setTop (mkF m pc Ls rest)) := by
  subst hp
  obtain ⟨T', h', X', e', E', A', D', -, st⟩ := newO X hx hZ hown w wi wz eT (g := mkF m pc Ls rest) rfl hd hc hl
  exact own_go st (k T' h' _ rfl X' e' E' A' D')
theorem own_initO (X : Stand p l e R s m args below meth c T locs cells slots) (hx : p.tables.exec = Jvm.exec) (hZ : Z.Warmed39 s.vm) {own : String} {idx : Nat} (hown : s.vm.findClass own = some m.cls) (w1 : (Cond.methodLink own idx Lib.objectInit).before a0 Z = true) (w2 : (Cond.instanceMethod Lib.objectInit).before a0 Z = true) (w3 : (Cond.code Lib.objectInit object_method_1_code 1 none).before a0 Z = true) (eT : T.heap = h) (hsize : Ls.size = c.maxLocals) {a : Addr} (hd : decode c.code pc = .ok (.invokespecial idx, 3)) (hf : 1 ≤ R.frames) (W : Nat) (hW : (rest.map fun v => v.category).sum ≤ W) (hl : W + 12 ≤ R.locals) (pc' : Nat) (hp : pc + 3 = pc')
    (k : ∀ T' : State, Stand p l e R s m args below meth c T' locs cells slots → T'.heap = h → own_Go p e below G (T'.setTop (mkF m pc' Ls rest))) : own_Go p e below G (T.setTop (mkF m pc Ls (.ref a :: rest))) := by
  subst hp
  obtain ⟨T', X', e', st⟩ := initO X hx hZ hown w1 w2 w3 eT (g := mkF m pc Ls (.ref a :: rest)) rfl hsize rfl hd hf (W := W) (by show 2 * 0 + _ ≤ W; rw [Nat.mul_zero, Nat.zero_add]; exact hW) hl
  exact own_go st (k T' X' e')
theorem own_callS {bytes : ByteArray} {maxL : Nat} {ret : Option FieldType} {rm : Room} {y : MethodName} {argsL : List Value} {Q : Option Value → Heap → List Loc → Prop} (X : Stand p l e R s m args below meth c T locs cells slots) (hx : p.tables.exec = Jvm.exec) (hZ : Z.Warmed39 s.vm) {own : String} {index : Nat} (hown : s.vm.findClass own = some m.cls) (w1 : (Cond.methodLink own index y).before a0 Z = true) (w2 : (Cond.static y).before a0 Z = true) (w3 : (Cond.initialized y.cls).before a0 Z = true) (w4 : (Cond.code y bytes maxL ret).before a0 Z = true) (hy : y.cls ≠ "java/lang/invoke/MethodHandle" ∧ y.cls ≠ "java/lang/invoke/VarHandle") (eT : T.heap = h)
    (hM : MetFree l y (head1 [Cond.code y bytes maxL ret] rm) (fun a U => a = argsL.toArray ∧ Z.Warmed39 U.vm ∧ U.heap = h) (fun _ _ _ _ _ => True) (fun _ U o U' => ∃ v L, o = .returned v ∧ Q v U'.heap L ∧ FrameEnd U o U' L rm.cells rm.slots))
    (hsize : Ls.size = c.maxLocals) {ps : List FieldType} {rt : Option FieldType} (hdesc : parseMethodDescriptor y.desc = some ⟨ps, rt⟩) (hlen : argsL.length = ps.length) {st : List Value} (hst : st = argsL.reverse ++ rest) (hd : decode c.code pc = .ok (.invokestatic index, 3)) (W : Nat) (hW : (rest.map fun v => v.category).sum ≤ W) (hf : rm.frames + 1 ≤ R.frames) (hl : W + (maxL + 11) + rm.locals ≤ R.locals) (hc : cells + rm.cells ≤ R.cells) (hs : slots + rm.slots ≤ R.slots) (pc' : Nat) (hp : pc + 3 = pc')
    (k : ∀ (T' : State) (L : List Loc) (v : Option Value), Stand p l e R s m args below meth c T' (locs ++ L) (cells + rm.cells) (slots + rm.slots) → Q v T'.heap L → own_Go p e below G (T'.setTop (mkF m pc' Ls (v.toList ++ rest)))) : own_Go p e below G (T.setTop (mkF m pc Ls st)) := by
  subst hp hst
  obtain ⟨v, _, ⟨T', L', k', n'⟩, -, X', ⟨Lc, hQ, l', y', z'⟩, st⟩ := Jvm.LawKit.callS X hx hown (mvT hZ w1) (mvT hZ w2) (mvT hZ w3) (mvT hZ w4) hy (backOf (W := W) hM hZ w4 w3 hf hl) (g := mkF m pc Ls (argsL.reverse ++ rest)) rfl hsize (argsL := argsL) (rest := rest) (lenOf hdesc hlen) rfl (by show 2 * 0 + _ ≤ W; rw [Nat.mul_zero, Nat.zero_add]; exact hW) hd (fun _ _ => ⟨rfl, eT, hc, hs⟩)
  dsimp only [Pt.U, Pt.locs, Pt.cells, Pt.slots] at X' l' y' z' st hQ
  subst l' y' z'
  exact own_go st (k T' Lc v X' hQ)
theorem own_callI {bytes : ByteArray} {maxL : Nat} {rm : Room} {y : MethodName} {argsL : List Value} {Q : Option Value → Heap → List Loc → Prop} (X : Stand p l e R s m args below meth c T locs cells slots) (hx : p.tables.exec = Jvm.exec) (hZ : Z.Warmed39 s.vm) (hy1 : y.name = "<init>") {own : String} {index : Nat} (hown : s.vm.findClass own = some m.cls) (w1 : (Cond.methodLink own index y).before a0 Z = true) (w2 : (Cond.instanceMethod y).before a0 Z = true) (w3 : (Cond.initialized y.cls).before a0 Z = true) (w4 : (Cond.code y bytes maxL none).before a0 Z = true) (hy : y.cls ≠ "java/lang/invoke/MethodHandle" ∧ y.cls ≠ "java/lang/invoke/VarHandle") (eT : T.heap = h) {b : Addr}
    (hM : MetFree l y (head1 [Cond.code y bytes maxL none] rm) (fun a U => a = (.ref b :: argsL).toArray ∧ Z.Warmed39 U.vm ∧ U.heap = h) (fun _ _ _ _ _ => True) (fun _ U o U' => ∃ v L, o = .returned v ∧ Q v U'.heap L ∧ FrameEnd U o U' L rm.cells rm.slots))
    (hsize : Ls.size = c.maxLocals) {ps : List FieldType} {rt : Option FieldType} (hdesc : parseMethodDescriptor y.desc = some ⟨ps, rt⟩) (hlen : argsL.length = ps.length) {st : List Value} (hst : st = argsL.reverse ++ .ref b :: rest) (hd : decode c.code pc = .ok (.invokespecial index, 3)) (W : Nat) (hW : (rest.map fun v => v.category).sum ≤ W) (hf : rm.frames + 1 ≤ R.frames) (hl : W + (maxL + 11) + rm.locals ≤ R.locals) (hc : cells + rm.cells ≤ R.cells) (hs : slots + rm.slots ≤ R.slots) (pc' : Nat) (hp : pc + 3 = pc')
    (k : ∀ (T' : State) (L : List Loc) (v : Option Value), Stand p l e R s m args below meth c T' (locs ++ L) (cells + rm.cells) (slots + rm.slots) → Q v T'.heap L → own_Go p e below G (T'.setTop (mkF m pc' Ls (v.toList ++ rest)))) : own_Go p e below G (T.setTop (mkF m pc Ls st)) := by
  subst hp hst
  obtain ⟨v, _, ⟨T', L', k', n'⟩, -, X', ⟨Lc, hQ, l', y', z'⟩, st⟩ := X.specialBack hx hy1 hown (mvT hZ w1) (mvT hZ w2) (mvT hZ w4) hy (backOf (W := W) hM hZ w4 w3 hf hl) (g := mkF m pc Ls (argsL.reverse ++ .ref b :: rest)) rfl hsize (Steps.refl _) (a := b) (argsL := argsL) (rest := rest) (lenOf hdesc hlen) rfl (by show 2 * 0 + _ ≤ W; rw [Nat.mul_zero, Nat.zero_add]; exact hW) hd (fun _ _ => ⟨rfl, eT, hc, hs⟩)
  dsimp only [Pt.U, Pt.locs, Pt.cells, Pt.slots] at X' l' y' z' st hQ
  subst l' y' z'
  exact own_go (fun t q => st.trans q) (k T' Lc v X' hQ)
theorem own_callV {bytes : ByteArray} {maxL : Nat} {ret : Option FieldType} {rm : Room} {y z : MethodName} {argsL : List Value} {Q : Option Value → Heap → List Loc → Prop} (X : Stand p l e R s m args below meth c T locs cells slots) (hx : p.tables.exec = Jvm.exec) (hZ : Z.Warmed39 s.vm) {own C : String} {index : Nat} (hown : s.vm.findClass own = some m.cls) (w1 : (Cond.methodLink own index y).before a0 Z = true) (w2 : (Cond.declares y).before a0 Z = true) (w5 : (Cond.selects C y z).before a0 Z = true) (nf : NotFace s y) (w6 : (Cond.instanceMethod z).before a0 Z = true) (w3 : (Cond.initialized z.cls).before a0 Z = true) (w4 : (Cond.code z bytes maxL ret).before a0 Z = true) (hy : y.cls ≠ "java/lang/invoke/MethodHandle" ∧ y.cls ≠ "java/lang/invoke/VarHandle") (eT : T.heap = h) {b : Addr} (E : Exa Z h b C)
    (hM : MetFree l z (head1 [Cond.code z bytes maxL ret] rm) (fun a U => a = (.ref b :: argsL).toArray ∧ Z.Warmed39 U.vm ∧ U.heap = h) (fun _ _ _ _ _ => True) (fun _ U o U' => ∃ v L, o = .returned v ∧ Q v U'.heap L ∧ FrameEnd U o U' L rm.cells rm.slots))
    (hsize : Ls.size = c.maxLocals) {ps : List FieldType} {rt : Option FieldType} (hdesc : parseMethodDescriptor y.desc = some ⟨ps, rt⟩) (hlen : argsL.length = ps.length) {st : List Value} (hst : st = argsL.reverse ++ .ref b :: rest) (hd : decode c.code pc = .ok (.invokevirtual index, 3)) (W : Nat) (hW : (rest.map fun v => v.category).sum ≤ W) (hf : rm.frames + 1 ≤ R.frames) (hl : W + (maxL + 11) + rm.locals ≤ R.locals) (hc : cells + rm.cells ≤ R.cells) (hs : slots + rm.slots ≤ R.slots) (pc' : Nat) (hp : pc + 3 = pc')
    (k : ∀ (T' : State) (L : List Loc) (v : Option Value), Stand p l e R s m args below meth c T' (locs ++ L) (cells + rm.cells) (slots + rm.slots) → Q v T'.heap L → own_Go p e below G (T'.setTop (mkF m pc' Ls (v.toList ++ rest)))) : own_Go p e below G (T.setTop (mkF m pc Ls st)) := by
  subst hp hst
  obtain ⟨cq, kq, qa, qb, qc⟩ := isOf hZ eT E
  obtain ⟨v, _, ⟨T', L', k', n'⟩, -, X', ⟨Lc, hQ, l', y', z'⟩, st⟩ := X.virtualBack hx (y := y) (z := z) hown (mvT hZ w1) (mvT hZ w2) nf (mvT hZ w5) (mvT hZ w6) hy (backOf (W := W) hM hZ w4 w3 hf hl) qa qc (g := mkF m pc Ls (argsL.reverse ++ .ref b :: rest)) rfl hsize (Steps.refl _) (argsL := argsL) (rest := rest) (lenOf hdesc hlen) rfl (by show 2 * 0 + _ ≤ W; rw [Nat.mul_zero, Nat.zero_add]; exact hW) hd (fun _ _ => ⟨rfl, eT, hc, hs⟩)
  dsimp only [Pt.U, Pt.locs, Pt.cells, Pt.slots] at X' l' y' z' st hQ
  subst l' y' z'
  exact own_go (fun t q => st.trans q) (k T' Lc v X' hQ)
def own_A {α : Type} (ty : FieldType) (f : α → Value) (Z : State) (h : Heap) (a : Addr) (L : List α) : Prop := ∃ cl : Cell, Arr Z h a cl ty ∧ cl.slots = (L.map f).toArray ∧ L.length < 2147483648
section OwnArr
variable {α : Type} {ty : FieldType} {f : α → Value} {h' : Heap} {a b : Addr} {L : List α}
theorem own_A.lt (F : own_A ty f Z h a L) : a < h.size := by obtain ⟨cl, A, -⟩ := F; exact A.lt
theorem own_A.ext (F : own_A ty f Z h a L) (E : Ext h h') : own_A ty f Z h' a L := by obtain ⟨cl, A, r⟩ := F; exact ⟨cl, A.ext E, r⟩
theorem own_A.other {sl : Nat} {v : Value} (F : own_A ty f Z h b L) (W : Wr h h' a sl v) (q : b ≠ a) : own_A ty f Z h' b L := by obtain ⟨cl, A, r⟩ := F; exact ⟨cl, A.other W q, r⟩
theorem own_A.keep {ws : List Addr} (F : own_A ty f Z h a L) (K : Keep h h' ws) (q : a ∉ ws) : own_A ty f Z h' a L := by obtain ⟨cl, A, r⟩ := F; exact ⟨cl, ⟨K.2.1 a cl A.1 q, A.2⟩, r⟩
theorem own_A.len (F : own_A ty f Z h a L) : L.length < 2147483648 := by obtain ⟨cl, A, -, r⟩ := F; exact r
theorem own_A.set {i : Nat} {x : α} (F : own_A ty f Z h a L) (W : Wr h h' a i (f x)) : own_A ty f Z h' a (L.set i x) := by
  obtain ⟨cl, A, r, r'⟩ := F
  refine ⟨_, A.same W, ?_, by simpa using r'⟩
  show cl.slots.setIfInBounds i (f x) = _
  rw [r, List.map_set]; simp
theorem own_idx {j : Int32} {i n : Nat} (hj : j = Int32.ofNat i) (hi : i < n) (hn : n < 2147483648) : ¬ (j < 0 ∨ n ≤ j.toNatClampNeg) ∧ j.toNatClampNeg = i := by
  subst hj
  have q : (Int32.ofNat i).toInt = i := Int32.toInt_ofNat_of_lt (by omega)
  have q2 : (Int32.ofNat i).toNatClampNeg = i := by rw [Int32.toNatClampNeg, q]; rfl
  refine ⟨fun z => z.elim (fun z => ?_) fun z => by omega, q2⟩
  rw [Int32.lt_iff_toInt_lt, q, show (0 : Int32).toInt = 0 from rfl] at z; omega
theorem own_A.new {k : ClassId} {n : Int32} {d : α} (hd : f d = defaultValue ty) (A : Arr Z h a (newA k ty n) ty) (i : Nat) (hn : n = Int32.ofNat i) (hi : i < 2147483648) : own_A ty f Z h a (List.replicate i d) := by
  refine ⟨_, A, ?_, by simpa using hi⟩
  have q := (own_idx hn (Nat.lt_succ_self i) (n := i + 1))
  have q2 : n.toNatClampNeg = i := by
    subst hn
    rw [Int32.toNatClampNeg, Int32.toInt_ofNat_of_lt (by omega)]; rfl
  simp [newA, q2, hd]
end OwnArr
theorem own_iaload (X : Stand p l e R s m args below meth c T locs cells slots) (hx : p.tables.exec = Jvm.exec) (hZ : Z.Warmed39 s.vm) (eT : T.heap = h) {a : Addr} {L : List Int32} (V : own_A .int Value.int Z h a L) {j : Int32} (i : Nat) (hj : j = Int32.ofNat i) (v : Int32) (hv : L[i]? = some v) (hd : decode c.code pc = .ok (.iaload, 1)) (pc' : Nat) (hp : pc + 1 = pc') (k : own_Go p e below G (T.setTop (mkF m pc' Ls (Value.int v :: rest)))) : own_Go p e below G (T.setTop (mkF m pc Ls (.int j :: .ref a :: rest))) := by
  subst hp
  obtain ⟨cl, A, r, r'⟩ := V
  have hi : i < L.length := (List.getElem?_eq_some_iff.mp hv).1
  obtain ⟨q1, q2⟩ := own_idx hj hi r'
  exact own_go (X.iaload hx (j := j) (v := Value.int v) (by rw [eT]; exact A.1) (State.isArrayOf_alike hZ.alike A.2.1) A.2.2 (by rw [r]; simpa using q1) (by rw [r, q2]; simp [hv]) (g := mkF m pc Ls (.int j :: .ref a :: rest)) rfl rfl hd) k
theorem own_iastore (X : Stand p l e R s m args below meth c T locs cells slots) (hx : p.tables.exec = Jvm.exec) (hZ : Z.Warmed39 s.vm) (eT : T.heap = h) {a : Addr} {L : List Int32} (V : own_A .int Value.int Z h a L) {j : Int32} {x : Int32} (i : Nat) (hj : j = Int32.ofNat i) (hi : i < L.length) (hd : decode c.code pc = .ok (.iastore, 1)) (pc' : Nat) (hp : pc + 1 = pc')
    (k : ∀ (T' : State) (h' : Heap), Stand p l e R s m args below meth c T' (locs ++ [⟨a, j.toNatClampNeg⟩]) cells slots → T'.heap = h' → Wr h h' a i (Value.int x) → own_A .int Value.int Z h' a (L.set i x) → own_Go p e below G (T'.setTop (mkF m pc' Ls rest))) : own_Go p e below G (T.setTop (mkF m pc Ls (Value.int x :: .int j :: .ref a :: rest))) := by
  subst hp
  have V' := V
  obtain ⟨cl, A, r, r'⟩ := V'
  obtain ⟨q1, q2⟩ := own_idx hj hi r'
  obtain ⟨T', h', X', e', W, st⟩ := stI X hx hZ eT A (j := j) (x := x) (by rw [r]; simpa using q1) (g := mkF m pc Ls (Value.int x :: .int j :: .ref a :: rest)) rfl rfl hd
  rw [q2] at W
  exact own_go st (k T' h' X' e' W (V.set W))
theorem own_arraylength {α : Type} {ty : FieldType} {f : α → Value} {L : List α} (X : Stand p l e R s m args below meth c T locs cells slots) (hx : p.tables.exec = Jvm.exec) (hZ : Z.Warmed39 s.vm) (eT : T.heap = h) {a : Addr} (V : own_A ty f Z h a L) (hd : decode c.code pc = .ok (.arraylength, 1)) (pc' : Nat) (hp : pc + 1 = pc') (k : own_Go p e below G (T.setTop (mkF m pc' Ls (.int (Int32.ofNat L.length) :: rest)))) : own_Go p e below G (T.setTop (mkF m pc Ls (.ref a :: rest))) := by
  subst hp
  obtain ⟨cl, A, r, r'⟩ := V
  refine own_go (X.arraylength hx (cell := cl) (by rw [eT]; exact A.1) (State.isArrayOf_alike hZ.alike A.2.1) (g := mkF m pc Ls (.ref a :: rest)) rfl (rest := rest) rfl hd) ?_
  rw [show cl.slots.size.toInt32 = Int32.ofNat L.length by rw [r]; simp]
  exact k
theorem own_newI (X : Stand p l e R s m args below meth c T locs cells slots) (hx : p.tables.exec = Jvm.exec) (hZ : Z.Warmed39 s.vm) (w : (Cond.arrayClass .int).before a0 Z = true) (eT : T.heap = h) {n : Int32} (hd : decode c.code pc = .ok (.newarray .int, 2)) (i : Nat) (hn : n = Int32.ofNat i) (cap : Nat) (hcap : i ≤ cap) (hb : cap * 8 ≤ 536870912) (hc : cells + 1 ≤ R.cells) (hl : slots + cap ≤ R.slots) (pc' : Nat) (hp : pc + 2 = pc')
    (k : ∀ (T' : State) (h' : Heap) (a' : Addr), a' = h.size → Stand p l e R s m args below meth c T' locs (cells + 1) (slots + cap) → T'.heap = h' → Ext h h' → own_A .int Value.int Z h' a' (List.replicate i (0 : Int32)) → own_Go p e below G (T'.setTop (mkF m pc' Ls (.ref a' :: rest)))) : own_Go p e below G (T.setTop (mkF m pc Ls (.int n :: rest))) := by
  subst hp
  have hi : i < 2147483648 := by omega
  obtain ⟨q1, q2⟩ := own_idx hn (Nat.lt_succ_self i) (n := i + 1) (by omega)
  obtain ⟨T', h', cA, X', e', E', A', st⟩ := newP X hx hZ (aty := .int) w eT (g := mkF m pc Ls (.int n :: rest)) rfl hd (n := n) (rest := rest) rfl (fun z => q1 (Or.inl z)) (cap := cap) (by rw [q2]; exact hcap) hb hc hl
  exact own_go st (k T' h' _ rfl X' e' E' (own_A.new (f := Value.int) (d := 0) rfl A' i hn hi))
theorem own_castY (X : Stand p l e R s m args below meth c T locs cells slots) (hx : p.tables.exec = Jvm.exec) (hZ : Z.Warmed39 s.vm) {own K : String} {index : Nat} (hown : s.vm.findClass own = some m.cls) (w : (Cond.classLink own index K).before a0 Z = true) (eT : T.heap = h) {a : Addr} (F : Ins Z h a K true) (hd : decode c.code pc = .ok (.checkcast index, 3)) (pc' : Nat) (hp : pc + 3 = pc')
    (k : ∀ T' : State, Stand p l e R s m args below meth c T' locs cells slots → T'.heap = h → own_Go p e below G (T'.setTop (mkF m pc' Ls (.ref a :: rest)))) : own_Go p e below G (T.setTop (mkF m pc Ls (.ref a :: rest))) := by
  subst hp
  obtain ⟨T', X', e', st⟩ := castY X hx hZ hown w eT F (g := mkF m pc Ls (.ref a :: rest)) rfl rfl hd
  exact own_go st (k T' X' e')
theorem own_niI {C : String} {n : Nat} (hZ : Z.Warmed39 s.vm) (w : (Cond.instantiable C n).before a0 Z = true) : ∃ c k, s.vm.findClass C = some c ∧ s.vm.classes[c]? = some k ∧ k.isInterface = false := by
  obtain ⟨t, kt, g1, g2, g3, g4, -⟩ := Cond.instantiable_spec (mvT hZ w (args := a0))
  exact ⟨t, kt, g1, g2, by cases hi : kt.isInterface <;> simp_all⟩
theorem own_callP {bytes : ByteArray} {maxL : Nat} {ret : Option FieldType} {rm : Room} {y : MethodName} {argsL : List Value} {Q : Option Value → Heap → List Loc → Prop} (X : Stand p l e R s m args below meth c T locs cells slots) (hx : p.tables.exec = Jvm.exec) (hZ : Z.Warmed39 s.vm) {own C : String} {index : Nat} (hown : s.vm.findClass own = some m.cls) (w1 : (Cond.methodLink own index y).before a0 Z = true) (w2 : (Cond.instanceMethod y).before a0 Z = true) (w5 : (Cond.privateMethod y).before a0 Z = true) (hni : ∃ c k, s.vm.findClass y.cls = some c ∧ s.vm.classes[c]? = some k ∧ k.isInterface = false) (w3 : (Cond.initialized y.cls).before a0 Z = true) (w4 : (Cond.code y bytes maxL ret).before a0 Z = true) (hy : y.cls ≠ "java/lang/invoke/MethodHandle" ∧ y.cls ≠ "java/lang/invoke/VarHandle") (eT : T.heap = h) {b : Addr} (E : Exa Z h b C)
    (hM : MetFree l y (head1 [Cond.code y bytes maxL ret] rm) (fun a U => a = (.ref b :: argsL).toArray ∧ Z.Warmed39 U.vm ∧ U.heap = h) (fun _ _ _ _ _ => True) (fun _ U o U' => ∃ v L, o = .returned v ∧ Q v U'.heap L ∧ FrameEnd U o U' L rm.cells rm.slots))
    (hsize : Ls.size = c.maxLocals) {ps : List FieldType} {rt : Option FieldType} (hdesc : parseMethodDescriptor y.desc = some ⟨ps, rt⟩) (hlen : argsL.length = ps.length) {st : List Value} (hst : st = argsL.reverse ++ .ref b :: rest) (hd : decode c.code pc = .ok (.invokevirtual index, 3)) (W : Nat) (hW : (rest.map fun v => v.category).sum ≤ W) (hf : rm.frames + 1 ≤ R.frames) (hl : W + (maxL + 11) + rm.locals ≤ R.locals) (hc : cells + rm.cells ≤ R.cells) (hs : slots + rm.slots ≤ R.slots) (pc' : Nat) (hp : pc + 3 = pc')
    (k : ∀ (T' : State) (L : List Loc) (v : Option Value), Stand p l e R s m args below meth c T' (locs ++ L) (cells + rm.cells) (slots + rm.slots) → Q v T'.heap L → own_Go p e below G (T'.setTop (mkF m pc' Ls (v.toList ++ rest)))) : own_Go p e below G (T.setTop (mkF m pc Ls st)) := by
  subst hp hst
  obtain ⟨cell, hcell, hobj⟩ := E.cell
  obtain ⟨cq, kq, q1, q2, q3⟩ := hni
  have hpr := Cond.privateMethod_at (mvP hZ w5 (args := #[]))
  have hi := mvT hZ w2 (args := args)
  obtain ⟨v, _, ⟨T', L', k', n'⟩, -, X', ⟨Lc, hQ, l', y', z'⟩, st⟩ := X.privateBack hx (y := y) hown (mvT hZ w1) hi (selects_self_of_private q1 q2 q3 hpr hi hy) hpr (mvT hZ w4) hy (backOf (W := W) hM hZ w4 w3 hf hl) (g := mkF m pc Ls (argsL.reverse ++ .ref b :: rest)) rfl hsize (Steps.refl _) (a := b) (by rw [eT]; exact hcell) hobj (argsL := argsL) (rest := rest) (lenOf hdesc hlen) rfl (by show 2 * 0 + _ ≤ W; rw [Nat.mul_zero, Nat.zero_add]; exact hW) hd (fun _ _ => ⟨rfl, eT, hc, hs⟩)
  dsimp only [Pt.U, Pt.locs, Pt.cells, Pt.slots] at X' l' y' z' st hQ
  subst l' y' z'
  exact own_go (fun t q => st.trans q) (k T' Lc v X' hQ)
end OwnSteps
theorem own_w {Z : State} {a0 : Array Value} (hw : ∀ d ∈ tables_1, d.before a0 Z = true) (i : Nat) {d : Cond} (h : tables_1[i]? = some d) : d.before a0 Z = true := hw d (List.mem_of_getElem? h)
abbrev oc0 : String := "com/example/libhedge/libhedge/RefinablePartition"
section OwnSn
variable {Z : State} {a0 : Array Value}
theorem sn_0 (hw : ∀ d ∈ tables_1, d.before a0 Z = true) : Jvm.RoadKit.slotOf Z oc0 "elements" "[I" ≠ Jvm.RoadKit.slotOf Z oc0 "touchedCount" "I" := slot_ne (C := oc0) (Or.inr (own_w hw 15 rfl)) (Or.inl (own_w hw 49 rfl)) (by decide) (t := (.array .int)) (t' := .int) (by decide) (by decide)
theorem sn_1 (hw : ∀ d ∈ tables_1, d.before a0 Z = true) : Jvm.RoadKit.slotOf Z oc0 "placeOf" "[I" ≠ Jvm.RoadKit.slotOf Z oc0 "touchedCount" "I" := slot_ne (C := oc0) (Or.inr (own_w hw 17 rfl)) (Or.inl (own_w hw 49 rfl)) (by decide) (t := (.array .int)) (t' := .int) (by decide) (by decide)
theorem sn_2 (hw : ∀ d ∈ tables_1, d.before a0 Z = true) : Jvm.RoadKit.slotOf Z oc0 "setOf" "[I" ≠ Jvm.RoadKit.slotOf Z oc0 "touchedCount" "I" := slot_ne (C := oc0) (Or.inr (own_w hw 19 rfl)) (Or.inl (own_w hw 49 rfl)) (by decide) (t := (.array .int)) (t' := .int) (by decide) (by decide)
theorem sn_3 (hw : ∀ d ∈ tables_1, d.before a0 Z = true) : Jvm.RoadKit.slotOf Z oc0 "first" "[I" ≠ Jvm.RoadKit.slotOf Z oc0 "touchedCount" "I" := slot_ne (C := oc0) (Or.inr (own_w hw 25 rfl)) (Or.inl (own_w hw 49 rfl)) (by decide) (t := (.array .int)) (t' := .int) (by decide) (by decide)
theorem sn_4 (hw : ∀ d ∈ tables_1, d.before a0 Z = true) : Jvm.RoadKit.slotOf Z oc0 "end" "[I" ≠ Jvm.RoadKit.slotOf Z oc0 "touchedCount" "I" := slot_ne (C := oc0) (Or.inr (own_w hw 27 rfl)) (Or.inl (own_w hw 49 rfl)) (by decide) (t := (.array .int)) (t' := .int) (by decide) (by decide)
theorem sn_5 (hw : ∀ d ∈ tables_1, d.before a0 Z = true) : Jvm.RoadKit.slotOf Z oc0 "unmarked" "[I" ≠ Jvm.RoadKit.slotOf Z oc0 "touchedCount" "I" := slot_ne (C := oc0) (Or.inr (own_w hw 29 rfl)) (Or.inl (own_w hw 49 rfl)) (by decide) (t := (.array .int)) (t' := .int) (by decide) (by decide)
theorem sn_6 (hw : ∀ d ∈ tables_1, d.before a0 Z = true) : Jvm.RoadKit.slotOf Z oc0 "touched" "[I" ≠ Jvm.RoadKit.slotOf Z oc0 "touchedCount" "I" := slot_ne (C := oc0) (Or.inr (own_w hw 31 rfl)) (Or.inl (own_w hw 49 rfl)) (by decide) (t := (.array .int)) (t' := .int) (by decide) (by decide)
theorem sn_7 (hw : ∀ d ∈ tables_1, d.before a0 Z = true) : Jvm.RoadKit.slotOf Z oc0 "setCount" "I" ≠ Jvm.RoadKit.slotOf Z oc0 "touchedCount" "I" := slot_ne (C := oc0) (Or.inl (own_w hw 33 rfl)) (Or.inl (own_w hw 49 rfl)) (by decide) (t := .int) (t' := .int) (by decide) (by decide)
theorem sn_8 (hw : ∀ d ∈ tables_1, d.before a0 Z = true) : Jvm.RoadKit.slotOf Z oc0 "elements" "[I" ≠ Jvm.RoadKit.slotOf Z oc0 "setCount" "I" := slot_ne (C := oc0) (Or.inr (own_w hw 15 rfl)) (Or.inl (own_w hw 33 rfl)) (by decide) (t := (.array .int)) (t' := .int) (by decide) (by decide)
theorem sn_9 (hw : ∀ d ∈ tables_1, d.before a0 Z = true) : Jvm.RoadKit.slotOf Z oc0 "placeOf" "[I" ≠ Jvm.RoadKit.slotOf Z oc0 "setCount" "I" := slot_ne (C := oc0) (Or.inr (own_w hw 17 rfl)) (Or.inl (own_w hw 33 rfl)) (by decide) (t := (.array .int)) (t' := .int) (by decide) (by decide)
theorem sn_10 (hw : ∀ d ∈ tables_1, d.before a0 Z = true) : Jvm.RoadKit.slotOf Z oc0 "setOf" "[I" ≠ Jvm.RoadKit.slotOf Z oc0 "setCount" "I" := slot_ne (C := oc0) (Or.inr (own_w hw 19 rfl)) (Or.inl (own_w hw 33 rfl)) (by decide) (t := (.array .int)) (t' := .int) (by decide) (by decide)
theorem sn_11 (hw : ∀ d ∈ tables_1, d.before a0 Z = true) : Jvm.RoadKit.slotOf Z oc0 "first" "[I" ≠ Jvm.RoadKit.slotOf Z oc0 "setCount" "I" := slot_ne (C := oc0) (Or.inr (own_w hw 25 rfl)) (Or.inl (own_w hw 33 rfl)) (by decide) (t := (.array .int)) (t' := .int) (by decide) (by decide)
theorem sn_12 (hw : ∀ d ∈ tables_1, d.before a0 Z = true) : Jvm.RoadKit.slotOf Z oc0 "end" "[I" ≠ Jvm.RoadKit.slotOf Z oc0 "setCount" "I" := slot_ne (C := oc0) (Or.inr (own_w hw 27 rfl)) (Or.inl (own_w hw 33 rfl)) (by decide) (t := (.array .int)) (t' := .int) (by decide) (by decide)
theorem sn_13 (hw : ∀ d ∈ tables_1, d.before a0 Z = true) : Jvm.RoadKit.slotOf Z oc0 "unmarked" "[I" ≠ Jvm.RoadKit.slotOf Z oc0 "setCount" "I" := slot_ne (C := oc0) (Or.inr (own_w hw 29 rfl)) (Or.inl (own_w hw 33 rfl)) (by decide) (t := (.array .int)) (t' := .int) (by decide) (by decide)
theorem sn_14 (hw : ∀ d ∈ tables_1, d.before a0 Z = true) : Jvm.RoadKit.slotOf Z oc0 "touched" "[I" ≠ Jvm.RoadKit.slotOf Z oc0 "setCount" "I" := slot_ne (C := oc0) (Or.inr (own_w hw 31 rfl)) (Or.inl (own_w hw 33 rfl)) (by decide) (t := (.array .int)) (t' := .int) (by decide) (by decide)
theorem sn_15 (hw : ∀ d ∈ tables_1, d.before a0 Z = true) : Jvm.RoadKit.slotOf Z oc0 "touchedCount" "I" ≠ Jvm.RoadKit.slotOf Z oc0 "setCount" "I" := slot_ne (C := oc0) (Or.inl (own_w hw 49 rfl)) (Or.inl (own_w hw 33 rfl)) (by decide) (t := .int) (t' := .int) (by decide) (by decide)
theorem sn_16 (hw : ∀ d ∈ tables_1, d.before a0 Z = true) : Jvm.RoadKit.slotOf Z oc0 "placeOf" "[I" ≠ Jvm.RoadKit.slotOf Z oc0 "elements" "[I" := slot_ne (C := oc0) (Or.inr (own_w hw 17 rfl)) (Or.inr (own_w hw 15 rfl)) (by decide) (t := (.array .int)) (t' := (.array .int)) (by decide) (by decide)
theorem sn_17 (hw : ∀ d ∈ tables_1, d.before a0 Z = true) : Jvm.RoadKit.slotOf Z oc0 "setOf" "[I" ≠ Jvm.RoadKit.slotOf Z oc0 "elements" "[I" := slot_ne (C := oc0) (Or.inr (own_w hw 19 rfl)) (Or.inr (own_w hw 15 rfl)) (by decide) (t := (.array .int)) (t' := (.array .int)) (by decide) (by decide)
theorem sn_18 (hw : ∀ d ∈ tables_1, d.before a0 Z = true) : Jvm.RoadKit.slotOf Z oc0 "first" "[I" ≠ Jvm.RoadKit.slotOf Z oc0 "elements" "[I" := slot_ne (C := oc0) (Or.inr (own_w hw 25 rfl)) (Or.inr (own_w hw 15 rfl)) (by decide) (t := (.array .int)) (t' := (.array .int)) (by decide) (by decide)
theorem sn_19 (hw : ∀ d ∈ tables_1, d.before a0 Z = true) : Jvm.RoadKit.slotOf Z oc0 "end" "[I" ≠ Jvm.RoadKit.slotOf Z oc0 "elements" "[I" := slot_ne (C := oc0) (Or.inr (own_w hw 27 rfl)) (Or.inr (own_w hw 15 rfl)) (by decide) (t := (.array .int)) (t' := (.array .int)) (by decide) (by decide)
theorem sn_20 (hw : ∀ d ∈ tables_1, d.before a0 Z = true) : Jvm.RoadKit.slotOf Z oc0 "unmarked" "[I" ≠ Jvm.RoadKit.slotOf Z oc0 "elements" "[I" := slot_ne (C := oc0) (Or.inr (own_w hw 29 rfl)) (Or.inr (own_w hw 15 rfl)) (by decide) (t := (.array .int)) (t' := (.array .int)) (by decide) (by decide)
theorem sn_21 (hw : ∀ d ∈ tables_1, d.before a0 Z = true) : Jvm.RoadKit.slotOf Z oc0 "touched" "[I" ≠ Jvm.RoadKit.slotOf Z oc0 "elements" "[I" := slot_ne (C := oc0) (Or.inr (own_w hw 31 rfl)) (Or.inr (own_w hw 15 rfl)) (by decide) (t := (.array .int)) (t' := (.array .int)) (by decide) (by decide)
theorem sn_22 (hw : ∀ d ∈ tables_1, d.before a0 Z = true) : Jvm.RoadKit.slotOf Z oc0 "setCount" "I" ≠ Jvm.RoadKit.slotOf Z oc0 "elements" "[I" := slot_ne (C := oc0) (Or.inl (own_w hw 33 rfl)) (Or.inr (own_w hw 15 rfl)) (by decide) (t := .int) (t' := (.array .int)) (by decide) (by decide)
theorem sn_23 (hw : ∀ d ∈ tables_1, d.before a0 Z = true) : Jvm.RoadKit.slotOf Z oc0 "touchedCount" "I" ≠ Jvm.RoadKit.slotOf Z oc0 "elements" "[I" := slot_ne (C := oc0) (Or.inl (own_w hw 49 rfl)) (Or.inr (own_w hw 15 rfl)) (by decide) (t := .int) (t' := (.array .int)) (by decide) (by decide)
theorem sn_24 (hw : ∀ d ∈ tables_1, d.before a0 Z = true) : Jvm.RoadKit.slotOf Z oc0 "elements" "[I" ≠ Jvm.RoadKit.slotOf Z oc0 "placeOf" "[I" := slot_ne (C := oc0) (Or.inr (own_w hw 15 rfl)) (Or.inr (own_w hw 17 rfl)) (by decide) (t := (.array .int)) (t' := (.array .int)) (by decide) (by decide)
theorem sn_25 (hw : ∀ d ∈ tables_1, d.before a0 Z = true) : Jvm.RoadKit.slotOf Z oc0 "setOf" "[I" ≠ Jvm.RoadKit.slotOf Z oc0 "placeOf" "[I" := slot_ne (C := oc0) (Or.inr (own_w hw 19 rfl)) (Or.inr (own_w hw 17 rfl)) (by decide) (t := (.array .int)) (t' := (.array .int)) (by decide) (by decide)
theorem sn_26 (hw : ∀ d ∈ tables_1, d.before a0 Z = true) : Jvm.RoadKit.slotOf Z oc0 "first" "[I" ≠ Jvm.RoadKit.slotOf Z oc0 "placeOf" "[I" := slot_ne (C := oc0) (Or.inr (own_w hw 25 rfl)) (Or.inr (own_w hw 17 rfl)) (by decide) (t := (.array .int)) (t' := (.array .int)) (by decide) (by decide)
theorem sn_27 (hw : ∀ d ∈ tables_1, d.before a0 Z = true) : Jvm.RoadKit.slotOf Z oc0 "end" "[I" ≠ Jvm.RoadKit.slotOf Z oc0 "placeOf" "[I" := slot_ne (C := oc0) (Or.inr (own_w hw 27 rfl)) (Or.inr (own_w hw 17 rfl)) (by decide) (t := (.array .int)) (t' := (.array .int)) (by decide) (by decide)
theorem sn_28 (hw : ∀ d ∈ tables_1, d.before a0 Z = true) : Jvm.RoadKit.slotOf Z oc0 "unmarked" "[I" ≠ Jvm.RoadKit.slotOf Z oc0 "placeOf" "[I" := slot_ne (C := oc0) (Or.inr (own_w hw 29 rfl)) (Or.inr (own_w hw 17 rfl)) (by decide) (t := (.array .int)) (t' := (.array .int)) (by decide) (by decide)
theorem sn_29 (hw : ∀ d ∈ tables_1, d.before a0 Z = true) : Jvm.RoadKit.slotOf Z oc0 "touched" "[I" ≠ Jvm.RoadKit.slotOf Z oc0 "placeOf" "[I" := slot_ne (C := oc0) (Or.inr (own_w hw 31 rfl)) (Or.inr (own_w hw 17 rfl)) (by decide) (t := (.array .int)) (t' := (.array .int)) (by decide) (by decide)
theorem sn_30 (hw : ∀ d ∈ tables_1, d.before a0 Z = true) : Jvm.RoadKit.slotOf Z oc0 "setCount" "I" ≠ Jvm.RoadKit.slotOf Z oc0 "placeOf" "[I" := slot_ne (C := oc0) (Or.inl (own_w hw 33 rfl)) (Or.inr (own_w hw 17 rfl)) (by decide) (t := .int) (t' := (.array .int)) (by decide) (by decide)
theorem sn_31 (hw : ∀ d ∈ tables_1, d.before a0 Z = true) : Jvm.RoadKit.slotOf Z oc0 "touchedCount" "I" ≠ Jvm.RoadKit.slotOf Z oc0 "placeOf" "[I" := slot_ne (C := oc0) (Or.inl (own_w hw 49 rfl)) (Or.inr (own_w hw 17 rfl)) (by decide) (t := .int) (t' := (.array .int)) (by decide) (by decide)
theorem sn_32 (hw : ∀ d ∈ tables_1, d.before a0 Z = true) : Jvm.RoadKit.slotOf Z oc0 "elements" "[I" ≠ Jvm.RoadKit.slotOf Z oc0 "setOf" "[I" := slot_ne (C := oc0) (Or.inr (own_w hw 15 rfl)) (Or.inr (own_w hw 19 rfl)) (by decide) (t := (.array .int)) (t' := (.array .int)) (by decide) (by decide)
theorem sn_33 (hw : ∀ d ∈ tables_1, d.before a0 Z = true) : Jvm.RoadKit.slotOf Z oc0 "placeOf" "[I" ≠ Jvm.RoadKit.slotOf Z oc0 "setOf" "[I" := slot_ne (C := oc0) (Or.inr (own_w hw 17 rfl)) (Or.inr (own_w hw 19 rfl)) (by decide) (t := (.array .int)) (t' := (.array .int)) (by decide) (by decide)
theorem sn_34 (hw : ∀ d ∈ tables_1, d.before a0 Z = true) : Jvm.RoadKit.slotOf Z oc0 "first" "[I" ≠ Jvm.RoadKit.slotOf Z oc0 "setOf" "[I" := slot_ne (C := oc0) (Or.inr (own_w hw 25 rfl)) (Or.inr (own_w hw 19 rfl)) (by decide) (t := (.array .int)) (t' := (.array .int)) (by decide) (by decide)
theorem sn_35 (hw : ∀ d ∈ tables_1, d.before a0 Z = true) : Jvm.RoadKit.slotOf Z oc0 "end" "[I" ≠ Jvm.RoadKit.slotOf Z oc0 "setOf" "[I" := slot_ne (C := oc0) (Or.inr (own_w hw 27 rfl)) (Or.inr (own_w hw 19 rfl)) (by decide) (t := (.array .int)) (t' := (.array .int)) (by decide) (by decide)
theorem sn_36 (hw : ∀ d ∈ tables_1, d.before a0 Z = true) : Jvm.RoadKit.slotOf Z oc0 "unmarked" "[I" ≠ Jvm.RoadKit.slotOf Z oc0 "setOf" "[I" := slot_ne (C := oc0) (Or.inr (own_w hw 29 rfl)) (Or.inr (own_w hw 19 rfl)) (by decide) (t := (.array .int)) (t' := (.array .int)) (by decide) (by decide)
theorem sn_37 (hw : ∀ d ∈ tables_1, d.before a0 Z = true) : Jvm.RoadKit.slotOf Z oc0 "touched" "[I" ≠ Jvm.RoadKit.slotOf Z oc0 "setOf" "[I" := slot_ne (C := oc0) (Or.inr (own_w hw 31 rfl)) (Or.inr (own_w hw 19 rfl)) (by decide) (t := (.array .int)) (t' := (.array .int)) (by decide) (by decide)
theorem sn_38 (hw : ∀ d ∈ tables_1, d.before a0 Z = true) : Jvm.RoadKit.slotOf Z oc0 "setCount" "I" ≠ Jvm.RoadKit.slotOf Z oc0 "setOf" "[I" := slot_ne (C := oc0) (Or.inl (own_w hw 33 rfl)) (Or.inr (own_w hw 19 rfl)) (by decide) (t := .int) (t' := (.array .int)) (by decide) (by decide)
theorem sn_39 (hw : ∀ d ∈ tables_1, d.before a0 Z = true) : Jvm.RoadKit.slotOf Z oc0 "touchedCount" "I" ≠ Jvm.RoadKit.slotOf Z oc0 "setOf" "[I" := slot_ne (C := oc0) (Or.inl (own_w hw 49 rfl)) (Or.inr (own_w hw 19 rfl)) (by decide) (t := .int) (t' := (.array .int)) (by decide) (by decide)
theorem sn_40 (hw : ∀ d ∈ tables_1, d.before a0 Z = true) : Jvm.RoadKit.slotOf Z oc0 "elements" "[I" ≠ Jvm.RoadKit.slotOf Z oc0 "first" "[I" := slot_ne (C := oc0) (Or.inr (own_w hw 15 rfl)) (Or.inr (own_w hw 25 rfl)) (by decide) (t := (.array .int)) (t' := (.array .int)) (by decide) (by decide)
theorem sn_41 (hw : ∀ d ∈ tables_1, d.before a0 Z = true) : Jvm.RoadKit.slotOf Z oc0 "placeOf" "[I" ≠ Jvm.RoadKit.slotOf Z oc0 "first" "[I" := slot_ne (C := oc0) (Or.inr (own_w hw 17 rfl)) (Or.inr (own_w hw 25 rfl)) (by decide) (t := (.array .int)) (t' := (.array .int)) (by decide) (by decide)
theorem sn_42 (hw : ∀ d ∈ tables_1, d.before a0 Z = true) : Jvm.RoadKit.slotOf Z oc0 "setOf" "[I" ≠ Jvm.RoadKit.slotOf Z oc0 "first" "[I" := slot_ne (C := oc0) (Or.inr (own_w hw 19 rfl)) (Or.inr (own_w hw 25 rfl)) (by decide) (t := (.array .int)) (t' := (.array .int)) (by decide) (by decide)
theorem sn_43 (hw : ∀ d ∈ tables_1, d.before a0 Z = true) : Jvm.RoadKit.slotOf Z oc0 "end" "[I" ≠ Jvm.RoadKit.slotOf Z oc0 "first" "[I" := slot_ne (C := oc0) (Or.inr (own_w hw 27 rfl)) (Or.inr (own_w hw 25 rfl)) (by decide) (t := (.array .int)) (t' := (.array .int)) (by decide) (by decide)
theorem sn_44 (hw : ∀ d ∈ tables_1, d.before a0 Z = true) : Jvm.RoadKit.slotOf Z oc0 "unmarked" "[I" ≠ Jvm.RoadKit.slotOf Z oc0 "first" "[I" := slot_ne (C := oc0) (Or.inr (own_w hw 29 rfl)) (Or.inr (own_w hw 25 rfl)) (by decide) (t := (.array .int)) (t' := (.array .int)) (by decide) (by decide)
theorem sn_45 (hw : ∀ d ∈ tables_1, d.before a0 Z = true) : Jvm.RoadKit.slotOf Z oc0 "touched" "[I" ≠ Jvm.RoadKit.slotOf Z oc0 "first" "[I" := slot_ne (C := oc0) (Or.inr (own_w hw 31 rfl)) (Or.inr (own_w hw 25 rfl)) (by decide) (t := (.array .int)) (t' := (.array .int)) (by decide) (by decide)
theorem sn_46 (hw : ∀ d ∈ tables_1, d.before a0 Z = true) : Jvm.RoadKit.slotOf Z oc0 "setCount" "I" ≠ Jvm.RoadKit.slotOf Z oc0 "first" "[I" := slot_ne (C := oc0) (Or.inl (own_w hw 33 rfl)) (Or.inr (own_w hw 25 rfl)) (by decide) (t := .int) (t' := (.array .int)) (by decide) (by decide)
theorem sn_47 (hw : ∀ d ∈ tables_1, d.before a0 Z = true) : Jvm.RoadKit.slotOf Z oc0 "touchedCount" "I" ≠ Jvm.RoadKit.slotOf Z oc0 "first" "[I" := slot_ne (C := oc0) (Or.inl (own_w hw 49 rfl)) (Or.inr (own_w hw 25 rfl)) (by decide) (t := .int) (t' := (.array .int)) (by decide) (by decide)
theorem sn_48 (hw : ∀ d ∈ tables_1, d.before a0 Z = true) : Jvm.RoadKit.slotOf Z oc0 "elements" "[I" ≠ Jvm.RoadKit.slotOf Z oc0 "end" "[I" := slot_ne (C := oc0) (Or.inr (own_w hw 15 rfl)) (Or.inr (own_w hw 27 rfl)) (by decide) (t := (.array .int)) (t' := (.array .int)) (by decide) (by decide)
theorem sn_49 (hw : ∀ d ∈ tables_1, d.before a0 Z = true) : Jvm.RoadKit.slotOf Z oc0 "placeOf" "[I" ≠ Jvm.RoadKit.slotOf Z oc0 "end" "[I" := slot_ne (C := oc0) (Or.inr (own_w hw 17 rfl)) (Or.inr (own_w hw 27 rfl)) (by decide) (t := (.array .int)) (t' := (.array .int)) (by decide) (by decide)
theorem sn_50 (hw : ∀ d ∈ tables_1, d.before a0 Z = true) : Jvm.RoadKit.slotOf Z oc0 "setOf" "[I" ≠ Jvm.RoadKit.slotOf Z oc0 "end" "[I" := slot_ne (C := oc0) (Or.inr (own_w hw 19 rfl)) (Or.inr (own_w hw 27 rfl)) (by decide) (t := (.array .int)) (t' := (.array .int)) (by decide) (by decide)
theorem sn_51 (hw : ∀ d ∈ tables_1, d.before a0 Z = true) : Jvm.RoadKit.slotOf Z oc0 "first" "[I" ≠ Jvm.RoadKit.slotOf Z oc0 "end" "[I" := slot_ne (C := oc0) (Or.inr (own_w hw 25 rfl)) (Or.inr (own_w hw 27 rfl)) (by decide) (t := (.array .int)) (t' := (.array .int)) (by decide) (by decide)
theorem sn_52 (hw : ∀ d ∈ tables_1, d.before a0 Z = true) : Jvm.RoadKit.slotOf Z oc0 "unmarked" "[I" ≠ Jvm.RoadKit.slotOf Z oc0 "end" "[I" := slot_ne (C := oc0) (Or.inr (own_w hw 29 rfl)) (Or.inr (own_w hw 27 rfl)) (by decide) (t := (.array .int)) (t' := (.array .int)) (by decide) (by decide)
theorem sn_53 (hw : ∀ d ∈ tables_1, d.before a0 Z = true) : Jvm.RoadKit.slotOf Z oc0 "touched" "[I" ≠ Jvm.RoadKit.slotOf Z oc0 "end" "[I" := slot_ne (C := oc0) (Or.inr (own_w hw 31 rfl)) (Or.inr (own_w hw 27 rfl)) (by decide) (t := (.array .int)) (t' := (.array .int)) (by decide) (by decide)
theorem sn_54 (hw : ∀ d ∈ tables_1, d.before a0 Z = true) : Jvm.RoadKit.slotOf Z oc0 "setCount" "I" ≠ Jvm.RoadKit.slotOf Z oc0 "end" "[I" := slot_ne (C := oc0) (Or.inl (own_w hw 33 rfl)) (Or.inr (own_w hw 27 rfl)) (by decide) (t := .int) (t' := (.array .int)) (by decide) (by decide)
theorem sn_55 (hw : ∀ d ∈ tables_1, d.before a0 Z = true) : Jvm.RoadKit.slotOf Z oc0 "touchedCount" "I" ≠ Jvm.RoadKit.slotOf Z oc0 "end" "[I" := slot_ne (C := oc0) (Or.inl (own_w hw 49 rfl)) (Or.inr (own_w hw 27 rfl)) (by decide) (t := .int) (t' := (.array .int)) (by decide) (by decide)
theorem sn_56 (hw : ∀ d ∈ tables_1, d.before a0 Z = true) : Jvm.RoadKit.slotOf Z oc0 "elements" "[I" ≠ Jvm.RoadKit.slotOf Z oc0 "unmarked" "[I" := slot_ne (C := oc0) (Or.inr (own_w hw 15 rfl)) (Or.inr (own_w hw 29 rfl)) (by decide) (t := (.array .int)) (t' := (.array .int)) (by decide) (by decide)
theorem sn_57 (hw : ∀ d ∈ tables_1, d.before a0 Z = true) : Jvm.RoadKit.slotOf Z oc0 "placeOf" "[I" ≠ Jvm.RoadKit.slotOf Z oc0 "unmarked" "[I" := slot_ne (C := oc0) (Or.inr (own_w hw 17 rfl)) (Or.inr (own_w hw 29 rfl)) (by decide) (t := (.array .int)) (t' := (.array .int)) (by decide) (by decide)
theorem sn_58 (hw : ∀ d ∈ tables_1, d.before a0 Z = true) : Jvm.RoadKit.slotOf Z oc0 "setOf" "[I" ≠ Jvm.RoadKit.slotOf Z oc0 "unmarked" "[I" := slot_ne (C := oc0) (Or.inr (own_w hw 19 rfl)) (Or.inr (own_w hw 29 rfl)) (by decide) (t := (.array .int)) (t' := (.array .int)) (by decide) (by decide)
theorem sn_59 (hw : ∀ d ∈ tables_1, d.before a0 Z = true) : Jvm.RoadKit.slotOf Z oc0 "first" "[I" ≠ Jvm.RoadKit.slotOf Z oc0 "unmarked" "[I" := slot_ne (C := oc0) (Or.inr (own_w hw 25 rfl)) (Or.inr (own_w hw 29 rfl)) (by decide) (t := (.array .int)) (t' := (.array .int)) (by decide) (by decide)
theorem sn_60 (hw : ∀ d ∈ tables_1, d.before a0 Z = true) : Jvm.RoadKit.slotOf Z oc0 "end" "[I" ≠ Jvm.RoadKit.slotOf Z oc0 "unmarked" "[I" := slot_ne (C := oc0) (Or.inr (own_w hw 27 rfl)) (Or.inr (own_w hw 29 rfl)) (by decide) (t := (.array .int)) (t' := (.array .int)) (by decide) (by decide)
theorem sn_61 (hw : ∀ d ∈ tables_1, d.before a0 Z = true) : Jvm.RoadKit.slotOf Z oc0 "touched" "[I" ≠ Jvm.RoadKit.slotOf Z oc0 "unmarked" "[I" := slot_ne (C := oc0) (Or.inr (own_w hw 31 rfl)) (Or.inr (own_w hw 29 rfl)) (by decide) (t := (.array .int)) (t' := (.array .int)) (by decide) (by decide)
theorem sn_62 (hw : ∀ d ∈ tables_1, d.before a0 Z = true) : Jvm.RoadKit.slotOf Z oc0 "setCount" "I" ≠ Jvm.RoadKit.slotOf Z oc0 "unmarked" "[I" := slot_ne (C := oc0) (Or.inl (own_w hw 33 rfl)) (Or.inr (own_w hw 29 rfl)) (by decide) (t := .int) (t' := (.array .int)) (by decide) (by decide)
theorem sn_63 (hw : ∀ d ∈ tables_1, d.before a0 Z = true) : Jvm.RoadKit.slotOf Z oc0 "touchedCount" "I" ≠ Jvm.RoadKit.slotOf Z oc0 "unmarked" "[I" := slot_ne (C := oc0) (Or.inl (own_w hw 49 rfl)) (Or.inr (own_w hw 29 rfl)) (by decide) (t := .int) (t' := (.array .int)) (by decide) (by decide)
theorem sn_64 (hw : ∀ d ∈ tables_1, d.before a0 Z = true) : Jvm.RoadKit.slotOf Z oc0 "elements" "[I" ≠ Jvm.RoadKit.slotOf Z oc0 "touched" "[I" := slot_ne (C := oc0) (Or.inr (own_w hw 15 rfl)) (Or.inr (own_w hw 31 rfl)) (by decide) (t := (.array .int)) (t' := (.array .int)) (by decide) (by decide)
theorem sn_65 (hw : ∀ d ∈ tables_1, d.before a0 Z = true) : Jvm.RoadKit.slotOf Z oc0 "placeOf" "[I" ≠ Jvm.RoadKit.slotOf Z oc0 "touched" "[I" := slot_ne (C := oc0) (Or.inr (own_w hw 17 rfl)) (Or.inr (own_w hw 31 rfl)) (by decide) (t := (.array .int)) (t' := (.array .int)) (by decide) (by decide)
theorem sn_66 (hw : ∀ d ∈ tables_1, d.before a0 Z = true) : Jvm.RoadKit.slotOf Z oc0 "setOf" "[I" ≠ Jvm.RoadKit.slotOf Z oc0 "touched" "[I" := slot_ne (C := oc0) (Or.inr (own_w hw 19 rfl)) (Or.inr (own_w hw 31 rfl)) (by decide) (t := (.array .int)) (t' := (.array .int)) (by decide) (by decide)
theorem sn_67 (hw : ∀ d ∈ tables_1, d.before a0 Z = true) : Jvm.RoadKit.slotOf Z oc0 "first" "[I" ≠ Jvm.RoadKit.slotOf Z oc0 "touched" "[I" := slot_ne (C := oc0) (Or.inr (own_w hw 25 rfl)) (Or.inr (own_w hw 31 rfl)) (by decide) (t := (.array .int)) (t' := (.array .int)) (by decide) (by decide)
theorem sn_68 (hw : ∀ d ∈ tables_1, d.before a0 Z = true) : Jvm.RoadKit.slotOf Z oc0 "end" "[I" ≠ Jvm.RoadKit.slotOf Z oc0 "touched" "[I" := slot_ne (C := oc0) (Or.inr (own_w hw 27 rfl)) (Or.inr (own_w hw 31 rfl)) (by decide) (t := (.array .int)) (t' := (.array .int)) (by decide) (by decide)
theorem sn_69 (hw : ∀ d ∈ tables_1, d.before a0 Z = true) : Jvm.RoadKit.slotOf Z oc0 "unmarked" "[I" ≠ Jvm.RoadKit.slotOf Z oc0 "touched" "[I" := slot_ne (C := oc0) (Or.inr (own_w hw 29 rfl)) (Or.inr (own_w hw 31 rfl)) (by decide) (t := (.array .int)) (t' := (.array .int)) (by decide) (by decide)
theorem sn_70 (hw : ∀ d ∈ tables_1, d.before a0 Z = true) : Jvm.RoadKit.slotOf Z oc0 "setCount" "I" ≠ Jvm.RoadKit.slotOf Z oc0 "touched" "[I" := slot_ne (C := oc0) (Or.inl (own_w hw 33 rfl)) (Or.inr (own_w hw 31 rfl)) (by decide) (t := .int) (t' := (.array .int)) (by decide) (by decide)
theorem sn_71 (hw : ∀ d ∈ tables_1, d.before a0 Z = true) : Jvm.RoadKit.slotOf Z oc0 "touchedCount" "I" ≠ Jvm.RoadKit.slotOf Z oc0 "touched" "[I" := slot_ne (C := oc0) (Or.inl (own_w hw 49 rfl)) (Or.inr (own_w hw 31 rfl)) (by decide) (t := .int) (t' := (.array .int)) (by decide) (by decide)
end OwnSn
theorem own_isl {args : Array Value} {first s : State} {o : Option Outcome} {idx : List Nat} {t : Term} (h : (Cond.isLong t).value args first o s idx = some true) : ∃ x, t.eval args first o idx s = some (.long x) := isL_v h
theorem d1_0 : decode method_2_code 0 = .ok (.iload_n 0, 1) := by decide +kernel
theorem d1_1 : decode method_2_code 1 = .ok (.iload_n 1, 1) := by decide +kernel
theorem d1_2 : decode method_2_code 2 = .ok (.iushr, 1) := by decide +kernel
theorem d1_3 : decode method_2_code 3 = .ok (.iconst 1, 1) := by decide +kernel
theorem d1_4 : decode method_2_code 4 = .ok (.iand, 1) := by decide +kernel
theorem d1_5 : decode method_2_code 5 = .ok (.ireturn, 1) := by decide +kernel
theorem d2_0 : decode prog_71_method_1_code 0 = .ok (.aload_n 0, 1) := by decide +kernel
theorem d2_1 : decode prog_71_method_1_code 1 = .ok (.invokespecial 1, 3) := by decide +kernel
theorem d2_4 : decode prog_71_method_1_code 4 = .ok (.aload_n 1, 1) := by decide +kernel
theorem d2_5 : decode prog_71_method_1_code 5 = .ok (.arraylength, 1) := by decide +kernel
theorem d2_6 : decode prog_71_method_1_code 6 = .ok (.istore_n 3, 1) := by decide +kernel
theorem d2_7 : decode prog_71_method_1_code 7 = .ok (.aload_n 0, 1) := by decide +kernel
theorem d2_8 : decode prog_71_method_1_code 8 = .ok (.iload_n 3, 1) := by decide +kernel
theorem d2_9 : decode prog_71_method_1_code 9 = .ok (.newarray .int, 2) := by decide +kernel
theorem d2_11 : decode prog_71_method_1_code 11 = .ok (.putfield 7, 3) := by decide +kernel
theorem d2_14 : decode prog_71_method_1_code 14 = .ok (.aload_n 0, 1) := by decide +kernel
theorem d2_15 : decode prog_71_method_1_code 15 = .ok (.iload_n 3, 1) := by decide +kernel
theorem d2_16 : decode prog_71_method_1_code 16 = .ok (.newarray .int, 2) := by decide +kernel
theorem d2_18 : decode prog_71_method_1_code 18 = .ok (.putfield 13, 3) := by decide +kernel
theorem d2_21 : decode prog_71_method_1_code 21 = .ok (.aload_n 0, 1) := by decide +kernel
theorem d2_22 : decode prog_71_method_1_code 22 = .ok (.iload_n 3, 1) := by decide +kernel
theorem d2_23 : decode prog_71_method_1_code 23 = .ok (.newarray .int, 2) := by decide +kernel
theorem d2_25 : decode prog_71_method_1_code 25 = .ok (.putfield 16, 3) := by decide +kernel
theorem d2_28 : decode prog_71_method_1_code 28 = .ok (.aload_n 0, 1) := by decide +kernel
theorem d2_29 : decode prog_71_method_1_code 29 = .ok (.iload_n 3, 1) := by decide +kernel
theorem d2_30 : decode prog_71_method_1_code 30 = .ok (.iconst 1, 1) := by decide +kernel
theorem d2_31 : decode prog_71_method_1_code 31 = .ok (.invokestatic 19, 3) := by decide +kernel
theorem d2_34 : decode prog_71_method_1_code 34 = .ok (.newarray .int, 2) := by decide +kernel
theorem d2_36 : decode prog_71_method_1_code 36 = .ok (.putfield 25, 3) := by decide +kernel
theorem d2_39 : decode prog_71_method_1_code 39 = .ok (.aload_n 0, 1) := by decide +kernel
theorem d2_40 : decode prog_71_method_1_code 40 = .ok (.aload_n 0, 1) := by decide +kernel
theorem d2_41 : decode prog_71_method_1_code 41 = .ok (.getfield 25, 3) := by decide +kernel
theorem d2_44 : decode prog_71_method_1_code 44 = .ok (.arraylength, 1) := by decide +kernel
theorem d2_45 : decode prog_71_method_1_code 45 = .ok (.newarray .int, 2) := by decide +kernel
theorem d2_47 : decode prog_71_method_1_code 47 = .ok (.putfield 28, 3) := by decide +kernel
theorem d2_50 : decode prog_71_method_1_code 50 = .ok (.aload_n 0, 1) := by decide +kernel
theorem d2_51 : decode prog_71_method_1_code 51 = .ok (.aload_n 0, 1) := by decide +kernel
theorem d2_52 : decode prog_71_method_1_code 52 = .ok (.getfield 25, 3) := by decide +kernel
theorem d2_55 : decode prog_71_method_1_code 55 = .ok (.arraylength, 1) := by decide +kernel
theorem d2_56 : decode prog_71_method_1_code 56 = .ok (.newarray .int, 2) := by decide +kernel
theorem d2_58 : decode prog_71_method_1_code 58 = .ok (.putfield 31, 3) := by decide +kernel
theorem d2_61 : decode prog_71_method_1_code 61 = .ok (.aload_n 0, 1) := by decide +kernel
theorem d2_62 : decode prog_71_method_1_code 62 = .ok (.aload_n 0, 1) := by decide +kernel
theorem d2_63 : decode prog_71_method_1_code 63 = .ok (.getfield 25, 3) := by decide +kernel
theorem d2_66 : decode prog_71_method_1_code 66 = .ok (.arraylength, 1) := by decide +kernel
theorem d2_67 : decode prog_71_method_1_code 67 = .ok (.newarray .int, 2) := by decide +kernel
theorem d2_69 : decode prog_71_method_1_code 69 = .ok (.putfield 34, 3) := by decide +kernel
theorem d2_72 : decode prog_71_method_1_code 72 = .ok (.iload_n 2, 1) := by decide +kernel
theorem d2_73 : decode prog_71_method_1_code 73 = .ok (.iconst 1, 1) := by decide +kernel
theorem d2_74 : decode prog_71_method_1_code 74 = .ok (.iadd, 1) := by decide +kernel
theorem d2_75 : decode prog_71_method_1_code 75 = .ok (.newarray .int, 2) := by decide +kernel
theorem d2_77 : decode prog_71_method_1_code 77 = .ok (.astore 4, 2) := by decide +kernel
theorem d2_79 : decode prog_71_method_1_code 79 = .ok (.aload_n 1, 1) := by decide +kernel
theorem d2_80 : decode prog_71_method_1_code 80 = .ok (.astore 5, 2) := by decide +kernel
theorem d2_82 : decode prog_71_method_1_code 82 = .ok (.aload 5, 2) := by decide +kernel
theorem d2_84 : decode prog_71_method_1_code 84 = .ok (.arraylength, 1) := by decide +kernel
theorem d2_85 : decode prog_71_method_1_code 85 = .ok (.istore 6, 2) := by decide +kernel
theorem d2_87 : decode prog_71_method_1_code 87 = .ok (.iconst 0, 1) := by decide +kernel
theorem d2_88 : decode prog_71_method_1_code 88 = .ok (.istore 7, 2) := by decide +kernel
theorem d2_90 : decode prog_71_method_1_code 90 = .ok (.iload 7, 2) := by decide +kernel
theorem d2_92 : decode prog_71_method_1_code 92 = .ok (.iload 6, 2) := by decide +kernel
theorem d2_94 : decode prog_71_method_1_code 94 = .ok (.if_icmp .ge 27, 3) := by decide +kernel
theorem d2_97 : decode prog_71_method_1_code 97 = .ok (.aload 5, 2) := by decide +kernel
theorem d2_99 : decode prog_71_method_1_code 99 = .ok (.iload 7, 2) := by decide +kernel
theorem d2_101 : decode prog_71_method_1_code 101 = .ok (.iaload, 1) := by decide +kernel
theorem d2_102 : decode prog_71_method_1_code 102 = .ok (.istore 8, 2) := by decide +kernel
theorem d2_104 : decode prog_71_method_1_code 104 = .ok (.aload 4, 2) := by decide +kernel
theorem d2_106 : decode prog_71_method_1_code 106 = .ok (.iload 8, 2) := by decide +kernel
theorem d2_108 : decode prog_71_method_1_code 108 = .ok (.iconst 1, 1) := by decide +kernel
theorem d2_109 : decode prog_71_method_1_code 109 = .ok (.iadd, 1) := by decide +kernel
theorem d2_110 : decode prog_71_method_1_code 110 = .ok (.dup2, 1) := by decide +kernel
theorem d2_111 : decode prog_71_method_1_code 111 = .ok (.iaload, 1) := by decide +kernel
theorem d2_112 : decode prog_71_method_1_code 112 = .ok (.iconst 1, 1) := by decide +kernel
theorem d2_113 : decode prog_71_method_1_code 113 = .ok (.iadd, 1) := by decide +kernel
theorem d2_114 : decode prog_71_method_1_code 114 = .ok (.iastore, 1) := by decide +kernel
theorem d2_115 : decode prog_71_method_1_code 115 = .ok (.iinc 7 1, 3) := by decide +kernel
theorem d2_118 : decode prog_71_method_1_code 118 = .ok (.goto (-28), 3) := by decide +kernel
theorem d2_121 : decode prog_71_method_1_code 121 = .ok (.iconst 0, 1) := by decide +kernel
theorem d2_122 : decode prog_71_method_1_code 122 = .ok (.istore 5, 2) := by decide +kernel
theorem d2_124 : decode prog_71_method_1_code 124 = .ok (.iload 5, 2) := by decide +kernel
theorem d2_126 : decode prog_71_method_1_code 126 = .ok (.iload_n 2, 1) := by decide +kernel
theorem d2_127 : decode prog_71_method_1_code 127 = .ok (.if_icmp .ge 24, 3) := by decide +kernel
theorem d2_130 : decode prog_71_method_1_code 130 = .ok (.aload 4, 2) := by decide +kernel
theorem d2_132 : decode prog_71_method_1_code 132 = .ok (.iload 5, 2) := by decide +kernel
theorem d2_134 : decode prog_71_method_1_code 134 = .ok (.iconst 1, 1) := by decide +kernel
theorem d2_135 : decode prog_71_method_1_code 135 = .ok (.iadd, 1) := by decide +kernel
theorem d2_136 : decode prog_71_method_1_code 136 = .ok (.dup2, 1) := by decide +kernel
theorem d2_137 : decode prog_71_method_1_code 137 = .ok (.iaload, 1) := by decide +kernel
theorem d2_138 : decode prog_71_method_1_code 138 = .ok (.aload 4, 2) := by decide +kernel
theorem d2_140 : decode prog_71_method_1_code 140 = .ok (.iload 5, 2) := by decide +kernel
theorem d2_142 : decode prog_71_method_1_code 142 = .ok (.iaload, 1) := by decide +kernel
theorem d2_143 : decode prog_71_method_1_code 143 = .ok (.iadd, 1) := by decide +kernel
theorem d2_144 : decode prog_71_method_1_code 144 = .ok (.iastore, 1) := by decide +kernel
theorem d2_145 : decode prog_71_method_1_code 145 = .ok (.iinc 5 1, 3) := by decide +kernel
theorem d2_148 : decode prog_71_method_1_code 148 = .ok (.goto (-24), 3) := by decide +kernel
theorem d2_151 : decode prog_71_method_1_code 151 = .ok (.iload_n 2, 1) := by decide +kernel
theorem d2_152 : decode prog_71_method_1_code 152 = .ok (.newarray .int, 2) := by decide +kernel
theorem d2_154 : decode prog_71_method_1_code 154 = .ok (.astore 5, 2) := by decide +kernel
theorem d2_156 : decode prog_71_method_1_code 156 = .ok (.iconst 0, 1) := by decide +kernel
theorem d2_157 : decode prog_71_method_1_code 157 = .ok (.istore 6, 2) := by decide +kernel
theorem d2_159 : decode prog_71_method_1_code 159 = .ok (.iload 6, 2) := by decide +kernel
theorem d2_161 : decode prog_71_method_1_code 161 = .ok (.iload_n 2, 1) := by decide +kernel
theorem d2_162 : decode prog_71_method_1_code 162 = .ok (.if_icmp .ge 87, 3) := by decide +kernel
theorem d2_165 : decode prog_71_method_1_code 165 = .ok (.aload 4, 2) := by decide +kernel
theorem d2_167 : decode prog_71_method_1_code 167 = .ok (.iload 6, 2) := by decide +kernel
theorem d2_169 : decode prog_71_method_1_code 169 = .ok (.iaload, 1) := by decide +kernel
theorem d2_170 : decode prog_71_method_1_code 170 = .ok (.aload 4, 2) := by decide +kernel
theorem d2_172 : decode prog_71_method_1_code 172 = .ok (.iload 6, 2) := by decide +kernel
theorem d2_174 : decode prog_71_method_1_code 174 = .ok (.iconst 1, 1) := by decide +kernel
theorem d2_175 : decode prog_71_method_1_code 175 = .ok (.iadd, 1) := by decide +kernel
theorem d2_176 : decode prog_71_method_1_code 176 = .ok (.iaload, 1) := by decide +kernel
theorem d2_177 : decode prog_71_method_1_code 177 = .ok (.if_icmp .ge 66, 3) := by decide +kernel
theorem d2_180 : decode prog_71_method_1_code 180 = .ok (.aload 5, 2) := by decide +kernel
theorem d2_182 : decode prog_71_method_1_code 182 = .ok (.iload 6, 2) := by decide +kernel
theorem d2_184 : decode prog_71_method_1_code 184 = .ok (.aload_n 0, 1) := by decide +kernel
theorem d2_185 : decode prog_71_method_1_code 185 = .ok (.getfield 37, 3) := by decide +kernel
theorem d2_188 : decode prog_71_method_1_code 188 = .ok (.iastore, 1) := by decide +kernel
theorem d2_189 : decode prog_71_method_1_code 189 = .ok (.aload_n 0, 1) := by decide +kernel
theorem d2_190 : decode prog_71_method_1_code 190 = .ok (.getfield 25, 3) := by decide +kernel
theorem d2_193 : decode prog_71_method_1_code 193 = .ok (.aload_n 0, 1) := by decide +kernel
theorem d2_194 : decode prog_71_method_1_code 194 = .ok (.getfield 37, 3) := by decide +kernel
theorem d2_197 : decode prog_71_method_1_code 197 = .ok (.aload 4, 2) := by decide +kernel
theorem d2_199 : decode prog_71_method_1_code 199 = .ok (.iload 6, 2) := by decide +kernel
theorem d2_201 : decode prog_71_method_1_code 201 = .ok (.iaload, 1) := by decide +kernel
theorem d2_202 : decode prog_71_method_1_code 202 = .ok (.iastore, 1) := by decide +kernel
theorem d2_203 : decode prog_71_method_1_code 203 = .ok (.aload_n 0, 1) := by decide +kernel
theorem d2_204 : decode prog_71_method_1_code 204 = .ok (.getfield 28, 3) := by decide +kernel
theorem d2_207 : decode prog_71_method_1_code 207 = .ok (.aload_n 0, 1) := by decide +kernel
theorem d2_208 : decode prog_71_method_1_code 208 = .ok (.getfield 37, 3) := by decide +kernel
theorem d2_211 : decode prog_71_method_1_code 211 = .ok (.aload 4, 2) := by decide +kernel
theorem d2_213 : decode prog_71_method_1_code 213 = .ok (.iload 6, 2) := by decide +kernel
theorem d2_215 : decode prog_71_method_1_code 215 = .ok (.iconst 1, 1) := by decide +kernel
theorem d2_216 : decode prog_71_method_1_code 216 = .ok (.iadd, 1) := by decide +kernel
theorem d2_217 : decode prog_71_method_1_code 217 = .ok (.iaload, 1) := by decide +kernel
theorem d2_218 : decode prog_71_method_1_code 218 = .ok (.iastore, 1) := by decide +kernel
theorem d2_219 : decode prog_71_method_1_code 219 = .ok (.aload_n 0, 1) := by decide +kernel
theorem d2_220 : decode prog_71_method_1_code 220 = .ok (.getfield 31, 3) := by decide +kernel
theorem d2_223 : decode prog_71_method_1_code 223 = .ok (.aload_n 0, 1) := by decide +kernel
theorem d2_224 : decode prog_71_method_1_code 224 = .ok (.getfield 37, 3) := by decide +kernel
theorem d2_227 : decode prog_71_method_1_code 227 = .ok (.aload 4, 2) := by decide +kernel
theorem d2_229 : decode prog_71_method_1_code 229 = .ok (.iload 6, 2) := by decide +kernel
theorem d2_231 : decode prog_71_method_1_code 231 = .ok (.iaload, 1) := by decide +kernel
theorem d2_232 : decode prog_71_method_1_code 232 = .ok (.iastore, 1) := by decide +kernel
theorem d2_233 : decode prog_71_method_1_code 233 = .ok (.aload_n 0, 1) := by decide +kernel
theorem d2_234 : decode prog_71_method_1_code 234 = .ok (.dup, 1) := by decide +kernel
theorem d2_235 : decode prog_71_method_1_code 235 = .ok (.getfield 37, 3) := by decide +kernel
theorem d2_238 : decode prog_71_method_1_code 238 = .ok (.iconst 1, 1) := by decide +kernel
theorem d2_239 : decode prog_71_method_1_code 239 = .ok (.iadd, 1) := by decide +kernel
theorem d2_240 : decode prog_71_method_1_code 240 = .ok (.putfield 37, 3) := by decide +kernel
theorem d2_243 : decode prog_71_method_1_code 243 = .ok (.iinc 6 1, 3) := by decide +kernel
theorem d2_246 : decode prog_71_method_1_code 246 = .ok (.goto (-87), 3) := by decide +kernel
theorem d2_249 : decode prog_71_method_1_code 249 = .ok (.aload 4, 2) := by decide +kernel
theorem d2_251 : decode prog_71_method_1_code 251 = .ok (.invokevirtual 41, 3) := by decide +kernel
theorem d2_254 : decode prog_71_method_1_code 254 = .ok (.checkcast 42, 3) := by decide +kernel
theorem d2_257 : decode prog_71_method_1_code 257 = .ok (.astore 6, 2) := by decide +kernel
theorem d2_259 : decode prog_71_method_1_code 259 = .ok (.iconst 0, 1) := by decide +kernel
theorem d2_260 : decode prog_71_method_1_code 260 = .ok (.istore 7, 2) := by decide +kernel
theorem d2_262 : decode prog_71_method_1_code 262 = .ok (.iload 7, 2) := by decide +kernel
theorem d2_264 : decode prog_71_method_1_code 264 = .ok (.iload_n 3, 1) := by decide +kernel
theorem d2_265 : decode prog_71_method_1_code 265 = .ok (.if_icmp .ge 55, 3) := by decide +kernel
theorem d2_268 : decode prog_71_method_1_code 268 = .ok (.aload 6, 2) := by decide +kernel
theorem d2_270 : decode prog_71_method_1_code 270 = .ok (.aload_n 1, 1) := by decide +kernel
theorem d2_271 : decode prog_71_method_1_code 271 = .ok (.iload 7, 2) := by decide +kernel
theorem d2_273 : decode prog_71_method_1_code 273 = .ok (.iaload, 1) := by decide +kernel
theorem d2_274 : decode prog_71_method_1_code 274 = .ok (.dup2, 1) := by decide +kernel
theorem d2_275 : decode prog_71_method_1_code 275 = .ok (.iaload, 1) := by decide +kernel
theorem d2_276 : decode prog_71_method_1_code 276 = .ok (.dup_x2, 1) := by decide +kernel
theorem d2_277 : decode prog_71_method_1_code 277 = .ok (.iconst 1, 1) := by decide +kernel
theorem d2_278 : decode prog_71_method_1_code 278 = .ok (.iadd, 1) := by decide +kernel
theorem d2_279 : decode prog_71_method_1_code 279 = .ok (.iastore, 1) := by decide +kernel
theorem d2_280 : decode prog_71_method_1_code 280 = .ok (.istore 8, 2) := by decide +kernel
theorem d2_282 : decode prog_71_method_1_code 282 = .ok (.aload_n 0, 1) := by decide +kernel
theorem d2_283 : decode prog_71_method_1_code 283 = .ok (.getfield 7, 3) := by decide +kernel
theorem d2_286 : decode prog_71_method_1_code 286 = .ok (.iload 8, 2) := by decide +kernel
theorem d2_288 : decode prog_71_method_1_code 288 = .ok (.iload 7, 2) := by decide +kernel
theorem d2_290 : decode prog_71_method_1_code 290 = .ok (.iastore, 1) := by decide +kernel
theorem d2_291 : decode prog_71_method_1_code 291 = .ok (.aload_n 0, 1) := by decide +kernel
theorem d2_292 : decode prog_71_method_1_code 292 = .ok (.getfield 13, 3) := by decide +kernel
theorem d2_295 : decode prog_71_method_1_code 295 = .ok (.iload 7, 2) := by decide +kernel
theorem d2_297 : decode prog_71_method_1_code 297 = .ok (.iload 8, 2) := by decide +kernel
theorem d2_299 : decode prog_71_method_1_code 299 = .ok (.iastore, 1) := by decide +kernel
theorem d2_300 : decode prog_71_method_1_code 300 = .ok (.aload_n 0, 1) := by decide +kernel
theorem d2_301 : decode prog_71_method_1_code 301 = .ok (.getfield 16, 3) := by decide +kernel
theorem d2_304 : decode prog_71_method_1_code 304 = .ok (.iload 7, 2) := by decide +kernel
theorem d2_306 : decode prog_71_method_1_code 306 = .ok (.aload 5, 2) := by decide +kernel
theorem d2_308 : decode prog_71_method_1_code 308 = .ok (.aload_n 1, 1) := by decide +kernel
theorem d2_309 : decode prog_71_method_1_code 309 = .ok (.iload 7, 2) := by decide +kernel
theorem d2_311 : decode prog_71_method_1_code 311 = .ok (.iaload, 1) := by decide +kernel
theorem d2_312 : decode prog_71_method_1_code 312 = .ok (.iaload, 1) := by decide +kernel
theorem d2_313 : decode prog_71_method_1_code 313 = .ok (.iastore, 1) := by decide +kernel
theorem d2_314 : decode prog_71_method_1_code 314 = .ok (.iinc 7 1, 3) := by decide +kernel
theorem d2_317 : decode prog_71_method_1_code 317 = .ok (.goto (-55), 3) := by decide +kernel
theorem d2_320 : decode prog_71_method_1_code 320 = .ok (.return_, 1) := by decide +kernel
theorem d4_0 : decode jdk_29_method_65_code 0 = .ok (.iload_n 0, 1) := by decide +kernel
theorem d4_1 : decode jdk_29_method_65_code 1 = .ok (.iload_n 1, 1) := by decide +kernel
theorem d4_2 : decode jdk_29_method_65_code 2 = .ok (.if_icmp .lt 7, 3) := by decide +kernel
theorem d4_5 : decode jdk_29_method_65_code 5 = .ok (.iload_n 0, 1) := by decide +kernel
theorem d4_6 : decode jdk_29_method_65_code 6 = .ok (.goto 4, 3) := by decide +kernel
theorem d4_10 : decode jdk_29_method_65_code 10 = .ok (.ireturn, 1) := by decide +kernel
theorem d5_0 : decode prog_71_method_6_code 0 = .ok (.aload_n 0, 1) := by decide +kernel
theorem d5_1 : decode prog_71_method_6_code 1 = .ok (.getfield 16, 3) := by decide +kernel
theorem d5_4 : decode prog_71_method_6_code 4 = .ok (.iload_n 1, 1) := by decide +kernel
theorem d5_5 : decode prog_71_method_6_code 5 = .ok (.iaload, 1) := by decide +kernel
theorem d5_6 : decode prog_71_method_6_code 6 = .ok (.istore_n 2, 1) := by decide +kernel
theorem d5_7 : decode prog_71_method_6_code 7 = .ok (.aload_n 0, 1) := by decide +kernel
theorem d5_8 : decode prog_71_method_6_code 8 = .ok (.getfield 13, 3) := by decide +kernel
theorem d5_11 : decode prog_71_method_6_code 11 = .ok (.iload_n 1, 1) := by decide +kernel
theorem d5_12 : decode prog_71_method_6_code 12 = .ok (.iaload, 1) := by decide +kernel
theorem d5_13 : decode prog_71_method_6_code 13 = .ok (.istore_n 3, 1) := by decide +kernel
theorem d5_14 : decode prog_71_method_6_code 14 = .ok (.aload_n 0, 1) := by decide +kernel
theorem d5_15 : decode prog_71_method_6_code 15 = .ok (.getfield 31, 3) := by decide +kernel
theorem d5_18 : decode prog_71_method_6_code 18 = .ok (.iload_n 2, 1) := by decide +kernel
theorem d5_19 : decode prog_71_method_6_code 19 = .ok (.iaload, 1) := by decide +kernel
theorem d5_20 : decode prog_71_method_6_code 20 = .ok (.istore 4, 2) := by decide +kernel
theorem d5_22 : decode prog_71_method_6_code 22 = .ok (.iload_n 3, 1) := by decide +kernel
theorem d5_23 : decode prog_71_method_6_code 23 = .ok (.iload 4, 2) := by decide +kernel
theorem d5_25 : decode prog_71_method_6_code 25 = .ok (.if_icmp .lt 48, 3) := by decide +kernel
theorem d5_28 : decode prog_71_method_6_code 28 = .ok (.iload 4, 2) := by decide +kernel
theorem d5_30 : decode prog_71_method_6_code 30 = .ok (.aload_n 0, 1) := by decide +kernel
theorem d5_31 : decode prog_71_method_6_code 31 = .ok (.getfield 25, 3) := by decide +kernel
theorem d5_34 : decode prog_71_method_6_code 34 = .ok (.iload_n 2, 1) := by decide +kernel
theorem d5_35 : decode prog_71_method_6_code 35 = .ok (.iaload, 1) := by decide +kernel
theorem d5_36 : decode prog_71_method_6_code 36 = .ok (.if_icmp .ne 20, 3) := by decide +kernel
theorem d5_39 : decode prog_71_method_6_code 39 = .ok (.aload_n 0, 1) := by decide +kernel
theorem d5_40 : decode prog_71_method_6_code 40 = .ok (.getfield 34, 3) := by decide +kernel
theorem d5_43 : decode prog_71_method_6_code 43 = .ok (.aload_n 0, 1) := by decide +kernel
theorem d5_44 : decode prog_71_method_6_code 44 = .ok (.dup, 1) := by decide +kernel
theorem d5_45 : decode prog_71_method_6_code 45 = .ok (.getfield 46, 3) := by decide +kernel
theorem d5_48 : decode prog_71_method_6_code 48 = .ok (.dup_x1, 1) := by decide +kernel
theorem d5_49 : decode prog_71_method_6_code 49 = .ok (.iconst 1, 1) := by decide +kernel
theorem d5_50 : decode prog_71_method_6_code 50 = .ok (.iadd, 1) := by decide +kernel
theorem d5_51 : decode prog_71_method_6_code 51 = .ok (.putfield 46, 3) := by decide +kernel
theorem d5_54 : decode prog_71_method_6_code 54 = .ok (.iload_n 2, 1) := by decide +kernel
theorem d5_55 : decode prog_71_method_6_code 55 = .ok (.iastore, 1) := by decide +kernel
theorem d5_56 : decode prog_71_method_6_code 56 = .ok (.aload_n 0, 1) := by decide +kernel
theorem d5_57 : decode prog_71_method_6_code 57 = .ok (.iload_n 3, 1) := by decide +kernel
theorem d5_58 : decode prog_71_method_6_code 58 = .ok (.iload 4, 2) := by decide +kernel
theorem d5_60 : decode prog_71_method_6_code 60 = .ok (.invokevirtual 49, 3) := by decide +kernel
theorem d5_63 : decode prog_71_method_6_code 63 = .ok (.aload_n 0, 1) := by decide +kernel
theorem d5_64 : decode prog_71_method_6_code 64 = .ok (.getfield 31, 3) := by decide +kernel
theorem d5_67 : decode prog_71_method_6_code 67 = .ok (.iload_n 2, 1) := by decide +kernel
theorem d5_68 : decode prog_71_method_6_code 68 = .ok (.dup2, 1) := by decide +kernel
theorem d5_69 : decode prog_71_method_6_code 69 = .ok (.iaload, 1) := by decide +kernel
theorem d5_70 : decode prog_71_method_6_code 70 = .ok (.iconst 1, 1) := by decide +kernel
theorem d5_71 : decode prog_71_method_6_code 71 = .ok (.iadd, 1) := by decide +kernel
theorem d5_72 : decode prog_71_method_6_code 72 = .ok (.iastore, 1) := by decide +kernel
theorem d5_73 : decode prog_71_method_6_code 73 = .ok (.return_, 1) := by decide +kernel
theorem d6_0 : decode prog_71_method_8_code 0 = .ok (.aload_n 0, 1) := by decide +kernel
theorem d6_1 : decode prog_71_method_8_code 1 = .ok (.getfield 7, 3) := by decide +kernel
theorem d6_4 : decode prog_71_method_8_code 4 = .ok (.iload_n 1, 1) := by decide +kernel
theorem d6_5 : decode prog_71_method_8_code 5 = .ok (.iaload, 1) := by decide +kernel
theorem d6_6 : decode prog_71_method_8_code 6 = .ok (.istore_n 3, 1) := by decide +kernel
theorem d6_7 : decode prog_71_method_8_code 7 = .ok (.aload_n 0, 1) := by decide +kernel
theorem d6_8 : decode prog_71_method_8_code 8 = .ok (.getfield 7, 3) := by decide +kernel
theorem d6_11 : decode prog_71_method_8_code 11 = .ok (.iload_n 2, 1) := by decide +kernel
theorem d6_12 : decode prog_71_method_8_code 12 = .ok (.iaload, 1) := by decide +kernel
theorem d6_13 : decode prog_71_method_8_code 13 = .ok (.istore 4, 2) := by decide +kernel
theorem d6_15 : decode prog_71_method_8_code 15 = .ok (.aload_n 0, 1) := by decide +kernel
theorem d6_16 : decode prog_71_method_8_code 16 = .ok (.getfield 7, 3) := by decide +kernel
theorem d6_19 : decode prog_71_method_8_code 19 = .ok (.iload_n 1, 1) := by decide +kernel
theorem d6_20 : decode prog_71_method_8_code 20 = .ok (.iload 4, 2) := by decide +kernel
theorem d6_22 : decode prog_71_method_8_code 22 = .ok (.iastore, 1) := by decide +kernel
theorem d6_23 : decode prog_71_method_8_code 23 = .ok (.aload_n 0, 1) := by decide +kernel
theorem d6_24 : decode prog_71_method_8_code 24 = .ok (.getfield 13, 3) := by decide +kernel
theorem d6_27 : decode prog_71_method_8_code 27 = .ok (.iload 4, 2) := by decide +kernel
theorem d6_29 : decode prog_71_method_8_code 29 = .ok (.iload_n 1, 1) := by decide +kernel
theorem d6_30 : decode prog_71_method_8_code 30 = .ok (.iastore, 1) := by decide +kernel
theorem d6_31 : decode prog_71_method_8_code 31 = .ok (.aload_n 0, 1) := by decide +kernel
theorem d6_32 : decode prog_71_method_8_code 32 = .ok (.getfield 7, 3) := by decide +kernel
theorem d6_35 : decode prog_71_method_8_code 35 = .ok (.iload_n 2, 1) := by decide +kernel
theorem d6_36 : decode prog_71_method_8_code 36 = .ok (.iload_n 3, 1) := by decide +kernel
theorem d6_37 : decode prog_71_method_8_code 37 = .ok (.iastore, 1) := by decide +kernel
theorem d6_38 : decode prog_71_method_8_code 38 = .ok (.aload_n 0, 1) := by decide +kernel
theorem d6_39 : decode prog_71_method_8_code 39 = .ok (.getfield 13, 3) := by decide +kernel
theorem d6_42 : decode prog_71_method_8_code 42 = .ok (.iload_n 3, 1) := by decide +kernel
theorem d6_43 : decode prog_71_method_8_code 43 = .ok (.iload_n 2, 1) := by decide +kernel
theorem d6_44 : decode prog_71_method_8_code 44 = .ok (.iastore, 1) := by decide +kernel
theorem d6_45 : decode prog_71_method_8_code 45 = .ok (.return_, 1) := by decide +kernel
theorem d7_0 : decode prog_71_method_7_code 0 = .ok (.iconst 0, 1) := by decide +kernel
theorem d7_1 : decode prog_71_method_7_code 1 = .ok (.istore_n 1, 1) := by decide +kernel
theorem d7_2 : decode prog_71_method_7_code 2 = .ok (.iload_n 1, 1) := by decide +kernel
theorem d7_3 : decode prog_71_method_7_code 3 = .ok (.aload_n 0, 1) := by decide +kernel
theorem d7_4 : decode prog_71_method_7_code 4 = .ok (.getfield 46, 3) := by decide +kernel
theorem d7_7 : decode prog_71_method_7_code 7 = .ok (.if_icmp .ge 191, 3) := by decide +kernel
theorem d7_10 : decode prog_71_method_7_code 10 = .ok (.aload_n 0, 1) := by decide +kernel
theorem d7_11 : decode prog_71_method_7_code 11 = .ok (.getfield 34, 3) := by decide +kernel
theorem d7_14 : decode prog_71_method_7_code 14 = .ok (.iload_n 1, 1) := by decide +kernel
theorem d7_15 : decode prog_71_method_7_code 15 = .ok (.iaload, 1) := by decide +kernel
theorem d7_16 : decode prog_71_method_7_code 16 = .ok (.istore_n 2, 1) := by decide +kernel
theorem d7_17 : decode prog_71_method_7_code 17 = .ok (.aload_n 0, 1) := by decide +kernel
theorem d7_18 : decode prog_71_method_7_code 18 = .ok (.getfield 31, 3) := by decide +kernel
theorem d7_21 : decode prog_71_method_7_code 21 = .ok (.iload_n 2, 1) := by decide +kernel
theorem d7_22 : decode prog_71_method_7_code 22 = .ok (.iaload, 1) := by decide +kernel
theorem d7_23 : decode prog_71_method_7_code 23 = .ok (.istore_n 3, 1) := by decide +kernel
theorem d7_24 : decode prog_71_method_7_code 24 = .ok (.iload_n 3, 1) := by decide +kernel
theorem d7_25 : decode prog_71_method_7_code 25 = .ok (.aload_n 0, 1) := by decide +kernel
theorem d7_26 : decode prog_71_method_7_code 26 = .ok (.getfield 28, 3) := by decide +kernel
theorem d7_29 : decode prog_71_method_7_code 29 = .ok (.iload_n 2, 1) := by decide +kernel
theorem d7_30 : decode prog_71_method_7_code 30 = .ok (.iaload, 1) := by decide +kernel
theorem d7_31 : decode prog_71_method_7_code 31 = .ok (.if_icmp .ge 149, 3) := by decide +kernel
theorem d7_34 : decode prog_71_method_7_code 34 = .ok (.aload_n 0, 1) := by decide +kernel
theorem d7_35 : decode prog_71_method_7_code 35 = .ok (.dup, 1) := by decide +kernel
theorem d7_36 : decode prog_71_method_7_code 36 = .ok (.getfield 37, 3) := by decide +kernel
theorem d7_39 : decode prog_71_method_7_code 39 = .ok (.dup_x1, 1) := by decide +kernel
theorem d7_40 : decode prog_71_method_7_code 40 = .ok (.iconst 1, 1) := by decide +kernel
theorem d7_41 : decode prog_71_method_7_code 41 = .ok (.iadd, 1) := by decide +kernel
theorem d7_42 : decode prog_71_method_7_code 42 = .ok (.putfield 37, 3) := by decide +kernel
theorem d7_45 : decode prog_71_method_7_code 45 = .ok (.istore 4, 2) := by decide +kernel
theorem d7_47 : decode prog_71_method_7_code 47 = .ok (.iload_n 3, 1) := by decide +kernel
theorem d7_48 : decode prog_71_method_7_code 48 = .ok (.aload_n 0, 1) := by decide +kernel
theorem d7_49 : decode prog_71_method_7_code 49 = .ok (.getfield 25, 3) := by decide +kernel
theorem d7_52 : decode prog_71_method_7_code 52 = .ok (.iload_n 2, 1) := by decide +kernel
theorem d7_53 : decode prog_71_method_7_code 53 = .ok (.iaload, 1) := by decide +kernel
theorem d7_54 : decode prog_71_method_7_code 54 = .ok (.isub, 1) := by decide +kernel
theorem d7_55 : decode prog_71_method_7_code 55 = .ok (.aload_n 0, 1) := by decide +kernel
theorem d7_56 : decode prog_71_method_7_code 56 = .ok (.getfield 28, 3) := by decide +kernel
theorem d7_59 : decode prog_71_method_7_code 59 = .ok (.iload_n 2, 1) := by decide +kernel
theorem d7_60 : decode prog_71_method_7_code 60 = .ok (.iaload, 1) := by decide +kernel
theorem d7_61 : decode prog_71_method_7_code 61 = .ok (.iload_n 3, 1) := by decide +kernel
theorem d7_62 : decode prog_71_method_7_code 62 = .ok (.isub, 1) := by decide +kernel
theorem d7_63 : decode prog_71_method_7_code 63 = .ok (.if_icmp .gt 34, 3) := by decide +kernel
theorem d7_66 : decode prog_71_method_7_code 66 = .ok (.aload_n 0, 1) := by decide +kernel
theorem d7_67 : decode prog_71_method_7_code 67 = .ok (.getfield 25, 3) := by decide +kernel
theorem d7_70 : decode prog_71_method_7_code 70 = .ok (.iload 4, 2) := by decide +kernel
theorem d7_72 : decode prog_71_method_7_code 72 = .ok (.aload_n 0, 1) := by decide +kernel
theorem d7_73 : decode prog_71_method_7_code 73 = .ok (.getfield 25, 3) := by decide +kernel
theorem d7_76 : decode prog_71_method_7_code 76 = .ok (.iload_n 2, 1) := by decide +kernel
theorem d7_77 : decode prog_71_method_7_code 77 = .ok (.iaload, 1) := by decide +kernel
theorem d7_78 : decode prog_71_method_7_code 78 = .ok (.iastore, 1) := by decide +kernel
theorem d7_79 : decode prog_71_method_7_code 79 = .ok (.aload_n 0, 1) := by decide +kernel
theorem d7_80 : decode prog_71_method_7_code 80 = .ok (.getfield 28, 3) := by decide +kernel
theorem d7_83 : decode prog_71_method_7_code 83 = .ok (.iload 4, 2) := by decide +kernel
theorem d7_85 : decode prog_71_method_7_code 85 = .ok (.iload_n 3, 1) := by decide +kernel
theorem d7_86 : decode prog_71_method_7_code 86 = .ok (.iastore, 1) := by decide +kernel
theorem d7_87 : decode prog_71_method_7_code 87 = .ok (.aload_n 0, 1) := by decide +kernel
theorem d7_88 : decode prog_71_method_7_code 88 = .ok (.getfield 25, 3) := by decide +kernel
theorem d7_91 : decode prog_71_method_7_code 91 = .ok (.iload_n 2, 1) := by decide +kernel
theorem d7_92 : decode prog_71_method_7_code 92 = .ok (.iload_n 3, 1) := by decide +kernel
theorem d7_93 : decode prog_71_method_7_code 93 = .ok (.iastore, 1) := by decide +kernel
theorem d7_94 : decode prog_71_method_7_code 94 = .ok (.goto 31, 3) := by decide +kernel
theorem d7_97 : decode prog_71_method_7_code 97 = .ok (.aload_n 0, 1) := by decide +kernel
theorem d7_98 : decode prog_71_method_7_code 98 = .ok (.getfield 25, 3) := by decide +kernel
theorem d7_101 : decode prog_71_method_7_code 101 = .ok (.iload 4, 2) := by decide +kernel
theorem d7_103 : decode prog_71_method_7_code 103 = .ok (.iload_n 3, 1) := by decide +kernel
theorem d7_104 : decode prog_71_method_7_code 104 = .ok (.iastore, 1) := by decide +kernel
theorem d7_105 : decode prog_71_method_7_code 105 = .ok (.aload_n 0, 1) := by decide +kernel
theorem d7_106 : decode prog_71_method_7_code 106 = .ok (.getfield 28, 3) := by decide +kernel
theorem d7_109 : decode prog_71_method_7_code 109 = .ok (.iload 4, 2) := by decide +kernel
theorem d7_111 : decode prog_71_method_7_code 111 = .ok (.aload_n 0, 1) := by decide +kernel
theorem d7_112 : decode prog_71_method_7_code 112 = .ok (.getfield 28, 3) := by decide +kernel
theorem d7_115 : decode prog_71_method_7_code 115 = .ok (.iload_n 2, 1) := by decide +kernel
theorem d7_116 : decode prog_71_method_7_code 116 = .ok (.iaload, 1) := by decide +kernel
theorem d7_117 : decode prog_71_method_7_code 117 = .ok (.iastore, 1) := by decide +kernel
theorem d7_118 : decode prog_71_method_7_code 118 = .ok (.aload_n 0, 1) := by decide +kernel
theorem d7_119 : decode prog_71_method_7_code 119 = .ok (.getfield 28, 3) := by decide +kernel
theorem d7_122 : decode prog_71_method_7_code 122 = .ok (.iload_n 2, 1) := by decide +kernel
theorem d7_123 : decode prog_71_method_7_code 123 = .ok (.iload_n 3, 1) := by decide +kernel
theorem d7_124 : decode prog_71_method_7_code 124 = .ok (.iastore, 1) := by decide +kernel
theorem d7_125 : decode prog_71_method_7_code 125 = .ok (.aload_n 0, 1) := by decide +kernel
theorem d7_126 : decode prog_71_method_7_code 126 = .ok (.getfield 31, 3) := by decide +kernel
theorem d7_129 : decode prog_71_method_7_code 129 = .ok (.iload 4, 2) := by decide +kernel
theorem d7_131 : decode prog_71_method_7_code 131 = .ok (.aload_n 0, 1) := by decide +kernel
theorem d7_132 : decode prog_71_method_7_code 132 = .ok (.getfield 25, 3) := by decide +kernel
theorem d7_135 : decode prog_71_method_7_code 135 = .ok (.iload 4, 2) := by decide +kernel
theorem d7_137 : decode prog_71_method_7_code 137 = .ok (.iaload, 1) := by decide +kernel
theorem d7_138 : decode prog_71_method_7_code 138 = .ok (.iastore, 1) := by decide +kernel
theorem d7_139 : decode prog_71_method_7_code 139 = .ok (.aload_n 0, 1) := by decide +kernel
theorem d7_140 : decode prog_71_method_7_code 140 = .ok (.getfield 25, 3) := by decide +kernel
theorem d7_143 : decode prog_71_method_7_code 143 = .ok (.iload 4, 2) := by decide +kernel
theorem d7_145 : decode prog_71_method_7_code 145 = .ok (.iaload, 1) := by decide +kernel
theorem d7_146 : decode prog_71_method_7_code 146 = .ok (.istore 5, 2) := by decide +kernel
theorem d7_148 : decode prog_71_method_7_code 148 = .ok (.iload 5, 2) := by decide +kernel
theorem d7_150 : decode prog_71_method_7_code 150 = .ok (.aload_n 0, 1) := by decide +kernel
theorem d7_151 : decode prog_71_method_7_code 151 = .ok (.getfield 28, 3) := by decide +kernel
theorem d7_154 : decode prog_71_method_7_code 154 = .ok (.iload 4, 2) := by decide +kernel
theorem d7_156 : decode prog_71_method_7_code 156 = .ok (.iaload, 1) := by decide +kernel
theorem d7_157 : decode prog_71_method_7_code 157 = .ok (.if_icmp .ge 23, 3) := by decide +kernel
theorem d7_160 : decode prog_71_method_7_code 160 = .ok (.aload_n 0, 1) := by decide +kernel
theorem d7_161 : decode prog_71_method_7_code 161 = .ok (.getfield 16, 3) := by decide +kernel
theorem d7_164 : decode prog_71_method_7_code 164 = .ok (.aload_n 0, 1) := by decide +kernel
theorem d7_165 : decode prog_71_method_7_code 165 = .ok (.getfield 7, 3) := by decide +kernel
theorem d7_168 : decode prog_71_method_7_code 168 = .ok (.iload 5, 2) := by decide +kernel
theorem d7_170 : decode prog_71_method_7_code 170 = .ok (.iaload, 1) := by decide +kernel
theorem d7_171 : decode prog_71_method_7_code 171 = .ok (.iload 4, 2) := by decide +kernel
theorem d7_173 : decode prog_71_method_7_code 173 = .ok (.iastore, 1) := by decide +kernel
theorem d7_174 : decode prog_71_method_7_code 174 = .ok (.iinc 5 1, 3) := by decide +kernel
theorem d7_177 : decode prog_71_method_7_code 177 = .ok (.goto (-29), 3) := by decide +kernel
theorem d7_180 : decode prog_71_method_7_code 180 = .ok (.aload_n 0, 1) := by decide +kernel
theorem d7_181 : decode prog_71_method_7_code 181 = .ok (.getfield 31, 3) := by decide +kernel
theorem d7_184 : decode prog_71_method_7_code 184 = .ok (.iload_n 2, 1) := by decide +kernel
theorem d7_185 : decode prog_71_method_7_code 185 = .ok (.aload_n 0, 1) := by decide +kernel
theorem d7_186 : decode prog_71_method_7_code 186 = .ok (.getfield 25, 3) := by decide +kernel
theorem d7_189 : decode prog_71_method_7_code 189 = .ok (.iload_n 2, 1) := by decide +kernel
theorem d7_190 : decode prog_71_method_7_code 190 = .ok (.iaload, 1) := by decide +kernel
theorem d7_191 : decode prog_71_method_7_code 191 = .ok (.iastore, 1) := by decide +kernel
theorem d7_192 : decode prog_71_method_7_code 192 = .ok (.iinc 1 1, 3) := by decide +kernel
theorem d7_195 : decode prog_71_method_7_code 195 = .ok (.goto (-193), 3) := by decide +kernel
theorem d7_198 : decode prog_71_method_7_code 198 = .ok (.aload_n 0, 1) := by decide +kernel
theorem d7_199 : decode prog_71_method_7_code 199 = .ok (.iconst 0, 1) := by decide +kernel
theorem d7_200 : decode prog_71_method_7_code 200 = .ok (.putfield 46, 3) := by decide +kernel
theorem d7_203 : decode prog_71_method_7_code 203 = .ok (.return_, 1) := by decide +kernel
theorem d8_0 : decode method_3_code 0 = .ok (.aload_n 0, 1) := by decide +kernel
theorem d8_1 : decode method_3_code 1 = .ok (.iconst 0, 1) := by decide +kernel
theorem d8_2 : decode method_3_code 2 = .ok (.iaload, 1) := by decide +kernel
theorem d8_3 : decode method_3_code 3 = .ok (.iload_n 2, 1) := by decide +kernel
theorem d8_4 : decode method_3_code 4 = .ok (.if_icmp .ne 12, 3) := by decide +kernel
theorem d8_7 : decode method_3_code 7 = .ok (.aload_n 1, 1) := by decide +kernel
theorem d8_8 : decode method_3_code 8 = .ok (.iconst 0, 1) := by decide +kernel
theorem d8_9 : decode method_3_code 9 = .ok (.iaload, 1) := by decide +kernel
theorem d8_10 : decode method_3_code 10 = .ok (.iconst 1, 1) := by decide +kernel
theorem d8_11 : decode method_3_code 11 = .ok (.if_icmp .ne 5, 3) := by decide +kernel
theorem d8_14 : decode method_3_code 14 = .ok (.iconst 0, 1) := by decide +kernel
theorem d8_15 : decode method_3_code 15 = .ok (.ireturn, 1) := by decide +kernel
theorem d8_16 : decode method_3_code 16 = .ok (.aload_n 0, 1) := by decide +kernel
theorem d8_17 : decode method_3_code 17 = .ok (.iconst 1, 1) := by decide +kernel
theorem d8_18 : decode method_3_code 18 = .ok (.iaload, 1) := by decide +kernel
theorem d8_19 : decode method_3_code 19 = .ok (.iload_n 2, 1) := by decide +kernel
theorem d8_20 : decode method_3_code 20 = .ok (.if_icmp .ne 12, 3) := by decide +kernel
theorem d8_23 : decode method_3_code 23 = .ok (.aload_n 1, 1) := by decide +kernel
theorem d8_24 : decode method_3_code 24 = .ok (.iconst 1, 1) := by decide +kernel
theorem d8_25 : decode method_3_code 25 = .ok (.iaload, 1) := by decide +kernel
theorem d8_26 : decode method_3_code 26 = .ok (.iconst 1, 1) := by decide +kernel
theorem d8_27 : decode method_3_code 27 = .ok (.if_icmp .ne 5, 3) := by decide +kernel
theorem d8_30 : decode method_3_code 30 = .ok (.iconst 1, 1) := by decide +kernel
theorem d8_31 : decode method_3_code 31 = .ok (.ireturn, 1) := by decide +kernel
theorem d8_32 : decode method_3_code 32 = .ok (.aload_n 0, 1) := by decide +kernel
theorem d8_33 : decode method_3_code 33 = .ok (.iconst 2, 1) := by decide +kernel
theorem d8_34 : decode method_3_code 34 = .ok (.iaload, 1) := by decide +kernel
theorem d8_35 : decode method_3_code 35 = .ok (.iload_n 2, 1) := by decide +kernel
theorem d8_36 : decode method_3_code 36 = .ok (.if_icmp .ne 12, 3) := by decide +kernel
theorem d8_39 : decode method_3_code 39 = .ok (.aload_n 1, 1) := by decide +kernel
theorem d8_40 : decode method_3_code 40 = .ok (.iconst 2, 1) := by decide +kernel
theorem d8_41 : decode method_3_code 41 = .ok (.iaload, 1) := by decide +kernel
theorem d8_42 : decode method_3_code 42 = .ok (.iconst 1, 1) := by decide +kernel
theorem d8_43 : decode method_3_code 43 = .ok (.if_icmp .ne 5, 3) := by decide +kernel
theorem d8_46 : decode method_3_code 46 = .ok (.iconst 2, 1) := by decide +kernel
theorem d8_47 : decode method_3_code 47 = .ok (.ireturn, 1) := by decide +kernel
theorem d8_48 : decode method_3_code 48 = .ok (.aload_n 0, 1) := by decide +kernel
theorem d8_49 : decode method_3_code 49 = .ok (.iconst 3, 1) := by decide +kernel
theorem d8_50 : decode method_3_code 50 = .ok (.iaload, 1) := by decide +kernel
theorem d8_51 : decode method_3_code 51 = .ok (.iload_n 2, 1) := by decide +kernel
theorem d8_52 : decode method_3_code 52 = .ok (.if_icmp .ne 12, 3) := by decide +kernel
theorem d8_55 : decode method_3_code 55 = .ok (.aload_n 1, 1) := by decide +kernel
theorem d8_56 : decode method_3_code 56 = .ok (.iconst 3, 1) := by decide +kernel
theorem d8_57 : decode method_3_code 57 = .ok (.iaload, 1) := by decide +kernel
theorem d8_58 : decode method_3_code 58 = .ok (.iconst 1, 1) := by decide +kernel
theorem d8_59 : decode method_3_code 59 = .ok (.if_icmp .ne 5, 3) := by decide +kernel
theorem d8_62 : decode method_3_code 62 = .ok (.iconst 3, 1) := by decide +kernel
theorem d8_63 : decode method_3_code 63 = .ok (.ireturn, 1) := by decide +kernel
theorem d8_64 : decode method_3_code 64 = .ok (.aload_n 0, 1) := by decide +kernel
theorem d8_65 : decode method_3_code 65 = .ok (.iconst 4, 1) := by decide +kernel
theorem d8_66 : decode method_3_code 66 = .ok (.iaload, 1) := by decide +kernel
theorem d8_67 : decode method_3_code 67 = .ok (.iload_n 2, 1) := by decide +kernel
theorem d8_68 : decode method_3_code 68 = .ok (.if_icmp .ne 12, 3) := by decide +kernel
theorem d8_71 : decode method_3_code 71 = .ok (.aload_n 1, 1) := by decide +kernel
theorem d8_72 : decode method_3_code 72 = .ok (.iconst 4, 1) := by decide +kernel
theorem d8_73 : decode method_3_code 73 = .ok (.iaload, 1) := by decide +kernel
theorem d8_74 : decode method_3_code 74 = .ok (.iconst 1, 1) := by decide +kernel
theorem d8_75 : decode method_3_code 75 = .ok (.if_icmp .ne 5, 3) := by decide +kernel
theorem d8_78 : decode method_3_code 78 = .ok (.iconst 4, 1) := by decide +kernel
theorem d8_79 : decode method_3_code 79 = .ok (.ireturn, 1) := by decide +kernel
theorem d8_80 : decode method_3_code 80 = .ok (.iconst 5, 1) := by decide +kernel
theorem d8_81 : decode method_3_code 81 = .ok (.ireturn, 1) := by decide +kernel
theorem d9_0 : decode prog_71_method_2_code 0 = .ok (.aload_n 0, 1) := by decide +kernel
theorem d9_1 : decode prog_71_method_2_code 1 = .ok (.getfield 37, 3) := by decide +kernel
theorem d9_4 : decode prog_71_method_2_code 4 = .ok (.ireturn, 1) := by decide +kernel
theorem d10_0 : decode method_4_code 0 = .ok (.aload 4, 2) := by decide +kernel
theorem d10_2 : decode method_4_code 2 = .ok (.iload_n 2, 1) := by decide +kernel
theorem d10_3 : decode method_4_code 3 = .ok (.iaload, 1) := by decide +kernel
theorem d10_4 : decode method_4_code 4 = .ok (.ifCond .ne 23, 3) := by decide +kernel
theorem d10_7 : decode method_4_code 7 = .ok (.aload 7, 2) := by decide +kernel
theorem d10_9 : decode method_4_code 9 = .ok (.iload_n 2, 1) := by decide +kernel
theorem d10_10 : decode method_4_code 10 = .ok (.iaload, 1) := by decide +kernel
theorem d10_11 : decode method_4_code 11 = .ok (.istore 9, 2) := by decide +kernel
theorem d10_13 : decode method_4_code 13 = .ok (.aload 5, 2) := by decide +kernel
theorem d10_15 : decode method_4_code 15 = .ok (.iload_n 2, 1) := by decide +kernel
theorem d10_16 : decode method_4_code 16 = .ok (.iaload, 1) := by decide +kernel
theorem d10_17 : decode method_4_code 17 = .ok (.aload 6, 2) := by decide +kernel
theorem d10_19 : decode method_4_code 19 = .ok (.iload_n 2, 1) := by decide +kernel
theorem d10_20 : decode method_4_code 20 = .ok (.iaload, 1) := by decide +kernel
theorem d10_21 : decode method_4_code 21 = .ok (.iadd, 1) := by decide +kernel
theorem d10_22 : decode method_4_code 22 = .ok (.istore 10, 2) := by decide +kernel
theorem d10_24 : decode method_4_code 24 = .ok (.goto 71, 3) := by decide +kernel
theorem d10_27 : decode method_4_code 27 = .ok (.aload 5, 2) := by decide +kernel
theorem d10_29 : decode method_4_code 29 = .ok (.iload_n 2, 1) := by decide +kernel
theorem d10_30 : decode method_4_code 30 = .ok (.iaload, 1) := by decide +kernel
theorem d10_31 : decode method_4_code 31 = .ok (.aload 6, 2) := by decide +kernel
theorem d10_33 : decode method_4_code 33 = .ok (.iload_n 2, 1) := by decide +kernel
theorem d10_34 : decode method_4_code 34 = .ok (.iaload, 1) := by decide +kernel
theorem d10_35 : decode method_4_code 35 = .ok (.if_icmp .gt 7, 3) := by decide +kernel
theorem d10_38 : decode method_4_code 38 = .ok (.iconst 1, 1) := by decide +kernel
theorem d10_39 : decode method_4_code 39 = .ok (.goto 4, 3) := by decide +kernel
theorem d10_42 : decode method_4_code 42 = .ok (.iconst 0, 1) := by decide +kernel
theorem d10_43 : decode method_4_code 43 = .ok (.istore 11, 2) := by decide +kernel
theorem d10_45 : decode method_4_code 45 = .ok (.iload_n 3, 1) := by decide +kernel
theorem d10_46 : decode method_4_code 46 = .ok (.iconst 1, 1) := by decide +kernel
theorem d10_47 : decode method_4_code 47 = .ok (.if_icmp .ne 7, 3) := by decide +kernel
theorem d10_50 : decode method_4_code 50 = .ok (.iconst 1, 1) := by decide +kernel
theorem d10_51 : decode method_4_code 51 = .ok (.goto 4, 3) := by decide +kernel
theorem d10_54 : decode method_4_code 54 = .ok (.iconst 0, 1) := by decide +kernel
theorem d10_55 : decode method_4_code 55 = .ok (.istore 12, 2) := by decide +kernel
theorem d10_57 : decode method_4_code 57 = .ok (.iload 12, 2) := by decide +kernel
theorem d10_59 : decode method_4_code 59 = .ok (.iload 11, 2) := by decide +kernel
theorem d10_61 : decode method_4_code 61 = .ok (.if_icmp .ne 10, 3) := by decide +kernel
theorem d10_64 : decode method_4_code 64 = .ok (.aload 8, 2) := by decide +kernel
theorem d10_66 : decode method_4_code 66 = .ok (.iload_n 2, 1) := by decide +kernel
theorem d10_67 : decode method_4_code 67 = .ok (.iaload, 1) := by decide +kernel
theorem d10_68 : decode method_4_code 68 = .ok (.goto 7, 3) := by decide +kernel
theorem d10_71 : decode method_4_code 71 = .ok (.aload 7, 2) := by decide +kernel
theorem d10_73 : decode method_4_code 73 = .ok (.iload_n 2, 1) := by decide +kernel
theorem d10_74 : decode method_4_code 74 = .ok (.iaload, 1) := by decide +kernel
theorem d10_75 : decode method_4_code 75 = .ok (.istore 9, 2) := by decide +kernel
theorem d10_77 : decode method_4_code 77 = .ok (.iload 12, 2) := by decide +kernel
theorem d10_79 : decode method_4_code 79 = .ok (.ifCond .eq 10, 3) := by decide +kernel
theorem d10_82 : decode method_4_code 82 = .ok (.aload 5, 2) := by decide +kernel
theorem d10_84 : decode method_4_code 84 = .ok (.iload_n 2, 1) := by decide +kernel
theorem d10_85 : decode method_4_code 85 = .ok (.iaload, 1) := by decide +kernel
theorem d10_86 : decode method_4_code 86 = .ok (.goto 7, 3) := by decide +kernel
theorem d10_89 : decode method_4_code 89 = .ok (.aload 6, 2) := by decide +kernel
theorem d10_91 : decode method_4_code 91 = .ok (.iload_n 2, 1) := by decide +kernel
theorem d10_92 : decode method_4_code 92 = .ok (.iaload, 1) := by decide +kernel
theorem d10_93 : decode method_4_code 93 = .ok (.istore 10, 2) := by decide +kernel
theorem d10_95 : decode method_4_code 95 = .ok (.aload_n 0, 1) := by decide +kernel
theorem d10_96 : decode method_4_code 96 = .ok (.iload_n 1, 1) := by decide +kernel
theorem d10_97 : decode method_4_code 97 = .ok (.invokevirtual 7, 3) := by decide +kernel
theorem d10_100 : decode method_4_code 100 = .ok (.istore 11, 2) := by decide +kernel
theorem d10_102 : decode method_4_code 102 = .ok (.iload 11, 2) := by decide +kernel
theorem d10_104 : decode method_4_code 104 = .ok (.iload 9, 2) := by decide +kernel
theorem d10_106 : decode method_4_code 106 = .ok (.if_icmp .ne 18, 3) := by decide +kernel
theorem d10_109 : decode method_4_code 109 = .ok (.aload_n 0, 1) := by decide +kernel
theorem d10_110 : decode method_4_code 110 = .ok (.iload 11, 2) := by decide +kernel
theorem d10_112 : decode method_4_code 112 = .ok (.invokevirtual 13, 3) := by decide +kernel
theorem d10_115 : decode method_4_code 115 = .ok (.iload 10, 2) := by decide +kernel
theorem d10_117 : decode method_4_code 117 = .ok (.if_icmp .ne 7, 3) := by decide +kernel
theorem d10_120 : decode method_4_code 120 = .ok (.iconst 1, 1) := by decide +kernel
theorem d10_121 : decode method_4_code 121 = .ok (.goto 4, 3) := by decide +kernel
theorem d10_125 : decode method_4_code 125 = .ok (.ireturn, 1) := by decide +kernel
theorem d11_0 : decode prog_71_method_3_code 0 = .ok (.aload_n 0, 1) := by decide +kernel
theorem d11_1 : decode prog_71_method_3_code 1 = .ok (.getfield 16, 3) := by decide +kernel
theorem d11_4 : decode prog_71_method_3_code 4 = .ok (.iload_n 1, 1) := by decide +kernel
theorem d11_5 : decode prog_71_method_3_code 5 = .ok (.iaload, 1) := by decide +kernel
theorem d11_6 : decode prog_71_method_3_code 6 = .ok (.ireturn, 1) := by decide +kernel
theorem d12_0 : decode prog_71_method_4_code 0 = .ok (.aload_n 0, 1) := by decide +kernel
theorem d12_1 : decode prog_71_method_4_code 1 = .ok (.getfield 28, 3) := by decide +kernel
theorem d12_4 : decode prog_71_method_4_code 4 = .ok (.iload_n 1, 1) := by decide +kernel
theorem d12_5 : decode prog_71_method_4_code 5 = .ok (.iaload, 1) := by decide +kernel
theorem d12_6 : decode prog_71_method_4_code 6 = .ok (.aload_n 0, 1) := by decide +kernel
theorem d12_7 : decode prog_71_method_4_code 7 = .ok (.getfield 25, 3) := by decide +kernel
theorem d12_10 : decode prog_71_method_4_code 10 = .ok (.iload_n 1, 1) := by decide +kernel
theorem d12_11 : decode prog_71_method_4_code 11 = .ok (.iaload, 1) := by decide +kernel
theorem d12_12 : decode prog_71_method_4_code 12 = .ok (.isub, 1) := by decide +kernel
theorem d12_13 : decode prog_71_method_4_code 13 = .ok (.ireturn, 1) := by decide +kernel
abbrev own_y4 : MethodName := ⟨"java/lang/Math", "max", "(II)I"⟩
abbrev own_y1 : MethodName := ⟨"com/example/libhedge/libhedge/RefinablePartitionSplitPinLaw", "bit", "(II)I"⟩
abbrev own_y6 : MethodName := ⟨"com/example/libhedge/libhedge/RefinablePartition", "swap", "(II)V"⟩
abbrev own_y5 : MethodName := ⟨"com/example/libhedge/libhedge/RefinablePartition", "mark", "(I)V"⟩
abbrev own_y7 : MethodName := ⟨"com/example/libhedge/libhedge/RefinablePartition", "split", "()V"⟩
abbrev own_y9 : MethodName := ⟨"com/example/libhedge/libhedge/RefinablePartition", "setCount", "()I"⟩
abbrev own_y11 : MethodName := ⟨"com/example/libhedge/libhedge/RefinablePartition", "setOf", "(I)I"⟩
abbrev own_y12 : MethodName := ⟨"com/example/libhedge/libhedge/RefinablePartition", "sizeOf", "(I)I"⟩
abbrev own_y10 : MethodName := ⟨"com/example/libhedge/libhedge/RefinablePartitionSplitPinLaw", "elemOk", "(Lcom/example/libhedge/libhedge/RefinablePartition;III[I[I[I[I[I)Z"⟩
abbrev own_y8 : MethodName := ⟨"com/example/libhedge/libhedge/RefinablePartitionSplitPinLaw", "firstMarked", "([I[II)I"⟩
abbrev own_y2 : MethodName := ⟨"com/example/libhedge/libhedge/RefinablePartition", "<init>", "([II)V"⟩
theorem pf_4 : plainFor own_y4 = true := by decide +kernel
theorem pf_1 : plainFor own_y1 = true := by decide +kernel
theorem pf_6 : plainFor own_y6 = true := by decide +kernel
theorem pf_5 : plainFor own_y5 = true := by decide +kernel
theorem pf_7 : plainFor own_y7 = true := by decide +kernel
theorem pf_9 : plainFor own_y9 = true := by decide +kernel
theorem pf_11 : plainFor own_y11 = true := by decide +kernel
theorem pf_12 : plainFor own_y12 = true := by decide +kernel
theorem pf_10 : plainFor own_y10 = true := by decide +kernel
theorem pf_8 : plainFor own_y8 = true := by decide +kernel
theorem pf_2 : plainFor own_y2 = true := by decide +kernel
theorem pn_0 : plainName "com/example/libhedge/libhedge/RefinablePartitionSplitPinLaw" = true := by first | (simp [plainName, overriddenIn]; done) | decide +kernel
theorem pd_0 : parseMethodDescriptor "(II)V" = some ⟨[.int, .int], none⟩ := by decide +kernel
theorem pd_1 : parseMethodDescriptor "(I)I" = some ⟨[.int], some .int⟩ := by decide +kernel
theorem pd_2 : parseMethodDescriptor "(II)I" = some ⟨[.int, .int], some .int⟩ := by decide +kernel
theorem pd_3 : parseMethodDescriptor "([II)V" = some ⟨[(.array .int), .int], none⟩ := by decide +kernel
theorem pd_4 : parseMethodDescriptor "()V" = some ⟨[], none⟩ := by decide +kernel
theorem pd_5 : parseMethodDescriptor "([I[II)I" = some ⟨[(.array .int), (.array .int), .int], some .int⟩ := by decide +kernel
theorem pd_6 : parseMethodDescriptor "()I" = some ⟨[], some .int⟩ := by decide +kernel
theorem pd_7 : parseMethodDescriptor "(Lcom/example/libhedge/libhedge/RefinablePartition;III[I[I[I[I[I)Z" = some ⟨[(.object "com/example/libhedge/libhedge/RefinablePartition"), .int, .int, .int, (.array .int), (.array .int), (.array .int), (.array .int), (.array .int)], some .boolean⟩ := by decide +kernel
theorem pd_8 : parseMethodDescriptor "(I)V" = some ⟨[.int], none⟩ := by decide +kernel
theorem own_dupX2_ {tb : Tables} [Ours tb] {e : Env} {below : List Frame} {T target : State} {m : MethodId} {c : Code} {g : JFrame} (h : At T m c below) (hx : tb.exec = Jvm.exec) (hg : g.method = m) {x y z : Int32} {b : Addr} {rest : List Value} (hd : decode c.code g.pc = .ok (.dup_x2, 1)) (hs : g.stack = .int x :: .int y :: .ref b :: rest)
    (hr : Steps tb e below (T.setTop { g with pc := g.pc + 1, stack := .int x :: .int y :: .ref b :: .int x :: rest }) target) : Steps tb e below (T.setTop g) target := by
  subst hg
  jvm_step h [h.top, hx, hd, hs, Value.category]
  exact hr
section OwnN
variable {p : Program} {l : Launch} {e : Env} {R : Room} {s : State} {m : MethodId} {args : Array Value} {below : List Frame} {meth : Method} {c : Code} {T : State} {locs : List Loc} {cells slots : Nat} {G : State → Outcome → Prop} {Ls : Array Slot} {rest : List Value} {pc : Nat} {Z : State} {h : Heap} {a0 : Array Value}
theorem own_dupX2 (X : Stand p l e R s m args below meth c T locs cells slots) (hx : p.tables.exec = Jvm.exec) {x y : Int32} {b : Addr} (hd : decode c.code pc = .ok (.dup_x2, 1)) (pc' : Nat) (hp : pc + 1 = pc') (k : own_Go p e below G (T.setTop (mkF m pc' Ls (.int x :: .int y :: .ref b :: .int x :: rest)))) : own_Go p e below G (T.setTop (mkF m pc Ls (.int x :: .int y :: .ref b :: rest))) := by
  subst hp; exact own_go (fun t q => own_dupX2_ (z := x) X.here hx rfl hd rfl q) k
theorem own_iaddE (X : Stand p l e R s m args below meth c T locs cells slots) (hx : p.tables.exec = Jvm.exec) {x y : Int32} (hd : decode c.code pc = .ok (.iadd, 1)) (v : Int32) (hv : v = x + y) (pc' : Nat) (hp : pc + 1 = pc') (k : own_Go p e below G (T.setTop (mkF m pc' Ls (.int v :: rest)))) : own_Go p e below G (T.setTop (mkF m pc Ls (.int y :: .int x :: rest))) := by
  subst hv; exact own_iadd X hx hd pc' hp k
theorem own_isubE (X : Stand p l e R s m args below meth c T locs cells slots) (hx : p.tables.exec = Jvm.exec) {x y : Int32} (hd : decode c.code pc = .ok (.isub, 1)) (v : Int32) (hv : v = x - y) (pc' : Nat) (hp : pc + 1 = pc') (k : own_Go p e below G (T.setTop (mkF m pc' Ls (.int v :: rest)))) : own_Go p e below G (T.setTop (mkF m pc Ls (.int y :: .int x :: rest))) := by
  subst hv; exact own_isub X hx hd pc' hp k
theorem own_iandE (X : Stand p l e R s m args below meth c T locs cells slots) (hx : p.tables.exec = Jvm.exec) {x y : Int32} (hd : decode c.code pc = .ok (.iand, 1)) (v : Int32) (hv : v = x &&& y) (pc' : Nat) (hp : pc + 1 = pc') (k : own_Go p e below G (T.setTop (mkF m pc' Ls (.int v :: rest)))) : own_Go p e below G (T.setTop (mkF m pc Ls (.int y :: .int x :: rest))) := by
  subst hv; exact own_iand X hx hd pc' hp k
theorem own_newIE (X : Stand p l e R s m args below meth c T locs cells slots) (hx : p.tables.exec = Jvm.exec) (hZ : Z.Warmed39 s.vm) (w : (Cond.arrayClass .int).before a0 Z = true) (eT : T.heap = h) {n : Int32} (hd : decode c.code pc = .ok (.newarray .int, 2)) (i : Nat) (hn : n = Int32.ofNat i) (cap : Nat) (hcap : i ≤ cap) (hb : cap * 8 ≤ 536870912) (hc : cells + 1 ≤ R.cells) (hl : slots + cap ≤ R.slots) (pc' : Nat) (hp : pc + 2 = pc')
    (k : ∀ (T' : State) (h' : Heap) (a' : Addr), a' = h.size → Stand p l e R s m args below meth c T' locs (cells + 1) (slots + cap) → T'.heap = h' → Ext h h' → own_A .int Value.int Z h' a' (List.replicate i (0 : Int32)) → Exa Z h' a' "[I" → own_Go p e below G (T'.setTop (mkF m pc' Ls (.ref a' :: rest)))) : own_Go p e below G (T.setTop (mkF m pc Ls (.int n :: rest))) := by
  subst hp
  have hi : i < 2147483648 := by omega
  obtain ⟨q1, q2⟩ := own_idx hn (Nat.lt_succ_self i) (n := i + 1) (by omega)
  obtain ⟨T', h', cA, X', e', E', A', Ex', st⟩ := newPE X hx hZ (aty := .int) w eT (g := mkF m pc Ls (.int n :: rest)) rfl hd (n := n) (rest := rest) rfl (fun z => q1 (Or.inl z)) (cap := cap) (by rw [q2]; exact hcap) hb hc hl (ad := "[I") (by decide)
  exact own_go st (k T' h' _ rfl X' e' E' (own_A.new (f := Value.int) (d := 0) rfl A' i hn hi) Ex')
theorem own_clone (X : Stand p l e R s m args below meth c T locs cells slots) (hx : p.tables.exec = Jvm.exec) (hZ : Z.Warmed39 s.vm) {own : String} {index : Nat} (hown : s.vm.findClass own = some m.cls)
    (w1 : (Cond.methodLink own index ⟨"[I", "clone", "()Ljava/lang/Object;"⟩).before a0 Z = true) (w2 : (Cond.sameMethod "[I" "java/lang/Object" "clone" "()Ljava/lang/Object;").before a0 Z = true) (w3 : (Cond.native ⟨"java/lang/Object", "clone", "()Ljava/lang/Object;"⟩).before a0 Z = true)
    (w4 : (Cond.instanceMethod ⟨"java/lang/Object", "clone", "()Ljava/lang/Object;"⟩).before a0 Z = true) (w5 : (Cond.selects "[I" ⟨"[I", "clone", "()Ljava/lang/Object;"⟩ ⟨"java/lang/Object", "clone", "()Ljava/lang/Object;"⟩).before a0 Z = true) (w6 : (Cond.castable "[I" "java/lang/Cloneable").before a0 Z = true)
    (eT : T.heap = h) {a : Addr} {L : List Int32} (V : own_A .int Value.int Z h a L) (E : Exa Z h a "[I") (hsize : Ls.size = c.maxLocals) (hd : decode c.code pc = .ok (.invokevirtual index, 3)) (hf : 1 ≤ R.frames) (W : Nat) (hW : (rest.map fun v => v.category).sum ≤ W) (hl : W + 14 ≤ R.locals) (cap : Nat) (hcap : L.length ≤ cap) (hc : cells + 1 ≤ R.cells) (hsl : slots + cap ≤ R.slots) (pc' : Nat) (hp : pc + 3 = pc')
    (k : ∀ (T' : State) (h' : Heap) (a' : Addr), a' = h.size → Stand p l e R s m args below meth c T' locs (cells + 1) (slots + cap) → T'.heap = h' → Ext h h' → own_A .int Value.int Z h' a' L → Exa Z h' a' "[I" → own_Go p e below G (T'.setTop (mkF m pc' Ls (.ref a' :: rest)))) : own_Go p e below G (T.setTop (mkF m pc Ls (.ref a :: rest))) := by
  subst hp
  obtain ⟨cl, A, r, r'⟩ := V
  have FC : FitC Z cl := fitC_of A fun i hi v hv => by
    rw [r, List.getElem?_toArray, List.getElem?_map] at hv
    obtain ⟨x, -, rfl⟩ := Option.map_eq_some_iff.mp hv
    rfl
  obtain ⟨T', h', X', e', ex, A', E', st⟩ := cloneA X hx hZ hown w1 w2 w3 w4 w5 w6 eT A E FC (g := mkF m pc Ls (.ref a :: rest)) rfl hsize rfl hd hf (W := W) (cap := cap) (by show 2 * 0 + _ ≤ W; rw [Nat.mul_zero, Nat.zero_add]; exact hW) hl (by rw [r]; simpa using hcap) hc hsl
  exact own_go st (k T' h' _ rfl X' e' ex ⟨cloneOf cl, A', r, r'⟩ E')
end OwnN
def own_M (L : List Nat) : List Int32 := L.map Int32.ofNat
def own_s (L : List Nat) (i v : Nat) : Option (List Nat) := if i < L.length then some (L.set i v) else none
theorem own_ld {L : List Nat} {i v : Nat} (h : L[i]? = some v) : (own_M L)[i]? = some (Int32.ofNat v) := by
  unfold own_M; rw [List.getElem?_map, h]; rfl
theorem own_sl {L L' : List Nat} {i v : Nat} (h : own_s L i v = some L') : i < (own_M L).length := by
  unfold own_s at h
  split at h
  · unfold own_M; rw [List.length_map]; assumption
  · cases h
theorem own_setM {L L' : List Nat} {i v : Nat} (h : own_s L i v = some L') : (own_M L).set i (Int32.ofNat v) = own_M L' := by
  unfold own_s at h
  split at h
  · cases h; unfold own_M; rw [List.map_set]
  · cases h
theorem own_slen {L L' : List Nat} {i v : Nat} (h : own_s L i v = some L') : L'.length = L.length := by
  unfold own_s at h
  split at h
  · cases h; rw [List.length_set]
  · cases h
theorem own_ifE {α : Type} {c : Prop} [Decidable c] {x : Option α} {r : α} (h : (if c then x else none) = some r) : c ∧ x = some r := by
  split at h
  · exact ⟨by assumption, h⟩
  · cases h
theorem own_be {α β : Type} {o : Option α} {f : α → Option β} {r : β} (h : o.bind f = some r) : ∃ a, o = some a ∧ f a = some r := Option.bind_eq_some_iff.mp h
theorem own_ti {a : Nat} (h : a < 1000) : (Int32.ofNat a).toInt = a := Int32.toInt_ofNat_of_lt (by omega)
theorem own_ltN {a b : Nat} (h : a < 1000 ∧ b < 1000) : (Int32.ofNat a < Int32.ofNat b) ↔ a < b := by
  rw [Int32.lt_iff_toInt_lt, own_ti h.1, own_ti h.2]; omega
theorem own_eqN {a b : Nat} (h : a < 1000 ∧ b < 1000) : (Int32.ofNat a = Int32.ofNat b) ↔ a = b := by
  rw [← Int32.toInt_inj, own_ti h.1, own_ti h.2]; omega
theorem own_subN {a b : Nat} (h : b ≤ a) : Int32.ofNat (a - b) = Int32.ofNat a - Int32.ofNat b := by
  have e : Int32.ofNat a = Int32.ofNat (a - b) + Int32.ofNat b := by rw [← Int32.ofNat_add, Nat.sub_add_cancel h]
  rw [e, Int32.add_sub_cancel]
theorem own_addN (a b : Nat) : Int32.ofNat (a + b) = Int32.ofNat a + Int32.ofNat b := Int32.ofNat_add a b
theorem own_andN (a b : Nat) : Int32.ofNat (a &&& b) = Int32.ofNat a &&& Int32.ofNat b := by
  apply Int32.toBitVec_inj.mp
  rw [Int32.toBitVec_and]
  exact BitVec.ofNat_and
theorem own_and32 (x m : Int32) (k : Nat) (hm : m.toBitVec.toNat = 2 ^ k - 1) (hk : k < 32) : (x &&& m).toInt = ((x.toBitVec.toNat % 2 ^ k : Nat) : Int) := by
  have h : (x &&& m).toBitVec.toNat = x.toBitVec.toNat % 2 ^ k := by
    rw [Int32.toBitVec_and, BitVec.toNat_and, hm, Nat.and_two_pow_sub_one_eq_mod]
  have h2 : x.toBitVec.toNat % 2 ^ k < 2 ^ k := Nat.mod_lt _ (Nat.two_pow_pos k)
  have h3 : 2 ^ k ≤ 2 ^ 31 := Nat.pow_le_pow_right (by decide) (by omega)
  rw [← Int32.toInt_toBitVec, BitVec.toInt_eq_toNat_of_lt (by omega), h]
theorem own_bit (x : Int32) : ∃ b : Nat, b < 2 ∧ x &&& (1 : Int32) = Int32.ofNat b := by
  have h := own_and32 x 1 1 (by decide) (by decide)
  refine ⟨x.toBitVec.toNat % 2 ^ 1, by omega, Int32.toInt_inj.mp ?_⟩
  rw [h, own_ti (by omega)]
theorem own_pick (x : Int32) : ∃ b : Nat, b < 5 ∧ (x &&& (2147483647 : Int32)) % (5 : Int32) = Int32.ofNat b := by
  have h := own_and32 x 2147483647 31 (by decide) (by decide)
  refine ⟨(x.toBitVec.toNat % 2 ^ 31) % 5, by omega, Int32.toInt_inj.mp ?_⟩
  rw [Int32.toInt_mod, h, own_ti (by omega), show (5 : Int32).toInt = 5 from rfl, Int.tmod_eq_emod_of_nonneg (by omega)]
  omega
abbrev own_P : Type := List Nat × List Nat × List Nat × List Nat × List Nat × List Nat × List Nat × Nat × Nat
abbrev own_Pel (P : own_P) : List Nat := P.1
abbrev own_Ppl (P : own_P) : List Nat := P.2.1
abbrev own_Pso (P : own_P) : List Nat := P.2.2.1
abbrev own_Pfi (P : own_P) : List Nat := P.2.2.2.1
abbrev own_Pen (P : own_P) : List Nat := P.2.2.2.2.1
abbrev own_Pun (P : own_P) : List Nat := P.2.2.2.2.2.1
abbrev own_Pto (P : own_P) : List Nat := P.2.2.2.2.2.2.1
abbrev own_Pcnt (P : own_P) : Nat := P.2.2.2.2.2.2.2.1
abbrev own_Ptc (P : own_P) : Nat := P.2.2.2.2.2.2.2.2
abbrev own_swap (el pl : List Nat) (p o : Nat) : Option (List Nat × List Nat) :=
  (el[p]?).bind fun e => (el[o]?).bind fun oe => (own_s el p oe).bind fun el1 => (own_s pl oe p).bind fun pl1 => (own_s el1 o e).bind fun el2 => (own_s pl1 e o).bind fun pl2 => some (el2, pl2)
abbrev own_mk2 (el pl so fi en un to : List Nat) (cnt tc set place fu : Nat) : Option own_P :=
  (own_swap el pl place fu).bind fun q => (un[set]?).bind fun x => (own_s un set (x + 1)).bind fun un1 => some ⟨q.1, q.2, so, fi, en, un1, to, cnt, tc⟩
abbrev own_mark (el pl so fi en un to : List Nat) (cnt tc e : Nat) : Option own_P :=
  (so[e]?).bind fun set => (pl[e]?).bind fun place => (un[set]?).bind fun fu => if place < 1000 ∧ fu < 1000 then
    (if place < fu then some ⟨el, pl, so, fi, en, un, to, cnt, tc⟩ else
      (fi[set]?).bind fun f => if fu < 1000 ∧ f < 1000 then
        (if fu = f then (own_s to tc set).bind fun to1 => own_mk2 el pl so fi en un to1 cnt (tc + 1) set place fu else own_mk2 el pl so fi en un to cnt tc set place fu)
      else none)
  else none
def own_in : Nat → List Nat → List Nat → List Nat → Nat → Nat → Option (List Nat)
  | 0, _, _, _, _, _ => none
  | n + 1, en, el, so, part, place => (en[part]?).bind fun e => if place < 1000 ∧ e < 1000 then
      (if place < e then (el[place]?).bind fun x => (own_s so x part).bind fun so1 => own_in n en el so1 part (place + 1) else some so)
    else none
abbrev own_180 (fi un : List Nat) (set : Nat) (k : List Nat → Option own_P) : Option own_P :=
  (fi[set]?).bind fun f => (own_s un set f).bind k
abbrev own_125 (el so fi en un : List Nat) (set part : Nat) (k : List Nat → List Nat → Option own_P) : Option own_P :=
  (fi[part]?).bind fun f => (own_s un part f).bind fun un1 => (fi[part]?).bind fun p0 => (own_in 7 en el so part p0).bind fun so1 => own_180 fi un1 set (k so1)
def own_out : Nat → List Nat → List Nat → List Nat → List Nat → List Nat → List Nat → List Nat → Nat → Nat → Nat → Option own_P
  | 0, _, _, _, _, _, _, _, _, _, _ => none
  | n + 1, el, pl, so, fi, en, un, to, cnt, tc, i => if i < 1000 ∧ tc < 1000 then
      (if i < tc then (to[i]?).bind fun set => (un[set]?).bind fun mid => (en[set]?).bind fun e => if mid < 1000 ∧ e < 1000 then
        (if mid < e then (fi[set]?).bind fun f => if f ≤ mid then (en[set]?).bind fun e2 => if mid ≤ e2 then (if e2 - mid < 1000 ∧ mid - f < 1000 then
          (if e2 - mid < mid - f then (own_s fi cnt mid).bind fun fi1 => (en[set]?).bind fun e3 => (own_s en cnt e3).bind fun en1 => (own_s en1 set mid).bind fun en2 => own_125 el so fi1 en2 un set cnt (fun so1 un2 => own_out n el pl so1 fi1 en2 un2 to (cnt + 1) tc (i + 1))
          else (fi[set]?).bind fun f2 => (own_s fi cnt f2).bind fun fi1 => (own_s en cnt mid).bind fun en1 => (own_s fi1 set mid).bind fun fi2 => own_125 el so fi2 en1 un set cnt (fun so1 un2 => own_out n el pl so1 fi2 en1 un2 to (cnt + 1) tc (i + 1)))
          else none) else none else none
        else own_180 fi un set (fun un2 => own_out n el pl so fi en un2 to cnt tc (i + 1)))
        else none
      else some ⟨el, pl, so, fi, en, un, to, cnt, 0⟩)
    else none
abbrev own_95 (so fi en : List Nat) (e x sz : Nat) : Option Unit :=
  (so[e]?).bind fun s => if s < 1000 ∧ x < 1000 then (if s = x then (en[s]?).bind fun e1 => (fi[s]?).bind fun f1 => if f1 ≤ e1 then (if e1 - f1 < 1000 ∧ sz < 1000 then (if e1 - f1 = sz then some () else none) else none) else none else none) else none
abbrev own_elem (so fi en sp mm uu inn nw : List Nat) (e k marked : Nat) : Option Unit :=
  (sp[k]?).bind fun s => if s < 1000 ∧ 0 < 1000 then
    (if s = 0 then (inn[k]?).bind fun x => (mm[k]?).bind fun m => (uu[k]?).bind fun u => own_95 so fi en e x (m + u)
    else (mm[k]?).bind fun m => (uu[k]?).bind fun u => if u < 1000 ∧ m < 1000 then
      (if u < m then (if marked < 1000 ∧ 1 < 1000 then
          (if marked = 1 then (inn[k]?).bind fun x => (mm[k]?).bind fun z => own_95 so fi en e x z
          else (nw[k]?).bind fun x => (uu[k]?).bind fun z => own_95 so fi en e x z) else none)
      else (if marked < 1000 ∧ 1 < 1000 then
          (if marked = 1 then (nw[k]?).bind fun x => (mm[k]?).bind fun z => own_95 so fi en e x z
          else (inn[k]?).bind fun x => (uu[k]?).bind fun z => own_95 so fi en e x z) else none)) else none)
  else none
def own_fm (k0 k1 k2 k3 k4 m0 m1 m2 m3 m4 k : Nat) : Nat :=
  if k0 = k ∧ m0 = 1 then 0 else if k1 = k ∧ m1 = 1 then 1 else if k2 = k ∧ m2 = 1 then 2 else if k3 = k ∧ m3 = 1 then 3 else if k4 = k ∧ m4 = 1 then 4 else 5
abbrev own_cm (b : Nat) (P : own_P) (e : Nat) : Option own_P := if b = 1 then own_mark (own_Pel P) (own_Ppl P) (own_Pso P) (own_Pfi P) (own_Pen P) (own_Pun P) (own_Pto P) (own_Pcnt P) (own_Ptc P) e else some P
abbrev own_rest (so fi en : List Nat) (cnt k0 k1 k2 k3 k4 m0 m1 m2 m3 m4 : Nat) : Option Nat :=
  (some (k0 + k1 + k2 + k3 + k4)).bind fun c1 => if c1 ≤ 5 then (some (5 - c1)).bind fun c0 => (some ((k0 &&& m0) + (k1 &&& m1) + (k2 &&& m2) + (k3 &&& m3) + (k4 &&& m4))).bind fun n1 => (some (m0 + m1 + m2 + m3 + m4)).bind fun nA =>
  if n1 ≤ nA then (some (nA - n1)).bind fun n0 => if n0 ≤ c0 then (some (c0 - n0)).bind fun u0 => if n1 ≤ c1 then (some (c1 - n1)).bind fun u1 => if n0 < 1000 ∧ u0 < 1000 ∧ n1 < 1000 ∧ u1 < 1000 ∧ c0 < 1000 ∧ c1 < 1000 then
  (some (if 0 < n0 then (if 0 < u0 then 1 else 0) else 0)).bind fun s0 => (some (if 0 < n1 then (if 0 < u1 then 1 else 0) else 0)).bind fun s1 => (some (own_fm k0 k1 k2 k3 k4 m0 m1 m2 m3 m4 0)).bind fun f0 => (some (own_fm k0 k1 k2 k3 k4 m0 m1 m2 m3 m4 1)).bind fun f1 => if s0 < 1000 ∧ s1 < 1000 ∧ f0 < 1000 ∧ f1 < 1000 then
  (some ((if 0 < c0 then 1 else 0) + (if 0 < c1 then 1 else 0))).bind fun S => (some (if 0 < c0 then 1 else 0)).bind fun i1 => (some (S + (if s1 = 0 then 0 else (if f1 < f0 then 1 else 0)))).bind fun w0 => (some (S + (if s0 = 0 then 0 else (if f0 < f1 then 1 else 0)))).bind fun w1 => (some (S + (if s0 = 0 then 0 else 1) + (if s1 = 0 then 0 else 1))).bind fun C =>
  (some (if s0 = 0 then 0 else 1)).bind fun t0 => (some (if s1 = 0 then 0 else 1)).bind fun t1 =>
  if cnt < 1000 ∧ C < 1000 then if cnt = C then (own_elem so fi en [t0, t1] [n0, n1] [u0, u1] [0, i1] [w0, w1] 0 k0 m0).bind fun _ => (own_elem so fi en [t0, t1] [n0, n1] [u0, u1] [0, i1] [w0, w1] 1 k1 m1).bind fun _ => (own_elem so fi en [t0, t1] [n0, n1] [u0, u1] [0, i1] [w0, w1] 2 k2 m2).bind fun _ => (own_elem so fi en [t0, t1] [n0, n1] [u0, u1] [0, i1] [w0, w1] 3 k3 m3).bind fun _ => (own_elem so fi en [t0, t1] [n0, n1] [u0, u1] [0, i1] [w0, w1] 4 k4 m4).bind fun _ => some C
  else none else none else none else none else none else none else none else none
abbrev own_size (fi en : List Nat) (s sz : Nat) (k : Option Unit) : Option Unit :=
  (en[s]?).bind fun e1 => (fi[s]?).bind fun f1 => if f1 ≤ e1 then (if e1 - f1 < 1000 ∧ sz < 1000 then (if e1 - f1 = sz then k else none) else none) else none
abbrev own_end (so fi en : List Nat) (cnt C e s sz : Nat) : Option Unit :=
  if sz < 1000 ∧ 2 < 1000 then (if sz < 2 then
    (so[e]?).bind fun s' => if s' < 1000 ∧ s < 1000 then (if s' = s then own_size fi en s 1 (if cnt < 1000 ∧ C < 1000 then (if cnt = C then some () else none) else none) else none) else none
  else (so[e]?).bind fun s' => if s' < 1000 ∧ C < 1000 then (if s' = C then own_size fi en C 1 ((en[s]?).bind fun e1 => (fi[s]?).bind fun f1 => if f1 ≤ e1 then (if 1 ≤ sz then (if e1 - f1 < 1000 ∧ sz - 1 < 1000 then (if e1 - f1 = sz - 1 then (if cnt < 1000 ∧ C + 1 < 1000 then (if cnt = C + 1 then some () else none) else none) else none) else none) else none) else none) else none) else none) else none
abbrev own_second (P : own_P) (C e : Nat) : Option Unit :=
  ((own_Pso P)[e]?).bind fun s => ((own_Pen P)[s]?).bind fun e1 => ((own_Pfi P)[s]?).bind fun f1 => if f1 ≤ e1 then (own_mark (own_Pel P) (own_Ppl P) (own_Pso P) (own_Pfi P) (own_Pen P) (own_Pun P) (own_Pto P) (own_Pcnt P) (own_Ptc P) e).bind fun Q => (own_out 6 (own_Pel Q) (own_Ppl Q) (own_Pso Q) (own_Pfi Q) (own_Pen Q) (own_Pun Q) (own_Pto Q) (own_Pcnt Q) (own_Ptc Q) 0).bind fun R => own_end (own_Pso R) (own_Pfi R) (own_Pen R) (own_Pcnt R) C e s (e1 - f1) else none
abbrev own_249 (K ks sk fi en un : List Nat) (cnt : Nat) : Option own_P :=
  (K[0]?).bind fun key0 => (ks[key0]?).bind fun pc0 => (own_s ks key0 (pc0 + 1)).bind fun nx0 => (own_s [0, 0, 0, 0, 0] pc0 0).bind fun el0 => (own_s [0, 0, 0, 0, 0] 0 pc0).bind fun pl0 => (K[0]?).bind fun kk0 => (sk[kk0]?).bind fun w0 => (own_s [0, 0, 0, 0, 0] 0 w0).bind fun so0 =>
  (K[1]?).bind fun key1 => (nx0[key1]?).bind fun pc1 => (own_s nx0 key1 (pc1 + 1)).bind fun nx1 => (own_s el0 pc1 1).bind fun el1 => (own_s pl0 1 pc1).bind fun pl1 => (K[1]?).bind fun kk1 => (sk[kk1]?).bind fun w1 => (own_s so0 1 w1).bind fun so1 =>
  (K[2]?).bind fun key2 => (nx1[key2]?).bind fun pc2 => (own_s nx1 key2 (pc2 + 1)).bind fun nx2 => (own_s el1 pc2 2).bind fun el2 => (own_s pl1 2 pc2).bind fun pl2 => (K[2]?).bind fun kk2 => (sk[kk2]?).bind fun w2 => (own_s so1 2 w2).bind fun so2 =>
  (K[3]?).bind fun key3 => (nx2[key3]?).bind fun pc3 => (own_s nx2 key3 (pc3 + 1)).bind fun nx3 => (own_s el2 pc3 3).bind fun el3 => (own_s pl2 3 pc3).bind fun pl3 => (K[3]?).bind fun kk3 => (sk[kk3]?).bind fun w3 => (own_s so2 3 w3).bind fun so3 =>
  (K[4]?).bind fun key4 => (nx3[key4]?).bind fun pc4 => (own_s nx3 key4 (pc4 + 1)).bind fun nx4 => (own_s el3 pc4 4).bind fun el4 => (own_s pl3 4 pc4).bind fun pl4 => (K[4]?).bind fun kk4 => (sk[kk4]?).bind fun w4 => (own_s so3 4 w4).bind fun so4 =>
  some ⟨el4, pl4, so4, fi, en, un, [0, 0, 0, 0, 0], cnt, 0⟩
abbrev own_c3 (ks sk fi en un : List Nat) (cnt key : Nat) (k : List Nat → List Nat → List Nat → List Nat → Nat → Option own_P) : Option own_P := (ks[key]?).bind fun a => (ks[key + 1]?).bind fun b => if a < 1000 ∧ b < 1000 then (if a < b then (own_s sk key cnt).bind fun sk1 => (ks[key]?).bind fun x => (own_s fi cnt x).bind fun fi1 => (ks[key + 1]?).bind fun y => (own_s en cnt y).bind fun en1 => (ks[key]?).bind fun z => (own_s un cnt z).bind fun un1 => k sk1 fi1 en1 un1 (cnt + 1) else k sk fi en un cnt) else none
abbrev own_ctor (K : List Nat) : Option own_P :=
  (K[0]?).bind fun key0 => ([0, 0, 0][key0 + 1]?).bind fun x0 => (own_s [0, 0, 0] (key0 + 1) (x0 + 1)).bind fun ks0 =>
  (K[1]?).bind fun key1 => (ks0[key1 + 1]?).bind fun x1 => (own_s ks0 (key1 + 1) (x1 + 1)).bind fun ks1 =>
  (K[2]?).bind fun key2 => (ks1[key2 + 1]?).bind fun x2 => (own_s ks1 (key2 + 1) (x2 + 1)).bind fun ks2 =>
  (K[3]?).bind fun key3 => (ks2[key3 + 1]?).bind fun x3 => (own_s ks2 (key3 + 1) (x3 + 1)).bind fun ks3 =>
  (K[4]?).bind fun key4 => (ks3[key4 + 1]?).bind fun x4 => (own_s ks3 (key4 + 1) (x4 + 1)).bind fun ks4 =>
  (ks4[1]?).bind fun y0 => (ks4[0]?).bind fun z0 => (own_s ks4 1 (y0 + z0)).bind fun kt0 =>
  (kt0[2]?).bind fun y1 => (kt0[1]?).bind fun z1 => (own_s kt0 2 (y1 + z1)).bind fun kt1 =>
  own_c3 kt1 [0, 0] [0, 0, 0, 0, 0] [0, 0, 0, 0, 0] [0, 0, 0, 0, 0] 0 0 fun sk fi en un cnt => own_c3 kt1 sk fi en un cnt 1 fun sk fi en un cnt => own_249 K kt1 sk fi en un cnt
abbrev own_first (k0 k1 k2 k3 k4 m0 m1 m2 m3 m4 : Nat) : Option own_P := (own_ctor [k0, k1, k2, k3, k4]).bind fun P0 => (own_cm m0 P0 0).bind fun P1 => (own_cm m1 P1 1).bind fun P2 => (own_cm m2 P2 2).bind fun P3 => (own_cm m3 P3 3).bind fun P4 => (own_cm m4 P4 4).bind fun P5 => own_out 6 (own_Pel P5) (own_Ppl P5) (own_Pso P5) (own_Pfi P5) (own_Pen P5) (own_Pun P5) (own_Pto P5) (own_Pcnt P5) (own_Ptc P5) 0
def own_all (k0 k1 k2 k3 k4 m0 m1 m2 m3 m4 : Nat) : Bool := match own_first k0 k1 k2 k3 k4 m0 m1 m2 m3 m4 with
  | none => false
  | some P => match own_rest (own_Pso P) (own_Pfi P) (own_Pen P) (own_Pcnt P) k0 k1 k2 k3 k4 m0 m1 m2 m3 m4 with
    | none => false
    | some C => [0, 1, 2, 3, 4].all fun e => (own_second P C e).isSome
theorem own_dec : ∀ k0 k1 k2 k3 k4 m0 m1 m2 m3 m4 : Fin 2, own_all k0.val k1.val k2.val k3.val k4.val m0.val m1.val m2.val m3.val m4.val = true := by decide +kernel
theorem own_ex {k0 k1 k2 k3 k4 m0 m1 m2 m3 m4 e : Nat} (hk : k0 < 2 ∧ k1 < 2 ∧ k2 < 2 ∧ k3 < 2 ∧ k4 < 2) (hm : m0 < 2 ∧ m1 < 2 ∧ m2 < 2 ∧ m3 < 2 ∧ m4 < 2) (he : e < 5) : ∃ P C, own_first k0 k1 k2 k3 k4 m0 m1 m2 m3 m4 = some P ∧ own_rest (own_Pso P) (own_Pfi P) (own_Pen P) (own_Pcnt P) k0 k1 k2 k3 k4 m0 m1 m2 m3 m4 = some C ∧ own_second P C e = some () := by
  have h := own_dec ⟨k0, hk.1⟩ ⟨k1, hk.2.1⟩ ⟨k2, hk.2.2.1⟩ ⟨k3, hk.2.2.2.1⟩ ⟨k4, hk.2.2.2.2⟩ ⟨m0, hm.1⟩ ⟨m1, hm.2.1⟩ ⟨m2, hm.2.2.1⟩ ⟨m3, hm.2.2.2.1⟩ ⟨m4, hm.2.2.2.2⟩
  dsimp only at h
  unfold own_all at h
  cases h1 : own_first k0 k1 k2 k3 k4 m0 m1 m2 m3 m4 with
  | none => rw [h1] at h; cases h
  | some P =>
    rw [h1] at h
    dsimp only at h
    cases h2 : own_rest (own_Pso P) (own_Pfi P) (own_Pen P) (own_Pcnt P) k0 k1 k2 k3 k4 m0 m1 m2 m3 m4 with
    | none => rw [h2] at h; cases h
    | some C =>
      rw [h2] at h
      dsimp only at h
      refine ⟨P, C, rfl, h2, ?_⟩
      have h3 := List.all_eq_true.mp h e (by have : e = 0 ∨ e = 1 ∨ e = 2 ∨ e = 3 ∨ e = 4 := by omega
                                             simp; omega)
      cases h4 : own_second P C e with
      | none => rw [h4] at h3; cases h3
      | some u => rfl

def own_PE (Z : State) (h : Heap) (ka ma a el_ pl_ so_ fi_ en_ un_ to_ : Addr) (KL ML el pl so fi en un to : List Nat) (cnt tc : Nat) : Prop := Exa Z h a "com/example/libhedge/libhedge/RefinablePartition" ∧ Fld Z h a "com/example/libhedge/libhedge/RefinablePartition" "elements" "[I" (.ref el_) ∧ Fld Z h a "com/example/libhedge/libhedge/RefinablePartition" "placeOf" "[I" (.ref pl_) ∧ Fld Z h a "com/example/libhedge/libhedge/RefinablePartition" "setOf" "[I" (.ref so_) ∧ Fld Z h a "com/example/libhedge/libhedge/RefinablePartition" "first" "[I" (.ref fi_) ∧ Fld Z h a "com/example/libhedge/libhedge/RefinablePartition" "end" "[I" (.ref en_) ∧ Fld Z h a "com/example/libhedge/libhedge/RefinablePartition" "unmarked" "[I" (.ref un_) ∧ Fld Z h a "com/example/libhedge/libhedge/RefinablePartition" "touched" "[I" (.ref to_) ∧ Fld Z h a "com/example/libhedge/libhedge/RefinablePartition" "setCount" "I" (.int (Int32.ofNat cnt)) ∧ Fld Z h a "com/example/libhedge/libhedge/RefinablePartition" "touchedCount" "I" (.int (Int32.ofNat tc)) ∧ own_A .int Value.int Z h ka (own_M KL) ∧ own_A .int Value.int Z h ma (own_M ML) ∧ own_A .int Value.int Z h el_ (own_M el) ∧ own_A .int Value.int Z h pl_ (own_M pl) ∧ own_A .int Value.int Z h so_ (own_M so) ∧ own_A .int Value.int Z h fi_ (own_M fi) ∧ own_A .int Value.int Z h en_ (own_M en) ∧ own_A .int Value.int Z h un_ (own_M un) ∧ own_A .int Value.int Z h to_ (own_M to)
def own_Or (ka ma a el_ pl_ so_ fi_ en_ un_ to_ : Nat) : Prop := ka < ma ∧ ma < a ∧ a < el_ ∧ el_ < pl_ ∧ pl_ < so_ ∧ so_ < fi_ ∧ fi_ < en_ ∧ en_ < un_ ∧ un_ < to_

def QS (Z : State) (ka ma a el_ pl_ so_ fi_ en_ un_ to_ : Addr) (KL ML el pl so fi en un to : List Nat) (cnt tc : Nat) (n0 : Nat) (v : Option Value) (h : Heap) (L : List Loc) : Prop := v = none ∧ Fr n0 L ∧ n0 ≤ h.size ∧ own_PE Z h ka ma a el_ pl_ so_ fi_ en_ un_ to_ KL ML el pl so fi en un to cnt tc
def QM (h0 : Heap) (n0 : Nat) (v : Option Value) (h : Heap) (L : List Loc) : Prop := v = some (.int (5 : Int32)) ∧ Fr n0 L ∧ h = h0
theorem ef_rmMax (m : MethodId) (x0 : Int32) (x1 : Int32) : entryFrame m #[(.int x0), (.int x1)] 2 = mkF m 0 #[.val (.int x0), .val (.int x1)] [] := by first | (simp [entryFrame, mkF, argsToLocals, Value.category, maxLocals]; done) | rfl
set_option maxRecDepth 65536 in
set_option maxHeartbeats 40000000 in
theorem rmMax (l : Launch) (Z : State) (a0 : Array Value) (hw : ∀ d ∈ tables_1, d.before a0 Z = true) (ws : List Jvm.Cond)  (h0 : Heap) (n0 : Nat)  :
    MetFree l own_y4 (head1 (Jvm.Cond.code own_y4 jdk_29_method_65_code 2 (some .int) :: ws) ({ frames := 0, cells := 0, slots := 0, locals := 0 } : Room)) (fun aR U => aR = #[(.int (5 : Int32)), (.int (1 : Int32))] ∧ Z.Warmed39 U.vm ∧ U.heap = h0) (fun _ _ _ _ _ => True) (fun _ U o U' => ∃ v L, o = .returned v ∧ QM h0 n0 v U'.heap L ∧ FrameEnd U o U' L ({ frames := 0, cells := 0, slots := 0, locals := 0 } : Room).cells ({ frames := 0, cells := 0, slots := 0, locals := 0 } : Room).slots) := by
  refine MetFree.of_bodySF pf_4 hisR ?_
  intro p e s m args below meth c s₁ Bd hml0 hP hK
  obtain ⟨rfl, hZ, hhE⟩ := hP
  have hx := Bd.exec
  have hby := Bd.bytes
  have hml : c.maxLocals = 2 := hml0
  have hown : s.vm.findClass "java/lang/Math" = some m.cls := findClass_of_methodNamed Bd.named
  have hnm := (name_of_methodNamed Bd.named Bd.method).1
  have X0 : Stand p l e ({ frames := 0, cells := 0, slots := 0, locals := 0 } : Room) s m #[(.int (5 : Int32)), (.int (1 : Int32))] below meth c s₁ [] 0 0 := Stand.of_body Bd
  have e0 : s₁.heap = h0 := by rw [← hhE, Bd.state]; rfl
  have N0 := Fr.nil n0
  show own_Go p e below (own_Post s (QM h0 n0) ({ frames := 0, cells := 0, slots := 0, locals := 0 } : Room).cells ({ frames := 0, cells := 0, slots := 0, locals := 0 } : Room).slots) (s₁.setTop (entryFrame m #[(.int (5 : Int32)), (.int (1 : Int32))] 2))
  rw [ef_rmMax]
  generalize hG : own_Post s (QM h0 n0) ({ frames := 0, cells := 0, slots := 0, locals := 0 } : Room).cells ({ frames := 0, cells := 0, slots := 0, locals := 0 } : Room).slots = G
  refine own_iloadN X0 hx (hb hby d4_0) rfl 1 rfl ?_
  refine own_iloadN X0 hx (hb hby d4_1) rfl 2 rfl ?_
  refine own_icmpN X0 hx (hb hby d4_2) (flt (by decide)).1 5 rfl ?_
  refine own_iloadN X0 hx (hb hby d4_5) rfl 6 rfl ?_
  refine own_goto X0 hx (hb hby d4_6) 10 ⟨by decide, by decide⟩ ?_
  refine own_ireturn X0 hx Bd.notSynchronized hG Bd.returns (hb hby d4_10) (by decide) (by decide) ?_
  rw [e0]
  exact ⟨rfl, N0, rfl⟩
def QBit (h0 : Heap) (n0 : Nat) (v : Option Value) (h : Heap) (L : List Loc) : Prop := ∃ b : Nat, v = some (.int (Int32.ofNat b)) ∧ Fr n0 L ∧ h = h0 ∧ b < 2
theorem ef_rmBit (m : MethodId) (x0 : Int32) (x1 : Int32) : entryFrame m #[(.int x0), (.int x1)] 2 = mkF m 0 #[.val (.int x0), .val (.int x1)] [] := by first | (simp [entryFrame, mkF, argsToLocals, Value.category, maxLocals]; done) | rfl
set_option maxRecDepth 65536 in
set_option maxHeartbeats 40000000 in
theorem rmBit (l : Launch) (Z : State) (a0 : Array Value) (hw : ∀ d ∈ tables_1, d.before a0 Z = true) (ws : List Jvm.Cond) (v0 v1 : Int32) (h0 : Heap) (n0 : Nat)  :
    MetFree l own_y1 (head1 (Jvm.Cond.code own_y1 method_2_code 2 (some .int) :: ws) ({ frames := 0, cells := 0, slots := 0, locals := 0 } : Room)) (fun aR U => aR = #[(.int v0), (.int v1)] ∧ Z.Warmed39 U.vm ∧ U.heap = h0) (fun _ _ _ _ _ => True) (fun _ U o U' => ∃ v L, o = .returned v ∧ QBit h0 n0 v U'.heap L ∧ FrameEnd U o U' L ({ frames := 0, cells := 0, slots := 0, locals := 0 } : Room).cells ({ frames := 0, cells := 0, slots := 0, locals := 0 } : Room).slots) := by
  refine MetFree.of_bodySF pf_1 hisR ?_
  intro p e s m args below meth c s₁ Bd hml0 hP hK
  obtain ⟨rfl, hZ, hhE⟩ := hP
  have hx := Bd.exec
  have hby := Bd.bytes
  have hml : c.maxLocals = 2 := hml0
  have hown : s.vm.findClass "com/example/libhedge/libhedge/RefinablePartitionSplitPinLaw" = some m.cls := findClass_of_methodNamed Bd.named
  have hnm := (name_of_methodNamed Bd.named Bd.method).1
  have X0 : Stand p l e ({ frames := 0, cells := 0, slots := 0, locals := 0 } : Room) s m #[(.int v0), (.int v1)] below meth c s₁ [] 0 0 := Stand.of_body Bd
  have e0 : s₁.heap = h0 := by rw [← hhE, Bd.state]; rfl
  have N0 := Fr.nil n0
  show own_Go p e below (own_Post s (QBit h0 n0) ({ frames := 0, cells := 0, slots := 0, locals := 0 } : Room).cells ({ frames := 0, cells := 0, slots := 0, locals := 0 } : Room).slots) (s₁.setTop (entryFrame m #[(.int v0), (.int v1)] 2))
  rw [ef_rmBit]
  generalize hG : own_Post s (QBit h0 n0) ({ frames := 0, cells := 0, slots := 0, locals := 0 } : Room).cells ({ frames := 0, cells := 0, slots := 0, locals := 0 } : Room).slots = G
  refine own_iloadN X0 hx (hb hby d1_0) rfl 1 rfl ?_
  refine own_iloadN X0 hx (hb hby d1_1) rfl 2 rfl ?_
  refine own_iushr X0 hx (hb hby d1_2) 3 rfl ?_
  refine own_iconst X0 hx (hb hby d1_3) (1 : Int32) rfl 4 rfl ?_
  refine own_iand X0 hx (hb hby d1_4) 5 rfl ?_
  obtain ⟨b, hb2, hbe⟩ := own_bit ((v0).toUInt32 >>> (v1 &&& 31).toUInt32).toInt32
  rw [hbe]
  refine own_ireturn X0 hx Bd.notSynchronized hG Bd.returns (hb hby d1_5) (by decide) (by decide) ?_
  rw [e0]
  exact ⟨b, rfl, N0, rfl, hb2⟩
theorem ef_rmSwap (m : MethodId) (x0 : Addr) (x1 : Int32) (x2 : Int32) : entryFrame m #[(.ref x0), (.int x1), (.int x2)] 5 = mkF m 0 #[.val (.ref x0), .val (.int x1), .val (.int x2), .unset, .unset] [] := by first | (simp [entryFrame, mkF, argsToLocals, Value.category, maxLocals]; done) | rfl
set_option maxRecDepth 65536 in
set_option maxHeartbeats 40000000 in
theorem rmSwap (l : Launch) (Z : State) (a0 : Array Value) (hw : ∀ d ∈ tables_1, d.before a0 Z = true) (ws : List Jvm.Cond) (ka ma a el_ pl_ so_ fi_ en_ un_ to_ : Addr) (KL ML el pl so fi en un to : List Nat) (cnt tc : Nat) (pp oo : Nat) (el1 pl1 : List Nat) (h0 : Heap) (n0 : Nat) (Z0 : n0 ≤ h0.size) (ga : n0 ≤ ka) (hord : own_Or ka ma a el_ pl_ so_ fi_ en_ un_ to_) (B : own_PE Z h0 ka ma a el_ pl_ so_ fi_ en_ un_ to_ KL ML el pl so fi en un to cnt tc) (hs : own_swap el pl pp oo = some (el1, pl1)) :
    MetFree l own_y6 (head1 (Jvm.Cond.code own_y6 prog_71_method_8_code 5 none :: ws) ({ frames := 0, cells := 0, slots := 0, locals := 0 } : Room)) (fun aR U => aR = #[(.ref a), (.int (Int32.ofNat pp)), (.int (Int32.ofNat oo))] ∧ Z.Warmed39 U.vm ∧ U.heap = h0) (fun _ _ _ _ _ => True) (fun _ U o U' => ∃ v L, o = .returned v ∧ QS Z ka ma a el_ pl_ so_ fi_ en_ un_ to_ KL ML el1 pl1 so fi en un to cnt tc n0 v U'.heap L ∧ FrameEnd U o U' L ({ frames := 0, cells := 0, slots := 0, locals := 0 } : Room).cells ({ frames := 0, cells := 0, slots := 0, locals := 0 } : Room).slots) := by
  refine MetFree.of_bodySF pf_6 hisR ?_
  intro p e s m args below meth c s₁ Bd hml0 hP hK
  obtain ⟨rfl, hZ, hhE⟩ := hP
  have hx := Bd.exec
  have hby := Bd.bytes
  have hml : c.maxLocals = 5 := hml0
  have hown : s.vm.findClass "com/example/libhedge/libhedge/RefinablePartition" = some m.cls := findClass_of_methodNamed Bd.named
  have hnm := (name_of_methodNamed Bd.named Bd.method).1
  have X0 : Stand p l e ({ frames := 0, cells := 0, slots := 0, locals := 0 } : Room) s m #[(.ref a), (.int (Int32.ofNat pp)), (.int (Int32.ofNat oo))] below meth c s₁ [] 0 0 := Stand.of_body Bd
  have e0 : s₁.heap = h0 := by rw [← hhE, Bd.state]; rfl
  have N0 := Fr.nil n0
  show own_Go p e below (own_Post s (QS Z ka ma a el_ pl_ so_ fi_ en_ un_ to_ KL ML el1 pl1 so fi en un to cnt tc n0) ({ frames := 0, cells := 0, slots := 0, locals := 0 } : Room).cells ({ frames := 0, cells := 0, slots := 0, locals := 0 } : Room).slots) (s₁.setTop (entryFrame m #[(.ref a), (.int (Int32.ofNat pp)), (.int (Int32.ofNat oo))] 5))
  rw [ef_rmSwap]
  generalize hG : own_Post s (QS Z ka ma a el_ pl_ so_ fi_ en_ un_ to_ KL ML el1 pl1 so fi en un to cnt tc n0) ({ frames := 0, cells := 0, slots := 0, locals := 0 } : Room).cells ({ frames := 0, cells := 0, slots := 0, locals := 0 } : Room).slots = G
  obtain ⟨o0, o1, o2, o3, o4, o5, o6, o7, o8⟩ := id hord
  obtain ⟨E0, F0_0, F1_0, F2_0, F3_0, F4_0, F5_0, F6_0, F7_0, F8_0, V0_0, V1_0, V2_0, V3_0, V4_0, V5_0, V6_0, V7_0, V8_0⟩ := B
  have ga' : @LE.le Nat _ n0 ka := ga
  refine own_aloadN X0 hx (hb hby d6_0) rfl rfl 1 rfl ?_
  refine own_getF X0 hx hZ hown (own_w hw 14 rfl) Via.refl e0 F0_0 (hb hby d6_1) 4 rfl (fun T1 X1 e1 => ?_)
  refine own_iloadN X1 hx (hb hby d6_4) rfl 5 rfl ?_
  obtain ⟨n2, hn2, hs2⟩ := own_be hs
  refine own_iaload X1 hx hZ e1 V2_0 pp rfl (Int32.ofNat n2) (own_ld hn2) (hb hby d6_5) 6 rfl ?_
  refine own_istoreN X1 hx (hb hby d6_6) #[.val (.ref a), .val (.int (Int32.ofNat pp)), .val (.int (Int32.ofNat oo)), .val (.int (Int32.ofNat n2)), .unset] rfl 7 rfl ?_
  refine own_aloadN X1 hx (hb hby d6_7) rfl rfl 8 rfl ?_
  refine own_getF X1 hx hZ hown (own_w hw 14 rfl) Via.refl e1 F0_0 (hb hby d6_8) 11 rfl (fun T3 X3 e3 => ?_)
  refine own_iloadN X3 hx (hb hby d6_11) rfl 12 rfl ?_
  obtain ⟨n4, hn4, hs4⟩ := own_be hs2
  refine own_iaload X3 hx hZ e3 V2_0 oo rfl (Int32.ofNat n4) (own_ld hn4) (hb hby d6_12) 13 rfl ?_
  refine own_istore X3 hx (hb hby d6_13) #[.val (.ref a), .val (.int (Int32.ofNat pp)), .val (.int (Int32.ofNat oo)), .val (.int (Int32.ofNat n2)), .val (.int (Int32.ofNat n4))] rfl 15 rfl ?_
  refine own_aloadN X3 hx (hb hby d6_15) rfl rfl 16 rfl ?_
  refine own_getF X3 hx hZ hown (own_w hw 14 rfl) Via.refl e3 F0_0 (hb hby d6_16) 19 rfl (fun T5 X5 e5 => ?_)
  refine own_iloadN X5 hx (hb hby d6_19) rfl 20 rfl ?_
  refine own_iload X5 hx (hb hby d6_20) rfl 22 rfl ?_
  obtain ⟨n6, hn6, hs6⟩ := own_be hs4
  refine own_iastore X5 hx hZ e5 V2_0 pp rfl (own_sl hn6) (hb hby d6_22) 23 rfl (fun T7 h7 X7 e7 W7 V7 => ?_)
  rw [show (own_M el).set pp (Int32.ofNat n4) = (own_M n6) from (own_setM hn6)] at V7
  have N8 := Fr.snoc X7 N0 (by omega)
  have Z9 : n0 ≤ h7.size := by rw [W7.size]; exact Z0
  have E10 := E0.wr W7
  have F11 := F0_0.other W7 (Or.inl (Nat.ne_of_lt (by omega)))
  have F12 := F1_0.other W7 (Or.inl (Nat.ne_of_lt (by omega)))
  have F13 := F2_0.other W7 (Or.inl (Nat.ne_of_lt (by omega)))
  have F14 := F3_0.other W7 (Or.inl (Nat.ne_of_lt (by omega)))
  have F15 := F4_0.other W7 (Or.inl (Nat.ne_of_lt (by omega)))
  have F16 := F5_0.other W7 (Or.inl (Nat.ne_of_lt (by omega)))
  have F17 := F6_0.other W7 (Or.inl (Nat.ne_of_lt (by omega)))
  have F18 := F7_0.other W7 (Or.inl (Nat.ne_of_lt (by omega)))
  have F19 := F8_0.other W7 (Or.inl (Nat.ne_of_lt (by omega)))
  have V20 := V0_0.other W7 (Nat.ne_of_lt (by omega))
  have V21 := V1_0.other W7 (Nat.ne_of_lt (by omega))
  have V22 := V3_0.other W7 (Ne.symm (Nat.ne_of_lt (by omega)))
  have V23 := V4_0.other W7 (Ne.symm (Nat.ne_of_lt (by omega)))
  have V24 := V5_0.other W7 (Ne.symm (Nat.ne_of_lt (by omega)))
  have V25 := V6_0.other W7 (Ne.symm (Nat.ne_of_lt (by omega)))
  have V26 := V7_0.other W7 (Ne.symm (Nat.ne_of_lt (by omega)))
  have V27 := V8_0.other W7 (Ne.symm (Nat.ne_of_lt (by omega)))
  refine own_aloadN X7 hx (hb hby d6_23) rfl rfl 24 rfl ?_
  refine own_getF X7 hx hZ hown (own_w hw 16 rfl) Via.refl e7 F12 (hb hby d6_24) 27 rfl (fun T28 X28 e28 => ?_)
  refine own_iload X28 hx (hb hby d6_27) rfl 29 rfl ?_
  refine own_iloadN X28 hx (hb hby d6_29) rfl 30 rfl ?_
  obtain ⟨n29, hn29, hs29⟩ := own_be hs6
  refine own_iastore X28 hx hZ e28 V22 n4 rfl (own_sl hn29) (hb hby d6_30) 31 rfl (fun T30 h30 X30 e30 W30 V30 => ?_)
  rw [show (own_M pl).set n4 (Int32.ofNat pp) = (own_M n29) from (own_setM hn29)] at V30
  have N31 := Fr.snoc X30 N8 (by omega)
  have Z32 : n0 ≤ h30.size := by rw [W30.size]; exact Z9
  have E33 := E10.wr W30
  have F34 := F11.other W30 (Or.inl (Nat.ne_of_lt (by omega)))
  have F35 := F12.other W30 (Or.inl (Nat.ne_of_lt (by omega)))
  have F36 := F13.other W30 (Or.inl (Nat.ne_of_lt (by omega)))
  have F37 := F14.other W30 (Or.inl (Nat.ne_of_lt (by omega)))
  have F38 := F15.other W30 (Or.inl (Nat.ne_of_lt (by omega)))
  have F39 := F16.other W30 (Or.inl (Nat.ne_of_lt (by omega)))
  have F40 := F17.other W30 (Or.inl (Nat.ne_of_lt (by omega)))
  have F41 := F18.other W30 (Or.inl (Nat.ne_of_lt (by omega)))
  have F42 := F19.other W30 (Or.inl (Nat.ne_of_lt (by omega)))
  have V43 := V20.other W30 (Nat.ne_of_lt (by omega))
  have V44 := V21.other W30 (Nat.ne_of_lt (by omega))
  have V45 := V23.other W30 (Ne.symm (Nat.ne_of_lt (by omega)))
  have V46 := V24.other W30 (Ne.symm (Nat.ne_of_lt (by omega)))
  have V47 := V25.other W30 (Ne.symm (Nat.ne_of_lt (by omega)))
  have V48 := V26.other W30 (Ne.symm (Nat.ne_of_lt (by omega)))
  have V49 := V27.other W30 (Ne.symm (Nat.ne_of_lt (by omega)))
  have V50 := V7.other W30 (Nat.ne_of_lt (by omega))
  refine own_aloadN X30 hx (hb hby d6_31) rfl rfl 32 rfl ?_
  refine own_getF X30 hx hZ hown (own_w hw 14 rfl) Via.refl e30 F34 (hb hby d6_32) 35 rfl (fun T51 X51 e51 => ?_)
  refine own_iloadN X51 hx (hb hby d6_35) rfl 36 rfl ?_
  refine own_iloadN X51 hx (hb hby d6_36) rfl 37 rfl ?_
  obtain ⟨n52, hn52, hs52⟩ := own_be hs29
  refine own_iastore X51 hx hZ e51 V50 oo rfl (own_sl hn52) (hb hby d6_37) 38 rfl (fun T53 h53 X53 e53 W53 V53 => ?_)
  rw [show (own_M n6).set oo (Int32.ofNat n2) = (own_M n52) from (own_setM hn52)] at V53
  have N54 := Fr.snoc X53 N31 (by omega)
  have Z55 : n0 ≤ h53.size := by rw [W53.size]; exact Z32
  have E56 := E33.wr W53
  have F57 := F34.other W53 (Or.inl (Nat.ne_of_lt (by omega)))
  have F58 := F35.other W53 (Or.inl (Nat.ne_of_lt (by omega)))
  have F59 := F36.other W53 (Or.inl (Nat.ne_of_lt (by omega)))
  have F60 := F37.other W53 (Or.inl (Nat.ne_of_lt (by omega)))
  have F61 := F38.other W53 (Or.inl (Nat.ne_of_lt (by omega)))
  have F62 := F39.other W53 (Or.inl (Nat.ne_of_lt (by omega)))
  have F63 := F40.other W53 (Or.inl (Nat.ne_of_lt (by omega)))
  have F64 := F41.other W53 (Or.inl (Nat.ne_of_lt (by omega)))
  have F65 := F42.other W53 (Or.inl (Nat.ne_of_lt (by omega)))
  have V66 := V43.other W53 (Nat.ne_of_lt (by omega))
  have V67 := V44.other W53 (Nat.ne_of_lt (by omega))
  have V68 := V45.other W53 (Ne.symm (Nat.ne_of_lt (by omega)))
  have V69 := V46.other W53 (Ne.symm (Nat.ne_of_lt (by omega)))
  have V70 := V47.other W53 (Ne.symm (Nat.ne_of_lt (by omega)))
  have V71 := V48.other W53 (Ne.symm (Nat.ne_of_lt (by omega)))
  have V72 := V49.other W53 (Ne.symm (Nat.ne_of_lt (by omega)))
  have V73 := V30.other W53 (Ne.symm (Nat.ne_of_lt (by omega)))
  refine own_aloadN X53 hx (hb hby d6_38) rfl rfl 39 rfl ?_
  refine own_getF X53 hx hZ hown (own_w hw 16 rfl) Via.refl e53 F58 (hb hby d6_39) 42 rfl (fun T74 X74 e74 => ?_)
  refine own_iloadN X74 hx (hb hby d6_42) rfl 43 rfl ?_
  refine own_iloadN X74 hx (hb hby d6_43) rfl 44 rfl ?_
  obtain ⟨n75, hn75, hs75⟩ := own_be hs52
  refine own_iastore X74 hx hZ e74 V73 n2 rfl (own_sl hn75) (hb hby d6_44) 45 rfl (fun T76 h76 X76 e76 W76 V76 => ?_)
  rw [show (own_M n29).set n2 (Int32.ofNat oo) = (own_M n75) from (own_setM hn75)] at V76
  have N77 := Fr.snoc X76 N54 (by omega)
  have Z78 : n0 ≤ h76.size := by rw [W76.size]; exact Z55
  have E79 := E56.wr W76
  have F80 := F57.other W76 (Or.inl (Nat.ne_of_lt (by omega)))
  have F81 := F58.other W76 (Or.inl (Nat.ne_of_lt (by omega)))
  have F82 := F59.other W76 (Or.inl (Nat.ne_of_lt (by omega)))
  have F83 := F60.other W76 (Or.inl (Nat.ne_of_lt (by omega)))
  have F84 := F61.other W76 (Or.inl (Nat.ne_of_lt (by omega)))
  have F85 := F62.other W76 (Or.inl (Nat.ne_of_lt (by omega)))
  have F86 := F63.other W76 (Or.inl (Nat.ne_of_lt (by omega)))
  have F87 := F64.other W76 (Or.inl (Nat.ne_of_lt (by omega)))
  have F88 := F65.other W76 (Or.inl (Nat.ne_of_lt (by omega)))
  have V89 := V66.other W76 (Nat.ne_of_lt (by omega))
  have V90 := V67.other W76 (Nat.ne_of_lt (by omega))
  have V91 := V68.other W76 (Ne.symm (Nat.ne_of_lt (by omega)))
  have V92 := V69.other W76 (Ne.symm (Nat.ne_of_lt (by omega)))
  have V93 := V70.other W76 (Ne.symm (Nat.ne_of_lt (by omega)))
  have V94 := V71.other W76 (Ne.symm (Nat.ne_of_lt (by omega)))
  have V95 := V72.other W76 (Ne.symm (Nat.ne_of_lt (by omega)))
  have V96 := V53.other W76 (Nat.ne_of_lt (by omega))
  cases hs75
  refine own_return X76 hx Bd.notSynchronized hG Bd.returns (hb hby d6_45) (by decide) (by decide) ?_
  rw [e76]
  exact ⟨rfl, N77, Z78, ⟨E79, F80, F81, F82, F83, F84, F85, F86, F87, F88, V89, V90, V96, V76, V91, V92, V93, V94, V95⟩⟩
theorem ef_rmMark (m : MethodId) (x0 : Addr) (x1 : Int32) : entryFrame m #[(.ref x0), (.int x1)] 5 = mkF m 0 #[.val (.ref x0), .val (.int x1), .unset, .unset, .unset] [] := by first | (simp [entryFrame, mkF, argsToLocals, Value.category, maxLocals]; done) | rfl
set_option maxRecDepth 65536 in
set_option maxHeartbeats 40000000 in
theorem rmMark (l : Launch) (Z : State) (a0 : Array Value) (hw : ∀ d ∈ tables_1, d.before a0 Z = true) (ws : List Jvm.Cond) (ka ma a el_ pl_ so_ fi_ en_ un_ to_ : Addr) (KL ML el pl so fi en un to : List Nat) (cnt tc : Nat) (el' pl' so' fi' en' un' to' : List Nat) (cnt' tc' : Nat) (ee : Nat) (h0 : Heap) (n0 : Nat) (Z0 : n0 ≤ h0.size) (ga : n0 ≤ ka) (hord : own_Or ka ma a el_ pl_ so_ fi_ en_ un_ to_) (B : own_PE Z h0 ka ma a el_ pl_ so_ fi_ en_ un_ to_ KL ML el pl so fi en un to cnt tc) (hs : own_mark el pl so fi en un to cnt tc ee = some ⟨el', pl', so', fi', en', un', to', cnt', tc'⟩) :
    MetFree l own_y5 (head1 (Jvm.Cond.code own_y5 prog_71_method_6_code 5 none :: ws) ({ frames := 1, cells := 0, slots := 0, locals := 16 } : Room)) (fun aR U => aR = #[(.ref a), (.int (Int32.ofNat ee))] ∧ Z.Warmed39 U.vm ∧ U.heap = h0) (fun _ _ _ _ _ => True) (fun _ U o U' => ∃ v L, o = .returned v ∧ QS Z ka ma a el_ pl_ so_ fi_ en_ un_ to_ KL ML el' pl' so' fi' en' un' to' cnt' tc' n0 v U'.heap L ∧ FrameEnd U o U' L ({ frames := 1, cells := 0, slots := 0, locals := 16 } : Room).cells ({ frames := 1, cells := 0, slots := 0, locals := 16 } : Room).slots) := by
  refine MetFree.of_bodySF pf_5 hisR ?_
  intro p e s m args below meth c s₁ Bd hml0 hP hK
  obtain ⟨rfl, hZ, hhE⟩ := hP
  have hx := Bd.exec
  have hby := Bd.bytes
  have hml : c.maxLocals = 5 := hml0
  have hown : s.vm.findClass "com/example/libhedge/libhedge/RefinablePartition" = some m.cls := findClass_of_methodNamed Bd.named
  have hnm := (name_of_methodNamed Bd.named Bd.method).1
  have X0 : Stand p l e ({ frames := 1, cells := 0, slots := 0, locals := 16 } : Room) s m #[(.ref a), (.int (Int32.ofNat ee))] below meth c s₁ [] 0 0 := Stand.of_body Bd
  have e0 : s₁.heap = h0 := by rw [← hhE, Bd.state]; rfl
  have N0 := Fr.nil n0
  show own_Go p e below (own_Post s (QS Z ka ma a el_ pl_ so_ fi_ en_ un_ to_ KL ML el' pl' so' fi' en' un' to' cnt' tc' n0) ({ frames := 1, cells := 0, slots := 0, locals := 16 } : Room).cells ({ frames := 1, cells := 0, slots := 0, locals := 16 } : Room).slots) (s₁.setTop (entryFrame m #[(.ref a), (.int (Int32.ofNat ee))] 5))
  rw [ef_rmMark]
  generalize hG : own_Post s (QS Z ka ma a el_ pl_ so_ fi_ en_ un_ to_ KL ML el' pl' so' fi' en' un' to' cnt' tc' n0) ({ frames := 1, cells := 0, slots := 0, locals := 16 } : Room).cells ({ frames := 1, cells := 0, slots := 0, locals := 16 } : Room).slots = G
  obtain ⟨o0, o1, o2, o3, o4, o5, o6, o7, o8⟩ := id hord
  obtain ⟨E0, F0_0, F1_0, F2_0, F3_0, F4_0, F5_0, F6_0, F7_0, F8_0, V0_0, V1_0, V2_0, V3_0, V4_0, V5_0, V6_0, V7_0, V8_0⟩ := B
  have ga' : @LE.le Nat _ n0 ka := ga
  refine own_aloadN X0 hx (hb hby d5_0) rfl rfl 1 rfl ?_
  refine own_getF X0 hx hZ hown (own_w hw 18 rfl) Via.refl e0 F2_0 (hb hby d5_1) 4 rfl (fun T97 X97 e97 => ?_)
  refine own_iloadN X97 hx (hb hby d5_4) rfl 5 rfl ?_
  obtain ⟨n98, hn98, hs98⟩ := own_be hs
  refine own_iaload X97 hx hZ e97 V4_0 ee rfl (Int32.ofNat n98) (own_ld hn98) (hb hby d5_5) 6 rfl ?_
  refine own_istoreN X97 hx (hb hby d5_6) #[.val (.ref a), .val (.int (Int32.ofNat ee)), .val (.int (Int32.ofNat n98)), .unset, .unset] rfl 7 rfl ?_
  refine own_aloadN X97 hx (hb hby d5_7) rfl rfl 8 rfl ?_
  refine own_getF X97 hx hZ hown (own_w hw 16 rfl) Via.refl e97 F1_0 (hb hby d5_8) 11 rfl (fun T99 X99 e99 => ?_)
  refine own_iloadN X99 hx (hb hby d5_11) rfl 12 rfl ?_
  obtain ⟨n100, hn100, hs100⟩ := own_be hs98
  refine own_iaload X99 hx hZ e99 V3_0 ee rfl (Int32.ofNat n100) (own_ld hn100) (hb hby d5_12) 13 rfl ?_
  refine own_istoreN X99 hx (hb hby d5_13) #[.val (.ref a), .val (.int (Int32.ofNat ee)), .val (.int (Int32.ofNat n98)), .val (.int (Int32.ofNat n100)), .unset] rfl 14 rfl ?_
  refine own_aloadN X99 hx (hb hby d5_14) rfl rfl 15 rfl ?_
  refine own_getF X99 hx hZ hown (own_w hw 28 rfl) Via.refl e99 F5_0 (hb hby d5_15) 18 rfl (fun T101 X101 e101 => ?_)
  refine own_iloadN X101 hx (hb hby d5_18) rfl 19 rfl ?_
  obtain ⟨n102, hn102, hs102⟩ := own_be hs100
  refine own_iaload X101 hx hZ e101 V7_0 n98 rfl (Int32.ofNat n102) (own_ld hn102) (hb hby d5_19) 20 rfl ?_
  refine own_istore X101 hx (hb hby d5_20) #[.val (.ref a), .val (.int (Int32.ofNat ee)), .val (.int (Int32.ofNat n98)), .val (.int (Int32.ofNat n100)), .val (.int (Int32.ofNat n102))] rfl 22 rfl ?_
  refine own_iloadN X101 hx (hb hby d5_22) rfl 23 rfl ?_
  refine own_iload X101 hx (hb hby d5_23) rfl 25 rfl ?_
  obtain ⟨hg103, hs103⟩ := own_ifE hs102
  by_cases c104 : n100 < n102
  ·
    have hs105 := (if_pos c104).symm.trans hs103
    refine own_icmpY X101 hx (hb hby d5_25) (tlt ((own_ltN (a := n100) (b := n102) hg103).mpr c104)).1 73 ⟨by decide, by decide⟩ ?_
    cases hs105
    refine own_return X101 hx Bd.notSynchronized hG Bd.returns (hb hby d5_73) (by decide) (by decide) ?_
    rw [e101]
    exact ⟨rfl, N0, Z0, ⟨E0, F0_0, F1_0, F2_0, F3_0, F4_0, F5_0, F6_0, F7_0, F8_0, V0_0, V1_0, V2_0, V3_0, V4_0, V5_0, V6_0, V7_0, V8_0⟩⟩
  ·
    have hs106 := (if_neg c104).symm.trans hs103
    refine own_icmpN X101 hx (hb hby d5_25) (flt (fun q => c104 ((own_ltN (a := n100) (b := n102) hg103).mp q))).1 28 rfl ?_
    refine own_iload X101 hx (hb hby d5_28) rfl 30 rfl ?_
    refine own_aloadN X101 hx (hb hby d5_30) rfl rfl 31 rfl ?_
    refine own_getF X101 hx hZ hown (own_w hw 24 rfl) Via.refl e101 F3_0 (hb hby d5_31) 34 rfl (fun T107 X107 e107 => ?_)
    refine own_iloadN X107 hx (hb hby d5_34) rfl 35 rfl ?_
    obtain ⟨n108, hn108, hs108⟩ := own_be hs106
    refine own_iaload X107 hx hZ e107 V5_0 n98 rfl (Int32.ofNat n108) (own_ld hn108) (hb hby d5_35) 36 rfl ?_
    obtain ⟨hg109, hs109⟩ := own_ifE hs108
    by_cases c110 : n102 = n108
    ·
      have hs111 := (if_pos c110).symm.trans hs109
      refine own_icmpN X107 hx (hb hby d5_36) (teq ((own_eqN (a := n102) (b := n108) hg109).mpr c110)).2 39 rfl ?_
      refine own_aloadN X107 hx (hb hby d5_39) rfl rfl 40 rfl ?_
      refine own_getF X107 hx hZ hown (own_w hw 30 rfl) Via.refl e107 F6_0 (hb hby d5_40) 43 rfl (fun T112 X112 e112 => ?_)
      refine own_aloadN X112 hx (hb hby d5_43) rfl rfl 44 rfl ?_
      refine own_dup X112 hx (hb hby d5_44) rfl 45 rfl ?_
      refine own_getF X112 hx hZ hown (own_w hw 48 rfl) Via.refl e112 F8_0 (hb hby d5_45) 48 rfl (fun T113 X113 e113 => ?_)
      refine own_dupX1 X113 hx (hb hby d5_48) rfl rfl 49 rfl ?_
      refine own_iconst X113 hx (hb hby d5_49) (1 : Int32) rfl 50 rfl ?_
      refine own_iaddE X113 hx (hb hby d5_50) (Int32.ofNat (tc + 1)) (own_addN tc 1) 51 rfl ?_
      refine own_putF X113 hx hZ hown (own_w hw 48 rfl) Via.refl e113 F8_0 E0 (Or.inl (own_w hw 49 rfl)) (own_w hw 6 rfl) (ty := .int) (v' := (.int (Int32.ofNat (tc + 1)))) (by decide) rfl rfl (hb hby d5_51) 54 rfl (fun T114 h114 X114 e114 W114 => ?_)
      have N115 := Fr.snoc X114 N0 (by omega)
      have Z116 : n0 ≤ h114.size := by rw [W114.size]; exact Z0
      have E117 := E0.wr W114
      have F118 := F0_0.other W114 (Or.inr (sn_0 hw))
      have F119 := F1_0.other W114 (Or.inr (sn_1 hw))
      have F120 := F2_0.other W114 (Or.inr (sn_2 hw))
      have F121 := F3_0.other W114 (Or.inr (sn_3 hw))
      have F122 := F4_0.other W114 (Or.inr (sn_4 hw))
      have F123 := F5_0.other W114 (Or.inr (sn_5 hw))
      have F124 := F6_0.other W114 (Or.inr (sn_6 hw))
      have F125 := F7_0.other W114 (Or.inr (sn_7 hw))
      have F126 := F8_0.same W114
      have V127 := V0_0.other W114 (Nat.ne_of_lt (by omega))
      have V128 := V1_0.other W114 (Nat.ne_of_lt (by omega))
      have V129 := V2_0.other W114 (Ne.symm (Nat.ne_of_lt (by omega)))
      have V130 := V3_0.other W114 (Ne.symm (Nat.ne_of_lt (by omega)))
      have V131 := V4_0.other W114 (Ne.symm (Nat.ne_of_lt (by omega)))
      have V132 := V5_0.other W114 (Ne.symm (Nat.ne_of_lt (by omega)))
      have V133 := V6_0.other W114 (Ne.symm (Nat.ne_of_lt (by omega)))
      have V134 := V7_0.other W114 (Ne.symm (Nat.ne_of_lt (by omega)))
      have V135 := V8_0.other W114 (Ne.symm (Nat.ne_of_lt (by omega)))
      refine own_iloadN X114 hx (hb hby d5_54) rfl 55 rfl ?_
      obtain ⟨n136, hn136, hs136⟩ := own_be hs111
      refine own_iastore X114 hx hZ e114 V135 tc rfl (own_sl hn136) (hb hby d5_55) 56 rfl (fun T137 h137 X137 e137 W137 V137 => ?_)
      rw [show (own_M to).set tc (Int32.ofNat n98) = (own_M n136) from (own_setM hn136)] at V137
      have N138 := Fr.snoc X137 N115 (by omega)
      have Z139 : n0 ≤ h137.size := by rw [W137.size]; exact Z116
      have E140 := E117.wr W137
      have F141 := F118.other W137 (Or.inl (Nat.ne_of_lt (by omega)))
      have F142 := F119.other W137 (Or.inl (Nat.ne_of_lt (by omega)))
      have F143 := F120.other W137 (Or.inl (Nat.ne_of_lt (by omega)))
      have F144 := F121.other W137 (Or.inl (Nat.ne_of_lt (by omega)))
      have F145 := F122.other W137 (Or.inl (Nat.ne_of_lt (by omega)))
      have F146 := F123.other W137 (Or.inl (Nat.ne_of_lt (by omega)))
      have F147 := F124.other W137 (Or.inl (Nat.ne_of_lt (by omega)))
      have F148 := F125.other W137 (Or.inl (Nat.ne_of_lt (by omega)))
      have F149 := F126.other W137 (Or.inl (Nat.ne_of_lt (by omega)))
      have V150 := V127.other W137 (Nat.ne_of_lt (by omega))
      have V151 := V128.other W137 (Nat.ne_of_lt (by omega))
      have V152 := V129.other W137 (Nat.ne_of_lt (by omega))
      have V153 := V130.other W137 (Nat.ne_of_lt (by omega))
      have V154 := V131.other W137 (Nat.ne_of_lt (by omega))
      have V155 := V132.other W137 (Nat.ne_of_lt (by omega))
      have V156 := V133.other W137 (Nat.ne_of_lt (by omega))
      have V157 := V134.other W137 (Nat.ne_of_lt (by omega))
      refine own_aloadN X137 hx (hb hby d5_56) rfl rfl 57 rfl ?_
      refine own_iloadN X137 hx (hb hby d5_57) rfl 58 rfl ?_
      refine own_iload X137 hx (hb hby d5_58) rfl 60 rfl ?_
      obtain ⟨⟨el1, pl1⟩, hn158, hs158⟩ := own_be hs136
      refine own_callP X137 hx hZ hown (own_w hw 50 rfl) (own_w hw 51 rfl) (own_w hw 52 rfl) (own_niI hZ (own_w hw 6 rfl)) (own_w hw 7 rfl) (own_w hw 53 rfl) (by decide) e137 E140 (rmSwap l Z a0 hw [] ka ma a el_ pl_ so_ fi_ en_ un_ to_ KL ML el pl so fi en un n136 cnt (tc + 1) n100 n102 el1 pl1 h137 n0 Z139 ga hord ⟨E140, F141, F142, F143, F144, F145, F146, F147, F148, F149, V150, V151, V152, V153, V154, V155, V156, V157, V137⟩ hn158) (by rw [hml]; rfl) pd_0 (argsL := [(.int (Int32.ofNat n100)), (.int (Int32.ofNat n102))]) rfl (rest := []) rfl (hb hby d5_60) 0 (Nat.le_of_eq rfl) (by decide) (by decide) (by decide) (by decide) 63 rfl (fun T159 L159 v159 X159 hQ159 => ?_)
      obtain ⟨rfl, N159, Z159, B159⟩ := hQ159
      have N160 := Fr.app N138 N159
      obtain ⟨E159, F0_159, F1_159, F2_159, F3_159, F4_159, F5_159, F6_159, F7_159, F8_159, V0_159, V1_159, V2_159, V3_159, V4_159, V5_159, V6_159, V7_159, V8_159⟩ := B159
      show own_Go p e below G (T159.setTop (mkF m 63 #[.val (.ref a), .val (.int (Int32.ofNat ee)), .val (.int (Int32.ofNat n98)), .val (.int (Int32.ofNat n100)), .val (.int (Int32.ofNat n102))] []))
      refine own_aloadN X159 hx (hb hby d5_63) rfl rfl 64 rfl ?_
      refine own_getF X159 hx hZ hown (own_w hw 28 rfl) Via.refl (rfl : T159.heap = T159.heap) F5_159 (hb hby d5_64) 67 rfl (fun T161 X161 e161 => ?_)
      refine own_iloadN X161 hx (hb hby d5_67) rfl 68 rfl ?_
      refine own_dup2 X161 hx (hb hby d5_68) rfl rfl 69 rfl ?_
      obtain ⟨n162, hn162, hs162⟩ := own_be hs158
      refine own_iaload X161 hx hZ e161 V7_159 n98 rfl (Int32.ofNat n162) (own_ld hn162) (hb hby d5_69) 70 rfl ?_
      refine own_iconst X161 hx (hb hby d5_70) (1 : Int32) rfl 71 rfl ?_
      refine own_iaddE X161 hx (hb hby d5_71) (Int32.ofNat (n162 + 1)) (own_addN n162 1) 72 rfl ?_
      obtain ⟨n163, hn163, hs163⟩ := own_be hs162
      refine own_iastore X161 hx hZ e161 V7_159 n98 rfl (own_sl hn163) (hb hby d5_72) 73 rfl (fun T164 h164 X164 e164 W164 V164 => ?_)
      rw [show (own_M un).set n98 (Int32.ofNat (n162 + 1)) = (own_M n163) from (own_setM hn163)] at V164
      have N165 := Fr.snoc X164 N160 (by omega)
      have Z166 : n0 ≤ h164.size := by rw [W164.size]; exact Z159
      have E167 := E159.wr W164
      have F168 := F0_159.other W164 (Or.inl (Nat.ne_of_lt (by omega)))
      have F169 := F1_159.other W164 (Or.inl (Nat.ne_of_lt (by omega)))
      have F170 := F2_159.other W164 (Or.inl (Nat.ne_of_lt (by omega)))
      have F171 := F3_159.other W164 (Or.inl (Nat.ne_of_lt (by omega)))
      have F172 := F4_159.other W164 (Or.inl (Nat.ne_of_lt (by omega)))
      have F173 := F5_159.other W164 (Or.inl (Nat.ne_of_lt (by omega)))
      have F174 := F6_159.other W164 (Or.inl (Nat.ne_of_lt (by omega)))
      have F175 := F7_159.other W164 (Or.inl (Nat.ne_of_lt (by omega)))
      have F176 := F8_159.other W164 (Or.inl (Nat.ne_of_lt (by omega)))
      have V177 := V0_159.other W164 (Nat.ne_of_lt (by omega))
      have V178 := V1_159.other W164 (Nat.ne_of_lt (by omega))
      have V179 := V2_159.other W164 (Nat.ne_of_lt (by omega))
      have V180 := V3_159.other W164 (Nat.ne_of_lt (by omega))
      have V181 := V4_159.other W164 (Nat.ne_of_lt (by omega))
      have V182 := V5_159.other W164 (Nat.ne_of_lt (by omega))
      have V183 := V6_159.other W164 (Nat.ne_of_lt (by omega))
      have V184 := V8_159.other W164 (Ne.symm (Nat.ne_of_lt (by omega)))
      cases hs163
      refine own_return X164 hx Bd.notSynchronized hG Bd.returns (hb hby d5_73) (by decide) (by decide) ?_
      rw [e164]
      exact ⟨rfl, N165, Z166, ⟨E167, F168, F169, F170, F171, F172, F173, F174, F175, F176, V177, V178, V179, V180, V181, V182, V183, V164, V184⟩⟩
    ·
      have hs185 := (if_neg c110).symm.trans hs109
      refine own_icmpY X107 hx (hb hby d5_36) (feq (fun q => c110 ((own_eqN (a := n102) (b := n108) hg109).mp q))).2 56 ⟨by decide, by decide⟩ ?_
      refine own_aloadN X107 hx (hb hby d5_56) rfl rfl 57 rfl ?_
      refine own_iloadN X107 hx (hb hby d5_57) rfl 58 rfl ?_
      refine own_iload X107 hx (hb hby d5_58) rfl 60 rfl ?_
      obtain ⟨⟨el1, pl1⟩, hn186, hs186⟩ := own_be hs185
      refine own_callP X107 hx hZ hown (own_w hw 50 rfl) (own_w hw 51 rfl) (own_w hw 52 rfl) (own_niI hZ (own_w hw 6 rfl)) (own_w hw 7 rfl) (own_w hw 53 rfl) (by decide) e107 E0 (rmSwap l Z a0 hw [] ka ma a el_ pl_ so_ fi_ en_ un_ to_ KL ML el pl so fi en un to cnt tc n100 n102 el1 pl1 h0 n0 Z0 ga hord ⟨E0, F0_0, F1_0, F2_0, F3_0, F4_0, F5_0, F6_0, F7_0, F8_0, V0_0, V1_0, V2_0, V3_0, V4_0, V5_0, V6_0, V7_0, V8_0⟩ hn186) (by rw [hml]; rfl) pd_0 (argsL := [(.int (Int32.ofNat n100)), (.int (Int32.ofNat n102))]) rfl (rest := []) rfl (hb hby d5_60) 0 (Nat.le_of_eq rfl) (by decide) (by decide) (by decide) (by decide) 63 rfl (fun T187 L187 v187 X187 hQ187 => ?_)
      obtain ⟨rfl, N187, Z187, B187⟩ := hQ187
      have N188 := Fr.app N0 N187
      obtain ⟨E187, F0_187, F1_187, F2_187, F3_187, F4_187, F5_187, F6_187, F7_187, F8_187, V0_187, V1_187, V2_187, V3_187, V4_187, V5_187, V6_187, V7_187, V8_187⟩ := B187
      show own_Go p e below G (T187.setTop (mkF m 63 #[.val (.ref a), .val (.int (Int32.ofNat ee)), .val (.int (Int32.ofNat n98)), .val (.int (Int32.ofNat n100)), .val (.int (Int32.ofNat n102))] []))
      refine own_aloadN X187 hx (hb hby d5_63) rfl rfl 64 rfl ?_
      refine own_getF X187 hx hZ hown (own_w hw 28 rfl) Via.refl (rfl : T187.heap = T187.heap) F5_187 (hb hby d5_64) 67 rfl (fun T189 X189 e189 => ?_)
      refine own_iloadN X189 hx (hb hby d5_67) rfl 68 rfl ?_
      refine own_dup2 X189 hx (hb hby d5_68) rfl rfl 69 rfl ?_
      obtain ⟨n190, hn190, hs190⟩ := own_be hs186
      refine own_iaload X189 hx hZ e189 V7_187 n98 rfl (Int32.ofNat n190) (own_ld hn190) (hb hby d5_69) 70 rfl ?_
      refine own_iconst X189 hx (hb hby d5_70) (1 : Int32) rfl 71 rfl ?_
      refine own_iaddE X189 hx (hb hby d5_71) (Int32.ofNat (n190 + 1)) (own_addN n190 1) 72 rfl ?_
      obtain ⟨n191, hn191, hs191⟩ := own_be hs190
      refine own_iastore X189 hx hZ e189 V7_187 n98 rfl (own_sl hn191) (hb hby d5_72) 73 rfl (fun T192 h192 X192 e192 W192 V192 => ?_)
      rw [show (own_M un).set n98 (Int32.ofNat (n190 + 1)) = (own_M n191) from (own_setM hn191)] at V192
      have N193 := Fr.snoc X192 N188 (by omega)
      have Z194 : n0 ≤ h192.size := by rw [W192.size]; exact Z187
      have E195 := E187.wr W192
      have F196 := F0_187.other W192 (Or.inl (Nat.ne_of_lt (by omega)))
      have F197 := F1_187.other W192 (Or.inl (Nat.ne_of_lt (by omega)))
      have F198 := F2_187.other W192 (Or.inl (Nat.ne_of_lt (by omega)))
      have F199 := F3_187.other W192 (Or.inl (Nat.ne_of_lt (by omega)))
      have F200 := F4_187.other W192 (Or.inl (Nat.ne_of_lt (by omega)))
      have F201 := F5_187.other W192 (Or.inl (Nat.ne_of_lt (by omega)))
      have F202 := F6_187.other W192 (Or.inl (Nat.ne_of_lt (by omega)))
      have F203 := F7_187.other W192 (Or.inl (Nat.ne_of_lt (by omega)))
      have F204 := F8_187.other W192 (Or.inl (Nat.ne_of_lt (by omega)))
      have V205 := V0_187.other W192 (Nat.ne_of_lt (by omega))
      have V206 := V1_187.other W192 (Nat.ne_of_lt (by omega))
      have V207 := V2_187.other W192 (Nat.ne_of_lt (by omega))
      have V208 := V3_187.other W192 (Nat.ne_of_lt (by omega))
      have V209 := V4_187.other W192 (Nat.ne_of_lt (by omega))
      have V210 := V5_187.other W192 (Nat.ne_of_lt (by omega))
      have V211 := V6_187.other W192 (Nat.ne_of_lt (by omega))
      have V212 := V8_187.other W192 (Ne.symm (Nat.ne_of_lt (by omega)))
      cases hs191
      refine own_return X192 hx Bd.notSynchronized hG Bd.returns (hb hby d5_73) (by decide) (by decide) ?_
      rw [e192]
      exact ⟨rfl, N193, Z194, ⟨E195, F196, F197, F198, F199, F200, F201, F202, F203, F204, V205, V206, V207, V208, V209, V210, V211, V192, V212⟩⟩
theorem ef_rmSplit (m : MethodId) (x0 : Addr) : entryFrame m #[(.ref x0)] 6 = mkF m 0 #[.val (.ref x0), .unset, .unset, .unset, .unset, .unset] [] := by first | (simp [entryFrame, mkF, argsToLocals, Value.category, maxLocals]; done) | rfl
set_option maxRecDepth 65536 in
set_option maxHeartbeats 40000000 in
theorem rmSplit (l : Launch) (Z : State) (a0 : Array Value) (hw : ∀ d ∈ tables_1, d.before a0 Z = true) (ws : List Jvm.Cond) (ka ma a el_ pl_ so_ fi_ en_ un_ to_ : Addr) (KL ML el pl so fi en un to : List Nat) (cnt tc : Nat) (el' pl' so' fi' en' un' to' : List Nat) (cnt' tc' : Nat) (h0 : Heap) (n0 : Nat) (Z0 : n0 ≤ h0.size) (ga : n0 ≤ ka) (hord : own_Or ka ma a el_ pl_ so_ fi_ en_ un_ to_) (B : own_PE Z h0 ka ma a el_ pl_ so_ fi_ en_ un_ to_ KL ML el pl so fi en un to cnt tc) (hs : own_out 6 el pl so fi en un to cnt tc 0 = some ⟨el', pl', so', fi', en', un', to', cnt', tc'⟩) :
    MetFree l own_y7 (head1 (Jvm.Cond.code own_y7 prog_71_method_7_code 6 none :: ws) ({ frames := 0, cells := 0, slots := 0, locals := 0 } : Room)) (fun aR U => aR = #[(.ref a)] ∧ Z.Warmed39 U.vm ∧ U.heap = h0) (fun _ _ _ _ _ => True) (fun _ U o U' => ∃ v L, o = .returned v ∧ QS Z ka ma a el_ pl_ so_ fi_ en_ un_ to_ KL ML el' pl' so' fi' en' un' to' cnt' tc' n0 v U'.heap L ∧ FrameEnd U o U' L ({ frames := 0, cells := 0, slots := 0, locals := 0 } : Room).cells ({ frames := 0, cells := 0, slots := 0, locals := 0 } : Room).slots) := by
  refine MetFree.of_bodySF pf_7 hisR ?_
  intro p e s m args below meth c s₁ Bd hml0 hP hK
  obtain ⟨rfl, hZ, hhE⟩ := hP
  have hx := Bd.exec
  have hby := Bd.bytes
  have hml : c.maxLocals = 6 := hml0
  have hown : s.vm.findClass "com/example/libhedge/libhedge/RefinablePartition" = some m.cls := findClass_of_methodNamed Bd.named
  have hnm := (name_of_methodNamed Bd.named Bd.method).1
  have X0 : Stand p l e ({ frames := 0, cells := 0, slots := 0, locals := 0 } : Room) s m #[(.ref a)] below meth c s₁ [] 0 0 := Stand.of_body Bd
  have e0 : s₁.heap = h0 := by rw [← hhE, Bd.state]; rfl
  have N0 := Fr.nil n0
  show own_Go p e below (own_Post s (QS Z ka ma a el_ pl_ so_ fi_ en_ un_ to_ KL ML el' pl' so' fi' en' un' to' cnt' tc' n0) ({ frames := 0, cells := 0, slots := 0, locals := 0 } : Room).cells ({ frames := 0, cells := 0, slots := 0, locals := 0 } : Room).slots) (s₁.setTop (entryFrame m #[(.ref a)] 6))
  rw [ef_rmSplit]
  generalize hG : own_Post s (QS Z ka ma a el_ pl_ so_ fi_ en_ un_ to_ KL ML el' pl' so' fi' en' un' to' cnt' tc' n0) ({ frames := 0, cells := 0, slots := 0, locals := 0 } : Room).cells ({ frames := 0, cells := 0, slots := 0, locals := 0 } : Room).slots = G
  obtain ⟨o0, o1, o2, o3, o4, o5, o6, o7, o8⟩ := id hord
  obtain ⟨E0, F0_0, F1_0, F2_0, F3_0, F4_0, F5_0, F6_0, F7_0, F8_0, V0_0, V1_0, V2_0, V3_0, V4_0, V5_0, V6_0, V7_0, V8_0⟩ := B
  have ga' : @LE.le Nat _ n0 ka := ga
  have kout : ∀ fuel : Nat, ∀ (el pl so fi en un to : List Nat) (cnt tc i : Nat) (s2 s3 s4 s5 : Slot) (o2 : s2 = .unset ∨ ∃ w, s2 = .val w ∧ w.category = 1) (o3 : s3 = .unset ∨ ∃ w, s3 = .val w ∧ w.category = 1) (o4 : s4 = .unset ∨ ∃ w, s4 = .val w ∧ w.category = 1) (o5 : s5 = .unset ∨ ∃ w, s5 = .val w ∧ w.category = 1) (T213 : State) (h213 : Heap) (lc213 : List Loc), own_out fuel el pl so fi en un to cnt tc i = some ⟨el', pl', so', fi', en', un', to', cnt', tc'⟩ → Stand p l e ({ frames := 0, cells := 0, slots := 0, locals := 0 } : Room) s m #[.ref a] below meth c T213 lc213 0 0 → T213.heap = h213 → Fr n0 lc213 → n0 ≤ h213.size → Exa Z h213 a "com/example/libhedge/libhedge/RefinablePartition" → Fld Z h213 a "com/example/libhedge/libhedge/RefinablePartition" "elements" "[I" (.ref el_) → Fld Z h213 a "com/example/libhedge/libhedge/RefinablePartition" "placeOf" "[I" (.ref pl_) → Fld Z h213 a "com/example/libhedge/libhedge/RefinablePartition" "setOf" "[I" (.ref so_) → Fld Z h213 a "com/example/libhedge/libhedge/RefinablePartition" "first" "[I" (.ref fi_) → Fld Z h213 a "com/example/libhedge/libhedge/RefinablePartition" "end" "[I" (.ref en_) → Fld Z h213 a "com/example/libhedge/libhedge/RefinablePartition" "unmarked" "[I" (.ref un_) → Fld Z h213 a "com/example/libhedge/libhedge/RefinablePartition" "touched" "[I" (.ref to_) → Fld Z h213 a "com/example/libhedge/libhedge/RefinablePartition" "setCount" "I" (.int (Int32.ofNat cnt)) → Fld Z h213 a "com/example/libhedge/libhedge/RefinablePartition" "touchedCount" "I" (.int (Int32.ofNat tc)) → own_A .int Value.int Z h213 ka (own_M KL) → own_A .int Value.int Z h213 ma (own_M ML) → own_A .int Value.int Z h213 el_ (own_M el) → own_A .int Value.int Z h213 pl_ (own_M pl) → own_A .int Value.int Z h213 so_ (own_M so) → own_A .int Value.int Z h213 fi_ (own_M fi) → own_A .int Value.int Z h213 en_ (own_M en) → own_A .int Value.int Z h213 un_ (own_M un) → own_A .int Value.int Z h213 to_ (own_M to) → own_Go p e below G (T213.setTop (mkF m 2 #[.val (.ref a), .val (.int (Int32.ofNat i)), s2, s3, s4, s5] [])) := by
    intro fuel
    induction fuel with
    | zero =>
      intro el pl so fi en un to cnt tc i s2 s3 s4 s5 o2 o3 o4 o5 T213 h213 lc213 hs213 X213 e213 N213 Z213 J0_213 J1_213 J2_213 J3_213 J4_213 J5_213 J6_213 J7_213 J8_213 J9_213 J10_213 J11_213 J12_213 J13_213 J14_213 J15_213 J16_213 J17_213 J18_213
      simp [own_out] at hs213
    | succ fuel ih =>
      intro el pl so fi en un to cnt tc i s2 s3 s4 s5 o2 o3 o4 o5 T213 h213 lc213 hs213 X213 e213 N213 Z213 J0_213 J1_213 J2_213 J3_213 J4_213 J5_213 J6_213 J7_213 J8_213 J9_213 J10_213 J11_213 J12_213 J13_213 J14_213 J15_213 J16_213 J17_213 J18_213
      rw [own_out] at hs213
      have k180 : ∀ (so fi en un : List Nat) (cnt set : Nat) (s3 s4 s5 : Slot) (o3 : s3 = .unset ∨ ∃ w, s3 = .val w ∧ w.category = 1) (o4 : s4 = .unset ∨ ∃ w, s4 = .val w ∧ w.category = 1) (o5 : s5 = .unset ∨ ∃ w, s5 = .val w ∧ w.category = 1) (T214 : State) (h214 : Heap) (lc214 : List Loc), own_180 fi un set (fun un2 => own_out fuel el pl so fi en un2 to cnt tc (i + 1)) = some ⟨el', pl', so', fi', en', un', to', cnt', tc'⟩ → Stand p l e ({ frames := 0, cells := 0, slots := 0, locals := 0 } : Room) s m #[.ref a] below meth c T214 lc214 0 0 → T214.heap = h214 → Fr n0 lc214 → n0 ≤ h214.size → Exa Z h214 a "com/example/libhedge/libhedge/RefinablePartition" → Fld Z h214 a "com/example/libhedge/libhedge/RefinablePartition" "elements" "[I" (.ref el_) → Fld Z h214 a "com/example/libhedge/libhedge/RefinablePartition" "placeOf" "[I" (.ref pl_) → Fld Z h214 a "com/example/libhedge/libhedge/RefinablePartition" "setOf" "[I" (.ref so_) → Fld Z h214 a "com/example/libhedge/libhedge/RefinablePartition" "first" "[I" (.ref fi_) → Fld Z h214 a "com/example/libhedge/libhedge/RefinablePartition" "end" "[I" (.ref en_) → Fld Z h214 a "com/example/libhedge/libhedge/RefinablePartition" "unmarked" "[I" (.ref un_) → Fld Z h214 a "com/example/libhedge/libhedge/RefinablePartition" "touched" "[I" (.ref to_) → Fld Z h214 a "com/example/libhedge/libhedge/RefinablePartition" "setCount" "I" (.int (Int32.ofNat cnt)) → Fld Z h214 a "com/example/libhedge/libhedge/RefinablePartition" "touchedCount" "I" (.int (Int32.ofNat tc)) → own_A .int Value.int Z h214 ka (own_M KL) → own_A .int Value.int Z h214 ma (own_M ML) → own_A .int Value.int Z h214 el_ (own_M el) → own_A .int Value.int Z h214 pl_ (own_M pl) → own_A .int Value.int Z h214 so_ (own_M so) → own_A .int Value.int Z h214 fi_ (own_M fi) → own_A .int Value.int Z h214 en_ (own_M en) → own_A .int Value.int Z h214 un_ (own_M un) → own_A .int Value.int Z h214 to_ (own_M to) → own_Go p e below G (T214.setTop (mkF m 180 #[.val (.ref a), .val (.int (Int32.ofNat i)), .val (.int (Int32.ofNat set)), s3, s4, s5] [])) := by
        intro so fi en un cnt set s3 s4 s5 o3 o4 o5 T214 h214 lc214 hs214 X214 e214 N214 Z214 J0_214 J1_214 J2_214 J3_214 J4_214 J5_214 J6_214 J7_214 J8_214 J9_214 J10_214 J11_214 J12_214 J13_214 J14_214 J15_214 J16_214 J17_214 J18_214
        refine own_aloadN X214 hx (hb hby d7_180) rfl rfl 181 rfl ?_
        refine own_getF X214 hx hZ hown (own_w hw 28 rfl) Via.refl e214 J6_214 (hb hby d7_181) 184 rfl (fun T215 X215 e215 => ?_)
        refine own_iloadN X215 hx (hb hby d7_184) rfl 185 rfl ?_
        refine own_aloadN X215 hx (hb hby d7_185) rfl rfl 186 rfl ?_
        refine own_getF X215 hx hZ hown (own_w hw 24 rfl) Via.refl e215 J4_214 (hb hby d7_186) 189 rfl (fun T216 X216 e216 => ?_)
        refine own_iloadN X216 hx (hb hby d7_189) rfl 190 rfl ?_
        obtain ⟨n217, hn217, hs217⟩ := own_be hs214
        refine own_iaload X216 hx hZ e216 J15_214 set rfl (Int32.ofNat n217) (own_ld hn217) (hb hby d7_190) 191 rfl ?_
        obtain ⟨n218, hn218, hs218⟩ := own_be hs217
        refine own_iastore X216 hx hZ e216 J17_214 set rfl (own_sl hn218) (hb hby d7_191) 192 rfl (fun T219 h219 X219 e219 W219 V219 => ?_)
        rw [show (own_M un).set set (Int32.ofNat n217) = (own_M n218) from (own_setM hn218)] at V219
        have N220 := Fr.snoc X219 N214 (by omega)
        have Z221 : n0 ≤ h219.size := by rw [W219.size]; exact Z214
        have E222 := J0_214.wr W219
        have F223 := J1_214.other W219 (Or.inl (Nat.ne_of_lt (by omega)))
        have F224 := J2_214.other W219 (Or.inl (Nat.ne_of_lt (by omega)))
        have F225 := J3_214.other W219 (Or.inl (Nat.ne_of_lt (by omega)))
        have F226 := J4_214.other W219 (Or.inl (Nat.ne_of_lt (by omega)))
        have F227 := J5_214.other W219 (Or.inl (Nat.ne_of_lt (by omega)))
        have F228 := J6_214.other W219 (Or.inl (Nat.ne_of_lt (by omega)))
        have F229 := J7_214.other W219 (Or.inl (Nat.ne_of_lt (by omega)))
        have F230 := J8_214.other W219 (Or.inl (Nat.ne_of_lt (by omega)))
        have F231 := J9_214.other W219 (Or.inl (Nat.ne_of_lt (by omega)))
        have V232 := J10_214.other W219 (Nat.ne_of_lt (by omega))
        have V233 := J11_214.other W219 (Nat.ne_of_lt (by omega))
        have V234 := J12_214.other W219 (Nat.ne_of_lt (by omega))
        have V235 := J13_214.other W219 (Nat.ne_of_lt (by omega))
        have V236 := J14_214.other W219 (Nat.ne_of_lt (by omega))
        have V237 := J15_214.other W219 (Nat.ne_of_lt (by omega))
        have V238 := J16_214.other W219 (Nat.ne_of_lt (by omega))
        have V239 := J18_214.other W219 (Ne.symm (Nat.ne_of_lt (by omega)))
        refine own_iinc X219 hx (hb hby d7_192) rfl #[.val (.ref a), .val (.int ((Int32.ofNat i) + (1 : Int32))), .val (.int (Int32.ofNat set)), s3, s4, s5] rfl 195 rfl ?_
        rw [show (Int32.ofNat i) + (1 : Int32) = Int32.ofNat (i + 1) from (own_addN i 1).symm]
        refine own_goto X219 hx (hb hby d7_195) 2 ⟨by decide, by decide⟩ ?_
        exact ih el pl so fi en n218 to cnt tc (i + 1) (.val (.int (Int32.ofNat set))) s3 s4 s5 (Or.inr ⟨_, rfl, rfl⟩) o3 o4 o5 T219 h219 _ hs218 X219 e219 N220 Z221 E222 F223 F224 F225 F226 F227 F228 F229 F230 F231 V232 V233 V234 V235 V236 V237 V238 V219 V239
      have k148 : ∀ (fi en un so1 : List Nat) (cnt set part : Nat) (s3 : Slot) (o3 : s3 = .unset ∨ ∃ w, s3 = .val w ∧ w.category = 1), own_180 fi un set (fun un2 => own_out fuel el pl so1 fi en un2 to cnt tc (i + 1)) = some ⟨el', pl', so', fi', en', un', to', cnt', tc'⟩ → ∀ q : Nat, ∀ (so : List Nat) (place : Nat) (T240 : State) (h240 : Heap) (lc240 : List Loc), own_in q en el so part place = some so1 → Stand p l e ({ frames := 0, cells := 0, slots := 0, locals := 0 } : Room) s m #[.ref a] below meth c T240 lc240 0 0 → T240.heap = h240 → Fr n0 lc240 → n0 ≤ h240.size → Exa Z h240 a "com/example/libhedge/libhedge/RefinablePartition" → Fld Z h240 a "com/example/libhedge/libhedge/RefinablePartition" "elements" "[I" (.ref el_) → Fld Z h240 a "com/example/libhedge/libhedge/RefinablePartition" "placeOf" "[I" (.ref pl_) → Fld Z h240 a "com/example/libhedge/libhedge/RefinablePartition" "setOf" "[I" (.ref so_) → Fld Z h240 a "com/example/libhedge/libhedge/RefinablePartition" "first" "[I" (.ref fi_) → Fld Z h240 a "com/example/libhedge/libhedge/RefinablePartition" "end" "[I" (.ref en_) → Fld Z h240 a "com/example/libhedge/libhedge/RefinablePartition" "unmarked" "[I" (.ref un_) → Fld Z h240 a "com/example/libhedge/libhedge/RefinablePartition" "touched" "[I" (.ref to_) → Fld Z h240 a "com/example/libhedge/libhedge/RefinablePartition" "setCount" "I" (.int (Int32.ofNat cnt)) → Fld Z h240 a "com/example/libhedge/libhedge/RefinablePartition" "touchedCount" "I" (.int (Int32.ofNat tc)) → own_A .int Value.int Z h240 ka (own_M KL) → own_A .int Value.int Z h240 ma (own_M ML) → own_A .int Value.int Z h240 el_ (own_M el) → own_A .int Value.int Z h240 pl_ (own_M pl) → own_A .int Value.int Z h240 so_ (own_M so) → own_A .int Value.int Z h240 fi_ (own_M fi) → own_A .int Value.int Z h240 en_ (own_M en) → own_A .int Value.int Z h240 un_ (own_M un) → own_A .int Value.int Z h240 to_ (own_M to) → own_Go p e below G (T240.setTop (mkF m 148 #[.val (.ref a), .val (.int (Int32.ofNat i)), .val (.int (Int32.ofNat set)), s3, .val (.int (Int32.ofNat part)), .val (.int (Int32.ofNat place))] [])) := by
        intro fi en un so1 cnt set part s3 o3 hc q
        induction q with
        | zero =>
          intro so place T240 h240 lc240 hs240 X240 e240 N240 Z240 J0_240 J1_240 J2_240 J3_240 J4_240 J5_240 J6_240 J7_240 J8_240 J9_240 J10_240 J11_240 J12_240 J13_240 J14_240 J15_240 J16_240 J17_240 J18_240
          simp [own_in] at hs240
        | succ q ihq =>
          intro so place T240 h240 lc240 hs240 X240 e240 N240 Z240 J0_240 J1_240 J2_240 J3_240 J4_240 J5_240 J6_240 J7_240 J8_240 J9_240 J10_240 J11_240 J12_240 J13_240 J14_240 J15_240 J16_240 J17_240 J18_240
          rw [own_in] at hs240
          refine own_iload X240 hx (hb hby d7_148) rfl 150 rfl ?_
          refine own_aloadN X240 hx (hb hby d7_150) rfl rfl 151 rfl ?_
          refine own_getF X240 hx hZ hown (own_w hw 26 rfl) Via.refl e240 J5_240 (hb hby d7_151) 154 rfl (fun T241 X241 e241 => ?_)
          refine own_iload X241 hx (hb hby d7_154) rfl 156 rfl ?_
          obtain ⟨n242, hn242, hs242⟩ := own_be hs240
          refine own_iaload X241 hx hZ e241 J16_240 part rfl (Int32.ofNat n242) (own_ld hn242) (hb hby d7_156) 157 rfl ?_
          obtain ⟨hg243, hs243⟩ := own_ifE hs242
          by_cases c244 : place < n242
          ·
            have hs245 := (if_pos c244).symm.trans hs243
            refine own_icmpN X241 hx (hb hby d7_157) (tlt ((own_ltN (a := place) (b := n242) hg243).mpr c244)).2.1 160 rfl ?_
            refine own_aloadN X241 hx (hb hby d7_160) rfl rfl 161 rfl ?_
            refine own_getF X241 hx hZ hown (own_w hw 18 rfl) Via.refl e241 J3_240 (hb hby d7_161) 164 rfl (fun T246 X246 e246 => ?_)
            refine own_aloadN X246 hx (hb hby d7_164) rfl rfl 165 rfl ?_
            refine own_getF X246 hx hZ hown (own_w hw 14 rfl) Via.refl e246 J1_240 (hb hby d7_165) 168 rfl (fun T247 X247 e247 => ?_)
            refine own_iload X247 hx (hb hby d7_168) rfl 170 rfl ?_
            obtain ⟨n248, hn248, hs248⟩ := own_be hs245
            refine own_iaload X247 hx hZ e247 J12_240 place rfl (Int32.ofNat n248) (own_ld hn248) (hb hby d7_170) 171 rfl ?_
            refine own_iload X247 hx (hb hby d7_171) rfl 173 rfl ?_
            obtain ⟨n249, hn249, hs249⟩ := own_be hs248
            refine own_iastore X247 hx hZ e247 J14_240 n248 rfl (own_sl hn249) (hb hby d7_173) 174 rfl (fun T250 h250 X250 e250 W250 V250 => ?_)
            rw [show (own_M so).set n248 (Int32.ofNat part) = (own_M n249) from (own_setM hn249)] at V250
            have N251 := Fr.snoc X250 N240 (by omega)
            have Z252 : n0 ≤ h250.size := by rw [W250.size]; exact Z240
            have E253 := J0_240.wr W250
            have F254 := J1_240.other W250 (Or.inl (Nat.ne_of_lt (by omega)))
            have F255 := J2_240.other W250 (Or.inl (Nat.ne_of_lt (by omega)))
            have F256 := J3_240.other W250 (Or.inl (Nat.ne_of_lt (by omega)))
            have F257 := J4_240.other W250 (Or.inl (Nat.ne_of_lt (by omega)))
            have F258 := J5_240.other W250 (Or.inl (Nat.ne_of_lt (by omega)))
            have F259 := J6_240.other W250 (Or.inl (Nat.ne_of_lt (by omega)))
            have F260 := J7_240.other W250 (Or.inl (Nat.ne_of_lt (by omega)))
            have F261 := J8_240.other W250 (Or.inl (Nat.ne_of_lt (by omega)))
            have F262 := J9_240.other W250 (Or.inl (Nat.ne_of_lt (by omega)))
            have V263 := J10_240.other W250 (Nat.ne_of_lt (by omega))
            have V264 := J11_240.other W250 (Nat.ne_of_lt (by omega))
            have V265 := J12_240.other W250 (Nat.ne_of_lt (by omega))
            have V266 := J13_240.other W250 (Nat.ne_of_lt (by omega))
            have V267 := J15_240.other W250 (Ne.symm (Nat.ne_of_lt (by omega)))
            have V268 := J16_240.other W250 (Ne.symm (Nat.ne_of_lt (by omega)))
            have V269 := J17_240.other W250 (Ne.symm (Nat.ne_of_lt (by omega)))
            have V270 := J18_240.other W250 (Ne.symm (Nat.ne_of_lt (by omega)))
            refine own_iinc X250 hx (hb hby d7_174) rfl #[.val (.ref a), .val (.int (Int32.ofNat i)), .val (.int (Int32.ofNat set)), s3, .val (.int (Int32.ofNat part)), .val (.int ((Int32.ofNat place) + (1 : Int32)))] rfl 177 rfl ?_
            rw [show (Int32.ofNat place) + (1 : Int32) = Int32.ofNat (place + 1) from (own_addN place 1).symm]
            refine own_goto X250 hx (hb hby d7_177) 148 ⟨by decide, by decide⟩ ?_
            exact ihq n249 (place + 1) T250 h250 _ hs249 X250 e250 N251 Z252 E253 F254 F255 F256 F257 F258 F259 F260 F261 F262 V263 V264 V265 V266 V250 V267 V268 V269 V270
          ·
            have hs271 := (if_neg c244).symm.trans hs243
            refine own_icmpY X241 hx (hb hby d7_157) (flt (fun q => c244 ((own_ltN (a := place) (b := n242) hg243).mp q))).2.1 180 ⟨by decide, by decide⟩ ?_
            rw [← Option.some.inj hs271] at hc
            exact k180 so fi en un cnt set s3 (.val (.int (Int32.ofNat part))) (.val (.int (Int32.ofNat place))) o3 (Or.inr ⟨_, rfl, rfl⟩) (Or.inr ⟨_, rfl, rfl⟩) T241 h240 _ hc X241 e241 N240 Z240 J0_240 J1_240 J2_240 J3_240 J4_240 J5_240 J6_240 J7_240 J8_240 J9_240 J10_240 J11_240 J12_240 J13_240 J14_240 J15_240 J16_240 J17_240 J18_240
      refine own_iloadN X213 hx (hb hby d7_2) rfl 3 rfl ?_
      refine own_aloadN X213 hx (hb hby d7_3) rfl rfl 4 rfl ?_
      refine own_getF X213 hx hZ hown (own_w hw 48 rfl) Via.refl e213 J9_213 (hb hby d7_4) 7 rfl (fun T272 X272 e272 => ?_)
      obtain ⟨hg273, hs273⟩ := own_ifE hs213
      by_cases c274 : i < tc
      ·
        have hs275 := (if_pos c274).symm.trans hs273
        refine own_icmpN X272 hx (hb hby d7_7) (tlt ((own_ltN (a := i) (b := tc) hg273).mpr c274)).2.1 10 rfl ?_
        refine own_aloadN X272 hx (hb hby d7_10) rfl rfl 11 rfl ?_
        refine own_getF X272 hx hZ hown (own_w hw 30 rfl) Via.refl e272 J7_213 (hb hby d7_11) 14 rfl (fun T276 X276 e276 => ?_)
        refine own_iloadN X276 hx (hb hby d7_14) rfl 15 rfl ?_
        obtain ⟨n277, hn277, hs277⟩ := own_be hs275
        refine own_iaload X276 hx hZ e276 J18_213 i rfl (Int32.ofNat n277) (own_ld hn277) (hb hby d7_15) 16 rfl ?_
        refine own_istoreN X276 hx (hb hby d7_16) #[.val (.ref a), .val (.int (Int32.ofNat i)), .val (.int (Int32.ofNat n277)), s3, s4, s5] (XS.store1 (o := s2) rfl o2 rfl) 17 rfl ?_
        refine own_aloadN X276 hx (hb hby d7_17) rfl rfl 18 rfl ?_
        refine own_getF X276 hx hZ hown (own_w hw 28 rfl) Via.refl e276 J6_213 (hb hby d7_18) 21 rfl (fun T278 X278 e278 => ?_)
        refine own_iloadN X278 hx (hb hby d7_21) rfl 22 rfl ?_
        obtain ⟨n279, hn279, hs279⟩ := own_be hs277
        refine own_iaload X278 hx hZ e278 J17_213 n277 rfl (Int32.ofNat n279) (own_ld hn279) (hb hby d7_22) 23 rfl ?_
        refine own_istoreN X278 hx (hb hby d7_23) #[.val (.ref a), .val (.int (Int32.ofNat i)), .val (.int (Int32.ofNat n277)), .val (.int (Int32.ofNat n279)), s4, s5] (XS.store1 (o := s3) rfl o3 rfl) 24 rfl ?_
        refine own_iloadN X278 hx (hb hby d7_24) rfl 25 rfl ?_
        refine own_aloadN X278 hx (hb hby d7_25) rfl rfl 26 rfl ?_
        refine own_getF X278 hx hZ hown (own_w hw 26 rfl) Via.refl e278 J5_213 (hb hby d7_26) 29 rfl (fun T280 X280 e280 => ?_)
        refine own_iloadN X280 hx (hb hby d7_29) rfl 30 rfl ?_
        obtain ⟨n281, hn281, hs281⟩ := own_be hs279
        refine own_iaload X280 hx hZ e280 J16_213 n277 rfl (Int32.ofNat n281) (own_ld hn281) (hb hby d7_30) 31 rfl ?_
        obtain ⟨hg282, hs282⟩ := own_ifE hs281
        by_cases c283 : n279 < n281
        ·
          have hs284 := (if_pos c283).symm.trans hs282
          refine own_icmpN X280 hx (hb hby d7_31) (tlt ((own_ltN (a := n279) (b := n281) hg282).mpr c283)).2.1 34 rfl ?_
          refine own_aloadN X280 hx (hb hby d7_34) rfl rfl 35 rfl ?_
          refine own_dup X280 hx (hb hby d7_35) rfl 36 rfl ?_
          refine own_getF X280 hx hZ hown (own_w hw 32 rfl) Via.refl e280 J8_213 (hb hby d7_36) 39 rfl (fun T285 X285 e285 => ?_)
          refine own_dupX1 X285 hx (hb hby d7_39) rfl rfl 40 rfl ?_
          refine own_iconst X285 hx (hb hby d7_40) (1 : Int32) rfl 41 rfl ?_
          refine own_iaddE X285 hx (hb hby d7_41) (Int32.ofNat (cnt + 1)) (own_addN cnt 1) 42 rfl ?_
          refine own_putF X285 hx hZ hown (own_w hw 32 rfl) Via.refl e285 J8_213 J0_213 (Or.inl (own_w hw 33 rfl)) (own_w hw 6 rfl) (ty := .int) (v' := (.int (Int32.ofNat (cnt + 1)))) (by decide) rfl rfl (hb hby d7_42) 45 rfl (fun T286 h286 X286 e286 W286 => ?_)
          have N287 := Fr.snoc X286 N213 (by omega)
          have Z288 : n0 ≤ h286.size := by rw [W286.size]; exact Z213
          have E289 := J0_213.wr W286
          have F290 := J1_213.other W286 (Or.inr (sn_8 hw))
          have F291 := J2_213.other W286 (Or.inr (sn_9 hw))
          have F292 := J3_213.other W286 (Or.inr (sn_10 hw))
          have F293 := J4_213.other W286 (Or.inr (sn_11 hw))
          have F294 := J5_213.other W286 (Or.inr (sn_12 hw))
          have F295 := J6_213.other W286 (Or.inr (sn_13 hw))
          have F296 := J7_213.other W286 (Or.inr (sn_14 hw))
          have F297 := J8_213.same W286
          have F298 := J9_213.other W286 (Or.inr (sn_15 hw))
          have V299 := J10_213.other W286 (Nat.ne_of_lt (by omega))
          have V300 := J11_213.other W286 (Nat.ne_of_lt (by omega))
          have V301 := J12_213.other W286 (Ne.symm (Nat.ne_of_lt (by omega)))
          have V302 := J13_213.other W286 (Ne.symm (Nat.ne_of_lt (by omega)))
          have V303 := J14_213.other W286 (Ne.symm (Nat.ne_of_lt (by omega)))
          have V304 := J15_213.other W286 (Ne.symm (Nat.ne_of_lt (by omega)))
          have V305 := J16_213.other W286 (Ne.symm (Nat.ne_of_lt (by omega)))
          have V306 := J17_213.other W286 (Ne.symm (Nat.ne_of_lt (by omega)))
          have V307 := J18_213.other W286 (Ne.symm (Nat.ne_of_lt (by omega)))
          refine own_istore X286 hx (hb hby d7_45) #[.val (.ref a), .val (.int (Int32.ofNat i)), .val (.int (Int32.ofNat n277)), .val (.int (Int32.ofNat n279)), .val (.int (Int32.ofNat cnt)), s5] (XS.store1 (o := s4) rfl o4 rfl) 47 rfl ?_
          refine own_iloadN X286 hx (hb hby d7_47) rfl 48 rfl ?_
          refine own_aloadN X286 hx (hb hby d7_48) rfl rfl 49 rfl ?_
          refine own_getF X286 hx hZ hown (own_w hw 24 rfl) Via.refl e286 F293 (hb hby d7_49) 52 rfl (fun T308 X308 e308 => ?_)
          refine own_iloadN X308 hx (hb hby d7_52) rfl 53 rfl ?_
          obtain ⟨n309, hn309, hs309⟩ := own_be hs284
          refine own_iaload X308 hx hZ e308 V304 n277 rfl (Int32.ofNat n309) (own_ld hn309) (hb hby d7_53) 54 rfl ?_
          obtain ⟨hg310, hs310⟩ := own_ifE hs309
          refine own_isubE X308 hx (hb hby d7_54) (Int32.ofNat (n279 - n309)) (own_subN hg310) 55 rfl ?_
          refine own_aloadN X308 hx (hb hby d7_55) rfl rfl 56 rfl ?_
          refine own_getF X308 hx hZ hown (own_w hw 26 rfl) Via.refl e308 F294 (hb hby d7_56) 59 rfl (fun T311 X311 e311 => ?_)
          refine own_iloadN X311 hx (hb hby d7_59) rfl 60 rfl ?_
          obtain ⟨n312, hn312, hs312⟩ := own_be hs310
          refine own_iaload X311 hx hZ e311 V305 n277 rfl (Int32.ofNat n312) (own_ld hn312) (hb hby d7_60) 61 rfl ?_
          refine own_iloadN X311 hx (hb hby d7_61) rfl 62 rfl ?_
          obtain ⟨hg313, hs313⟩ := own_ifE hs312
          refine own_isubE X311 hx (hb hby d7_62) (Int32.ofNat (n312 - n279)) (own_subN hg313) 63 rfl ?_
          obtain ⟨hg314, hs314⟩ := own_ifE hs313
          by_cases c315 : (n312 - n279) < (n279 - n309)
          ·
            have hs316 := (if_pos c315).symm.trans hs314
            refine own_icmpY X311 hx (hb hby d7_63) (tlt ((own_ltN (a := (n312 - n279)) (b := (n279 - n309)) hg314).mpr c315)).2.2.1 97 ⟨by decide, by decide⟩ ?_
            refine own_aloadN X311 hx (hb hby d7_97) rfl rfl 98 rfl ?_
            refine own_getF X311 hx hZ hown (own_w hw 24 rfl) Via.refl e311 F293 (hb hby d7_98) 101 rfl (fun T317 X317 e317 => ?_)
            refine own_iload X317 hx (hb hby d7_101) rfl 103 rfl ?_
            refine own_iloadN X317 hx (hb hby d7_103) rfl 104 rfl ?_
            obtain ⟨n318, hn318, hs318⟩ := own_be hs316
            refine own_iastore X317 hx hZ e317 V304 cnt rfl (own_sl hn318) (hb hby d7_104) 105 rfl (fun T319 h319 X319 e319 W319 V319 => ?_)
            rw [show (own_M fi).set cnt (Int32.ofNat n279) = (own_M n318) from (own_setM hn318)] at V319
            have N320 := Fr.snoc X319 N287 (by omega)
            have Z321 : n0 ≤ h319.size := by rw [W319.size]; exact Z288
            have E322 := E289.wr W319
            have F323 := F290.other W319 (Or.inl (Nat.ne_of_lt (by omega)))
            have F324 := F291.other W319 (Or.inl (Nat.ne_of_lt (by omega)))
            have F325 := F292.other W319 (Or.inl (Nat.ne_of_lt (by omega)))
            have F326 := F293.other W319 (Or.inl (Nat.ne_of_lt (by omega)))
            have F327 := F294.other W319 (Or.inl (Nat.ne_of_lt (by omega)))
            have F328 := F295.other W319 (Or.inl (Nat.ne_of_lt (by omega)))
            have F329 := F296.other W319 (Or.inl (Nat.ne_of_lt (by omega)))
            have F330 := F297.other W319 (Or.inl (Nat.ne_of_lt (by omega)))
            have F331 := F298.other W319 (Or.inl (Nat.ne_of_lt (by omega)))
            have V332 := V299.other W319 (Nat.ne_of_lt (by omega))
            have V333 := V300.other W319 (Nat.ne_of_lt (by omega))
            have V334 := V301.other W319 (Nat.ne_of_lt (by omega))
            have V335 := V302.other W319 (Nat.ne_of_lt (by omega))
            have V336 := V303.other W319 (Nat.ne_of_lt (by omega))
            have V337 := V305.other W319 (Ne.symm (Nat.ne_of_lt (by omega)))
            have V338 := V306.other W319 (Ne.symm (Nat.ne_of_lt (by omega)))
            have V339 := V307.other W319 (Ne.symm (Nat.ne_of_lt (by omega)))
            refine own_aloadN X319 hx (hb hby d7_105) rfl rfl 106 rfl ?_
            refine own_getF X319 hx hZ hown (own_w hw 26 rfl) Via.refl e319 F327 (hb hby d7_106) 109 rfl (fun T340 X340 e340 => ?_)
            refine own_iload X340 hx (hb hby d7_109) rfl 111 rfl ?_
            refine own_aloadN X340 hx (hb hby d7_111) rfl rfl 112 rfl ?_
            refine own_getF X340 hx hZ hown (own_w hw 26 rfl) Via.refl e340 F327 (hb hby d7_112) 115 rfl (fun T341 X341 e341 => ?_)
            refine own_iloadN X341 hx (hb hby d7_115) rfl 116 rfl ?_
            obtain ⟨n342, hn342, hs342⟩ := own_be hs318
            refine own_iaload X341 hx hZ e341 V337 n277 rfl (Int32.ofNat n342) (own_ld hn342) (hb hby d7_116) 117 rfl ?_
            obtain ⟨n343, hn343, hs343⟩ := own_be hs342
            refine own_iastore X341 hx hZ e341 V337 cnt rfl (own_sl hn343) (hb hby d7_117) 118 rfl (fun T344 h344 X344 e344 W344 V344 => ?_)
            rw [show (own_M en).set cnt (Int32.ofNat n342) = (own_M n343) from (own_setM hn343)] at V344
            have N345 := Fr.snoc X344 N320 (by omega)
            have Z346 : n0 ≤ h344.size := by rw [W344.size]; exact Z321
            have E347 := E322.wr W344
            have F348 := F323.other W344 (Or.inl (Nat.ne_of_lt (by omega)))
            have F349 := F324.other W344 (Or.inl (Nat.ne_of_lt (by omega)))
            have F350 := F325.other W344 (Or.inl (Nat.ne_of_lt (by omega)))
            have F351 := F326.other W344 (Or.inl (Nat.ne_of_lt (by omega)))
            have F352 := F327.other W344 (Or.inl (Nat.ne_of_lt (by omega)))
            have F353 := F328.other W344 (Or.inl (Nat.ne_of_lt (by omega)))
            have F354 := F329.other W344 (Or.inl (Nat.ne_of_lt (by omega)))
            have F355 := F330.other W344 (Or.inl (Nat.ne_of_lt (by omega)))
            have F356 := F331.other W344 (Or.inl (Nat.ne_of_lt (by omega)))
            have V357 := V332.other W344 (Nat.ne_of_lt (by omega))
            have V358 := V333.other W344 (Nat.ne_of_lt (by omega))
            have V359 := V334.other W344 (Nat.ne_of_lt (by omega))
            have V360 := V335.other W344 (Nat.ne_of_lt (by omega))
            have V361 := V336.other W344 (Nat.ne_of_lt (by omega))
            have V362 := V338.other W344 (Ne.symm (Nat.ne_of_lt (by omega)))
            have V363 := V339.other W344 (Ne.symm (Nat.ne_of_lt (by omega)))
            have V364 := V319.other W344 (Nat.ne_of_lt (by omega))
            refine own_aloadN X344 hx (hb hby d7_118) rfl rfl 119 rfl ?_
            refine own_getF X344 hx hZ hown (own_w hw 26 rfl) Via.refl e344 F352 (hb hby d7_119) 122 rfl (fun T365 X365 e365 => ?_)
            refine own_iloadN X365 hx (hb hby d7_122) rfl 123 rfl ?_
            refine own_iloadN X365 hx (hb hby d7_123) rfl 124 rfl ?_
            obtain ⟨n366, hn366, hs366⟩ := own_be hs343
            refine own_iastore X365 hx hZ e365 V344 n277 rfl (own_sl hn366) (hb hby d7_124) 125 rfl (fun T367 h367 X367 e367 W367 V367 => ?_)
            rw [show (own_M n343).set n277 (Int32.ofNat n279) = (own_M n366) from (own_setM hn366)] at V367
            have N368 := Fr.snoc X367 N345 (by omega)
            have Z369 : n0 ≤ h367.size := by rw [W367.size]; exact Z346
            have E370 := E347.wr W367
            have F371 := F348.other W367 (Or.inl (Nat.ne_of_lt (by omega)))
            have F372 := F349.other W367 (Or.inl (Nat.ne_of_lt (by omega)))
            have F373 := F350.other W367 (Or.inl (Nat.ne_of_lt (by omega)))
            have F374 := F351.other W367 (Or.inl (Nat.ne_of_lt (by omega)))
            have F375 := F352.other W367 (Or.inl (Nat.ne_of_lt (by omega)))
            have F376 := F353.other W367 (Or.inl (Nat.ne_of_lt (by omega)))
            have F377 := F354.other W367 (Or.inl (Nat.ne_of_lt (by omega)))
            have F378 := F355.other W367 (Or.inl (Nat.ne_of_lt (by omega)))
            have F379 := F356.other W367 (Or.inl (Nat.ne_of_lt (by omega)))
            have V380 := V357.other W367 (Nat.ne_of_lt (by omega))
            have V381 := V358.other W367 (Nat.ne_of_lt (by omega))
            have V382 := V359.other W367 (Nat.ne_of_lt (by omega))
            have V383 := V360.other W367 (Nat.ne_of_lt (by omega))
            have V384 := V361.other W367 (Nat.ne_of_lt (by omega))
            have V385 := V362.other W367 (Ne.symm (Nat.ne_of_lt (by omega)))
            have V386 := V363.other W367 (Ne.symm (Nat.ne_of_lt (by omega)))
            have V387 := V364.other W367 (Nat.ne_of_lt (by omega))
            refine own_aloadN X367 hx (hb hby d7_125) rfl rfl 126 rfl ?_
            refine own_getF X367 hx hZ hown (own_w hw 28 rfl) Via.refl e367 F376 (hb hby d7_126) 129 rfl (fun T388 X388 e388 => ?_)
            refine own_iload X388 hx (hb hby d7_129) rfl 131 rfl ?_
            refine own_aloadN X388 hx (hb hby d7_131) rfl rfl 132 rfl ?_
            refine own_getF X388 hx hZ hown (own_w hw 24 rfl) Via.refl e388 F374 (hb hby d7_132) 135 rfl (fun T389 X389 e389 => ?_)
            refine own_iload X389 hx (hb hby d7_135) rfl 137 rfl ?_
            obtain ⟨n390, hn390, hs390⟩ := own_be hs366
            refine own_iaload X389 hx hZ e389 V387 cnt rfl (Int32.ofNat n390) (own_ld hn390) (hb hby d7_137) 138 rfl ?_
            obtain ⟨n391, hn391, hs391⟩ := own_be hs390
            refine own_iastore X389 hx hZ e389 V385 cnt rfl (own_sl hn391) (hb hby d7_138) 139 rfl (fun T392 h392 X392 e392 W392 V392 => ?_)
            rw [show (own_M un).set cnt (Int32.ofNat n390) = (own_M n391) from (own_setM hn391)] at V392
            have N393 := Fr.snoc X392 N368 (by omega)
            have Z394 : n0 ≤ h392.size := by rw [W392.size]; exact Z369
            have E395 := E370.wr W392
            have F396 := F371.other W392 (Or.inl (Nat.ne_of_lt (by omega)))
            have F397 := F372.other W392 (Or.inl (Nat.ne_of_lt (by omega)))
            have F398 := F373.other W392 (Or.inl (Nat.ne_of_lt (by omega)))
            have F399 := F374.other W392 (Or.inl (Nat.ne_of_lt (by omega)))
            have F400 := F375.other W392 (Or.inl (Nat.ne_of_lt (by omega)))
            have F401 := F376.other W392 (Or.inl (Nat.ne_of_lt (by omega)))
            have F402 := F377.other W392 (Or.inl (Nat.ne_of_lt (by omega)))
            have F403 := F378.other W392 (Or.inl (Nat.ne_of_lt (by omega)))
            have F404 := F379.other W392 (Or.inl (Nat.ne_of_lt (by omega)))
            have V405 := V380.other W392 (Nat.ne_of_lt (by omega))
            have V406 := V381.other W392 (Nat.ne_of_lt (by omega))
            have V407 := V382.other W392 (Nat.ne_of_lt (by omega))
            have V408 := V383.other W392 (Nat.ne_of_lt (by omega))
            have V409 := V384.other W392 (Nat.ne_of_lt (by omega))
            have V410 := V386.other W392 (Ne.symm (Nat.ne_of_lt (by omega)))
            have V411 := V387.other W392 (Nat.ne_of_lt (by omega))
            have V412 := V367.other W392 (Nat.ne_of_lt (by omega))
            refine own_aloadN X392 hx (hb hby d7_139) rfl rfl 140 rfl ?_
            refine own_getF X392 hx hZ hown (own_w hw 24 rfl) Via.refl e392 F399 (hb hby d7_140) 143 rfl (fun T413 X413 e413 => ?_)
            refine own_iload X413 hx (hb hby d7_143) rfl 145 rfl ?_
            obtain ⟨n414, hn414, hs414⟩ := own_be hs391
            refine own_iaload X413 hx hZ e413 V411 cnt rfl (Int32.ofNat n414) (own_ld hn414) (hb hby d7_145) 146 rfl ?_
            refine own_istore X413 hx (hb hby d7_146) #[.val (.ref a), .val (.int (Int32.ofNat i)), .val (.int (Int32.ofNat n277)), .val (.int (Int32.ofNat n279)), .val (.int (Int32.ofNat cnt)), .val (.int (Int32.ofNat n414))] (XS.store1 (o := s5) rfl o5 rfl) 148 rfl ?_
            obtain ⟨n415, hn415, hs415⟩ := own_be hs414
            exact k148 n318 n366 n391 n415 (cnt + 1) n277 cnt (.val (.int (Int32.ofNat n279))) (Or.inr ⟨_, rfl, rfl⟩) hs415 7 so n414 T413 h392 _ hn415 X413 e413 N393 Z394 E395 F396 F397 F398 F399 F400 F401 F402 F403 F404 V405 V406 V407 V408 V409 V411 V412 V392 V410
          ·
            have hs416 := (if_neg c315).symm.trans hs314
            refine own_icmpN X311 hx (hb hby d7_63) (flt (fun q => c315 ((own_ltN (a := (n312 - n279)) (b := (n279 - n309)) hg314).mp q))).2.2.1 66 rfl ?_
            refine own_aloadN X311 hx (hb hby d7_66) rfl rfl 67 rfl ?_
            refine own_getF X311 hx hZ hown (own_w hw 24 rfl) Via.refl e311 F293 (hb hby d7_67) 70 rfl (fun T417 X417 e417 => ?_)
            refine own_iload X417 hx (hb hby d7_70) rfl 72 rfl ?_
            refine own_aloadN X417 hx (hb hby d7_72) rfl rfl 73 rfl ?_
            refine own_getF X417 hx hZ hown (own_w hw 24 rfl) Via.refl e417 F293 (hb hby d7_73) 76 rfl (fun T418 X418 e418 => ?_)
            refine own_iloadN X418 hx (hb hby d7_76) rfl 77 rfl ?_
            obtain ⟨n419, hn419, hs419⟩ := own_be hs416
            refine own_iaload X418 hx hZ e418 V304 n277 rfl (Int32.ofNat n419) (own_ld hn419) (hb hby d7_77) 78 rfl ?_
            obtain ⟨n420, hn420, hs420⟩ := own_be hs419
            refine own_iastore X418 hx hZ e418 V304 cnt rfl (own_sl hn420) (hb hby d7_78) 79 rfl (fun T421 h421 X421 e421 W421 V421 => ?_)
            rw [show (own_M fi).set cnt (Int32.ofNat n419) = (own_M n420) from (own_setM hn420)] at V421
            have N422 := Fr.snoc X421 N287 (by omega)
            have Z423 : n0 ≤ h421.size := by rw [W421.size]; exact Z288
            have E424 := E289.wr W421
            have F425 := F290.other W421 (Or.inl (Nat.ne_of_lt (by omega)))
            have F426 := F291.other W421 (Or.inl (Nat.ne_of_lt (by omega)))
            have F427 := F292.other W421 (Or.inl (Nat.ne_of_lt (by omega)))
            have F428 := F293.other W421 (Or.inl (Nat.ne_of_lt (by omega)))
            have F429 := F294.other W421 (Or.inl (Nat.ne_of_lt (by omega)))
            have F430 := F295.other W421 (Or.inl (Nat.ne_of_lt (by omega)))
            have F431 := F296.other W421 (Or.inl (Nat.ne_of_lt (by omega)))
            have F432 := F297.other W421 (Or.inl (Nat.ne_of_lt (by omega)))
            have F433 := F298.other W421 (Or.inl (Nat.ne_of_lt (by omega)))
            have V434 := V299.other W421 (Nat.ne_of_lt (by omega))
            have V435 := V300.other W421 (Nat.ne_of_lt (by omega))
            have V436 := V301.other W421 (Nat.ne_of_lt (by omega))
            have V437 := V302.other W421 (Nat.ne_of_lt (by omega))
            have V438 := V303.other W421 (Nat.ne_of_lt (by omega))
            have V439 := V305.other W421 (Ne.symm (Nat.ne_of_lt (by omega)))
            have V440 := V306.other W421 (Ne.symm (Nat.ne_of_lt (by omega)))
            have V441 := V307.other W421 (Ne.symm (Nat.ne_of_lt (by omega)))
            refine own_aloadN X421 hx (hb hby d7_79) rfl rfl 80 rfl ?_
            refine own_getF X421 hx hZ hown (own_w hw 26 rfl) Via.refl e421 F429 (hb hby d7_80) 83 rfl (fun T442 X442 e442 => ?_)
            refine own_iload X442 hx (hb hby d7_83) rfl 85 rfl ?_
            refine own_iloadN X442 hx (hb hby d7_85) rfl 86 rfl ?_
            obtain ⟨n443, hn443, hs443⟩ := own_be hs420
            refine own_iastore X442 hx hZ e442 V439 cnt rfl (own_sl hn443) (hb hby d7_86) 87 rfl (fun T444 h444 X444 e444 W444 V444 => ?_)
            rw [show (own_M en).set cnt (Int32.ofNat n279) = (own_M n443) from (own_setM hn443)] at V444
            have N445 := Fr.snoc X444 N422 (by omega)
            have Z446 : n0 ≤ h444.size := by rw [W444.size]; exact Z423
            have E447 := E424.wr W444
            have F448 := F425.other W444 (Or.inl (Nat.ne_of_lt (by omega)))
            have F449 := F426.other W444 (Or.inl (Nat.ne_of_lt (by omega)))
            have F450 := F427.other W444 (Or.inl (Nat.ne_of_lt (by omega)))
            have F451 := F428.other W444 (Or.inl (Nat.ne_of_lt (by omega)))
            have F452 := F429.other W444 (Or.inl (Nat.ne_of_lt (by omega)))
            have F453 := F430.other W444 (Or.inl (Nat.ne_of_lt (by omega)))
            have F454 := F431.other W444 (Or.inl (Nat.ne_of_lt (by omega)))
            have F455 := F432.other W444 (Or.inl (Nat.ne_of_lt (by omega)))
            have F456 := F433.other W444 (Or.inl (Nat.ne_of_lt (by omega)))
            have V457 := V434.other W444 (Nat.ne_of_lt (by omega))
            have V458 := V435.other W444 (Nat.ne_of_lt (by omega))
            have V459 := V436.other W444 (Nat.ne_of_lt (by omega))
            have V460 := V437.other W444 (Nat.ne_of_lt (by omega))
            have V461 := V438.other W444 (Nat.ne_of_lt (by omega))
            have V462 := V440.other W444 (Ne.symm (Nat.ne_of_lt (by omega)))
            have V463 := V441.other W444 (Ne.symm (Nat.ne_of_lt (by omega)))
            have V464 := V421.other W444 (Nat.ne_of_lt (by omega))
            refine own_aloadN X444 hx (hb hby d7_87) rfl rfl 88 rfl ?_
            refine own_getF X444 hx hZ hown (own_w hw 24 rfl) Via.refl e444 F451 (hb hby d7_88) 91 rfl (fun T465 X465 e465 => ?_)
            refine own_iloadN X465 hx (hb hby d7_91) rfl 92 rfl ?_
            refine own_iloadN X465 hx (hb hby d7_92) rfl 93 rfl ?_
            obtain ⟨n466, hn466, hs466⟩ := own_be hs443
            refine own_iastore X465 hx hZ e465 V464 n277 rfl (own_sl hn466) (hb hby d7_93) 94 rfl (fun T467 h467 X467 e467 W467 V467 => ?_)
            rw [show (own_M n420).set n277 (Int32.ofNat n279) = (own_M n466) from (own_setM hn466)] at V467
            have N468 := Fr.snoc X467 N445 (by omega)
            have Z469 : n0 ≤ h467.size := by rw [W467.size]; exact Z446
            have E470 := E447.wr W467
            have F471 := F448.other W467 (Or.inl (Nat.ne_of_lt (by omega)))
            have F472 := F449.other W467 (Or.inl (Nat.ne_of_lt (by omega)))
            have F473 := F450.other W467 (Or.inl (Nat.ne_of_lt (by omega)))
            have F474 := F451.other W467 (Or.inl (Nat.ne_of_lt (by omega)))
            have F475 := F452.other W467 (Or.inl (Nat.ne_of_lt (by omega)))
            have F476 := F453.other W467 (Or.inl (Nat.ne_of_lt (by omega)))
            have F477 := F454.other W467 (Or.inl (Nat.ne_of_lt (by omega)))
            have F478 := F455.other W467 (Or.inl (Nat.ne_of_lt (by omega)))
            have F479 := F456.other W467 (Or.inl (Nat.ne_of_lt (by omega)))
            have V480 := V457.other W467 (Nat.ne_of_lt (by omega))
            have V481 := V458.other W467 (Nat.ne_of_lt (by omega))
            have V482 := V459.other W467 (Nat.ne_of_lt (by omega))
            have V483 := V460.other W467 (Nat.ne_of_lt (by omega))
            have V484 := V461.other W467 (Nat.ne_of_lt (by omega))
            have V485 := V462.other W467 (Ne.symm (Nat.ne_of_lt (by omega)))
            have V486 := V463.other W467 (Ne.symm (Nat.ne_of_lt (by omega)))
            have V487 := V444.other W467 (Ne.symm (Nat.ne_of_lt (by omega)))
            refine own_goto X467 hx (hb hby d7_94) 125 ⟨by decide, by decide⟩ ?_
            refine own_aloadN X467 hx (hb hby d7_125) rfl rfl 126 rfl ?_
            refine own_getF X467 hx hZ hown (own_w hw 28 rfl) Via.refl e467 F476 (hb hby d7_126) 129 rfl (fun T488 X488 e488 => ?_)
            refine own_iload X488 hx (hb hby d7_129) rfl 131 rfl ?_
            refine own_aloadN X488 hx (hb hby d7_131) rfl rfl 132 rfl ?_
            refine own_getF X488 hx hZ hown (own_w hw 24 rfl) Via.refl e488 F474 (hb hby d7_132) 135 rfl (fun T489 X489 e489 => ?_)
            refine own_iload X489 hx (hb hby d7_135) rfl 137 rfl ?_
            obtain ⟨n490, hn490, hs490⟩ := own_be hs466
            refine own_iaload X489 hx hZ e489 V467 cnt rfl (Int32.ofNat n490) (own_ld hn490) (hb hby d7_137) 138 rfl ?_
            obtain ⟨n491, hn491, hs491⟩ := own_be hs490
            refine own_iastore X489 hx hZ e489 V485 cnt rfl (own_sl hn491) (hb hby d7_138) 139 rfl (fun T492 h492 X492 e492 W492 V492 => ?_)
            rw [show (own_M un).set cnt (Int32.ofNat n490) = (own_M n491) from (own_setM hn491)] at V492
            have N493 := Fr.snoc X492 N468 (by omega)
            have Z494 : n0 ≤ h492.size := by rw [W492.size]; exact Z469
            have E495 := E470.wr W492
            have F496 := F471.other W492 (Or.inl (Nat.ne_of_lt (by omega)))
            have F497 := F472.other W492 (Or.inl (Nat.ne_of_lt (by omega)))
            have F498 := F473.other W492 (Or.inl (Nat.ne_of_lt (by omega)))
            have F499 := F474.other W492 (Or.inl (Nat.ne_of_lt (by omega)))
            have F500 := F475.other W492 (Or.inl (Nat.ne_of_lt (by omega)))
            have F501 := F476.other W492 (Or.inl (Nat.ne_of_lt (by omega)))
            have F502 := F477.other W492 (Or.inl (Nat.ne_of_lt (by omega)))
            have F503 := F478.other W492 (Or.inl (Nat.ne_of_lt (by omega)))
            have F504 := F479.other W492 (Or.inl (Nat.ne_of_lt (by omega)))
            have V505 := V480.other W492 (Nat.ne_of_lt (by omega))
            have V506 := V481.other W492 (Nat.ne_of_lt (by omega))
            have V507 := V482.other W492 (Nat.ne_of_lt (by omega))
            have V508 := V483.other W492 (Nat.ne_of_lt (by omega))
            have V509 := V484.other W492 (Nat.ne_of_lt (by omega))
            have V510 := V486.other W492 (Ne.symm (Nat.ne_of_lt (by omega)))
            have V511 := V487.other W492 (Nat.ne_of_lt (by omega))
            have V512 := V467.other W492 (Nat.ne_of_lt (by omega))
            refine own_aloadN X492 hx (hb hby d7_139) rfl rfl 140 rfl ?_
            refine own_getF X492 hx hZ hown (own_w hw 24 rfl) Via.refl e492 F499 (hb hby d7_140) 143 rfl (fun T513 X513 e513 => ?_)
            refine own_iload X513 hx (hb hby d7_143) rfl 145 rfl ?_
            obtain ⟨n514, hn514, hs514⟩ := own_be hs491
            refine own_iaload X513 hx hZ e513 V512 cnt rfl (Int32.ofNat n514) (own_ld hn514) (hb hby d7_145) 146 rfl ?_
            refine own_istore X513 hx (hb hby d7_146) #[.val (.ref a), .val (.int (Int32.ofNat i)), .val (.int (Int32.ofNat n277)), .val (.int (Int32.ofNat n279)), .val (.int (Int32.ofNat cnt)), .val (.int (Int32.ofNat n514))] (XS.store1 (o := s5) rfl o5 rfl) 148 rfl ?_
            obtain ⟨n515, hn515, hs515⟩ := own_be hs514
            exact k148 n466 n443 n491 n515 (cnt + 1) n277 cnt (.val (.int (Int32.ofNat n279))) (Or.inr ⟨_, rfl, rfl⟩) hs515 7 so n514 T513 h492 _ hn515 X513 e513 N493 Z494 E495 F496 F497 F498 F499 F500 F501 F502 F503 F504 V505 V506 V507 V508 V509 V512 V511 V492 V510
        ·
          have hs516 := (if_neg c283).symm.trans hs282
          refine own_icmpY X280 hx (hb hby d7_31) (flt (fun q => c283 ((own_ltN (a := n279) (b := n281) hg282).mp q))).2.1 180 ⟨by decide, by decide⟩ ?_
          exact k180 so fi en un cnt n277 (.val (.int (Int32.ofNat n279))) s4 s5 (Or.inr ⟨_, rfl, rfl⟩) o4 o5 T280 h213 _ hs516 X280 e280 N213 Z213 J0_213 J1_213 J2_213 J3_213 J4_213 J5_213 J6_213 J7_213 J8_213 J9_213 J10_213 J11_213 J12_213 J13_213 J14_213 J15_213 J16_213 J17_213 J18_213
      ·
        have hs517 := (if_neg c274).symm.trans hs273
        refine own_icmpY X272 hx (hb hby d7_7) (flt (fun q => c274 ((own_ltN (a := i) (b := tc) hg273).mp q))).2.1 198 ⟨by decide, by decide⟩ ?_
        refine own_aloadN X272 hx (hb hby d7_198) rfl rfl 199 rfl ?_
        refine own_iconst X272 hx (hb hby d7_199) (0 : Int32) rfl 200 rfl ?_
        refine own_putF X272 hx hZ hown (own_w hw 48 rfl) Via.refl e272 J9_213 J0_213 (Or.inl (own_w hw 49 rfl)) (own_w hw 6 rfl) (ty := .int) (v' := (.int (0 : Int32))) (by decide) rfl rfl (hb hby d7_200) 203 rfl (fun T518 h518 X518 e518 W518 => ?_)
        have N519 := Fr.snoc X518 N213 (by omega)
        have Z520 : n0 ≤ h518.size := by rw [W518.size]; exact Z213
        have E521 := J0_213.wr W518
        have F522 := J1_213.other W518 (Or.inr (sn_0 hw))
        have F523 := J2_213.other W518 (Or.inr (sn_1 hw))
        have F524 := J3_213.other W518 (Or.inr (sn_2 hw))
        have F525 := J4_213.other W518 (Or.inr (sn_3 hw))
        have F526 := J5_213.other W518 (Or.inr (sn_4 hw))
        have F527 := J6_213.other W518 (Or.inr (sn_5 hw))
        have F528 := J7_213.other W518 (Or.inr (sn_6 hw))
        have F529 := J8_213.other W518 (Or.inr (sn_7 hw))
        have F530 := J9_213.same W518
        have V531 := J10_213.other W518 (Nat.ne_of_lt (by omega))
        have V532 := J11_213.other W518 (Nat.ne_of_lt (by omega))
        have V533 := J12_213.other W518 (Ne.symm (Nat.ne_of_lt (by omega)))
        have V534 := J13_213.other W518 (Ne.symm (Nat.ne_of_lt (by omega)))
        have V535 := J14_213.other W518 (Ne.symm (Nat.ne_of_lt (by omega)))
        have V536 := J15_213.other W518 (Ne.symm (Nat.ne_of_lt (by omega)))
        have V537 := J16_213.other W518 (Ne.symm (Nat.ne_of_lt (by omega)))
        have V538 := J17_213.other W518 (Ne.symm (Nat.ne_of_lt (by omega)))
        have V539 := J18_213.other W518 (Ne.symm (Nat.ne_of_lt (by omega)))
        cases hs517
        refine own_return X518 hx Bd.notSynchronized hG Bd.returns (hb hby d7_203) (by decide) (by decide) ?_
        rw [e518]
        exact ⟨rfl, N519, Z520, ⟨E521, F522, F523, F524, F525, F526, F527, F528, F529, F530, V531, V532, V533, V534, V535, V536, V537, V538, V539⟩⟩
  refine own_iconst X0 hx (hb hby d7_0) (0 : Int32) rfl 1 rfl ?_
  refine own_istoreN X0 hx (hb hby d7_1) #[.val (.ref a), .val (.int (0 : Int32)), .unset, .unset, .unset, .unset] rfl 2 rfl ?_
  exact kout 6 el pl so fi en un to cnt tc 0 .unset .unset .unset .unset (Or.inl rfl) (Or.inl rfl) (Or.inl rfl) (Or.inl rfl) s₁ h0 _ hs X0 e0 N0 Z0 E0 F0_0 F1_0 F2_0 F3_0 F4_0 F5_0 F6_0 F7_0 F8_0 V0_0 V1_0 V2_0 V3_0 V4_0 V5_0 V6_0 V7_0 V8_0
def QrmCnt (r : Int32) (h0 : Heap) (n0 : Nat) (v : Option Value) (h : Heap) (L : List Loc) : Prop := v = some (.int r) ∧ Fr n0 L ∧ h = h0
theorem ef_rmCnt (m : MethodId) (x0 : Addr) : entryFrame m #[(.ref x0)] 1 = mkF m 0 #[.val (.ref x0)] [] := by first | (simp [entryFrame, mkF, argsToLocals, Value.category, maxLocals]; done) | rfl
set_option maxRecDepth 65536 in
set_option maxHeartbeats 40000000 in
theorem rmCnt (l : Launch) (Z : State) (a0 : Array Value) (hw : ∀ d ∈ tables_1, d.before a0 Z = true) (ws : List Jvm.Cond) (ka ma a el_ pl_ so_ fi_ en_ un_ to_ : Addr) (KL ML el pl so fi en un to : List Nat) (cnt tc : Nat) (h0 : Heap) (n0 : Nat) (B : own_PE Z h0 ka ma a el_ pl_ so_ fi_ en_ un_ to_ KL ML el pl so fi en un to cnt tc) :
    MetFree l own_y9 (head1 (Jvm.Cond.code own_y9 prog_71_method_2_code 1 (some .int) :: ws) ({ frames := 0, cells := 0, slots := 0, locals := 0 } : Room)) (fun aR U => aR = #[(.ref a)] ∧ Z.Warmed39 U.vm ∧ U.heap = h0) (fun _ _ _ _ _ => True) (fun _ U o U' => ∃ v L, o = .returned v ∧ QrmCnt (Int32.ofNat cnt) h0 n0 v U'.heap L ∧ FrameEnd U o U' L ({ frames := 0, cells := 0, slots := 0, locals := 0 } : Room).cells ({ frames := 0, cells := 0, slots := 0, locals := 0 } : Room).slots) := by
  refine MetFree.of_bodySF pf_9 hisR ?_
  intro p e s m args below meth c s₁ Bd hml0 hP hK
  obtain ⟨rfl, hZ, hhE⟩ := hP
  have hx := Bd.exec
  have hby := Bd.bytes
  have hml : c.maxLocals = 1 := hml0
  have hown : s.vm.findClass "com/example/libhedge/libhedge/RefinablePartition" = some m.cls := findClass_of_methodNamed Bd.named
  have hnm := (name_of_methodNamed Bd.named Bd.method).1
  have X0 : Stand p l e ({ frames := 0, cells := 0, slots := 0, locals := 0 } : Room) s m #[(.ref a)] below meth c s₁ [] 0 0 := Stand.of_body Bd
  have e0 : s₁.heap = h0 := by rw [← hhE, Bd.state]; rfl
  have N0 := Fr.nil n0
  show own_Go p e below (own_Post s (QrmCnt (Int32.ofNat cnt) h0 n0) ({ frames := 0, cells := 0, slots := 0, locals := 0 } : Room).cells ({ frames := 0, cells := 0, slots := 0, locals := 0 } : Room).slots) (s₁.setTop (entryFrame m #[(.ref a)] 1))
  rw [ef_rmCnt]
  generalize hG : own_Post s (QrmCnt (Int32.ofNat cnt) h0 n0) ({ frames := 0, cells := 0, slots := 0, locals := 0 } : Room).cells ({ frames := 0, cells := 0, slots := 0, locals := 0 } : Room).slots = G
  obtain ⟨E0, F0_0, F1_0, F2_0, F3_0, F4_0, F5_0, F6_0, F7_0, F8_0, V0_0, V1_0, V2_0, V3_0, V4_0, V5_0, V6_0, V7_0, V8_0⟩ := B
  refine own_aloadN X0 hx (hb hby d9_0) rfl rfl 1 rfl ?_
  refine own_getF X0 hx hZ hown (own_w hw 32 rfl) Via.refl e0 F7_0 (hb hby d9_1) 4 rfl (fun T540 X540 e540 => ?_)
  refine own_ireturn X540 hx Bd.notSynchronized hG Bd.returns (hb hby d9_4) (by decide) (by decide) ?_
  rw [e540]
  exact ⟨rfl, N0, rfl⟩
def QrmSet (r : Int32) (h0 : Heap) (n0 : Nat) (v : Option Value) (h : Heap) (L : List Loc) : Prop := v = some (.int r) ∧ Fr n0 L ∧ h = h0
theorem ef_rmSet (m : MethodId) (x0 : Addr) (x1 : Int32) : entryFrame m #[(.ref x0), (.int x1)] 2 = mkF m 0 #[.val (.ref x0), .val (.int x1)] [] := by first | (simp [entryFrame, mkF, argsToLocals, Value.category, maxLocals]; done) | rfl
set_option maxRecDepth 65536 in
set_option maxHeartbeats 40000000 in
theorem rmSet (l : Launch) (Z : State) (a0 : Array Value) (hw : ∀ d ∈ tables_1, d.before a0 Z = true) (ws : List Jvm.Cond) (ka ma a el_ pl_ so_ fi_ en_ un_ to_ : Addr) (KL ML el pl so fi en un to : List Nat) (cnt tc : Nat) (ee rr : Nat) (h0 : Heap) (n0 : Nat) (B : own_PE Z h0 ka ma a el_ pl_ so_ fi_ en_ un_ to_ KL ML el pl so fi en un to cnt tc) (hr : so[ee]? = some rr) :
    MetFree l own_y11 (head1 (Jvm.Cond.code own_y11 prog_71_method_3_code 2 (some .int) :: ws) ({ frames := 0, cells := 0, slots := 0, locals := 0 } : Room)) (fun aR U => aR = #[(.ref a), (.int (Int32.ofNat ee))] ∧ Z.Warmed39 U.vm ∧ U.heap = h0) (fun _ _ _ _ _ => True) (fun _ U o U' => ∃ v L, o = .returned v ∧ QrmSet (Int32.ofNat rr) h0 n0 v U'.heap L ∧ FrameEnd U o U' L ({ frames := 0, cells := 0, slots := 0, locals := 0 } : Room).cells ({ frames := 0, cells := 0, slots := 0, locals := 0 } : Room).slots) := by
  refine MetFree.of_bodySF pf_11 hisR ?_
  intro p e s m args below meth c s₁ Bd hml0 hP hK
  obtain ⟨rfl, hZ, hhE⟩ := hP
  have hx := Bd.exec
  have hby := Bd.bytes
  have hml : c.maxLocals = 2 := hml0
  have hown : s.vm.findClass "com/example/libhedge/libhedge/RefinablePartition" = some m.cls := findClass_of_methodNamed Bd.named
  have hnm := (name_of_methodNamed Bd.named Bd.method).1
  have X0 : Stand p l e ({ frames := 0, cells := 0, slots := 0, locals := 0 } : Room) s m #[(.ref a), (.int (Int32.ofNat ee))] below meth c s₁ [] 0 0 := Stand.of_body Bd
  have e0 : s₁.heap = h0 := by rw [← hhE, Bd.state]; rfl
  have N0 := Fr.nil n0
  show own_Go p e below (own_Post s (QrmSet (Int32.ofNat rr) h0 n0) ({ frames := 0, cells := 0, slots := 0, locals := 0 } : Room).cells ({ frames := 0, cells := 0, slots := 0, locals := 0 } : Room).slots) (s₁.setTop (entryFrame m #[(.ref a), (.int (Int32.ofNat ee))] 2))
  rw [ef_rmSet]
  generalize hG : own_Post s (QrmSet (Int32.ofNat rr) h0 n0) ({ frames := 0, cells := 0, slots := 0, locals := 0 } : Room).cells ({ frames := 0, cells := 0, slots := 0, locals := 0 } : Room).slots = G
  obtain ⟨E0, F0_0, F1_0, F2_0, F3_0, F4_0, F5_0, F6_0, F7_0, F8_0, V0_0, V1_0, V2_0, V3_0, V4_0, V5_0, V6_0, V7_0, V8_0⟩ := B
  refine own_aloadN X0 hx (hb hby d11_0) rfl rfl 1 rfl ?_
  refine own_getF X0 hx hZ hown (own_w hw 18 rfl) Via.refl e0 F2_0 (hb hby d11_1) 4 rfl (fun T541 X541 e541 => ?_)
  refine own_iloadN X541 hx (hb hby d11_4) rfl 5 rfl ?_
  refine own_iaload X541 hx hZ e541 V4_0 ee rfl (Int32.ofNat rr) (own_ld hr) (hb hby d11_5) 6 rfl ?_
  refine own_ireturn X541 hx Bd.notSynchronized hG Bd.returns (hb hby d11_6) (by decide) (by decide) ?_
  rw [e541]
  exact ⟨rfl, N0, rfl⟩
def QrmSize (r : Int32) (h0 : Heap) (n0 : Nat) (v : Option Value) (h : Heap) (L : List Loc) : Prop := v = some (.int r) ∧ Fr n0 L ∧ h = h0
theorem ef_rmSize (m : MethodId) (x0 : Addr) (x1 : Int32) : entryFrame m #[(.ref x0), (.int x1)] 2 = mkF m 0 #[.val (.ref x0), .val (.int x1)] [] := by first | (simp [entryFrame, mkF, argsToLocals, Value.category, maxLocals]; done) | rfl
set_option maxRecDepth 65536 in
set_option maxHeartbeats 40000000 in
theorem rmSize (l : Launch) (Z : State) (a0 : Array Value) (hw : ∀ d ∈ tables_1, d.before a0 Z = true) (ws : List Jvm.Cond) (ka ma a el_ pl_ so_ fi_ en_ un_ to_ : Addr) (KL ML el pl so fi en un to : List Nat) (cnt tc : Nat) (ss e1 f1 : Nat) (h0 : Heap) (n0 : Nat) (B : own_PE Z h0 ka ma a el_ pl_ so_ fi_ en_ un_ to_ KL ML el pl so fi en un to cnt tc) (he : en[ss]? = some e1) (hf : fi[ss]? = some f1) (hle : f1 ≤ e1) :
    MetFree l own_y12 (head1 (Jvm.Cond.code own_y12 prog_71_method_4_code 2 (some .int) :: ws) ({ frames := 0, cells := 0, slots := 0, locals := 0 } : Room)) (fun aR U => aR = #[(.ref a), (.int (Int32.ofNat ss))] ∧ Z.Warmed39 U.vm ∧ U.heap = h0) (fun _ _ _ _ _ => True) (fun _ U o U' => ∃ v L, o = .returned v ∧ QrmSize (Int32.ofNat (e1 - f1)) h0 n0 v U'.heap L ∧ FrameEnd U o U' L ({ frames := 0, cells := 0, slots := 0, locals := 0 } : Room).cells ({ frames := 0, cells := 0, slots := 0, locals := 0 } : Room).slots) := by
  refine MetFree.of_bodySF pf_12 hisR ?_
  intro p e s m args below meth c s₁ Bd hml0 hP hK
  obtain ⟨rfl, hZ, hhE⟩ := hP
  have hx := Bd.exec
  have hby := Bd.bytes
  have hml : c.maxLocals = 2 := hml0
  have hown : s.vm.findClass "com/example/libhedge/libhedge/RefinablePartition" = some m.cls := findClass_of_methodNamed Bd.named
  have hnm := (name_of_methodNamed Bd.named Bd.method).1
  have X0 : Stand p l e ({ frames := 0, cells := 0, slots := 0, locals := 0 } : Room) s m #[(.ref a), (.int (Int32.ofNat ss))] below meth c s₁ [] 0 0 := Stand.of_body Bd
  have e0 : s₁.heap = h0 := by rw [← hhE, Bd.state]; rfl
  have N0 := Fr.nil n0
  show own_Go p e below (own_Post s (QrmSize (Int32.ofNat (e1 - f1)) h0 n0) ({ frames := 0, cells := 0, slots := 0, locals := 0 } : Room).cells ({ frames := 0, cells := 0, slots := 0, locals := 0 } : Room).slots) (s₁.setTop (entryFrame m #[(.ref a), (.int (Int32.ofNat ss))] 2))
  rw [ef_rmSize]
  generalize hG : own_Post s (QrmSize (Int32.ofNat (e1 - f1)) h0 n0) ({ frames := 0, cells := 0, slots := 0, locals := 0 } : Room).cells ({ frames := 0, cells := 0, slots := 0, locals := 0 } : Room).slots = G
  obtain ⟨E0, F0_0, F1_0, F2_0, F3_0, F4_0, F5_0, F6_0, F7_0, F8_0, V0_0, V1_0, V2_0, V3_0, V4_0, V5_0, V6_0, V7_0, V8_0⟩ := B
  refine own_aloadN X0 hx (hb hby d12_0) rfl rfl 1 rfl ?_
  refine own_getF X0 hx hZ hown (own_w hw 26 rfl) Via.refl e0 F4_0 (hb hby d12_1) 4 rfl (fun T542 X542 e542 => ?_)
  refine own_iloadN X542 hx (hb hby d12_4) rfl 5 rfl ?_
  refine own_iaload X542 hx hZ e542 V6_0 ss rfl (Int32.ofNat e1) (own_ld he) (hb hby d12_5) 6 rfl ?_
  refine own_aloadN X542 hx (hb hby d12_6) rfl rfl 7 rfl ?_
  refine own_getF X542 hx hZ hown (own_w hw 24 rfl) Via.refl e542 F3_0 (hb hby d12_7) 10 rfl (fun T543 X543 e543 => ?_)
  refine own_iloadN X543 hx (hb hby d12_10) rfl 11 rfl ?_
  refine own_iaload X543 hx hZ e543 V5_0 ss rfl (Int32.ofNat f1) (own_ld hf) (hb hby d12_11) 12 rfl ?_
  refine own_isubE X543 hx (hb hby d12_12) (Int32.ofNat (e1 - f1)) (own_subN hle) 13 rfl ?_
  refine own_ireturn X543 hx Bd.notSynchronized hG Bd.returns (hb hby d12_13) (by decide) (by decide) ?_
  rw [e543]
  exact ⟨rfl, N0, rfl⟩
def QE (h0 : Heap) (n0 : Nat) (v : Option Value) (h : Heap) (L : List Loc) : Prop := v = some (.int (1 : Int32)) ∧ Fr n0 L ∧ h = h0
theorem ef_rmElem (m : MethodId) (x0 : Addr) (x1 : Int32) (x2 : Int32) (x3 : Int32) (x4 : Addr) (x5 : Addr) (x6 : Addr) (x7 : Addr) (x8 : Addr) : entryFrame m #[(.ref x0), (.int x1), (.int x2), (.int x3), (.ref x4), (.ref x5), (.ref x6), (.ref x7), (.ref x8)] 13 = mkF m 0 #[.val (.ref x0), .val (.int x1), .val (.int x2), .val (.int x3), .val (.ref x4), .val (.ref x5), .val (.ref x6), .val (.ref x7), .val (.ref x8), .unset, .unset, .unset, .unset] [] := by first | (simp [entryFrame, mkF, argsToLocals, Value.category, maxLocals]; done) | rfl
set_option maxRecDepth 65536 in
set_option maxHeartbeats 40000000 in
theorem rmElem (l : Launch) (Z : State) (a0 : Array Value) (hw : ∀ d ∈ tables_1, d.before a0 Z = true) (ws : List Jvm.Cond) (ka ma a el_ pl_ so_ fi_ en_ un_ to_ : Addr) (KL ML el pl so fi en un to : List Nat) (cnt tc : Nat) (sp_ mm_ uu_ inn_ nw_ : Addr) (sp mm uu inn nw : List Nat) (ee kk mk : Nat) (h0 : Heap) (n0 : Nat) (B : own_PE Z h0 ka ma a el_ pl_ so_ fi_ en_ un_ to_ KL ML el pl so fi en un to cnt tc) (Vsp : own_A .int Value.int Z h0 sp_ (own_M sp)) (Vmm : own_A .int Value.int Z h0 mm_ (own_M mm)) (Vuu : own_A .int Value.int Z h0 uu_ (own_M uu)) (Vinn : own_A .int Value.int Z h0 inn_ (own_M inn)) (Vnw : own_A .int Value.int Z h0 nw_ (own_M nw)) (hs : own_elem so fi en sp mm uu inn nw ee kk mk = some ()) :
    MetFree l own_y10 (head1 (Jvm.Cond.code own_y10 method_4_code 13 (some .boolean) :: ws) ({ frames := 1, cells := 0, slots := 0, locals := 20 } : Room)) (fun aR U => aR = #[(.ref a), (.int (Int32.ofNat ee)), (.int (Int32.ofNat kk)), (.int (Int32.ofNat mk)), (.ref sp_), (.ref mm_), (.ref uu_), (.ref inn_), (.ref nw_)] ∧ Z.Warmed39 U.vm ∧ U.heap = h0) (fun _ _ _ _ _ => True) (fun _ U o U' => ∃ v L, o = .returned v ∧ QE h0 n0 v U'.heap L ∧ FrameEnd U o U' L ({ frames := 1, cells := 0, slots := 0, locals := 20 } : Room).cells ({ frames := 1, cells := 0, slots := 0, locals := 20 } : Room).slots) := by
  refine MetFree.of_bodySF pf_10 hisR ?_
  intro p e s m args below meth c s₁ Bd hml0 hP hK
  obtain ⟨rfl, hZ, hhE⟩ := hP
  have hx := Bd.exec
  have hby := Bd.bytes
  have hml : c.maxLocals = 13 := hml0
  have hown : s.vm.findClass "com/example/libhedge/libhedge/RefinablePartitionSplitPinLaw" = some m.cls := findClass_of_methodNamed Bd.named
  have hnm := (name_of_methodNamed Bd.named Bd.method).1
  have X0 : Stand p l e ({ frames := 1, cells := 0, slots := 0, locals := 20 } : Room) s m #[(.ref a), (.int (Int32.ofNat ee)), (.int (Int32.ofNat kk)), (.int (Int32.ofNat mk)), (.ref sp_), (.ref mm_), (.ref uu_), (.ref inn_), (.ref nw_)] below meth c s₁ [] 0 0 := Stand.of_body Bd
  have e0 : s₁.heap = h0 := by rw [← hhE, Bd.state]; rfl
  have N0 := Fr.nil n0
  show own_Go p e below (own_Post s (QE h0 n0) ({ frames := 1, cells := 0, slots := 0, locals := 20 } : Room).cells ({ frames := 1, cells := 0, slots := 0, locals := 20 } : Room).slots) (s₁.setTop (entryFrame m #[(.ref a), (.int (Int32.ofNat ee)), (.int (Int32.ofNat kk)), (.int (Int32.ofNat mk)), (.ref sp_), (.ref mm_), (.ref uu_), (.ref inn_), (.ref nw_)] 13))
  rw [ef_rmElem]
  generalize hG : own_Post s (QE h0 n0) ({ frames := 1, cells := 0, slots := 0, locals := 20 } : Room).cells ({ frames := 1, cells := 0, slots := 0, locals := 20 } : Room).slots = G
  obtain ⟨E0, F0_0, F1_0, F2_0, F3_0, F4_0, F5_0, F6_0, F7_0, F8_0, V0_0, V1_0, V2_0, V3_0, V4_0, V5_0, V6_0, V7_0, V8_0⟩ := B
  refine own_aload X0 hx (hb hby d10_0) rfl rfl 2 rfl ?_
  refine own_iloadN X0 hx (hb hby d10_2) rfl 3 rfl ?_
  obtain ⟨n544, hn544, hs544⟩ := own_be hs
  refine own_iaload X0 hx hZ e0 Vsp kk rfl (Int32.ofNat n544) (own_ld hn544) (hb hby d10_3) 4 rfl ?_
  obtain ⟨hg545, hs545⟩ := own_ifE hs544
  by_cases c546 : n544 = 0
  ·
    have hs547 := (if_pos c546).symm.trans hs545
    refine own_ifN X0 hx (hb hby d10_4) ((if0 _ _).trans (teq ((own_eqN (a := n544) (b := 0) hg545).mpr c546)).2) 7 rfl ?_
    refine own_aload X0 hx (hb hby d10_7) rfl rfl 9 rfl ?_
    refine own_iloadN X0 hx (hb hby d10_9) rfl 10 rfl ?_
    obtain ⟨n548, hn548, hs548⟩ := own_be hs547
    refine own_iaload X0 hx hZ e0 Vinn kk rfl (Int32.ofNat n548) (own_ld hn548) (hb hby d10_10) 11 rfl ?_
    refine own_istore X0 hx (hb hby d10_11) #[.val (.ref a), .val (.int (Int32.ofNat ee)), .val (.int (Int32.ofNat kk)), .val (.int (Int32.ofNat mk)), .val (.ref sp_), .val (.ref mm_), .val (.ref uu_), .val (.ref inn_), .val (.ref nw_), .val (.int (Int32.ofNat n548)), .unset, .unset, .unset] rfl 13 rfl ?_
    refine own_aload X0 hx (hb hby d10_13) rfl rfl 15 rfl ?_
    refine own_iloadN X0 hx (hb hby d10_15) rfl 16 rfl ?_
    obtain ⟨n549, hn549, hs549⟩ := own_be hs548
    refine own_iaload X0 hx hZ e0 Vmm kk rfl (Int32.ofNat n549) (own_ld hn549) (hb hby d10_16) 17 rfl ?_
    refine own_aload X0 hx (hb hby d10_17) rfl rfl 19 rfl ?_
    refine own_iloadN X0 hx (hb hby d10_19) rfl 20 rfl ?_
    obtain ⟨n550, hn550, hs550⟩ := own_be hs549
    refine own_iaload X0 hx hZ e0 Vuu kk rfl (Int32.ofNat n550) (own_ld hn550) (hb hby d10_20) 21 rfl ?_
    refine own_iaddE X0 hx (hb hby d10_21) (Int32.ofNat (n549 + n550)) (own_addN n549 n550) 22 rfl ?_
    refine own_istore X0 hx (hb hby d10_22) #[.val (.ref a), .val (.int (Int32.ofNat ee)), .val (.int (Int32.ofNat kk)), .val (.int (Int32.ofNat mk)), .val (.ref sp_), .val (.ref mm_), .val (.ref uu_), .val (.ref inn_), .val (.ref nw_), .val (.int (Int32.ofNat n548)), .val (.int (Int32.ofNat (n549 + n550))), .unset, .unset] rfl 24 rfl ?_
    refine own_goto X0 hx (hb hby d10_24) 95 ⟨by decide, by decide⟩ ?_
    refine own_aloadN X0 hx (hb hby d10_95) rfl rfl 96 rfl ?_
    refine own_iloadN X0 hx (hb hby d10_96) rfl 97 rfl ?_
    obtain ⟨n551, hn551, hs551⟩ := own_be hs550
    refine own_callV X0 hx hZ hown (own_w hw 70 rfl) (own_w hw 71 rfl) (own_w hw 73 rfl) (notFace_of_selects (args := #[]) (mvT hZ (own_w hw 73 rfl))) (own_w hw 72 rfl) (own_w hw 7 rfl) (own_w hw 74 rfl) (by decide) e0 E0 (rmSet l Z a0 hw [] ka ma a el_ pl_ so_ fi_ en_ un_ to_ KL ML el pl so fi en un to cnt tc ee n551 h0 n0 ⟨E0, F0_0, F1_0, F2_0, F3_0, F4_0, F5_0, F6_0, F7_0, F8_0, V0_0, V1_0, V2_0, V3_0, V4_0, V5_0, V6_0, V7_0, V8_0⟩ hn551) (by rw [hml]; rfl) pd_1 (argsL := [(.int (Int32.ofNat ee))]) rfl (rest := []) rfl (hb hby d10_97) 0 (Nat.le_of_eq rfl) (by decide) (by decide) (by decide) (by decide) 100 rfl (fun T552 L552 v552 X552 hQ552 => ?_)
    obtain ⟨rfl, N552, e552⟩ := hQ552
    have N553 := Fr.app N0 N552
    show own_Go p e below G (T552.setTop (mkF m 100 #[.val (.ref a), .val (.int (Int32.ofNat ee)), .val (.int (Int32.ofNat kk)), .val (.int (Int32.ofNat mk)), .val (.ref sp_), .val (.ref mm_), .val (.ref uu_), .val (.ref inn_), .val (.ref nw_), .val (.int (Int32.ofNat n548)), .val (.int (Int32.ofNat (n549 + n550))), .unset, .unset] [(.int (Int32.ofNat n551))]))
    refine own_istore X552 hx (hb hby d10_100) #[.val (.ref a), .val (.int (Int32.ofNat ee)), .val (.int (Int32.ofNat kk)), .val (.int (Int32.ofNat mk)), .val (.ref sp_), .val (.ref mm_), .val (.ref uu_), .val (.ref inn_), .val (.ref nw_), .val (.int (Int32.ofNat n548)), .val (.int (Int32.ofNat (n549 + n550))), .val (.int (Int32.ofNat n551)), .unset] rfl 102 rfl ?_
    refine own_iload X552 hx (hb hby d10_102) rfl 104 rfl ?_
    refine own_iload X552 hx (hb hby d10_104) rfl 106 rfl ?_
    obtain ⟨hg554, hs554⟩ := own_ifE hs551
    obtain ⟨hg555, hs555⟩ := own_ifE hs554
    refine own_icmpN X552 hx (hb hby d10_106) (teq ((own_eqN (a := n551) (b := n548) hg554).mpr hg555)).2 109 rfl ?_
    refine own_aloadN X552 hx (hb hby d10_109) rfl rfl 110 rfl ?_
    refine own_iload X552 hx (hb hby d10_110) rfl 112 rfl ?_
    obtain ⟨n556, hn556, hs556⟩ := own_be hs555
    obtain ⟨n557, hn557, hs557⟩ := own_be hs556
    obtain ⟨hg558, hs558⟩ := own_ifE hs557
    refine own_callV X552 hx hZ hown (own_w hw 75 rfl) (own_w hw 76 rfl) (own_w hw 78 rfl) (notFace_of_selects (args := #[]) (mvT hZ (own_w hw 78 rfl))) (own_w hw 77 rfl) (own_w hw 7 rfl) (own_w hw 79 rfl) (by decide) e552 E0 (rmSize l Z a0 hw [] ka ma a el_ pl_ so_ fi_ en_ un_ to_ KL ML el pl so fi en un to cnt tc n551 n556 n557 h0 n0 ⟨E0, F0_0, F1_0, F2_0, F3_0, F4_0, F5_0, F6_0, F7_0, F8_0, V0_0, V1_0, V2_0, V3_0, V4_0, V5_0, V6_0, V7_0, V8_0⟩ hn556 hn557 hg558) (by rw [hml]; rfl) pd_1 (argsL := [(.int (Int32.ofNat n551))]) rfl (rest := []) rfl (hb hby d10_112) 0 (Nat.le_of_eq rfl) (by decide) (by decide) (by decide) (by decide) 115 rfl (fun T559 L559 v559 X559 hQ559 => ?_)
    obtain ⟨rfl, N559, e559⟩ := hQ559
    have N560 := Fr.app N553 N559
    show own_Go p e below G (T559.setTop (mkF m 115 #[.val (.ref a), .val (.int (Int32.ofNat ee)), .val (.int (Int32.ofNat kk)), .val (.int (Int32.ofNat mk)), .val (.ref sp_), .val (.ref mm_), .val (.ref uu_), .val (.ref inn_), .val (.ref nw_), .val (.int (Int32.ofNat n548)), .val (.int (Int32.ofNat (n549 + n550))), .val (.int (Int32.ofNat n551)), .unset] [(.int (Int32.ofNat (n556 - n557)))]))
    refine own_iload X559 hx (hb hby d10_115) rfl 117 rfl ?_
    obtain ⟨hg561, hs561⟩ := own_ifE hs558
    obtain ⟨hg562, hs562⟩ := own_ifE hs561
    refine own_icmpN X559 hx (hb hby d10_117) (teq ((own_eqN (a := (n556 - n557)) (b := (n549 + n550)) hg561).mpr hg562)).2 120 rfl ?_
    refine own_iconst X559 hx (hb hby d10_120) (1 : Int32) rfl 121 rfl ?_
    refine own_goto X559 hx (hb hby d10_121) 125 ⟨by decide, by decide⟩ ?_
    refine own_nreturn X559 hx Bd.notSynchronized hG Bd.returns (by simp) (hb hby d10_125) (by decide) (by decide) ?_
    rw [e559]
    exact ⟨rfl, N560, rfl⟩
  ·
    have hs563 := (if_neg c546).symm.trans hs545
    refine own_ifY X0 hx (hb hby d10_4) ((if0 _ _).trans (feq (fun q => c546 ((own_eqN (a := n544) (b := 0) hg545).mp q))).2) 27 ⟨by decide, by decide⟩ ?_
    refine own_aload X0 hx (hb hby d10_27) rfl rfl 29 rfl ?_
    refine own_iloadN X0 hx (hb hby d10_29) rfl 30 rfl ?_
    obtain ⟨n564, hn564, hs564⟩ := own_be hs563
    refine own_iaload X0 hx hZ e0 Vmm kk rfl (Int32.ofNat n564) (own_ld hn564) (hb hby d10_30) 31 rfl ?_
    refine own_aload X0 hx (hb hby d10_31) rfl rfl 33 rfl ?_
    refine own_iloadN X0 hx (hb hby d10_33) rfl 34 rfl ?_
    obtain ⟨n565, hn565, hs565⟩ := own_be hs564
    refine own_iaload X0 hx hZ e0 Vuu kk rfl (Int32.ofNat n565) (own_ld hn565) (hb hby d10_34) 35 rfl ?_
    obtain ⟨hg566, hs566⟩ := own_ifE hs565
    by_cases c567 : n565 < n564
    ·
      have hs568 := (if_pos c567).symm.trans hs566
      refine own_icmpY X0 hx (hb hby d10_35) (tlt ((own_ltN (a := n565) (b := n564) hg566).mpr c567)).2.2.1 42 ⟨by decide, by decide⟩ ?_
      refine own_iconst X0 hx (hb hby d10_42) (0 : Int32) rfl 43 rfl ?_
      refine own_istore X0 hx (hb hby d10_43) #[.val (.ref a), .val (.int (Int32.ofNat ee)), .val (.int (Int32.ofNat kk)), .val (.int (Int32.ofNat mk)), .val (.ref sp_), .val (.ref mm_), .val (.ref uu_), .val (.ref inn_), .val (.ref nw_), .unset, .unset, .val (.int (0 : Int32)), .unset] rfl 45 rfl ?_
      refine own_iloadN X0 hx (hb hby d10_45) rfl 46 rfl ?_
      refine own_iconst X0 hx (hb hby d10_46) (1 : Int32) rfl 47 rfl ?_
      obtain ⟨hg569, hs569⟩ := own_ifE hs568
      by_cases c570 : mk = 1
      ·
        have hs571 := (if_pos c570).symm.trans hs569
        refine own_icmpN X0 hx (hb hby d10_47) (teq ((own_eqN (a := mk) (b := 1) hg569).mpr c570)).2 50 rfl ?_
        refine own_iconst X0 hx (hb hby d10_50) (1 : Int32) rfl 51 rfl ?_
        refine own_goto X0 hx (hb hby d10_51) 55 ⟨by decide, by decide⟩ ?_
        refine own_istore X0 hx (hb hby d10_55) #[.val (.ref a), .val (.int (Int32.ofNat ee)), .val (.int (Int32.ofNat kk)), .val (.int (Int32.ofNat mk)), .val (.ref sp_), .val (.ref mm_), .val (.ref uu_), .val (.ref inn_), .val (.ref nw_), .unset, .unset, .val (.int (0 : Int32)), .val (.int (1 : Int32))] rfl 57 rfl ?_
        refine own_iload X0 hx (hb hby d10_57) rfl 59 rfl ?_
        refine own_iload X0 hx (hb hby d10_59) rfl 61 rfl ?_
        refine own_icmpY X0 hx (hb hby d10_61) (feq (by decide)).2 71 ⟨by decide, by decide⟩ ?_
        refine own_aload X0 hx (hb hby d10_71) rfl rfl 73 rfl ?_
        refine own_iloadN X0 hx (hb hby d10_73) rfl 74 rfl ?_
        obtain ⟨n572, hn572, hs572⟩ := own_be hs571
        refine own_iaload X0 hx hZ e0 Vinn kk rfl (Int32.ofNat n572) (own_ld hn572) (hb hby d10_74) 75 rfl ?_
        refine own_istore X0 hx (hb hby d10_75) #[.val (.ref a), .val (.int (Int32.ofNat ee)), .val (.int (Int32.ofNat kk)), .val (.int (Int32.ofNat mk)), .val (.ref sp_), .val (.ref mm_), .val (.ref uu_), .val (.ref inn_), .val (.ref nw_), .val (.int (Int32.ofNat n572)), .unset, .val (.int (0 : Int32)), .val (.int (1 : Int32))] rfl 77 rfl ?_
        refine own_iload X0 hx (hb hby d10_77) rfl 79 rfl ?_
        refine own_ifN X0 hx (hb hby d10_79) ((if0 _ _).trans (feq (by decide)).1) 82 rfl ?_
        refine own_aload X0 hx (hb hby d10_82) rfl rfl 84 rfl ?_
        refine own_iloadN X0 hx (hb hby d10_84) rfl 85 rfl ?_
        obtain ⟨n573, hn573, hs573⟩ := own_be hs572
        refine own_iaload X0 hx hZ e0 Vmm kk rfl (Int32.ofNat n573) (own_ld hn573) (hb hby d10_85) 86 rfl ?_
        refine own_goto X0 hx (hb hby d10_86) 93 ⟨by decide, by decide⟩ ?_
        refine own_istore X0 hx (hb hby d10_93) #[.val (.ref a), .val (.int (Int32.ofNat ee)), .val (.int (Int32.ofNat kk)), .val (.int (Int32.ofNat mk)), .val (.ref sp_), .val (.ref mm_), .val (.ref uu_), .val (.ref inn_), .val (.ref nw_), .val (.int (Int32.ofNat n572)), .val (.int (Int32.ofNat n573)), .val (.int (0 : Int32)), .val (.int (1 : Int32))] rfl 95 rfl ?_
        refine own_aloadN X0 hx (hb hby d10_95) rfl rfl 96 rfl ?_
        refine own_iloadN X0 hx (hb hby d10_96) rfl 97 rfl ?_
        obtain ⟨n574, hn574, hs574⟩ := own_be hs573
        refine own_callV X0 hx hZ hown (own_w hw 70 rfl) (own_w hw 71 rfl) (own_w hw 73 rfl) (notFace_of_selects (args := #[]) (mvT hZ (own_w hw 73 rfl))) (own_w hw 72 rfl) (own_w hw 7 rfl) (own_w hw 74 rfl) (by decide) e0 E0 (rmSet l Z a0 hw [] ka ma a el_ pl_ so_ fi_ en_ un_ to_ KL ML el pl so fi en un to cnt tc ee n574 h0 n0 ⟨E0, F0_0, F1_0, F2_0, F3_0, F4_0, F5_0, F6_0, F7_0, F8_0, V0_0, V1_0, V2_0, V3_0, V4_0, V5_0, V6_0, V7_0, V8_0⟩ hn574) (by rw [hml]; rfl) pd_1 (argsL := [(.int (Int32.ofNat ee))]) rfl (rest := []) rfl (hb hby d10_97) 0 (Nat.le_of_eq rfl) (by decide) (by decide) (by decide) (by decide) 100 rfl (fun T575 L575 v575 X575 hQ575 => ?_)
        obtain ⟨rfl, N575, e575⟩ := hQ575
        have N576 := Fr.app N0 N575
        show own_Go p e below G (T575.setTop (mkF m 100 #[.val (.ref a), .val (.int (Int32.ofNat ee)), .val (.int (Int32.ofNat kk)), .val (.int (Int32.ofNat mk)), .val (.ref sp_), .val (.ref mm_), .val (.ref uu_), .val (.ref inn_), .val (.ref nw_), .val (.int (Int32.ofNat n572)), .val (.int (Int32.ofNat n573)), .val (.int (0 : Int32)), .val (.int (1 : Int32))] [(.int (Int32.ofNat n574))]))
        refine own_istore X575 hx (hb hby d10_100) #[.val (.ref a), .val (.int (Int32.ofNat ee)), .val (.int (Int32.ofNat kk)), .val (.int (Int32.ofNat mk)), .val (.ref sp_), .val (.ref mm_), .val (.ref uu_), .val (.ref inn_), .val (.ref nw_), .val (.int (Int32.ofNat n572)), .val (.int (Int32.ofNat n573)), .val (.int (Int32.ofNat n574)), .val (.int (1 : Int32))] rfl 102 rfl ?_
        refine own_iload X575 hx (hb hby d10_102) rfl 104 rfl ?_
        refine own_iload X575 hx (hb hby d10_104) rfl 106 rfl ?_
        obtain ⟨hg577, hs577⟩ := own_ifE hs574
        obtain ⟨hg578, hs578⟩ := own_ifE hs577
        refine own_icmpN X575 hx (hb hby d10_106) (teq ((own_eqN (a := n574) (b := n572) hg577).mpr hg578)).2 109 rfl ?_
        refine own_aloadN X575 hx (hb hby d10_109) rfl rfl 110 rfl ?_
        refine own_iload X575 hx (hb hby d10_110) rfl 112 rfl ?_
        obtain ⟨n579, hn579, hs579⟩ := own_be hs578
        obtain ⟨n580, hn580, hs580⟩ := own_be hs579
        obtain ⟨hg581, hs581⟩ := own_ifE hs580
        refine own_callV X575 hx hZ hown (own_w hw 75 rfl) (own_w hw 76 rfl) (own_w hw 78 rfl) (notFace_of_selects (args := #[]) (mvT hZ (own_w hw 78 rfl))) (own_w hw 77 rfl) (own_w hw 7 rfl) (own_w hw 79 rfl) (by decide) e575 E0 (rmSize l Z a0 hw [] ka ma a el_ pl_ so_ fi_ en_ un_ to_ KL ML el pl so fi en un to cnt tc n574 n579 n580 h0 n0 ⟨E0, F0_0, F1_0, F2_0, F3_0, F4_0, F5_0, F6_0, F7_0, F8_0, V0_0, V1_0, V2_0, V3_0, V4_0, V5_0, V6_0, V7_0, V8_0⟩ hn579 hn580 hg581) (by rw [hml]; rfl) pd_1 (argsL := [(.int (Int32.ofNat n574))]) rfl (rest := []) rfl (hb hby d10_112) 0 (Nat.le_of_eq rfl) (by decide) (by decide) (by decide) (by decide) 115 rfl (fun T582 L582 v582 X582 hQ582 => ?_)
        obtain ⟨rfl, N582, e582⟩ := hQ582
        have N583 := Fr.app N576 N582
        show own_Go p e below G (T582.setTop (mkF m 115 #[.val (.ref a), .val (.int (Int32.ofNat ee)), .val (.int (Int32.ofNat kk)), .val (.int (Int32.ofNat mk)), .val (.ref sp_), .val (.ref mm_), .val (.ref uu_), .val (.ref inn_), .val (.ref nw_), .val (.int (Int32.ofNat n572)), .val (.int (Int32.ofNat n573)), .val (.int (Int32.ofNat n574)), .val (.int (1 : Int32))] [(.int (Int32.ofNat (n579 - n580)))]))
        refine own_iload X582 hx (hb hby d10_115) rfl 117 rfl ?_
        obtain ⟨hg584, hs584⟩ := own_ifE hs581
        obtain ⟨hg585, hs585⟩ := own_ifE hs584
        refine own_icmpN X582 hx (hb hby d10_117) (teq ((own_eqN (a := (n579 - n580)) (b := n573) hg584).mpr hg585)).2 120 rfl ?_
        refine own_iconst X582 hx (hb hby d10_120) (1 : Int32) rfl 121 rfl ?_
        refine own_goto X582 hx (hb hby d10_121) 125 ⟨by decide, by decide⟩ ?_
        refine own_nreturn X582 hx Bd.notSynchronized hG Bd.returns (by simp) (hb hby d10_125) (by decide) (by decide) ?_
        rw [e582]
        exact ⟨rfl, N583, rfl⟩
      ·
        have hs586 := (if_neg c570).symm.trans hs569
        refine own_icmpY X0 hx (hb hby d10_47) (feq (fun q => c570 ((own_eqN (a := mk) (b := 1) hg569).mp q))).2 54 ⟨by decide, by decide⟩ ?_
        refine own_iconst X0 hx (hb hby d10_54) (0 : Int32) rfl 55 rfl ?_
        refine own_istore X0 hx (hb hby d10_55) #[.val (.ref a), .val (.int (Int32.ofNat ee)), .val (.int (Int32.ofNat kk)), .val (.int (Int32.ofNat mk)), .val (.ref sp_), .val (.ref mm_), .val (.ref uu_), .val (.ref inn_), .val (.ref nw_), .unset, .unset, .val (.int (0 : Int32)), .val (.int (0 : Int32))] rfl 57 rfl ?_
        refine own_iload X0 hx (hb hby d10_57) rfl 59 rfl ?_
        refine own_iload X0 hx (hb hby d10_59) rfl 61 rfl ?_
        refine own_icmpN X0 hx (hb hby d10_61) (teq (by decide)).2 64 rfl ?_
        refine own_aload X0 hx (hb hby d10_64) rfl rfl 66 rfl ?_
        refine own_iloadN X0 hx (hb hby d10_66) rfl 67 rfl ?_
        obtain ⟨n587, hn587, hs587⟩ := own_be hs586
        refine own_iaload X0 hx hZ e0 Vnw kk rfl (Int32.ofNat n587) (own_ld hn587) (hb hby d10_67) 68 rfl ?_
        refine own_goto X0 hx (hb hby d10_68) 75 ⟨by decide, by decide⟩ ?_
        refine own_istore X0 hx (hb hby d10_75) #[.val (.ref a), .val (.int (Int32.ofNat ee)), .val (.int (Int32.ofNat kk)), .val (.int (Int32.ofNat mk)), .val (.ref sp_), .val (.ref mm_), .val (.ref uu_), .val (.ref inn_), .val (.ref nw_), .val (.int (Int32.ofNat n587)), .unset, .val (.int (0 : Int32)), .val (.int (0 : Int32))] rfl 77 rfl ?_
        refine own_iload X0 hx (hb hby d10_77) rfl 79 rfl ?_
        refine own_ifY X0 hx (hb hby d10_79) ((if0 _ _).trans (teq (by decide)).1) 89 ⟨by decide, by decide⟩ ?_
        refine own_aload X0 hx (hb hby d10_89) rfl rfl 91 rfl ?_
        refine own_iloadN X0 hx (hb hby d10_91) rfl 92 rfl ?_
        obtain ⟨n588, hn588, hs588⟩ := own_be hs587
        refine own_iaload X0 hx hZ e0 Vuu kk rfl (Int32.ofNat n588) (own_ld hn588) (hb hby d10_92) 93 rfl ?_
        refine own_istore X0 hx (hb hby d10_93) #[.val (.ref a), .val (.int (Int32.ofNat ee)), .val (.int (Int32.ofNat kk)), .val (.int (Int32.ofNat mk)), .val (.ref sp_), .val (.ref mm_), .val (.ref uu_), .val (.ref inn_), .val (.ref nw_), .val (.int (Int32.ofNat n587)), .val (.int (Int32.ofNat n588)), .val (.int (0 : Int32)), .val (.int (0 : Int32))] rfl 95 rfl ?_
        refine own_aloadN X0 hx (hb hby d10_95) rfl rfl 96 rfl ?_
        refine own_iloadN X0 hx (hb hby d10_96) rfl 97 rfl ?_
        obtain ⟨n589, hn589, hs589⟩ := own_be hs588
        refine own_callV X0 hx hZ hown (own_w hw 70 rfl) (own_w hw 71 rfl) (own_w hw 73 rfl) (notFace_of_selects (args := #[]) (mvT hZ (own_w hw 73 rfl))) (own_w hw 72 rfl) (own_w hw 7 rfl) (own_w hw 74 rfl) (by decide) e0 E0 (rmSet l Z a0 hw [] ka ma a el_ pl_ so_ fi_ en_ un_ to_ KL ML el pl so fi en un to cnt tc ee n589 h0 n0 ⟨E0, F0_0, F1_0, F2_0, F3_0, F4_0, F5_0, F6_0, F7_0, F8_0, V0_0, V1_0, V2_0, V3_0, V4_0, V5_0, V6_0, V7_0, V8_0⟩ hn589) (by rw [hml]; rfl) pd_1 (argsL := [(.int (Int32.ofNat ee))]) rfl (rest := []) rfl (hb hby d10_97) 0 (Nat.le_of_eq rfl) (by decide) (by decide) (by decide) (by decide) 100 rfl (fun T590 L590 v590 X590 hQ590 => ?_)
        obtain ⟨rfl, N590, e590⟩ := hQ590
        have N591 := Fr.app N0 N590
        show own_Go p e below G (T590.setTop (mkF m 100 #[.val (.ref a), .val (.int (Int32.ofNat ee)), .val (.int (Int32.ofNat kk)), .val (.int (Int32.ofNat mk)), .val (.ref sp_), .val (.ref mm_), .val (.ref uu_), .val (.ref inn_), .val (.ref nw_), .val (.int (Int32.ofNat n587)), .val (.int (Int32.ofNat n588)), .val (.int (0 : Int32)), .val (.int (0 : Int32))] [(.int (Int32.ofNat n589))]))
        refine own_istore X590 hx (hb hby d10_100) #[.val (.ref a), .val (.int (Int32.ofNat ee)), .val (.int (Int32.ofNat kk)), .val (.int (Int32.ofNat mk)), .val (.ref sp_), .val (.ref mm_), .val (.ref uu_), .val (.ref inn_), .val (.ref nw_), .val (.int (Int32.ofNat n587)), .val (.int (Int32.ofNat n588)), .val (.int (Int32.ofNat n589)), .val (.int (0 : Int32))] rfl 102 rfl ?_
        refine own_iload X590 hx (hb hby d10_102) rfl 104 rfl ?_
        refine own_iload X590 hx (hb hby d10_104) rfl 106 rfl ?_
        obtain ⟨hg592, hs592⟩ := own_ifE hs589
        obtain ⟨hg593, hs593⟩ := own_ifE hs592
        refine own_icmpN X590 hx (hb hby d10_106) (teq ((own_eqN (a := n589) (b := n587) hg592).mpr hg593)).2 109 rfl ?_
        refine own_aloadN X590 hx (hb hby d10_109) rfl rfl 110 rfl ?_
        refine own_iload X590 hx (hb hby d10_110) rfl 112 rfl ?_
        obtain ⟨n594, hn594, hs594⟩ := own_be hs593
        obtain ⟨n595, hn595, hs595⟩ := own_be hs594
        obtain ⟨hg596, hs596⟩ := own_ifE hs595
        refine own_callV X590 hx hZ hown (own_w hw 75 rfl) (own_w hw 76 rfl) (own_w hw 78 rfl) (notFace_of_selects (args := #[]) (mvT hZ (own_w hw 78 rfl))) (own_w hw 77 rfl) (own_w hw 7 rfl) (own_w hw 79 rfl) (by decide) e590 E0 (rmSize l Z a0 hw [] ka ma a el_ pl_ so_ fi_ en_ un_ to_ KL ML el pl so fi en un to cnt tc n589 n594 n595 h0 n0 ⟨E0, F0_0, F1_0, F2_0, F3_0, F4_0, F5_0, F6_0, F7_0, F8_0, V0_0, V1_0, V2_0, V3_0, V4_0, V5_0, V6_0, V7_0, V8_0⟩ hn594 hn595 hg596) (by rw [hml]; rfl) pd_1 (argsL := [(.int (Int32.ofNat n589))]) rfl (rest := []) rfl (hb hby d10_112) 0 (Nat.le_of_eq rfl) (by decide) (by decide) (by decide) (by decide) 115 rfl (fun T597 L597 v597 X597 hQ597 => ?_)
        obtain ⟨rfl, N597, e597⟩ := hQ597
        have N598 := Fr.app N591 N597
        show own_Go p e below G (T597.setTop (mkF m 115 #[.val (.ref a), .val (.int (Int32.ofNat ee)), .val (.int (Int32.ofNat kk)), .val (.int (Int32.ofNat mk)), .val (.ref sp_), .val (.ref mm_), .val (.ref uu_), .val (.ref inn_), .val (.ref nw_), .val (.int (Int32.ofNat n587)), .val (.int (Int32.ofNat n588)), .val (.int (Int32.ofNat n589)), .val (.int (0 : Int32))] [(.int (Int32.ofNat (n594 - n595)))]))
        refine own_iload X597 hx (hb hby d10_115) rfl 117 rfl ?_
        obtain ⟨hg599, hs599⟩ := own_ifE hs596
        obtain ⟨hg600, hs600⟩ := own_ifE hs599
        refine own_icmpN X597 hx (hb hby d10_117) (teq ((own_eqN (a := (n594 - n595)) (b := n588) hg599).mpr hg600)).2 120 rfl ?_
        refine own_iconst X597 hx (hb hby d10_120) (1 : Int32) rfl 121 rfl ?_
        refine own_goto X597 hx (hb hby d10_121) 125 ⟨by decide, by decide⟩ ?_
        refine own_nreturn X597 hx Bd.notSynchronized hG Bd.returns (by simp) (hb hby d10_125) (by decide) (by decide) ?_
        rw [e597]
        exact ⟨rfl, N598, rfl⟩
    ·
      have hs601 := (if_neg c567).symm.trans hs566
      refine own_icmpN X0 hx (hb hby d10_35) (flt (fun q => c567 ((own_ltN (a := n565) (b := n564) hg566).mp q))).2.2.1 38 rfl ?_
      refine own_iconst X0 hx (hb hby d10_38) (1 : Int32) rfl 39 rfl ?_
      refine own_goto X0 hx (hb hby d10_39) 43 ⟨by decide, by decide⟩ ?_
      refine own_istore X0 hx (hb hby d10_43) #[.val (.ref a), .val (.int (Int32.ofNat ee)), .val (.int (Int32.ofNat kk)), .val (.int (Int32.ofNat mk)), .val (.ref sp_), .val (.ref mm_), .val (.ref uu_), .val (.ref inn_), .val (.ref nw_), .unset, .unset, .val (.int (1 : Int32)), .unset] rfl 45 rfl ?_
      refine own_iloadN X0 hx (hb hby d10_45) rfl 46 rfl ?_
      refine own_iconst X0 hx (hb hby d10_46) (1 : Int32) rfl 47 rfl ?_
      obtain ⟨hg602, hs602⟩ := own_ifE hs601
      by_cases c603 : mk = 1
      ·
        have hs604 := (if_pos c603).symm.trans hs602
        refine own_icmpN X0 hx (hb hby d10_47) (teq ((own_eqN (a := mk) (b := 1) hg602).mpr c603)).2 50 rfl ?_
        refine own_iconst X0 hx (hb hby d10_50) (1 : Int32) rfl 51 rfl ?_
        refine own_goto X0 hx (hb hby d10_51) 55 ⟨by decide, by decide⟩ ?_
        refine own_istore X0 hx (hb hby d10_55) #[.val (.ref a), .val (.int (Int32.ofNat ee)), .val (.int (Int32.ofNat kk)), .val (.int (Int32.ofNat mk)), .val (.ref sp_), .val (.ref mm_), .val (.ref uu_), .val (.ref inn_), .val (.ref nw_), .unset, .unset, .val (.int (1 : Int32)), .val (.int (1 : Int32))] rfl 57 rfl ?_
        refine own_iload X0 hx (hb hby d10_57) rfl 59 rfl ?_
        refine own_iload X0 hx (hb hby d10_59) rfl 61 rfl ?_
        refine own_icmpN X0 hx (hb hby d10_61) (teq (by decide)).2 64 rfl ?_
        refine own_aload X0 hx (hb hby d10_64) rfl rfl 66 rfl ?_
        refine own_iloadN X0 hx (hb hby d10_66) rfl 67 rfl ?_
        obtain ⟨n605, hn605, hs605⟩ := own_be hs604
        refine own_iaload X0 hx hZ e0 Vnw kk rfl (Int32.ofNat n605) (own_ld hn605) (hb hby d10_67) 68 rfl ?_
        refine own_goto X0 hx (hb hby d10_68) 75 ⟨by decide, by decide⟩ ?_
        refine own_istore X0 hx (hb hby d10_75) #[.val (.ref a), .val (.int (Int32.ofNat ee)), .val (.int (Int32.ofNat kk)), .val (.int (Int32.ofNat mk)), .val (.ref sp_), .val (.ref mm_), .val (.ref uu_), .val (.ref inn_), .val (.ref nw_), .val (.int (Int32.ofNat n605)), .unset, .val (.int (1 : Int32)), .val (.int (1 : Int32))] rfl 77 rfl ?_
        refine own_iload X0 hx (hb hby d10_77) rfl 79 rfl ?_
        refine own_ifN X0 hx (hb hby d10_79) ((if0 _ _).trans (feq (by decide)).1) 82 rfl ?_
        refine own_aload X0 hx (hb hby d10_82) rfl rfl 84 rfl ?_
        refine own_iloadN X0 hx (hb hby d10_84) rfl 85 rfl ?_
        obtain ⟨n606, hn606, hs606⟩ := own_be hs605
        refine own_iaload X0 hx hZ e0 Vmm kk rfl (Int32.ofNat n606) (own_ld hn606) (hb hby d10_85) 86 rfl ?_
        refine own_goto X0 hx (hb hby d10_86) 93 ⟨by decide, by decide⟩ ?_
        refine own_istore X0 hx (hb hby d10_93) #[.val (.ref a), .val (.int (Int32.ofNat ee)), .val (.int (Int32.ofNat kk)), .val (.int (Int32.ofNat mk)), .val (.ref sp_), .val (.ref mm_), .val (.ref uu_), .val (.ref inn_), .val (.ref nw_), .val (.int (Int32.ofNat n605)), .val (.int (Int32.ofNat n606)), .val (.int (1 : Int32)), .val (.int (1 : Int32))] rfl 95 rfl ?_
        refine own_aloadN X0 hx (hb hby d10_95) rfl rfl 96 rfl ?_
        refine own_iloadN X0 hx (hb hby d10_96) rfl 97 rfl ?_
        obtain ⟨n607, hn607, hs607⟩ := own_be hs606
        refine own_callV X0 hx hZ hown (own_w hw 70 rfl) (own_w hw 71 rfl) (own_w hw 73 rfl) (notFace_of_selects (args := #[]) (mvT hZ (own_w hw 73 rfl))) (own_w hw 72 rfl) (own_w hw 7 rfl) (own_w hw 74 rfl) (by decide) e0 E0 (rmSet l Z a0 hw [] ka ma a el_ pl_ so_ fi_ en_ un_ to_ KL ML el pl so fi en un to cnt tc ee n607 h0 n0 ⟨E0, F0_0, F1_0, F2_0, F3_0, F4_0, F5_0, F6_0, F7_0, F8_0, V0_0, V1_0, V2_0, V3_0, V4_0, V5_0, V6_0, V7_0, V8_0⟩ hn607) (by rw [hml]; rfl) pd_1 (argsL := [(.int (Int32.ofNat ee))]) rfl (rest := []) rfl (hb hby d10_97) 0 (Nat.le_of_eq rfl) (by decide) (by decide) (by decide) (by decide) 100 rfl (fun T608 L608 v608 X608 hQ608 => ?_)
        obtain ⟨rfl, N608, e608⟩ := hQ608
        have N609 := Fr.app N0 N608
        show own_Go p e below G (T608.setTop (mkF m 100 #[.val (.ref a), .val (.int (Int32.ofNat ee)), .val (.int (Int32.ofNat kk)), .val (.int (Int32.ofNat mk)), .val (.ref sp_), .val (.ref mm_), .val (.ref uu_), .val (.ref inn_), .val (.ref nw_), .val (.int (Int32.ofNat n605)), .val (.int (Int32.ofNat n606)), .val (.int (1 : Int32)), .val (.int (1 : Int32))] [(.int (Int32.ofNat n607))]))
        refine own_istore X608 hx (hb hby d10_100) #[.val (.ref a), .val (.int (Int32.ofNat ee)), .val (.int (Int32.ofNat kk)), .val (.int (Int32.ofNat mk)), .val (.ref sp_), .val (.ref mm_), .val (.ref uu_), .val (.ref inn_), .val (.ref nw_), .val (.int (Int32.ofNat n605)), .val (.int (Int32.ofNat n606)), .val (.int (Int32.ofNat n607)), .val (.int (1 : Int32))] rfl 102 rfl ?_
        refine own_iload X608 hx (hb hby d10_102) rfl 104 rfl ?_
        refine own_iload X608 hx (hb hby d10_104) rfl 106 rfl ?_
        obtain ⟨hg610, hs610⟩ := own_ifE hs607
        obtain ⟨hg611, hs611⟩ := own_ifE hs610
        refine own_icmpN X608 hx (hb hby d10_106) (teq ((own_eqN (a := n607) (b := n605) hg610).mpr hg611)).2 109 rfl ?_
        refine own_aloadN X608 hx (hb hby d10_109) rfl rfl 110 rfl ?_
        refine own_iload X608 hx (hb hby d10_110) rfl 112 rfl ?_
        obtain ⟨n612, hn612, hs612⟩ := own_be hs611
        obtain ⟨n613, hn613, hs613⟩ := own_be hs612
        obtain ⟨hg614, hs614⟩ := own_ifE hs613
        refine own_callV X608 hx hZ hown (own_w hw 75 rfl) (own_w hw 76 rfl) (own_w hw 78 rfl) (notFace_of_selects (args := #[]) (mvT hZ (own_w hw 78 rfl))) (own_w hw 77 rfl) (own_w hw 7 rfl) (own_w hw 79 rfl) (by decide) e608 E0 (rmSize l Z a0 hw [] ka ma a el_ pl_ so_ fi_ en_ un_ to_ KL ML el pl so fi en un to cnt tc n607 n612 n613 h0 n0 ⟨E0, F0_0, F1_0, F2_0, F3_0, F4_0, F5_0, F6_0, F7_0, F8_0, V0_0, V1_0, V2_0, V3_0, V4_0, V5_0, V6_0, V7_0, V8_0⟩ hn612 hn613 hg614) (by rw [hml]; rfl) pd_1 (argsL := [(.int (Int32.ofNat n607))]) rfl (rest := []) rfl (hb hby d10_112) 0 (Nat.le_of_eq rfl) (by decide) (by decide) (by decide) (by decide) 115 rfl (fun T615 L615 v615 X615 hQ615 => ?_)
        obtain ⟨rfl, N615, e615⟩ := hQ615
        have N616 := Fr.app N609 N615
        show own_Go p e below G (T615.setTop (mkF m 115 #[.val (.ref a), .val (.int (Int32.ofNat ee)), .val (.int (Int32.ofNat kk)), .val (.int (Int32.ofNat mk)), .val (.ref sp_), .val (.ref mm_), .val (.ref uu_), .val (.ref inn_), .val (.ref nw_), .val (.int (Int32.ofNat n605)), .val (.int (Int32.ofNat n606)), .val (.int (Int32.ofNat n607)), .val (.int (1 : Int32))] [(.int (Int32.ofNat (n612 - n613)))]))
        refine own_iload X615 hx (hb hby d10_115) rfl 117 rfl ?_
        obtain ⟨hg617, hs617⟩ := own_ifE hs614
        obtain ⟨hg618, hs618⟩ := own_ifE hs617
        refine own_icmpN X615 hx (hb hby d10_117) (teq ((own_eqN (a := (n612 - n613)) (b := n606) hg617).mpr hg618)).2 120 rfl ?_
        refine own_iconst X615 hx (hb hby d10_120) (1 : Int32) rfl 121 rfl ?_
        refine own_goto X615 hx (hb hby d10_121) 125 ⟨by decide, by decide⟩ ?_
        refine own_nreturn X615 hx Bd.notSynchronized hG Bd.returns (by simp) (hb hby d10_125) (by decide) (by decide) ?_
        rw [e615]
        exact ⟨rfl, N616, rfl⟩
      ·
        have hs619 := (if_neg c603).symm.trans hs602
        refine own_icmpY X0 hx (hb hby d10_47) (feq (fun q => c603 ((own_eqN (a := mk) (b := 1) hg602).mp q))).2 54 ⟨by decide, by decide⟩ ?_
        refine own_iconst X0 hx (hb hby d10_54) (0 : Int32) rfl 55 rfl ?_
        refine own_istore X0 hx (hb hby d10_55) #[.val (.ref a), .val (.int (Int32.ofNat ee)), .val (.int (Int32.ofNat kk)), .val (.int (Int32.ofNat mk)), .val (.ref sp_), .val (.ref mm_), .val (.ref uu_), .val (.ref inn_), .val (.ref nw_), .unset, .unset, .val (.int (1 : Int32)), .val (.int (0 : Int32))] rfl 57 rfl ?_
        refine own_iload X0 hx (hb hby d10_57) rfl 59 rfl ?_
        refine own_iload X0 hx (hb hby d10_59) rfl 61 rfl ?_
        refine own_icmpY X0 hx (hb hby d10_61) (feq (by decide)).2 71 ⟨by decide, by decide⟩ ?_
        refine own_aload X0 hx (hb hby d10_71) rfl rfl 73 rfl ?_
        refine own_iloadN X0 hx (hb hby d10_73) rfl 74 rfl ?_
        obtain ⟨n620, hn620, hs620⟩ := own_be hs619
        refine own_iaload X0 hx hZ e0 Vinn kk rfl (Int32.ofNat n620) (own_ld hn620) (hb hby d10_74) 75 rfl ?_
        refine own_istore X0 hx (hb hby d10_75) #[.val (.ref a), .val (.int (Int32.ofNat ee)), .val (.int (Int32.ofNat kk)), .val (.int (Int32.ofNat mk)), .val (.ref sp_), .val (.ref mm_), .val (.ref uu_), .val (.ref inn_), .val (.ref nw_), .val (.int (Int32.ofNat n620)), .unset, .val (.int (1 : Int32)), .val (.int (0 : Int32))] rfl 77 rfl ?_
        refine own_iload X0 hx (hb hby d10_77) rfl 79 rfl ?_
        refine own_ifY X0 hx (hb hby d10_79) ((if0 _ _).trans (teq (by decide)).1) 89 ⟨by decide, by decide⟩ ?_
        refine own_aload X0 hx (hb hby d10_89) rfl rfl 91 rfl ?_
        refine own_iloadN X0 hx (hb hby d10_91) rfl 92 rfl ?_
        obtain ⟨n621, hn621, hs621⟩ := own_be hs620
        refine own_iaload X0 hx hZ e0 Vuu kk rfl (Int32.ofNat n621) (own_ld hn621) (hb hby d10_92) 93 rfl ?_
        refine own_istore X0 hx (hb hby d10_93) #[.val (.ref a), .val (.int (Int32.ofNat ee)), .val (.int (Int32.ofNat kk)), .val (.int (Int32.ofNat mk)), .val (.ref sp_), .val (.ref mm_), .val (.ref uu_), .val (.ref inn_), .val (.ref nw_), .val (.int (Int32.ofNat n620)), .val (.int (Int32.ofNat n621)), .val (.int (1 : Int32)), .val (.int (0 : Int32))] rfl 95 rfl ?_
        refine own_aloadN X0 hx (hb hby d10_95) rfl rfl 96 rfl ?_
        refine own_iloadN X0 hx (hb hby d10_96) rfl 97 rfl ?_
        obtain ⟨n622, hn622, hs622⟩ := own_be hs621
        refine own_callV X0 hx hZ hown (own_w hw 70 rfl) (own_w hw 71 rfl) (own_w hw 73 rfl) (notFace_of_selects (args := #[]) (mvT hZ (own_w hw 73 rfl))) (own_w hw 72 rfl) (own_w hw 7 rfl) (own_w hw 74 rfl) (by decide) e0 E0 (rmSet l Z a0 hw [] ka ma a el_ pl_ so_ fi_ en_ un_ to_ KL ML el pl so fi en un to cnt tc ee n622 h0 n0 ⟨E0, F0_0, F1_0, F2_0, F3_0, F4_0, F5_0, F6_0, F7_0, F8_0, V0_0, V1_0, V2_0, V3_0, V4_0, V5_0, V6_0, V7_0, V8_0⟩ hn622) (by rw [hml]; rfl) pd_1 (argsL := [(.int (Int32.ofNat ee))]) rfl (rest := []) rfl (hb hby d10_97) 0 (Nat.le_of_eq rfl) (by decide) (by decide) (by decide) (by decide) 100 rfl (fun T623 L623 v623 X623 hQ623 => ?_)
        obtain ⟨rfl, N623, e623⟩ := hQ623
        have N624 := Fr.app N0 N623
        show own_Go p e below G (T623.setTop (mkF m 100 #[.val (.ref a), .val (.int (Int32.ofNat ee)), .val (.int (Int32.ofNat kk)), .val (.int (Int32.ofNat mk)), .val (.ref sp_), .val (.ref mm_), .val (.ref uu_), .val (.ref inn_), .val (.ref nw_), .val (.int (Int32.ofNat n620)), .val (.int (Int32.ofNat n621)), .val (.int (1 : Int32)), .val (.int (0 : Int32))] [(.int (Int32.ofNat n622))]))
        refine own_istore X623 hx (hb hby d10_100) #[.val (.ref a), .val (.int (Int32.ofNat ee)), .val (.int (Int32.ofNat kk)), .val (.int (Int32.ofNat mk)), .val (.ref sp_), .val (.ref mm_), .val (.ref uu_), .val (.ref inn_), .val (.ref nw_), .val (.int (Int32.ofNat n620)), .val (.int (Int32.ofNat n621)), .val (.int (Int32.ofNat n622)), .val (.int (0 : Int32))] rfl 102 rfl ?_
        refine own_iload X623 hx (hb hby d10_102) rfl 104 rfl ?_
        refine own_iload X623 hx (hb hby d10_104) rfl 106 rfl ?_
        obtain ⟨hg625, hs625⟩ := own_ifE hs622
        obtain ⟨hg626, hs626⟩ := own_ifE hs625
        refine own_icmpN X623 hx (hb hby d10_106) (teq ((own_eqN (a := n622) (b := n620) hg625).mpr hg626)).2 109 rfl ?_
        refine own_aloadN X623 hx (hb hby d10_109) rfl rfl 110 rfl ?_
        refine own_iload X623 hx (hb hby d10_110) rfl 112 rfl ?_
        obtain ⟨n627, hn627, hs627⟩ := own_be hs626
        obtain ⟨n628, hn628, hs628⟩ := own_be hs627
        obtain ⟨hg629, hs629⟩ := own_ifE hs628
        refine own_callV X623 hx hZ hown (own_w hw 75 rfl) (own_w hw 76 rfl) (own_w hw 78 rfl) (notFace_of_selects (args := #[]) (mvT hZ (own_w hw 78 rfl))) (own_w hw 77 rfl) (own_w hw 7 rfl) (own_w hw 79 rfl) (by decide) e623 E0 (rmSize l Z a0 hw [] ka ma a el_ pl_ so_ fi_ en_ un_ to_ KL ML el pl so fi en un to cnt tc n622 n627 n628 h0 n0 ⟨E0, F0_0, F1_0, F2_0, F3_0, F4_0, F5_0, F6_0, F7_0, F8_0, V0_0, V1_0, V2_0, V3_0, V4_0, V5_0, V6_0, V7_0, V8_0⟩ hn627 hn628 hg629) (by rw [hml]; rfl) pd_1 (argsL := [(.int (Int32.ofNat n622))]) rfl (rest := []) rfl (hb hby d10_112) 0 (Nat.le_of_eq rfl) (by decide) (by decide) (by decide) (by decide) 115 rfl (fun T630 L630 v630 X630 hQ630 => ?_)
        obtain ⟨rfl, N630, e630⟩ := hQ630
        have N631 := Fr.app N624 N630
        show own_Go p e below G (T630.setTop (mkF m 115 #[.val (.ref a), .val (.int (Int32.ofNat ee)), .val (.int (Int32.ofNat kk)), .val (.int (Int32.ofNat mk)), .val (.ref sp_), .val (.ref mm_), .val (.ref uu_), .val (.ref inn_), .val (.ref nw_), .val (.int (Int32.ofNat n620)), .val (.int (Int32.ofNat n621)), .val (.int (Int32.ofNat n622)), .val (.int (0 : Int32))] [(.int (Int32.ofNat (n627 - n628)))]))
        refine own_iload X630 hx (hb hby d10_115) rfl 117 rfl ?_
        obtain ⟨hg632, hs632⟩ := own_ifE hs629
        obtain ⟨hg633, hs633⟩ := own_ifE hs632
        refine own_icmpN X630 hx (hb hby d10_117) (teq ((own_eqN (a := (n627 - n628)) (b := n621) hg632).mpr hg633)).2 120 rfl ?_
        refine own_iconst X630 hx (hb hby d10_120) (1 : Int32) rfl 121 rfl ?_
        refine own_goto X630 hx (hb hby d10_121) 125 ⟨by decide, by decide⟩ ?_
        refine own_nreturn X630 hx Bd.notSynchronized hG Bd.returns (by simp) (hb hby d10_125) (by decide) (by decide) ?_
        rw [e630]
        exact ⟨rfl, N631, rfl⟩
def QF (r : Nat) (h0 : Heap) (n0 : Nat) (v : Option Value) (h : Heap) (L : List Loc) : Prop := v = some (.int (Int32.ofNat r)) ∧ Fr n0 L ∧ h = h0
theorem ef_rmFm0 (m : MethodId) (x0 : Addr) (x1 : Addr) (x2 : Int32) : entryFrame m #[(.ref x0), (.ref x1), (.int x2)] 3 = mkF m 0 #[.val (.ref x0), .val (.ref x1), .val (.int x2)] [] := by first | (simp [entryFrame, mkF, argsToLocals, Value.category, maxLocals]; done) | rfl
set_option maxRecDepth 65536 in
set_option maxHeartbeats 40000000 in
theorem rmFm0 (l : Launch) (Z : State) (a0 : Array Value) (hw : ∀ d ∈ tables_1, d.before a0 Z = true) (ws : List Jvm.Cond) (ka ma : Addr) (k0 k1 k2 k3 k4 m0 m1 m2 m3 m4 : Nat) (h0 : Heap) (n0 : Nat) (hk : k0 < 2 ∧ k1 < 2 ∧ k2 < 2 ∧ k3 < 2 ∧ k4 < 2) (hm : m0 < 2 ∧ m1 < 2 ∧ m2 < 2 ∧ m3 < 2 ∧ m4 < 2) (Vk : own_A .int Value.int Z h0 ka (own_M [k0, k1, k2, k3, k4])) (Vm : own_A .int Value.int Z h0 ma (own_M [m0, m1, m2, m3, m4])) :
    MetFree l own_y8 (head1 (Jvm.Cond.code own_y8 method_3_code 3 (some .int) :: ws) ({ frames := 0, cells := 0, slots := 0, locals := 0 } : Room)) (fun aR U => aR = #[(.ref ka), (.ref ma), (.int (0 : Int32))] ∧ Z.Warmed39 U.vm ∧ U.heap = h0) (fun _ _ _ _ _ => True) (fun _ U o U' => ∃ v L, o = .returned v ∧ QF (own_fm k0 k1 k2 k3 k4 m0 m1 m2 m3 m4 0) h0 n0 v U'.heap L ∧ FrameEnd U o U' L ({ frames := 0, cells := 0, slots := 0, locals := 0 } : Room).cells ({ frames := 0, cells := 0, slots := 0, locals := 0 } : Room).slots) := by
  refine MetFree.of_bodySF pf_8 hisR ?_
  intro p e s m args below meth c s₁ Bd hml0 hP hK
  obtain ⟨rfl, hZ, hhE⟩ := hP
  have hx := Bd.exec
  have hby := Bd.bytes
  have hml : c.maxLocals = 3 := hml0
  have hown : s.vm.findClass "com/example/libhedge/libhedge/RefinablePartitionSplitPinLaw" = some m.cls := findClass_of_methodNamed Bd.named
  have hnm := (name_of_methodNamed Bd.named Bd.method).1
  have X0 : Stand p l e ({ frames := 0, cells := 0, slots := 0, locals := 0 } : Room) s m #[(.ref ka), (.ref ma), (.int (0 : Int32))] below meth c s₁ [] 0 0 := Stand.of_body Bd
  have e0 : s₁.heap = h0 := by rw [← hhE, Bd.state]; rfl
  have N0 := Fr.nil n0
  show own_Go p e below (own_Post s (QF (own_fm k0 k1 k2 k3 k4 m0 m1 m2 m3 m4 0) h0 n0) ({ frames := 0, cells := 0, slots := 0, locals := 0 } : Room).cells ({ frames := 0, cells := 0, slots := 0, locals := 0 } : Room).slots) (s₁.setTop (entryFrame m #[(.ref ka), (.ref ma), (.int (0 : Int32))] 3))
  rw [ef_rmFm0]
  generalize hG : own_Post s (QF (own_fm k0 k1 k2 k3 k4 m0 m1 m2 m3 m4 0) h0 n0) ({ frames := 0, cells := 0, slots := 0, locals := 0 } : Room).cells ({ frames := 0, cells := 0, slots := 0, locals := 0 } : Room).slots = G
  have k5_ : ¬ (k0 = 0 ∧ m0 = 1) → ¬ (k1 = 0 ∧ m1 = 1) → ¬ (k2 = 0 ∧ m2 = 1) → ¬ (k3 = 0 ∧ m3 = 1) → ¬ (k4 = 0 ∧ m4 = 1) → own_Go p e below G (s₁.setTop (mkF m 80 #[.val (.ref ka), .val (.ref ma), .val (.int (0 : Int32))] [])) := by
    intro z0 z1 z2 z3 z4
    refine own_iconst X0 hx (hb hby d8_80) (5 : Int32) rfl 81 rfl ?_
    refine own_ireturn X0 hx Bd.notSynchronized hG Bd.returns (hb hby d8_81) (by decide) (by decide) ?_
    rw [e0]
    exact ⟨by unfold own_fm; rw [if_neg z0, if_neg z1, if_neg z2, if_neg z3, if_neg z4]; rfl, N0, rfl⟩
  have k4_ : ¬ (k0 = 0 ∧ m0 = 1) → ¬ (k1 = 0 ∧ m1 = 1) → ¬ (k2 = 0 ∧ m2 = 1) → ¬ (k3 = 0 ∧ m3 = 1) → own_Go p e below G (s₁.setTop (mkF m 64 #[.val (.ref ka), .val (.ref ma), .val (.int (0 : Int32))] [])) := by
    intro z0 z1 z2 z3
    refine own_aloadN X0 hx (hb hby d8_64) rfl rfl 65 rfl ?_
    refine own_iconst X0 hx (hb hby d8_65) (4 : Int32) rfl 66 rfl ?_
    refine own_iaload X0 hx hZ e0 Vk 4 rfl (Int32.ofNat k4) rfl (hb hby d8_66) 67 rfl ?_
    refine own_iloadN X0 hx (hb hby d8_67) rfl 68 rfl ?_
    by_cases c634 : k4 = 0
    ·
      refine own_icmpN X0 hx (hb hby d8_68) (teq ((own_eqN (a := k4) (b := 0) ⟨by omega, by omega⟩).mpr c634)).2 71 rfl ?_
      refine own_aloadN X0 hx (hb hby d8_71) rfl rfl 72 rfl ?_
      refine own_iconst X0 hx (hb hby d8_72) (4 : Int32) rfl 73 rfl ?_
      refine own_iaload X0 hx hZ e0 Vm 4 rfl (Int32.ofNat m4) rfl (hb hby d8_73) 74 rfl ?_
      refine own_iconst X0 hx (hb hby d8_74) (1 : Int32) rfl 75 rfl ?_
      by_cases c635 : m4 = 1
      ·
        refine own_icmpN X0 hx (hb hby d8_75) (teq ((own_eqN (a := m4) (b := 1) ⟨by omega, by omega⟩).mpr c635)).2 78 rfl ?_
        refine own_iconst X0 hx (hb hby d8_78) (4 : Int32) rfl 79 rfl ?_
        refine own_ireturn X0 hx Bd.notSynchronized hG Bd.returns (hb hby d8_79) (by decide) (by decide) ?_
        rw [e0]
        exact ⟨by unfold own_fm; rw [if_neg z0, if_neg z1, if_neg z2, if_neg z3, if_pos ⟨c634, c635⟩]; rfl, N0, rfl⟩
      ·
        refine own_icmpY X0 hx (hb hby d8_75) (feq (fun q => c635 ((own_eqN (a := m4) (b := 1) ⟨by omega, by omega⟩).mp q))).2 80 ⟨by decide, by decide⟩ ?_
        exact k5_ z0 z1 z2 z3 (fun q => c635 q.2)
    ·
      refine own_icmpY X0 hx (hb hby d8_68) (feq (fun q => c634 ((own_eqN (a := k4) (b := 0) ⟨by omega, by omega⟩).mp q))).2 80 ⟨by decide, by decide⟩ ?_
      exact k5_ z0 z1 z2 z3 (fun q => c634 q.1)
  have k3_ : ¬ (k0 = 0 ∧ m0 = 1) → ¬ (k1 = 0 ∧ m1 = 1) → ¬ (k2 = 0 ∧ m2 = 1) → own_Go p e below G (s₁.setTop (mkF m 48 #[.val (.ref ka), .val (.ref ma), .val (.int (0 : Int32))] [])) := by
    intro z0 z1 z2
    refine own_aloadN X0 hx (hb hby d8_48) rfl rfl 49 rfl ?_
    refine own_iconst X0 hx (hb hby d8_49) (3 : Int32) rfl 50 rfl ?_
    refine own_iaload X0 hx hZ e0 Vk 3 rfl (Int32.ofNat k3) rfl (hb hby d8_50) 51 rfl ?_
    refine own_iloadN X0 hx (hb hby d8_51) rfl 52 rfl ?_
    by_cases c636 : k3 = 0
    ·
      refine own_icmpN X0 hx (hb hby d8_52) (teq ((own_eqN (a := k3) (b := 0) ⟨by omega, by omega⟩).mpr c636)).2 55 rfl ?_
      refine own_aloadN X0 hx (hb hby d8_55) rfl rfl 56 rfl ?_
      refine own_iconst X0 hx (hb hby d8_56) (3 : Int32) rfl 57 rfl ?_
      refine own_iaload X0 hx hZ e0 Vm 3 rfl (Int32.ofNat m3) rfl (hb hby d8_57) 58 rfl ?_
      refine own_iconst X0 hx (hb hby d8_58) (1 : Int32) rfl 59 rfl ?_
      by_cases c637 : m3 = 1
      ·
        refine own_icmpN X0 hx (hb hby d8_59) (teq ((own_eqN (a := m3) (b := 1) ⟨by omega, by omega⟩).mpr c637)).2 62 rfl ?_
        refine own_iconst X0 hx (hb hby d8_62) (3 : Int32) rfl 63 rfl ?_
        refine own_ireturn X0 hx Bd.notSynchronized hG Bd.returns (hb hby d8_63) (by decide) (by decide) ?_
        rw [e0]
        exact ⟨by unfold own_fm; rw [if_neg z0, if_neg z1, if_neg z2, if_pos ⟨c636, c637⟩]; rfl, N0, rfl⟩
      ·
        refine own_icmpY X0 hx (hb hby d8_59) (feq (fun q => c637 ((own_eqN (a := m3) (b := 1) ⟨by omega, by omega⟩).mp q))).2 64 ⟨by decide, by decide⟩ ?_
        exact k4_ z0 z1 z2 (fun q => c637 q.2)
    ·
      refine own_icmpY X0 hx (hb hby d8_52) (feq (fun q => c636 ((own_eqN (a := k3) (b := 0) ⟨by omega, by omega⟩).mp q))).2 64 ⟨by decide, by decide⟩ ?_
      exact k4_ z0 z1 z2 (fun q => c636 q.1)
  have k2_ : ¬ (k0 = 0 ∧ m0 = 1) → ¬ (k1 = 0 ∧ m1 = 1) → own_Go p e below G (s₁.setTop (mkF m 32 #[.val (.ref ka), .val (.ref ma), .val (.int (0 : Int32))] [])) := by
    intro z0 z1
    refine own_aloadN X0 hx (hb hby d8_32) rfl rfl 33 rfl ?_
    refine own_iconst X0 hx (hb hby d8_33) (2 : Int32) rfl 34 rfl ?_
    refine own_iaload X0 hx hZ e0 Vk 2 rfl (Int32.ofNat k2) rfl (hb hby d8_34) 35 rfl ?_
    refine own_iloadN X0 hx (hb hby d8_35) rfl 36 rfl ?_
    by_cases c638 : k2 = 0
    ·
      refine own_icmpN X0 hx (hb hby d8_36) (teq ((own_eqN (a := k2) (b := 0) ⟨by omega, by omega⟩).mpr c638)).2 39 rfl ?_
      refine own_aloadN X0 hx (hb hby d8_39) rfl rfl 40 rfl ?_
      refine own_iconst X0 hx (hb hby d8_40) (2 : Int32) rfl 41 rfl ?_
      refine own_iaload X0 hx hZ e0 Vm 2 rfl (Int32.ofNat m2) rfl (hb hby d8_41) 42 rfl ?_
      refine own_iconst X0 hx (hb hby d8_42) (1 : Int32) rfl 43 rfl ?_
      by_cases c639 : m2 = 1
      ·
        refine own_icmpN X0 hx (hb hby d8_43) (teq ((own_eqN (a := m2) (b := 1) ⟨by omega, by omega⟩).mpr c639)).2 46 rfl ?_
        refine own_iconst X0 hx (hb hby d8_46) (2 : Int32) rfl 47 rfl ?_
        refine own_ireturn X0 hx Bd.notSynchronized hG Bd.returns (hb hby d8_47) (by decide) (by decide) ?_
        rw [e0]
        exact ⟨by unfold own_fm; rw [if_neg z0, if_neg z1, if_pos ⟨c638, c639⟩]; rfl, N0, rfl⟩
      ·
        refine own_icmpY X0 hx (hb hby d8_43) (feq (fun q => c639 ((own_eqN (a := m2) (b := 1) ⟨by omega, by omega⟩).mp q))).2 48 ⟨by decide, by decide⟩ ?_
        exact k3_ z0 z1 (fun q => c639 q.2)
    ·
      refine own_icmpY X0 hx (hb hby d8_36) (feq (fun q => c638 ((own_eqN (a := k2) (b := 0) ⟨by omega, by omega⟩).mp q))).2 48 ⟨by decide, by decide⟩ ?_
      exact k3_ z0 z1 (fun q => c638 q.1)
  have k1_ : ¬ (k0 = 0 ∧ m0 = 1) → own_Go p e below G (s₁.setTop (mkF m 16 #[.val (.ref ka), .val (.ref ma), .val (.int (0 : Int32))] [])) := by
    intro z0
    refine own_aloadN X0 hx (hb hby d8_16) rfl rfl 17 rfl ?_
    refine own_iconst X0 hx (hb hby d8_17) (1 : Int32) rfl 18 rfl ?_
    refine own_iaload X0 hx hZ e0 Vk 1 rfl (Int32.ofNat k1) rfl (hb hby d8_18) 19 rfl ?_
    refine own_iloadN X0 hx (hb hby d8_19) rfl 20 rfl ?_
    by_cases c640 : k1 = 0
    ·
      refine own_icmpN X0 hx (hb hby d8_20) (teq ((own_eqN (a := k1) (b := 0) ⟨by omega, by omega⟩).mpr c640)).2 23 rfl ?_
      refine own_aloadN X0 hx (hb hby d8_23) rfl rfl 24 rfl ?_
      refine own_iconst X0 hx (hb hby d8_24) (1 : Int32) rfl 25 rfl ?_
      refine own_iaload X0 hx hZ e0 Vm 1 rfl (Int32.ofNat m1) rfl (hb hby d8_25) 26 rfl ?_
      refine own_iconst X0 hx (hb hby d8_26) (1 : Int32) rfl 27 rfl ?_
      by_cases c641 : m1 = 1
      ·
        refine own_icmpN X0 hx (hb hby d8_27) (teq ((own_eqN (a := m1) (b := 1) ⟨by omega, by omega⟩).mpr c641)).2 30 rfl ?_
        refine own_iconst X0 hx (hb hby d8_30) (1 : Int32) rfl 31 rfl ?_
        refine own_ireturn X0 hx Bd.notSynchronized hG Bd.returns (hb hby d8_31) (by decide) (by decide) ?_
        rw [e0]
        exact ⟨by unfold own_fm; rw [if_neg z0, if_pos ⟨c640, c641⟩]; rfl, N0, rfl⟩
      ·
        refine own_icmpY X0 hx (hb hby d8_27) (feq (fun q => c641 ((own_eqN (a := m1) (b := 1) ⟨by omega, by omega⟩).mp q))).2 32 ⟨by decide, by decide⟩ ?_
        exact k2_ z0 (fun q => c641 q.2)
    ·
      refine own_icmpY X0 hx (hb hby d8_20) (feq (fun q => c640 ((own_eqN (a := k1) (b := 0) ⟨by omega, by omega⟩).mp q))).2 32 ⟨by decide, by decide⟩ ?_
      exact k2_ z0 (fun q => c640 q.1)
  refine own_aloadN X0 hx (hb hby d8_0) rfl rfl 1 rfl ?_
  refine own_iconst X0 hx (hb hby d8_1) (0 : Int32) rfl 2 rfl ?_
  refine own_iaload X0 hx hZ e0 Vk 0 rfl (Int32.ofNat k0) rfl (hb hby d8_2) 3 rfl ?_
  refine own_iloadN X0 hx (hb hby d8_3) rfl 4 rfl ?_
  by_cases c642 : k0 = 0
  ·
    refine own_icmpN X0 hx (hb hby d8_4) (teq ((own_eqN (a := k0) (b := 0) ⟨by omega, by omega⟩).mpr c642)).2 7 rfl ?_
    refine own_aloadN X0 hx (hb hby d8_7) rfl rfl 8 rfl ?_
    refine own_iconst X0 hx (hb hby d8_8) (0 : Int32) rfl 9 rfl ?_
    refine own_iaload X0 hx hZ e0 Vm 0 rfl (Int32.ofNat m0) rfl (hb hby d8_9) 10 rfl ?_
    refine own_iconst X0 hx (hb hby d8_10) (1 : Int32) rfl 11 rfl ?_
    by_cases c643 : m0 = 1
    ·
      refine own_icmpN X0 hx (hb hby d8_11) (teq ((own_eqN (a := m0) (b := 1) ⟨by omega, by omega⟩).mpr c643)).2 14 rfl ?_
      refine own_iconst X0 hx (hb hby d8_14) (0 : Int32) rfl 15 rfl ?_
      refine own_ireturn X0 hx Bd.notSynchronized hG Bd.returns (hb hby d8_15) (by decide) (by decide) ?_
      rw [e0]
      exact ⟨by unfold own_fm; rw [if_pos ⟨c642, c643⟩]; rfl, N0, rfl⟩
    ·
      refine own_icmpY X0 hx (hb hby d8_11) (feq (fun q => c643 ((own_eqN (a := m0) (b := 1) ⟨by omega, by omega⟩).mp q))).2 16 ⟨by decide, by decide⟩ ?_
      exact k1_  (fun q => c643 q.2)
  ·
    refine own_icmpY X0 hx (hb hby d8_4) (feq (fun q => c642 ((own_eqN (a := k0) (b := 0) ⟨by omega, by omega⟩).mp q))).2 16 ⟨by decide, by decide⟩ ?_
    exact k1_  (fun q => c642 q.1)
theorem ef_rmFm1 (m : MethodId) (x0 : Addr) (x1 : Addr) (x2 : Int32) : entryFrame m #[(.ref x0), (.ref x1), (.int x2)] 3 = mkF m 0 #[.val (.ref x0), .val (.ref x1), .val (.int x2)] [] := by first | (simp [entryFrame, mkF, argsToLocals, Value.category, maxLocals]; done) | rfl
set_option maxRecDepth 65536 in
set_option maxHeartbeats 40000000 in
theorem rmFm1 (l : Launch) (Z : State) (a0 : Array Value) (hw : ∀ d ∈ tables_1, d.before a0 Z = true) (ws : List Jvm.Cond) (ka ma : Addr) (k0 k1 k2 k3 k4 m0 m1 m2 m3 m4 : Nat) (h0 : Heap) (n0 : Nat) (hk : k0 < 2 ∧ k1 < 2 ∧ k2 < 2 ∧ k3 < 2 ∧ k4 < 2) (hm : m0 < 2 ∧ m1 < 2 ∧ m2 < 2 ∧ m3 < 2 ∧ m4 < 2) (Vk : own_A .int Value.int Z h0 ka (own_M [k0, k1, k2, k3, k4])) (Vm : own_A .int Value.int Z h0 ma (own_M [m0, m1, m2, m3, m4])) :
    MetFree l own_y8 (head1 (Jvm.Cond.code own_y8 method_3_code 3 (some .int) :: ws) ({ frames := 0, cells := 0, slots := 0, locals := 0 } : Room)) (fun aR U => aR = #[(.ref ka), (.ref ma), (.int (1 : Int32))] ∧ Z.Warmed39 U.vm ∧ U.heap = h0) (fun _ _ _ _ _ => True) (fun _ U o U' => ∃ v L, o = .returned v ∧ QF (own_fm k0 k1 k2 k3 k4 m0 m1 m2 m3 m4 1) h0 n0 v U'.heap L ∧ FrameEnd U o U' L ({ frames := 0, cells := 0, slots := 0, locals := 0 } : Room).cells ({ frames := 0, cells := 0, slots := 0, locals := 0 } : Room).slots) := by
  refine MetFree.of_bodySF pf_8 hisR ?_
  intro p e s m args below meth c s₁ Bd hml0 hP hK
  obtain ⟨rfl, hZ, hhE⟩ := hP
  have hx := Bd.exec
  have hby := Bd.bytes
  have hml : c.maxLocals = 3 := hml0
  have hown : s.vm.findClass "com/example/libhedge/libhedge/RefinablePartitionSplitPinLaw" = some m.cls := findClass_of_methodNamed Bd.named
  have hnm := (name_of_methodNamed Bd.named Bd.method).1
  have X0 : Stand p l e ({ frames := 0, cells := 0, slots := 0, locals := 0 } : Room) s m #[(.ref ka), (.ref ma), (.int (1 : Int32))] below meth c s₁ [] 0 0 := Stand.of_body Bd
  have e0 : s₁.heap = h0 := by rw [← hhE, Bd.state]; rfl
  have N0 := Fr.nil n0
  show own_Go p e below (own_Post s (QF (own_fm k0 k1 k2 k3 k4 m0 m1 m2 m3 m4 1) h0 n0) ({ frames := 0, cells := 0, slots := 0, locals := 0 } : Room).cells ({ frames := 0, cells := 0, slots := 0, locals := 0 } : Room).slots) (s₁.setTop (entryFrame m #[(.ref ka), (.ref ma), (.int (1 : Int32))] 3))
  rw [ef_rmFm1]
  generalize hG : own_Post s (QF (own_fm k0 k1 k2 k3 k4 m0 m1 m2 m3 m4 1) h0 n0) ({ frames := 0, cells := 0, slots := 0, locals := 0 } : Room).cells ({ frames := 0, cells := 0, slots := 0, locals := 0 } : Room).slots = G
  have k5_ : ¬ (k0 = 1 ∧ m0 = 1) → ¬ (k1 = 1 ∧ m1 = 1) → ¬ (k2 = 1 ∧ m2 = 1) → ¬ (k3 = 1 ∧ m3 = 1) → ¬ (k4 = 1 ∧ m4 = 1) → own_Go p e below G (s₁.setTop (mkF m 80 #[.val (.ref ka), .val (.ref ma), .val (.int (1 : Int32))] [])) := by
    intro z0 z1 z2 z3 z4
    refine own_iconst X0 hx (hb hby d8_80) (5 : Int32) rfl 81 rfl ?_
    refine own_ireturn X0 hx Bd.notSynchronized hG Bd.returns (hb hby d8_81) (by decide) (by decide) ?_
    rw [e0]
    exact ⟨by unfold own_fm; rw [if_neg z0, if_neg z1, if_neg z2, if_neg z3, if_neg z4]; rfl, N0, rfl⟩
  have k4_ : ¬ (k0 = 1 ∧ m0 = 1) → ¬ (k1 = 1 ∧ m1 = 1) → ¬ (k2 = 1 ∧ m2 = 1) → ¬ (k3 = 1 ∧ m3 = 1) → own_Go p e below G (s₁.setTop (mkF m 64 #[.val (.ref ka), .val (.ref ma), .val (.int (1 : Int32))] [])) := by
    intro z0 z1 z2 z3
    refine own_aloadN X0 hx (hb hby d8_64) rfl rfl 65 rfl ?_
    refine own_iconst X0 hx (hb hby d8_65) (4 : Int32) rfl 66 rfl ?_
    refine own_iaload X0 hx hZ e0 Vk 4 rfl (Int32.ofNat k4) rfl (hb hby d8_66) 67 rfl ?_
    refine own_iloadN X0 hx (hb hby d8_67) rfl 68 rfl ?_
    by_cases c644 : k4 = 1
    ·
      refine own_icmpN X0 hx (hb hby d8_68) (teq ((own_eqN (a := k4) (b := 1) ⟨by omega, by omega⟩).mpr c644)).2 71 rfl ?_
      refine own_aloadN X0 hx (hb hby d8_71) rfl rfl 72 rfl ?_
      refine own_iconst X0 hx (hb hby d8_72) (4 : Int32) rfl 73 rfl ?_
      refine own_iaload X0 hx hZ e0 Vm 4 rfl (Int32.ofNat m4) rfl (hb hby d8_73) 74 rfl ?_
      refine own_iconst X0 hx (hb hby d8_74) (1 : Int32) rfl 75 rfl ?_
      by_cases c645 : m4 = 1
      ·
        refine own_icmpN X0 hx (hb hby d8_75) (teq ((own_eqN (a := m4) (b := 1) ⟨by omega, by omega⟩).mpr c645)).2 78 rfl ?_
        refine own_iconst X0 hx (hb hby d8_78) (4 : Int32) rfl 79 rfl ?_
        refine own_ireturn X0 hx Bd.notSynchronized hG Bd.returns (hb hby d8_79) (by decide) (by decide) ?_
        rw [e0]
        exact ⟨by unfold own_fm; rw [if_neg z0, if_neg z1, if_neg z2, if_neg z3, if_pos ⟨c644, c645⟩]; rfl, N0, rfl⟩
      ·
        refine own_icmpY X0 hx (hb hby d8_75) (feq (fun q => c645 ((own_eqN (a := m4) (b := 1) ⟨by omega, by omega⟩).mp q))).2 80 ⟨by decide, by decide⟩ ?_
        exact k5_ z0 z1 z2 z3 (fun q => c645 q.2)
    ·
      refine own_icmpY X0 hx (hb hby d8_68) (feq (fun q => c644 ((own_eqN (a := k4) (b := 1) ⟨by omega, by omega⟩).mp q))).2 80 ⟨by decide, by decide⟩ ?_
      exact k5_ z0 z1 z2 z3 (fun q => c644 q.1)
  have k3_ : ¬ (k0 = 1 ∧ m0 = 1) → ¬ (k1 = 1 ∧ m1 = 1) → ¬ (k2 = 1 ∧ m2 = 1) → own_Go p e below G (s₁.setTop (mkF m 48 #[.val (.ref ka), .val (.ref ma), .val (.int (1 : Int32))] [])) := by
    intro z0 z1 z2
    refine own_aloadN X0 hx (hb hby d8_48) rfl rfl 49 rfl ?_
    refine own_iconst X0 hx (hb hby d8_49) (3 : Int32) rfl 50 rfl ?_
    refine own_iaload X0 hx hZ e0 Vk 3 rfl (Int32.ofNat k3) rfl (hb hby d8_50) 51 rfl ?_
    refine own_iloadN X0 hx (hb hby d8_51) rfl 52 rfl ?_
    by_cases c646 : k3 = 1
    ·
      refine own_icmpN X0 hx (hb hby d8_52) (teq ((own_eqN (a := k3) (b := 1) ⟨by omega, by omega⟩).mpr c646)).2 55 rfl ?_
      refine own_aloadN X0 hx (hb hby d8_55) rfl rfl 56 rfl ?_
      refine own_iconst X0 hx (hb hby d8_56) (3 : Int32) rfl 57 rfl ?_
      refine own_iaload X0 hx hZ e0 Vm 3 rfl (Int32.ofNat m3) rfl (hb hby d8_57) 58 rfl ?_
      refine own_iconst X0 hx (hb hby d8_58) (1 : Int32) rfl 59 rfl ?_
      by_cases c647 : m3 = 1
      ·
        refine own_icmpN X0 hx (hb hby d8_59) (teq ((own_eqN (a := m3) (b := 1) ⟨by omega, by omega⟩).mpr c647)).2 62 rfl ?_
        refine own_iconst X0 hx (hb hby d8_62) (3 : Int32) rfl 63 rfl ?_
        refine own_ireturn X0 hx Bd.notSynchronized hG Bd.returns (hb hby d8_63) (by decide) (by decide) ?_
        rw [e0]
        exact ⟨by unfold own_fm; rw [if_neg z0, if_neg z1, if_neg z2, if_pos ⟨c646, c647⟩]; rfl, N0, rfl⟩
      ·
        refine own_icmpY X0 hx (hb hby d8_59) (feq (fun q => c647 ((own_eqN (a := m3) (b := 1) ⟨by omega, by omega⟩).mp q))).2 64 ⟨by decide, by decide⟩ ?_
        exact k4_ z0 z1 z2 (fun q => c647 q.2)
    ·
      refine own_icmpY X0 hx (hb hby d8_52) (feq (fun q => c646 ((own_eqN (a := k3) (b := 1) ⟨by omega, by omega⟩).mp q))).2 64 ⟨by decide, by decide⟩ ?_
      exact k4_ z0 z1 z2 (fun q => c646 q.1)
  have k2_ : ¬ (k0 = 1 ∧ m0 = 1) → ¬ (k1 = 1 ∧ m1 = 1) → own_Go p e below G (s₁.setTop (mkF m 32 #[.val (.ref ka), .val (.ref ma), .val (.int (1 : Int32))] [])) := by
    intro z0 z1
    refine own_aloadN X0 hx (hb hby d8_32) rfl rfl 33 rfl ?_
    refine own_iconst X0 hx (hb hby d8_33) (2 : Int32) rfl 34 rfl ?_
    refine own_iaload X0 hx hZ e0 Vk 2 rfl (Int32.ofNat k2) rfl (hb hby d8_34) 35 rfl ?_
    refine own_iloadN X0 hx (hb hby d8_35) rfl 36 rfl ?_
    by_cases c648 : k2 = 1
    ·
      refine own_icmpN X0 hx (hb hby d8_36) (teq ((own_eqN (a := k2) (b := 1) ⟨by omega, by omega⟩).mpr c648)).2 39 rfl ?_
      refine own_aloadN X0 hx (hb hby d8_39) rfl rfl 40 rfl ?_
      refine own_iconst X0 hx (hb hby d8_40) (2 : Int32) rfl 41 rfl ?_
      refine own_iaload X0 hx hZ e0 Vm 2 rfl (Int32.ofNat m2) rfl (hb hby d8_41) 42 rfl ?_
      refine own_iconst X0 hx (hb hby d8_42) (1 : Int32) rfl 43 rfl ?_
      by_cases c649 : m2 = 1
      ·
        refine own_icmpN X0 hx (hb hby d8_43) (teq ((own_eqN (a := m2) (b := 1) ⟨by omega, by omega⟩).mpr c649)).2 46 rfl ?_
        refine own_iconst X0 hx (hb hby d8_46) (2 : Int32) rfl 47 rfl ?_
        refine own_ireturn X0 hx Bd.notSynchronized hG Bd.returns (hb hby d8_47) (by decide) (by decide) ?_
        rw [e0]
        exact ⟨by unfold own_fm; rw [if_neg z0, if_neg z1, if_pos ⟨c648, c649⟩]; rfl, N0, rfl⟩
      ·
        refine own_icmpY X0 hx (hb hby d8_43) (feq (fun q => c649 ((own_eqN (a := m2) (b := 1) ⟨by omega, by omega⟩).mp q))).2 48 ⟨by decide, by decide⟩ ?_
        exact k3_ z0 z1 (fun q => c649 q.2)
    ·
      refine own_icmpY X0 hx (hb hby d8_36) (feq (fun q => c648 ((own_eqN (a := k2) (b := 1) ⟨by omega, by omega⟩).mp q))).2 48 ⟨by decide, by decide⟩ ?_
      exact k3_ z0 z1 (fun q => c648 q.1)
  have k1_ : ¬ (k0 = 1 ∧ m0 = 1) → own_Go p e below G (s₁.setTop (mkF m 16 #[.val (.ref ka), .val (.ref ma), .val (.int (1 : Int32))] [])) := by
    intro z0
    refine own_aloadN X0 hx (hb hby d8_16) rfl rfl 17 rfl ?_
    refine own_iconst X0 hx (hb hby d8_17) (1 : Int32) rfl 18 rfl ?_
    refine own_iaload X0 hx hZ e0 Vk 1 rfl (Int32.ofNat k1) rfl (hb hby d8_18) 19 rfl ?_
    refine own_iloadN X0 hx (hb hby d8_19) rfl 20 rfl ?_
    by_cases c650 : k1 = 1
    ·
      refine own_icmpN X0 hx (hb hby d8_20) (teq ((own_eqN (a := k1) (b := 1) ⟨by omega, by omega⟩).mpr c650)).2 23 rfl ?_
      refine own_aloadN X0 hx (hb hby d8_23) rfl rfl 24 rfl ?_
      refine own_iconst X0 hx (hb hby d8_24) (1 : Int32) rfl 25 rfl ?_
      refine own_iaload X0 hx hZ e0 Vm 1 rfl (Int32.ofNat m1) rfl (hb hby d8_25) 26 rfl ?_
      refine own_iconst X0 hx (hb hby d8_26) (1 : Int32) rfl 27 rfl ?_
      by_cases c651 : m1 = 1
      ·
        refine own_icmpN X0 hx (hb hby d8_27) (teq ((own_eqN (a := m1) (b := 1) ⟨by omega, by omega⟩).mpr c651)).2 30 rfl ?_
        refine own_iconst X0 hx (hb hby d8_30) (1 : Int32) rfl 31 rfl ?_
        refine own_ireturn X0 hx Bd.notSynchronized hG Bd.returns (hb hby d8_31) (by decide) (by decide) ?_
        rw [e0]
        exact ⟨by unfold own_fm; rw [if_neg z0, if_pos ⟨c650, c651⟩]; rfl, N0, rfl⟩
      ·
        refine own_icmpY X0 hx (hb hby d8_27) (feq (fun q => c651 ((own_eqN (a := m1) (b := 1) ⟨by omega, by omega⟩).mp q))).2 32 ⟨by decide, by decide⟩ ?_
        exact k2_ z0 (fun q => c651 q.2)
    ·
      refine own_icmpY X0 hx (hb hby d8_20) (feq (fun q => c650 ((own_eqN (a := k1) (b := 1) ⟨by omega, by omega⟩).mp q))).2 32 ⟨by decide, by decide⟩ ?_
      exact k2_ z0 (fun q => c650 q.1)
  refine own_aloadN X0 hx (hb hby d8_0) rfl rfl 1 rfl ?_
  refine own_iconst X0 hx (hb hby d8_1) (0 : Int32) rfl 2 rfl ?_
  refine own_iaload X0 hx hZ e0 Vk 0 rfl (Int32.ofNat k0) rfl (hb hby d8_2) 3 rfl ?_
  refine own_iloadN X0 hx (hb hby d8_3) rfl 4 rfl ?_
  by_cases c652 : k0 = 1
  ·
    refine own_icmpN X0 hx (hb hby d8_4) (teq ((own_eqN (a := k0) (b := 1) ⟨by omega, by omega⟩).mpr c652)).2 7 rfl ?_
    refine own_aloadN X0 hx (hb hby d8_7) rfl rfl 8 rfl ?_
    refine own_iconst X0 hx (hb hby d8_8) (0 : Int32) rfl 9 rfl ?_
    refine own_iaload X0 hx hZ e0 Vm 0 rfl (Int32.ofNat m0) rfl (hb hby d8_9) 10 rfl ?_
    refine own_iconst X0 hx (hb hby d8_10) (1 : Int32) rfl 11 rfl ?_
    by_cases c653 : m0 = 1
    ·
      refine own_icmpN X0 hx (hb hby d8_11) (teq ((own_eqN (a := m0) (b := 1) ⟨by omega, by omega⟩).mpr c653)).2 14 rfl ?_
      refine own_iconst X0 hx (hb hby d8_14) (0 : Int32) rfl 15 rfl ?_
      refine own_ireturn X0 hx Bd.notSynchronized hG Bd.returns (hb hby d8_15) (by decide) (by decide) ?_
      rw [e0]
      exact ⟨by unfold own_fm; rw [if_pos ⟨c652, c653⟩]; rfl, N0, rfl⟩
    ·
      refine own_icmpY X0 hx (hb hby d8_11) (feq (fun q => c653 ((own_eqN (a := m0) (b := 1) ⟨by omega, by omega⟩).mp q))).2 16 ⟨by decide, by decide⟩ ?_
      exact k1_  (fun q => c653 q.2)
  ·
    refine own_icmpY X0 hx (hb hby d8_4) (feq (fun q => c652 ((own_eqN (a := k0) (b := 1) ⟨by omega, by omega⟩).mp q))).2 16 ⟨by decide, by decide⟩ ?_
    exact k1_  (fun q => c652 q.1)
def own_Or4 (ka ma a kt : Nat) : Prop := ka < ma ∧ ma < a ∧ a < kt
def QC (Z : State) (ka ma a : Addr) (KL ML el pl so fi en un to : List Nat) (cnt tc : Nat) (n0 : Nat) (v : Option Value) (h : Heap) (L : List Loc) : Prop := ∃ el_ pl_ so_ fi_ en_ un_ to_ : Addr, v = none ∧ Fr n0 L ∧ n0 ≤ h.size ∧ own_Or ka ma a el_ pl_ so_ fi_ en_ un_ to_ ∧ own_PE Z h ka ma a el_ pl_ so_ fi_ en_ un_ to_ KL ML el pl so fi en un to cnt tc
theorem ef_rmC (m : MethodId) (x0 : Addr) (x1 : Addr) (x2 : Int32) : entryFrame m #[(.ref x0), (.ref x1), (.int x2)] 9 = mkF m 0 #[.val (.ref x0), .val (.ref x1), .val (.int x2), .unset, .unset, .unset, .unset, .unset, .unset] [] := by first | (simp [entryFrame, mkF, argsToLocals, Value.category, maxLocals]; done) | rfl
set_option maxRecDepth 65536 in
set_option maxHeartbeats 40000000 in
theorem rmC (l : Launch) (Z : State) (a0 : Array Value) (hw : ∀ d ∈ tables_1, d.before a0 Z = true) (ws : List Jvm.Cond) (ka ma a kt : Addr) (k0 k1 k2 k3 k4 : Nat) (KL ML : List Nat) (el' pl' so' fi' en' un' to' : List Nat) (cnt' tc' : Nat) (h0 : Heap) (n0 : Nat) (Z0 : n0 ≤ h0.size) (ga : n0 ≤ ka) (hord : own_Or4 ka ma a kt) (E0 : Exa Z h0 a "com/example/libhedge/libhedge/RefinablePartition") (Fi0 : Fld Z h0 a "com/example/libhedge/libhedge/RefinablePartition" "elements" "[I" .null) (Fi1 : Fld Z h0 a "com/example/libhedge/libhedge/RefinablePartition" "placeOf" "[I" .null) (Fi2 : Fld Z h0 a "com/example/libhedge/libhedge/RefinablePartition" "setOf" "[I" .null) (Fi3 : Fld Z h0 a "com/example/libhedge/libhedge/RefinablePartition" "first" "[I" .null) (Fi4 : Fld Z h0 a "com/example/libhedge/libhedge/RefinablePartition" "end" "[I" .null) (Fi5 : Fld Z h0 a "com/example/libhedge/libhedge/RefinablePartition" "unmarked" "[I" .null) (Fi6 : Fld Z h0 a "com/example/libhedge/libhedge/RefinablePartition" "touched" "[I" .null) (Fi7 : Fld Z h0 a "com/example/libhedge/libhedge/RefinablePartition" "setCount" "I" (.int (0 : Int32))) (Fi8 : Fld Z h0 a "com/example/libhedge/libhedge/RefinablePartition" "touchedCount" "I" (.int (0 : Int32))) (Vka : own_A .int Value.int Z h0 ka (own_M KL)) (Vma : own_A .int Value.int Z h0 ma (own_M ML)) (Vkt : own_A .int Value.int Z h0 kt (own_M [k0, k1, k2, k3, k4])) (hs : own_ctor [k0, k1, k2, k3, k4] = some ⟨el', pl', so', fi', en', un', to', cnt', tc'⟩) :
    MetFree l own_y2 (head1 (Jvm.Cond.code own_y2 prog_71_method_1_code 9 none :: ws) ({ frames := 1, cells := 10, slots := 43, locals := 30 } : Room)) (fun aR U => aR = #[(.ref a), (.ref kt), (.int (2 : Int32))] ∧ Z.Warmed39 U.vm ∧ U.heap = h0) (fun _ _ _ _ _ => True) (fun _ U o U' => ∃ v L, o = .returned v ∧ QC Z ka ma a KL ML el' pl' so' fi' en' un' to' cnt' tc' n0 v U'.heap L ∧ FrameEnd U o U' L ({ frames := 1, cells := 10, slots := 43, locals := 30 } : Room).cells ({ frames := 1, cells := 10, slots := 43, locals := 30 } : Room).slots) := by
  refine MetFree.of_bodySF pf_2 hisR ?_
  intro p e s m args below meth c s₁ Bd hml0 hP hK
  obtain ⟨rfl, hZ, hhE⟩ := hP
  have hx := Bd.exec
  have hby := Bd.bytes
  have hml : c.maxLocals = 9 := hml0
  have hown : s.vm.findClass "com/example/libhedge/libhedge/RefinablePartition" = some m.cls := findClass_of_methodNamed Bd.named
  have hnm := (name_of_methodNamed Bd.named Bd.method).1
  have X0 : Stand p l e ({ frames := 1, cells := 10, slots := 43, locals := 30 } : Room) s m #[(.ref a), (.ref kt), (.int (2 : Int32))] below meth c s₁ [] 0 0 := Stand.of_body Bd
  have e0 : s₁.heap = h0 := by rw [← hhE, Bd.state]; rfl
  have N0 := Fr.nil n0
  show own_Go p e below (own_Post s (QC Z ka ma a KL ML el' pl' so' fi' en' un' to' cnt' tc' n0) ({ frames := 1, cells := 10, slots := 43, locals := 30 } : Room).cells ({ frames := 1, cells := 10, slots := 43, locals := 30 } : Room).slots) (s₁.setTop (entryFrame m #[(.ref a), (.ref kt), (.int (2 : Int32))] 9))
  rw [ef_rmC]
  generalize hG : own_Post s (QC Z ka ma a KL ML el' pl' so' fi' en' un' to' cnt' tc' n0) ({ frames := 1, cells := 10, slots := 43, locals := 30 } : Room).cells ({ frames := 1, cells := 10, slots := 43, locals := 30 } : Room).slots = G
  obtain ⟨q0, q1, q2⟩ := id hord
  have ga' : @LE.le Nat _ n0 ka := ga
  refine own_aloadN X0 hx (hb hby d2_0) rfl rfl 1 rfl ?_
  refine own_initO X0 hx hZ hown (own_w hw 11 rfl) (own_w hw 12 rfl) (own_w hw 13 rfl) e0 (by rw [hml]; rfl) (hb hby d2_1) (by decide) 0 (Nat.le_of_eq rfl) (by decide) 4 rfl (fun T654 X654 e654 => ?_)
  refine own_aloadN X654 hx (hb hby d2_4) rfl rfl 5 rfl ?_
  refine own_arraylength X654 hx hZ e654 Vkt (hb hby d2_5) 6 rfl ?_
  rw [show Int32.ofNat (List.length (own_M [k0, k1, k2, k3, k4])) = (5 : Int32) from rfl]
  refine own_istoreN X654 hx (hb hby d2_6) #[.val (.ref a), .val (.ref kt), .val (.int (2 : Int32)), .val (.int (5 : Int32)), .unset, .unset, .unset, .unset, .unset] rfl 7 rfl ?_
  refine own_aloadN X654 hx (hb hby d2_7) rfl rfl 8 rfl ?_
  refine own_iloadN X654 hx (hb hby d2_8) rfl 9 rfl ?_
  refine own_newI X654 hx hZ (own_w hw 0 rfl) e654 (hb hby d2_9) 5 rfl 5 (by decide) (by decide) (by decide) (by decide) 11 rfl (fun T655 h655 a655 g655 X655 e655 E655 V655 => ?_)
  have ne656 : a ≠ a655 := by rw [g655]; exact Nat.ne_of_lt E0.lt
  have ne657 : ka ≠ a655 := by rw [g655]; exact Nat.ne_of_lt Vka.lt
  have ne658 : ma ≠ a655 := by rw [g655]; exact Nat.ne_of_lt Vma.lt
  have ne659 : kt ≠ a655 := by rw [g655]; exact Nat.ne_of_lt Vkt.lt
  have ge660 : n0 ≤ a655 := by rw [g655]; exact Z0
  have Z661 : n0 ≤ h655.size := Nat.le_trans Z0 E655.1
  have E662 := E0.ext E655
  have F663 := Fi0.ext E655
  have F664 := Fi1.ext E655
  have F665 := Fi2.ext E655
  have F666 := Fi3.ext E655
  have F667 := Fi4.ext E655
  have F668 := Fi5.ext E655
  have F669 := Fi6.ext E655
  have F670 := Fi7.ext E655
  have F671 := Fi8.ext E655
  have V672 := Vka.ext E655
  have V673 := Vma.ext E655
  have V674 := Vkt.ext E655
  rw [show (List.replicate 5 (0 : Int32)) = (own_M [0, 0, 0, 0, 0]) from rfl] at V655
  have o655 : @LT.lt Nat _ kt a655 := by rw [g655]; exact Vkt.lt
  refine own_putF X655 hx hZ hown (own_w hw 14 rfl) Via.refl e655 F663 E662 (Or.inr ⟨(own_w hw 15 rfl), rfl, hnm⟩) (own_w hw 6 rfl) (ty := (.array .int)) (v' := (.ref a655)) (by decide) rfl rfl (hb hby d2_11) 14 rfl (fun T675 h675 X675 e675 W675 => ?_)
  have N676 := Fr.snoc X675 N0 (by omega)
  have Z677 : n0 ≤ h675.size := by rw [W675.size]; exact Z661
  have E678 := E662.wr W675
  have F679 := F663.same W675
  have F680 := F664.other W675 (Or.inr (sn_16 hw))
  have F681 := F665.other W675 (Or.inr (sn_17 hw))
  have F682 := F666.other W675 (Or.inr (sn_18 hw))
  have F683 := F667.other W675 (Or.inr (sn_19 hw))
  have F684 := F668.other W675 (Or.inr (sn_20 hw))
  have F685 := F669.other W675 (Or.inr (sn_21 hw))
  have F686 := F670.other W675 (Or.inr (sn_22 hw))
  have F687 := F671.other W675 (Or.inr (sn_23 hw))
  have V688 := V672.other W675 (Nat.ne_of_lt (by omega))
  have V689 := V673.other W675 (Nat.ne_of_lt (by omega))
  have V690 := V674.other W675 (Ne.symm (Nat.ne_of_lt (by omega)))
  have V691 := V655.other W675 (Ne.symm ne656)
  refine own_aloadN X675 hx (hb hby d2_14) rfl rfl 15 rfl ?_
  refine own_iloadN X675 hx (hb hby d2_15) rfl 16 rfl ?_
  refine own_newI X675 hx hZ (own_w hw 0 rfl) e675 (hb hby d2_16) 5 rfl 5 (by decide) (by decide) (by decide) (by decide) 18 rfl (fun T692 h692 a692 g692 X692 e692 E692 V692 => ?_)
  have ne693 : a ≠ a692 := by rw [g692]; exact Nat.ne_of_lt E678.lt
  have ne694 : ka ≠ a692 := by rw [g692]; exact Nat.ne_of_lt V688.lt
  have ne695 : ma ≠ a692 := by rw [g692]; exact Nat.ne_of_lt V689.lt
  have ne696 : kt ≠ a692 := by rw [g692]; exact Nat.ne_of_lt V690.lt
  have ne697 : a655 ≠ a692 := by rw [g692]; exact Nat.ne_of_lt V691.lt
  have ge698 : n0 ≤ a692 := by rw [g692]; exact Z677
  have Z699 : n0 ≤ h692.size := Nat.le_trans Z677 E692.1
  have E700 := E678.ext E692
  have F701 := F679.ext E692
  have F702 := F680.ext E692
  have F703 := F681.ext E692
  have F704 := F682.ext E692
  have F705 := F683.ext E692
  have F706 := F684.ext E692
  have F707 := F685.ext E692
  have F708 := F686.ext E692
  have F709 := F687.ext E692
  have V710 := V688.ext E692
  have V711 := V689.ext E692
  have V712 := V690.ext E692
  have V713 := V691.ext E692
  rw [show (List.replicate 5 (0 : Int32)) = (own_M [0, 0, 0, 0, 0]) from rfl] at V692
  have o692 : @LT.lt Nat _ a655 a692 := by rw [g692]; exact V691.lt
  refine own_putF X692 hx hZ hown (own_w hw 16 rfl) Via.refl e692 F702 E700 (Or.inr ⟨(own_w hw 17 rfl), rfl, hnm⟩) (own_w hw 6 rfl) (ty := (.array .int)) (v' := (.ref a692)) (by decide) rfl rfl (hb hby d2_18) 21 rfl (fun T714 h714 X714 e714 W714 => ?_)
  have N715 := Fr.snoc X714 N676 (by omega)
  have Z716 : n0 ≤ h714.size := by rw [W714.size]; exact Z699
  have E717 := E700.wr W714
  have F718 := F701.other W714 (Or.inr (sn_24 hw))
  have F719 := F702.same W714
  have F720 := F703.other W714 (Or.inr (sn_25 hw))
  have F721 := F704.other W714 (Or.inr (sn_26 hw))
  have F722 := F705.other W714 (Or.inr (sn_27 hw))
  have F723 := F706.other W714 (Or.inr (sn_28 hw))
  have F724 := F707.other W714 (Or.inr (sn_29 hw))
  have F725 := F708.other W714 (Or.inr (sn_30 hw))
  have F726 := F709.other W714 (Or.inr (sn_31 hw))
  have V727 := V710.other W714 (Nat.ne_of_lt (by omega))
  have V728 := V711.other W714 (Nat.ne_of_lt (by omega))
  have V729 := V712.other W714 (Ne.symm (Nat.ne_of_lt (by omega)))
  have V730 := V713.other W714 (Ne.symm ne656)
  have V731 := V692.other W714 (Ne.symm ne693)
  refine own_aloadN X714 hx (hb hby d2_21) rfl rfl 22 rfl ?_
  refine own_iloadN X714 hx (hb hby d2_22) rfl 23 rfl ?_
  refine own_newI X714 hx hZ (own_w hw 0 rfl) e714 (hb hby d2_23) 5 rfl 5 (by decide) (by decide) (by decide) (by decide) 25 rfl (fun T732 h732 a732 g732 X732 e732 E732 V732 => ?_)
  have ne733 : a ≠ a732 := by rw [g732]; exact Nat.ne_of_lt E717.lt
  have ne734 : ka ≠ a732 := by rw [g732]; exact Nat.ne_of_lt V727.lt
  have ne735 : ma ≠ a732 := by rw [g732]; exact Nat.ne_of_lt V728.lt
  have ne736 : kt ≠ a732 := by rw [g732]; exact Nat.ne_of_lt V729.lt
  have ne737 : a655 ≠ a732 := by rw [g732]; exact Nat.ne_of_lt V730.lt
  have ne738 : a692 ≠ a732 := by rw [g732]; exact Nat.ne_of_lt V731.lt
  have ge739 : n0 ≤ a732 := by rw [g732]; exact Z716
  have Z740 : n0 ≤ h732.size := Nat.le_trans Z716 E732.1
  have E741 := E717.ext E732
  have F742 := F718.ext E732
  have F743 := F719.ext E732
  have F744 := F720.ext E732
  have F745 := F721.ext E732
  have F746 := F722.ext E732
  have F747 := F723.ext E732
  have F748 := F724.ext E732
  have F749 := F725.ext E732
  have F750 := F726.ext E732
  have V751 := V727.ext E732
  have V752 := V728.ext E732
  have V753 := V729.ext E732
  have V754 := V730.ext E732
  have V755 := V731.ext E732
  rw [show (List.replicate 5 (0 : Int32)) = (own_M [0, 0, 0, 0, 0]) from rfl] at V732
  have o732 : @LT.lt Nat _ a692 a732 := by rw [g732]; exact V731.lt
  refine own_putF X732 hx hZ hown (own_w hw 18 rfl) Via.refl e732 F744 E741 (Or.inr ⟨(own_w hw 19 rfl), rfl, hnm⟩) (own_w hw 6 rfl) (ty := (.array .int)) (v' := (.ref a732)) (by decide) rfl rfl (hb hby d2_25) 28 rfl (fun T756 h756 X756 e756 W756 => ?_)
  have N757 := Fr.snoc X756 N715 (by omega)
  have Z758 : n0 ≤ h756.size := by rw [W756.size]; exact Z740
  have E759 := E741.wr W756
  have F760 := F742.other W756 (Or.inr (sn_32 hw))
  have F761 := F743.other W756 (Or.inr (sn_33 hw))
  have F762 := F744.same W756
  have F763 := F745.other W756 (Or.inr (sn_34 hw))
  have F764 := F746.other W756 (Or.inr (sn_35 hw))
  have F765 := F747.other W756 (Or.inr (sn_36 hw))
  have F766 := F748.other W756 (Or.inr (sn_37 hw))
  have F767 := F749.other W756 (Or.inr (sn_38 hw))
  have F768 := F750.other W756 (Or.inr (sn_39 hw))
  have V769 := V751.other W756 (Nat.ne_of_lt (by omega))
  have V770 := V752.other W756 (Nat.ne_of_lt (by omega))
  have V771 := V753.other W756 (Ne.symm (Nat.ne_of_lt (by omega)))
  have V772 := V754.other W756 (Ne.symm ne656)
  have V773 := V755.other W756 (Ne.symm ne693)
  have V774 := V732.other W756 (Ne.symm ne733)
  refine own_aloadN X756 hx (hb hby d2_28) rfl rfl 29 rfl ?_
  refine own_iloadN X756 hx (hb hby d2_29) rfl 30 rfl ?_
  refine own_iconst X756 hx (hb hby d2_30) (1 : Int32) rfl 31 rfl ?_
  refine own_callS X756 hx hZ hown (own_w hw 20 rfl) (own_w hw 21 rfl) (own_w hw 22 rfl) (own_w hw 23 rfl) (by decide) e756 (rmMax l Z a0 hw [] h756 n0) (by rw [hml]; rfl) pd_2 (argsL := [(.int (5 : Int32)), (.int (1 : Int32))]) rfl (rest := [(.ref a)]) rfl (hb hby d2_31) 1 (Nat.le_of_eq rfl) (by decide) (by decide) (by decide) (by decide) 34 rfl (fun T775 L775 v775 X775 hQ775 => ?_)
  obtain ⟨rfl, N775, e775⟩ := hQ775
  have N776 := Fr.app N757 N775
  show own_Go p e below G (T775.setTop (mkF m 34 #[.val (.ref a), .val (.ref kt), .val (.int (2 : Int32)), .val (.int (5 : Int32)), .unset, .unset, .unset, .unset, .unset] [(.int (5 : Int32)), (.ref a)]))
  refine own_newI X775 hx hZ (own_w hw 0 rfl) e775 (hb hby d2_34) 5 rfl 5 (by decide) (by decide) (by decide) (by decide) 36 rfl (fun T777 h777 a777 g777 X777 e777 E777 V777 => ?_)
  have ne778 : a ≠ a777 := by rw [g777]; exact Nat.ne_of_lt E759.lt
  have ne779 : ka ≠ a777 := by rw [g777]; exact Nat.ne_of_lt V769.lt
  have ne780 : ma ≠ a777 := by rw [g777]; exact Nat.ne_of_lt V770.lt
  have ne781 : kt ≠ a777 := by rw [g777]; exact Nat.ne_of_lt V771.lt
  have ne782 : a655 ≠ a777 := by rw [g777]; exact Nat.ne_of_lt V772.lt
  have ne783 : a692 ≠ a777 := by rw [g777]; exact Nat.ne_of_lt V773.lt
  have ne784 : a732 ≠ a777 := by rw [g777]; exact Nat.ne_of_lt V774.lt
  have ge785 : n0 ≤ a777 := by rw [g777]; exact Z758
  have Z786 : n0 ≤ h777.size := Nat.le_trans Z758 E777.1
  have E787 := E759.ext E777
  have F788 := F760.ext E777
  have F789 := F761.ext E777
  have F790 := F762.ext E777
  have F791 := F763.ext E777
  have F792 := F764.ext E777
  have F793 := F765.ext E777
  have F794 := F766.ext E777
  have F795 := F767.ext E777
  have F796 := F768.ext E777
  have V797 := V769.ext E777
  have V798 := V770.ext E777
  have V799 := V771.ext E777
  have V800 := V772.ext E777
  have V801 := V773.ext E777
  have V802 := V774.ext E777
  rw [show (List.replicate 5 (0 : Int32)) = (own_M [0, 0, 0, 0, 0]) from rfl] at V777
  have o777 : @LT.lt Nat _ a732 a777 := by rw [g777]; exact V774.lt
  refine own_putF X777 hx hZ hown (own_w hw 24 rfl) Via.refl e777 F791 E787 (Or.inr ⟨(own_w hw 25 rfl), rfl, hnm⟩) (own_w hw 6 rfl) (ty := (.array .int)) (v' := (.ref a777)) (by decide) rfl rfl (hb hby d2_36) 39 rfl (fun T803 h803 X803 e803 W803 => ?_)
  have N804 := Fr.snoc X803 N776 (by omega)
  have Z805 : n0 ≤ h803.size := by rw [W803.size]; exact Z786
  have E806 := E787.wr W803
  have F807 := F788.other W803 (Or.inr (sn_40 hw))
  have F808 := F789.other W803 (Or.inr (sn_41 hw))
  have F809 := F790.other W803 (Or.inr (sn_42 hw))
  have F810 := F791.same W803
  have F811 := F792.other W803 (Or.inr (sn_43 hw))
  have F812 := F793.other W803 (Or.inr (sn_44 hw))
  have F813 := F794.other W803 (Or.inr (sn_45 hw))
  have F814 := F795.other W803 (Or.inr (sn_46 hw))
  have F815 := F796.other W803 (Or.inr (sn_47 hw))
  have V816 := V797.other W803 (Nat.ne_of_lt (by omega))
  have V817 := V798.other W803 (Nat.ne_of_lt (by omega))
  have V818 := V799.other W803 (Ne.symm (Nat.ne_of_lt (by omega)))
  have V819 := V800.other W803 (Ne.symm ne656)
  have V820 := V801.other W803 (Ne.symm ne693)
  have V821 := V802.other W803 (Ne.symm ne733)
  have V822 := V777.other W803 (Ne.symm ne778)
  refine own_aloadN X803 hx (hb hby d2_39) rfl rfl 40 rfl ?_
  refine own_aloadN X803 hx (hb hby d2_40) rfl rfl 41 rfl ?_
  refine own_getF X803 hx hZ hown (own_w hw 24 rfl) Via.refl e803 F810 (hb hby d2_41) 44 rfl (fun T823 X823 e823 => ?_)
  refine own_arraylength X823 hx hZ e823 V822 (hb hby d2_44) 45 rfl ?_
  rw [show Int32.ofNat (List.length (own_M [0, 0, 0, 0, 0])) = (5 : Int32) from rfl]
  refine own_newI X823 hx hZ (own_w hw 0 rfl) e823 (hb hby d2_45) 5 rfl 5 (by decide) (by decide) (by decide) (by decide) 47 rfl (fun T824 h824 a824 g824 X824 e824 E824 V824 => ?_)
  have ne825 : a ≠ a824 := by rw [g824]; exact Nat.ne_of_lt E806.lt
  have ne826 : ka ≠ a824 := by rw [g824]; exact Nat.ne_of_lt V816.lt
  have ne827 : ma ≠ a824 := by rw [g824]; exact Nat.ne_of_lt V817.lt
  have ne828 : kt ≠ a824 := by rw [g824]; exact Nat.ne_of_lt V818.lt
  have ne829 : a655 ≠ a824 := by rw [g824]; exact Nat.ne_of_lt V819.lt
  have ne830 : a692 ≠ a824 := by rw [g824]; exact Nat.ne_of_lt V820.lt
  have ne831 : a732 ≠ a824 := by rw [g824]; exact Nat.ne_of_lt V821.lt
  have ne832 : a777 ≠ a824 := by rw [g824]; exact Nat.ne_of_lt V822.lt
  have ge833 : n0 ≤ a824 := by rw [g824]; exact Z805
  have Z834 : n0 ≤ h824.size := Nat.le_trans Z805 E824.1
  have E835 := E806.ext E824
  have F836 := F807.ext E824
  have F837 := F808.ext E824
  have F838 := F809.ext E824
  have F839 := F810.ext E824
  have F840 := F811.ext E824
  have F841 := F812.ext E824
  have F842 := F813.ext E824
  have F843 := F814.ext E824
  have F844 := F815.ext E824
  have V845 := V816.ext E824
  have V846 := V817.ext E824
  have V847 := V818.ext E824
  have V848 := V819.ext E824
  have V849 := V820.ext E824
  have V850 := V821.ext E824
  have V851 := V822.ext E824
  rw [show (List.replicate 5 (0 : Int32)) = (own_M [0, 0, 0, 0, 0]) from rfl] at V824
  have o824 : @LT.lt Nat _ a777 a824 := by rw [g824]; exact V822.lt
  refine own_putF X824 hx hZ hown (own_w hw 26 rfl) Via.refl e824 F840 E835 (Or.inr ⟨(own_w hw 27 rfl), rfl, hnm⟩) (own_w hw 6 rfl) (ty := (.array .int)) (v' := (.ref a824)) (by decide) rfl rfl (hb hby d2_47) 50 rfl (fun T852 h852 X852 e852 W852 => ?_)
  have N853 := Fr.snoc X852 N804 (by omega)
  have Z854 : n0 ≤ h852.size := by rw [W852.size]; exact Z834
  have E855 := E835.wr W852
  have F856 := F836.other W852 (Or.inr (sn_48 hw))
  have F857 := F837.other W852 (Or.inr (sn_49 hw))
  have F858 := F838.other W852 (Or.inr (sn_50 hw))
  have F859 := F839.other W852 (Or.inr (sn_51 hw))
  have F860 := F840.same W852
  have F861 := F841.other W852 (Or.inr (sn_52 hw))
  have F862 := F842.other W852 (Or.inr (sn_53 hw))
  have F863 := F843.other W852 (Or.inr (sn_54 hw))
  have F864 := F844.other W852 (Or.inr (sn_55 hw))
  have V865 := V845.other W852 (Nat.ne_of_lt (by omega))
  have V866 := V846.other W852 (Nat.ne_of_lt (by omega))
  have V867 := V847.other W852 (Ne.symm (Nat.ne_of_lt (by omega)))
  have V868 := V848.other W852 (Ne.symm ne656)
  have V869 := V849.other W852 (Ne.symm ne693)
  have V870 := V850.other W852 (Ne.symm ne733)
  have V871 := V851.other W852 (Ne.symm ne778)
  have V872 := V824.other W852 (Ne.symm ne825)
  refine own_aloadN X852 hx (hb hby d2_50) rfl rfl 51 rfl ?_
  refine own_aloadN X852 hx (hb hby d2_51) rfl rfl 52 rfl ?_
  refine own_getF X852 hx hZ hown (own_w hw 24 rfl) Via.refl e852 F859 (hb hby d2_52) 55 rfl (fun T873 X873 e873 => ?_)
  refine own_arraylength X873 hx hZ e873 V871 (hb hby d2_55) 56 rfl ?_
  rw [show Int32.ofNat (List.length (own_M [0, 0, 0, 0, 0])) = (5 : Int32) from rfl]
  refine own_newI X873 hx hZ (own_w hw 0 rfl) e873 (hb hby d2_56) 5 rfl 5 (by decide) (by decide) (by decide) (by decide) 58 rfl (fun T874 h874 a874 g874 X874 e874 E874 V874 => ?_)
  have ne875 : a ≠ a874 := by rw [g874]; exact Nat.ne_of_lt E855.lt
  have ne876 : ka ≠ a874 := by rw [g874]; exact Nat.ne_of_lt V865.lt
  have ne877 : ma ≠ a874 := by rw [g874]; exact Nat.ne_of_lt V866.lt
  have ne878 : kt ≠ a874 := by rw [g874]; exact Nat.ne_of_lt V867.lt
  have ne879 : a655 ≠ a874 := by rw [g874]; exact Nat.ne_of_lt V868.lt
  have ne880 : a692 ≠ a874 := by rw [g874]; exact Nat.ne_of_lt V869.lt
  have ne881 : a732 ≠ a874 := by rw [g874]; exact Nat.ne_of_lt V870.lt
  have ne882 : a777 ≠ a874 := by rw [g874]; exact Nat.ne_of_lt V871.lt
  have ne883 : a824 ≠ a874 := by rw [g874]; exact Nat.ne_of_lt V872.lt
  have ge884 : n0 ≤ a874 := by rw [g874]; exact Z854
  have Z885 : n0 ≤ h874.size := Nat.le_trans Z854 E874.1
  have E886 := E855.ext E874
  have F887 := F856.ext E874
  have F888 := F857.ext E874
  have F889 := F858.ext E874
  have F890 := F859.ext E874
  have F891 := F860.ext E874
  have F892 := F861.ext E874
  have F893 := F862.ext E874
  have F894 := F863.ext E874
  have F895 := F864.ext E874
  have V896 := V865.ext E874
  have V897 := V866.ext E874
  have V898 := V867.ext E874
  have V899 := V868.ext E874
  have V900 := V869.ext E874
  have V901 := V870.ext E874
  have V902 := V871.ext E874
  have V903 := V872.ext E874
  rw [show (List.replicate 5 (0 : Int32)) = (own_M [0, 0, 0, 0, 0]) from rfl] at V874
  have o874 : @LT.lt Nat _ a824 a874 := by rw [g874]; exact V872.lt
  refine own_putF X874 hx hZ hown (own_w hw 28 rfl) Via.refl e874 F892 E886 (Or.inr ⟨(own_w hw 29 rfl), rfl, hnm⟩) (own_w hw 6 rfl) (ty := (.array .int)) (v' := (.ref a874)) (by decide) rfl rfl (hb hby d2_58) 61 rfl (fun T904 h904 X904 e904 W904 => ?_)
  have N905 := Fr.snoc X904 N853 (by omega)
  have Z906 : n0 ≤ h904.size := by rw [W904.size]; exact Z885
  have E907 := E886.wr W904
  have F908 := F887.other W904 (Or.inr (sn_56 hw))
  have F909 := F888.other W904 (Or.inr (sn_57 hw))
  have F910 := F889.other W904 (Or.inr (sn_58 hw))
  have F911 := F890.other W904 (Or.inr (sn_59 hw))
  have F912 := F891.other W904 (Or.inr (sn_60 hw))
  have F913 := F892.same W904
  have F914 := F893.other W904 (Or.inr (sn_61 hw))
  have F915 := F894.other W904 (Or.inr (sn_62 hw))
  have F916 := F895.other W904 (Or.inr (sn_63 hw))
  have V917 := V896.other W904 (Nat.ne_of_lt (by omega))
  have V918 := V897.other W904 (Nat.ne_of_lt (by omega))
  have V919 := V898.other W904 (Ne.symm (Nat.ne_of_lt (by omega)))
  have V920 := V899.other W904 (Ne.symm ne656)
  have V921 := V900.other W904 (Ne.symm ne693)
  have V922 := V901.other W904 (Ne.symm ne733)
  have V923 := V902.other W904 (Ne.symm ne778)
  have V924 := V903.other W904 (Ne.symm ne825)
  have V925 := V874.other W904 (Ne.symm ne875)
  refine own_aloadN X904 hx (hb hby d2_61) rfl rfl 62 rfl ?_
  refine own_aloadN X904 hx (hb hby d2_62) rfl rfl 63 rfl ?_
  refine own_getF X904 hx hZ hown (own_w hw 24 rfl) Via.refl e904 F911 (hb hby d2_63) 66 rfl (fun T926 X926 e926 => ?_)
  refine own_arraylength X926 hx hZ e926 V923 (hb hby d2_66) 67 rfl ?_
  rw [show Int32.ofNat (List.length (own_M [0, 0, 0, 0, 0])) = (5 : Int32) from rfl]
  refine own_newI X926 hx hZ (own_w hw 0 rfl) e926 (hb hby d2_67) 5 rfl 5 (by decide) (by decide) (by decide) (by decide) 69 rfl (fun T927 h927 a927 g927 X927 e927 E927 V927 => ?_)
  have ne928 : a ≠ a927 := by rw [g927]; exact Nat.ne_of_lt E907.lt
  have ne929 : ka ≠ a927 := by rw [g927]; exact Nat.ne_of_lt V917.lt
  have ne930 : ma ≠ a927 := by rw [g927]; exact Nat.ne_of_lt V918.lt
  have ne931 : kt ≠ a927 := by rw [g927]; exact Nat.ne_of_lt V919.lt
  have ne932 : a655 ≠ a927 := by rw [g927]; exact Nat.ne_of_lt V920.lt
  have ne933 : a692 ≠ a927 := by rw [g927]; exact Nat.ne_of_lt V921.lt
  have ne934 : a732 ≠ a927 := by rw [g927]; exact Nat.ne_of_lt V922.lt
  have ne935 : a777 ≠ a927 := by rw [g927]; exact Nat.ne_of_lt V923.lt
  have ne936 : a824 ≠ a927 := by rw [g927]; exact Nat.ne_of_lt V924.lt
  have ne937 : a874 ≠ a927 := by rw [g927]; exact Nat.ne_of_lt V925.lt
  have ge938 : n0 ≤ a927 := by rw [g927]; exact Z906
  have Z939 : n0 ≤ h927.size := Nat.le_trans Z906 E927.1
  have E940 := E907.ext E927
  have F941 := F908.ext E927
  have F942 := F909.ext E927
  have F943 := F910.ext E927
  have F944 := F911.ext E927
  have F945 := F912.ext E927
  have F946 := F913.ext E927
  have F947 := F914.ext E927
  have F948 := F915.ext E927
  have F949 := F916.ext E927
  have V950 := V917.ext E927
  have V951 := V918.ext E927
  have V952 := V919.ext E927
  have V953 := V920.ext E927
  have V954 := V921.ext E927
  have V955 := V922.ext E927
  have V956 := V923.ext E927
  have V957 := V924.ext E927
  have V958 := V925.ext E927
  rw [show (List.replicate 5 (0 : Int32)) = (own_M [0, 0, 0, 0, 0]) from rfl] at V927
  have o927 : @LT.lt Nat _ a874 a927 := by rw [g927]; exact V925.lt
  refine own_putF X927 hx hZ hown (own_w hw 30 rfl) Via.refl e927 F947 E940 (Or.inr ⟨(own_w hw 31 rfl), rfl, hnm⟩) (own_w hw 6 rfl) (ty := (.array .int)) (v' := (.ref a927)) (by decide) rfl rfl (hb hby d2_69) 72 rfl (fun T959 h959 X959 e959 W959 => ?_)
  have N960 := Fr.snoc X959 N905 (by omega)
  have Z961 : n0 ≤ h959.size := by rw [W959.size]; exact Z939
  have E962 := E940.wr W959
  have F963 := F941.other W959 (Or.inr (sn_64 hw))
  have F964 := F942.other W959 (Or.inr (sn_65 hw))
  have F965 := F943.other W959 (Or.inr (sn_66 hw))
  have F966 := F944.other W959 (Or.inr (sn_67 hw))
  have F967 := F945.other W959 (Or.inr (sn_68 hw))
  have F968 := F946.other W959 (Or.inr (sn_69 hw))
  have F969 := F947.same W959
  have F970 := F948.other W959 (Or.inr (sn_70 hw))
  have F971 := F949.other W959 (Or.inr (sn_71 hw))
  have V972 := V950.other W959 (Nat.ne_of_lt (by omega))
  have V973 := V951.other W959 (Nat.ne_of_lt (by omega))
  have V974 := V952.other W959 (Ne.symm (Nat.ne_of_lt (by omega)))
  have V975 := V953.other W959 (Ne.symm ne656)
  have V976 := V954.other W959 (Ne.symm ne693)
  have V977 := V955.other W959 (Ne.symm ne733)
  have V978 := V956.other W959 (Ne.symm ne778)
  have V979 := V957.other W959 (Ne.symm ne825)
  have V980 := V958.other W959 (Ne.symm ne875)
  have V981 := V927.other W959 (Ne.symm ne928)
  refine own_iloadN X959 hx (hb hby d2_72) rfl 73 rfl ?_
  refine own_iconst X959 hx (hb hby d2_73) (1 : Int32) rfl 74 rfl ?_
  refine own_iadd X959 hx (hb hby d2_74) 75 rfl ?_
  show own_Go p e below G (T959.setTop (mkF m 75 #[.val (.ref a), .val (.ref kt), .val (.int (2 : Int32)), .val (.int (5 : Int32)), .unset, .unset, .unset, .unset, .unset] [(.int (3 : Int32))]))
  refine own_newIE X959 hx hZ (own_w hw 0 rfl) e959 (hb hby d2_75) 3 rfl 3 (by decide) (by decide) (by decide) (by decide) 77 rfl (fun T982 h982 a982 g982 X982 e982 E982 V982 Ex982 => ?_)
  have o982 : @LT.lt Nat _ a927 a982 := by rw [g982]; exact V981.lt
  have ne983 : a ≠ a982 := by rw [g982]; exact Nat.ne_of_lt E962.lt
  have ne984 : ka ≠ a982 := by rw [g982]; exact Nat.ne_of_lt V972.lt
  have ne985 : ma ≠ a982 := by rw [g982]; exact Nat.ne_of_lt V973.lt
  have ne986 : kt ≠ a982 := by rw [g982]; exact Nat.ne_of_lt V974.lt
  have ne987 : a655 ≠ a982 := by rw [g982]; exact Nat.ne_of_lt V975.lt
  have ne988 : a692 ≠ a982 := by rw [g982]; exact Nat.ne_of_lt V976.lt
  have ne989 : a732 ≠ a982 := by rw [g982]; exact Nat.ne_of_lt V977.lt
  have ne990 : a777 ≠ a982 := by rw [g982]; exact Nat.ne_of_lt V978.lt
  have ne991 : a824 ≠ a982 := by rw [g982]; exact Nat.ne_of_lt V979.lt
  have ne992 : a874 ≠ a982 := by rw [g982]; exact Nat.ne_of_lt V980.lt
  have ne993 : a927 ≠ a982 := by rw [g982]; exact Nat.ne_of_lt V981.lt
  have ge994 : n0 ≤ a982 := by rw [g982]; exact Z961
  have Z995 : n0 ≤ h982.size := Nat.le_trans Z961 E982.1
  have E996 := E962.ext E982
  have F997 := F963.ext E982
  have F998 := F964.ext E982
  have F999 := F965.ext E982
  have F1000 := F966.ext E982
  have F1001 := F967.ext E982
  have F1002 := F968.ext E982
  have F1003 := F969.ext E982
  have F1004 := F970.ext E982
  have F1005 := F971.ext E982
  have V1006 := V972.ext E982
  have V1007 := V973.ext E982
  have V1008 := V974.ext E982
  have V1009 := V975.ext E982
  have V1010 := V976.ext E982
  have V1011 := V977.ext E982
  have V1012 := V978.ext E982
  have V1013 := V979.ext E982
  have V1014 := V980.ext E982
  have V1015 := V981.ext E982
  rw [show (List.replicate 3 (0 : Int32)) = (own_M [0, 0, 0]) from rfl] at V982
  refine own_astore X982 hx (hb hby d2_77) rfl #[.val (.ref a), .val (.ref kt), .val (.int (2 : Int32)), .val (.int (5 : Int32)), .val (.ref a982), .unset, .unset, .unset, .unset] rfl 79 rfl ?_
  refine own_aloadN X982 hx (hb hby d2_79) rfl rfl 80 rfl ?_
  refine own_astore X982 hx (hb hby d2_80) rfl #[.val (.ref a), .val (.ref kt), .val (.int (2 : Int32)), .val (.int (5 : Int32)), .val (.ref a982), .val (.ref kt), .unset, .unset, .unset] rfl 82 rfl ?_
  refine own_aload X982 hx (hb hby d2_82) rfl rfl 84 rfl ?_
  refine own_arraylength X982 hx hZ e982 V1008 (hb hby d2_84) 85 rfl ?_
  rw [show Int32.ofNat (List.length (own_M [k0, k1, k2, k3, k4])) = (5 : Int32) from rfl]
  refine own_istore X982 hx (hb hby d2_85) #[.val (.ref a), .val (.ref kt), .val (.int (2 : Int32)), .val (.int (5 : Int32)), .val (.ref a982), .val (.ref kt), .val (.int (5 : Int32)), .unset, .unset] rfl 87 rfl ?_
  refine own_iconst X982 hx (hb hby d2_87) (0 : Int32) rfl 88 rfl ?_
  refine own_istore X982 hx (hb hby d2_88) #[.val (.ref a), .val (.ref kt), .val (.int (2 : Int32)), .val (.int (5 : Int32)), .val (.ref a982), .val (.ref kt), .val (.int (5 : Int32)), .val (.int (0 : Int32)), .unset] rfl 90 rfl ?_
  refine own_iload X982 hx (hb hby d2_90) rfl 92 rfl ?_
  refine own_iload X982 hx (hb hby d2_92) rfl 94 rfl ?_
  refine own_icmpN X982 hx (hb hby d2_94) (tlt (by decide)).2.1 97 rfl ?_
  refine own_aload X982 hx (hb hby d2_97) rfl rfl 99 rfl ?_
  refine own_iload X982 hx (hb hby d2_99) rfl 101 rfl ?_
  obtain ⟨n1016, hn1016, hs1016⟩ := own_be hs
  refine own_iaload X982 hx hZ e982 V1008 0 rfl (Int32.ofNat n1016) (own_ld hn1016) (hb hby d2_101) 102 rfl ?_
  refine own_istore X982 hx (hb hby d2_102) #[.val (.ref a), .val (.ref kt), .val (.int (2 : Int32)), .val (.int (5 : Int32)), .val (.ref a982), .val (.ref kt), .val (.int (5 : Int32)), .val (.int (0 : Int32)), .val (.int (Int32.ofNat n1016))] rfl 104 rfl ?_
  refine own_aload X982 hx (hb hby d2_104) rfl rfl 106 rfl ?_
  refine own_iload X982 hx (hb hby d2_106) rfl 108 rfl ?_
  refine own_iconst X982 hx (hb hby d2_108) (1 : Int32) rfl 109 rfl ?_
  refine own_iaddE X982 hx (hb hby d2_109) (Int32.ofNat (n1016 + 1)) (own_addN n1016 1) 110 rfl ?_
  refine own_dup2 X982 hx (hb hby d2_110) rfl rfl 111 rfl ?_
  obtain ⟨n1017, hn1017, hs1017⟩ := own_be hs1016
  refine own_iaload X982 hx hZ e982 V982 (n1016 + 1) rfl (Int32.ofNat n1017) (own_ld hn1017) (hb hby d2_111) 112 rfl ?_
  refine own_iconst X982 hx (hb hby d2_112) (1 : Int32) rfl 113 rfl ?_
  refine own_iaddE X982 hx (hb hby d2_113) (Int32.ofNat (n1017 + 1)) (own_addN n1017 1) 114 rfl ?_
  obtain ⟨n1018, hn1018, hs1018⟩ := own_be hs1017
  refine own_iastore X982 hx hZ e982 V982 (n1016 + 1) rfl (own_sl hn1018) (hb hby d2_114) 115 rfl (fun T1019 h1019 X1019 e1019 W1019 V1019 => ?_)
  rw [show (own_M [0, 0, 0]).set (n1016 + 1) (Int32.ofNat (n1017 + 1)) = (own_M n1018) from (own_setM hn1018)] at V1019
  have N1020 := Fr.snoc X1019 N960 ge994
  have Z1021 : n0 ≤ h1019.size := by rw [W1019.size]; exact Z995
  have E1022 := E996.wr W1019
  have F1023 := F997.other W1019 (Or.inl ne983)
  have F1024 := F998.other W1019 (Or.inl ne983)
  have F1025 := F999.other W1019 (Or.inl ne983)
  have F1026 := F1000.other W1019 (Or.inl ne983)
  have F1027 := F1001.other W1019 (Or.inl ne983)
  have F1028 := F1002.other W1019 (Or.inl ne983)
  have F1029 := F1003.other W1019 (Or.inl ne983)
  have F1030 := F1004.other W1019 (Or.inl ne983)
  have F1031 := F1005.other W1019 (Or.inl ne983)
  have V1032 := V1006.other W1019 ne984
  have V1033 := V1007.other W1019 ne985
  have V1034 := V1008.other W1019 ne986
  have V1035 := V1009.other W1019 ne987
  have V1036 := V1010.other W1019 ne988
  have V1037 := V1011.other W1019 ne989
  have V1038 := V1012.other W1019 ne990
  have V1039 := V1013.other W1019 ne991
  have V1040 := V1014.other W1019 ne992
  have V1041 := V1015.other W1019 ne993
  have E1042 := Ex982.wr W1019
  refine own_iinc X1019 hx (hb hby d2_115) rfl #[.val (.ref a), .val (.ref kt), .val (.int (2 : Int32)), .val (.int (5 : Int32)), .val (.ref a982), .val (.ref kt), .val (.int (5 : Int32)), .val (.int (1 : Int32)), .val (.int (Int32.ofNat n1016))] rfl 118 rfl ?_
  refine own_goto X1019 hx (hb hby d2_118) 90 ⟨by decide, by decide⟩ ?_
  refine own_iload X1019 hx (hb hby d2_90) rfl 92 rfl ?_
  refine own_iload X1019 hx (hb hby d2_92) rfl 94 rfl ?_
  refine own_icmpN X1019 hx (hb hby d2_94) (tlt (by decide)).2.1 97 rfl ?_
  refine own_aload X1019 hx (hb hby d2_97) rfl rfl 99 rfl ?_
  refine own_iload X1019 hx (hb hby d2_99) rfl 101 rfl ?_
  obtain ⟨n1043, hn1043, hs1043⟩ := own_be hs1018
  refine own_iaload X1019 hx hZ e1019 V1034 1 rfl (Int32.ofNat n1043) (own_ld hn1043) (hb hby d2_101) 102 rfl ?_
  refine own_istore X1019 hx (hb hby d2_102) #[.val (.ref a), .val (.ref kt), .val (.int (2 : Int32)), .val (.int (5 : Int32)), .val (.ref a982), .val (.ref kt), .val (.int (5 : Int32)), .val (.int (1 : Int32)), .val (.int (Int32.ofNat n1043))] rfl 104 rfl ?_
  refine own_aload X1019 hx (hb hby d2_104) rfl rfl 106 rfl ?_
  refine own_iload X1019 hx (hb hby d2_106) rfl 108 rfl ?_
  refine own_iconst X1019 hx (hb hby d2_108) (1 : Int32) rfl 109 rfl ?_
  refine own_iaddE X1019 hx (hb hby d2_109) (Int32.ofNat (n1043 + 1)) (own_addN n1043 1) 110 rfl ?_
  refine own_dup2 X1019 hx (hb hby d2_110) rfl rfl 111 rfl ?_
  obtain ⟨n1044, hn1044, hs1044⟩ := own_be hs1043
  refine own_iaload X1019 hx hZ e1019 V1019 (n1043 + 1) rfl (Int32.ofNat n1044) (own_ld hn1044) (hb hby d2_111) 112 rfl ?_
  refine own_iconst X1019 hx (hb hby d2_112) (1 : Int32) rfl 113 rfl ?_
  refine own_iaddE X1019 hx (hb hby d2_113) (Int32.ofNat (n1044 + 1)) (own_addN n1044 1) 114 rfl ?_
  obtain ⟨n1045, hn1045, hs1045⟩ := own_be hs1044
  refine own_iastore X1019 hx hZ e1019 V1019 (n1043 + 1) rfl (own_sl hn1045) (hb hby d2_114) 115 rfl (fun T1046 h1046 X1046 e1046 W1046 V1046 => ?_)
  rw [show (own_M n1018).set (n1043 + 1) (Int32.ofNat (n1044 + 1)) = (own_M n1045) from (own_setM hn1045)] at V1046
  have N1047 := Fr.snoc X1046 N1020 ge994
  have Z1048 : n0 ≤ h1046.size := by rw [W1046.size]; exact Z1021
  have E1049 := E1022.wr W1046
  have F1050 := F1023.other W1046 (Or.inl ne983)
  have F1051 := F1024.other W1046 (Or.inl ne983)
  have F1052 := F1025.other W1046 (Or.inl ne983)
  have F1053 := F1026.other W1046 (Or.inl ne983)
  have F1054 := F1027.other W1046 (Or.inl ne983)
  have F1055 := F1028.other W1046 (Or.inl ne983)
  have F1056 := F1029.other W1046 (Or.inl ne983)
  have F1057 := F1030.other W1046 (Or.inl ne983)
  have F1058 := F1031.other W1046 (Or.inl ne983)
  have V1059 := V1032.other W1046 ne984
  have V1060 := V1033.other W1046 ne985
  have V1061 := V1034.other W1046 ne986
  have V1062 := V1035.other W1046 ne987
  have V1063 := V1036.other W1046 ne988
  have V1064 := V1037.other W1046 ne989
  have V1065 := V1038.other W1046 ne990
  have V1066 := V1039.other W1046 ne991
  have V1067 := V1040.other W1046 ne992
  have V1068 := V1041.other W1046 ne993
  have E1069 := E1042.wr W1046
  refine own_iinc X1046 hx (hb hby d2_115) rfl #[.val (.ref a), .val (.ref kt), .val (.int (2 : Int32)), .val (.int (5 : Int32)), .val (.ref a982), .val (.ref kt), .val (.int (5 : Int32)), .val (.int (2 : Int32)), .val (.int (Int32.ofNat n1043))] rfl 118 rfl ?_
  refine own_goto X1046 hx (hb hby d2_118) 90 ⟨by decide, by decide⟩ ?_
  refine own_iload X1046 hx (hb hby d2_90) rfl 92 rfl ?_
  refine own_iload X1046 hx (hb hby d2_92) rfl 94 rfl ?_
  refine own_icmpN X1046 hx (hb hby d2_94) (tlt (by decide)).2.1 97 rfl ?_
  refine own_aload X1046 hx (hb hby d2_97) rfl rfl 99 rfl ?_
  refine own_iload X1046 hx (hb hby d2_99) rfl 101 rfl ?_
  obtain ⟨n1070, hn1070, hs1070⟩ := own_be hs1045
  refine own_iaload X1046 hx hZ e1046 V1061 2 rfl (Int32.ofNat n1070) (own_ld hn1070) (hb hby d2_101) 102 rfl ?_
  refine own_istore X1046 hx (hb hby d2_102) #[.val (.ref a), .val (.ref kt), .val (.int (2 : Int32)), .val (.int (5 : Int32)), .val (.ref a982), .val (.ref kt), .val (.int (5 : Int32)), .val (.int (2 : Int32)), .val (.int (Int32.ofNat n1070))] rfl 104 rfl ?_
  refine own_aload X1046 hx (hb hby d2_104) rfl rfl 106 rfl ?_
  refine own_iload X1046 hx (hb hby d2_106) rfl 108 rfl ?_
  refine own_iconst X1046 hx (hb hby d2_108) (1 : Int32) rfl 109 rfl ?_
  refine own_iaddE X1046 hx (hb hby d2_109) (Int32.ofNat (n1070 + 1)) (own_addN n1070 1) 110 rfl ?_
  refine own_dup2 X1046 hx (hb hby d2_110) rfl rfl 111 rfl ?_
  obtain ⟨n1071, hn1071, hs1071⟩ := own_be hs1070
  refine own_iaload X1046 hx hZ e1046 V1046 (n1070 + 1) rfl (Int32.ofNat n1071) (own_ld hn1071) (hb hby d2_111) 112 rfl ?_
  refine own_iconst X1046 hx (hb hby d2_112) (1 : Int32) rfl 113 rfl ?_
  refine own_iaddE X1046 hx (hb hby d2_113) (Int32.ofNat (n1071 + 1)) (own_addN n1071 1) 114 rfl ?_
  obtain ⟨n1072, hn1072, hs1072⟩ := own_be hs1071
  refine own_iastore X1046 hx hZ e1046 V1046 (n1070 + 1) rfl (own_sl hn1072) (hb hby d2_114) 115 rfl (fun T1073 h1073 X1073 e1073 W1073 V1073 => ?_)
  rw [show (own_M n1045).set (n1070 + 1) (Int32.ofNat (n1071 + 1)) = (own_M n1072) from (own_setM hn1072)] at V1073
  have N1074 := Fr.snoc X1073 N1047 ge994
  have Z1075 : n0 ≤ h1073.size := by rw [W1073.size]; exact Z1048
  have E1076 := E1049.wr W1073
  have F1077 := F1050.other W1073 (Or.inl ne983)
  have F1078 := F1051.other W1073 (Or.inl ne983)
  have F1079 := F1052.other W1073 (Or.inl ne983)
  have F1080 := F1053.other W1073 (Or.inl ne983)
  have F1081 := F1054.other W1073 (Or.inl ne983)
  have F1082 := F1055.other W1073 (Or.inl ne983)
  have F1083 := F1056.other W1073 (Or.inl ne983)
  have F1084 := F1057.other W1073 (Or.inl ne983)
  have F1085 := F1058.other W1073 (Or.inl ne983)
  have V1086 := V1059.other W1073 ne984
  have V1087 := V1060.other W1073 ne985
  have V1088 := V1061.other W1073 ne986
  have V1089 := V1062.other W1073 ne987
  have V1090 := V1063.other W1073 ne988
  have V1091 := V1064.other W1073 ne989
  have V1092 := V1065.other W1073 ne990
  have V1093 := V1066.other W1073 ne991
  have V1094 := V1067.other W1073 ne992
  have V1095 := V1068.other W1073 ne993
  have E1096 := E1069.wr W1073
  refine own_iinc X1073 hx (hb hby d2_115) rfl #[.val (.ref a), .val (.ref kt), .val (.int (2 : Int32)), .val (.int (5 : Int32)), .val (.ref a982), .val (.ref kt), .val (.int (5 : Int32)), .val (.int (3 : Int32)), .val (.int (Int32.ofNat n1070))] rfl 118 rfl ?_
  refine own_goto X1073 hx (hb hby d2_118) 90 ⟨by decide, by decide⟩ ?_
  refine own_iload X1073 hx (hb hby d2_90) rfl 92 rfl ?_
  refine own_iload X1073 hx (hb hby d2_92) rfl 94 rfl ?_
  refine own_icmpN X1073 hx (hb hby d2_94) (tlt (by decide)).2.1 97 rfl ?_
  refine own_aload X1073 hx (hb hby d2_97) rfl rfl 99 rfl ?_
  refine own_iload X1073 hx (hb hby d2_99) rfl 101 rfl ?_
  obtain ⟨n1097, hn1097, hs1097⟩ := own_be hs1072
  refine own_iaload X1073 hx hZ e1073 V1088 3 rfl (Int32.ofNat n1097) (own_ld hn1097) (hb hby d2_101) 102 rfl ?_
  refine own_istore X1073 hx (hb hby d2_102) #[.val (.ref a), .val (.ref kt), .val (.int (2 : Int32)), .val (.int (5 : Int32)), .val (.ref a982), .val (.ref kt), .val (.int (5 : Int32)), .val (.int (3 : Int32)), .val (.int (Int32.ofNat n1097))] rfl 104 rfl ?_
  refine own_aload X1073 hx (hb hby d2_104) rfl rfl 106 rfl ?_
  refine own_iload X1073 hx (hb hby d2_106) rfl 108 rfl ?_
  refine own_iconst X1073 hx (hb hby d2_108) (1 : Int32) rfl 109 rfl ?_
  refine own_iaddE X1073 hx (hb hby d2_109) (Int32.ofNat (n1097 + 1)) (own_addN n1097 1) 110 rfl ?_
  refine own_dup2 X1073 hx (hb hby d2_110) rfl rfl 111 rfl ?_
  obtain ⟨n1098, hn1098, hs1098⟩ := own_be hs1097
  refine own_iaload X1073 hx hZ e1073 V1073 (n1097 + 1) rfl (Int32.ofNat n1098) (own_ld hn1098) (hb hby d2_111) 112 rfl ?_
  refine own_iconst X1073 hx (hb hby d2_112) (1 : Int32) rfl 113 rfl ?_
  refine own_iaddE X1073 hx (hb hby d2_113) (Int32.ofNat (n1098 + 1)) (own_addN n1098 1) 114 rfl ?_
  obtain ⟨n1099, hn1099, hs1099⟩ := own_be hs1098
  refine own_iastore X1073 hx hZ e1073 V1073 (n1097 + 1) rfl (own_sl hn1099) (hb hby d2_114) 115 rfl (fun T1100 h1100 X1100 e1100 W1100 V1100 => ?_)
  rw [show (own_M n1072).set (n1097 + 1) (Int32.ofNat (n1098 + 1)) = (own_M n1099) from (own_setM hn1099)] at V1100
  have N1101 := Fr.snoc X1100 N1074 ge994
  have Z1102 : n0 ≤ h1100.size := by rw [W1100.size]; exact Z1075
  have E1103 := E1076.wr W1100
  have F1104 := F1077.other W1100 (Or.inl ne983)
  have F1105 := F1078.other W1100 (Or.inl ne983)
  have F1106 := F1079.other W1100 (Or.inl ne983)
  have F1107 := F1080.other W1100 (Or.inl ne983)
  have F1108 := F1081.other W1100 (Or.inl ne983)
  have F1109 := F1082.other W1100 (Or.inl ne983)
  have F1110 := F1083.other W1100 (Or.inl ne983)
  have F1111 := F1084.other W1100 (Or.inl ne983)
  have F1112 := F1085.other W1100 (Or.inl ne983)
  have V1113 := V1086.other W1100 ne984
  have V1114 := V1087.other W1100 ne985
  have V1115 := V1088.other W1100 ne986
  have V1116 := V1089.other W1100 ne987
  have V1117 := V1090.other W1100 ne988
  have V1118 := V1091.other W1100 ne989
  have V1119 := V1092.other W1100 ne990
  have V1120 := V1093.other W1100 ne991
  have V1121 := V1094.other W1100 ne992
  have V1122 := V1095.other W1100 ne993
  have E1123 := E1096.wr W1100
  refine own_iinc X1100 hx (hb hby d2_115) rfl #[.val (.ref a), .val (.ref kt), .val (.int (2 : Int32)), .val (.int (5 : Int32)), .val (.ref a982), .val (.ref kt), .val (.int (5 : Int32)), .val (.int (4 : Int32)), .val (.int (Int32.ofNat n1097))] rfl 118 rfl ?_
  refine own_goto X1100 hx (hb hby d2_118) 90 ⟨by decide, by decide⟩ ?_
  refine own_iload X1100 hx (hb hby d2_90) rfl 92 rfl ?_
  refine own_iload X1100 hx (hb hby d2_92) rfl 94 rfl ?_
  refine own_icmpN X1100 hx (hb hby d2_94) (tlt (by decide)).2.1 97 rfl ?_
  refine own_aload X1100 hx (hb hby d2_97) rfl rfl 99 rfl ?_
  refine own_iload X1100 hx (hb hby d2_99) rfl 101 rfl ?_
  obtain ⟨n1124, hn1124, hs1124⟩ := own_be hs1099
  refine own_iaload X1100 hx hZ e1100 V1115 4 rfl (Int32.ofNat n1124) (own_ld hn1124) (hb hby d2_101) 102 rfl ?_
  refine own_istore X1100 hx (hb hby d2_102) #[.val (.ref a), .val (.ref kt), .val (.int (2 : Int32)), .val (.int (5 : Int32)), .val (.ref a982), .val (.ref kt), .val (.int (5 : Int32)), .val (.int (4 : Int32)), .val (.int (Int32.ofNat n1124))] rfl 104 rfl ?_
  refine own_aload X1100 hx (hb hby d2_104) rfl rfl 106 rfl ?_
  refine own_iload X1100 hx (hb hby d2_106) rfl 108 rfl ?_
  refine own_iconst X1100 hx (hb hby d2_108) (1 : Int32) rfl 109 rfl ?_
  refine own_iaddE X1100 hx (hb hby d2_109) (Int32.ofNat (n1124 + 1)) (own_addN n1124 1) 110 rfl ?_
  refine own_dup2 X1100 hx (hb hby d2_110) rfl rfl 111 rfl ?_
  obtain ⟨n1125, hn1125, hs1125⟩ := own_be hs1124
  refine own_iaload X1100 hx hZ e1100 V1100 (n1124 + 1) rfl (Int32.ofNat n1125) (own_ld hn1125) (hb hby d2_111) 112 rfl ?_
  refine own_iconst X1100 hx (hb hby d2_112) (1 : Int32) rfl 113 rfl ?_
  refine own_iaddE X1100 hx (hb hby d2_113) (Int32.ofNat (n1125 + 1)) (own_addN n1125 1) 114 rfl ?_
  obtain ⟨n1126, hn1126, hs1126⟩ := own_be hs1125
  refine own_iastore X1100 hx hZ e1100 V1100 (n1124 + 1) rfl (own_sl hn1126) (hb hby d2_114) 115 rfl (fun T1127 h1127 X1127 e1127 W1127 V1127 => ?_)
  rw [show (own_M n1099).set (n1124 + 1) (Int32.ofNat (n1125 + 1)) = (own_M n1126) from (own_setM hn1126)] at V1127
  have N1128 := Fr.snoc X1127 N1101 ge994
  have Z1129 : n0 ≤ h1127.size := by rw [W1127.size]; exact Z1102
  have E1130 := E1103.wr W1127
  have F1131 := F1104.other W1127 (Or.inl ne983)
  have F1132 := F1105.other W1127 (Or.inl ne983)
  have F1133 := F1106.other W1127 (Or.inl ne983)
  have F1134 := F1107.other W1127 (Or.inl ne983)
  have F1135 := F1108.other W1127 (Or.inl ne983)
  have F1136 := F1109.other W1127 (Or.inl ne983)
  have F1137 := F1110.other W1127 (Or.inl ne983)
  have F1138 := F1111.other W1127 (Or.inl ne983)
  have F1139 := F1112.other W1127 (Or.inl ne983)
  have V1140 := V1113.other W1127 ne984
  have V1141 := V1114.other W1127 ne985
  have V1142 := V1115.other W1127 ne986
  have V1143 := V1116.other W1127 ne987
  have V1144 := V1117.other W1127 ne988
  have V1145 := V1118.other W1127 ne989
  have V1146 := V1119.other W1127 ne990
  have V1147 := V1120.other W1127 ne991
  have V1148 := V1121.other W1127 ne992
  have V1149 := V1122.other W1127 ne993
  have E1150 := E1123.wr W1127
  refine own_iinc X1127 hx (hb hby d2_115) rfl #[.val (.ref a), .val (.ref kt), .val (.int (2 : Int32)), .val (.int (5 : Int32)), .val (.ref a982), .val (.ref kt), .val (.int (5 : Int32)), .val (.int (5 : Int32)), .val (.int (Int32.ofNat n1124))] rfl 118 rfl ?_
  refine own_goto X1127 hx (hb hby d2_118) 90 ⟨by decide, by decide⟩ ?_
  refine own_iload X1127 hx (hb hby d2_90) rfl 92 rfl ?_
  refine own_iload X1127 hx (hb hby d2_92) rfl 94 rfl ?_
  refine own_icmpY X1127 hx (hb hby d2_94) (flt (by decide)).2.1 121 ⟨by decide, by decide⟩ ?_
  refine own_iconst X1127 hx (hb hby d2_121) (0 : Int32) rfl 122 rfl ?_
  refine own_istore X1127 hx (hb hby d2_122) #[.val (.ref a), .val (.ref kt), .val (.int (2 : Int32)), .val (.int (5 : Int32)), .val (.ref a982), .val (.int (0 : Int32)), .val (.int (5 : Int32)), .val (.int (5 : Int32)), .val (.int (Int32.ofNat n1124))] rfl 124 rfl ?_
  refine own_iload X1127 hx (hb hby d2_124) rfl 126 rfl ?_
  refine own_iloadN X1127 hx (hb hby d2_126) rfl 127 rfl ?_
  refine own_icmpN X1127 hx (hb hby d2_127) (tlt (by decide)).2.1 130 rfl ?_
  refine own_aload X1127 hx (hb hby d2_130) rfl rfl 132 rfl ?_
  refine own_iload X1127 hx (hb hby d2_132) rfl 134 rfl ?_
  refine own_iconst X1127 hx (hb hby d2_134) (1 : Int32) rfl 135 rfl ?_
  refine own_iadd X1127 hx (hb hby d2_135) 136 rfl ?_
  show own_Go p e below G (T1127.setTop (mkF m 136 #[.val (.ref a), .val (.ref kt), .val (.int (2 : Int32)), .val (.int (5 : Int32)), .val (.ref a982), .val (.int (0 : Int32)), .val (.int (5 : Int32)), .val (.int (5 : Int32)), .val (.int (Int32.ofNat n1124))] [(.int (1 : Int32)), (.ref a982)]))
  refine own_dup2 X1127 hx (hb hby d2_136) rfl rfl 137 rfl ?_
  obtain ⟨n1151, hn1151, hs1151⟩ := own_be hs1126
  refine own_iaload X1127 hx hZ e1127 V1127 1 rfl (Int32.ofNat n1151) (own_ld hn1151) (hb hby d2_137) 138 rfl ?_
  refine own_aload X1127 hx (hb hby d2_138) rfl rfl 140 rfl ?_
  refine own_iload X1127 hx (hb hby d2_140) rfl 142 rfl ?_
  obtain ⟨n1152, hn1152, hs1152⟩ := own_be hs1151
  refine own_iaload X1127 hx hZ e1127 V1127 0 rfl (Int32.ofNat n1152) (own_ld hn1152) (hb hby d2_142) 143 rfl ?_
  refine own_iaddE X1127 hx (hb hby d2_143) (Int32.ofNat (n1151 + n1152)) (own_addN n1151 n1152) 144 rfl ?_
  obtain ⟨n1153, hn1153, hs1153⟩ := own_be hs1152
  refine own_iastore X1127 hx hZ e1127 V1127 1 rfl (own_sl hn1153) (hb hby d2_144) 145 rfl (fun T1154 h1154 X1154 e1154 W1154 V1154 => ?_)
  rw [show (own_M n1126).set 1 (Int32.ofNat (n1151 + n1152)) = (own_M n1153) from (own_setM hn1153)] at V1154
  have N1155 := Fr.snoc X1154 N1128 ge994
  have Z1156 : n0 ≤ h1154.size := by rw [W1154.size]; exact Z1129
  have E1157 := E1130.wr W1154
  have F1158 := F1131.other W1154 (Or.inl ne983)
  have F1159 := F1132.other W1154 (Or.inl ne983)
  have F1160 := F1133.other W1154 (Or.inl ne983)
  have F1161 := F1134.other W1154 (Or.inl ne983)
  have F1162 := F1135.other W1154 (Or.inl ne983)
  have F1163 := F1136.other W1154 (Or.inl ne983)
  have F1164 := F1137.other W1154 (Or.inl ne983)
  have F1165 := F1138.other W1154 (Or.inl ne983)
  have F1166 := F1139.other W1154 (Or.inl ne983)
  have V1167 := V1140.other W1154 ne984
  have V1168 := V1141.other W1154 ne985
  have V1169 := V1142.other W1154 ne986
  have V1170 := V1143.other W1154 ne987
  have V1171 := V1144.other W1154 ne988
  have V1172 := V1145.other W1154 ne989
  have V1173 := V1146.other W1154 ne990
  have V1174 := V1147.other W1154 ne991
  have V1175 := V1148.other W1154 ne992
  have V1176 := V1149.other W1154 ne993
  have E1177 := E1150.wr W1154
  refine own_iinc X1154 hx (hb hby d2_145) rfl #[.val (.ref a), .val (.ref kt), .val (.int (2 : Int32)), .val (.int (5 : Int32)), .val (.ref a982), .val (.int (1 : Int32)), .val (.int (5 : Int32)), .val (.int (5 : Int32)), .val (.int (Int32.ofNat n1124))] rfl 148 rfl ?_
  refine own_goto X1154 hx (hb hby d2_148) 124 ⟨by decide, by decide⟩ ?_
  refine own_iload X1154 hx (hb hby d2_124) rfl 126 rfl ?_
  refine own_iloadN X1154 hx (hb hby d2_126) rfl 127 rfl ?_
  refine own_icmpN X1154 hx (hb hby d2_127) (tlt (by decide)).2.1 130 rfl ?_
  refine own_aload X1154 hx (hb hby d2_130) rfl rfl 132 rfl ?_
  refine own_iload X1154 hx (hb hby d2_132) rfl 134 rfl ?_
  refine own_iconst X1154 hx (hb hby d2_134) (1 : Int32) rfl 135 rfl ?_
  refine own_iadd X1154 hx (hb hby d2_135) 136 rfl ?_
  show own_Go p e below G (T1154.setTop (mkF m 136 #[.val (.ref a), .val (.ref kt), .val (.int (2 : Int32)), .val (.int (5 : Int32)), .val (.ref a982), .val (.int (1 : Int32)), .val (.int (5 : Int32)), .val (.int (5 : Int32)), .val (.int (Int32.ofNat n1124))] [(.int (2 : Int32)), (.ref a982)]))
  refine own_dup2 X1154 hx (hb hby d2_136) rfl rfl 137 rfl ?_
  obtain ⟨n1178, hn1178, hs1178⟩ := own_be hs1153
  refine own_iaload X1154 hx hZ e1154 V1154 2 rfl (Int32.ofNat n1178) (own_ld hn1178) (hb hby d2_137) 138 rfl ?_
  refine own_aload X1154 hx (hb hby d2_138) rfl rfl 140 rfl ?_
  refine own_iload X1154 hx (hb hby d2_140) rfl 142 rfl ?_
  obtain ⟨n1179, hn1179, hs1179⟩ := own_be hs1178
  refine own_iaload X1154 hx hZ e1154 V1154 1 rfl (Int32.ofNat n1179) (own_ld hn1179) (hb hby d2_142) 143 rfl ?_
  refine own_iaddE X1154 hx (hb hby d2_143) (Int32.ofNat (n1178 + n1179)) (own_addN n1178 n1179) 144 rfl ?_
  obtain ⟨n1180, hn1180, hs1180⟩ := own_be hs1179
  refine own_iastore X1154 hx hZ e1154 V1154 2 rfl (own_sl hn1180) (hb hby d2_144) 145 rfl (fun T1181 h1181 X1181 e1181 W1181 V1181 => ?_)
  rw [show (own_M n1153).set 2 (Int32.ofNat (n1178 + n1179)) = (own_M n1180) from (own_setM hn1180)] at V1181
  have N1182 := Fr.snoc X1181 N1155 ge994
  have Z1183 : n0 ≤ h1181.size := by rw [W1181.size]; exact Z1156
  have E1184 := E1157.wr W1181
  have F1185 := F1158.other W1181 (Or.inl ne983)
  have F1186 := F1159.other W1181 (Or.inl ne983)
  have F1187 := F1160.other W1181 (Or.inl ne983)
  have F1188 := F1161.other W1181 (Or.inl ne983)
  have F1189 := F1162.other W1181 (Or.inl ne983)
  have F1190 := F1163.other W1181 (Or.inl ne983)
  have F1191 := F1164.other W1181 (Or.inl ne983)
  have F1192 := F1165.other W1181 (Or.inl ne983)
  have F1193 := F1166.other W1181 (Or.inl ne983)
  have V1194 := V1167.other W1181 ne984
  have V1195 := V1168.other W1181 ne985
  have V1196 := V1169.other W1181 ne986
  have V1197 := V1170.other W1181 ne987
  have V1198 := V1171.other W1181 ne988
  have V1199 := V1172.other W1181 ne989
  have V1200 := V1173.other W1181 ne990
  have V1201 := V1174.other W1181 ne991
  have V1202 := V1175.other W1181 ne992
  have V1203 := V1176.other W1181 ne993
  have E1204 := E1177.wr W1181
  refine own_iinc X1181 hx (hb hby d2_145) rfl #[.val (.ref a), .val (.ref kt), .val (.int (2 : Int32)), .val (.int (5 : Int32)), .val (.ref a982), .val (.int (2 : Int32)), .val (.int (5 : Int32)), .val (.int (5 : Int32)), .val (.int (Int32.ofNat n1124))] rfl 148 rfl ?_
  refine own_goto X1181 hx (hb hby d2_148) 124 ⟨by decide, by decide⟩ ?_
  refine own_iload X1181 hx (hb hby d2_124) rfl 126 rfl ?_
  refine own_iloadN X1181 hx (hb hby d2_126) rfl 127 rfl ?_
  refine own_icmpY X1181 hx (hb hby d2_127) (flt (by decide)).2.1 151 ⟨by decide, by decide⟩ ?_
  refine own_iloadN X1181 hx (hb hby d2_151) rfl 152 rfl ?_
  refine own_newI X1181 hx hZ (own_w hw 0 rfl) e1181 (hb hby d2_152) 2 rfl 2 (by decide) (by decide) (by decide) (by decide) 154 rfl (fun T1205 h1205 a1205 g1205 X1205 e1205 E1205 V1205 => ?_)
  have ne1206 : a ≠ a1205 := by rw [g1205]; exact Nat.ne_of_lt E1184.lt
  have ne1207 : ka ≠ a1205 := by rw [g1205]; exact Nat.ne_of_lt V1194.lt
  have ne1208 : ma ≠ a1205 := by rw [g1205]; exact Nat.ne_of_lt V1195.lt
  have ne1209 : kt ≠ a1205 := by rw [g1205]; exact Nat.ne_of_lt V1196.lt
  have ne1210 : a655 ≠ a1205 := by rw [g1205]; exact Nat.ne_of_lt V1197.lt
  have ne1211 : a692 ≠ a1205 := by rw [g1205]; exact Nat.ne_of_lt V1198.lt
  have ne1212 : a732 ≠ a1205 := by rw [g1205]; exact Nat.ne_of_lt V1199.lt
  have ne1213 : a777 ≠ a1205 := by rw [g1205]; exact Nat.ne_of_lt V1200.lt
  have ne1214 : a824 ≠ a1205 := by rw [g1205]; exact Nat.ne_of_lt V1201.lt
  have ne1215 : a874 ≠ a1205 := by rw [g1205]; exact Nat.ne_of_lt V1202.lt
  have ne1216 : a927 ≠ a1205 := by rw [g1205]; exact Nat.ne_of_lt V1203.lt
  have ne1217 : a982 ≠ a1205 := by rw [g1205]; exact Nat.ne_of_lt E1204.lt
  have ge1218 : n0 ≤ a1205 := by rw [g1205]; exact Z1183
  have Z1219 : n0 ≤ h1205.size := Nat.le_trans Z1183 E1205.1
  have E1220 := E1184.ext E1205
  have F1221 := F1185.ext E1205
  have F1222 := F1186.ext E1205
  have F1223 := F1187.ext E1205
  have F1224 := F1188.ext E1205
  have F1225 := F1189.ext E1205
  have F1226 := F1190.ext E1205
  have F1227 := F1191.ext E1205
  have F1228 := F1192.ext E1205
  have F1229 := F1193.ext E1205
  have V1230 := V1194.ext E1205
  have V1231 := V1195.ext E1205
  have V1232 := V1196.ext E1205
  have V1233 := V1197.ext E1205
  have V1234 := V1198.ext E1205
  have V1235 := V1199.ext E1205
  have V1236 := V1200.ext E1205
  have V1237 := V1201.ext E1205
  have V1238 := V1202.ext E1205
  have V1239 := V1203.ext E1205
  have E1240 := E1204.ext E1205
  have V1241 := V1181.ext E1205
  rw [show (List.replicate 2 (0 : Int32)) = (own_M [0, 0]) from rfl] at V1205
  have o1205 : @LT.lt Nat _ a982 a1205 := by rw [g1205]; exact V1181.lt
  refine own_astore X1205 hx (hb hby d2_154) rfl #[.val (.ref a), .val (.ref kt), .val (.int (2 : Int32)), .val (.int (5 : Int32)), .val (.ref a982), .val (.ref a1205), .val (.int (5 : Int32)), .val (.int (5 : Int32)), .val (.int (Int32.ofNat n1124))] rfl 156 rfl ?_
  have k249 : ∀ (ks sk fi en un : List Nat) (cnt : Nat) (s7 s8 : Slot) (o7 : s7 = .unset ∨ ∃ w, s7 = .val w ∧ w.category = 1) (o8 : s8 = .unset ∨ ∃ w, s8 = .val w ∧ w.category = 1) (T1242 : State) (h1242 : Heap) (lc1242 : List Loc), ks.length ≤ 3 → own_249 [k0, k1, k2, k3, k4] ks sk fi en un cnt = some ⟨el', pl', so', fi', en', un', to', cnt', tc'⟩ → Stand p l e ({ frames := 1, cells := 10, slots := 43, locals := 30 } : Room) s m #[.ref a, .ref kt, .int (2 : Int32)] below meth c T1242 lc1242 9 40 → T1242.heap = h1242 → Fr n0 lc1242 → n0 ≤ h1242.size → Exa Z h1242 a "com/example/libhedge/libhedge/RefinablePartition" → Fld Z h1242 a "com/example/libhedge/libhedge/RefinablePartition" "elements" "[I" (.ref a655) → Fld Z h1242 a "com/example/libhedge/libhedge/RefinablePartition" "placeOf" "[I" (.ref a692) → Fld Z h1242 a "com/example/libhedge/libhedge/RefinablePartition" "setOf" "[I" (.ref a732) → Fld Z h1242 a "com/example/libhedge/libhedge/RefinablePartition" "first" "[I" (.ref a777) → Fld Z h1242 a "com/example/libhedge/libhedge/RefinablePartition" "end" "[I" (.ref a824) → Fld Z h1242 a "com/example/libhedge/libhedge/RefinablePartition" "unmarked" "[I" (.ref a874) → Fld Z h1242 a "com/example/libhedge/libhedge/RefinablePartition" "touched" "[I" (.ref a927) → Fld Z h1242 a "com/example/libhedge/libhedge/RefinablePartition" "setCount" "I" (.int (Int32.ofNat cnt)) → Fld Z h1242 a "com/example/libhedge/libhedge/RefinablePartition" "touchedCount" "I" (.int (0 : Int32)) → own_A .int Value.int Z h1242 ka (own_M KL) → own_A .int Value.int Z h1242 ma (own_M ML) → own_A .int Value.int Z h1242 a655 (own_M [0, 0, 0, 0, 0]) → own_A .int Value.int Z h1242 a692 (own_M [0, 0, 0, 0, 0]) → own_A .int Value.int Z h1242 a732 (own_M [0, 0, 0, 0, 0]) → own_A .int Value.int Z h1242 a777 (own_M fi) → own_A .int Value.int Z h1242 a824 (own_M en) → own_A .int Value.int Z h1242 a874 (own_M un) → own_A .int Value.int Z h1242 a927 (own_M [0, 0, 0, 0, 0]) → own_A .int Value.int Z h1242 kt (own_M [k0, k1, k2, k3, k4]) → own_A .int Value.int Z h1242 a982 (own_M ks) → Exa Z h1242 a982 "[I" → own_A .int Value.int Z h1242 a1205 (own_M sk) → own_Go p e below G (T1242.setTop (mkF m 249 #[.val (.ref a), .val (.ref kt), .val (.int (2 : Int32)), .val (.int (5 : Int32)), .val (.ref a982), .val (.ref a1205), .val (.int (2 : Int32)), s7, s8] [])) := by
    intro ks sk fi en un cnt s7 s8 o7 o8 T1242 h1242 lc1242 hlen hs1242 X1242 e1242 N1242 Z1242 J0_1242 J1_1242 J2_1242 J3_1242 J4_1242 J5_1242 J6_1242 J7_1242 J8_1242 J9_1242 J10_1242 J11_1242 J12_1242 J13_1242 J14_1242 J15_1242 J16_1242 J17_1242 J18_1242 J19_1242 J20_1242 J21_1242 J22_1242
    refine own_aload X1242 hx (hb hby d2_249) rfl rfl 251 rfl ?_
    refine own_clone X1242 hx hZ hown (own_w hw 34 rfl) (own_w hw 35 rfl) (own_w hw 39 rfl) (own_w hw 37 rfl) (own_w hw 38 rfl) (own_w hw 40 rfl) e1242 J20_1242 J21_1242 (by rw [hml]; rfl) (hb hby d2_251) (by decide) 0 (Nat.le_of_eq rfl) (by decide) 3 (by unfold own_M; rw [List.length_map]; exact hlen) (by decide) (by decide) 254 rfl (fun T1243 h1243 a1243 g1243 X1243 e1243 E1243 V1243 Ex1243 => ?_)
    have ne1244 : a ≠ a1243 := by rw [g1243]; exact Nat.ne_of_lt J0_1242.lt
    have ne1245 : ka ≠ a1243 := by rw [g1243]; exact Nat.ne_of_lt J10_1242.lt
    have ne1246 : ma ≠ a1243 := by rw [g1243]; exact Nat.ne_of_lt J11_1242.lt
    have ne1247 : a655 ≠ a1243 := by rw [g1243]; exact Nat.ne_of_lt J12_1242.lt
    have ne1248 : a692 ≠ a1243 := by rw [g1243]; exact Nat.ne_of_lt J13_1242.lt
    have ne1249 : a732 ≠ a1243 := by rw [g1243]; exact Nat.ne_of_lt J14_1242.lt
    have ne1250 : a777 ≠ a1243 := by rw [g1243]; exact Nat.ne_of_lt J15_1242.lt
    have ne1251 : a824 ≠ a1243 := by rw [g1243]; exact Nat.ne_of_lt J16_1242.lt
    have ne1252 : a874 ≠ a1243 := by rw [g1243]; exact Nat.ne_of_lt J17_1242.lt
    have ne1253 : a927 ≠ a1243 := by rw [g1243]; exact Nat.ne_of_lt J18_1242.lt
    have ne1254 : kt ≠ a1243 := by rw [g1243]; exact Nat.ne_of_lt J19_1242.lt
    have ne1255 : a982 ≠ a1243 := by rw [g1243]; exact Nat.ne_of_lt J20_1242.lt
    have ne1256 : a1205 ≠ a1243 := by rw [g1243]; exact Nat.ne_of_lt J22_1242.lt
    have ge1257 : n0 ≤ a1243 := by rw [g1243]; exact Z1242
    have Z1258 : n0 ≤ h1243.size := Nat.le_trans Z1242 E1243.1
    have E1259 := J0_1242.ext E1243
    have F1260 := J1_1242.ext E1243
    have F1261 := J2_1242.ext E1243
    have F1262 := J3_1242.ext E1243
    have F1263 := J4_1242.ext E1243
    have F1264 := J5_1242.ext E1243
    have F1265 := J6_1242.ext E1243
    have F1266 := J7_1242.ext E1243
    have F1267 := J8_1242.ext E1243
    have F1268 := J9_1242.ext E1243
    have V1269 := J10_1242.ext E1243
    have V1270 := J11_1242.ext E1243
    have V1271 := J12_1242.ext E1243
    have V1272 := J13_1242.ext E1243
    have V1273 := J14_1242.ext E1243
    have V1274 := J15_1242.ext E1243
    have V1275 := J16_1242.ext E1243
    have V1276 := J17_1242.ext E1243
    have V1277 := J18_1242.ext E1243
    have V1278 := J19_1242.ext E1243
    have V1279 := J20_1242.ext E1243
    have E1280 := J21_1242.ext E1243
    have V1281 := J22_1242.ext E1243
    refine own_castY X1243 hx hZ hown (own_w hw 41 rfl) e1243 (Ins.self Ex1243) (hb hby d2_254) 257 rfl (fun T1282 X1282 e1282 => ?_)
    refine own_astore X1282 hx (hb hby d2_257) rfl #[.val (.ref a), .val (.ref kt), .val (.int (2 : Int32)), .val (.int (5 : Int32)), .val (.ref a982), .val (.ref a1205), .val (.ref a1243), s7, s8] rfl 259 rfl ?_
    refine own_iconst X1282 hx (hb hby d2_259) (0 : Int32) rfl 260 rfl ?_
    refine own_istore X1282 hx (hb hby d2_260) #[.val (.ref a), .val (.ref kt), .val (.int (2 : Int32)), .val (.int (5 : Int32)), .val (.ref a982), .val (.ref a1205), .val (.ref a1243), .val (.int (0 : Int32)), s8] (XS.store1 (o := s7) rfl o7 rfl) 262 rfl ?_
    refine own_iload X1282 hx (hb hby d2_262) rfl 264 rfl ?_
    refine own_iloadN X1282 hx (hb hby d2_264) rfl 265 rfl ?_
    refine own_icmpN X1282 hx (hb hby d2_265) (tlt (by decide)).2.1 268 rfl ?_
    refine own_aload X1282 hx (hb hby d2_268) rfl rfl 270 rfl ?_
    refine own_aloadN X1282 hx (hb hby d2_270) rfl rfl 271 rfl ?_
    refine own_iload X1282 hx (hb hby d2_271) rfl 273 rfl ?_
    obtain ⟨n1283, hn1283, hs1283⟩ := own_be hs1242
    refine own_iaload X1282 hx hZ e1282 V1278 0 rfl (Int32.ofNat n1283) (own_ld hn1283) (hb hby d2_273) 274 rfl ?_
    refine own_dup2 X1282 hx (hb hby d2_274) rfl rfl 275 rfl ?_
    obtain ⟨n1284, hn1284, hs1284⟩ := own_be hs1283
    refine own_iaload X1282 hx hZ e1282 V1243 n1283 rfl (Int32.ofNat n1284) (own_ld hn1284) (hb hby d2_275) 276 rfl ?_
    refine own_dupX2 X1282 hx (hb hby d2_276) 277 rfl ?_
    refine own_iconst X1282 hx (hb hby d2_277) (1 : Int32) rfl 278 rfl ?_
    refine own_iaddE X1282 hx (hb hby d2_278) (Int32.ofNat (n1284 + 1)) (own_addN n1284 1) 279 rfl ?_
    obtain ⟨n1285, hn1285, hs1285⟩ := own_be hs1284
    refine own_iastore X1282 hx hZ e1282 V1243 n1283 rfl (own_sl hn1285) (hb hby d2_279) 280 rfl (fun T1286 h1286 X1286 e1286 W1286 V1286 => ?_)
    rw [show (own_M ks).set n1283 (Int32.ofNat (n1284 + 1)) = (own_M n1285) from (own_setM hn1285)] at V1286
    have N1287 := Fr.snoc X1286 N1242 ge1257
    have Z1288 : n0 ≤ h1286.size := by rw [W1286.size]; exact Z1258
    have E1289 := E1259.wr W1286
    have F1290 := F1260.other W1286 (Or.inl ne1244)
    have F1291 := F1261.other W1286 (Or.inl ne1244)
    have F1292 := F1262.other W1286 (Or.inl ne1244)
    have F1293 := F1263.other W1286 (Or.inl ne1244)
    have F1294 := F1264.other W1286 (Or.inl ne1244)
    have F1295 := F1265.other W1286 (Or.inl ne1244)
    have F1296 := F1266.other W1286 (Or.inl ne1244)
    have F1297 := F1267.other W1286 (Or.inl ne1244)
    have F1298 := F1268.other W1286 (Or.inl ne1244)
    have V1299 := V1269.other W1286 ne1245
    have V1300 := V1270.other W1286 ne1246
    have V1301 := V1271.other W1286 ne1247
    have V1302 := V1272.other W1286 ne1248
    have V1303 := V1273.other W1286 ne1249
    have V1304 := V1274.other W1286 ne1250
    have V1305 := V1275.other W1286 ne1251
    have V1306 := V1276.other W1286 ne1252
    have V1307 := V1277.other W1286 ne1253
    have V1308 := V1278.other W1286 ne1254
    have V1309 := V1279.other W1286 ne1255
    have E1310 := E1280.wr W1286
    have V1311 := V1281.other W1286 ne1256
    have E1312 := Ex1243.wr W1286
    refine own_istore X1286 hx (hb hby d2_280) #[.val (.ref a), .val (.ref kt), .val (.int (2 : Int32)), .val (.int (5 : Int32)), .val (.ref a982), .val (.ref a1205), .val (.ref a1243), .val (.int (0 : Int32)), .val (.int (Int32.ofNat n1284))] (XS.store1 (o := s8) rfl o8 rfl) 282 rfl ?_
    refine own_aloadN X1286 hx (hb hby d2_282) rfl rfl 283 rfl ?_
    refine own_getF X1286 hx hZ hown (own_w hw 14 rfl) Via.refl e1286 F1290 (hb hby d2_283) 286 rfl (fun T1313 X1313 e1313 => ?_)
    refine own_iload X1313 hx (hb hby d2_286) rfl 288 rfl ?_
    refine own_iload X1313 hx (hb hby d2_288) rfl 290 rfl ?_
    obtain ⟨n1314, hn1314, hs1314⟩ := own_be hs1285
    refine own_iastore X1313 hx hZ e1313 V1301 n1284 rfl (own_sl hn1314) (hb hby d2_290) 291 rfl (fun T1315 h1315 X1315 e1315 W1315 V1315 => ?_)
    rw [show (own_M [0, 0, 0, 0, 0]).set n1284 (0 : Int32) = (own_M n1314) from (own_setM hn1314)] at V1315
    have N1316 := Fr.snoc X1315 N1287 ge660
    have Z1317 : n0 ≤ h1315.size := by rw [W1315.size]; exact Z1288
    have E1318 := E1289.wr W1315
    have F1319 := F1290.other W1315 (Or.inl ne656)
    have F1320 := F1291.other W1315 (Or.inl ne656)
    have F1321 := F1292.other W1315 (Or.inl ne656)
    have F1322 := F1293.other W1315 (Or.inl ne656)
    have F1323 := F1294.other W1315 (Or.inl ne656)
    have F1324 := F1295.other W1315 (Or.inl ne656)
    have F1325 := F1296.other W1315 (Or.inl ne656)
    have F1326 := F1297.other W1315 (Or.inl ne656)
    have F1327 := F1298.other W1315 (Or.inl ne656)
    have V1328 := V1299.other W1315 ne657
    have V1329 := V1300.other W1315 ne658
    have V1330 := V1302.other W1315 (Ne.symm ne697)
    have V1331 := V1303.other W1315 (Ne.symm ne737)
    have V1332 := V1304.other W1315 (Ne.symm ne782)
    have V1333 := V1305.other W1315 (Ne.symm ne829)
    have V1334 := V1306.other W1315 (Ne.symm ne879)
    have V1335 := V1307.other W1315 (Ne.symm ne932)
    have V1336 := V1308.other W1315 ne659
    have V1337 := V1309.other W1315 (Ne.symm ne987)
    have E1338 := E1310.wr W1315
    have V1339 := V1311.other W1315 (Ne.symm ne1210)
    have E1340 := E1312.wr W1315
    have V1341 := V1286.other W1315 (Ne.symm ne1247)
    refine own_aloadN X1315 hx (hb hby d2_291) rfl rfl 292 rfl ?_
    refine own_getF X1315 hx hZ hown (own_w hw 16 rfl) Via.refl e1315 F1320 (hb hby d2_292) 295 rfl (fun T1342 X1342 e1342 => ?_)
    refine own_iload X1342 hx (hb hby d2_295) rfl 297 rfl ?_
    refine own_iload X1342 hx (hb hby d2_297) rfl 299 rfl ?_
    obtain ⟨n1343, hn1343, hs1343⟩ := own_be hs1314
    refine own_iastore X1342 hx hZ e1342 V1330 0 rfl (own_sl hn1343) (hb hby d2_299) 300 rfl (fun T1344 h1344 X1344 e1344 W1344 V1344 => ?_)
    rw [show (own_M [0, 0, 0, 0, 0]).set 0 (Int32.ofNat n1284) = (own_M n1343) from (own_setM hn1343)] at V1344
    have N1345 := Fr.snoc X1344 N1316 ge698
    have Z1346 : n0 ≤ h1344.size := by rw [W1344.size]; exact Z1317
    have E1347 := E1318.wr W1344
    have F1348 := F1319.other W1344 (Or.inl ne693)
    have F1349 := F1320.other W1344 (Or.inl ne693)
    have F1350 := F1321.other W1344 (Or.inl ne693)
    have F1351 := F1322.other W1344 (Or.inl ne693)
    have F1352 := F1323.other W1344 (Or.inl ne693)
    have F1353 := F1324.other W1344 (Or.inl ne693)
    have F1354 := F1325.other W1344 (Or.inl ne693)
    have F1355 := F1326.other W1344 (Or.inl ne693)
    have F1356 := F1327.other W1344 (Or.inl ne693)
    have V1357 := V1328.other W1344 ne694
    have V1358 := V1329.other W1344 ne695
    have V1359 := V1331.other W1344 (Ne.symm ne738)
    have V1360 := V1332.other W1344 (Ne.symm ne783)
    have V1361 := V1333.other W1344 (Ne.symm ne830)
    have V1362 := V1334.other W1344 (Ne.symm ne880)
    have V1363 := V1335.other W1344 (Ne.symm ne933)
    have V1364 := V1336.other W1344 ne696
    have V1365 := V1337.other W1344 (Ne.symm ne988)
    have E1366 := E1338.wr W1344
    have V1367 := V1339.other W1344 (Ne.symm ne1211)
    have E1368 := E1340.wr W1344
    have V1369 := V1341.other W1344 (Ne.symm ne1248)
    have V1370 := V1315.other W1344 ne697
    refine own_aloadN X1344 hx (hb hby d2_300) rfl rfl 301 rfl ?_
    refine own_getF X1344 hx hZ hown (own_w hw 18 rfl) Via.refl e1344 F1350 (hb hby d2_301) 304 rfl (fun T1371 X1371 e1371 => ?_)
    refine own_iload X1371 hx (hb hby d2_304) rfl 306 rfl ?_
    refine own_aload X1371 hx (hb hby d2_306) rfl rfl 308 rfl ?_
    refine own_aloadN X1371 hx (hb hby d2_308) rfl rfl 309 rfl ?_
    refine own_iload X1371 hx (hb hby d2_309) rfl 311 rfl ?_
    obtain ⟨n1372, hn1372, hs1372⟩ := own_be hs1343
    refine own_iaload X1371 hx hZ e1371 V1364 0 rfl (Int32.ofNat n1372) (own_ld hn1372) (hb hby d2_311) 312 rfl ?_
    obtain ⟨n1373, hn1373, hs1373⟩ := own_be hs1372
    refine own_iaload X1371 hx hZ e1371 V1367 n1372 rfl (Int32.ofNat n1373) (own_ld hn1373) (hb hby d2_312) 313 rfl ?_
    obtain ⟨n1374, hn1374, hs1374⟩ := own_be hs1373
    refine own_iastore X1371 hx hZ e1371 V1359 0 rfl (own_sl hn1374) (hb hby d2_313) 314 rfl (fun T1375 h1375 X1375 e1375 W1375 V1375 => ?_)
    rw [show (own_M [0, 0, 0, 0, 0]).set 0 (Int32.ofNat n1373) = (own_M n1374) from (own_setM hn1374)] at V1375
    have N1376 := Fr.snoc X1375 N1345 ge739
    have Z1377 : n0 ≤ h1375.size := by rw [W1375.size]; exact Z1346
    have E1378 := E1347.wr W1375
    have F1379 := F1348.other W1375 (Or.inl ne733)
    have F1380 := F1349.other W1375 (Or.inl ne733)
    have F1381 := F1350.other W1375 (Or.inl ne733)
    have F1382 := F1351.other W1375 (Or.inl ne733)
    have F1383 := F1352.other W1375 (Or.inl ne733)
    have F1384 := F1353.other W1375 (Or.inl ne733)
    have F1385 := F1354.other W1375 (Or.inl ne733)
    have F1386 := F1355.other W1375 (Or.inl ne733)
    have F1387 := F1356.other W1375 (Or.inl ne733)
    have V1388 := V1357.other W1375 ne734
    have V1389 := V1358.other W1375 ne735
    have V1390 := V1360.other W1375 (Ne.symm ne784)
    have V1391 := V1361.other W1375 (Ne.symm ne831)
    have V1392 := V1362.other W1375 (Ne.symm ne881)
    have V1393 := V1363.other W1375 (Ne.symm ne934)
    have V1394 := V1364.other W1375 ne736
    have V1395 := V1365.other W1375 (Ne.symm ne989)
    have E1396 := E1366.wr W1375
    have V1397 := V1367.other W1375 (Ne.symm ne1212)
    have E1398 := E1368.wr W1375
    have V1399 := V1369.other W1375 (Ne.symm ne1249)
    have V1400 := V1370.other W1375 ne737
    have V1401 := V1344.other W1375 ne738
    refine own_iinc X1375 hx (hb hby d2_314) rfl #[.val (.ref a), .val (.ref kt), .val (.int (2 : Int32)), .val (.int (5 : Int32)), .val (.ref a982), .val (.ref a1205), .val (.ref a1243), .val (.int (1 : Int32)), .val (.int (Int32.ofNat n1284))] rfl 317 rfl ?_
    refine own_goto X1375 hx (hb hby d2_317) 262 ⟨by decide, by decide⟩ ?_
    refine own_iload X1375 hx (hb hby d2_262) rfl 264 rfl ?_
    refine own_iloadN X1375 hx (hb hby d2_264) rfl 265 rfl ?_
    refine own_icmpN X1375 hx (hb hby d2_265) (tlt (by decide)).2.1 268 rfl ?_
    refine own_aload X1375 hx (hb hby d2_268) rfl rfl 270 rfl ?_
    refine own_aloadN X1375 hx (hb hby d2_270) rfl rfl 271 rfl ?_
    refine own_iload X1375 hx (hb hby d2_271) rfl 273 rfl ?_
    obtain ⟨n1402, hn1402, hs1402⟩ := own_be hs1374
    refine own_iaload X1375 hx hZ e1375 V1394 1 rfl (Int32.ofNat n1402) (own_ld hn1402) (hb hby d2_273) 274 rfl ?_
    refine own_dup2 X1375 hx (hb hby d2_274) rfl rfl 275 rfl ?_
    obtain ⟨n1403, hn1403, hs1403⟩ := own_be hs1402
    refine own_iaload X1375 hx hZ e1375 V1399 n1402 rfl (Int32.ofNat n1403) (own_ld hn1403) (hb hby d2_275) 276 rfl ?_
    refine own_dupX2 X1375 hx (hb hby d2_276) 277 rfl ?_
    refine own_iconst X1375 hx (hb hby d2_277) (1 : Int32) rfl 278 rfl ?_
    refine own_iaddE X1375 hx (hb hby d2_278) (Int32.ofNat (n1403 + 1)) (own_addN n1403 1) 279 rfl ?_
    obtain ⟨n1404, hn1404, hs1404⟩ := own_be hs1403
    refine own_iastore X1375 hx hZ e1375 V1399 n1402 rfl (own_sl hn1404) (hb hby d2_279) 280 rfl (fun T1405 h1405 X1405 e1405 W1405 V1405 => ?_)
    rw [show (own_M n1285).set n1402 (Int32.ofNat (n1403 + 1)) = (own_M n1404) from (own_setM hn1404)] at V1405
    have N1406 := Fr.snoc X1405 N1376 ge1257
    have Z1407 : n0 ≤ h1405.size := by rw [W1405.size]; exact Z1377
    have E1408 := E1378.wr W1405
    have F1409 := F1379.other W1405 (Or.inl ne1244)
    have F1410 := F1380.other W1405 (Or.inl ne1244)
    have F1411 := F1381.other W1405 (Or.inl ne1244)
    have F1412 := F1382.other W1405 (Or.inl ne1244)
    have F1413 := F1383.other W1405 (Or.inl ne1244)
    have F1414 := F1384.other W1405 (Or.inl ne1244)
    have F1415 := F1385.other W1405 (Or.inl ne1244)
    have F1416 := F1386.other W1405 (Or.inl ne1244)
    have F1417 := F1387.other W1405 (Or.inl ne1244)
    have V1418 := V1388.other W1405 ne1245
    have V1419 := V1389.other W1405 ne1246
    have V1420 := V1390.other W1405 ne1250
    have V1421 := V1391.other W1405 ne1251
    have V1422 := V1392.other W1405 ne1252
    have V1423 := V1393.other W1405 ne1253
    have V1424 := V1394.other W1405 ne1254
    have V1425 := V1395.other W1405 ne1255
    have E1426 := E1396.wr W1405
    have V1427 := V1397.other W1405 ne1256
    have E1428 := E1398.wr W1405
    have V1429 := V1400.other W1405 ne1247
    have V1430 := V1401.other W1405 ne1248
    have V1431 := V1375.other W1405 ne1249
    refine own_istore X1405 hx (hb hby d2_280) #[.val (.ref a), .val (.ref kt), .val (.int (2 : Int32)), .val (.int (5 : Int32)), .val (.ref a982), .val (.ref a1205), .val (.ref a1243), .val (.int (1 : Int32)), .val (.int (Int32.ofNat n1403))] rfl 282 rfl ?_
    refine own_aloadN X1405 hx (hb hby d2_282) rfl rfl 283 rfl ?_
    refine own_getF X1405 hx hZ hown (own_w hw 14 rfl) Via.refl e1405 F1409 (hb hby d2_283) 286 rfl (fun T1432 X1432 e1432 => ?_)
    refine own_iload X1432 hx (hb hby d2_286) rfl 288 rfl ?_
    refine own_iload X1432 hx (hb hby d2_288) rfl 290 rfl ?_
    obtain ⟨n1433, hn1433, hs1433⟩ := own_be hs1404
    refine own_iastore X1432 hx hZ e1432 V1429 n1403 rfl (own_sl hn1433) (hb hby d2_290) 291 rfl (fun T1434 h1434 X1434 e1434 W1434 V1434 => ?_)
    rw [show (own_M n1314).set n1403 (1 : Int32) = (own_M n1433) from (own_setM hn1433)] at V1434
    have N1435 := Fr.snoc X1434 N1406 ge660
    have Z1436 : n0 ≤ h1434.size := by rw [W1434.size]; exact Z1407
    have E1437 := E1408.wr W1434
    have F1438 := F1409.other W1434 (Or.inl ne656)
    have F1439 := F1410.other W1434 (Or.inl ne656)
    have F1440 := F1411.other W1434 (Or.inl ne656)
    have F1441 := F1412.other W1434 (Or.inl ne656)
    have F1442 := F1413.other W1434 (Or.inl ne656)
    have F1443 := F1414.other W1434 (Or.inl ne656)
    have F1444 := F1415.other W1434 (Or.inl ne656)
    have F1445 := F1416.other W1434 (Or.inl ne656)
    have F1446 := F1417.other W1434 (Or.inl ne656)
    have V1447 := V1418.other W1434 ne657
    have V1448 := V1419.other W1434 ne658
    have V1449 := V1420.other W1434 (Ne.symm ne782)
    have V1450 := V1421.other W1434 (Ne.symm ne829)
    have V1451 := V1422.other W1434 (Ne.symm ne879)
    have V1452 := V1423.other W1434 (Ne.symm ne932)
    have V1453 := V1424.other W1434 ne659
    have V1454 := V1425.other W1434 (Ne.symm ne987)
    have E1455 := E1426.wr W1434
    have V1456 := V1427.other W1434 (Ne.symm ne1210)
    have E1457 := E1428.wr W1434
    have V1458 := V1430.other W1434 (Ne.symm ne697)
    have V1459 := V1431.other W1434 (Ne.symm ne737)
    have V1460 := V1405.other W1434 (Ne.symm ne1247)
    refine own_aloadN X1434 hx (hb hby d2_291) rfl rfl 292 rfl ?_
    refine own_getF X1434 hx hZ hown (own_w hw 16 rfl) Via.refl e1434 F1439 (hb hby d2_292) 295 rfl (fun T1461 X1461 e1461 => ?_)
    refine own_iload X1461 hx (hb hby d2_295) rfl 297 rfl ?_
    refine own_iload X1461 hx (hb hby d2_297) rfl 299 rfl ?_
    obtain ⟨n1462, hn1462, hs1462⟩ := own_be hs1433
    refine own_iastore X1461 hx hZ e1461 V1458 1 rfl (own_sl hn1462) (hb hby d2_299) 300 rfl (fun T1463 h1463 X1463 e1463 W1463 V1463 => ?_)
    rw [show (own_M n1343).set 1 (Int32.ofNat n1403) = (own_M n1462) from (own_setM hn1462)] at V1463
    have N1464 := Fr.snoc X1463 N1435 ge698
    have Z1465 : n0 ≤ h1463.size := by rw [W1463.size]; exact Z1436
    have E1466 := E1437.wr W1463
    have F1467 := F1438.other W1463 (Or.inl ne693)
    have F1468 := F1439.other W1463 (Or.inl ne693)
    have F1469 := F1440.other W1463 (Or.inl ne693)
    have F1470 := F1441.other W1463 (Or.inl ne693)
    have F1471 := F1442.other W1463 (Or.inl ne693)
    have F1472 := F1443.other W1463 (Or.inl ne693)
    have F1473 := F1444.other W1463 (Or.inl ne693)
    have F1474 := F1445.other W1463 (Or.inl ne693)
    have F1475 := F1446.other W1463 (Or.inl ne693)
    have V1476 := V1447.other W1463 ne694
    have V1477 := V1448.other W1463 ne695
    have V1478 := V1449.other W1463 (Ne.symm ne783)
    have V1479 := V1450.other W1463 (Ne.symm ne830)
    have V1480 := V1451.other W1463 (Ne.symm ne880)
    have V1481 := V1452.other W1463 (Ne.symm ne933)
    have V1482 := V1453.other W1463 ne696
    have V1483 := V1454.other W1463 (Ne.symm ne988)
    have E1484 := E1455.wr W1463
    have V1485 := V1456.other W1463 (Ne.symm ne1211)
    have E1486 := E1457.wr W1463
    have V1487 := V1459.other W1463 (Ne.symm ne738)
    have V1488 := V1460.other W1463 (Ne.symm ne1248)
    have V1489 := V1434.other W1463 ne697
    refine own_aloadN X1463 hx (hb hby d2_300) rfl rfl 301 rfl ?_
    refine own_getF X1463 hx hZ hown (own_w hw 18 rfl) Via.refl e1463 F1469 (hb hby d2_301) 304 rfl (fun T1490 X1490 e1490 => ?_)
    refine own_iload X1490 hx (hb hby d2_304) rfl 306 rfl ?_
    refine own_aload X1490 hx (hb hby d2_306) rfl rfl 308 rfl ?_
    refine own_aloadN X1490 hx (hb hby d2_308) rfl rfl 309 rfl ?_
    refine own_iload X1490 hx (hb hby d2_309) rfl 311 rfl ?_
    obtain ⟨n1491, hn1491, hs1491⟩ := own_be hs1462
    refine own_iaload X1490 hx hZ e1490 V1482 1 rfl (Int32.ofNat n1491) (own_ld hn1491) (hb hby d2_311) 312 rfl ?_
    obtain ⟨n1492, hn1492, hs1492⟩ := own_be hs1491
    refine own_iaload X1490 hx hZ e1490 V1485 n1491 rfl (Int32.ofNat n1492) (own_ld hn1492) (hb hby d2_312) 313 rfl ?_
    obtain ⟨n1493, hn1493, hs1493⟩ := own_be hs1492
    refine own_iastore X1490 hx hZ e1490 V1487 1 rfl (own_sl hn1493) (hb hby d2_313) 314 rfl (fun T1494 h1494 X1494 e1494 W1494 V1494 => ?_)
    rw [show (own_M n1374).set 1 (Int32.ofNat n1492) = (own_M n1493) from (own_setM hn1493)] at V1494
    have N1495 := Fr.snoc X1494 N1464 ge739
    have Z1496 : n0 ≤ h1494.size := by rw [W1494.size]; exact Z1465
    have E1497 := E1466.wr W1494
    have F1498 := F1467.other W1494 (Or.inl ne733)
    have F1499 := F1468.other W1494 (Or.inl ne733)
    have F1500 := F1469.other W1494 (Or.inl ne733)
    have F1501 := F1470.other W1494 (Or.inl ne733)
    have F1502 := F1471.other W1494 (Or.inl ne733)
    have F1503 := F1472.other W1494 (Or.inl ne733)
    have F1504 := F1473.other W1494 (Or.inl ne733)
    have F1505 := F1474.other W1494 (Or.inl ne733)
    have F1506 := F1475.other W1494 (Or.inl ne733)
    have V1507 := V1476.other W1494 ne734
    have V1508 := V1477.other W1494 ne735
    have V1509 := V1478.other W1494 (Ne.symm ne784)
    have V1510 := V1479.other W1494 (Ne.symm ne831)
    have V1511 := V1480.other W1494 (Ne.symm ne881)
    have V1512 := V1481.other W1494 (Ne.symm ne934)
    have V1513 := V1482.other W1494 ne736
    have V1514 := V1483.other W1494 (Ne.symm ne989)
    have E1515 := E1484.wr W1494
    have V1516 := V1485.other W1494 (Ne.symm ne1212)
    have E1517 := E1486.wr W1494
    have V1518 := V1488.other W1494 (Ne.symm ne1249)
    have V1519 := V1489.other W1494 ne737
    have V1520 := V1463.other W1494 ne738
    refine own_iinc X1494 hx (hb hby d2_314) rfl #[.val (.ref a), .val (.ref kt), .val (.int (2 : Int32)), .val (.int (5 : Int32)), .val (.ref a982), .val (.ref a1205), .val (.ref a1243), .val (.int (2 : Int32)), .val (.int (Int32.ofNat n1403))] rfl 317 rfl ?_
    refine own_goto X1494 hx (hb hby d2_317) 262 ⟨by decide, by decide⟩ ?_
    refine own_iload X1494 hx (hb hby d2_262) rfl 264 rfl ?_
    refine own_iloadN X1494 hx (hb hby d2_264) rfl 265 rfl ?_
    refine own_icmpN X1494 hx (hb hby d2_265) (tlt (by decide)).2.1 268 rfl ?_
    refine own_aload X1494 hx (hb hby d2_268) rfl rfl 270 rfl ?_
    refine own_aloadN X1494 hx (hb hby d2_270) rfl rfl 271 rfl ?_
    refine own_iload X1494 hx (hb hby d2_271) rfl 273 rfl ?_
    obtain ⟨n1521, hn1521, hs1521⟩ := own_be hs1493
    refine own_iaload X1494 hx hZ e1494 V1513 2 rfl (Int32.ofNat n1521) (own_ld hn1521) (hb hby d2_273) 274 rfl ?_
    refine own_dup2 X1494 hx (hb hby d2_274) rfl rfl 275 rfl ?_
    obtain ⟨n1522, hn1522, hs1522⟩ := own_be hs1521
    refine own_iaload X1494 hx hZ e1494 V1518 n1521 rfl (Int32.ofNat n1522) (own_ld hn1522) (hb hby d2_275) 276 rfl ?_
    refine own_dupX2 X1494 hx (hb hby d2_276) 277 rfl ?_
    refine own_iconst X1494 hx (hb hby d2_277) (1 : Int32) rfl 278 rfl ?_
    refine own_iaddE X1494 hx (hb hby d2_278) (Int32.ofNat (n1522 + 1)) (own_addN n1522 1) 279 rfl ?_
    obtain ⟨n1523, hn1523, hs1523⟩ := own_be hs1522
    refine own_iastore X1494 hx hZ e1494 V1518 n1521 rfl (own_sl hn1523) (hb hby d2_279) 280 rfl (fun T1524 h1524 X1524 e1524 W1524 V1524 => ?_)
    rw [show (own_M n1404).set n1521 (Int32.ofNat (n1522 + 1)) = (own_M n1523) from (own_setM hn1523)] at V1524
    have N1525 := Fr.snoc X1524 N1495 ge1257
    have Z1526 : n0 ≤ h1524.size := by rw [W1524.size]; exact Z1496
    have E1527 := E1497.wr W1524
    have F1528 := F1498.other W1524 (Or.inl ne1244)
    have F1529 := F1499.other W1524 (Or.inl ne1244)
    have F1530 := F1500.other W1524 (Or.inl ne1244)
    have F1531 := F1501.other W1524 (Or.inl ne1244)
    have F1532 := F1502.other W1524 (Or.inl ne1244)
    have F1533 := F1503.other W1524 (Or.inl ne1244)
    have F1534 := F1504.other W1524 (Or.inl ne1244)
    have F1535 := F1505.other W1524 (Or.inl ne1244)
    have F1536 := F1506.other W1524 (Or.inl ne1244)
    have V1537 := V1507.other W1524 ne1245
    have V1538 := V1508.other W1524 ne1246
    have V1539 := V1509.other W1524 ne1250
    have V1540 := V1510.other W1524 ne1251
    have V1541 := V1511.other W1524 ne1252
    have V1542 := V1512.other W1524 ne1253
    have V1543 := V1513.other W1524 ne1254
    have V1544 := V1514.other W1524 ne1255
    have E1545 := E1515.wr W1524
    have V1546 := V1516.other W1524 ne1256
    have E1547 := E1517.wr W1524
    have V1548 := V1519.other W1524 ne1247
    have V1549 := V1520.other W1524 ne1248
    have V1550 := V1494.other W1524 ne1249
    refine own_istore X1524 hx (hb hby d2_280) #[.val (.ref a), .val (.ref kt), .val (.int (2 : Int32)), .val (.int (5 : Int32)), .val (.ref a982), .val (.ref a1205), .val (.ref a1243), .val (.int (2 : Int32)), .val (.int (Int32.ofNat n1522))] rfl 282 rfl ?_
    refine own_aloadN X1524 hx (hb hby d2_282) rfl rfl 283 rfl ?_
    refine own_getF X1524 hx hZ hown (own_w hw 14 rfl) Via.refl e1524 F1528 (hb hby d2_283) 286 rfl (fun T1551 X1551 e1551 => ?_)
    refine own_iload X1551 hx (hb hby d2_286) rfl 288 rfl ?_
    refine own_iload X1551 hx (hb hby d2_288) rfl 290 rfl ?_
    obtain ⟨n1552, hn1552, hs1552⟩ := own_be hs1523
    refine own_iastore X1551 hx hZ e1551 V1548 n1522 rfl (own_sl hn1552) (hb hby d2_290) 291 rfl (fun T1553 h1553 X1553 e1553 W1553 V1553 => ?_)
    rw [show (own_M n1433).set n1522 (2 : Int32) = (own_M n1552) from (own_setM hn1552)] at V1553
    have N1554 := Fr.snoc X1553 N1525 ge660
    have Z1555 : n0 ≤ h1553.size := by rw [W1553.size]; exact Z1526
    have E1556 := E1527.wr W1553
    have F1557 := F1528.other W1553 (Or.inl ne656)
    have F1558 := F1529.other W1553 (Or.inl ne656)
    have F1559 := F1530.other W1553 (Or.inl ne656)
    have F1560 := F1531.other W1553 (Or.inl ne656)
    have F1561 := F1532.other W1553 (Or.inl ne656)
    have F1562 := F1533.other W1553 (Or.inl ne656)
    have F1563 := F1534.other W1553 (Or.inl ne656)
    have F1564 := F1535.other W1553 (Or.inl ne656)
    have F1565 := F1536.other W1553 (Or.inl ne656)
    have V1566 := V1537.other W1553 ne657
    have V1567 := V1538.other W1553 ne658
    have V1568 := V1539.other W1553 (Ne.symm ne782)
    have V1569 := V1540.other W1553 (Ne.symm ne829)
    have V1570 := V1541.other W1553 (Ne.symm ne879)
    have V1571 := V1542.other W1553 (Ne.symm ne932)
    have V1572 := V1543.other W1553 ne659
    have V1573 := V1544.other W1553 (Ne.symm ne987)
    have E1574 := E1545.wr W1553
    have V1575 := V1546.other W1553 (Ne.symm ne1210)
    have E1576 := E1547.wr W1553
    have V1577 := V1549.other W1553 (Ne.symm ne697)
    have V1578 := V1550.other W1553 (Ne.symm ne737)
    have V1579 := V1524.other W1553 (Ne.symm ne1247)
    refine own_aloadN X1553 hx (hb hby d2_291) rfl rfl 292 rfl ?_
    refine own_getF X1553 hx hZ hown (own_w hw 16 rfl) Via.refl e1553 F1558 (hb hby d2_292) 295 rfl (fun T1580 X1580 e1580 => ?_)
    refine own_iload X1580 hx (hb hby d2_295) rfl 297 rfl ?_
    refine own_iload X1580 hx (hb hby d2_297) rfl 299 rfl ?_
    obtain ⟨n1581, hn1581, hs1581⟩ := own_be hs1552
    refine own_iastore X1580 hx hZ e1580 V1577 2 rfl (own_sl hn1581) (hb hby d2_299) 300 rfl (fun T1582 h1582 X1582 e1582 W1582 V1582 => ?_)
    rw [show (own_M n1462).set 2 (Int32.ofNat n1522) = (own_M n1581) from (own_setM hn1581)] at V1582
    have N1583 := Fr.snoc X1582 N1554 ge698
    have Z1584 : n0 ≤ h1582.size := by rw [W1582.size]; exact Z1555
    have E1585 := E1556.wr W1582
    have F1586 := F1557.other W1582 (Or.inl ne693)
    have F1587 := F1558.other W1582 (Or.inl ne693)
    have F1588 := F1559.other W1582 (Or.inl ne693)
    have F1589 := F1560.other W1582 (Or.inl ne693)
    have F1590 := F1561.other W1582 (Or.inl ne693)
    have F1591 := F1562.other W1582 (Or.inl ne693)
    have F1592 := F1563.other W1582 (Or.inl ne693)
    have F1593 := F1564.other W1582 (Or.inl ne693)
    have F1594 := F1565.other W1582 (Or.inl ne693)
    have V1595 := V1566.other W1582 ne694
    have V1596 := V1567.other W1582 ne695
    have V1597 := V1568.other W1582 (Ne.symm ne783)
    have V1598 := V1569.other W1582 (Ne.symm ne830)
    have V1599 := V1570.other W1582 (Ne.symm ne880)
    have V1600 := V1571.other W1582 (Ne.symm ne933)
    have V1601 := V1572.other W1582 ne696
    have V1602 := V1573.other W1582 (Ne.symm ne988)
    have E1603 := E1574.wr W1582
    have V1604 := V1575.other W1582 (Ne.symm ne1211)
    have E1605 := E1576.wr W1582
    have V1606 := V1578.other W1582 (Ne.symm ne738)
    have V1607 := V1579.other W1582 (Ne.symm ne1248)
    have V1608 := V1553.other W1582 ne697
    refine own_aloadN X1582 hx (hb hby d2_300) rfl rfl 301 rfl ?_
    refine own_getF X1582 hx hZ hown (own_w hw 18 rfl) Via.refl e1582 F1588 (hb hby d2_301) 304 rfl (fun T1609 X1609 e1609 => ?_)
    refine own_iload X1609 hx (hb hby d2_304) rfl 306 rfl ?_
    refine own_aload X1609 hx (hb hby d2_306) rfl rfl 308 rfl ?_
    refine own_aloadN X1609 hx (hb hby d2_308) rfl rfl 309 rfl ?_
    refine own_iload X1609 hx (hb hby d2_309) rfl 311 rfl ?_
    obtain ⟨n1610, hn1610, hs1610⟩ := own_be hs1581
    refine own_iaload X1609 hx hZ e1609 V1601 2 rfl (Int32.ofNat n1610) (own_ld hn1610) (hb hby d2_311) 312 rfl ?_
    obtain ⟨n1611, hn1611, hs1611⟩ := own_be hs1610
    refine own_iaload X1609 hx hZ e1609 V1604 n1610 rfl (Int32.ofNat n1611) (own_ld hn1611) (hb hby d2_312) 313 rfl ?_
    obtain ⟨n1612, hn1612, hs1612⟩ := own_be hs1611
    refine own_iastore X1609 hx hZ e1609 V1606 2 rfl (own_sl hn1612) (hb hby d2_313) 314 rfl (fun T1613 h1613 X1613 e1613 W1613 V1613 => ?_)
    rw [show (own_M n1493).set 2 (Int32.ofNat n1611) = (own_M n1612) from (own_setM hn1612)] at V1613
    have N1614 := Fr.snoc X1613 N1583 ge739
    have Z1615 : n0 ≤ h1613.size := by rw [W1613.size]; exact Z1584
    have E1616 := E1585.wr W1613
    have F1617 := F1586.other W1613 (Or.inl ne733)
    have F1618 := F1587.other W1613 (Or.inl ne733)
    have F1619 := F1588.other W1613 (Or.inl ne733)
    have F1620 := F1589.other W1613 (Or.inl ne733)
    have F1621 := F1590.other W1613 (Or.inl ne733)
    have F1622 := F1591.other W1613 (Or.inl ne733)
    have F1623 := F1592.other W1613 (Or.inl ne733)
    have F1624 := F1593.other W1613 (Or.inl ne733)
    have F1625 := F1594.other W1613 (Or.inl ne733)
    have V1626 := V1595.other W1613 ne734
    have V1627 := V1596.other W1613 ne735
    have V1628 := V1597.other W1613 (Ne.symm ne784)
    have V1629 := V1598.other W1613 (Ne.symm ne831)
    have V1630 := V1599.other W1613 (Ne.symm ne881)
    have V1631 := V1600.other W1613 (Ne.symm ne934)
    have V1632 := V1601.other W1613 ne736
    have V1633 := V1602.other W1613 (Ne.symm ne989)
    have E1634 := E1603.wr W1613
    have V1635 := V1604.other W1613 (Ne.symm ne1212)
    have E1636 := E1605.wr W1613
    have V1637 := V1607.other W1613 (Ne.symm ne1249)
    have V1638 := V1608.other W1613 ne737
    have V1639 := V1582.other W1613 ne738
    refine own_iinc X1613 hx (hb hby d2_314) rfl #[.val (.ref a), .val (.ref kt), .val (.int (2 : Int32)), .val (.int (5 : Int32)), .val (.ref a982), .val (.ref a1205), .val (.ref a1243), .val (.int (3 : Int32)), .val (.int (Int32.ofNat n1522))] rfl 317 rfl ?_
    refine own_goto X1613 hx (hb hby d2_317) 262 ⟨by decide, by decide⟩ ?_
    refine own_iload X1613 hx (hb hby d2_262) rfl 264 rfl ?_
    refine own_iloadN X1613 hx (hb hby d2_264) rfl 265 rfl ?_
    refine own_icmpN X1613 hx (hb hby d2_265) (tlt (by decide)).2.1 268 rfl ?_
    refine own_aload X1613 hx (hb hby d2_268) rfl rfl 270 rfl ?_
    refine own_aloadN X1613 hx (hb hby d2_270) rfl rfl 271 rfl ?_
    refine own_iload X1613 hx (hb hby d2_271) rfl 273 rfl ?_
    obtain ⟨n1640, hn1640, hs1640⟩ := own_be hs1612
    refine own_iaload X1613 hx hZ e1613 V1632 3 rfl (Int32.ofNat n1640) (own_ld hn1640) (hb hby d2_273) 274 rfl ?_
    refine own_dup2 X1613 hx (hb hby d2_274) rfl rfl 275 rfl ?_
    obtain ⟨n1641, hn1641, hs1641⟩ := own_be hs1640
    refine own_iaload X1613 hx hZ e1613 V1637 n1640 rfl (Int32.ofNat n1641) (own_ld hn1641) (hb hby d2_275) 276 rfl ?_
    refine own_dupX2 X1613 hx (hb hby d2_276) 277 rfl ?_
    refine own_iconst X1613 hx (hb hby d2_277) (1 : Int32) rfl 278 rfl ?_
    refine own_iaddE X1613 hx (hb hby d2_278) (Int32.ofNat (n1641 + 1)) (own_addN n1641 1) 279 rfl ?_
    obtain ⟨n1642, hn1642, hs1642⟩ := own_be hs1641
    refine own_iastore X1613 hx hZ e1613 V1637 n1640 rfl (own_sl hn1642) (hb hby d2_279) 280 rfl (fun T1643 h1643 X1643 e1643 W1643 V1643 => ?_)
    rw [show (own_M n1523).set n1640 (Int32.ofNat (n1641 + 1)) = (own_M n1642) from (own_setM hn1642)] at V1643
    have N1644 := Fr.snoc X1643 N1614 ge1257
    have Z1645 : n0 ≤ h1643.size := by rw [W1643.size]; exact Z1615
    have E1646 := E1616.wr W1643
    have F1647 := F1617.other W1643 (Or.inl ne1244)
    have F1648 := F1618.other W1643 (Or.inl ne1244)
    have F1649 := F1619.other W1643 (Or.inl ne1244)
    have F1650 := F1620.other W1643 (Or.inl ne1244)
    have F1651 := F1621.other W1643 (Or.inl ne1244)
    have F1652 := F1622.other W1643 (Or.inl ne1244)
    have F1653 := F1623.other W1643 (Or.inl ne1244)
    have F1654 := F1624.other W1643 (Or.inl ne1244)
    have F1655 := F1625.other W1643 (Or.inl ne1244)
    have V1656 := V1626.other W1643 ne1245
    have V1657 := V1627.other W1643 ne1246
    have V1658 := V1628.other W1643 ne1250
    have V1659 := V1629.other W1643 ne1251
    have V1660 := V1630.other W1643 ne1252
    have V1661 := V1631.other W1643 ne1253
    have V1662 := V1632.other W1643 ne1254
    have V1663 := V1633.other W1643 ne1255
    have E1664 := E1634.wr W1643
    have V1665 := V1635.other W1643 ne1256
    have E1666 := E1636.wr W1643
    have V1667 := V1638.other W1643 ne1247
    have V1668 := V1639.other W1643 ne1248
    have V1669 := V1613.other W1643 ne1249
    refine own_istore X1643 hx (hb hby d2_280) #[.val (.ref a), .val (.ref kt), .val (.int (2 : Int32)), .val (.int (5 : Int32)), .val (.ref a982), .val (.ref a1205), .val (.ref a1243), .val (.int (3 : Int32)), .val (.int (Int32.ofNat n1641))] rfl 282 rfl ?_
    refine own_aloadN X1643 hx (hb hby d2_282) rfl rfl 283 rfl ?_
    refine own_getF X1643 hx hZ hown (own_w hw 14 rfl) Via.refl e1643 F1647 (hb hby d2_283) 286 rfl (fun T1670 X1670 e1670 => ?_)
    refine own_iload X1670 hx (hb hby d2_286) rfl 288 rfl ?_
    refine own_iload X1670 hx (hb hby d2_288) rfl 290 rfl ?_
    obtain ⟨n1671, hn1671, hs1671⟩ := own_be hs1642
    refine own_iastore X1670 hx hZ e1670 V1667 n1641 rfl (own_sl hn1671) (hb hby d2_290) 291 rfl (fun T1672 h1672 X1672 e1672 W1672 V1672 => ?_)
    rw [show (own_M n1552).set n1641 (3 : Int32) = (own_M n1671) from (own_setM hn1671)] at V1672
    have N1673 := Fr.snoc X1672 N1644 ge660
    have Z1674 : n0 ≤ h1672.size := by rw [W1672.size]; exact Z1645
    have E1675 := E1646.wr W1672
    have F1676 := F1647.other W1672 (Or.inl ne656)
    have F1677 := F1648.other W1672 (Or.inl ne656)
    have F1678 := F1649.other W1672 (Or.inl ne656)
    have F1679 := F1650.other W1672 (Or.inl ne656)
    have F1680 := F1651.other W1672 (Or.inl ne656)
    have F1681 := F1652.other W1672 (Or.inl ne656)
    have F1682 := F1653.other W1672 (Or.inl ne656)
    have F1683 := F1654.other W1672 (Or.inl ne656)
    have F1684 := F1655.other W1672 (Or.inl ne656)
    have V1685 := V1656.other W1672 ne657
    have V1686 := V1657.other W1672 ne658
    have V1687 := V1658.other W1672 (Ne.symm ne782)
    have V1688 := V1659.other W1672 (Ne.symm ne829)
    have V1689 := V1660.other W1672 (Ne.symm ne879)
    have V1690 := V1661.other W1672 (Ne.symm ne932)
    have V1691 := V1662.other W1672 ne659
    have V1692 := V1663.other W1672 (Ne.symm ne987)
    have E1693 := E1664.wr W1672
    have V1694 := V1665.other W1672 (Ne.symm ne1210)
    have E1695 := E1666.wr W1672
    have V1696 := V1668.other W1672 (Ne.symm ne697)
    have V1697 := V1669.other W1672 (Ne.symm ne737)
    have V1698 := V1643.other W1672 (Ne.symm ne1247)
    refine own_aloadN X1672 hx (hb hby d2_291) rfl rfl 292 rfl ?_
    refine own_getF X1672 hx hZ hown (own_w hw 16 rfl) Via.refl e1672 F1677 (hb hby d2_292) 295 rfl (fun T1699 X1699 e1699 => ?_)
    refine own_iload X1699 hx (hb hby d2_295) rfl 297 rfl ?_
    refine own_iload X1699 hx (hb hby d2_297) rfl 299 rfl ?_
    obtain ⟨n1700, hn1700, hs1700⟩ := own_be hs1671
    refine own_iastore X1699 hx hZ e1699 V1696 3 rfl (own_sl hn1700) (hb hby d2_299) 300 rfl (fun T1701 h1701 X1701 e1701 W1701 V1701 => ?_)
    rw [show (own_M n1581).set 3 (Int32.ofNat n1641) = (own_M n1700) from (own_setM hn1700)] at V1701
    have N1702 := Fr.snoc X1701 N1673 ge698
    have Z1703 : n0 ≤ h1701.size := by rw [W1701.size]; exact Z1674
    have E1704 := E1675.wr W1701
    have F1705 := F1676.other W1701 (Or.inl ne693)
    have F1706 := F1677.other W1701 (Or.inl ne693)
    have F1707 := F1678.other W1701 (Or.inl ne693)
    have F1708 := F1679.other W1701 (Or.inl ne693)
    have F1709 := F1680.other W1701 (Or.inl ne693)
    have F1710 := F1681.other W1701 (Or.inl ne693)
    have F1711 := F1682.other W1701 (Or.inl ne693)
    have F1712 := F1683.other W1701 (Or.inl ne693)
    have F1713 := F1684.other W1701 (Or.inl ne693)
    have V1714 := V1685.other W1701 ne694
    have V1715 := V1686.other W1701 ne695
    have V1716 := V1687.other W1701 (Ne.symm ne783)
    have V1717 := V1688.other W1701 (Ne.symm ne830)
    have V1718 := V1689.other W1701 (Ne.symm ne880)
    have V1719 := V1690.other W1701 (Ne.symm ne933)
    have V1720 := V1691.other W1701 ne696
    have V1721 := V1692.other W1701 (Ne.symm ne988)
    have E1722 := E1693.wr W1701
    have V1723 := V1694.other W1701 (Ne.symm ne1211)
    have E1724 := E1695.wr W1701
    have V1725 := V1697.other W1701 (Ne.symm ne738)
    have V1726 := V1698.other W1701 (Ne.symm ne1248)
    have V1727 := V1672.other W1701 ne697
    refine own_aloadN X1701 hx (hb hby d2_300) rfl rfl 301 rfl ?_
    refine own_getF X1701 hx hZ hown (own_w hw 18 rfl) Via.refl e1701 F1707 (hb hby d2_301) 304 rfl (fun T1728 X1728 e1728 => ?_)
    refine own_iload X1728 hx (hb hby d2_304) rfl 306 rfl ?_
    refine own_aload X1728 hx (hb hby d2_306) rfl rfl 308 rfl ?_
    refine own_aloadN X1728 hx (hb hby d2_308) rfl rfl 309 rfl ?_
    refine own_iload X1728 hx (hb hby d2_309) rfl 311 rfl ?_
    obtain ⟨n1729, hn1729, hs1729⟩ := own_be hs1700
    refine own_iaload X1728 hx hZ e1728 V1720 3 rfl (Int32.ofNat n1729) (own_ld hn1729) (hb hby d2_311) 312 rfl ?_
    obtain ⟨n1730, hn1730, hs1730⟩ := own_be hs1729
    refine own_iaload X1728 hx hZ e1728 V1723 n1729 rfl (Int32.ofNat n1730) (own_ld hn1730) (hb hby d2_312) 313 rfl ?_
    obtain ⟨n1731, hn1731, hs1731⟩ := own_be hs1730
    refine own_iastore X1728 hx hZ e1728 V1725 3 rfl (own_sl hn1731) (hb hby d2_313) 314 rfl (fun T1732 h1732 X1732 e1732 W1732 V1732 => ?_)
    rw [show (own_M n1612).set 3 (Int32.ofNat n1730) = (own_M n1731) from (own_setM hn1731)] at V1732
    have N1733 := Fr.snoc X1732 N1702 ge739
    have Z1734 : n0 ≤ h1732.size := by rw [W1732.size]; exact Z1703
    have E1735 := E1704.wr W1732
    have F1736 := F1705.other W1732 (Or.inl ne733)
    have F1737 := F1706.other W1732 (Or.inl ne733)
    have F1738 := F1707.other W1732 (Or.inl ne733)
    have F1739 := F1708.other W1732 (Or.inl ne733)
    have F1740 := F1709.other W1732 (Or.inl ne733)
    have F1741 := F1710.other W1732 (Or.inl ne733)
    have F1742 := F1711.other W1732 (Or.inl ne733)
    have F1743 := F1712.other W1732 (Or.inl ne733)
    have F1744 := F1713.other W1732 (Or.inl ne733)
    have V1745 := V1714.other W1732 ne734
    have V1746 := V1715.other W1732 ne735
    have V1747 := V1716.other W1732 (Ne.symm ne784)
    have V1748 := V1717.other W1732 (Ne.symm ne831)
    have V1749 := V1718.other W1732 (Ne.symm ne881)
    have V1750 := V1719.other W1732 (Ne.symm ne934)
    have V1751 := V1720.other W1732 ne736
    have V1752 := V1721.other W1732 (Ne.symm ne989)
    have E1753 := E1722.wr W1732
    have V1754 := V1723.other W1732 (Ne.symm ne1212)
    have E1755 := E1724.wr W1732
    have V1756 := V1726.other W1732 (Ne.symm ne1249)
    have V1757 := V1727.other W1732 ne737
    have V1758 := V1701.other W1732 ne738
    refine own_iinc X1732 hx (hb hby d2_314) rfl #[.val (.ref a), .val (.ref kt), .val (.int (2 : Int32)), .val (.int (5 : Int32)), .val (.ref a982), .val (.ref a1205), .val (.ref a1243), .val (.int (4 : Int32)), .val (.int (Int32.ofNat n1641))] rfl 317 rfl ?_
    refine own_goto X1732 hx (hb hby d2_317) 262 ⟨by decide, by decide⟩ ?_
    refine own_iload X1732 hx (hb hby d2_262) rfl 264 rfl ?_
    refine own_iloadN X1732 hx (hb hby d2_264) rfl 265 rfl ?_
    refine own_icmpN X1732 hx (hb hby d2_265) (tlt (by decide)).2.1 268 rfl ?_
    refine own_aload X1732 hx (hb hby d2_268) rfl rfl 270 rfl ?_
    refine own_aloadN X1732 hx (hb hby d2_270) rfl rfl 271 rfl ?_
    refine own_iload X1732 hx (hb hby d2_271) rfl 273 rfl ?_
    obtain ⟨n1759, hn1759, hs1759⟩ := own_be hs1731
    refine own_iaload X1732 hx hZ e1732 V1751 4 rfl (Int32.ofNat n1759) (own_ld hn1759) (hb hby d2_273) 274 rfl ?_
    refine own_dup2 X1732 hx (hb hby d2_274) rfl rfl 275 rfl ?_
    obtain ⟨n1760, hn1760, hs1760⟩ := own_be hs1759
    refine own_iaload X1732 hx hZ e1732 V1756 n1759 rfl (Int32.ofNat n1760) (own_ld hn1760) (hb hby d2_275) 276 rfl ?_
    refine own_dupX2 X1732 hx (hb hby d2_276) 277 rfl ?_
    refine own_iconst X1732 hx (hb hby d2_277) (1 : Int32) rfl 278 rfl ?_
    refine own_iaddE X1732 hx (hb hby d2_278) (Int32.ofNat (n1760 + 1)) (own_addN n1760 1) 279 rfl ?_
    obtain ⟨n1761, hn1761, hs1761⟩ := own_be hs1760
    refine own_iastore X1732 hx hZ e1732 V1756 n1759 rfl (own_sl hn1761) (hb hby d2_279) 280 rfl (fun T1762 h1762 X1762 e1762 W1762 V1762 => ?_)
    rw [show (own_M n1642).set n1759 (Int32.ofNat (n1760 + 1)) = (own_M n1761) from (own_setM hn1761)] at V1762
    have N1763 := Fr.snoc X1762 N1733 ge1257
    have Z1764 : n0 ≤ h1762.size := by rw [W1762.size]; exact Z1734
    have E1765 := E1735.wr W1762
    have F1766 := F1736.other W1762 (Or.inl ne1244)
    have F1767 := F1737.other W1762 (Or.inl ne1244)
    have F1768 := F1738.other W1762 (Or.inl ne1244)
    have F1769 := F1739.other W1762 (Or.inl ne1244)
    have F1770 := F1740.other W1762 (Or.inl ne1244)
    have F1771 := F1741.other W1762 (Or.inl ne1244)
    have F1772 := F1742.other W1762 (Or.inl ne1244)
    have F1773 := F1743.other W1762 (Or.inl ne1244)
    have F1774 := F1744.other W1762 (Or.inl ne1244)
    have V1775 := V1745.other W1762 ne1245
    have V1776 := V1746.other W1762 ne1246
    have V1777 := V1747.other W1762 ne1250
    have V1778 := V1748.other W1762 ne1251
    have V1779 := V1749.other W1762 ne1252
    have V1780 := V1750.other W1762 ne1253
    have V1781 := V1751.other W1762 ne1254
    have V1782 := V1752.other W1762 ne1255
    have E1783 := E1753.wr W1762
    have V1784 := V1754.other W1762 ne1256
    have E1785 := E1755.wr W1762
    have V1786 := V1757.other W1762 ne1247
    have V1787 := V1758.other W1762 ne1248
    have V1788 := V1732.other W1762 ne1249
    refine own_istore X1762 hx (hb hby d2_280) #[.val (.ref a), .val (.ref kt), .val (.int (2 : Int32)), .val (.int (5 : Int32)), .val (.ref a982), .val (.ref a1205), .val (.ref a1243), .val (.int (4 : Int32)), .val (.int (Int32.ofNat n1760))] rfl 282 rfl ?_
    refine own_aloadN X1762 hx (hb hby d2_282) rfl rfl 283 rfl ?_
    refine own_getF X1762 hx hZ hown (own_w hw 14 rfl) Via.refl e1762 F1766 (hb hby d2_283) 286 rfl (fun T1789 X1789 e1789 => ?_)
    refine own_iload X1789 hx (hb hby d2_286) rfl 288 rfl ?_
    refine own_iload X1789 hx (hb hby d2_288) rfl 290 rfl ?_
    obtain ⟨n1790, hn1790, hs1790⟩ := own_be hs1761
    refine own_iastore X1789 hx hZ e1789 V1786 n1760 rfl (own_sl hn1790) (hb hby d2_290) 291 rfl (fun T1791 h1791 X1791 e1791 W1791 V1791 => ?_)
    rw [show (own_M n1671).set n1760 (4 : Int32) = (own_M n1790) from (own_setM hn1790)] at V1791
    have N1792 := Fr.snoc X1791 N1763 ge660
    have Z1793 : n0 ≤ h1791.size := by rw [W1791.size]; exact Z1764
    have E1794 := E1765.wr W1791
    have F1795 := F1766.other W1791 (Or.inl ne656)
    have F1796 := F1767.other W1791 (Or.inl ne656)
    have F1797 := F1768.other W1791 (Or.inl ne656)
    have F1798 := F1769.other W1791 (Or.inl ne656)
    have F1799 := F1770.other W1791 (Or.inl ne656)
    have F1800 := F1771.other W1791 (Or.inl ne656)
    have F1801 := F1772.other W1791 (Or.inl ne656)
    have F1802 := F1773.other W1791 (Or.inl ne656)
    have F1803 := F1774.other W1791 (Or.inl ne656)
    have V1804 := V1775.other W1791 ne657
    have V1805 := V1776.other W1791 ne658
    have V1806 := V1777.other W1791 (Ne.symm ne782)
    have V1807 := V1778.other W1791 (Ne.symm ne829)
    have V1808 := V1779.other W1791 (Ne.symm ne879)
    have V1809 := V1780.other W1791 (Ne.symm ne932)
    have V1810 := V1781.other W1791 ne659
    have V1811 := V1782.other W1791 (Ne.symm ne987)
    have E1812 := E1783.wr W1791
    have V1813 := V1784.other W1791 (Ne.symm ne1210)
    have E1814 := E1785.wr W1791
    have V1815 := V1787.other W1791 (Ne.symm ne697)
    have V1816 := V1788.other W1791 (Ne.symm ne737)
    have V1817 := V1762.other W1791 (Ne.symm ne1247)
    refine own_aloadN X1791 hx (hb hby d2_291) rfl rfl 292 rfl ?_
    refine own_getF X1791 hx hZ hown (own_w hw 16 rfl) Via.refl e1791 F1796 (hb hby d2_292) 295 rfl (fun T1818 X1818 e1818 => ?_)
    refine own_iload X1818 hx (hb hby d2_295) rfl 297 rfl ?_
    refine own_iload X1818 hx (hb hby d2_297) rfl 299 rfl ?_
    obtain ⟨n1819, hn1819, hs1819⟩ := own_be hs1790
    refine own_iastore X1818 hx hZ e1818 V1815 4 rfl (own_sl hn1819) (hb hby d2_299) 300 rfl (fun T1820 h1820 X1820 e1820 W1820 V1820 => ?_)
    rw [show (own_M n1700).set 4 (Int32.ofNat n1760) = (own_M n1819) from (own_setM hn1819)] at V1820
    have N1821 := Fr.snoc X1820 N1792 ge698
    have Z1822 : n0 ≤ h1820.size := by rw [W1820.size]; exact Z1793
    have E1823 := E1794.wr W1820
    have F1824 := F1795.other W1820 (Or.inl ne693)
    have F1825 := F1796.other W1820 (Or.inl ne693)
    have F1826 := F1797.other W1820 (Or.inl ne693)
    have F1827 := F1798.other W1820 (Or.inl ne693)
    have F1828 := F1799.other W1820 (Or.inl ne693)
    have F1829 := F1800.other W1820 (Or.inl ne693)
    have F1830 := F1801.other W1820 (Or.inl ne693)
    have F1831 := F1802.other W1820 (Or.inl ne693)
    have F1832 := F1803.other W1820 (Or.inl ne693)
    have V1833 := V1804.other W1820 ne694
    have V1834 := V1805.other W1820 ne695
    have V1835 := V1806.other W1820 (Ne.symm ne783)
    have V1836 := V1807.other W1820 (Ne.symm ne830)
    have V1837 := V1808.other W1820 (Ne.symm ne880)
    have V1838 := V1809.other W1820 (Ne.symm ne933)
    have V1839 := V1810.other W1820 ne696
    have V1840 := V1811.other W1820 (Ne.symm ne988)
    have E1841 := E1812.wr W1820
    have V1842 := V1813.other W1820 (Ne.symm ne1211)
    have E1843 := E1814.wr W1820
    have V1844 := V1816.other W1820 (Ne.symm ne738)
    have V1845 := V1817.other W1820 (Ne.symm ne1248)
    have V1846 := V1791.other W1820 ne697
    refine own_aloadN X1820 hx (hb hby d2_300) rfl rfl 301 rfl ?_
    refine own_getF X1820 hx hZ hown (own_w hw 18 rfl) Via.refl e1820 F1826 (hb hby d2_301) 304 rfl (fun T1847 X1847 e1847 => ?_)
    refine own_iload X1847 hx (hb hby d2_304) rfl 306 rfl ?_
    refine own_aload X1847 hx (hb hby d2_306) rfl rfl 308 rfl ?_
    refine own_aloadN X1847 hx (hb hby d2_308) rfl rfl 309 rfl ?_
    refine own_iload X1847 hx (hb hby d2_309) rfl 311 rfl ?_
    obtain ⟨n1848, hn1848, hs1848⟩ := own_be hs1819
    refine own_iaload X1847 hx hZ e1847 V1839 4 rfl (Int32.ofNat n1848) (own_ld hn1848) (hb hby d2_311) 312 rfl ?_
    obtain ⟨n1849, hn1849, hs1849⟩ := own_be hs1848
    refine own_iaload X1847 hx hZ e1847 V1842 n1848 rfl (Int32.ofNat n1849) (own_ld hn1849) (hb hby d2_312) 313 rfl ?_
    obtain ⟨n1850, hn1850, hs1850⟩ := own_be hs1849
    refine own_iastore X1847 hx hZ e1847 V1844 4 rfl (own_sl hn1850) (hb hby d2_313) 314 rfl (fun T1851 h1851 X1851 e1851 W1851 V1851 => ?_)
    rw [show (own_M n1731).set 4 (Int32.ofNat n1849) = (own_M n1850) from (own_setM hn1850)] at V1851
    have N1852 := Fr.snoc X1851 N1821 ge739
    have Z1853 : n0 ≤ h1851.size := by rw [W1851.size]; exact Z1822
    have E1854 := E1823.wr W1851
    have F1855 := F1824.other W1851 (Or.inl ne733)
    have F1856 := F1825.other W1851 (Or.inl ne733)
    have F1857 := F1826.other W1851 (Or.inl ne733)
    have F1858 := F1827.other W1851 (Or.inl ne733)
    have F1859 := F1828.other W1851 (Or.inl ne733)
    have F1860 := F1829.other W1851 (Or.inl ne733)
    have F1861 := F1830.other W1851 (Or.inl ne733)
    have F1862 := F1831.other W1851 (Or.inl ne733)
    have F1863 := F1832.other W1851 (Or.inl ne733)
    have V1864 := V1833.other W1851 ne734
    have V1865 := V1834.other W1851 ne735
    have V1866 := V1835.other W1851 (Ne.symm ne784)
    have V1867 := V1836.other W1851 (Ne.symm ne831)
    have V1868 := V1837.other W1851 (Ne.symm ne881)
    have V1869 := V1838.other W1851 (Ne.symm ne934)
    have V1870 := V1839.other W1851 ne736
    have V1871 := V1840.other W1851 (Ne.symm ne989)
    have E1872 := E1841.wr W1851
    have V1873 := V1842.other W1851 (Ne.symm ne1212)
    have E1874 := E1843.wr W1851
    have V1875 := V1845.other W1851 (Ne.symm ne1249)
    have V1876 := V1846.other W1851 ne737
    have V1877 := V1820.other W1851 ne738
    refine own_iinc X1851 hx (hb hby d2_314) rfl #[.val (.ref a), .val (.ref kt), .val (.int (2 : Int32)), .val (.int (5 : Int32)), .val (.ref a982), .val (.ref a1205), .val (.ref a1243), .val (.int (5 : Int32)), .val (.int (Int32.ofNat n1760))] rfl 317 rfl ?_
    refine own_goto X1851 hx (hb hby d2_317) 262 ⟨by decide, by decide⟩ ?_
    refine own_iload X1851 hx (hb hby d2_262) rfl 264 rfl ?_
    refine own_iloadN X1851 hx (hb hby d2_264) rfl 265 rfl ?_
    refine own_icmpY X1851 hx (hb hby d2_265) (flt (by decide)).2.1 320 ⟨by decide, by decide⟩ ?_
    cases hs1850
    refine own_return X1851 hx Bd.notSynchronized hG Bd.returns (hb hby d2_320) (by decide) (by decide) ?_
    rw [e1851]
    exact ⟨a655, a692, a732, a777, a824, a874, a927, rfl, N1852, Z1853, ⟨q0, q1, Nat.lt_trans q2 o655, o692, o732, o777, o824, o874, o927⟩, ⟨E1854, F1855, F1856, F1857, F1858, F1859, F1860, F1861, F1862, F1863, V1864, V1865, V1876, V1877, V1851, V1866, V1867, V1868, V1869⟩⟩
  refine own_iconst X1205 hx (hb hby d2_156) (0 : Int32) rfl 157 rfl ?_
  refine own_istore X1205 hx (hb hby d2_157) #[.val (.ref a), .val (.ref kt), .val (.int (2 : Int32)), .val (.int (5 : Int32)), .val (.ref a982), .val (.ref a1205), .val (.int (0 : Int32)), .val (.int (5 : Int32)), .val (.int (Int32.ofNat n1124))] rfl 159 rfl ?_
  refine own_iload X1205 hx (hb hby d2_159) rfl 161 rfl ?_
  refine own_iloadN X1205 hx (hb hby d2_161) rfl 162 rfl ?_
  refine own_icmpN X1205 hx (hb hby d2_162) (tlt (by decide)).2.1 165 rfl ?_
  refine own_aload X1205 hx (hb hby d2_165) rfl rfl 167 rfl ?_
  refine own_iload X1205 hx (hb hby d2_167) rfl 169 rfl ?_
  obtain ⟨n1878, hn1878, hs1878⟩ := own_be hs1180
  refine own_iaload X1205 hx hZ e1205 V1241 0 rfl (Int32.ofNat n1878) (own_ld hn1878) (hb hby d2_169) 170 rfl ?_
  refine own_aload X1205 hx (hb hby d2_170) rfl rfl 172 rfl ?_
  refine own_iload X1205 hx (hb hby d2_172) rfl 174 rfl ?_
  refine own_iconst X1205 hx (hb hby d2_174) (1 : Int32) rfl 175 rfl ?_
  refine own_iadd X1205 hx (hb hby d2_175) 176 rfl ?_
  show own_Go p e below G (T1205.setTop (mkF m 176 #[.val (.ref a), .val (.ref kt), .val (.int (2 : Int32)), .val (.int (5 : Int32)), .val (.ref a982), .val (.ref a1205), .val (.int (0 : Int32)), .val (.int (5 : Int32)), .val (.int (Int32.ofNat n1124))] [(.int (1 : Int32)), (.ref a982), (.int (Int32.ofNat n1878))]))
  obtain ⟨n1879, hn1879, hs1879⟩ := own_be hs1878
  refine own_iaload X1205 hx hZ e1205 V1241 1 rfl (Int32.ofNat n1879) (own_ld hn1879) (hb hby d2_176) 177 rfl ?_
  obtain ⟨hg1880, hs1880⟩ := own_ifE hs1879
  by_cases c1881 : n1878 < n1879
  ·
    have hs1882 := (if_pos c1881).symm.trans hs1880
    refine own_icmpN X1205 hx (hb hby d2_177) (tlt ((own_ltN (a := n1878) (b := n1879) hg1880).mpr c1881)).2.1 180 rfl ?_
    refine own_aload X1205 hx (hb hby d2_180) rfl rfl 182 rfl ?_
    refine own_iload X1205 hx (hb hby d2_182) rfl 184 rfl ?_
    refine own_aloadN X1205 hx (hb hby d2_184) rfl rfl 185 rfl ?_
    refine own_getF X1205 hx hZ hown (own_w hw 32 rfl) Via.refl e1205 F1228 (hb hby d2_185) 188 rfl (fun T1883 X1883 e1883 => ?_)
    obtain ⟨n1884, hn1884, hs1884⟩ := own_be hs1882
    refine own_iastore X1883 hx hZ e1883 V1205 0 rfl (own_sl hn1884) (hb hby d2_188) 189 rfl (fun T1885 h1885 X1885 e1885 W1885 V1885 => ?_)
    rw [show (own_M [0, 0]).set 0 (0 : Int32) = (own_M n1884) from (own_setM hn1884)] at V1885
    have N1886 := Fr.snoc X1885 N1182 ge1218
    have Z1887 : n0 ≤ h1885.size := by rw [W1885.size]; exact Z1219
    have E1888 := E1220.wr W1885
    have F1889 := F1221.other W1885 (Or.inl ne1206)
    have F1890 := F1222.other W1885 (Or.inl ne1206)
    have F1891 := F1223.other W1885 (Or.inl ne1206)
    have F1892 := F1224.other W1885 (Or.inl ne1206)
    have F1893 := F1225.other W1885 (Or.inl ne1206)
    have F1894 := F1226.other W1885 (Or.inl ne1206)
    have F1895 := F1227.other W1885 (Or.inl ne1206)
    have F1896 := F1228.other W1885 (Or.inl ne1206)
    have F1897 := F1229.other W1885 (Or.inl ne1206)
    have V1898 := V1230.other W1885 ne1207
    have V1899 := V1231.other W1885 ne1208
    have V1900 := V1232.other W1885 ne1209
    have V1901 := V1233.other W1885 ne1210
    have V1902 := V1234.other W1885 ne1211
    have V1903 := V1235.other W1885 ne1212
    have V1904 := V1236.other W1885 ne1213
    have V1905 := V1237.other W1885 ne1214
    have V1906 := V1238.other W1885 ne1215
    have V1907 := V1239.other W1885 ne1216
    have E1908 := E1240.wr W1885
    have V1909 := V1241.other W1885 ne1217
    refine own_aloadN X1885 hx (hb hby d2_189) rfl rfl 190 rfl ?_
    refine own_getF X1885 hx hZ hown (own_w hw 24 rfl) Via.refl e1885 F1892 (hb hby d2_190) 193 rfl (fun T1910 X1910 e1910 => ?_)
    refine own_aloadN X1910 hx (hb hby d2_193) rfl rfl 194 rfl ?_
    refine own_getF X1910 hx hZ hown (own_w hw 32 rfl) Via.refl e1910 F1896 (hb hby d2_194) 197 rfl (fun T1911 X1911 e1911 => ?_)
    refine own_aload X1911 hx (hb hby d2_197) rfl rfl 199 rfl ?_
    refine own_iload X1911 hx (hb hby d2_199) rfl 201 rfl ?_
    obtain ⟨n1912, hn1912, hs1912⟩ := own_be hs1884
    refine own_iaload X1911 hx hZ e1911 V1909 0 rfl (Int32.ofNat n1912) (own_ld hn1912) (hb hby d2_201) 202 rfl ?_
    obtain ⟨n1913, hn1913, hs1913⟩ := own_be hs1912
    refine own_iastore X1911 hx hZ e1911 V1904 0 rfl (own_sl hn1913) (hb hby d2_202) 203 rfl (fun T1914 h1914 X1914 e1914 W1914 V1914 => ?_)
    rw [show (own_M [0, 0, 0, 0, 0]).set 0 (Int32.ofNat n1912) = (own_M n1913) from (own_setM hn1913)] at V1914
    have N1915 := Fr.snoc X1914 N1886 ge785
    have Z1916 : n0 ≤ h1914.size := by rw [W1914.size]; exact Z1887
    have E1917 := E1888.wr W1914
    have F1918 := F1889.other W1914 (Or.inl ne778)
    have F1919 := F1890.other W1914 (Or.inl ne778)
    have F1920 := F1891.other W1914 (Or.inl ne778)
    have F1921 := F1892.other W1914 (Or.inl ne778)
    have F1922 := F1893.other W1914 (Or.inl ne778)
    have F1923 := F1894.other W1914 (Or.inl ne778)
    have F1924 := F1895.other W1914 (Or.inl ne778)
    have F1925 := F1896.other W1914 (Or.inl ne778)
    have F1926 := F1897.other W1914 (Or.inl ne778)
    have V1927 := V1898.other W1914 ne779
    have V1928 := V1899.other W1914 ne780
    have V1929 := V1900.other W1914 ne781
    have V1930 := V1901.other W1914 ne782
    have V1931 := V1902.other W1914 ne783
    have V1932 := V1903.other W1914 ne784
    have V1933 := V1905.other W1914 (Ne.symm ne832)
    have V1934 := V1906.other W1914 (Ne.symm ne882)
    have V1935 := V1907.other W1914 (Ne.symm ne935)
    have E1936 := E1908.wr W1914
    have V1937 := V1909.other W1914 (Ne.symm ne990)
    have V1938 := V1885.other W1914 (Ne.symm ne1213)
    refine own_aloadN X1914 hx (hb hby d2_203) rfl rfl 204 rfl ?_
    refine own_getF X1914 hx hZ hown (own_w hw 26 rfl) Via.refl e1914 F1922 (hb hby d2_204) 207 rfl (fun T1939 X1939 e1939 => ?_)
    refine own_aloadN X1939 hx (hb hby d2_207) rfl rfl 208 rfl ?_
    refine own_getF X1939 hx hZ hown (own_w hw 32 rfl) Via.refl e1939 F1925 (hb hby d2_208) 211 rfl (fun T1940 X1940 e1940 => ?_)
    refine own_aload X1940 hx (hb hby d2_211) rfl rfl 213 rfl ?_
    refine own_iload X1940 hx (hb hby d2_213) rfl 215 rfl ?_
    refine own_iconst X1940 hx (hb hby d2_215) (1 : Int32) rfl 216 rfl ?_
    refine own_iadd X1940 hx (hb hby d2_216) 217 rfl ?_
    show own_Go p e below G (T1940.setTop (mkF m 217 #[.val (.ref a), .val (.ref kt), .val (.int (2 : Int32)), .val (.int (5 : Int32)), .val (.ref a982), .val (.ref a1205), .val (.int (0 : Int32)), .val (.int (5 : Int32)), .val (.int (Int32.ofNat n1124))] [(.int (1 : Int32)), (.ref a982), (.int (0 : Int32)), (.ref a824)]))
    obtain ⟨n1941, hn1941, hs1941⟩ := own_be hs1913
    refine own_iaload X1940 hx hZ e1940 V1937 1 rfl (Int32.ofNat n1941) (own_ld hn1941) (hb hby d2_217) 218 rfl ?_
    obtain ⟨n1942, hn1942, hs1942⟩ := own_be hs1941
    refine own_iastore X1940 hx hZ e1940 V1933 0 rfl (own_sl hn1942) (hb hby d2_218) 219 rfl (fun T1943 h1943 X1943 e1943 W1943 V1943 => ?_)
    rw [show (own_M [0, 0, 0, 0, 0]).set 0 (Int32.ofNat n1941) = (own_M n1942) from (own_setM hn1942)] at V1943
    have N1944 := Fr.snoc X1943 N1915 ge833
    have Z1945 : n0 ≤ h1943.size := by rw [W1943.size]; exact Z1916
    have E1946 := E1917.wr W1943
    have F1947 := F1918.other W1943 (Or.inl ne825)
    have F1948 := F1919.other W1943 (Or.inl ne825)
    have F1949 := F1920.other W1943 (Or.inl ne825)
    have F1950 := F1921.other W1943 (Or.inl ne825)
    have F1951 := F1922.other W1943 (Or.inl ne825)
    have F1952 := F1923.other W1943 (Or.inl ne825)
    have F1953 := F1924.other W1943 (Or.inl ne825)
    have F1954 := F1925.other W1943 (Or.inl ne825)
    have F1955 := F1926.other W1943 (Or.inl ne825)
    have V1956 := V1927.other W1943 ne826
    have V1957 := V1928.other W1943 ne827
    have V1958 := V1929.other W1943 ne828
    have V1959 := V1930.other W1943 ne829
    have V1960 := V1931.other W1943 ne830
    have V1961 := V1932.other W1943 ne831
    have V1962 := V1934.other W1943 (Ne.symm ne883)
    have V1963 := V1935.other W1943 (Ne.symm ne936)
    have E1964 := E1936.wr W1943
    have V1965 := V1937.other W1943 (Ne.symm ne991)
    have V1966 := V1938.other W1943 (Ne.symm ne1214)
    have V1967 := V1914.other W1943 ne832
    refine own_aloadN X1943 hx (hb hby d2_219) rfl rfl 220 rfl ?_
    refine own_getF X1943 hx hZ hown (own_w hw 28 rfl) Via.refl e1943 F1952 (hb hby d2_220) 223 rfl (fun T1968 X1968 e1968 => ?_)
    refine own_aloadN X1968 hx (hb hby d2_223) rfl rfl 224 rfl ?_
    refine own_getF X1968 hx hZ hown (own_w hw 32 rfl) Via.refl e1968 F1954 (hb hby d2_224) 227 rfl (fun T1969 X1969 e1969 => ?_)
    refine own_aload X1969 hx (hb hby d2_227) rfl rfl 229 rfl ?_
    refine own_iload X1969 hx (hb hby d2_229) rfl 231 rfl ?_
    obtain ⟨n1970, hn1970, hs1970⟩ := own_be hs1942
    refine own_iaload X1969 hx hZ e1969 V1965 0 rfl (Int32.ofNat n1970) (own_ld hn1970) (hb hby d2_231) 232 rfl ?_
    obtain ⟨n1971, hn1971, hs1971⟩ := own_be hs1970
    refine own_iastore X1969 hx hZ e1969 V1962 0 rfl (own_sl hn1971) (hb hby d2_232) 233 rfl (fun T1972 h1972 X1972 e1972 W1972 V1972 => ?_)
    rw [show (own_M [0, 0, 0, 0, 0]).set 0 (Int32.ofNat n1970) = (own_M n1971) from (own_setM hn1971)] at V1972
    have N1973 := Fr.snoc X1972 N1944 ge884
    have Z1974 : n0 ≤ h1972.size := by rw [W1972.size]; exact Z1945
    have E1975 := E1946.wr W1972
    have F1976 := F1947.other W1972 (Or.inl ne875)
    have F1977 := F1948.other W1972 (Or.inl ne875)
    have F1978 := F1949.other W1972 (Or.inl ne875)
    have F1979 := F1950.other W1972 (Or.inl ne875)
    have F1980 := F1951.other W1972 (Or.inl ne875)
    have F1981 := F1952.other W1972 (Or.inl ne875)
    have F1982 := F1953.other W1972 (Or.inl ne875)
    have F1983 := F1954.other W1972 (Or.inl ne875)
    have F1984 := F1955.other W1972 (Or.inl ne875)
    have V1985 := V1956.other W1972 ne876
    have V1986 := V1957.other W1972 ne877
    have V1987 := V1958.other W1972 ne878
    have V1988 := V1959.other W1972 ne879
    have V1989 := V1960.other W1972 ne880
    have V1990 := V1961.other W1972 ne881
    have V1991 := V1963.other W1972 (Ne.symm ne937)
    have E1992 := E1964.wr W1972
    have V1993 := V1965.other W1972 (Ne.symm ne992)
    have V1994 := V1966.other W1972 (Ne.symm ne1215)
    have V1995 := V1967.other W1972 ne882
    have V1996 := V1943.other W1972 ne883
    refine own_aloadN X1972 hx (hb hby d2_233) rfl rfl 234 rfl ?_
    refine own_dup X1972 hx (hb hby d2_234) rfl 235 rfl ?_
    refine own_getF X1972 hx hZ hown (own_w hw 32 rfl) Via.refl e1972 F1983 (hb hby d2_235) 238 rfl (fun T1997 X1997 e1997 => ?_)
    refine own_iconst X1997 hx (hb hby d2_238) (1 : Int32) rfl 239 rfl ?_
    refine own_iadd X1997 hx (hb hby d2_239) 240 rfl ?_
    show own_Go p e below G (T1997.setTop (mkF m 240 #[.val (.ref a), .val (.ref kt), .val (.int (2 : Int32)), .val (.int (5 : Int32)), .val (.ref a982), .val (.ref a1205), .val (.int (0 : Int32)), .val (.int (5 : Int32)), .val (.int (Int32.ofNat n1124))] [(.int (1 : Int32)), (.ref a)]))
    refine own_putF X1997 hx hZ hown (own_w hw 32 rfl) Via.refl e1997 F1983 E1975 (Or.inl (own_w hw 33 rfl)) (own_w hw 6 rfl) (ty := .int) (v' := (.int (1 : Int32))) (by decide) rfl rfl (hb hby d2_240) 243 rfl (fun T1998 h1998 X1998 e1998 W1998 => ?_)
    have N1999 := Fr.snoc X1998 N1973 (by omega)
    have Z2000 : n0 ≤ h1998.size := by rw [W1998.size]; exact Z1974
    have E2001 := E1975.wr W1998
    have F2002 := F1976.other W1998 (Or.inr (sn_8 hw))
    have F2003 := F1977.other W1998 (Or.inr (sn_9 hw))
    have F2004 := F1978.other W1998 (Or.inr (sn_10 hw))
    have F2005 := F1979.other W1998 (Or.inr (sn_11 hw))
    have F2006 := F1980.other W1998 (Or.inr (sn_12 hw))
    have F2007 := F1981.other W1998 (Or.inr (sn_13 hw))
    have F2008 := F1982.other W1998 (Or.inr (sn_14 hw))
    have F2009 := F1983.same W1998
    have F2010 := F1984.other W1998 (Or.inr (sn_15 hw))
    have V2011 := V1985.other W1998 (Nat.ne_of_lt (by omega))
    have V2012 := V1986.other W1998 (Nat.ne_of_lt (by omega))
    have V2013 := V1987.other W1998 (Ne.symm (Nat.ne_of_lt (by omega)))
    have V2014 := V1988.other W1998 (Ne.symm ne656)
    have V2015 := V1989.other W1998 (Ne.symm ne693)
    have V2016 := V1990.other W1998 (Ne.symm ne733)
    have V2017 := V1991.other W1998 (Ne.symm ne928)
    have E2018 := E1992.wr W1998
    have V2019 := V1993.other W1998 (Ne.symm ne983)
    have V2020 := V1994.other W1998 (Ne.symm ne1206)
    have V2021 := V1995.other W1998 (Ne.symm ne778)
    have V2022 := V1996.other W1998 (Ne.symm ne825)
    have V2023 := V1972.other W1998 (Ne.symm ne875)
    refine own_iinc X1998 hx (hb hby d2_243) rfl #[.val (.ref a), .val (.ref kt), .val (.int (2 : Int32)), .val (.int (5 : Int32)), .val (.ref a982), .val (.ref a1205), .val (.int (1 : Int32)), .val (.int (5 : Int32)), .val (.int (Int32.ofNat n1124))] rfl 246 rfl ?_
    refine own_goto X1998 hx (hb hby d2_246) 159 ⟨by decide, by decide⟩ ?_
    refine own_iload X1998 hx (hb hby d2_159) rfl 161 rfl ?_
    refine own_iloadN X1998 hx (hb hby d2_161) rfl 162 rfl ?_
    refine own_icmpN X1998 hx (hb hby d2_162) (tlt (by decide)).2.1 165 rfl ?_
    refine own_aload X1998 hx (hb hby d2_165) rfl rfl 167 rfl ?_
    refine own_iload X1998 hx (hb hby d2_167) rfl 169 rfl ?_
    obtain ⟨n2024, hn2024, hs2024⟩ := own_be hs1971
    refine own_iaload X1998 hx hZ e1998 V2019 1 rfl (Int32.ofNat n2024) (own_ld hn2024) (hb hby d2_169) 170 rfl ?_
    refine own_aload X1998 hx (hb hby d2_170) rfl rfl 172 rfl ?_
    refine own_iload X1998 hx (hb hby d2_172) rfl 174 rfl ?_
    refine own_iconst X1998 hx (hb hby d2_174) (1 : Int32) rfl 175 rfl ?_
    refine own_iadd X1998 hx (hb hby d2_175) 176 rfl ?_
    show own_Go p e below G (T1998.setTop (mkF m 176 #[.val (.ref a), .val (.ref kt), .val (.int (2 : Int32)), .val (.int (5 : Int32)), .val (.ref a982), .val (.ref a1205), .val (.int (1 : Int32)), .val (.int (5 : Int32)), .val (.int (Int32.ofNat n1124))] [(.int (2 : Int32)), (.ref a982), (.int (Int32.ofNat n2024))]))
    obtain ⟨n2025, hn2025, hs2025⟩ := own_be hs2024
    refine own_iaload X1998 hx hZ e1998 V2019 2 rfl (Int32.ofNat n2025) (own_ld hn2025) (hb hby d2_176) 177 rfl ?_
    obtain ⟨hg2026, hs2026⟩ := own_ifE hs2025
    by_cases c2027 : n2024 < n2025
    ·
      have hs2028 := (if_pos c2027).symm.trans hs2026
      refine own_icmpN X1998 hx (hb hby d2_177) (tlt ((own_ltN (a := n2024) (b := n2025) hg2026).mpr c2027)).2.1 180 rfl ?_
      refine own_aload X1998 hx (hb hby d2_180) rfl rfl 182 rfl ?_
      refine own_iload X1998 hx (hb hby d2_182) rfl 184 rfl ?_
      refine own_aloadN X1998 hx (hb hby d2_184) rfl rfl 185 rfl ?_
      refine own_getF X1998 hx hZ hown (own_w hw 32 rfl) Via.refl e1998 F2009 (hb hby d2_185) 188 rfl (fun T2029 X2029 e2029 => ?_)
      obtain ⟨n2030, hn2030, hs2030⟩ := own_be hs2028
      refine own_iastore X2029 hx hZ e2029 V2020 1 rfl (own_sl hn2030) (hb hby d2_188) 189 rfl (fun T2031 h2031 X2031 e2031 W2031 V2031 => ?_)
      rw [show (own_M n1884).set 1 (1 : Int32) = (own_M n2030) from (own_setM hn2030)] at V2031
      have N2032 := Fr.snoc X2031 N1999 ge1218
      have Z2033 : n0 ≤ h2031.size := by rw [W2031.size]; exact Z2000
      have E2034 := E2001.wr W2031
      have F2035 := F2002.other W2031 (Or.inl ne1206)
      have F2036 := F2003.other W2031 (Or.inl ne1206)
      have F2037 := F2004.other W2031 (Or.inl ne1206)
      have F2038 := F2005.other W2031 (Or.inl ne1206)
      have F2039 := F2006.other W2031 (Or.inl ne1206)
      have F2040 := F2007.other W2031 (Or.inl ne1206)
      have F2041 := F2008.other W2031 (Or.inl ne1206)
      have F2042 := F2009.other W2031 (Or.inl ne1206)
      have F2043 := F2010.other W2031 (Or.inl ne1206)
      have V2044 := V2011.other W2031 ne1207
      have V2045 := V2012.other W2031 ne1208
      have V2046 := V2013.other W2031 ne1209
      have V2047 := V2014.other W2031 ne1210
      have V2048 := V2015.other W2031 ne1211
      have V2049 := V2016.other W2031 ne1212
      have V2050 := V2017.other W2031 ne1216
      have E2051 := E2018.wr W2031
      have V2052 := V2019.other W2031 ne1217
      have V2053 := V2021.other W2031 ne1213
      have V2054 := V2022.other W2031 ne1214
      have V2055 := V2023.other W2031 ne1215
      refine own_aloadN X2031 hx (hb hby d2_189) rfl rfl 190 rfl ?_
      refine own_getF X2031 hx hZ hown (own_w hw 24 rfl) Via.refl e2031 F2038 (hb hby d2_190) 193 rfl (fun T2056 X2056 e2056 => ?_)
      refine own_aloadN X2056 hx (hb hby d2_193) rfl rfl 194 rfl ?_
      refine own_getF X2056 hx hZ hown (own_w hw 32 rfl) Via.refl e2056 F2042 (hb hby d2_194) 197 rfl (fun T2057 X2057 e2057 => ?_)
      refine own_aload X2057 hx (hb hby d2_197) rfl rfl 199 rfl ?_
      refine own_iload X2057 hx (hb hby d2_199) rfl 201 rfl ?_
      obtain ⟨n2058, hn2058, hs2058⟩ := own_be hs2030
      refine own_iaload X2057 hx hZ e2057 V2052 1 rfl (Int32.ofNat n2058) (own_ld hn2058) (hb hby d2_201) 202 rfl ?_
      obtain ⟨n2059, hn2059, hs2059⟩ := own_be hs2058
      refine own_iastore X2057 hx hZ e2057 V2053 1 rfl (own_sl hn2059) (hb hby d2_202) 203 rfl (fun T2060 h2060 X2060 e2060 W2060 V2060 => ?_)
      rw [show (own_M n1913).set 1 (Int32.ofNat n2058) = (own_M n2059) from (own_setM hn2059)] at V2060
      have N2061 := Fr.snoc X2060 N2032 ge785
      have Z2062 : n0 ≤ h2060.size := by rw [W2060.size]; exact Z2033
      have E2063 := E2034.wr W2060
      have F2064 := F2035.other W2060 (Or.inl ne778)
      have F2065 := F2036.other W2060 (Or.inl ne778)
      have F2066 := F2037.other W2060 (Or.inl ne778)
      have F2067 := F2038.other W2060 (Or.inl ne778)
      have F2068 := F2039.other W2060 (Or.inl ne778)
      have F2069 := F2040.other W2060 (Or.inl ne778)
      have F2070 := F2041.other W2060 (Or.inl ne778)
      have F2071 := F2042.other W2060 (Or.inl ne778)
      have F2072 := F2043.other W2060 (Or.inl ne778)
      have V2073 := V2044.other W2060 ne779
      have V2074 := V2045.other W2060 ne780
      have V2075 := V2046.other W2060 ne781
      have V2076 := V2047.other W2060 ne782
      have V2077 := V2048.other W2060 ne783
      have V2078 := V2049.other W2060 ne784
      have V2079 := V2050.other W2060 (Ne.symm ne935)
      have E2080 := E2051.wr W2060
      have V2081 := V2052.other W2060 (Ne.symm ne990)
      have V2082 := V2054.other W2060 (Ne.symm ne832)
      have V2083 := V2055.other W2060 (Ne.symm ne882)
      have V2084 := V2031.other W2060 (Ne.symm ne1213)
      refine own_aloadN X2060 hx (hb hby d2_203) rfl rfl 204 rfl ?_
      refine own_getF X2060 hx hZ hown (own_w hw 26 rfl) Via.refl e2060 F2068 (hb hby d2_204) 207 rfl (fun T2085 X2085 e2085 => ?_)
      refine own_aloadN X2085 hx (hb hby d2_207) rfl rfl 208 rfl ?_
      refine own_getF X2085 hx hZ hown (own_w hw 32 rfl) Via.refl e2085 F2071 (hb hby d2_208) 211 rfl (fun T2086 X2086 e2086 => ?_)
      refine own_aload X2086 hx (hb hby d2_211) rfl rfl 213 rfl ?_
      refine own_iload X2086 hx (hb hby d2_213) rfl 215 rfl ?_
      refine own_iconst X2086 hx (hb hby d2_215) (1 : Int32) rfl 216 rfl ?_
      refine own_iadd X2086 hx (hb hby d2_216) 217 rfl ?_
      show own_Go p e below G (T2086.setTop (mkF m 217 #[.val (.ref a), .val (.ref kt), .val (.int (2 : Int32)), .val (.int (5 : Int32)), .val (.ref a982), .val (.ref a1205), .val (.int (1 : Int32)), .val (.int (5 : Int32)), .val (.int (Int32.ofNat n1124))] [(.int (2 : Int32)), (.ref a982), (.int (1 : Int32)), (.ref a824)]))
      obtain ⟨n2087, hn2087, hs2087⟩ := own_be hs2059
      refine own_iaload X2086 hx hZ e2086 V2081 2 rfl (Int32.ofNat n2087) (own_ld hn2087) (hb hby d2_217) 218 rfl ?_
      obtain ⟨n2088, hn2088, hs2088⟩ := own_be hs2087
      refine own_iastore X2086 hx hZ e2086 V2082 1 rfl (own_sl hn2088) (hb hby d2_218) 219 rfl (fun T2089 h2089 X2089 e2089 W2089 V2089 => ?_)
      rw [show (own_M n1942).set 1 (Int32.ofNat n2087) = (own_M n2088) from (own_setM hn2088)] at V2089
      have N2090 := Fr.snoc X2089 N2061 ge833
      have Z2091 : n0 ≤ h2089.size := by rw [W2089.size]; exact Z2062
      have E2092 := E2063.wr W2089
      have F2093 := F2064.other W2089 (Or.inl ne825)
      have F2094 := F2065.other W2089 (Or.inl ne825)
      have F2095 := F2066.other W2089 (Or.inl ne825)
      have F2096 := F2067.other W2089 (Or.inl ne825)
      have F2097 := F2068.other W2089 (Or.inl ne825)
      have F2098 := F2069.other W2089 (Or.inl ne825)
      have F2099 := F2070.other W2089 (Or.inl ne825)
      have F2100 := F2071.other W2089 (Or.inl ne825)
      have F2101 := F2072.other W2089 (Or.inl ne825)
      have V2102 := V2073.other W2089 ne826
      have V2103 := V2074.other W2089 ne827
      have V2104 := V2075.other W2089 ne828
      have V2105 := V2076.other W2089 ne829
      have V2106 := V2077.other W2089 ne830
      have V2107 := V2078.other W2089 ne831
      have V2108 := V2079.other W2089 (Ne.symm ne936)
      have E2109 := E2080.wr W2089
      have V2110 := V2081.other W2089 (Ne.symm ne991)
      have V2111 := V2083.other W2089 (Ne.symm ne883)
      have V2112 := V2084.other W2089 (Ne.symm ne1214)
      have V2113 := V2060.other W2089 ne832
      refine own_aloadN X2089 hx (hb hby d2_219) rfl rfl 220 rfl ?_
      refine own_getF X2089 hx hZ hown (own_w hw 28 rfl) Via.refl e2089 F2098 (hb hby d2_220) 223 rfl (fun T2114 X2114 e2114 => ?_)
      refine own_aloadN X2114 hx (hb hby d2_223) rfl rfl 224 rfl ?_
      refine own_getF X2114 hx hZ hown (own_w hw 32 rfl) Via.refl e2114 F2100 (hb hby d2_224) 227 rfl (fun T2115 X2115 e2115 => ?_)
      refine own_aload X2115 hx (hb hby d2_227) rfl rfl 229 rfl ?_
      refine own_iload X2115 hx (hb hby d2_229) rfl 231 rfl ?_
      obtain ⟨n2116, hn2116, hs2116⟩ := own_be hs2088
      refine own_iaload X2115 hx hZ e2115 V2110 1 rfl (Int32.ofNat n2116) (own_ld hn2116) (hb hby d2_231) 232 rfl ?_
      obtain ⟨n2117, hn2117, hs2117⟩ := own_be hs2116
      refine own_iastore X2115 hx hZ e2115 V2111 1 rfl (own_sl hn2117) (hb hby d2_232) 233 rfl (fun T2118 h2118 X2118 e2118 W2118 V2118 => ?_)
      rw [show (own_M n1971).set 1 (Int32.ofNat n2116) = (own_M n2117) from (own_setM hn2117)] at V2118
      have N2119 := Fr.snoc X2118 N2090 ge884
      have Z2120 : n0 ≤ h2118.size := by rw [W2118.size]; exact Z2091
      have E2121 := E2092.wr W2118
      have F2122 := F2093.other W2118 (Or.inl ne875)
      have F2123 := F2094.other W2118 (Or.inl ne875)
      have F2124 := F2095.other W2118 (Or.inl ne875)
      have F2125 := F2096.other W2118 (Or.inl ne875)
      have F2126 := F2097.other W2118 (Or.inl ne875)
      have F2127 := F2098.other W2118 (Or.inl ne875)
      have F2128 := F2099.other W2118 (Or.inl ne875)
      have F2129 := F2100.other W2118 (Or.inl ne875)
      have F2130 := F2101.other W2118 (Or.inl ne875)
      have V2131 := V2102.other W2118 ne876
      have V2132 := V2103.other W2118 ne877
      have V2133 := V2104.other W2118 ne878
      have V2134 := V2105.other W2118 ne879
      have V2135 := V2106.other W2118 ne880
      have V2136 := V2107.other W2118 ne881
      have V2137 := V2108.other W2118 (Ne.symm ne937)
      have E2138 := E2109.wr W2118
      have V2139 := V2110.other W2118 (Ne.symm ne992)
      have V2140 := V2112.other W2118 (Ne.symm ne1215)
      have V2141 := V2113.other W2118 ne882
      have V2142 := V2089.other W2118 ne883
      refine own_aloadN X2118 hx (hb hby d2_233) rfl rfl 234 rfl ?_
      refine own_dup X2118 hx (hb hby d2_234) rfl 235 rfl ?_
      refine own_getF X2118 hx hZ hown (own_w hw 32 rfl) Via.refl e2118 F2129 (hb hby d2_235) 238 rfl (fun T2143 X2143 e2143 => ?_)
      refine own_iconst X2143 hx (hb hby d2_238) (1 : Int32) rfl 239 rfl ?_
      refine own_iadd X2143 hx (hb hby d2_239) 240 rfl ?_
      show own_Go p e below G (T2143.setTop (mkF m 240 #[.val (.ref a), .val (.ref kt), .val (.int (2 : Int32)), .val (.int (5 : Int32)), .val (.ref a982), .val (.ref a1205), .val (.int (1 : Int32)), .val (.int (5 : Int32)), .val (.int (Int32.ofNat n1124))] [(.int (2 : Int32)), (.ref a)]))
      refine own_putF X2143 hx hZ hown (own_w hw 32 rfl) Via.refl e2143 F2129 E2121 (Or.inl (own_w hw 33 rfl)) (own_w hw 6 rfl) (ty := .int) (v' := (.int (2 : Int32))) (by decide) rfl rfl (hb hby d2_240) 243 rfl (fun T2144 h2144 X2144 e2144 W2144 => ?_)
      have N2145 := Fr.snoc X2144 N2119 (by omega)
      have Z2146 : n0 ≤ h2144.size := by rw [W2144.size]; exact Z2120
      have E2147 := E2121.wr W2144
      have F2148 := F2122.other W2144 (Or.inr (sn_8 hw))
      have F2149 := F2123.other W2144 (Or.inr (sn_9 hw))
      have F2150 := F2124.other W2144 (Or.inr (sn_10 hw))
      have F2151 := F2125.other W2144 (Or.inr (sn_11 hw))
      have F2152 := F2126.other W2144 (Or.inr (sn_12 hw))
      have F2153 := F2127.other W2144 (Or.inr (sn_13 hw))
      have F2154 := F2128.other W2144 (Or.inr (sn_14 hw))
      have F2155 := F2129.same W2144
      have F2156 := F2130.other W2144 (Or.inr (sn_15 hw))
      have V2157 := V2131.other W2144 (Nat.ne_of_lt (by omega))
      have V2158 := V2132.other W2144 (Nat.ne_of_lt (by omega))
      have V2159 := V2133.other W2144 (Ne.symm (Nat.ne_of_lt (by omega)))
      have V2160 := V2134.other W2144 (Ne.symm ne656)
      have V2161 := V2135.other W2144 (Ne.symm ne693)
      have V2162 := V2136.other W2144 (Ne.symm ne733)
      have V2163 := V2137.other W2144 (Ne.symm ne928)
      have E2164 := E2138.wr W2144
      have V2165 := V2139.other W2144 (Ne.symm ne983)
      have V2166 := V2140.other W2144 (Ne.symm ne1206)
      have V2167 := V2141.other W2144 (Ne.symm ne778)
      have V2168 := V2142.other W2144 (Ne.symm ne825)
      have V2169 := V2118.other W2144 (Ne.symm ne875)
      refine own_iinc X2144 hx (hb hby d2_243) rfl #[.val (.ref a), .val (.ref kt), .val (.int (2 : Int32)), .val (.int (5 : Int32)), .val (.ref a982), .val (.ref a1205), .val (.int (2 : Int32)), .val (.int (5 : Int32)), .val (.int (Int32.ofNat n1124))] rfl 246 rfl ?_
      refine own_goto X2144 hx (hb hby d2_246) 159 ⟨by decide, by decide⟩ ?_
      refine own_iload X2144 hx (hb hby d2_159) rfl 161 rfl ?_
      refine own_iloadN X2144 hx (hb hby d2_161) rfl 162 rfl ?_
      refine own_icmpY X2144 hx (hb hby d2_162) (flt (by decide)).2.1 249 ⟨by decide, by decide⟩ ?_
      exact k249 n1180 n2030 n2059 n2088 n2117 2 (.val (.int (5 : Int32))) (.val (.int (Int32.ofNat n1124))) (Or.inr ⟨_, rfl, rfl⟩) (Or.inr ⟨_, rfl, rfl⟩) T2144 h2144 _ (by rw [own_slen hn1180, own_slen hn1153, own_slen hn1126, own_slen hn1099, own_slen hn1072, own_slen hn1045, own_slen hn1018]; decide) hs2117 X2144 e2144 N2145 Z2146 E2147 F2148 F2149 F2150 F2151 F2152 F2153 F2154 F2155 F2156 V2157 V2158 V2160 V2161 V2162 V2167 V2168 V2169 V2163 V2159 V2165 E2164 V2166
    ·
      have hs2170 := (if_neg c2027).symm.trans hs2026
      refine own_icmpY X1998 hx (hb hby d2_177) (flt (fun q => c2027 ((own_ltN (a := n2024) (b := n2025) hg2026).mp q))).2.1 243 ⟨by decide, by decide⟩ ?_
      refine own_iinc X1998 hx (hb hby d2_243) rfl #[.val (.ref a), .val (.ref kt), .val (.int (2 : Int32)), .val (.int (5 : Int32)), .val (.ref a982), .val (.ref a1205), .val (.int (2 : Int32)), .val (.int (5 : Int32)), .val (.int (Int32.ofNat n1124))] rfl 246 rfl ?_
      refine own_goto X1998 hx (hb hby d2_246) 159 ⟨by decide, by decide⟩ ?_
      refine own_iload X1998 hx (hb hby d2_159) rfl 161 rfl ?_
      refine own_iloadN X1998 hx (hb hby d2_161) rfl 162 rfl ?_
      refine own_icmpY X1998 hx (hb hby d2_162) (flt (by decide)).2.1 249 ⟨by decide, by decide⟩ ?_
      exact k249 n1180 n1884 n1913 n1942 n1971 1 (.val (.int (5 : Int32))) (.val (.int (Int32.ofNat n1124))) (Or.inr ⟨_, rfl, rfl⟩) (Or.inr ⟨_, rfl, rfl⟩) T1998 h1998 _ (by rw [own_slen hn1180, own_slen hn1153, own_slen hn1126, own_slen hn1099, own_slen hn1072, own_slen hn1045, own_slen hn1018]; decide) hs2170 X1998 e1998 N1999 Z2000 E2001 F2002 F2003 F2004 F2005 F2006 F2007 F2008 F2009 F2010 V2011 V2012 V2014 V2015 V2016 V2021 V2022 V2023 V2017 V2013 V2019 E2018 V2020
  ·
    have hs2171 := (if_neg c1881).symm.trans hs1880
    refine own_icmpY X1205 hx (hb hby d2_177) (flt (fun q => c1881 ((own_ltN (a := n1878) (b := n1879) hg1880).mp q))).2.1 243 ⟨by decide, by decide⟩ ?_
    refine own_iinc X1205 hx (hb hby d2_243) rfl #[.val (.ref a), .val (.ref kt), .val (.int (2 : Int32)), .val (.int (5 : Int32)), .val (.ref a982), .val (.ref a1205), .val (.int (1 : Int32)), .val (.int (5 : Int32)), .val (.int (Int32.ofNat n1124))] rfl 246 rfl ?_
    refine own_goto X1205 hx (hb hby d2_246) 159 ⟨by decide, by decide⟩ ?_
    refine own_iload X1205 hx (hb hby d2_159) rfl 161 rfl ?_
    refine own_iloadN X1205 hx (hb hby d2_161) rfl 162 rfl ?_
    refine own_icmpN X1205 hx (hb hby d2_162) (tlt (by decide)).2.1 165 rfl ?_
    refine own_aload X1205 hx (hb hby d2_165) rfl rfl 167 rfl ?_
    refine own_iload X1205 hx (hb hby d2_167) rfl 169 rfl ?_
    obtain ⟨n2172, hn2172, hs2172⟩ := own_be hs2171
    refine own_iaload X1205 hx hZ e1205 V1241 1 rfl (Int32.ofNat n2172) (own_ld hn2172) (hb hby d2_169) 170 rfl ?_
    refine own_aload X1205 hx (hb hby d2_170) rfl rfl 172 rfl ?_
    refine own_iload X1205 hx (hb hby d2_172) rfl 174 rfl ?_
    refine own_iconst X1205 hx (hb hby d2_174) (1 : Int32) rfl 175 rfl ?_
    refine own_iadd X1205 hx (hb hby d2_175) 176 rfl ?_
    show own_Go p e below G (T1205.setTop (mkF m 176 #[.val (.ref a), .val (.ref kt), .val (.int (2 : Int32)), .val (.int (5 : Int32)), .val (.ref a982), .val (.ref a1205), .val (.int (1 : Int32)), .val (.int (5 : Int32)), .val (.int (Int32.ofNat n1124))] [(.int (2 : Int32)), (.ref a982), (.int (Int32.ofNat n2172))]))
    obtain ⟨n2173, hn2173, hs2173⟩ := own_be hs2172
    refine own_iaload X1205 hx hZ e1205 V1241 2 rfl (Int32.ofNat n2173) (own_ld hn2173) (hb hby d2_176) 177 rfl ?_
    obtain ⟨hg2174, hs2174⟩ := own_ifE hs2173
    by_cases c2175 : n2172 < n2173
    ·
      have hs2176 := (if_pos c2175).symm.trans hs2174
      refine own_icmpN X1205 hx (hb hby d2_177) (tlt ((own_ltN (a := n2172) (b := n2173) hg2174).mpr c2175)).2.1 180 rfl ?_
      refine own_aload X1205 hx (hb hby d2_180) rfl rfl 182 rfl ?_
      refine own_iload X1205 hx (hb hby d2_182) rfl 184 rfl ?_
      refine own_aloadN X1205 hx (hb hby d2_184) rfl rfl 185 rfl ?_
      refine own_getF X1205 hx hZ hown (own_w hw 32 rfl) Via.refl e1205 F1228 (hb hby d2_185) 188 rfl (fun T2177 X2177 e2177 => ?_)
      obtain ⟨n2178, hn2178, hs2178⟩ := own_be hs2176
      refine own_iastore X2177 hx hZ e2177 V1205 1 rfl (own_sl hn2178) (hb hby d2_188) 189 rfl (fun T2179 h2179 X2179 e2179 W2179 V2179 => ?_)
      rw [show (own_M [0, 0]).set 1 (0 : Int32) = (own_M n2178) from (own_setM hn2178)] at V2179
      have N2180 := Fr.snoc X2179 N1182 ge1218
      have Z2181 : n0 ≤ h2179.size := by rw [W2179.size]; exact Z1219
      have E2182 := E1220.wr W2179
      have F2183 := F1221.other W2179 (Or.inl ne1206)
      have F2184 := F1222.other W2179 (Or.inl ne1206)
      have F2185 := F1223.other W2179 (Or.inl ne1206)
      have F2186 := F1224.other W2179 (Or.inl ne1206)
      have F2187 := F1225.other W2179 (Or.inl ne1206)
      have F2188 := F1226.other W2179 (Or.inl ne1206)
      have F2189 := F1227.other W2179 (Or.inl ne1206)
      have F2190 := F1228.other W2179 (Or.inl ne1206)
      have F2191 := F1229.other W2179 (Or.inl ne1206)
      have V2192 := V1230.other W2179 ne1207
      have V2193 := V1231.other W2179 ne1208
      have V2194 := V1232.other W2179 ne1209
      have V2195 := V1233.other W2179 ne1210
      have V2196 := V1234.other W2179 ne1211
      have V2197 := V1235.other W2179 ne1212
      have V2198 := V1236.other W2179 ne1213
      have V2199 := V1237.other W2179 ne1214
      have V2200 := V1238.other W2179 ne1215
      have V2201 := V1239.other W2179 ne1216
      have E2202 := E1240.wr W2179
      have V2203 := V1241.other W2179 ne1217
      refine own_aloadN X2179 hx (hb hby d2_189) rfl rfl 190 rfl ?_
      refine own_getF X2179 hx hZ hown (own_w hw 24 rfl) Via.refl e2179 F2186 (hb hby d2_190) 193 rfl (fun T2204 X2204 e2204 => ?_)
      refine own_aloadN X2204 hx (hb hby d2_193) rfl rfl 194 rfl ?_
      refine own_getF X2204 hx hZ hown (own_w hw 32 rfl) Via.refl e2204 F2190 (hb hby d2_194) 197 rfl (fun T2205 X2205 e2205 => ?_)
      refine own_aload X2205 hx (hb hby d2_197) rfl rfl 199 rfl ?_
      refine own_iload X2205 hx (hb hby d2_199) rfl 201 rfl ?_
      obtain ⟨n2206, hn2206, hs2206⟩ := own_be hs2178
      refine own_iaload X2205 hx hZ e2205 V2203 1 rfl (Int32.ofNat n2206) (own_ld hn2206) (hb hby d2_201) 202 rfl ?_
      obtain ⟨n2207, hn2207, hs2207⟩ := own_be hs2206
      refine own_iastore X2205 hx hZ e2205 V2198 0 rfl (own_sl hn2207) (hb hby d2_202) 203 rfl (fun T2208 h2208 X2208 e2208 W2208 V2208 => ?_)
      rw [show (own_M [0, 0, 0, 0, 0]).set 0 (Int32.ofNat n2206) = (own_M n2207) from (own_setM hn2207)] at V2208
      have N2209 := Fr.snoc X2208 N2180 ge785
      have Z2210 : n0 ≤ h2208.size := by rw [W2208.size]; exact Z2181
      have E2211 := E2182.wr W2208
      have F2212 := F2183.other W2208 (Or.inl ne778)
      have F2213 := F2184.other W2208 (Or.inl ne778)
      have F2214 := F2185.other W2208 (Or.inl ne778)
      have F2215 := F2186.other W2208 (Or.inl ne778)
      have F2216 := F2187.other W2208 (Or.inl ne778)
      have F2217 := F2188.other W2208 (Or.inl ne778)
      have F2218 := F2189.other W2208 (Or.inl ne778)
      have F2219 := F2190.other W2208 (Or.inl ne778)
      have F2220 := F2191.other W2208 (Or.inl ne778)
      have V2221 := V2192.other W2208 ne779
      have V2222 := V2193.other W2208 ne780
      have V2223 := V2194.other W2208 ne781
      have V2224 := V2195.other W2208 ne782
      have V2225 := V2196.other W2208 ne783
      have V2226 := V2197.other W2208 ne784
      have V2227 := V2199.other W2208 (Ne.symm ne832)
      have V2228 := V2200.other W2208 (Ne.symm ne882)
      have V2229 := V2201.other W2208 (Ne.symm ne935)
      have E2230 := E2202.wr W2208
      have V2231 := V2203.other W2208 (Ne.symm ne990)
      have V2232 := V2179.other W2208 (Ne.symm ne1213)
      refine own_aloadN X2208 hx (hb hby d2_203) rfl rfl 204 rfl ?_
      refine own_getF X2208 hx hZ hown (own_w hw 26 rfl) Via.refl e2208 F2216 (hb hby d2_204) 207 rfl (fun T2233 X2233 e2233 => ?_)
      refine own_aloadN X2233 hx (hb hby d2_207) rfl rfl 208 rfl ?_
      refine own_getF X2233 hx hZ hown (own_w hw 32 rfl) Via.refl e2233 F2219 (hb hby d2_208) 211 rfl (fun T2234 X2234 e2234 => ?_)
      refine own_aload X2234 hx (hb hby d2_211) rfl rfl 213 rfl ?_
      refine own_iload X2234 hx (hb hby d2_213) rfl 215 rfl ?_
      refine own_iconst X2234 hx (hb hby d2_215) (1 : Int32) rfl 216 rfl ?_
      refine own_iadd X2234 hx (hb hby d2_216) 217 rfl ?_
      show own_Go p e below G (T2234.setTop (mkF m 217 #[.val (.ref a), .val (.ref kt), .val (.int (2 : Int32)), .val (.int (5 : Int32)), .val (.ref a982), .val (.ref a1205), .val (.int (1 : Int32)), .val (.int (5 : Int32)), .val (.int (Int32.ofNat n1124))] [(.int (2 : Int32)), (.ref a982), (.int (0 : Int32)), (.ref a824)]))
      obtain ⟨n2235, hn2235, hs2235⟩ := own_be hs2207
      refine own_iaload X2234 hx hZ e2234 V2231 2 rfl (Int32.ofNat n2235) (own_ld hn2235) (hb hby d2_217) 218 rfl ?_
      obtain ⟨n2236, hn2236, hs2236⟩ := own_be hs2235
      refine own_iastore X2234 hx hZ e2234 V2227 0 rfl (own_sl hn2236) (hb hby d2_218) 219 rfl (fun T2237 h2237 X2237 e2237 W2237 V2237 => ?_)
      rw [show (own_M [0, 0, 0, 0, 0]).set 0 (Int32.ofNat n2235) = (own_M n2236) from (own_setM hn2236)] at V2237
      have N2238 := Fr.snoc X2237 N2209 ge833
      have Z2239 : n0 ≤ h2237.size := by rw [W2237.size]; exact Z2210
      have E2240 := E2211.wr W2237
      have F2241 := F2212.other W2237 (Or.inl ne825)
      have F2242 := F2213.other W2237 (Or.inl ne825)
      have F2243 := F2214.other W2237 (Or.inl ne825)
      have F2244 := F2215.other W2237 (Or.inl ne825)
      have F2245 := F2216.other W2237 (Or.inl ne825)
      have F2246 := F2217.other W2237 (Or.inl ne825)
      have F2247 := F2218.other W2237 (Or.inl ne825)
      have F2248 := F2219.other W2237 (Or.inl ne825)
      have F2249 := F2220.other W2237 (Or.inl ne825)
      have V2250 := V2221.other W2237 ne826
      have V2251 := V2222.other W2237 ne827
      have V2252 := V2223.other W2237 ne828
      have V2253 := V2224.other W2237 ne829
      have V2254 := V2225.other W2237 ne830
      have V2255 := V2226.other W2237 ne831
      have V2256 := V2228.other W2237 (Ne.symm ne883)
      have V2257 := V2229.other W2237 (Ne.symm ne936)
      have E2258 := E2230.wr W2237
      have V2259 := V2231.other W2237 (Ne.symm ne991)
      have V2260 := V2232.other W2237 (Ne.symm ne1214)
      have V2261 := V2208.other W2237 ne832
      refine own_aloadN X2237 hx (hb hby d2_219) rfl rfl 220 rfl ?_
      refine own_getF X2237 hx hZ hown (own_w hw 28 rfl) Via.refl e2237 F2246 (hb hby d2_220) 223 rfl (fun T2262 X2262 e2262 => ?_)
      refine own_aloadN X2262 hx (hb hby d2_223) rfl rfl 224 rfl ?_
      refine own_getF X2262 hx hZ hown (own_w hw 32 rfl) Via.refl e2262 F2248 (hb hby d2_224) 227 rfl (fun T2263 X2263 e2263 => ?_)
      refine own_aload X2263 hx (hb hby d2_227) rfl rfl 229 rfl ?_
      refine own_iload X2263 hx (hb hby d2_229) rfl 231 rfl ?_
      obtain ⟨n2264, hn2264, hs2264⟩ := own_be hs2236
      refine own_iaload X2263 hx hZ e2263 V2259 1 rfl (Int32.ofNat n2264) (own_ld hn2264) (hb hby d2_231) 232 rfl ?_
      obtain ⟨n2265, hn2265, hs2265⟩ := own_be hs2264
      refine own_iastore X2263 hx hZ e2263 V2256 0 rfl (own_sl hn2265) (hb hby d2_232) 233 rfl (fun T2266 h2266 X2266 e2266 W2266 V2266 => ?_)
      rw [show (own_M [0, 0, 0, 0, 0]).set 0 (Int32.ofNat n2264) = (own_M n2265) from (own_setM hn2265)] at V2266
      have N2267 := Fr.snoc X2266 N2238 ge884
      have Z2268 : n0 ≤ h2266.size := by rw [W2266.size]; exact Z2239
      have E2269 := E2240.wr W2266
      have F2270 := F2241.other W2266 (Or.inl ne875)
      have F2271 := F2242.other W2266 (Or.inl ne875)
      have F2272 := F2243.other W2266 (Or.inl ne875)
      have F2273 := F2244.other W2266 (Or.inl ne875)
      have F2274 := F2245.other W2266 (Or.inl ne875)
      have F2275 := F2246.other W2266 (Or.inl ne875)
      have F2276 := F2247.other W2266 (Or.inl ne875)
      have F2277 := F2248.other W2266 (Or.inl ne875)
      have F2278 := F2249.other W2266 (Or.inl ne875)
      have V2279 := V2250.other W2266 ne876
      have V2280 := V2251.other W2266 ne877
      have V2281 := V2252.other W2266 ne878
      have V2282 := V2253.other W2266 ne879
      have V2283 := V2254.other W2266 ne880
      have V2284 := V2255.other W2266 ne881
      have V2285 := V2257.other W2266 (Ne.symm ne937)
      have E2286 := E2258.wr W2266
      have V2287 := V2259.other W2266 (Ne.symm ne992)
      have V2288 := V2260.other W2266 (Ne.symm ne1215)
      have V2289 := V2261.other W2266 ne882
      have V2290 := V2237.other W2266 ne883
      refine own_aloadN X2266 hx (hb hby d2_233) rfl rfl 234 rfl ?_
      refine own_dup X2266 hx (hb hby d2_234) rfl 235 rfl ?_
      refine own_getF X2266 hx hZ hown (own_w hw 32 rfl) Via.refl e2266 F2277 (hb hby d2_235) 238 rfl (fun T2291 X2291 e2291 => ?_)
      refine own_iconst X2291 hx (hb hby d2_238) (1 : Int32) rfl 239 rfl ?_
      refine own_iadd X2291 hx (hb hby d2_239) 240 rfl ?_
      show own_Go p e below G (T2291.setTop (mkF m 240 #[.val (.ref a), .val (.ref kt), .val (.int (2 : Int32)), .val (.int (5 : Int32)), .val (.ref a982), .val (.ref a1205), .val (.int (1 : Int32)), .val (.int (5 : Int32)), .val (.int (Int32.ofNat n1124))] [(.int (1 : Int32)), (.ref a)]))
      refine own_putF X2291 hx hZ hown (own_w hw 32 rfl) Via.refl e2291 F2277 E2269 (Or.inl (own_w hw 33 rfl)) (own_w hw 6 rfl) (ty := .int) (v' := (.int (1 : Int32))) (by decide) rfl rfl (hb hby d2_240) 243 rfl (fun T2292 h2292 X2292 e2292 W2292 => ?_)
      have N2293 := Fr.snoc X2292 N2267 (by omega)
      have Z2294 : n0 ≤ h2292.size := by rw [W2292.size]; exact Z2268
      have E2295 := E2269.wr W2292
      have F2296 := F2270.other W2292 (Or.inr (sn_8 hw))
      have F2297 := F2271.other W2292 (Or.inr (sn_9 hw))
      have F2298 := F2272.other W2292 (Or.inr (sn_10 hw))
      have F2299 := F2273.other W2292 (Or.inr (sn_11 hw))
      have F2300 := F2274.other W2292 (Or.inr (sn_12 hw))
      have F2301 := F2275.other W2292 (Or.inr (sn_13 hw))
      have F2302 := F2276.other W2292 (Or.inr (sn_14 hw))
      have F2303 := F2277.same W2292
      have F2304 := F2278.other W2292 (Or.inr (sn_15 hw))
      have V2305 := V2279.other W2292 (Nat.ne_of_lt (by omega))
      have V2306 := V2280.other W2292 (Nat.ne_of_lt (by omega))
      have V2307 := V2281.other W2292 (Ne.symm (Nat.ne_of_lt (by omega)))
      have V2308 := V2282.other W2292 (Ne.symm ne656)
      have V2309 := V2283.other W2292 (Ne.symm ne693)
      have V2310 := V2284.other W2292 (Ne.symm ne733)
      have V2311 := V2285.other W2292 (Ne.symm ne928)
      have E2312 := E2286.wr W2292
      have V2313 := V2287.other W2292 (Ne.symm ne983)
      have V2314 := V2288.other W2292 (Ne.symm ne1206)
      have V2315 := V2289.other W2292 (Ne.symm ne778)
      have V2316 := V2290.other W2292 (Ne.symm ne825)
      have V2317 := V2266.other W2292 (Ne.symm ne875)
      refine own_iinc X2292 hx (hb hby d2_243) rfl #[.val (.ref a), .val (.ref kt), .val (.int (2 : Int32)), .val (.int (5 : Int32)), .val (.ref a982), .val (.ref a1205), .val (.int (2 : Int32)), .val (.int (5 : Int32)), .val (.int (Int32.ofNat n1124))] rfl 246 rfl ?_
      refine own_goto X2292 hx (hb hby d2_246) 159 ⟨by decide, by decide⟩ ?_
      refine own_iload X2292 hx (hb hby d2_159) rfl 161 rfl ?_
      refine own_iloadN X2292 hx (hb hby d2_161) rfl 162 rfl ?_
      refine own_icmpY X2292 hx (hb hby d2_162) (flt (by decide)).2.1 249 ⟨by decide, by decide⟩ ?_
      exact k249 n1180 n2178 n2207 n2236 n2265 1 (.val (.int (5 : Int32))) (.val (.int (Int32.ofNat n1124))) (Or.inr ⟨_, rfl, rfl⟩) (Or.inr ⟨_, rfl, rfl⟩) T2292 h2292 _ (by rw [own_slen hn1180, own_slen hn1153, own_slen hn1126, own_slen hn1099, own_slen hn1072, own_slen hn1045, own_slen hn1018]; decide) hs2265 X2292 e2292 N2293 Z2294 E2295 F2296 F2297 F2298 F2299 F2300 F2301 F2302 F2303 F2304 V2305 V2306 V2308 V2309 V2310 V2315 V2316 V2317 V2311 V2307 V2313 E2312 V2314
    ·
      have hs2318 := (if_neg c2175).symm.trans hs2174
      refine own_icmpY X1205 hx (hb hby d2_177) (flt (fun q => c2175 ((own_ltN (a := n2172) (b := n2173) hg2174).mp q))).2.1 243 ⟨by decide, by decide⟩ ?_
      refine own_iinc X1205 hx (hb hby d2_243) rfl #[.val (.ref a), .val (.ref kt), .val (.int (2 : Int32)), .val (.int (5 : Int32)), .val (.ref a982), .val (.ref a1205), .val (.int (2 : Int32)), .val (.int (5 : Int32)), .val (.int (Int32.ofNat n1124))] rfl 246 rfl ?_
      refine own_goto X1205 hx (hb hby d2_246) 159 ⟨by decide, by decide⟩ ?_
      refine own_iload X1205 hx (hb hby d2_159) rfl 161 rfl ?_
      refine own_iloadN X1205 hx (hb hby d2_161) rfl 162 rfl ?_
      refine own_icmpY X1205 hx (hb hby d2_162) (flt (by decide)).2.1 249 ⟨by decide, by decide⟩ ?_
      exact k249 n1180 [0, 0] [0, 0, 0, 0, 0] [0, 0, 0, 0, 0] [0, 0, 0, 0, 0] 0 (.val (.int (5 : Int32))) (.val (.int (Int32.ofNat n1124))) (Or.inr ⟨_, rfl, rfl⟩) (Or.inr ⟨_, rfl, rfl⟩) T1205 h1205 _ (by rw [own_slen hn1180, own_slen hn1153, own_slen hn1126, own_slen hn1099, own_slen hn1072, own_slen hn1045, own_slen hn1018]; decide) hs2318 X1205 e1205 N1182 Z1219 E1220 F1221 F1222 F1223 F1224 F1225 F1226 F1227 F1228 F1229 V1230 V1231 V1233 V1234 V1235 V1236 V1237 V1238 V1239 V1232 V1241 E1240 V1205
def Q0 (h0 : Heap) (n0 : Nat) (v : Option Value) (h : Heap) (L : List Loc) : Prop := v = some (.int 1) ∧ Fr n0 L
theorem ef_rm0 (m : MethodId) (x0 : Int32) (x1 : Int32) (x2 : Int32) : entryFrame m #[(.int x0), (.int x1), (.int x2)] maxLocals = mkF m 0 #[.val (.int x0), .val (.int x1), .val (.int x2), .unset, .unset, .unset, .unset, .unset, .unset, .unset, .unset, .unset, .unset, .unset, .unset, .unset, .unset, .unset, .unset, .unset, .unset, .unset, .unset, .unset, .unset, .unset, .unset, .unset, .unset, .unset, .unset] [] := by first | (simp [entryFrame, mkF, argsToLocals, Value.category, maxLocals]; done) | rfl
set_option maxRecDepth 65536 in
set_option maxHeartbeats 40000000 in
theorem rm0 (l : Launch) (Z : State) (a0 : Array Value) (hw : ∀ d ∈ tables_1, d.before a0 Z = true) (ws : List Jvm.Cond) (v0 v1 v2 : Int32) (h0 : Heap) (n0 : Nat) (Z0 : n0 ≤ h0.size) :
    MetFree l x (head1 (Jvm.Cond.code x code maxLocals ret :: ws) room_1) (fun aR U => aR = #[(.int v0), (.int v1), (.int v2)] ∧ Z.Warmed39 U.vm ∧ U.heap = h0) (fun _ _ _ _ _ => True) (fun _ U o U' => ∃ v L, o = .returned v ∧ Q0 h0 n0 v U'.heap L ∧ FrameEnd U o U' L room_1.cells room_1.slots) := by
  refine MetFree.of_bodySF (plainFor_of_name pn_0) hisR ?_
  intro p e s m args below meth c s₁ Bd hml0 hP hK
  obtain ⟨rfl, hZ, hhE⟩ := hP
  have hx := Bd.exec
  have hby := Bd.bytes
  have hml : c.maxLocals = 31 := hml0
  have hown : s.vm.findClass "com/example/libhedge/libhedge/RefinablePartitionSplitPinLaw" = some m.cls := findClass_of_methodNamed Bd.named
  have hnm := (name_of_methodNamed Bd.named Bd.method).1
  have X0 : Stand p l e room_1 s m #[(.int v0), (.int v1), (.int v2)] below meth c s₁ [] 0 0 := Stand.of_body Bd
  have e0 : s₁.heap = h0 := by rw [← hhE, Bd.state]; rfl
  have N0 := Fr.nil n0
  show own_Go p e below (own_Post s (Q0 h0 n0) room_1.cells room_1.slots) (s₁.setTop (entryFrame m #[(.int v0), (.int v1), (.int v2)] maxLocals))
  rw [ef_rm0]
  generalize hG : own_Post s (Q0 h0 n0) room_1.cells room_1.slots = G
  refine own_iconst X0 hx (hb hby at_0) (5 : Int32) rfl 1 rfl ?_
  refine own_newI X0 hx hZ (own_w hw 0 rfl) e0 (hb hby at_1) 5 rfl 5 (by decide) (by decide) (by decide) (by decide) 3 rfl (fun T2319 h2319 a2319 g2319 X2319 e2319 E2319 V2319 => ?_)
  have ge2320 : n0 ≤ a2319 := by rw [g2319]; exact Z0
  have Z2321 : n0 ≤ h2319.size := Nat.le_trans Z0 E2319.1
  rw [show (List.replicate 5 (0 : Int32)) = (own_M [0, 0, 0, 0, 0]) from rfl] at V2319
  refine own_dup X2319 hx (hb hby at_3) rfl 4 rfl ?_
  refine own_iconst X2319 hx (hb hby at_4) (0 : Int32) rfl 5 rfl ?_
  refine own_iloadN X2319 hx (hb hby at_5) rfl 6 rfl ?_
  refine own_iconst X2319 hx (hb hby at_6) (0 : Int32) rfl 7 rfl ?_
  refine own_callS X2319 hx hZ hown (own_w hw 1 rfl) (own_w hw 2 rfl) (own_w hw 3 rfl) (own_w hw 4 rfl) (by decide) e2319 (rmBit l Z a0 hw [] v0 (0 : Int32) h2319 n0) (by rw [hml]; rfl) pd_2 (argsL := [(.int v0), (.int (0 : Int32))]) rfl (rest := [(.int (0 : Int32)), (.ref a2319), (.ref a2319)]) rfl (hb hby at_7) 3 (Nat.le_of_eq rfl) (by decide) (by decide) (by decide) (by decide) 10 rfl (fun T2322 L2322 v2322 X2322 hQ2322 => ?_)
  obtain ⟨k0, rfl, N2322, e2322, bk0⟩ := hQ2322
  have N2323 := Fr.app N0 N2322
  show own_Go p e below G (T2322.setTop (mkF m 10 #[.val (.int v0), .val (.int v1), .val (.int v2), .unset, .unset, .unset, .unset, .unset, .unset, .unset, .unset, .unset, .unset, .unset, .unset, .unset, .unset, .unset, .unset, .unset, .unset, .unset, .unset, .unset, .unset, .unset, .unset, .unset, .unset, .unset, .unset] [(.int (Int32.ofNat k0)), (.int (0 : Int32)), (.ref a2319), (.ref a2319)]))
  refine own_iastore X2322 hx hZ e2322 V2319 0 rfl (by show 0 < 5; decide) (hb hby at_10) 11 rfl (fun T2324 h2324 X2324 e2324 W2324 V2324 => ?_)
  rw [show (own_M [0, 0, 0, 0, 0]).set 0 (Int32.ofNat k0) = (own_M [k0, 0, 0, 0, 0]) from rfl] at V2324
  have N2325 := Fr.snoc X2324 N2323 ge2320
  have Z2326 : n0 ≤ h2324.size := by rw [W2324.size]; exact Z2321
  refine own_dup X2324 hx (hb hby at_11) rfl 12 rfl ?_
  refine own_iconst X2324 hx (hb hby at_12) (1 : Int32) rfl 13 rfl ?_
  refine own_iloadN X2324 hx (hb hby at_13) rfl 14 rfl ?_
  refine own_iconst X2324 hx (hb hby at_14) (1 : Int32) rfl 15 rfl ?_
  refine own_callS X2324 hx hZ hown (own_w hw 1 rfl) (own_w hw 2 rfl) (own_w hw 3 rfl) (own_w hw 4 rfl) (by decide) e2324 (rmBit l Z a0 hw [] v0 (1 : Int32) h2324 n0) (by rw [hml]; rfl) pd_2 (argsL := [(.int v0), (.int (1 : Int32))]) rfl (rest := [(.int (1 : Int32)), (.ref a2319), (.ref a2319)]) rfl (hb hby at_15) 3 (Nat.le_of_eq rfl) (by decide) (by decide) (by decide) (by decide) 18 rfl (fun T2327 L2327 v2327 X2327 hQ2327 => ?_)
  obtain ⟨k1, rfl, N2327, e2327, bk1⟩ := hQ2327
  have N2328 := Fr.app N2325 N2327
  show own_Go p e below G (T2327.setTop (mkF m 18 #[.val (.int v0), .val (.int v1), .val (.int v2), .unset, .unset, .unset, .unset, .unset, .unset, .unset, .unset, .unset, .unset, .unset, .unset, .unset, .unset, .unset, .unset, .unset, .unset, .unset, .unset, .unset, .unset, .unset, .unset, .unset, .unset, .unset, .unset] [(.int (Int32.ofNat k1)), (.int (1 : Int32)), (.ref a2319), (.ref a2319)]))
  refine own_iastore X2327 hx hZ e2327 V2324 1 rfl (by show 1 < 5; decide) (hb hby at_18) 19 rfl (fun T2329 h2329 X2329 e2329 W2329 V2329 => ?_)
  rw [show (own_M [k0, 0, 0, 0, 0]).set 1 (Int32.ofNat k1) = (own_M [k0, k1, 0, 0, 0]) from rfl] at V2329
  have N2330 := Fr.snoc X2329 N2328 ge2320
  have Z2331 : n0 ≤ h2329.size := by rw [W2329.size]; exact Z2326
  refine own_dup X2329 hx (hb hby at_19) rfl 20 rfl ?_
  refine own_iconst X2329 hx (hb hby at_20) (2 : Int32) rfl 21 rfl ?_
  refine own_iloadN X2329 hx (hb hby at_21) rfl 22 rfl ?_
  refine own_iconst X2329 hx (hb hby at_22) (2 : Int32) rfl 23 rfl ?_
  refine own_callS X2329 hx hZ hown (own_w hw 1 rfl) (own_w hw 2 rfl) (own_w hw 3 rfl) (own_w hw 4 rfl) (by decide) e2329 (rmBit l Z a0 hw [] v0 (2 : Int32) h2329 n0) (by rw [hml]; rfl) pd_2 (argsL := [(.int v0), (.int (2 : Int32))]) rfl (rest := [(.int (2 : Int32)), (.ref a2319), (.ref a2319)]) rfl (hb hby at_23) 3 (Nat.le_of_eq rfl) (by decide) (by decide) (by decide) (by decide) 26 rfl (fun T2332 L2332 v2332 X2332 hQ2332 => ?_)
  obtain ⟨k2, rfl, N2332, e2332, bk2⟩ := hQ2332
  have N2333 := Fr.app N2330 N2332
  show own_Go p e below G (T2332.setTop (mkF m 26 #[.val (.int v0), .val (.int v1), .val (.int v2), .unset, .unset, .unset, .unset, .unset, .unset, .unset, .unset, .unset, .unset, .unset, .unset, .unset, .unset, .unset, .unset, .unset, .unset, .unset, .unset, .unset, .unset, .unset, .unset, .unset, .unset, .unset, .unset] [(.int (Int32.ofNat k2)), (.int (2 : Int32)), (.ref a2319), (.ref a2319)]))
  refine own_iastore X2332 hx hZ e2332 V2329 2 rfl (by show 2 < 5; decide) (hb hby at_26) 27 rfl (fun T2334 h2334 X2334 e2334 W2334 V2334 => ?_)
  rw [show (own_M [k0, k1, 0, 0, 0]).set 2 (Int32.ofNat k2) = (own_M [k0, k1, k2, 0, 0]) from rfl] at V2334
  have N2335 := Fr.snoc X2334 N2333 ge2320
  have Z2336 : n0 ≤ h2334.size := by rw [W2334.size]; exact Z2331
  refine own_dup X2334 hx (hb hby at_27) rfl 28 rfl ?_
  refine own_iconst X2334 hx (hb hby at_28) (3 : Int32) rfl 29 rfl ?_
  refine own_iloadN X2334 hx (hb hby at_29) rfl 30 rfl ?_
  refine own_iconst X2334 hx (hb hby at_30) (3 : Int32) rfl 31 rfl ?_
  refine own_callS X2334 hx hZ hown (own_w hw 1 rfl) (own_w hw 2 rfl) (own_w hw 3 rfl) (own_w hw 4 rfl) (by decide) e2334 (rmBit l Z a0 hw [] v0 (3 : Int32) h2334 n0) (by rw [hml]; rfl) pd_2 (argsL := [(.int v0), (.int (3 : Int32))]) rfl (rest := [(.int (3 : Int32)), (.ref a2319), (.ref a2319)]) rfl (hb hby at_31) 3 (Nat.le_of_eq rfl) (by decide) (by decide) (by decide) (by decide) 34 rfl (fun T2337 L2337 v2337 X2337 hQ2337 => ?_)
  obtain ⟨k3, rfl, N2337, e2337, bk3⟩ := hQ2337
  have N2338 := Fr.app N2335 N2337
  show own_Go p e below G (T2337.setTop (mkF m 34 #[.val (.int v0), .val (.int v1), .val (.int v2), .unset, .unset, .unset, .unset, .unset, .unset, .unset, .unset, .unset, .unset, .unset, .unset, .unset, .unset, .unset, .unset, .unset, .unset, .unset, .unset, .unset, .unset, .unset, .unset, .unset, .unset, .unset, .unset] [(.int (Int32.ofNat k3)), (.int (3 : Int32)), (.ref a2319), (.ref a2319)]))
  refine own_iastore X2337 hx hZ e2337 V2334 3 rfl (by show 3 < 5; decide) (hb hby at_34) 35 rfl (fun T2339 h2339 X2339 e2339 W2339 V2339 => ?_)
  rw [show (own_M [k0, k1, k2, 0, 0]).set 3 (Int32.ofNat k3) = (own_M [k0, k1, k2, k3, 0]) from rfl] at V2339
  have N2340 := Fr.snoc X2339 N2338 ge2320
  have Z2341 : n0 ≤ h2339.size := by rw [W2339.size]; exact Z2336
  refine own_dup X2339 hx (hb hby at_35) rfl 36 rfl ?_
  refine own_iconst X2339 hx (hb hby at_36) (4 : Int32) rfl 37 rfl ?_
  refine own_iloadN X2339 hx (hb hby at_37) rfl 38 rfl ?_
  refine own_iconst X2339 hx (hb hby at_38) (4 : Int32) rfl 39 rfl ?_
  refine own_callS X2339 hx hZ hown (own_w hw 1 rfl) (own_w hw 2 rfl) (own_w hw 3 rfl) (own_w hw 4 rfl) (by decide) e2339 (rmBit l Z a0 hw [] v0 (4 : Int32) h2339 n0) (by rw [hml]; rfl) pd_2 (argsL := [(.int v0), (.int (4 : Int32))]) rfl (rest := [(.int (4 : Int32)), (.ref a2319), (.ref a2319)]) rfl (hb hby at_39) 3 (Nat.le_of_eq rfl) (by decide) (by decide) (by decide) (by decide) 42 rfl (fun T2342 L2342 v2342 X2342 hQ2342 => ?_)
  obtain ⟨k4, rfl, N2342, e2342, bk4⟩ := hQ2342
  have N2343 := Fr.app N2340 N2342
  show own_Go p e below G (T2342.setTop (mkF m 42 #[.val (.int v0), .val (.int v1), .val (.int v2), .unset, .unset, .unset, .unset, .unset, .unset, .unset, .unset, .unset, .unset, .unset, .unset, .unset, .unset, .unset, .unset, .unset, .unset, .unset, .unset, .unset, .unset, .unset, .unset, .unset, .unset, .unset, .unset] [(.int (Int32.ofNat k4)), (.int (4 : Int32)), (.ref a2319), (.ref a2319)]))
  refine own_iastore X2342 hx hZ e2342 V2339 4 rfl (by show 4 < 5; decide) (hb hby at_42) 43 rfl (fun T2344 h2344 X2344 e2344 W2344 V2344 => ?_)
  rw [show (own_M [k0, k1, k2, k3, 0]).set 4 (Int32.ofNat k4) = (own_M [k0, k1, k2, k3, k4]) from rfl] at V2344
  have N2345 := Fr.snoc X2344 N2343 ge2320
  have Z2346 : n0 ≤ h2344.size := by rw [W2344.size]; exact Z2341
  refine own_astoreN X2344 hx (hb hby at_43) rfl #[.val (.int v0), .val (.int v1), .val (.int v2), .val (.ref a2319), .unset, .unset, .unset, .unset, .unset, .unset, .unset, .unset, .unset, .unset, .unset, .unset, .unset, .unset, .unset, .unset, .unset, .unset, .unset, .unset, .unset, .unset, .unset, .unset, .unset, .unset, .unset] rfl 44 rfl ?_
  refine own_iconst X2344 hx (hb hby at_44) (5 : Int32) rfl 45 rfl ?_
  refine own_newI X2344 hx hZ (own_w hw 0 rfl) e2344 (hb hby at_45) 5 rfl 5 (by decide) (by decide) (by decide) (by decide) 47 rfl (fun T2347 h2347 a2347 g2347 X2347 e2347 E2347 V2347 => ?_)
  have ne2348 : a2319 ≠ a2347 := by rw [g2347]; exact Nat.ne_of_lt V2344.lt
  have ge2349 : n0 ≤ a2347 := by rw [g2347]; exact Z2346
  have Z2350 : n0 ≤ h2347.size := Nat.le_trans Z2346 E2347.1
  have V2351 := V2344.ext E2347
  rw [show (List.replicate 5 (0 : Int32)) = (own_M [0, 0, 0, 0, 0]) from rfl] at V2347
  have w0 : @LT.lt Nat _ a2319 a2347 := by rw [g2347]; exact V2344.lt
  refine own_dup X2347 hx (hb hby at_47) rfl 48 rfl ?_
  refine own_iconst X2347 hx (hb hby at_48) (0 : Int32) rfl 49 rfl ?_
  refine own_iloadN X2347 hx (hb hby at_49) rfl 50 rfl ?_
  refine own_iconst X2347 hx (hb hby at_50) (0 : Int32) rfl 51 rfl ?_
  refine own_callS X2347 hx hZ hown (own_w hw 1 rfl) (own_w hw 2 rfl) (own_w hw 3 rfl) (own_w hw 4 rfl) (by decide) e2347 (rmBit l Z a0 hw [] v1 (0 : Int32) h2347 n0) (by rw [hml]; rfl) pd_2 (argsL := [(.int v1), (.int (0 : Int32))]) rfl (rest := [(.int (0 : Int32)), (.ref a2347), (.ref a2347)]) rfl (hb hby at_51) 3 (Nat.le_of_eq rfl) (by decide) (by decide) (by decide) (by decide) 54 rfl (fun T2352 L2352 v2352 X2352 hQ2352 => ?_)
  obtain ⟨m0, rfl, N2352, e2352, bm0⟩ := hQ2352
  have N2353 := Fr.app N2345 N2352
  show own_Go p e below G (T2352.setTop (mkF m 54 #[.val (.int v0), .val (.int v1), .val (.int v2), .val (.ref a2319), .unset, .unset, .unset, .unset, .unset, .unset, .unset, .unset, .unset, .unset, .unset, .unset, .unset, .unset, .unset, .unset, .unset, .unset, .unset, .unset, .unset, .unset, .unset, .unset, .unset, .unset, .unset] [(.int (Int32.ofNat m0)), (.int (0 : Int32)), (.ref a2347), (.ref a2347)]))
  refine own_iastore X2352 hx hZ e2352 V2347 0 rfl (by show 0 < 5; decide) (hb hby at_54) 55 rfl (fun T2354 h2354 X2354 e2354 W2354 V2354 => ?_)
  rw [show (own_M [0, 0, 0, 0, 0]).set 0 (Int32.ofNat m0) = (own_M [m0, 0, 0, 0, 0]) from rfl] at V2354
  have N2355 := Fr.snoc X2354 N2353 ge2349
  have Z2356 : n0 ≤ h2354.size := by rw [W2354.size]; exact Z2350
  have V2357 := V2351.other W2354 ne2348
  refine own_dup X2354 hx (hb hby at_55) rfl 56 rfl ?_
  refine own_iconst X2354 hx (hb hby at_56) (1 : Int32) rfl 57 rfl ?_
  refine own_iloadN X2354 hx (hb hby at_57) rfl 58 rfl ?_
  refine own_iconst X2354 hx (hb hby at_58) (1 : Int32) rfl 59 rfl ?_
  refine own_callS X2354 hx hZ hown (own_w hw 1 rfl) (own_w hw 2 rfl) (own_w hw 3 rfl) (own_w hw 4 rfl) (by decide) e2354 (rmBit l Z a0 hw [] v1 (1 : Int32) h2354 n0) (by rw [hml]; rfl) pd_2 (argsL := [(.int v1), (.int (1 : Int32))]) rfl (rest := [(.int (1 : Int32)), (.ref a2347), (.ref a2347)]) rfl (hb hby at_59) 3 (Nat.le_of_eq rfl) (by decide) (by decide) (by decide) (by decide) 62 rfl (fun T2358 L2358 v2358 X2358 hQ2358 => ?_)
  obtain ⟨m1, rfl, N2358, e2358, bm1⟩ := hQ2358
  have N2359 := Fr.app N2355 N2358
  show own_Go p e below G (T2358.setTop (mkF m 62 #[.val (.int v0), .val (.int v1), .val (.int v2), .val (.ref a2319), .unset, .unset, .unset, .unset, .unset, .unset, .unset, .unset, .unset, .unset, .unset, .unset, .unset, .unset, .unset, .unset, .unset, .unset, .unset, .unset, .unset, .unset, .unset, .unset, .unset, .unset, .unset] [(.int (Int32.ofNat m1)), (.int (1 : Int32)), (.ref a2347), (.ref a2347)]))
  refine own_iastore X2358 hx hZ e2358 V2354 1 rfl (by show 1 < 5; decide) (hb hby at_62) 63 rfl (fun T2360 h2360 X2360 e2360 W2360 V2360 => ?_)
  rw [show (own_M [m0, 0, 0, 0, 0]).set 1 (Int32.ofNat m1) = (own_M [m0, m1, 0, 0, 0]) from rfl] at V2360
  have N2361 := Fr.snoc X2360 N2359 ge2349
  have Z2362 : n0 ≤ h2360.size := by rw [W2360.size]; exact Z2356
  have V2363 := V2357.other W2360 ne2348
  refine own_dup X2360 hx (hb hby at_63) rfl 64 rfl ?_
  refine own_iconst X2360 hx (hb hby at_64) (2 : Int32) rfl 65 rfl ?_
  refine own_iloadN X2360 hx (hb hby at_65) rfl 66 rfl ?_
  refine own_iconst X2360 hx (hb hby at_66) (2 : Int32) rfl 67 rfl ?_
  refine own_callS X2360 hx hZ hown (own_w hw 1 rfl) (own_w hw 2 rfl) (own_w hw 3 rfl) (own_w hw 4 rfl) (by decide) e2360 (rmBit l Z a0 hw [] v1 (2 : Int32) h2360 n0) (by rw [hml]; rfl) pd_2 (argsL := [(.int v1), (.int (2 : Int32))]) rfl (rest := [(.int (2 : Int32)), (.ref a2347), (.ref a2347)]) rfl (hb hby at_67) 3 (Nat.le_of_eq rfl) (by decide) (by decide) (by decide) (by decide) 70 rfl (fun T2364 L2364 v2364 X2364 hQ2364 => ?_)
  obtain ⟨m2, rfl, N2364, e2364, bm2⟩ := hQ2364
  have N2365 := Fr.app N2361 N2364
  show own_Go p e below G (T2364.setTop (mkF m 70 #[.val (.int v0), .val (.int v1), .val (.int v2), .val (.ref a2319), .unset, .unset, .unset, .unset, .unset, .unset, .unset, .unset, .unset, .unset, .unset, .unset, .unset, .unset, .unset, .unset, .unset, .unset, .unset, .unset, .unset, .unset, .unset, .unset, .unset, .unset, .unset] [(.int (Int32.ofNat m2)), (.int (2 : Int32)), (.ref a2347), (.ref a2347)]))
  refine own_iastore X2364 hx hZ e2364 V2360 2 rfl (by show 2 < 5; decide) (hb hby at_70) 71 rfl (fun T2366 h2366 X2366 e2366 W2366 V2366 => ?_)
  rw [show (own_M [m0, m1, 0, 0, 0]).set 2 (Int32.ofNat m2) = (own_M [m0, m1, m2, 0, 0]) from rfl] at V2366
  have N2367 := Fr.snoc X2366 N2365 ge2349
  have Z2368 : n0 ≤ h2366.size := by rw [W2366.size]; exact Z2362
  have V2369 := V2363.other W2366 ne2348
  refine own_dup X2366 hx (hb hby at_71) rfl 72 rfl ?_
  refine own_iconst X2366 hx (hb hby at_72) (3 : Int32) rfl 73 rfl ?_
  refine own_iloadN X2366 hx (hb hby at_73) rfl 74 rfl ?_
  refine own_iconst X2366 hx (hb hby at_74) (3 : Int32) rfl 75 rfl ?_
  refine own_callS X2366 hx hZ hown (own_w hw 1 rfl) (own_w hw 2 rfl) (own_w hw 3 rfl) (own_w hw 4 rfl) (by decide) e2366 (rmBit l Z a0 hw [] v1 (3 : Int32) h2366 n0) (by rw [hml]; rfl) pd_2 (argsL := [(.int v1), (.int (3 : Int32))]) rfl (rest := [(.int (3 : Int32)), (.ref a2347), (.ref a2347)]) rfl (hb hby at_75) 3 (Nat.le_of_eq rfl) (by decide) (by decide) (by decide) (by decide) 78 rfl (fun T2370 L2370 v2370 X2370 hQ2370 => ?_)
  obtain ⟨m3, rfl, N2370, e2370, bm3⟩ := hQ2370
  have N2371 := Fr.app N2367 N2370
  show own_Go p e below G (T2370.setTop (mkF m 78 #[.val (.int v0), .val (.int v1), .val (.int v2), .val (.ref a2319), .unset, .unset, .unset, .unset, .unset, .unset, .unset, .unset, .unset, .unset, .unset, .unset, .unset, .unset, .unset, .unset, .unset, .unset, .unset, .unset, .unset, .unset, .unset, .unset, .unset, .unset, .unset] [(.int (Int32.ofNat m3)), (.int (3 : Int32)), (.ref a2347), (.ref a2347)]))
  refine own_iastore X2370 hx hZ e2370 V2366 3 rfl (by show 3 < 5; decide) (hb hby at_78) 79 rfl (fun T2372 h2372 X2372 e2372 W2372 V2372 => ?_)
  rw [show (own_M [m0, m1, m2, 0, 0]).set 3 (Int32.ofNat m3) = (own_M [m0, m1, m2, m3, 0]) from rfl] at V2372
  have N2373 := Fr.snoc X2372 N2371 ge2349
  have Z2374 : n0 ≤ h2372.size := by rw [W2372.size]; exact Z2368
  have V2375 := V2369.other W2372 ne2348
  refine own_dup X2372 hx (hb hby at_79) rfl 80 rfl ?_
  refine own_iconst X2372 hx (hb hby at_80) (4 : Int32) rfl 81 rfl ?_
  refine own_iloadN X2372 hx (hb hby at_81) rfl 82 rfl ?_
  refine own_iconst X2372 hx (hb hby at_82) (4 : Int32) rfl 83 rfl ?_
  refine own_callS X2372 hx hZ hown (own_w hw 1 rfl) (own_w hw 2 rfl) (own_w hw 3 rfl) (own_w hw 4 rfl) (by decide) e2372 (rmBit l Z a0 hw [] v1 (4 : Int32) h2372 n0) (by rw [hml]; rfl) pd_2 (argsL := [(.int v1), (.int (4 : Int32))]) rfl (rest := [(.int (4 : Int32)), (.ref a2347), (.ref a2347)]) rfl (hb hby at_83) 3 (Nat.le_of_eq rfl) (by decide) (by decide) (by decide) (by decide) 86 rfl (fun T2376 L2376 v2376 X2376 hQ2376 => ?_)
  obtain ⟨m4, rfl, N2376, e2376, bm4⟩ := hQ2376
  have N2377 := Fr.app N2373 N2376
  show own_Go p e below G (T2376.setTop (mkF m 86 #[.val (.int v0), .val (.int v1), .val (.int v2), .val (.ref a2319), .unset, .unset, .unset, .unset, .unset, .unset, .unset, .unset, .unset, .unset, .unset, .unset, .unset, .unset, .unset, .unset, .unset, .unset, .unset, .unset, .unset, .unset, .unset, .unset, .unset, .unset, .unset] [(.int (Int32.ofNat m4)), (.int (4 : Int32)), (.ref a2347), (.ref a2347)]))
  refine own_iastore X2376 hx hZ e2376 V2372 4 rfl (by show 4 < 5; decide) (hb hby at_86) 87 rfl (fun T2378 h2378 X2378 e2378 W2378 V2378 => ?_)
  rw [show (own_M [m0, m1, m2, m3, 0]).set 4 (Int32.ofNat m4) = (own_M [m0, m1, m2, m3, m4]) from rfl] at V2378
  have N2379 := Fr.snoc X2378 N2377 ge2349
  have Z2380 : n0 ≤ h2378.size := by rw [W2378.size]; exact Z2374
  have V2381 := V2375.other W2378 ne2348
  have hk : k0 < 2 ∧ k1 < 2 ∧ k2 < 2 ∧ k3 < 2 ∧ k4 < 2 := ⟨bk0, bk1, bk2, bk3, bk4⟩
  have hm : m0 < 2 ∧ m1 < 2 ∧ m2 < 2 ∧ m3 < 2 ∧ m4 < 2 := ⟨bm0, bm1, bm2, bm3, bm4⟩
  obtain ⟨e2, he2, hpk⟩ := own_pick v2
  obtain ⟨⟨el6, pl6, so6, fi6, en6, un6, to6, cnt6, tc6⟩, C, hsA, hsB, hsC⟩ := own_ex hk hm he2
  refine own_astore X2378 hx (hb hby at_87) rfl #[.val (.int v0), .val (.int v1), .val (.int v2), .val (.ref a2319), .val (.ref a2347), .unset, .unset, .unset, .unset, .unset, .unset, .unset, .unset, .unset, .unset, .unset, .unset, .unset, .unset, .unset, .unset, .unset, .unset, .unset, .unset, .unset, .unset, .unset, .unset, .unset, .unset] rfl 89 rfl ?_
  refine own_newO X2378 hx hZ hown (own_w hw 5 rfl) (own_w hw 6 rfl) (own_w hw 7 rfl) e2378 (hb hby at_89) (by decide) (by decide) 92 rfl (fun T2382 h2382 a2382 g2382 X2382 e2382 E2382 A2382 D2382 => ?_)
  have ne2383 : a2319 ≠ a2382 := by rw [g2382]; exact Nat.ne_of_lt V2381.lt
  have ne2384 : a2347 ≠ a2382 := by rw [g2382]; exact Nat.ne_of_lt V2378.lt
  have ge2385 : n0 ≤ a2382 := by rw [g2382]; exact Z2380
  have Z2386 : n0 ≤ h2382.size := Nat.le_trans Z2380 E2382.1
  have V2387 := V2381.ext E2382
  have V2388 := V2378.ext E2382
  have F2389 : Fld Z h2382 a2382 "com/example/libhedge/libhedge/RefinablePartition" "elements" "[I" .null := D2382 (Or.inr (own_w hw 15 rfl)) (ty := (.array .int)) (by decide)
  have F2390 : Fld Z h2382 a2382 "com/example/libhedge/libhedge/RefinablePartition" "placeOf" "[I" .null := D2382 (Or.inr (own_w hw 17 rfl)) (ty := (.array .int)) (by decide)
  have F2391 : Fld Z h2382 a2382 "com/example/libhedge/libhedge/RefinablePartition" "setOf" "[I" .null := D2382 (Or.inr (own_w hw 19 rfl)) (ty := (.array .int)) (by decide)
  have F2392 : Fld Z h2382 a2382 "com/example/libhedge/libhedge/RefinablePartition" "first" "[I" .null := D2382 (Or.inr (own_w hw 25 rfl)) (ty := (.array .int)) (by decide)
  have F2393 : Fld Z h2382 a2382 "com/example/libhedge/libhedge/RefinablePartition" "end" "[I" .null := D2382 (Or.inr (own_w hw 27 rfl)) (ty := (.array .int)) (by decide)
  have F2394 : Fld Z h2382 a2382 "com/example/libhedge/libhedge/RefinablePartition" "unmarked" "[I" .null := D2382 (Or.inr (own_w hw 29 rfl)) (ty := (.array .int)) (by decide)
  have F2395 : Fld Z h2382 a2382 "com/example/libhedge/libhedge/RefinablePartition" "touched" "[I" .null := D2382 (Or.inr (own_w hw 31 rfl)) (ty := (.array .int)) (by decide)
  have F2396 : Fld Z h2382 a2382 "com/example/libhedge/libhedge/RefinablePartition" "setCount" "I" (.int (0 : Int32)) := D2382 (Or.inl (own_w hw 33 rfl)) (ty := .int) (by decide)
  have F2397 : Fld Z h2382 a2382 "com/example/libhedge/libhedge/RefinablePartition" "touchedCount" "I" (.int (0 : Int32)) := D2382 (Or.inl (own_w hw 49 rfl)) (ty := .int) (by decide)
  have w1 : @LT.lt Nat _ a2347 a2382 := by rw [g2382]; exact V2378.lt
  refine own_dup X2382 hx (hb hby at_92) rfl 93 rfl ?_
  refine own_iconst X2382 hx (hb hby at_93) (5 : Int32) rfl 94 rfl ?_
  refine own_newI X2382 hx hZ (own_w hw 0 rfl) e2382 (hb hby at_94) 5 rfl 5 (by decide) (by decide) (by decide) (by decide) 96 rfl (fun T2398 h2398 a2398 g2398 X2398 e2398 E2398 V2398 => ?_)
  have ne2399 : a2319 ≠ a2398 := by rw [g2398]; exact Nat.ne_of_lt V2387.lt
  have ne2400 : a2347 ≠ a2398 := by rw [g2398]; exact Nat.ne_of_lt V2388.lt
  have ne2401 : a2382 ≠ a2398 := by rw [g2398]; exact Nat.ne_of_lt A2382.lt
  have ge2402 : n0 ≤ a2398 := by rw [g2398]; exact Z2386
  have Z2403 : n0 ≤ h2398.size := Nat.le_trans Z2386 E2398.1
  have V2404 := V2387.ext E2398
  have V2405 := V2388.ext E2398
  have E2406 := A2382.ext E2398
  have F2407 := F2389.ext E2398
  have F2408 := F2390.ext E2398
  have F2409 := F2391.ext E2398
  have F2410 := F2392.ext E2398
  have F2411 := F2393.ext E2398
  have F2412 := F2394.ext E2398
  have F2413 := F2395.ext E2398
  have F2414 := F2396.ext E2398
  have F2415 := F2397.ext E2398
  rw [show (List.replicate 5 (0 : Int32)) = (own_M [0, 0, 0, 0, 0]) from rfl] at V2398
  have w2 : @LT.lt Nat _ a2382 a2398 := by rw [g2398]; exact A2382.lt
  refine own_dup X2398 hx (hb hby at_96) rfl 97 rfl ?_
  refine own_iconst X2398 hx (hb hby at_97) (0 : Int32) rfl 98 rfl ?_
  refine own_aloadN X2398 hx (hb hby at_98) rfl rfl 99 rfl ?_
  refine own_iconst X2398 hx (hb hby at_99) (0 : Int32) rfl 100 rfl ?_
  refine own_iaload X2398 hx hZ e2398 V2404 0 rfl (Int32.ofNat k0) rfl (hb hby at_100) 101 rfl ?_
  refine own_iastore X2398 hx hZ e2398 V2398 0 rfl (by show 0 < 5; decide) (hb hby at_101) 102 rfl (fun T2416 h2416 X2416 e2416 W2416 V2416 => ?_)
  rw [show (own_M [0, 0, 0, 0, 0]).set 0 (Int32.ofNat k0) = (own_M [k0, 0, 0, 0, 0]) from rfl] at V2416
  have N2417 := Fr.snoc X2416 N2379 ge2402
  have Z2418 : n0 ≤ h2416.size := by rw [W2416.size]; exact Z2403
  have V2419 := V2404.other W2416 ne2399
  have V2420 := V2405.other W2416 ne2400
  have E2421 := E2406.wr W2416
  have F2422 := F2407.other W2416 (Or.inl ne2401)
  have F2423 := F2408.other W2416 (Or.inl ne2401)
  have F2424 := F2409.other W2416 (Or.inl ne2401)
  have F2425 := F2410.other W2416 (Or.inl ne2401)
  have F2426 := F2411.other W2416 (Or.inl ne2401)
  have F2427 := F2412.other W2416 (Or.inl ne2401)
  have F2428 := F2413.other W2416 (Or.inl ne2401)
  have F2429 := F2414.other W2416 (Or.inl ne2401)
  have F2430 := F2415.other W2416 (Or.inl ne2401)
  refine own_dup X2416 hx (hb hby at_102) rfl 103 rfl ?_
  refine own_iconst X2416 hx (hb hby at_103) (1 : Int32) rfl 104 rfl ?_
  refine own_aloadN X2416 hx (hb hby at_104) rfl rfl 105 rfl ?_
  refine own_iconst X2416 hx (hb hby at_105) (1 : Int32) rfl 106 rfl ?_
  refine own_iaload X2416 hx hZ e2416 V2419 1 rfl (Int32.ofNat k1) rfl (hb hby at_106) 107 rfl ?_
  refine own_iastore X2416 hx hZ e2416 V2416 1 rfl (by show 1 < 5; decide) (hb hby at_107) 108 rfl (fun T2431 h2431 X2431 e2431 W2431 V2431 => ?_)
  rw [show (own_M [k0, 0, 0, 0, 0]).set 1 (Int32.ofNat k1) = (own_M [k0, k1, 0, 0, 0]) from rfl] at V2431
  have N2432 := Fr.snoc X2431 N2417 ge2402
  have Z2433 : n0 ≤ h2431.size := by rw [W2431.size]; exact Z2418
  have V2434 := V2419.other W2431 ne2399
  have V2435 := V2420.other W2431 ne2400
  have E2436 := E2421.wr W2431
  have F2437 := F2422.other W2431 (Or.inl ne2401)
  have F2438 := F2423.other W2431 (Or.inl ne2401)
  have F2439 := F2424.other W2431 (Or.inl ne2401)
  have F2440 := F2425.other W2431 (Or.inl ne2401)
  have F2441 := F2426.other W2431 (Or.inl ne2401)
  have F2442 := F2427.other W2431 (Or.inl ne2401)
  have F2443 := F2428.other W2431 (Or.inl ne2401)
  have F2444 := F2429.other W2431 (Or.inl ne2401)
  have F2445 := F2430.other W2431 (Or.inl ne2401)
  refine own_dup X2431 hx (hb hby at_108) rfl 109 rfl ?_
  refine own_iconst X2431 hx (hb hby at_109) (2 : Int32) rfl 110 rfl ?_
  refine own_aloadN X2431 hx (hb hby at_110) rfl rfl 111 rfl ?_
  refine own_iconst X2431 hx (hb hby at_111) (2 : Int32) rfl 112 rfl ?_
  refine own_iaload X2431 hx hZ e2431 V2434 2 rfl (Int32.ofNat k2) rfl (hb hby at_112) 113 rfl ?_
  refine own_iastore X2431 hx hZ e2431 V2431 2 rfl (by show 2 < 5; decide) (hb hby at_113) 114 rfl (fun T2446 h2446 X2446 e2446 W2446 V2446 => ?_)
  rw [show (own_M [k0, k1, 0, 0, 0]).set 2 (Int32.ofNat k2) = (own_M [k0, k1, k2, 0, 0]) from rfl] at V2446
  have N2447 := Fr.snoc X2446 N2432 ge2402
  have Z2448 : n0 ≤ h2446.size := by rw [W2446.size]; exact Z2433
  have V2449 := V2434.other W2446 ne2399
  have V2450 := V2435.other W2446 ne2400
  have E2451 := E2436.wr W2446
  have F2452 := F2437.other W2446 (Or.inl ne2401)
  have F2453 := F2438.other W2446 (Or.inl ne2401)
  have F2454 := F2439.other W2446 (Or.inl ne2401)
  have F2455 := F2440.other W2446 (Or.inl ne2401)
  have F2456 := F2441.other W2446 (Or.inl ne2401)
  have F2457 := F2442.other W2446 (Or.inl ne2401)
  have F2458 := F2443.other W2446 (Or.inl ne2401)
  have F2459 := F2444.other W2446 (Or.inl ne2401)
  have F2460 := F2445.other W2446 (Or.inl ne2401)
  refine own_dup X2446 hx (hb hby at_114) rfl 115 rfl ?_
  refine own_iconst X2446 hx (hb hby at_115) (3 : Int32) rfl 116 rfl ?_
  refine own_aloadN X2446 hx (hb hby at_116) rfl rfl 117 rfl ?_
  refine own_iconst X2446 hx (hb hby at_117) (3 : Int32) rfl 118 rfl ?_
  refine own_iaload X2446 hx hZ e2446 V2449 3 rfl (Int32.ofNat k3) rfl (hb hby at_118) 119 rfl ?_
  refine own_iastore X2446 hx hZ e2446 V2446 3 rfl (by show 3 < 5; decide) (hb hby at_119) 120 rfl (fun T2461 h2461 X2461 e2461 W2461 V2461 => ?_)
  rw [show (own_M [k0, k1, k2, 0, 0]).set 3 (Int32.ofNat k3) = (own_M [k0, k1, k2, k3, 0]) from rfl] at V2461
  have N2462 := Fr.snoc X2461 N2447 ge2402
  have Z2463 : n0 ≤ h2461.size := by rw [W2461.size]; exact Z2448
  have V2464 := V2449.other W2461 ne2399
  have V2465 := V2450.other W2461 ne2400
  have E2466 := E2451.wr W2461
  have F2467 := F2452.other W2461 (Or.inl ne2401)
  have F2468 := F2453.other W2461 (Or.inl ne2401)
  have F2469 := F2454.other W2461 (Or.inl ne2401)
  have F2470 := F2455.other W2461 (Or.inl ne2401)
  have F2471 := F2456.other W2461 (Or.inl ne2401)
  have F2472 := F2457.other W2461 (Or.inl ne2401)
  have F2473 := F2458.other W2461 (Or.inl ne2401)
  have F2474 := F2459.other W2461 (Or.inl ne2401)
  have F2475 := F2460.other W2461 (Or.inl ne2401)
  refine own_dup X2461 hx (hb hby at_120) rfl 121 rfl ?_
  refine own_iconst X2461 hx (hb hby at_121) (4 : Int32) rfl 122 rfl ?_
  refine own_aloadN X2461 hx (hb hby at_122) rfl rfl 123 rfl ?_
  refine own_iconst X2461 hx (hb hby at_123) (4 : Int32) rfl 124 rfl ?_
  refine own_iaload X2461 hx hZ e2461 V2464 4 rfl (Int32.ofNat k4) rfl (hb hby at_124) 125 rfl ?_
  refine own_iastore X2461 hx hZ e2461 V2461 4 rfl (by show 4 < 5; decide) (hb hby at_125) 126 rfl (fun T2476 h2476 X2476 e2476 W2476 V2476 => ?_)
  rw [show (own_M [k0, k1, k2, k3, 0]).set 4 (Int32.ofNat k4) = (own_M [k0, k1, k2, k3, k4]) from rfl] at V2476
  have N2477 := Fr.snoc X2476 N2462 ge2402
  have Z2478 : n0 ≤ h2476.size := by rw [W2476.size]; exact Z2463
  have V2479 := V2464.other W2476 ne2399
  have V2480 := V2465.other W2476 ne2400
  have E2481 := E2466.wr W2476
  have F2482 := F2467.other W2476 (Or.inl ne2401)
  have F2483 := F2468.other W2476 (Or.inl ne2401)
  have F2484 := F2469.other W2476 (Or.inl ne2401)
  have F2485 := F2470.other W2476 (Or.inl ne2401)
  have F2486 := F2471.other W2476 (Or.inl ne2401)
  have F2487 := F2472.other W2476 (Or.inl ne2401)
  have F2488 := F2473.other W2476 (Or.inl ne2401)
  have F2489 := F2474.other W2476 (Or.inl ne2401)
  have F2490 := F2475.other W2476 (Or.inl ne2401)
  refine own_iconst X2476 hx (hb hby at_126) (2 : Int32) rfl 127 rfl ?_
  obtain ⟨⟨el0, pl0, so0, fi0, en0, un0, to0, cnt0, tc0⟩, hn2491, hs2491⟩ := own_be hsA
  refine own_callI X2476 hx hZ rfl hown (own_w hw 8 rfl) (own_w hw 9 rfl) (own_w hw 7 rfl) (own_w hw 10 rfl) (by decide) e2476 (rmC l Z a0 hw [] a2319 a2347 a2382 a2398 k0 k1 k2 k3 k4 [k0, k1, k2, k3, k4] [m0, m1, m2, m3, m4] el0 pl0 so0 fi0 en0 un0 to0 cnt0 tc0 h2476 n0 Z2478 ge2320 ⟨w0, w1, w2⟩ E2481 F2482 F2483 F2484 F2485 F2486 F2487 F2488 F2489 F2490 V2479 V2480 V2476 hn2491) (by rw [hml]; rfl) pd_3 (argsL := [(.ref a2398), (.int (2 : Int32))]) rfl (rest := [(.ref a2382)]) rfl (hb hby at_127) 1 (Nat.le_of_eq rfl) (by decide) (by decide) (by decide) (by decide) 130 rfl (fun T2492 L2492 v2492 X2492 hQ2492 => ?_)
  obtain ⟨el_, pl_, so_, fi_, en_, un_, to_, hQ2492⟩ := hQ2492
  obtain ⟨rfl, N2492, Z2492, hord, B2492⟩ := hQ2492
  have N2493 := Fr.app N2477 N2492
  obtain ⟨o0_, o1_, o2_, o3_, o4_, o5_, o6_, o7_, o8_⟩ := id hord
  obtain ⟨E2492, F0_2492, F1_2492, F2_2492, F3_2492, F4_2492, F5_2492, F6_2492, F7_2492, F8_2492, V0_2492, V1_2492, V2_2492, V3_2492, V4_2492, V5_2492, V6_2492, V7_2492, V8_2492⟩ := B2492
  have ga : n0 ≤ a2319 := ge2320
  have ga' : @LE.le Nat _ n0 a2319 := ga
  show own_Go p e below G (T2492.setTop (mkF m 130 #[.val (.int v0), .val (.int v1), .val (.int v2), .val (.ref a2319), .val (.ref a2347), .unset, .unset, .unset, .unset, .unset, .unset, .unset, .unset, .unset, .unset, .unset, .unset, .unset, .unset, .unset, .unset, .unset, .unset, .unset, .unset, .unset, .unset, .unset, .unset, .unset, .unset] [(.ref a2382)]))
  refine own_astore X2492 hx (hb hby at_130) rfl #[.val (.int v0), .val (.int v1), .val (.int v2), .val (.ref a2319), .val (.ref a2347), .val (.ref a2382), .unset, .unset, .unset, .unset, .unset, .unset, .unset, .unset, .unset, .unset, .unset, .unset, .unset, .unset, .unset, .unset, .unset, .unset, .unset, .unset, .unset, .unset, .unset, .unset, .unset] rfl 132 rfl ?_
  have km5 : ∀ (el pl so fi en un to : List Nat) (cnt tc : Nat) (T2494 : State) (h2494 : Heap) (lc2494 : List Loc), own_out 6 el pl so fi en un to cnt tc 0 = some ⟨el6, pl6, so6, fi6, en6, un6, to6, cnt6, tc6⟩ → Stand p l e room_1 s m #[.int v0, .int v1, .int v2] below meth c T2494 lc2494 14 67 → T2494.heap = h2494 → Fr n0 lc2494 → n0 ≤ h2494.size → Exa Z h2494 a2382 "com/example/libhedge/libhedge/RefinablePartition" → Fld Z h2494 a2382 "com/example/libhedge/libhedge/RefinablePartition" "elements" "[I" (.ref el_) → Fld Z h2494 a2382 "com/example/libhedge/libhedge/RefinablePartition" "placeOf" "[I" (.ref pl_) → Fld Z h2494 a2382 "com/example/libhedge/libhedge/RefinablePartition" "setOf" "[I" (.ref so_) → Fld Z h2494 a2382 "com/example/libhedge/libhedge/RefinablePartition" "first" "[I" (.ref fi_) → Fld Z h2494 a2382 "com/example/libhedge/libhedge/RefinablePartition" "end" "[I" (.ref en_) → Fld Z h2494 a2382 "com/example/libhedge/libhedge/RefinablePartition" "unmarked" "[I" (.ref un_) → Fld Z h2494 a2382 "com/example/libhedge/libhedge/RefinablePartition" "touched" "[I" (.ref to_) → Fld Z h2494 a2382 "com/example/libhedge/libhedge/RefinablePartition" "setCount" "I" (.int (Int32.ofNat cnt)) → Fld Z h2494 a2382 "com/example/libhedge/libhedge/RefinablePartition" "touchedCount" "I" (.int (Int32.ofNat tc)) → own_A .int Value.int Z h2494 a2319 (own_M [k0, k1, k2, k3, k4]) → own_A .int Value.int Z h2494 a2347 (own_M [m0, m1, m2, m3, m4]) → own_A .int Value.int Z h2494 el_ (own_M el) → own_A .int Value.int Z h2494 pl_ (own_M pl) → own_A .int Value.int Z h2494 so_ (own_M so) → own_A .int Value.int Z h2494 fi_ (own_M fi) → own_A .int Value.int Z h2494 en_ (own_M en) → own_A .int Value.int Z h2494 un_ (own_M un) → own_A .int Value.int Z h2494 to_ (own_M to) → own_Go p e below G (T2494.setTop (mkF m 202 #[.val (.int v0), .val (.int v1), .val (.int v2), .val (.ref a2319), .val (.ref a2347), .val (.ref a2382), .unset, .unset, .unset, .unset, .unset, .unset, .unset, .unset, .unset, .unset, .unset, .unset, .unset, .unset, .unset, .unset, .unset, .unset, .unset, .unset, .unset, .unset, .unset, .unset, .unset] [])) := by
    intro el pl so fi en un to cnt tc T2494 h2494 lc2494 hs2494 X2494 e2494 N2494 Z2494 J0_2494 J1_2494 J2_2494 J3_2494 J4_2494 J5_2494 J6_2494 J7_2494 J8_2494 J9_2494 J10_2494 J11_2494 J12_2494 J13_2494 J14_2494 J15_2494 J16_2494 J17_2494 J18_2494
    refine own_aload X2494 hx (hb hby at_202) rfl rfl 204 rfl ?_
    refine own_callV X2494 hx hZ hown (own_w hw 54 rfl) (own_w hw 55 rfl) (own_w hw 57 rfl) (notFace_of_selects (args := #[]) (mvT hZ (own_w hw 57 rfl))) (own_w hw 56 rfl) (own_w hw 7 rfl) (own_w hw 58 rfl) (by decide) e2494 J0_2494 (rmSplit l Z a0 hw [] a2319 a2347 a2382 el_ pl_ so_ fi_ en_ un_ to_ [k0, k1, k2, k3, k4] [m0, m1, m2, m3, m4] el pl so fi en un to cnt tc el6 pl6 so6 fi6 en6 un6 to6 cnt6 tc6 h2494 n0 Z2494 ga hord ⟨J0_2494, J1_2494, J2_2494, J3_2494, J4_2494, J5_2494, J6_2494, J7_2494, J8_2494, J9_2494, J10_2494, J11_2494, J12_2494, J13_2494, J14_2494, J15_2494, J16_2494, J17_2494, J18_2494⟩ hs2494) (by rw [hml]; rfl) pd_4 (argsL := []) rfl (rest := []) rfl (hb hby at_204) 0 (Nat.le_of_eq rfl) (by decide) (by decide) (by decide) (by decide) 207 rfl (fun T2495 L2495 v2495 X2495 hQ2495 => ?_)
    obtain ⟨rfl, N2495, Z2495, B2495⟩ := hQ2495
    have N2496 := Fr.app N2494 N2495
    obtain ⟨E2495, F0_2495, F1_2495, F2_2495, F3_2495, F4_2495, F5_2495, F6_2495, F7_2495, F8_2495, V0_2495, V1_2495, V2_2495, V3_2495, V4_2495, V5_2495, V6_2495, V7_2495, V8_2495⟩ := B2495
    show own_Go p e below G (T2495.setTop (mkF m 207 #[.val (.int v0), .val (.int v1), .val (.int v2), .val (.ref a2319), .val (.ref a2347), .val (.ref a2382), .unset, .unset, .unset, .unset, .unset, .unset, .unset, .unset, .unset, .unset, .unset, .unset, .unset, .unset, .unset, .unset, .unset, .unset, .unset, .unset, .unset, .unset, .unset, .unset, .unset] []))
    refine own_aloadN X2495 hx (hb hby at_207) rfl rfl 208 rfl ?_
    refine own_iconst X2495 hx (hb hby at_208) (0 : Int32) rfl 209 rfl ?_
    refine own_iaload X2495 hx hZ (rfl : T2495.heap = T2495.heap) V0_2495 0 rfl (Int32.ofNat k0) rfl (hb hby at_209) 210 rfl ?_
    refine own_aloadN X2495 hx (hb hby at_210) rfl rfl 211 rfl ?_
    refine own_iconst X2495 hx (hb hby at_211) (1 : Int32) rfl 212 rfl ?_
    refine own_iaload X2495 hx hZ (rfl : T2495.heap = T2495.heap) V0_2495 1 rfl (Int32.ofNat k1) rfl (hb hby at_212) 213 rfl ?_
    refine own_iaddE X2495 hx (hb hby at_213) (Int32.ofNat (k0 + k1)) (own_addN k0 k1) 214 rfl ?_
    refine own_aloadN X2495 hx (hb hby at_214) rfl rfl 215 rfl ?_
    refine own_iconst X2495 hx (hb hby at_215) (2 : Int32) rfl 216 rfl ?_
    refine own_iaload X2495 hx hZ (rfl : T2495.heap = T2495.heap) V0_2495 2 rfl (Int32.ofNat k2) rfl (hb hby at_216) 217 rfl ?_
    refine own_iaddE X2495 hx (hb hby at_217) (Int32.ofNat ((k0 + k1) + k2)) (own_addN (k0 + k1) k2) 218 rfl ?_
    refine own_aloadN X2495 hx (hb hby at_218) rfl rfl 219 rfl ?_
    refine own_iconst X2495 hx (hb hby at_219) (3 : Int32) rfl 220 rfl ?_
    refine own_iaload X2495 hx hZ (rfl : T2495.heap = T2495.heap) V0_2495 3 rfl (Int32.ofNat k3) rfl (hb hby at_220) 221 rfl ?_
    refine own_iaddE X2495 hx (hb hby at_221) (Int32.ofNat (((k0 + k1) + k2) + k3)) (own_addN ((k0 + k1) + k2) k3) 222 rfl ?_
    refine own_aloadN X2495 hx (hb hby at_222) rfl rfl 223 rfl ?_
    refine own_iconst X2495 hx (hb hby at_223) (4 : Int32) rfl 224 rfl ?_
    refine own_iaload X2495 hx hZ (rfl : T2495.heap = T2495.heap) V0_2495 4 rfl (Int32.ofNat k4) rfl (hb hby at_224) 225 rfl ?_
    refine own_iaddE X2495 hx (hb hby at_225) (Int32.ofNat ((((k0 + k1) + k2) + k3) + k4)) (own_addN (((k0 + k1) + k2) + k3) k4) 226 rfl ?_
    obtain ⟨n2497, hn2497, hs2497⟩ := own_be hsB
    rw [show Int32.ofNat ((((k0 + k1) + k2) + k3) + k4) = Int32.ofNat n2497 from congrArg Int32.ofNat (Option.some.inj hn2497)]
    refine own_istore X2495 hx (hb hby at_226) #[.val (.int v0), .val (.int v1), .val (.int v2), .val (.ref a2319), .val (.ref a2347), .val (.ref a2382), .val (.int (Int32.ofNat n2497)), .unset, .unset, .unset, .unset, .unset, .unset, .unset, .unset, .unset, .unset, .unset, .unset, .unset, .unset, .unset, .unset, .unset, .unset, .unset, .unset, .unset, .unset, .unset, .unset] rfl 228 rfl ?_
    refine own_iconst X2495 hx (hb hby at_228) (5 : Int32) rfl 229 rfl ?_
    refine own_iload X2495 hx (hb hby at_229) rfl 231 rfl ?_
    obtain ⟨hg2498, hs2498⟩ := own_ifE hs2497
    refine own_isubE X2495 hx (hb hby at_231) (Int32.ofNat (5 - n2497)) (own_subN hg2498) 232 rfl ?_
    obtain ⟨n2499, hn2499, hs2499⟩ := own_be hs2498
    rw [show Int32.ofNat (5 - n2497) = Int32.ofNat n2499 from congrArg Int32.ofNat (Option.some.inj hn2499)]
    refine own_istore X2495 hx (hb hby at_232) #[.val (.int v0), .val (.int v1), .val (.int v2), .val (.ref a2319), .val (.ref a2347), .val (.ref a2382), .val (.int (Int32.ofNat n2497)), .val (.int (Int32.ofNat n2499)), .unset, .unset, .unset, .unset, .unset, .unset, .unset, .unset, .unset, .unset, .unset, .unset, .unset, .unset, .unset, .unset, .unset, .unset, .unset, .unset, .unset, .unset, .unset] rfl 234 rfl ?_
    refine own_aloadN X2495 hx (hb hby at_234) rfl rfl 235 rfl ?_
    refine own_iconst X2495 hx (hb hby at_235) (0 : Int32) rfl 236 rfl ?_
    refine own_iaload X2495 hx hZ (rfl : T2495.heap = T2495.heap) V0_2495 0 rfl (Int32.ofNat k0) rfl (hb hby at_236) 237 rfl ?_
    refine own_aload X2495 hx (hb hby at_237) rfl rfl 239 rfl ?_
    refine own_iconst X2495 hx (hb hby at_239) (0 : Int32) rfl 240 rfl ?_
    refine own_iaload X2495 hx hZ (rfl : T2495.heap = T2495.heap) V1_2495 0 rfl (Int32.ofNat m0) rfl (hb hby at_240) 241 rfl ?_
    refine own_iandE X2495 hx (hb hby at_241) (Int32.ofNat (k0 &&& m0)) (own_andN k0 m0) 242 rfl ?_
    refine own_aloadN X2495 hx (hb hby at_242) rfl rfl 243 rfl ?_
    refine own_iconst X2495 hx (hb hby at_243) (1 : Int32) rfl 244 rfl ?_
    refine own_iaload X2495 hx hZ (rfl : T2495.heap = T2495.heap) V0_2495 1 rfl (Int32.ofNat k1) rfl (hb hby at_244) 245 rfl ?_
    refine own_aload X2495 hx (hb hby at_245) rfl rfl 247 rfl ?_
    refine own_iconst X2495 hx (hb hby at_247) (1 : Int32) rfl 248 rfl ?_
    refine own_iaload X2495 hx hZ (rfl : T2495.heap = T2495.heap) V1_2495 1 rfl (Int32.ofNat m1) rfl (hb hby at_248) 249 rfl ?_
    refine own_iandE X2495 hx (hb hby at_249) (Int32.ofNat (k1 &&& m1)) (own_andN k1 m1) 250 rfl ?_
    refine own_iaddE X2495 hx (hb hby at_250) (Int32.ofNat ((k0 &&& m0) + (k1 &&& m1))) (own_addN (k0 &&& m0) (k1 &&& m1)) 251 rfl ?_
    refine own_aloadN X2495 hx (hb hby at_251) rfl rfl 252 rfl ?_
    refine own_iconst X2495 hx (hb hby at_252) (2 : Int32) rfl 253 rfl ?_
    refine own_iaload X2495 hx hZ (rfl : T2495.heap = T2495.heap) V0_2495 2 rfl (Int32.ofNat k2) rfl (hb hby at_253) 254 rfl ?_
    refine own_aload X2495 hx (hb hby at_254) rfl rfl 256 rfl ?_
    refine own_iconst X2495 hx (hb hby at_256) (2 : Int32) rfl 257 rfl ?_
    refine own_iaload X2495 hx hZ (rfl : T2495.heap = T2495.heap) V1_2495 2 rfl (Int32.ofNat m2) rfl (hb hby at_257) 258 rfl ?_
    refine own_iandE X2495 hx (hb hby at_258) (Int32.ofNat (k2 &&& m2)) (own_andN k2 m2) 259 rfl ?_
    refine own_iaddE X2495 hx (hb hby at_259) (Int32.ofNat (((k0 &&& m0) + (k1 &&& m1)) + (k2 &&& m2))) (own_addN ((k0 &&& m0) + (k1 &&& m1)) (k2 &&& m2)) 260 rfl ?_
    refine own_aloadN X2495 hx (hb hby at_260) rfl rfl 261 rfl ?_
    refine own_iconst X2495 hx (hb hby at_261) (3 : Int32) rfl 262 rfl ?_
    refine own_iaload X2495 hx hZ (rfl : T2495.heap = T2495.heap) V0_2495 3 rfl (Int32.ofNat k3) rfl (hb hby at_262) 263 rfl ?_
    refine own_aload X2495 hx (hb hby at_263) rfl rfl 265 rfl ?_
    refine own_iconst X2495 hx (hb hby at_265) (3 : Int32) rfl 266 rfl ?_
    refine own_iaload X2495 hx hZ (rfl : T2495.heap = T2495.heap) V1_2495 3 rfl (Int32.ofNat m3) rfl (hb hby at_266) 267 rfl ?_
    refine own_iandE X2495 hx (hb hby at_267) (Int32.ofNat (k3 &&& m3)) (own_andN k3 m3) 268 rfl ?_
    refine own_iaddE X2495 hx (hb hby at_268) (Int32.ofNat ((((k0 &&& m0) + (k1 &&& m1)) + (k2 &&& m2)) + (k3 &&& m3))) (own_addN (((k0 &&& m0) + (k1 &&& m1)) + (k2 &&& m2)) (k3 &&& m3)) 269 rfl ?_
    refine own_aloadN X2495 hx (hb hby at_269) rfl rfl 270 rfl ?_
    refine own_iconst X2495 hx (hb hby at_270) (4 : Int32) rfl 271 rfl ?_
    refine own_iaload X2495 hx hZ (rfl : T2495.heap = T2495.heap) V0_2495 4 rfl (Int32.ofNat k4) rfl (hb hby at_271) 272 rfl ?_
    refine own_aload X2495 hx (hb hby at_272) rfl rfl 274 rfl ?_
    refine own_iconst X2495 hx (hb hby at_274) (4 : Int32) rfl 275 rfl ?_
    refine own_iaload X2495 hx hZ (rfl : T2495.heap = T2495.heap) V1_2495 4 rfl (Int32.ofNat m4) rfl (hb hby at_275) 276 rfl ?_
    refine own_iandE X2495 hx (hb hby at_276) (Int32.ofNat (k4 &&& m4)) (own_andN k4 m4) 277 rfl ?_
    refine own_iaddE X2495 hx (hb hby at_277) (Int32.ofNat (((((k0 &&& m0) + (k1 &&& m1)) + (k2 &&& m2)) + (k3 &&& m3)) + (k4 &&& m4))) (own_addN ((((k0 &&& m0) + (k1 &&& m1)) + (k2 &&& m2)) + (k3 &&& m3)) (k4 &&& m4)) 278 rfl ?_
    obtain ⟨n2500, hn2500, hs2500⟩ := own_be hs2499
    rw [show Int32.ofNat (((((k0 &&& m0) + (k1 &&& m1)) + (k2 &&& m2)) + (k3 &&& m3)) + (k4 &&& m4)) = Int32.ofNat n2500 from congrArg Int32.ofNat (Option.some.inj hn2500)]
    refine own_istore X2495 hx (hb hby at_278) #[.val (.int v0), .val (.int v1), .val (.int v2), .val (.ref a2319), .val (.ref a2347), .val (.ref a2382), .val (.int (Int32.ofNat n2497)), .val (.int (Int32.ofNat n2499)), .val (.int (Int32.ofNat n2500)), .unset, .unset, .unset, .unset, .unset, .unset, .unset, .unset, .unset, .unset, .unset, .unset, .unset, .unset, .unset, .unset, .unset, .unset, .unset, .unset, .unset, .unset] rfl 280 rfl ?_
    refine own_aload X2495 hx (hb hby at_280) rfl rfl 282 rfl ?_
    refine own_iconst X2495 hx (hb hby at_282) (0 : Int32) rfl 283 rfl ?_
    refine own_iaload X2495 hx hZ (rfl : T2495.heap = T2495.heap) V1_2495 0 rfl (Int32.ofNat m0) rfl (hb hby at_283) 284 rfl ?_
    refine own_aload X2495 hx (hb hby at_284) rfl rfl 286 rfl ?_
    refine own_iconst X2495 hx (hb hby at_286) (1 : Int32) rfl 287 rfl ?_
    refine own_iaload X2495 hx hZ (rfl : T2495.heap = T2495.heap) V1_2495 1 rfl (Int32.ofNat m1) rfl (hb hby at_287) 288 rfl ?_
    refine own_iaddE X2495 hx (hb hby at_288) (Int32.ofNat (m0 + m1)) (own_addN m0 m1) 289 rfl ?_
    refine own_aload X2495 hx (hb hby at_289) rfl rfl 291 rfl ?_
    refine own_iconst X2495 hx (hb hby at_291) (2 : Int32) rfl 292 rfl ?_
    refine own_iaload X2495 hx hZ (rfl : T2495.heap = T2495.heap) V1_2495 2 rfl (Int32.ofNat m2) rfl (hb hby at_292) 293 rfl ?_
    refine own_iaddE X2495 hx (hb hby at_293) (Int32.ofNat ((m0 + m1) + m2)) (own_addN (m0 + m1) m2) 294 rfl ?_
    refine own_aload X2495 hx (hb hby at_294) rfl rfl 296 rfl ?_
    refine own_iconst X2495 hx (hb hby at_296) (3 : Int32) rfl 297 rfl ?_
    refine own_iaload X2495 hx hZ (rfl : T2495.heap = T2495.heap) V1_2495 3 rfl (Int32.ofNat m3) rfl (hb hby at_297) 298 rfl ?_
    refine own_iaddE X2495 hx (hb hby at_298) (Int32.ofNat (((m0 + m1) + m2) + m3)) (own_addN ((m0 + m1) + m2) m3) 299 rfl ?_
    refine own_aload X2495 hx (hb hby at_299) rfl rfl 301 rfl ?_
    refine own_iconst X2495 hx (hb hby at_301) (4 : Int32) rfl 302 rfl ?_
    refine own_iaload X2495 hx hZ (rfl : T2495.heap = T2495.heap) V1_2495 4 rfl (Int32.ofNat m4) rfl (hb hby at_302) 303 rfl ?_
    refine own_iaddE X2495 hx (hb hby at_303) (Int32.ofNat ((((m0 + m1) + m2) + m3) + m4)) (own_addN (((m0 + m1) + m2) + m3) m4) 304 rfl ?_
    obtain ⟨n2501, hn2501, hs2501⟩ := own_be hs2500
    rw [show Int32.ofNat ((((m0 + m1) + m2) + m3) + m4) = Int32.ofNat n2501 from congrArg Int32.ofNat (Option.some.inj hn2501)]
    refine own_istore X2495 hx (hb hby at_304) #[.val (.int v0), .val (.int v1), .val (.int v2), .val (.ref a2319), .val (.ref a2347), .val (.ref a2382), .val (.int (Int32.ofNat n2497)), .val (.int (Int32.ofNat n2499)), .val (.int (Int32.ofNat n2500)), .val (.int (Int32.ofNat n2501)), .unset, .unset, .unset, .unset, .unset, .unset, .unset, .unset, .unset, .unset, .unset, .unset, .unset, .unset, .unset, .unset, .unset, .unset, .unset, .unset, .unset] rfl 306 rfl ?_
    refine own_iload X2495 hx (hb hby at_306) rfl 308 rfl ?_
    refine own_iload X2495 hx (hb hby at_308) rfl 310 rfl ?_
    obtain ⟨hg2502, hs2502⟩ := own_ifE hs2501
    refine own_isubE X2495 hx (hb hby at_310) (Int32.ofNat (n2501 - n2500)) (own_subN hg2502) 311 rfl ?_
    obtain ⟨n2503, hn2503, hs2503⟩ := own_be hs2502
    rw [show Int32.ofNat (n2501 - n2500) = Int32.ofNat n2503 from congrArg Int32.ofNat (Option.some.inj hn2503)]
    refine own_istore X2495 hx (hb hby at_311) #[.val (.int v0), .val (.int v1), .val (.int v2), .val (.ref a2319), .val (.ref a2347), .val (.ref a2382), .val (.int (Int32.ofNat n2497)), .val (.int (Int32.ofNat n2499)), .val (.int (Int32.ofNat n2500)), .val (.int (Int32.ofNat n2501)), .val (.int (Int32.ofNat n2503)), .unset, .unset, .unset, .unset, .unset, .unset, .unset, .unset, .unset, .unset, .unset, .unset, .unset, .unset, .unset, .unset, .unset, .unset, .unset, .unset] rfl 313 rfl ?_
    refine own_iload X2495 hx (hb hby at_313) rfl 315 rfl ?_
    refine own_iload X2495 hx (hb hby at_315) rfl 317 rfl ?_
    obtain ⟨hg2504, hs2504⟩ := own_ifE hs2503
    refine own_isubE X2495 hx (hb hby at_317) (Int32.ofNat (n2499 - n2503)) (own_subN hg2504) 318 rfl ?_
    obtain ⟨n2505, hn2505, hs2505⟩ := own_be hs2504
    rw [show Int32.ofNat (n2499 - n2503) = Int32.ofNat n2505 from congrArg Int32.ofNat (Option.some.inj hn2505)]
    refine own_istore X2495 hx (hb hby at_318) #[.val (.int v0), .val (.int v1), .val (.int v2), .val (.ref a2319), .val (.ref a2347), .val (.ref a2382), .val (.int (Int32.ofNat n2497)), .val (.int (Int32.ofNat n2499)), .val (.int (Int32.ofNat n2500)), .val (.int (Int32.ofNat n2501)), .val (.int (Int32.ofNat n2503)), .val (.int (Int32.ofNat n2505)), .unset, .unset, .unset, .unset, .unset, .unset, .unset, .unset, .unset, .unset, .unset, .unset, .unset, .unset, .unset, .unset, .unset, .unset, .unset] rfl 320 rfl ?_
    refine own_iload X2495 hx (hb hby at_320) rfl 322 rfl ?_
    refine own_iload X2495 hx (hb hby at_322) rfl 324 rfl ?_
    obtain ⟨hg2506, hs2506⟩ := own_ifE hs2505
    refine own_isubE X2495 hx (hb hby at_324) (Int32.ofNat (n2497 - n2500)) (own_subN hg2506) 325 rfl ?_
    obtain ⟨n2507, hn2507, hs2507⟩ := own_be hs2506
    rw [show Int32.ofNat (n2497 - n2500) = Int32.ofNat n2507 from congrArg Int32.ofNat (Option.some.inj hn2507)]
    obtain ⟨hg2508, hs2508⟩ := own_ifE hs2507
    refine own_istore X2495 hx (hb hby at_325) #[.val (.int v0), .val (.int v1), .val (.int v2), .val (.ref a2319), .val (.ref a2347), .val (.ref a2382), .val (.int (Int32.ofNat n2497)), .val (.int (Int32.ofNat n2499)), .val (.int (Int32.ofNat n2500)), .val (.int (Int32.ofNat n2501)), .val (.int (Int32.ofNat n2503)), .val (.int (Int32.ofNat n2505)), .val (.int (Int32.ofNat n2507)), .unset, .unset, .unset, .unset, .unset, .unset, .unset, .unset, .unset, .unset, .unset, .unset, .unset, .unset, .unset, .unset, .unset, .unset] rfl 327 rfl ?_
    refine own_iload X2495 hx (hb hby at_327) rfl 329 rfl ?_
    suffices kj2510 : ∀ u2509 : Int32, u2509 = Int32.ofNat (if 0 < n2503 then (if 0 < n2505 then 1 else 0) else 0) → own_Go p e below G (T2495.setTop (mkF m 342 #[.val (.int v0), .val (.int v1), .val (.int v2), .val (.ref a2319), .val (.ref a2347), .val (.ref a2382), .val (.int (Int32.ofNat n2497)), .val (.int (Int32.ofNat n2499)), .val (.int (Int32.ofNat n2500)), .val (.int (Int32.ofNat n2501)), .val (.int (Int32.ofNat n2503)), .val (.int (Int32.ofNat n2505)), .val (.int (Int32.ofNat n2507)), .unset, .unset, .unset, .unset, .unset, .unset, .unset, .unset, .unset, .unset, .unset, .unset, .unset, .unset, .unset, .unset, .unset, .unset] [(.int u2509)])) by
      by_cases c2511 : (0 : Int32) < (Int32.ofNat n2503)
      ·
        refine own_ifN X2495 hx (hb hby at_329) ((if0 _ _).trans (tlt c2511).2.2.2) 332 rfl ?_
        refine own_iload X2495 hx (hb hby at_332) rfl 334 rfl ?_
        by_cases c2512 : (0 : Int32) < (Int32.ofNat n2505)
        ·
          refine own_ifN X2495 hx (hb hby at_334) ((if0 _ _).trans (tlt c2512).2.2.2) 337 rfl ?_
          refine own_iconst X2495 hx (hb hby at_337) (1 : Int32) rfl 338 rfl ?_
          refine own_goto X2495 hx (hb hby at_338) 342 ⟨by decide, by decide⟩ ?_
          exact kj2510 (1 : Int32) (by rw [if_pos ((own_ltN (a := 0) (b := n2503) ⟨by omega, by omega⟩).mp c2511), if_pos ((own_ltN (a := 0) (b := n2505) ⟨by omega, by omega⟩).mp c2512)]; rfl)
        ·
          refine own_ifY X2495 hx (hb hby at_334) ((if0 _ _).trans (flt c2512).2.2.2) 341 ⟨by decide, by decide⟩ ?_
          refine own_iconst X2495 hx (hb hby at_341) (0 : Int32) rfl 342 rfl ?_
          exact kj2510 (0 : Int32) (by rw [if_pos ((own_ltN (a := 0) (b := n2503) ⟨by omega, by omega⟩).mp c2511), if_neg (fun q => c2512 ((own_ltN (a := 0) (b := n2505) ⟨by omega, by omega⟩).mpr q))]; rfl)
      ·
        refine own_ifY X2495 hx (hb hby at_329) ((if0 _ _).trans (flt c2511).2.2.2) 341 ⟨by decide, by decide⟩ ?_
        refine own_iconst X2495 hx (hb hby at_341) (0 : Int32) rfl 342 rfl ?_
        exact kj2510 (0 : Int32) (by rw [if_neg (fun q => c2511 ((own_ltN (a := 0) (b := n2503) ⟨by omega, by omega⟩).mpr q))]; rfl)
    intro u2509 hu2509
    subst hu2509
    obtain ⟨n2513, hn2513, hs2513⟩ := own_be hs2508
    rw [show Int32.ofNat (if 0 < n2503 then (if 0 < n2505 then 1 else 0) else 0) = Int32.ofNat n2513 from congrArg Int32.ofNat (Option.some.inj hn2513)]
    refine own_istore X2495 hx (hb hby at_342) #[.val (.int v0), .val (.int v1), .val (.int v2), .val (.ref a2319), .val (.ref a2347), .val (.ref a2382), .val (.int (Int32.ofNat n2497)), .val (.int (Int32.ofNat n2499)), .val (.int (Int32.ofNat n2500)), .val (.int (Int32.ofNat n2501)), .val (.int (Int32.ofNat n2503)), .val (.int (Int32.ofNat n2505)), .val (.int (Int32.ofNat n2507)), .val (.int (Int32.ofNat n2513)), .unset, .unset, .unset, .unset, .unset, .unset, .unset, .unset, .unset, .unset, .unset, .unset, .unset, .unset, .unset, .unset, .unset] rfl 344 rfl ?_
    refine own_iload X2495 hx (hb hby at_344) rfl 346 rfl ?_
    suffices kj2515 : ∀ u2514 : Int32, u2514 = Int32.ofNat (if 0 < n2500 then (if 0 < n2507 then 1 else 0) else 0) → own_Go p e below G (T2495.setTop (mkF m 359 #[.val (.int v0), .val (.int v1), .val (.int v2), .val (.ref a2319), .val (.ref a2347), .val (.ref a2382), .val (.int (Int32.ofNat n2497)), .val (.int (Int32.ofNat n2499)), .val (.int (Int32.ofNat n2500)), .val (.int (Int32.ofNat n2501)), .val (.int (Int32.ofNat n2503)), .val (.int (Int32.ofNat n2505)), .val (.int (Int32.ofNat n2507)), .val (.int (Int32.ofNat n2513)), .unset, .unset, .unset, .unset, .unset, .unset, .unset, .unset, .unset, .unset, .unset, .unset, .unset, .unset, .unset, .unset, .unset] [(.int u2514)])) by
      by_cases c2516 : (0 : Int32) < (Int32.ofNat n2500)
      ·
        refine own_ifN X2495 hx (hb hby at_346) ((if0 _ _).trans (tlt c2516).2.2.2) 349 rfl ?_
        refine own_iload X2495 hx (hb hby at_349) rfl 351 rfl ?_
        by_cases c2517 : (0 : Int32) < (Int32.ofNat n2507)
        ·
          refine own_ifN X2495 hx (hb hby at_351) ((if0 _ _).trans (tlt c2517).2.2.2) 354 rfl ?_
          refine own_iconst X2495 hx (hb hby at_354) (1 : Int32) rfl 355 rfl ?_
          refine own_goto X2495 hx (hb hby at_355) 359 ⟨by decide, by decide⟩ ?_
          exact kj2515 (1 : Int32) (by rw [if_pos ((own_ltN (a := 0) (b := n2500) ⟨by omega, by omega⟩).mp c2516), if_pos ((own_ltN (a := 0) (b := n2507) ⟨by omega, by omega⟩).mp c2517)]; rfl)
        ·
          refine own_ifY X2495 hx (hb hby at_351) ((if0 _ _).trans (flt c2517).2.2.2) 358 ⟨by decide, by decide⟩ ?_
          refine own_iconst X2495 hx (hb hby at_358) (0 : Int32) rfl 359 rfl ?_
          exact kj2515 (0 : Int32) (by rw [if_pos ((own_ltN (a := 0) (b := n2500) ⟨by omega, by omega⟩).mp c2516), if_neg (fun q => c2517 ((own_ltN (a := 0) (b := n2507) ⟨by omega, by omega⟩).mpr q))]; rfl)
      ·
        refine own_ifY X2495 hx (hb hby at_346) ((if0 _ _).trans (flt c2516).2.2.2) 358 ⟨by decide, by decide⟩ ?_
        refine own_iconst X2495 hx (hb hby at_358) (0 : Int32) rfl 359 rfl ?_
        exact kj2515 (0 : Int32) (by rw [if_neg (fun q => c2516 ((own_ltN (a := 0) (b := n2500) ⟨by omega, by omega⟩).mpr q))]; rfl)
    intro u2514 hu2514
    subst hu2514
    obtain ⟨n2518, hn2518, hs2518⟩ := own_be hs2513
    rw [show Int32.ofNat (if 0 < n2500 then (if 0 < n2507 then 1 else 0) else 0) = Int32.ofNat n2518 from congrArg Int32.ofNat (Option.some.inj hn2518)]
    refine own_istore X2495 hx (hb hby at_359) #[.val (.int v0), .val (.int v1), .val (.int v2), .val (.ref a2319), .val (.ref a2347), .val (.ref a2382), .val (.int (Int32.ofNat n2497)), .val (.int (Int32.ofNat n2499)), .val (.int (Int32.ofNat n2500)), .val (.int (Int32.ofNat n2501)), .val (.int (Int32.ofNat n2503)), .val (.int (Int32.ofNat n2505)), .val (.int (Int32.ofNat n2507)), .val (.int (Int32.ofNat n2513)), .val (.int (Int32.ofNat n2518)), .unset, .unset, .unset, .unset, .unset, .unset, .unset, .unset, .unset, .unset, .unset, .unset, .unset, .unset, .unset, .unset] rfl 361 rfl ?_
    refine own_aloadN X2495 hx (hb hby at_361) rfl rfl 362 rfl ?_
    refine own_aload X2495 hx (hb hby at_362) rfl rfl 364 rfl ?_
    refine own_iconst X2495 hx (hb hby at_364) (0 : Int32) rfl 365 rfl ?_
    refine own_callS X2495 hx hZ hown (own_w hw 59 rfl) (own_w hw 60 rfl) (own_w hw 3 rfl) (own_w hw 61 rfl) (by decide) (rfl : T2495.heap = T2495.heap) (rmFm0 l Z a0 hw [] a2319 a2347 k0 k1 k2 k3 k4 m0 m1 m2 m3 m4 T2495.heap n0 hk hm V0_2495 V1_2495) (by rw [hml]; rfl) pd_5 (argsL := [(.ref a2319), (.ref a2347), (.int (0 : Int32))]) rfl (rest := []) rfl (hb hby at_365) 0 (Nat.le_of_eq rfl) (by decide) (by decide) (by decide) (by decide) 368 rfl (fun T2519 L2519 v2519 X2519 hQ2519 => ?_)
    obtain ⟨rfl, N2519, e2519⟩ := hQ2519
    have N2520 := Fr.app N2496 N2519
    show own_Go p e below G (T2519.setTop (mkF m 368 #[.val (.int v0), .val (.int v1), .val (.int v2), .val (.ref a2319), .val (.ref a2347), .val (.ref a2382), .val (.int (Int32.ofNat n2497)), .val (.int (Int32.ofNat n2499)), .val (.int (Int32.ofNat n2500)), .val (.int (Int32.ofNat n2501)), .val (.int (Int32.ofNat n2503)), .val (.int (Int32.ofNat n2505)), .val (.int (Int32.ofNat n2507)), .val (.int (Int32.ofNat n2513)), .val (.int (Int32.ofNat n2518)), .unset, .unset, .unset, .unset, .unset, .unset, .unset, .unset, .unset, .unset, .unset, .unset, .unset, .unset, .unset, .unset] [(.int (Int32.ofNat (own_fm k0 k1 k2 k3 k4 m0 m1 m2 m3 m4 0)))]))
    obtain ⟨n2521, hn2521, hs2521⟩ := own_be hs2518
    rw [show Int32.ofNat (own_fm k0 k1 k2 k3 k4 m0 m1 m2 m3 m4 0) = Int32.ofNat n2521 from congrArg Int32.ofNat (Option.some.inj hn2521)]
    refine own_istore X2519 hx (hb hby at_368) #[.val (.int v0), .val (.int v1), .val (.int v2), .val (.ref a2319), .val (.ref a2347), .val (.ref a2382), .val (.int (Int32.ofNat n2497)), .val (.int (Int32.ofNat n2499)), .val (.int (Int32.ofNat n2500)), .val (.int (Int32.ofNat n2501)), .val (.int (Int32.ofNat n2503)), .val (.int (Int32.ofNat n2505)), .val (.int (Int32.ofNat n2507)), .val (.int (Int32.ofNat n2513)), .val (.int (Int32.ofNat n2518)), .val (.int (Int32.ofNat n2521)), .unset, .unset, .unset, .unset, .unset, .unset, .unset, .unset, .unset, .unset, .unset, .unset, .unset, .unset, .unset] rfl 370 rfl ?_
    refine own_aloadN X2519 hx (hb hby at_370) rfl rfl 371 rfl ?_
    refine own_aload X2519 hx (hb hby at_371) rfl rfl 373 rfl ?_
    refine own_iconst X2519 hx (hb hby at_373) (1 : Int32) rfl 374 rfl ?_
    refine own_callS X2519 hx hZ hown (own_w hw 59 rfl) (own_w hw 60 rfl) (own_w hw 3 rfl) (own_w hw 61 rfl) (by decide) e2519 (rmFm1 l Z a0 hw [] a2319 a2347 k0 k1 k2 k3 k4 m0 m1 m2 m3 m4 T2495.heap n0 hk hm V0_2495 V1_2495) (by rw [hml]; rfl) pd_5 (argsL := [(.ref a2319), (.ref a2347), (.int (1 : Int32))]) rfl (rest := []) rfl (hb hby at_374) 0 (Nat.le_of_eq rfl) (by decide) (by decide) (by decide) (by decide) 377 rfl (fun T2522 L2522 v2522 X2522 hQ2522 => ?_)
    obtain ⟨rfl, N2522, e2522⟩ := hQ2522
    have N2523 := Fr.app N2520 N2522
    show own_Go p e below G (T2522.setTop (mkF m 377 #[.val (.int v0), .val (.int v1), .val (.int v2), .val (.ref a2319), .val (.ref a2347), .val (.ref a2382), .val (.int (Int32.ofNat n2497)), .val (.int (Int32.ofNat n2499)), .val (.int (Int32.ofNat n2500)), .val (.int (Int32.ofNat n2501)), .val (.int (Int32.ofNat n2503)), .val (.int (Int32.ofNat n2505)), .val (.int (Int32.ofNat n2507)), .val (.int (Int32.ofNat n2513)), .val (.int (Int32.ofNat n2518)), .val (.int (Int32.ofNat n2521)), .unset, .unset, .unset, .unset, .unset, .unset, .unset, .unset, .unset, .unset, .unset, .unset, .unset, .unset, .unset] [(.int (Int32.ofNat (own_fm k0 k1 k2 k3 k4 m0 m1 m2 m3 m4 1)))]))
    obtain ⟨n2524, hn2524, hs2524⟩ := own_be hs2521
    rw [show Int32.ofNat (own_fm k0 k1 k2 k3 k4 m0 m1 m2 m3 m4 1) = Int32.ofNat n2524 from congrArg Int32.ofNat (Option.some.inj hn2524)]
    obtain ⟨hg2525, hs2525⟩ := own_ifE hs2524
    refine own_istore X2522 hx (hb hby at_377) #[.val (.int v0), .val (.int v1), .val (.int v2), .val (.ref a2319), .val (.ref a2347), .val (.ref a2382), .val (.int (Int32.ofNat n2497)), .val (.int (Int32.ofNat n2499)), .val (.int (Int32.ofNat n2500)), .val (.int (Int32.ofNat n2501)), .val (.int (Int32.ofNat n2503)), .val (.int (Int32.ofNat n2505)), .val (.int (Int32.ofNat n2507)), .val (.int (Int32.ofNat n2513)), .val (.int (Int32.ofNat n2518)), .val (.int (Int32.ofNat n2521)), .val (.int (Int32.ofNat n2524)), .unset, .unset, .unset, .unset, .unset, .unset, .unset, .unset, .unset, .unset, .unset, .unset, .unset, .unset] rfl 379 rfl ?_
    refine own_iload X2522 hx (hb hby at_379) rfl 381 rfl ?_
    suffices kj2527 : ∀ u2526 : Int32, u2526 = Int32.ofNat (if 0 < n2499 then 1 else 0) → own_Go p e below G (T2522.setTop (mkF m 389 #[.val (.int v0), .val (.int v1), .val (.int v2), .val (.ref a2319), .val (.ref a2347), .val (.ref a2382), .val (.int (Int32.ofNat n2497)), .val (.int (Int32.ofNat n2499)), .val (.int (Int32.ofNat n2500)), .val (.int (Int32.ofNat n2501)), .val (.int (Int32.ofNat n2503)), .val (.int (Int32.ofNat n2505)), .val (.int (Int32.ofNat n2507)), .val (.int (Int32.ofNat n2513)), .val (.int (Int32.ofNat n2518)), .val (.int (Int32.ofNat n2521)), .val (.int (Int32.ofNat n2524)), .unset, .unset, .unset, .unset, .unset, .unset, .unset, .unset, .unset, .unset, .unset, .unset, .unset, .unset] [(.int u2526)])) by
      by_cases c2528 : (0 : Int32) < (Int32.ofNat n2499)
      ·
        refine own_ifN X2522 hx (hb hby at_381) ((if0 _ _).trans (tlt c2528).2.2.2) 384 rfl ?_
        refine own_iconst X2522 hx (hb hby at_384) (1 : Int32) rfl 385 rfl ?_
        refine own_goto X2522 hx (hb hby at_385) 389 ⟨by decide, by decide⟩ ?_
        exact kj2527 (1 : Int32) (by rw [if_pos ((own_ltN (a := 0) (b := n2499) ⟨by omega, by omega⟩).mp c2528)]; rfl)
      ·
        refine own_ifY X2522 hx (hb hby at_381) ((if0 _ _).trans (flt c2528).2.2.2) 388 ⟨by decide, by decide⟩ ?_
        refine own_iconst X2522 hx (hb hby at_388) (0 : Int32) rfl 389 rfl ?_
        exact kj2527 (0 : Int32) (by rw [if_neg (fun q => c2528 ((own_ltN (a := 0) (b := n2499) ⟨by omega, by omega⟩).mpr q))]; rfl)
    intro u2526 hu2526
    subst hu2526
    refine own_iload X2522 hx (hb hby at_389) rfl 391 rfl ?_
    suffices kj2530 : ∀ u2529 : Int32, u2529 = Int32.ofNat (if 0 < n2497 then 1 else 0) → own_Go p e below G (T2522.setTop (mkF m 399 #[.val (.int v0), .val (.int v1), .val (.int v2), .val (.ref a2319), .val (.ref a2347), .val (.ref a2382), .val (.int (Int32.ofNat n2497)), .val (.int (Int32.ofNat n2499)), .val (.int (Int32.ofNat n2500)), .val (.int (Int32.ofNat n2501)), .val (.int (Int32.ofNat n2503)), .val (.int (Int32.ofNat n2505)), .val (.int (Int32.ofNat n2507)), .val (.int (Int32.ofNat n2513)), .val (.int (Int32.ofNat n2518)), .val (.int (Int32.ofNat n2521)), .val (.int (Int32.ofNat n2524)), .unset, .unset, .unset, .unset, .unset, .unset, .unset, .unset, .unset, .unset, .unset, .unset, .unset, .unset] [(.int u2529), (.int (Int32.ofNat (if 0 < n2499 then 1 else 0)))])) by
      by_cases c2531 : (0 : Int32) < (Int32.ofNat n2497)
      ·
        refine own_ifN X2522 hx (hb hby at_391) ((if0 _ _).trans (tlt c2531).2.2.2) 394 rfl ?_
        refine own_iconst X2522 hx (hb hby at_394) (1 : Int32) rfl 395 rfl ?_
        refine own_goto X2522 hx (hb hby at_395) 399 ⟨by decide, by decide⟩ ?_
        exact kj2530 (1 : Int32) (by rw [if_pos ((own_ltN (a := 0) (b := n2497) ⟨by omega, by omega⟩).mp c2531)]; rfl)
      ·
        refine own_ifY X2522 hx (hb hby at_391) ((if0 _ _).trans (flt c2531).2.2.2) 398 ⟨by decide, by decide⟩ ?_
        refine own_iconst X2522 hx (hb hby at_398) (0 : Int32) rfl 399 rfl ?_
        exact kj2530 (0 : Int32) (by rw [if_neg (fun q => c2531 ((own_ltN (a := 0) (b := n2497) ⟨by omega, by omega⟩).mpr q))]; rfl)
    intro u2529 hu2529
    subst hu2529
    refine own_iaddE X2522 hx (hb hby at_399) (Int32.ofNat ((if 0 < n2499 then 1 else 0) + (if 0 < n2497 then 1 else 0))) (own_addN (if 0 < n2499 then 1 else 0) (if 0 < n2497 then 1 else 0)) 400 rfl ?_
    obtain ⟨n2532, hn2532, hs2532⟩ := own_be hs2525
    rw [show Int32.ofNat ((if 0 < n2499 then 1 else 0) + (if 0 < n2497 then 1 else 0)) = Int32.ofNat n2532 from congrArg Int32.ofNat (Option.some.inj hn2532)]
    refine own_istore X2522 hx (hb hby at_400) #[.val (.int v0), .val (.int v1), .val (.int v2), .val (.ref a2319), .val (.ref a2347), .val (.ref a2382), .val (.int (Int32.ofNat n2497)), .val (.int (Int32.ofNat n2499)), .val (.int (Int32.ofNat n2500)), .val (.int (Int32.ofNat n2501)), .val (.int (Int32.ofNat n2503)), .val (.int (Int32.ofNat n2505)), .val (.int (Int32.ofNat n2507)), .val (.int (Int32.ofNat n2513)), .val (.int (Int32.ofNat n2518)), .val (.int (Int32.ofNat n2521)), .val (.int (Int32.ofNat n2524)), .val (.int (Int32.ofNat n2532)), .unset, .unset, .unset, .unset, .unset, .unset, .unset, .unset, .unset, .unset, .unset, .unset, .unset] rfl 402 rfl ?_
    refine own_iload X2522 hx (hb hby at_402) rfl 404 rfl ?_
    suffices kj2534 : ∀ u2533 : Int32, u2533 = Int32.ofNat (if 0 < n2499 then 1 else 0) → own_Go p e below G (T2522.setTop (mkF m 412 #[.val (.int v0), .val (.int v1), .val (.int v2), .val (.ref a2319), .val (.ref a2347), .val (.ref a2382), .val (.int (Int32.ofNat n2497)), .val (.int (Int32.ofNat n2499)), .val (.int (Int32.ofNat n2500)), .val (.int (Int32.ofNat n2501)), .val (.int (Int32.ofNat n2503)), .val (.int (Int32.ofNat n2505)), .val (.int (Int32.ofNat n2507)), .val (.int (Int32.ofNat n2513)), .val (.int (Int32.ofNat n2518)), .val (.int (Int32.ofNat n2521)), .val (.int (Int32.ofNat n2524)), .val (.int (Int32.ofNat n2532)), .unset, .unset, .unset, .unset, .unset, .unset, .unset, .unset, .unset, .unset, .unset, .unset, .unset] [(.int u2533)])) by
      by_cases c2535 : (0 : Int32) < (Int32.ofNat n2499)
      ·
        refine own_ifN X2522 hx (hb hby at_404) ((if0 _ _).trans (tlt c2535).2.2.2) 407 rfl ?_
        refine own_iconst X2522 hx (hb hby at_407) (1 : Int32) rfl 408 rfl ?_
        refine own_goto X2522 hx (hb hby at_408) 412 ⟨by decide, by decide⟩ ?_
        exact kj2534 (1 : Int32) (by rw [if_pos ((own_ltN (a := 0) (b := n2499) ⟨by omega, by omega⟩).mp c2535)]; rfl)
      ·
        refine own_ifY X2522 hx (hb hby at_404) ((if0 _ _).trans (flt c2535).2.2.2) 411 ⟨by decide, by decide⟩ ?_
        refine own_iconst X2522 hx (hb hby at_411) (0 : Int32) rfl 412 rfl ?_
        exact kj2534 (0 : Int32) (by rw [if_neg (fun q => c2535 ((own_ltN (a := 0) (b := n2499) ⟨by omega, by omega⟩).mpr q))]; rfl)
    intro u2533 hu2533
    subst hu2533
    obtain ⟨n2536, hn2536, hs2536⟩ := own_be hs2532
    rw [show Int32.ofNat (if 0 < n2499 then 1 else 0) = Int32.ofNat n2536 from congrArg Int32.ofNat (Option.some.inj hn2536)]
    refine own_istore X2522 hx (hb hby at_412) #[.val (.int v0), .val (.int v1), .val (.int v2), .val (.ref a2319), .val (.ref a2347), .val (.ref a2382), .val (.int (Int32.ofNat n2497)), .val (.int (Int32.ofNat n2499)), .val (.int (Int32.ofNat n2500)), .val (.int (Int32.ofNat n2501)), .val (.int (Int32.ofNat n2503)), .val (.int (Int32.ofNat n2505)), .val (.int (Int32.ofNat n2507)), .val (.int (Int32.ofNat n2513)), .val (.int (Int32.ofNat n2518)), .val (.int (Int32.ofNat n2521)), .val (.int (Int32.ofNat n2524)), .val (.int (Int32.ofNat n2532)), .val (.int (Int32.ofNat n2536)), .unset, .unset, .unset, .unset, .unset, .unset, .unset, .unset, .unset, .unset, .unset, .unset] rfl 414 rfl ?_
    refine own_iload X2522 hx (hb hby at_414) rfl 416 rfl ?_
    refine own_iload X2522 hx (hb hby at_416) rfl 418 rfl ?_
    suffices kj2538 : ∀ u2537 : Int32, u2537 = Int32.ofNat (if n2518 = 0 then 0 else (if n2524 < n2521 then 1 else 0)) → own_Go p e below G (T2522.setTop (mkF m 433 #[.val (.int v0), .val (.int v1), .val (.int v2), .val (.ref a2319), .val (.ref a2347), .val (.ref a2382), .val (.int (Int32.ofNat n2497)), .val (.int (Int32.ofNat n2499)), .val (.int (Int32.ofNat n2500)), .val (.int (Int32.ofNat n2501)), .val (.int (Int32.ofNat n2503)), .val (.int (Int32.ofNat n2505)), .val (.int (Int32.ofNat n2507)), .val (.int (Int32.ofNat n2513)), .val (.int (Int32.ofNat n2518)), .val (.int (Int32.ofNat n2521)), .val (.int (Int32.ofNat n2524)), .val (.int (Int32.ofNat n2532)), .val (.int (Int32.ofNat n2536)), .unset, .unset, .unset, .unset, .unset, .unset, .unset, .unset, .unset, .unset, .unset, .unset] [(.int u2537), (.int (Int32.ofNat n2532))])) by
      by_cases c2539 : (Int32.ofNat n2518) = (0 : Int32)
      ·
        refine own_ifY X2522 hx (hb hby at_418) ((if0 _ _).trans (teq c2539).1) 432 ⟨by decide, by decide⟩ ?_
        refine own_iconst X2522 hx (hb hby at_432) (0 : Int32) rfl 433 rfl ?_
        exact kj2538 (0 : Int32) (by rw [if_pos ((own_eqN (a := n2518) (b := 0) ⟨by omega, by omega⟩).mp c2539)]; rfl)
      ·
        refine own_ifN X2522 hx (hb hby at_418) ((if0 _ _).trans (feq c2539).1) 421 rfl ?_
        refine own_iload X2522 hx (hb hby at_421) rfl 423 rfl ?_
        refine own_iload X2522 hx (hb hby at_423) rfl 425 rfl ?_
        by_cases c2540 : (Int32.ofNat n2524) < (Int32.ofNat n2521)
        ·
          refine own_icmpN X2522 hx (hb hby at_425) (tlt c2540).2.1 428 rfl ?_
          refine own_iconst X2522 hx (hb hby at_428) (1 : Int32) rfl 429 rfl ?_
          refine own_goto X2522 hx (hb hby at_429) 433 ⟨by decide, by decide⟩ ?_
          exact kj2538 (1 : Int32) (by rw [if_neg (fun q => c2539 ((own_eqN (a := n2518) (b := 0) ⟨by omega, by omega⟩).mpr q)), if_pos ((own_ltN (a := n2524) (b := n2521) ⟨by omega, by omega⟩).mp c2540)]; rfl)
        ·
          refine own_icmpY X2522 hx (hb hby at_425) (flt c2540).2.1 432 ⟨by decide, by decide⟩ ?_
          refine own_iconst X2522 hx (hb hby at_432) (0 : Int32) rfl 433 rfl ?_
          exact kj2538 (0 : Int32) (by rw [if_neg (fun q => c2539 ((own_eqN (a := n2518) (b := 0) ⟨by omega, by omega⟩).mpr q)), if_neg (fun q => c2540 ((own_ltN (a := n2524) (b := n2521) ⟨by omega, by omega⟩).mpr q))]; rfl)
    intro u2537 hu2537
    subst hu2537
    refine own_iaddE X2522 hx (hb hby at_433) (Int32.ofNat (n2532 + (if n2518 = 0 then 0 else (if n2524 < n2521 then 1 else 0)))) (own_addN n2532 (if n2518 = 0 then 0 else (if n2524 < n2521 then 1 else 0))) 434 rfl ?_
    obtain ⟨n2541, hn2541, hs2541⟩ := own_be hs2536
    rw [show Int32.ofNat (n2532 + (if n2518 = 0 then 0 else (if n2524 < n2521 then 1 else 0))) = Int32.ofNat n2541 from congrArg Int32.ofNat (Option.some.inj hn2541)]
    refine own_istore X2522 hx (hb hby at_434) #[.val (.int v0), .val (.int v1), .val (.int v2), .val (.ref a2319), .val (.ref a2347), .val (.ref a2382), .val (.int (Int32.ofNat n2497)), .val (.int (Int32.ofNat n2499)), .val (.int (Int32.ofNat n2500)), .val (.int (Int32.ofNat n2501)), .val (.int (Int32.ofNat n2503)), .val (.int (Int32.ofNat n2505)), .val (.int (Int32.ofNat n2507)), .val (.int (Int32.ofNat n2513)), .val (.int (Int32.ofNat n2518)), .val (.int (Int32.ofNat n2521)), .val (.int (Int32.ofNat n2524)), .val (.int (Int32.ofNat n2532)), .val (.int (Int32.ofNat n2536)), .val (.int (Int32.ofNat n2541)), .unset, .unset, .unset, .unset, .unset, .unset, .unset, .unset, .unset, .unset, .unset] rfl 436 rfl ?_
    refine own_iload X2522 hx (hb hby at_436) rfl 438 rfl ?_
    refine own_iload X2522 hx (hb hby at_438) rfl 440 rfl ?_
    suffices kj2543 : ∀ u2542 : Int32, u2542 = Int32.ofNat (if n2513 = 0 then 0 else (if n2521 < n2524 then 1 else 0)) → own_Go p e below G (T2522.setTop (mkF m 455 #[.val (.int v0), .val (.int v1), .val (.int v2), .val (.ref a2319), .val (.ref a2347), .val (.ref a2382), .val (.int (Int32.ofNat n2497)), .val (.int (Int32.ofNat n2499)), .val (.int (Int32.ofNat n2500)), .val (.int (Int32.ofNat n2501)), .val (.int (Int32.ofNat n2503)), .val (.int (Int32.ofNat n2505)), .val (.int (Int32.ofNat n2507)), .val (.int (Int32.ofNat n2513)), .val (.int (Int32.ofNat n2518)), .val (.int (Int32.ofNat n2521)), .val (.int (Int32.ofNat n2524)), .val (.int (Int32.ofNat n2532)), .val (.int (Int32.ofNat n2536)), .val (.int (Int32.ofNat n2541)), .unset, .unset, .unset, .unset, .unset, .unset, .unset, .unset, .unset, .unset, .unset] [(.int u2542), (.int (Int32.ofNat n2532))])) by
      by_cases c2544 : (Int32.ofNat n2513) = (0 : Int32)
      ·
        refine own_ifY X2522 hx (hb hby at_440) ((if0 _ _).trans (teq c2544).1) 454 ⟨by decide, by decide⟩ ?_
        refine own_iconst X2522 hx (hb hby at_454) (0 : Int32) rfl 455 rfl ?_
        exact kj2543 (0 : Int32) (by rw [if_pos ((own_eqN (a := n2513) (b := 0) ⟨by omega, by omega⟩).mp c2544)]; rfl)
      ·
        refine own_ifN X2522 hx (hb hby at_440) ((if0 _ _).trans (feq c2544).1) 443 rfl ?_
        refine own_iload X2522 hx (hb hby at_443) rfl 445 rfl ?_
        refine own_iload X2522 hx (hb hby at_445) rfl 447 rfl ?_
        by_cases c2545 : (Int32.ofNat n2521) < (Int32.ofNat n2524)
        ·
          refine own_icmpN X2522 hx (hb hby at_447) (tlt c2545).2.1 450 rfl ?_
          refine own_iconst X2522 hx (hb hby at_450) (1 : Int32) rfl 451 rfl ?_
          refine own_goto X2522 hx (hb hby at_451) 455 ⟨by decide, by decide⟩ ?_
          exact kj2543 (1 : Int32) (by rw [if_neg (fun q => c2544 ((own_eqN (a := n2513) (b := 0) ⟨by omega, by omega⟩).mpr q)), if_pos ((own_ltN (a := n2521) (b := n2524) ⟨by omega, by omega⟩).mp c2545)]; rfl)
        ·
          refine own_icmpY X2522 hx (hb hby at_447) (flt c2545).2.1 454 ⟨by decide, by decide⟩ ?_
          refine own_iconst X2522 hx (hb hby at_454) (0 : Int32) rfl 455 rfl ?_
          exact kj2543 (0 : Int32) (by rw [if_neg (fun q => c2544 ((own_eqN (a := n2513) (b := 0) ⟨by omega, by omega⟩).mpr q)), if_neg (fun q => c2545 ((own_ltN (a := n2521) (b := n2524) ⟨by omega, by omega⟩).mpr q))]; rfl)
    intro u2542 hu2542
    subst hu2542
    refine own_iaddE X2522 hx (hb hby at_455) (Int32.ofNat (n2532 + (if n2513 = 0 then 0 else (if n2521 < n2524 then 1 else 0)))) (own_addN n2532 (if n2513 = 0 then 0 else (if n2521 < n2524 then 1 else 0))) 456 rfl ?_
    obtain ⟨n2546, hn2546, hs2546⟩ := own_be hs2541
    rw [show Int32.ofNat (n2532 + (if n2513 = 0 then 0 else (if n2521 < n2524 then 1 else 0))) = Int32.ofNat n2546 from congrArg Int32.ofNat (Option.some.inj hn2546)]
    refine own_istore X2522 hx (hb hby at_456) #[.val (.int v0), .val (.int v1), .val (.int v2), .val (.ref a2319), .val (.ref a2347), .val (.ref a2382), .val (.int (Int32.ofNat n2497)), .val (.int (Int32.ofNat n2499)), .val (.int (Int32.ofNat n2500)), .val (.int (Int32.ofNat n2501)), .val (.int (Int32.ofNat n2503)), .val (.int (Int32.ofNat n2505)), .val (.int (Int32.ofNat n2507)), .val (.int (Int32.ofNat n2513)), .val (.int (Int32.ofNat n2518)), .val (.int (Int32.ofNat n2521)), .val (.int (Int32.ofNat n2524)), .val (.int (Int32.ofNat n2532)), .val (.int (Int32.ofNat n2536)), .val (.int (Int32.ofNat n2541)), .val (.int (Int32.ofNat n2546)), .unset, .unset, .unset, .unset, .unset, .unset, .unset, .unset, .unset, .unset] rfl 458 rfl ?_
    refine own_iload X2522 hx (hb hby at_458) rfl 460 rfl ?_
    refine own_iload X2522 hx (hb hby at_460) rfl 462 rfl ?_
    suffices kj2548 : ∀ u2547 : Int32, u2547 = Int32.ofNat (if n2513 = 0 then 0 else 1) → own_Go p e below G (T2522.setTop (mkF m 470 #[.val (.int v0), .val (.int v1), .val (.int v2), .val (.ref a2319), .val (.ref a2347), .val (.ref a2382), .val (.int (Int32.ofNat n2497)), .val (.int (Int32.ofNat n2499)), .val (.int (Int32.ofNat n2500)), .val (.int (Int32.ofNat n2501)), .val (.int (Int32.ofNat n2503)), .val (.int (Int32.ofNat n2505)), .val (.int (Int32.ofNat n2507)), .val (.int (Int32.ofNat n2513)), .val (.int (Int32.ofNat n2518)), .val (.int (Int32.ofNat n2521)), .val (.int (Int32.ofNat n2524)), .val (.int (Int32.ofNat n2532)), .val (.int (Int32.ofNat n2536)), .val (.int (Int32.ofNat n2541)), .val (.int (Int32.ofNat n2546)), .unset, .unset, .unset, .unset, .unset, .unset, .unset, .unset, .unset, .unset] [(.int u2547), (.int (Int32.ofNat n2532))])) by
      by_cases c2549 : (Int32.ofNat n2513) = (0 : Int32)
      ·
        refine own_ifY X2522 hx (hb hby at_462) ((if0 _ _).trans (teq c2549).1) 469 ⟨by decide, by decide⟩ ?_
        refine own_iconst X2522 hx (hb hby at_469) (0 : Int32) rfl 470 rfl ?_
        exact kj2548 (0 : Int32) (by rw [if_pos ((own_eqN (a := n2513) (b := 0) ⟨by omega, by omega⟩).mp c2549)]; rfl)
      ·
        refine own_ifN X2522 hx (hb hby at_462) ((if0 _ _).trans (feq c2549).1) 465 rfl ?_
        refine own_iconst X2522 hx (hb hby at_465) (1 : Int32) rfl 466 rfl ?_
        refine own_goto X2522 hx (hb hby at_466) 470 ⟨by decide, by decide⟩ ?_
        exact kj2548 (1 : Int32) (by rw [if_neg (fun q => c2549 ((own_eqN (a := n2513) (b := 0) ⟨by omega, by omega⟩).mpr q))]; rfl)
    intro u2547 hu2547
    subst hu2547
    refine own_iaddE X2522 hx (hb hby at_470) (Int32.ofNat (n2532 + (if n2513 = 0 then 0 else 1))) (own_addN n2532 (if n2513 = 0 then 0 else 1)) 471 rfl ?_
    refine own_iload X2522 hx (hb hby at_471) rfl 473 rfl ?_
    suffices kj2551 : ∀ u2550 : Int32, u2550 = Int32.ofNat (if n2518 = 0 then 0 else 1) → own_Go p e below G (T2522.setTop (mkF m 481 #[.val (.int v0), .val (.int v1), .val (.int v2), .val (.ref a2319), .val (.ref a2347), .val (.ref a2382), .val (.int (Int32.ofNat n2497)), .val (.int (Int32.ofNat n2499)), .val (.int (Int32.ofNat n2500)), .val (.int (Int32.ofNat n2501)), .val (.int (Int32.ofNat n2503)), .val (.int (Int32.ofNat n2505)), .val (.int (Int32.ofNat n2507)), .val (.int (Int32.ofNat n2513)), .val (.int (Int32.ofNat n2518)), .val (.int (Int32.ofNat n2521)), .val (.int (Int32.ofNat n2524)), .val (.int (Int32.ofNat n2532)), .val (.int (Int32.ofNat n2536)), .val (.int (Int32.ofNat n2541)), .val (.int (Int32.ofNat n2546)), .unset, .unset, .unset, .unset, .unset, .unset, .unset, .unset, .unset, .unset] [(.int u2550), (.int (Int32.ofNat (n2532 + (if n2513 = 0 then 0 else 1))))])) by
      by_cases c2552 : (Int32.ofNat n2518) = (0 : Int32)
      ·
        refine own_ifY X2522 hx (hb hby at_473) ((if0 _ _).trans (teq c2552).1) 480 ⟨by decide, by decide⟩ ?_
        refine own_iconst X2522 hx (hb hby at_480) (0 : Int32) rfl 481 rfl ?_
        exact kj2551 (0 : Int32) (by rw [if_pos ((own_eqN (a := n2518) (b := 0) ⟨by omega, by omega⟩).mp c2552)]; rfl)
      ·
        refine own_ifN X2522 hx (hb hby at_473) ((if0 _ _).trans (feq c2552).1) 476 rfl ?_
        refine own_iconst X2522 hx (hb hby at_476) (1 : Int32) rfl 477 rfl ?_
        refine own_goto X2522 hx (hb hby at_477) 481 ⟨by decide, by decide⟩ ?_
        exact kj2551 (1 : Int32) (by rw [if_neg (fun q => c2552 ((own_eqN (a := n2518) (b := 0) ⟨by omega, by omega⟩).mpr q))]; rfl)
    intro u2550 hu2550
    subst hu2550
    refine own_iaddE X2522 hx (hb hby at_481) (Int32.ofNat ((n2532 + (if n2513 = 0 then 0 else 1)) + (if n2518 = 0 then 0 else 1))) (own_addN (n2532 + (if n2513 = 0 then 0 else 1)) (if n2518 = 0 then 0 else 1)) 482 rfl ?_
    obtain ⟨n2553, hn2553, hs2553⟩ := own_be hs2546
    rw [show Int32.ofNat ((n2532 + (if n2513 = 0 then 0 else 1)) + (if n2518 = 0 then 0 else 1)) = Int32.ofNat n2553 from congrArg Int32.ofNat (Option.some.inj hn2553)]
    refine own_istore X2522 hx (hb hby at_482) #[.val (.int v0), .val (.int v1), .val (.int v2), .val (.ref a2319), .val (.ref a2347), .val (.ref a2382), .val (.int (Int32.ofNat n2497)), .val (.int (Int32.ofNat n2499)), .val (.int (Int32.ofNat n2500)), .val (.int (Int32.ofNat n2501)), .val (.int (Int32.ofNat n2503)), .val (.int (Int32.ofNat n2505)), .val (.int (Int32.ofNat n2507)), .val (.int (Int32.ofNat n2513)), .val (.int (Int32.ofNat n2518)), .val (.int (Int32.ofNat n2521)), .val (.int (Int32.ofNat n2524)), .val (.int (Int32.ofNat n2532)), .val (.int (Int32.ofNat n2536)), .val (.int (Int32.ofNat n2541)), .val (.int (Int32.ofNat n2546)), .val (.int (Int32.ofNat n2553)), .unset, .unset, .unset, .unset, .unset, .unset, .unset, .unset, .unset] rfl 484 rfl ?_
    refine own_iconst X2522 hx (hb hby at_484) (2 : Int32) rfl 485 rfl ?_
    refine own_newI X2522 hx hZ (own_w hw 0 rfl) e2522 (hb hby at_485) 2 rfl 2 (by decide) (by decide) (by decide) (by decide) 487 rfl (fun T2554 h2554 a2554 g2554 X2554 e2554 E2554 V2554 => ?_)
    have ne2555 : a2382 ≠ a2554 := by rw [g2554]; exact Nat.ne_of_lt E2495.lt
    have ne2556 : a2319 ≠ a2554 := by rw [g2554]; exact Nat.ne_of_lt V0_2495.lt
    have ne2557 : a2347 ≠ a2554 := by rw [g2554]; exact Nat.ne_of_lt V1_2495.lt
    have ne2558 : el_ ≠ a2554 := by rw [g2554]; exact Nat.ne_of_lt V2_2495.lt
    have ne2559 : pl_ ≠ a2554 := by rw [g2554]; exact Nat.ne_of_lt V3_2495.lt
    have ne2560 : so_ ≠ a2554 := by rw [g2554]; exact Nat.ne_of_lt V4_2495.lt
    have ne2561 : fi_ ≠ a2554 := by rw [g2554]; exact Nat.ne_of_lt V5_2495.lt
    have ne2562 : en_ ≠ a2554 := by rw [g2554]; exact Nat.ne_of_lt V6_2495.lt
    have ne2563 : un_ ≠ a2554 := by rw [g2554]; exact Nat.ne_of_lt V7_2495.lt
    have ne2564 : to_ ≠ a2554 := by rw [g2554]; exact Nat.ne_of_lt V8_2495.lt
    have ge2565 : n0 ≤ a2554 := by rw [g2554]; exact Z2495
    have Z2566 : n0 ≤ h2554.size := Nat.le_trans Z2495 E2554.1
    have E2567 := E2495.ext E2554
    have F2568 := F0_2495.ext E2554
    have F2569 := F1_2495.ext E2554
    have F2570 := F2_2495.ext E2554
    have F2571 := F3_2495.ext E2554
    have F2572 := F4_2495.ext E2554
    have F2573 := F5_2495.ext E2554
    have F2574 := F6_2495.ext E2554
    have F2575 := F7_2495.ext E2554
    have F2576 := F8_2495.ext E2554
    have V2577 := V0_2495.ext E2554
    have V2578 := V1_2495.ext E2554
    have V2579 := V2_2495.ext E2554
    have V2580 := V3_2495.ext E2554
    have V2581 := V4_2495.ext E2554
    have V2582 := V5_2495.ext E2554
    have V2583 := V6_2495.ext E2554
    have V2584 := V7_2495.ext E2554
    have V2585 := V8_2495.ext E2554
    rw [show (List.replicate 2 (0 : Int32)) = (own_M [0, 0]) from rfl] at V2554
    refine own_dup X2554 hx (hb hby at_487) rfl 488 rfl ?_
    refine own_iconst X2554 hx (hb hby at_488) (0 : Int32) rfl 489 rfl ?_
    refine own_iload X2554 hx (hb hby at_489) rfl 491 rfl ?_
    suffices kj2587 : ∀ u2586 : Int32, u2586 = Int32.ofNat (if n2513 = 0 then 0 else 1) → own_Go p e below G (T2554.setTop (mkF m 499 #[.val (.int v0), .val (.int v1), .val (.int v2), .val (.ref a2319), .val (.ref a2347), .val (.ref a2382), .val (.int (Int32.ofNat n2497)), .val (.int (Int32.ofNat n2499)), .val (.int (Int32.ofNat n2500)), .val (.int (Int32.ofNat n2501)), .val (.int (Int32.ofNat n2503)), .val (.int (Int32.ofNat n2505)), .val (.int (Int32.ofNat n2507)), .val (.int (Int32.ofNat n2513)), .val (.int (Int32.ofNat n2518)), .val (.int (Int32.ofNat n2521)), .val (.int (Int32.ofNat n2524)), .val (.int (Int32.ofNat n2532)), .val (.int (Int32.ofNat n2536)), .val (.int (Int32.ofNat n2541)), .val (.int (Int32.ofNat n2546)), .val (.int (Int32.ofNat n2553)), .unset, .unset, .unset, .unset, .unset, .unset, .unset, .unset, .unset] [(.int u2586), (.int (0 : Int32)), (.ref a2554), (.ref a2554)])) by
      by_cases c2588 : (Int32.ofNat n2513) = (0 : Int32)
      ·
        refine own_ifY X2554 hx (hb hby at_491) ((if0 _ _).trans (teq c2588).1) 498 ⟨by decide, by decide⟩ ?_
        refine own_iconst X2554 hx (hb hby at_498) (0 : Int32) rfl 499 rfl ?_
        exact kj2587 (0 : Int32) (by rw [if_pos ((own_eqN (a := n2513) (b := 0) ⟨by omega, by omega⟩).mp c2588)]; rfl)
      ·
        refine own_ifN X2554 hx (hb hby at_491) ((if0 _ _).trans (feq c2588).1) 494 rfl ?_
        refine own_iconst X2554 hx (hb hby at_494) (1 : Int32) rfl 495 rfl ?_
        refine own_goto X2554 hx (hb hby at_495) 499 ⟨by decide, by decide⟩ ?_
        exact kj2587 (1 : Int32) (by rw [if_neg (fun q => c2588 ((own_eqN (a := n2513) (b := 0) ⟨by omega, by omega⟩).mpr q))]; rfl)
    intro u2586 hu2586
    subst hu2586
    obtain ⟨n2589, hn2589, hs2589⟩ := own_be hs2553
    rw [show Int32.ofNat (if n2513 = 0 then 0 else 1) = Int32.ofNat n2589 from congrArg Int32.ofNat (Option.some.inj hn2589)]
    refine own_iastore X2554 hx hZ e2554 V2554 0 rfl (by show 0 < 2; decide) (hb hby at_499) 500 rfl (fun T2590 h2590 X2590 e2590 W2590 V2590 => ?_)
    rw [show (own_M [0, 0]).set 0 (Int32.ofNat n2589) = (own_M [n2589, 0]) from rfl] at V2590
    have N2591 := Fr.snoc X2590 N2523 ge2565
    have Z2592 : n0 ≤ h2590.size := by rw [W2590.size]; exact Z2566
    have E2593 := E2567.wr W2590
    have F2594 := F2568.other W2590 (Or.inl ne2555)
    have F2595 := F2569.other W2590 (Or.inl ne2555)
    have F2596 := F2570.other W2590 (Or.inl ne2555)
    have F2597 := F2571.other W2590 (Or.inl ne2555)
    have F2598 := F2572.other W2590 (Or.inl ne2555)
    have F2599 := F2573.other W2590 (Or.inl ne2555)
    have F2600 := F2574.other W2590 (Or.inl ne2555)
    have F2601 := F2575.other W2590 (Or.inl ne2555)
    have F2602 := F2576.other W2590 (Or.inl ne2555)
    have V2603 := V2577.other W2590 ne2556
    have V2604 := V2578.other W2590 ne2557
    have V2605 := V2579.other W2590 ne2558
    have V2606 := V2580.other W2590 ne2559
    have V2607 := V2581.other W2590 ne2560
    have V2608 := V2582.other W2590 ne2561
    have V2609 := V2583.other W2590 ne2562
    have V2610 := V2584.other W2590 ne2563
    have V2611 := V2585.other W2590 ne2564
    refine own_dup X2590 hx (hb hby at_500) rfl 501 rfl ?_
    refine own_iconst X2590 hx (hb hby at_501) (1 : Int32) rfl 502 rfl ?_
    refine own_iload X2590 hx (hb hby at_502) rfl 504 rfl ?_
    suffices kj2613 : ∀ u2612 : Int32, u2612 = Int32.ofNat (if n2518 = 0 then 0 else 1) → own_Go p e below G (T2590.setTop (mkF m 512 #[.val (.int v0), .val (.int v1), .val (.int v2), .val (.ref a2319), .val (.ref a2347), .val (.ref a2382), .val (.int (Int32.ofNat n2497)), .val (.int (Int32.ofNat n2499)), .val (.int (Int32.ofNat n2500)), .val (.int (Int32.ofNat n2501)), .val (.int (Int32.ofNat n2503)), .val (.int (Int32.ofNat n2505)), .val (.int (Int32.ofNat n2507)), .val (.int (Int32.ofNat n2513)), .val (.int (Int32.ofNat n2518)), .val (.int (Int32.ofNat n2521)), .val (.int (Int32.ofNat n2524)), .val (.int (Int32.ofNat n2532)), .val (.int (Int32.ofNat n2536)), .val (.int (Int32.ofNat n2541)), .val (.int (Int32.ofNat n2546)), .val (.int (Int32.ofNat n2553)), .unset, .unset, .unset, .unset, .unset, .unset, .unset, .unset, .unset] [(.int u2612), (.int (1 : Int32)), (.ref a2554), (.ref a2554)])) by
      by_cases c2614 : (Int32.ofNat n2518) = (0 : Int32)
      ·
        refine own_ifY X2590 hx (hb hby at_504) ((if0 _ _).trans (teq c2614).1) 511 ⟨by decide, by decide⟩ ?_
        refine own_iconst X2590 hx (hb hby at_511) (0 : Int32) rfl 512 rfl ?_
        exact kj2613 (0 : Int32) (by rw [if_pos ((own_eqN (a := n2518) (b := 0) ⟨by omega, by omega⟩).mp c2614)]; rfl)
      ·
        refine own_ifN X2590 hx (hb hby at_504) ((if0 _ _).trans (feq c2614).1) 507 rfl ?_
        refine own_iconst X2590 hx (hb hby at_507) (1 : Int32) rfl 508 rfl ?_
        refine own_goto X2590 hx (hb hby at_508) 512 ⟨by decide, by decide⟩ ?_
        exact kj2613 (1 : Int32) (by rw [if_neg (fun q => c2614 ((own_eqN (a := n2518) (b := 0) ⟨by omega, by omega⟩).mpr q))]; rfl)
    intro u2612 hu2612
    subst hu2612
    obtain ⟨n2615, hn2615, hs2615⟩ := own_be hs2589
    rw [show Int32.ofNat (if n2518 = 0 then 0 else 1) = Int32.ofNat n2615 from congrArg Int32.ofNat (Option.some.inj hn2615)]
    refine own_iastore X2590 hx hZ e2590 V2590 1 rfl (by show 1 < 2; decide) (hb hby at_512) 513 rfl (fun T2616 h2616 X2616 e2616 W2616 V2616 => ?_)
    rw [show (own_M [n2589, 0]).set 1 (Int32.ofNat n2615) = (own_M [n2589, n2615]) from rfl] at V2616
    have N2617 := Fr.snoc X2616 N2591 ge2565
    have Z2618 : n0 ≤ h2616.size := by rw [W2616.size]; exact Z2592
    have E2619 := E2593.wr W2616
    have F2620 := F2594.other W2616 (Or.inl ne2555)
    have F2621 := F2595.other W2616 (Or.inl ne2555)
    have F2622 := F2596.other W2616 (Or.inl ne2555)
    have F2623 := F2597.other W2616 (Or.inl ne2555)
    have F2624 := F2598.other W2616 (Or.inl ne2555)
    have F2625 := F2599.other W2616 (Or.inl ne2555)
    have F2626 := F2600.other W2616 (Or.inl ne2555)
    have F2627 := F2601.other W2616 (Or.inl ne2555)
    have F2628 := F2602.other W2616 (Or.inl ne2555)
    have V2629 := V2603.other W2616 ne2556
    have V2630 := V2604.other W2616 ne2557
    have V2631 := V2605.other W2616 ne2558
    have V2632 := V2606.other W2616 ne2559
    have V2633 := V2607.other W2616 ne2560
    have V2634 := V2608.other W2616 ne2561
    have V2635 := V2609.other W2616 ne2562
    have V2636 := V2610.other W2616 ne2563
    have V2637 := V2611.other W2616 ne2564
    refine own_astore X2616 hx (hb hby at_513) rfl #[.val (.int v0), .val (.int v1), .val (.int v2), .val (.ref a2319), .val (.ref a2347), .val (.ref a2382), .val (.int (Int32.ofNat n2497)), .val (.int (Int32.ofNat n2499)), .val (.int (Int32.ofNat n2500)), .val (.int (Int32.ofNat n2501)), .val (.int (Int32.ofNat n2503)), .val (.int (Int32.ofNat n2505)), .val (.int (Int32.ofNat n2507)), .val (.int (Int32.ofNat n2513)), .val (.int (Int32.ofNat n2518)), .val (.int (Int32.ofNat n2521)), .val (.int (Int32.ofNat n2524)), .val (.int (Int32.ofNat n2532)), .val (.int (Int32.ofNat n2536)), .val (.int (Int32.ofNat n2541)), .val (.int (Int32.ofNat n2546)), .val (.int (Int32.ofNat n2553)), .val (.ref a2554), .unset, .unset, .unset, .unset, .unset, .unset, .unset, .unset] rfl 515 rfl ?_
    refine own_iconst X2616 hx (hb hby at_515) (2 : Int32) rfl 516 rfl ?_
    refine own_newI X2616 hx hZ (own_w hw 0 rfl) e2616 (hb hby at_516) 2 rfl 2 (by decide) (by decide) (by decide) (by decide) 518 rfl (fun T2638 h2638 a2638 g2638 X2638 e2638 E2638 V2638 => ?_)
    have ne2639 : a2382 ≠ a2638 := by rw [g2638]; exact Nat.ne_of_lt E2619.lt
    have ne2640 : a2319 ≠ a2638 := by rw [g2638]; exact Nat.ne_of_lt V2629.lt
    have ne2641 : a2347 ≠ a2638 := by rw [g2638]; exact Nat.ne_of_lt V2630.lt
    have ne2642 : el_ ≠ a2638 := by rw [g2638]; exact Nat.ne_of_lt V2631.lt
    have ne2643 : pl_ ≠ a2638 := by rw [g2638]; exact Nat.ne_of_lt V2632.lt
    have ne2644 : so_ ≠ a2638 := by rw [g2638]; exact Nat.ne_of_lt V2633.lt
    have ne2645 : fi_ ≠ a2638 := by rw [g2638]; exact Nat.ne_of_lt V2634.lt
    have ne2646 : en_ ≠ a2638 := by rw [g2638]; exact Nat.ne_of_lt V2635.lt
    have ne2647 : un_ ≠ a2638 := by rw [g2638]; exact Nat.ne_of_lt V2636.lt
    have ne2648 : to_ ≠ a2638 := by rw [g2638]; exact Nat.ne_of_lt V2637.lt
    have ne2649 : a2554 ≠ a2638 := by rw [g2638]; exact Nat.ne_of_lt V2616.lt
    have ge2650 : n0 ≤ a2638 := by rw [g2638]; exact Z2618
    have Z2651 : n0 ≤ h2638.size := Nat.le_trans Z2618 E2638.1
    have E2652 := E2619.ext E2638
    have F2653 := F2620.ext E2638
    have F2654 := F2621.ext E2638
    have F2655 := F2622.ext E2638
    have F2656 := F2623.ext E2638
    have F2657 := F2624.ext E2638
    have F2658 := F2625.ext E2638
    have F2659 := F2626.ext E2638
    have F2660 := F2627.ext E2638
    have F2661 := F2628.ext E2638
    have V2662 := V2629.ext E2638
    have V2663 := V2630.ext E2638
    have V2664 := V2631.ext E2638
    have V2665 := V2632.ext E2638
    have V2666 := V2633.ext E2638
    have V2667 := V2634.ext E2638
    have V2668 := V2635.ext E2638
    have V2669 := V2636.ext E2638
    have V2670 := V2637.ext E2638
    have V2671 := V2616.ext E2638
    rw [show (List.replicate 2 (0 : Int32)) = (own_M [0, 0]) from rfl] at V2638
    refine own_dup X2638 hx (hb hby at_518) rfl 519 rfl ?_
    refine own_iconst X2638 hx (hb hby at_519) (0 : Int32) rfl 520 rfl ?_
    refine own_iload X2638 hx (hb hby at_520) rfl 522 rfl ?_
    refine own_iastore X2638 hx hZ e2638 V2638 0 rfl (by show 0 < 2; decide) (hb hby at_522) 523 rfl (fun T2672 h2672 X2672 e2672 W2672 V2672 => ?_)
    rw [show (own_M [0, 0]).set 0 (Int32.ofNat n2503) = (own_M [n2503, 0]) from rfl] at V2672
    have N2673 := Fr.snoc X2672 N2617 ge2650
    have Z2674 : n0 ≤ h2672.size := by rw [W2672.size]; exact Z2651
    have E2675 := E2652.wr W2672
    have F2676 := F2653.other W2672 (Or.inl ne2639)
    have F2677 := F2654.other W2672 (Or.inl ne2639)
    have F2678 := F2655.other W2672 (Or.inl ne2639)
    have F2679 := F2656.other W2672 (Or.inl ne2639)
    have F2680 := F2657.other W2672 (Or.inl ne2639)
    have F2681 := F2658.other W2672 (Or.inl ne2639)
    have F2682 := F2659.other W2672 (Or.inl ne2639)
    have F2683 := F2660.other W2672 (Or.inl ne2639)
    have F2684 := F2661.other W2672 (Or.inl ne2639)
    have V2685 := V2662.other W2672 ne2640
    have V2686 := V2663.other W2672 ne2641
    have V2687 := V2664.other W2672 ne2642
    have V2688 := V2665.other W2672 ne2643
    have V2689 := V2666.other W2672 ne2644
    have V2690 := V2667.other W2672 ne2645
    have V2691 := V2668.other W2672 ne2646
    have V2692 := V2669.other W2672 ne2647
    have V2693 := V2670.other W2672 ne2648
    have V2694 := V2671.other W2672 ne2649
    refine own_dup X2672 hx (hb hby at_523) rfl 524 rfl ?_
    refine own_iconst X2672 hx (hb hby at_524) (1 : Int32) rfl 525 rfl ?_
    refine own_iload X2672 hx (hb hby at_525) rfl 527 rfl ?_
    refine own_iastore X2672 hx hZ e2672 V2672 1 rfl (by show 1 < 2; decide) (hb hby at_527) 528 rfl (fun T2695 h2695 X2695 e2695 W2695 V2695 => ?_)
    rw [show (own_M [n2503, 0]).set 1 (Int32.ofNat n2500) = (own_M [n2503, n2500]) from rfl] at V2695
    have N2696 := Fr.snoc X2695 N2673 ge2650
    have Z2697 : n0 ≤ h2695.size := by rw [W2695.size]; exact Z2674
    have E2698 := E2675.wr W2695
    have F2699 := F2676.other W2695 (Or.inl ne2639)
    have F2700 := F2677.other W2695 (Or.inl ne2639)
    have F2701 := F2678.other W2695 (Or.inl ne2639)
    have F2702 := F2679.other W2695 (Or.inl ne2639)
    have F2703 := F2680.other W2695 (Or.inl ne2639)
    have F2704 := F2681.other W2695 (Or.inl ne2639)
    have F2705 := F2682.other W2695 (Or.inl ne2639)
    have F2706 := F2683.other W2695 (Or.inl ne2639)
    have F2707 := F2684.other W2695 (Or.inl ne2639)
    have V2708 := V2685.other W2695 ne2640
    have V2709 := V2686.other W2695 ne2641
    have V2710 := V2687.other W2695 ne2642
    have V2711 := V2688.other W2695 ne2643
    have V2712 := V2689.other W2695 ne2644
    have V2713 := V2690.other W2695 ne2645
    have V2714 := V2691.other W2695 ne2646
    have V2715 := V2692.other W2695 ne2647
    have V2716 := V2693.other W2695 ne2648
    have V2717 := V2694.other W2695 ne2649
    refine own_astore X2695 hx (hb hby at_528) rfl #[.val (.int v0), .val (.int v1), .val (.int v2), .val (.ref a2319), .val (.ref a2347), .val (.ref a2382), .val (.int (Int32.ofNat n2497)), .val (.int (Int32.ofNat n2499)), .val (.int (Int32.ofNat n2500)), .val (.int (Int32.ofNat n2501)), .val (.int (Int32.ofNat n2503)), .val (.int (Int32.ofNat n2505)), .val (.int (Int32.ofNat n2507)), .val (.int (Int32.ofNat n2513)), .val (.int (Int32.ofNat n2518)), .val (.int (Int32.ofNat n2521)), .val (.int (Int32.ofNat n2524)), .val (.int (Int32.ofNat n2532)), .val (.int (Int32.ofNat n2536)), .val (.int (Int32.ofNat n2541)), .val (.int (Int32.ofNat n2546)), .val (.int (Int32.ofNat n2553)), .val (.ref a2554), .val (.ref a2638), .unset, .unset, .unset, .unset, .unset, .unset, .unset] rfl 530 rfl ?_
    refine own_iconst X2695 hx (hb hby at_530) (2 : Int32) rfl 531 rfl ?_
    refine own_newI X2695 hx hZ (own_w hw 0 rfl) e2695 (hb hby at_531) 2 rfl 2 (by decide) (by decide) (by decide) (by decide) 533 rfl (fun T2718 h2718 a2718 g2718 X2718 e2718 E2718 V2718 => ?_)
    have ne2719 : a2382 ≠ a2718 := by rw [g2718]; exact Nat.ne_of_lt E2698.lt
    have ne2720 : a2319 ≠ a2718 := by rw [g2718]; exact Nat.ne_of_lt V2708.lt
    have ne2721 : a2347 ≠ a2718 := by rw [g2718]; exact Nat.ne_of_lt V2709.lt
    have ne2722 : el_ ≠ a2718 := by rw [g2718]; exact Nat.ne_of_lt V2710.lt
    have ne2723 : pl_ ≠ a2718 := by rw [g2718]; exact Nat.ne_of_lt V2711.lt
    have ne2724 : so_ ≠ a2718 := by rw [g2718]; exact Nat.ne_of_lt V2712.lt
    have ne2725 : fi_ ≠ a2718 := by rw [g2718]; exact Nat.ne_of_lt V2713.lt
    have ne2726 : en_ ≠ a2718 := by rw [g2718]; exact Nat.ne_of_lt V2714.lt
    have ne2727 : un_ ≠ a2718 := by rw [g2718]; exact Nat.ne_of_lt V2715.lt
    have ne2728 : to_ ≠ a2718 := by rw [g2718]; exact Nat.ne_of_lt V2716.lt
    have ne2729 : a2554 ≠ a2718 := by rw [g2718]; exact Nat.ne_of_lt V2717.lt
    have ne2730 : a2638 ≠ a2718 := by rw [g2718]; exact Nat.ne_of_lt V2695.lt
    have ge2731 : n0 ≤ a2718 := by rw [g2718]; exact Z2697
    have Z2732 : n0 ≤ h2718.size := Nat.le_trans Z2697 E2718.1
    have E2733 := E2698.ext E2718
    have F2734 := F2699.ext E2718
    have F2735 := F2700.ext E2718
    have F2736 := F2701.ext E2718
    have F2737 := F2702.ext E2718
    have F2738 := F2703.ext E2718
    have F2739 := F2704.ext E2718
    have F2740 := F2705.ext E2718
    have F2741 := F2706.ext E2718
    have F2742 := F2707.ext E2718
    have V2743 := V2708.ext E2718
    have V2744 := V2709.ext E2718
    have V2745 := V2710.ext E2718
    have V2746 := V2711.ext E2718
    have V2747 := V2712.ext E2718
    have V2748 := V2713.ext E2718
    have V2749 := V2714.ext E2718
    have V2750 := V2715.ext E2718
    have V2751 := V2716.ext E2718
    have V2752 := V2717.ext E2718
    have V2753 := V2695.ext E2718
    rw [show (List.replicate 2 (0 : Int32)) = (own_M [0, 0]) from rfl] at V2718
    refine own_dup X2718 hx (hb hby at_533) rfl 534 rfl ?_
    refine own_iconst X2718 hx (hb hby at_534) (0 : Int32) rfl 535 rfl ?_
    refine own_iload X2718 hx (hb hby at_535) rfl 537 rfl ?_
    refine own_iastore X2718 hx hZ e2718 V2718 0 rfl (by show 0 < 2; decide) (hb hby at_537) 538 rfl (fun T2754 h2754 X2754 e2754 W2754 V2754 => ?_)
    rw [show (own_M [0, 0]).set 0 (Int32.ofNat n2505) = (own_M [n2505, 0]) from rfl] at V2754
    have N2755 := Fr.snoc X2754 N2696 ge2731
    have Z2756 : n0 ≤ h2754.size := by rw [W2754.size]; exact Z2732
    have E2757 := E2733.wr W2754
    have F2758 := F2734.other W2754 (Or.inl ne2719)
    have F2759 := F2735.other W2754 (Or.inl ne2719)
    have F2760 := F2736.other W2754 (Or.inl ne2719)
    have F2761 := F2737.other W2754 (Or.inl ne2719)
    have F2762 := F2738.other W2754 (Or.inl ne2719)
    have F2763 := F2739.other W2754 (Or.inl ne2719)
    have F2764 := F2740.other W2754 (Or.inl ne2719)
    have F2765 := F2741.other W2754 (Or.inl ne2719)
    have F2766 := F2742.other W2754 (Or.inl ne2719)
    have V2767 := V2743.other W2754 ne2720
    have V2768 := V2744.other W2754 ne2721
    have V2769 := V2745.other W2754 ne2722
    have V2770 := V2746.other W2754 ne2723
    have V2771 := V2747.other W2754 ne2724
    have V2772 := V2748.other W2754 ne2725
    have V2773 := V2749.other W2754 ne2726
    have V2774 := V2750.other W2754 ne2727
    have V2775 := V2751.other W2754 ne2728
    have V2776 := V2752.other W2754 ne2729
    have V2777 := V2753.other W2754 ne2730
    refine own_dup X2754 hx (hb hby at_538) rfl 539 rfl ?_
    refine own_iconst X2754 hx (hb hby at_539) (1 : Int32) rfl 540 rfl ?_
    refine own_iload X2754 hx (hb hby at_540) rfl 542 rfl ?_
    refine own_iastore X2754 hx hZ e2754 V2754 1 rfl (by show 1 < 2; decide) (hb hby at_542) 543 rfl (fun T2778 h2778 X2778 e2778 W2778 V2778 => ?_)
    rw [show (own_M [n2505, 0]).set 1 (Int32.ofNat n2507) = (own_M [n2505, n2507]) from rfl] at V2778
    have N2779 := Fr.snoc X2778 N2755 ge2731
    have Z2780 : n0 ≤ h2778.size := by rw [W2778.size]; exact Z2756
    have E2781 := E2757.wr W2778
    have F2782 := F2758.other W2778 (Or.inl ne2719)
    have F2783 := F2759.other W2778 (Or.inl ne2719)
    have F2784 := F2760.other W2778 (Or.inl ne2719)
    have F2785 := F2761.other W2778 (Or.inl ne2719)
    have F2786 := F2762.other W2778 (Or.inl ne2719)
    have F2787 := F2763.other W2778 (Or.inl ne2719)
    have F2788 := F2764.other W2778 (Or.inl ne2719)
    have F2789 := F2765.other W2778 (Or.inl ne2719)
    have F2790 := F2766.other W2778 (Or.inl ne2719)
    have V2791 := V2767.other W2778 ne2720
    have V2792 := V2768.other W2778 ne2721
    have V2793 := V2769.other W2778 ne2722
    have V2794 := V2770.other W2778 ne2723
    have V2795 := V2771.other W2778 ne2724
    have V2796 := V2772.other W2778 ne2725
    have V2797 := V2773.other W2778 ne2726
    have V2798 := V2774.other W2778 ne2727
    have V2799 := V2775.other W2778 ne2728
    have V2800 := V2776.other W2778 ne2729
    have V2801 := V2777.other W2778 ne2730
    refine own_astore X2778 hx (hb hby at_543) rfl #[.val (.int v0), .val (.int v1), .val (.int v2), .val (.ref a2319), .val (.ref a2347), .val (.ref a2382), .val (.int (Int32.ofNat n2497)), .val (.int (Int32.ofNat n2499)), .val (.int (Int32.ofNat n2500)), .val (.int (Int32.ofNat n2501)), .val (.int (Int32.ofNat n2503)), .val (.int (Int32.ofNat n2505)), .val (.int (Int32.ofNat n2507)), .val (.int (Int32.ofNat n2513)), .val (.int (Int32.ofNat n2518)), .val (.int (Int32.ofNat n2521)), .val (.int (Int32.ofNat n2524)), .val (.int (Int32.ofNat n2532)), .val (.int (Int32.ofNat n2536)), .val (.int (Int32.ofNat n2541)), .val (.int (Int32.ofNat n2546)), .val (.int (Int32.ofNat n2553)), .val (.ref a2554), .val (.ref a2638), .val (.ref a2718), .unset, .unset, .unset, .unset, .unset, .unset] rfl 545 rfl ?_
    refine own_iconst X2778 hx (hb hby at_545) (2 : Int32) rfl 546 rfl ?_
    refine own_newI X2778 hx hZ (own_w hw 0 rfl) e2778 (hb hby at_546) 2 rfl 2 (by decide) (by decide) (by decide) (by decide) 548 rfl (fun T2802 h2802 a2802 g2802 X2802 e2802 E2802 V2802 => ?_)
    have ne2803 : a2382 ≠ a2802 := by rw [g2802]; exact Nat.ne_of_lt E2781.lt
    have ne2804 : a2319 ≠ a2802 := by rw [g2802]; exact Nat.ne_of_lt V2791.lt
    have ne2805 : a2347 ≠ a2802 := by rw [g2802]; exact Nat.ne_of_lt V2792.lt
    have ne2806 : el_ ≠ a2802 := by rw [g2802]; exact Nat.ne_of_lt V2793.lt
    have ne2807 : pl_ ≠ a2802 := by rw [g2802]; exact Nat.ne_of_lt V2794.lt
    have ne2808 : so_ ≠ a2802 := by rw [g2802]; exact Nat.ne_of_lt V2795.lt
    have ne2809 : fi_ ≠ a2802 := by rw [g2802]; exact Nat.ne_of_lt V2796.lt
    have ne2810 : en_ ≠ a2802 := by rw [g2802]; exact Nat.ne_of_lt V2797.lt
    have ne2811 : un_ ≠ a2802 := by rw [g2802]; exact Nat.ne_of_lt V2798.lt
    have ne2812 : to_ ≠ a2802 := by rw [g2802]; exact Nat.ne_of_lt V2799.lt
    have ne2813 : a2554 ≠ a2802 := by rw [g2802]; exact Nat.ne_of_lt V2800.lt
    have ne2814 : a2638 ≠ a2802 := by rw [g2802]; exact Nat.ne_of_lt V2801.lt
    have ne2815 : a2718 ≠ a2802 := by rw [g2802]; exact Nat.ne_of_lt V2778.lt
    have ge2816 : n0 ≤ a2802 := by rw [g2802]; exact Z2780
    have Z2817 : n0 ≤ h2802.size := Nat.le_trans Z2780 E2802.1
    have E2818 := E2781.ext E2802
    have F2819 := F2782.ext E2802
    have F2820 := F2783.ext E2802
    have F2821 := F2784.ext E2802
    have F2822 := F2785.ext E2802
    have F2823 := F2786.ext E2802
    have F2824 := F2787.ext E2802
    have F2825 := F2788.ext E2802
    have F2826 := F2789.ext E2802
    have F2827 := F2790.ext E2802
    have V2828 := V2791.ext E2802
    have V2829 := V2792.ext E2802
    have V2830 := V2793.ext E2802
    have V2831 := V2794.ext E2802
    have V2832 := V2795.ext E2802
    have V2833 := V2796.ext E2802
    have V2834 := V2797.ext E2802
    have V2835 := V2798.ext E2802
    have V2836 := V2799.ext E2802
    have V2837 := V2800.ext E2802
    have V2838 := V2801.ext E2802
    have V2839 := V2778.ext E2802
    rw [show (List.replicate 2 (0 : Int32)) = (own_M [0, 0]) from rfl] at V2802
    refine own_dup X2802 hx (hb hby at_548) rfl 549 rfl ?_
    refine own_iconst X2802 hx (hb hby at_549) (0 : Int32) rfl 550 rfl ?_
    refine own_iconst X2802 hx (hb hby at_550) (0 : Int32) rfl 551 rfl ?_
    refine own_iastore X2802 hx hZ e2802 V2802 0 rfl (by show 0 < 2; decide) (hb hby at_551) 552 rfl (fun T2840 h2840 X2840 e2840 W2840 V2840 => ?_)
    rw [show (own_M [0, 0]).set 0 (0 : Int32) = (own_M [0, 0]) from rfl] at V2840
    have N2841 := Fr.snoc X2840 N2779 ge2816
    have Z2842 : n0 ≤ h2840.size := by rw [W2840.size]; exact Z2817
    have E2843 := E2818.wr W2840
    have F2844 := F2819.other W2840 (Or.inl ne2803)
    have F2845 := F2820.other W2840 (Or.inl ne2803)
    have F2846 := F2821.other W2840 (Or.inl ne2803)
    have F2847 := F2822.other W2840 (Or.inl ne2803)
    have F2848 := F2823.other W2840 (Or.inl ne2803)
    have F2849 := F2824.other W2840 (Or.inl ne2803)
    have F2850 := F2825.other W2840 (Or.inl ne2803)
    have F2851 := F2826.other W2840 (Or.inl ne2803)
    have F2852 := F2827.other W2840 (Or.inl ne2803)
    have V2853 := V2828.other W2840 ne2804
    have V2854 := V2829.other W2840 ne2805
    have V2855 := V2830.other W2840 ne2806
    have V2856 := V2831.other W2840 ne2807
    have V2857 := V2832.other W2840 ne2808
    have V2858 := V2833.other W2840 ne2809
    have V2859 := V2834.other W2840 ne2810
    have V2860 := V2835.other W2840 ne2811
    have V2861 := V2836.other W2840 ne2812
    have V2862 := V2837.other W2840 ne2813
    have V2863 := V2838.other W2840 ne2814
    have V2864 := V2839.other W2840 ne2815
    refine own_dup X2840 hx (hb hby at_552) rfl 553 rfl ?_
    refine own_iconst X2840 hx (hb hby at_553) (1 : Int32) rfl 554 rfl ?_
    refine own_iload X2840 hx (hb hby at_554) rfl 556 rfl ?_
    refine own_iastore X2840 hx hZ e2840 V2840 1 rfl (by show 1 < 2; decide) (hb hby at_556) 557 rfl (fun T2865 h2865 X2865 e2865 W2865 V2865 => ?_)
    rw [show (own_M [0, 0]).set 1 (Int32.ofNat n2536) = (own_M [0, n2536]) from rfl] at V2865
    have N2866 := Fr.snoc X2865 N2841 ge2816
    have Z2867 : n0 ≤ h2865.size := by rw [W2865.size]; exact Z2842
    have E2868 := E2843.wr W2865
    have F2869 := F2844.other W2865 (Or.inl ne2803)
    have F2870 := F2845.other W2865 (Or.inl ne2803)
    have F2871 := F2846.other W2865 (Or.inl ne2803)
    have F2872 := F2847.other W2865 (Or.inl ne2803)
    have F2873 := F2848.other W2865 (Or.inl ne2803)
    have F2874 := F2849.other W2865 (Or.inl ne2803)
    have F2875 := F2850.other W2865 (Or.inl ne2803)
    have F2876 := F2851.other W2865 (Or.inl ne2803)
    have F2877 := F2852.other W2865 (Or.inl ne2803)
    have V2878 := V2853.other W2865 ne2804
    have V2879 := V2854.other W2865 ne2805
    have V2880 := V2855.other W2865 ne2806
    have V2881 := V2856.other W2865 ne2807
    have V2882 := V2857.other W2865 ne2808
    have V2883 := V2858.other W2865 ne2809
    have V2884 := V2859.other W2865 ne2810
    have V2885 := V2860.other W2865 ne2811
    have V2886 := V2861.other W2865 ne2812
    have V2887 := V2862.other W2865 ne2813
    have V2888 := V2863.other W2865 ne2814
    have V2889 := V2864.other W2865 ne2815
    refine own_astore X2865 hx (hb hby at_557) rfl #[.val (.int v0), .val (.int v1), .val (.int v2), .val (.ref a2319), .val (.ref a2347), .val (.ref a2382), .val (.int (Int32.ofNat n2497)), .val (.int (Int32.ofNat n2499)), .val (.int (Int32.ofNat n2500)), .val (.int (Int32.ofNat n2501)), .val (.int (Int32.ofNat n2503)), .val (.int (Int32.ofNat n2505)), .val (.int (Int32.ofNat n2507)), .val (.int (Int32.ofNat n2513)), .val (.int (Int32.ofNat n2518)), .val (.int (Int32.ofNat n2521)), .val (.int (Int32.ofNat n2524)), .val (.int (Int32.ofNat n2532)), .val (.int (Int32.ofNat n2536)), .val (.int (Int32.ofNat n2541)), .val (.int (Int32.ofNat n2546)), .val (.int (Int32.ofNat n2553)), .val (.ref a2554), .val (.ref a2638), .val (.ref a2718), .val (.ref a2802), .unset, .unset, .unset, .unset, .unset] rfl 559 rfl ?_
    refine own_iconst X2865 hx (hb hby at_559) (2 : Int32) rfl 560 rfl ?_
    refine own_newI X2865 hx hZ (own_w hw 0 rfl) e2865 (hb hby at_560) 2 rfl 2 (by decide) (by decide) (by decide) (by decide) 562 rfl (fun T2890 h2890 a2890 g2890 X2890 e2890 E2890 V2890 => ?_)
    have ne2891 : a2382 ≠ a2890 := by rw [g2890]; exact Nat.ne_of_lt E2868.lt
    have ne2892 : a2319 ≠ a2890 := by rw [g2890]; exact Nat.ne_of_lt V2878.lt
    have ne2893 : a2347 ≠ a2890 := by rw [g2890]; exact Nat.ne_of_lt V2879.lt
    have ne2894 : el_ ≠ a2890 := by rw [g2890]; exact Nat.ne_of_lt V2880.lt
    have ne2895 : pl_ ≠ a2890 := by rw [g2890]; exact Nat.ne_of_lt V2881.lt
    have ne2896 : so_ ≠ a2890 := by rw [g2890]; exact Nat.ne_of_lt V2882.lt
    have ne2897 : fi_ ≠ a2890 := by rw [g2890]; exact Nat.ne_of_lt V2883.lt
    have ne2898 : en_ ≠ a2890 := by rw [g2890]; exact Nat.ne_of_lt V2884.lt
    have ne2899 : un_ ≠ a2890 := by rw [g2890]; exact Nat.ne_of_lt V2885.lt
    have ne2900 : to_ ≠ a2890 := by rw [g2890]; exact Nat.ne_of_lt V2886.lt
    have ne2901 : a2554 ≠ a2890 := by rw [g2890]; exact Nat.ne_of_lt V2887.lt
    have ne2902 : a2638 ≠ a2890 := by rw [g2890]; exact Nat.ne_of_lt V2888.lt
    have ne2903 : a2718 ≠ a2890 := by rw [g2890]; exact Nat.ne_of_lt V2889.lt
    have ne2904 : a2802 ≠ a2890 := by rw [g2890]; exact Nat.ne_of_lt V2865.lt
    have ge2905 : n0 ≤ a2890 := by rw [g2890]; exact Z2867
    have Z2906 : n0 ≤ h2890.size := Nat.le_trans Z2867 E2890.1
    have E2907 := E2868.ext E2890
    have F2908 := F2869.ext E2890
    have F2909 := F2870.ext E2890
    have F2910 := F2871.ext E2890
    have F2911 := F2872.ext E2890
    have F2912 := F2873.ext E2890
    have F2913 := F2874.ext E2890
    have F2914 := F2875.ext E2890
    have F2915 := F2876.ext E2890
    have F2916 := F2877.ext E2890
    have V2917 := V2878.ext E2890
    have V2918 := V2879.ext E2890
    have V2919 := V2880.ext E2890
    have V2920 := V2881.ext E2890
    have V2921 := V2882.ext E2890
    have V2922 := V2883.ext E2890
    have V2923 := V2884.ext E2890
    have V2924 := V2885.ext E2890
    have V2925 := V2886.ext E2890
    have V2926 := V2887.ext E2890
    have V2927 := V2888.ext E2890
    have V2928 := V2889.ext E2890
    have V2929 := V2865.ext E2890
    rw [show (List.replicate 2 (0 : Int32)) = (own_M [0, 0]) from rfl] at V2890
    refine own_dup X2890 hx (hb hby at_562) rfl 563 rfl ?_
    refine own_iconst X2890 hx (hb hby at_563) (0 : Int32) rfl 564 rfl ?_
    refine own_iload X2890 hx (hb hby at_564) rfl 566 rfl ?_
    refine own_iastore X2890 hx hZ e2890 V2890 0 rfl (by show 0 < 2; decide) (hb hby at_566) 567 rfl (fun T2930 h2930 X2930 e2930 W2930 V2930 => ?_)
    rw [show (own_M [0, 0]).set 0 (Int32.ofNat n2541) = (own_M [n2541, 0]) from rfl] at V2930
    have N2931 := Fr.snoc X2930 N2866 ge2905
    have Z2932 : n0 ≤ h2930.size := by rw [W2930.size]; exact Z2906
    have E2933 := E2907.wr W2930
    have F2934 := F2908.other W2930 (Or.inl ne2891)
    have F2935 := F2909.other W2930 (Or.inl ne2891)
    have F2936 := F2910.other W2930 (Or.inl ne2891)
    have F2937 := F2911.other W2930 (Or.inl ne2891)
    have F2938 := F2912.other W2930 (Or.inl ne2891)
    have F2939 := F2913.other W2930 (Or.inl ne2891)
    have F2940 := F2914.other W2930 (Or.inl ne2891)
    have F2941 := F2915.other W2930 (Or.inl ne2891)
    have F2942 := F2916.other W2930 (Or.inl ne2891)
    have V2943 := V2917.other W2930 ne2892
    have V2944 := V2918.other W2930 ne2893
    have V2945 := V2919.other W2930 ne2894
    have V2946 := V2920.other W2930 ne2895
    have V2947 := V2921.other W2930 ne2896
    have V2948 := V2922.other W2930 ne2897
    have V2949 := V2923.other W2930 ne2898
    have V2950 := V2924.other W2930 ne2899
    have V2951 := V2925.other W2930 ne2900
    have V2952 := V2926.other W2930 ne2901
    have V2953 := V2927.other W2930 ne2902
    have V2954 := V2928.other W2930 ne2903
    have V2955 := V2929.other W2930 ne2904
    refine own_dup X2930 hx (hb hby at_567) rfl 568 rfl ?_
    refine own_iconst X2930 hx (hb hby at_568) (1 : Int32) rfl 569 rfl ?_
    refine own_iload X2930 hx (hb hby at_569) rfl 571 rfl ?_
    refine own_iastore X2930 hx hZ e2930 V2930 1 rfl (by show 1 < 2; decide) (hb hby at_571) 572 rfl (fun T2956 h2956 X2956 e2956 W2956 V2956 => ?_)
    rw [show (own_M [n2541, 0]).set 1 (Int32.ofNat n2546) = (own_M [n2541, n2546]) from rfl] at V2956
    have N2957 := Fr.snoc X2956 N2931 ge2905
    have Z2958 : n0 ≤ h2956.size := by rw [W2956.size]; exact Z2932
    have E2959 := E2933.wr W2956
    have F2960 := F2934.other W2956 (Or.inl ne2891)
    have F2961 := F2935.other W2956 (Or.inl ne2891)
    have F2962 := F2936.other W2956 (Or.inl ne2891)
    have F2963 := F2937.other W2956 (Or.inl ne2891)
    have F2964 := F2938.other W2956 (Or.inl ne2891)
    have F2965 := F2939.other W2956 (Or.inl ne2891)
    have F2966 := F2940.other W2956 (Or.inl ne2891)
    have F2967 := F2941.other W2956 (Or.inl ne2891)
    have F2968 := F2942.other W2956 (Or.inl ne2891)
    have V2969 := V2943.other W2956 ne2892
    have V2970 := V2944.other W2956 ne2893
    have V2971 := V2945.other W2956 ne2894
    have V2972 := V2946.other W2956 ne2895
    have V2973 := V2947.other W2956 ne2896
    have V2974 := V2948.other W2956 ne2897
    have V2975 := V2949.other W2956 ne2898
    have V2976 := V2950.other W2956 ne2899
    have V2977 := V2951.other W2956 ne2900
    have V2978 := V2952.other W2956 ne2901
    have V2979 := V2953.other W2956 ne2902
    have V2980 := V2954.other W2956 ne2903
    have V2981 := V2955.other W2956 ne2904
    refine own_astore X2956 hx (hb hby at_572) rfl #[.val (.int v0), .val (.int v1), .val (.int v2), .val (.ref a2319), .val (.ref a2347), .val (.ref a2382), .val (.int (Int32.ofNat n2497)), .val (.int (Int32.ofNat n2499)), .val (.int (Int32.ofNat n2500)), .val (.int (Int32.ofNat n2501)), .val (.int (Int32.ofNat n2503)), .val (.int (Int32.ofNat n2505)), .val (.int (Int32.ofNat n2507)), .val (.int (Int32.ofNat n2513)), .val (.int (Int32.ofNat n2518)), .val (.int (Int32.ofNat n2521)), .val (.int (Int32.ofNat n2524)), .val (.int (Int32.ofNat n2532)), .val (.int (Int32.ofNat n2536)), .val (.int (Int32.ofNat n2541)), .val (.int (Int32.ofNat n2546)), .val (.int (Int32.ofNat n2553)), .val (.ref a2554), .val (.ref a2638), .val (.ref a2718), .val (.ref a2802), .val (.ref a2890), .unset, .unset, .unset, .unset] rfl 574 rfl ?_
    refine own_aload X2956 hx (hb hby at_574) rfl rfl 576 rfl ?_
    refine own_callV X2956 hx hZ hown (own_w hw 62 rfl) (own_w hw 63 rfl) (own_w hw 65 rfl) (notFace_of_selects (args := #[]) (mvT hZ (own_w hw 65 rfl))) (own_w hw 64 rfl) (own_w hw 7 rfl) (own_w hw 66 rfl) (by decide) e2956 E2959 (rmCnt l Z a0 hw [] a2319 a2347 a2382 el_ pl_ so_ fi_ en_ un_ to_ [k0, k1, k2, k3, k4] [m0, m1, m2, m3, m4] el6 pl6 so6 fi6 en6 un6 to6 cnt6 tc6 h2956 n0 ⟨E2959, F2960, F2961, F2962, F2963, F2964, F2965, F2966, F2967, F2968, V2969, V2970, V2971, V2972, V2973, V2974, V2975, V2976, V2977⟩ ) (by rw [hml]; rfl) pd_6 (argsL := []) rfl (rest := []) rfl (hb hby at_576) 0 (Nat.le_of_eq rfl) (by decide) (by decide) (by decide) (by decide) 579 rfl (fun T2982 L2982 v2982 X2982 hQ2982 => ?_)
    obtain ⟨rfl, N2982, e2982⟩ := hQ2982
    have N2983 := Fr.app N2957 N2982
    show own_Go p e below G (T2982.setTop (mkF m 579 #[.val (.int v0), .val (.int v1), .val (.int v2), .val (.ref a2319), .val (.ref a2347), .val (.ref a2382), .val (.int (Int32.ofNat n2497)), .val (.int (Int32.ofNat n2499)), .val (.int (Int32.ofNat n2500)), .val (.int (Int32.ofNat n2501)), .val (.int (Int32.ofNat n2503)), .val (.int (Int32.ofNat n2505)), .val (.int (Int32.ofNat n2507)), .val (.int (Int32.ofNat n2513)), .val (.int (Int32.ofNat n2518)), .val (.int (Int32.ofNat n2521)), .val (.int (Int32.ofNat n2524)), .val (.int (Int32.ofNat n2532)), .val (.int (Int32.ofNat n2536)), .val (.int (Int32.ofNat n2541)), .val (.int (Int32.ofNat n2546)), .val (.int (Int32.ofNat n2553)), .val (.ref a2554), .val (.ref a2638), .val (.ref a2718), .val (.ref a2802), .val (.ref a2890), .unset, .unset, .unset, .unset] [(.int (Int32.ofNat cnt6))]))
    refine own_iload X2982 hx (hb hby at_579) rfl 581 rfl ?_
    obtain ⟨hg2984, hs2984⟩ := own_ifE hs2615
    obtain ⟨hg2985, hs2985⟩ := own_ifE hs2984
    refine own_icmpN X2982 hx (hb hby at_581) (teq ((own_eqN (a := cnt6) (b := n2553) hg2984).mpr hg2985)).2 584 rfl ?_
    refine own_aload X2982 hx (hb hby at_584) rfl rfl 586 rfl ?_
    refine own_iconst X2982 hx (hb hby at_586) (0 : Int32) rfl 587 rfl ?_
    refine own_aloadN X2982 hx (hb hby at_587) rfl rfl 588 rfl ?_
    refine own_iconst X2982 hx (hb hby at_588) (0 : Int32) rfl 589 rfl ?_
    refine own_iaload X2982 hx hZ e2982 V2969 0 rfl (Int32.ofNat k0) rfl (hb hby at_589) 590 rfl ?_
    refine own_aload X2982 hx (hb hby at_590) rfl rfl 592 rfl ?_
    refine own_iconst X2982 hx (hb hby at_592) (0 : Int32) rfl 593 rfl ?_
    refine own_iaload X2982 hx hZ e2982 V2970 0 rfl (Int32.ofNat m0) rfl (hb hby at_593) 594 rfl ?_
    refine own_aload X2982 hx (hb hby at_594) rfl rfl 596 rfl ?_
    refine own_aload X2982 hx (hb hby at_596) rfl rfl 598 rfl ?_
    refine own_aload X2982 hx (hb hby at_598) rfl rfl 600 rfl ?_
    refine own_aload X2982 hx (hb hby at_600) rfl rfl 602 rfl ?_
    refine own_aload X2982 hx (hb hby at_602) rfl rfl 604 rfl ?_
    obtain ⟨n2986, hn2986, hs2986⟩ := own_be hs2985
    refine own_callS X2982 hx hZ hown (own_w hw 67 rfl) (own_w hw 68 rfl) (own_w hw 3 rfl) (own_w hw 69 rfl) (by decide) e2982 (rmElem l Z a0 hw [] a2319 a2347 a2382 el_ pl_ so_ fi_ en_ un_ to_ [k0, k1, k2, k3, k4] [m0, m1, m2, m3, m4] el6 pl6 so6 fi6 en6 un6 to6 cnt6 tc6 a2554 a2638 a2718 a2802 a2890 [n2589, n2615] [n2503, n2500] [n2505, n2507] [0, n2536] [n2541, n2546] 0 k0 m0 h2956 n0 ⟨E2959, F2960, F2961, F2962, F2963, F2964, F2965, F2966, F2967, F2968, V2969, V2970, V2971, V2972, V2973, V2974, V2975, V2976, V2977⟩ V2978 V2979 V2980 V2981 V2956 hn2986) (by rw [hml]; rfl) pd_7 (argsL := [(.ref a2382), (.int (0 : Int32)), (.int (Int32.ofNat k0)), (.int (Int32.ofNat m0)), (.ref a2554), (.ref a2638), (.ref a2718), (.ref a2802), (.ref a2890)]) rfl (rest := []) rfl (hb hby at_604) 0 (Nat.le_of_eq rfl) (by decide) (by decide) (by decide) (by decide) 607 rfl (fun T2987 L2987 v2987 X2987 hQ2987 => ?_)
    obtain ⟨rfl, N2987, e2987⟩ := hQ2987
    have N2988 := Fr.app N2983 N2987
    show own_Go p e below G (T2987.setTop (mkF m 607 #[.val (.int v0), .val (.int v1), .val (.int v2), .val (.ref a2319), .val (.ref a2347), .val (.ref a2382), .val (.int (Int32.ofNat n2497)), .val (.int (Int32.ofNat n2499)), .val (.int (Int32.ofNat n2500)), .val (.int (Int32.ofNat n2501)), .val (.int (Int32.ofNat n2503)), .val (.int (Int32.ofNat n2505)), .val (.int (Int32.ofNat n2507)), .val (.int (Int32.ofNat n2513)), .val (.int (Int32.ofNat n2518)), .val (.int (Int32.ofNat n2521)), .val (.int (Int32.ofNat n2524)), .val (.int (Int32.ofNat n2532)), .val (.int (Int32.ofNat n2536)), .val (.int (Int32.ofNat n2541)), .val (.int (Int32.ofNat n2546)), .val (.int (Int32.ofNat n2553)), .val (.ref a2554), .val (.ref a2638), .val (.ref a2718), .val (.ref a2802), .val (.ref a2890), .unset, .unset, .unset, .unset] [(.int (1 : Int32))]))
    refine own_ifN X2987 hx (hb hby at_607) ((if0 _ _).trans (feq (by decide)).1) 610 rfl ?_
    refine own_aload X2987 hx (hb hby at_610) rfl rfl 612 rfl ?_
    refine own_iconst X2987 hx (hb hby at_612) (1 : Int32) rfl 613 rfl ?_
    refine own_aloadN X2987 hx (hb hby at_613) rfl rfl 614 rfl ?_
    refine own_iconst X2987 hx (hb hby at_614) (1 : Int32) rfl 615 rfl ?_
    refine own_iaload X2987 hx hZ e2987 V2969 1 rfl (Int32.ofNat k1) rfl (hb hby at_615) 616 rfl ?_
    refine own_aload X2987 hx (hb hby at_616) rfl rfl 618 rfl ?_
    refine own_iconst X2987 hx (hb hby at_618) (1 : Int32) rfl 619 rfl ?_
    refine own_iaload X2987 hx hZ e2987 V2970 1 rfl (Int32.ofNat m1) rfl (hb hby at_619) 620 rfl ?_
    refine own_aload X2987 hx (hb hby at_620) rfl rfl 622 rfl ?_
    refine own_aload X2987 hx (hb hby at_622) rfl rfl 624 rfl ?_
    refine own_aload X2987 hx (hb hby at_624) rfl rfl 626 rfl ?_
    refine own_aload X2987 hx (hb hby at_626) rfl rfl 628 rfl ?_
    refine own_aload X2987 hx (hb hby at_628) rfl rfl 630 rfl ?_
    obtain ⟨n2989, hn2989, hs2989⟩ := own_be hs2986
    refine own_callS X2987 hx hZ hown (own_w hw 67 rfl) (own_w hw 68 rfl) (own_w hw 3 rfl) (own_w hw 69 rfl) (by decide) e2987 (rmElem l Z a0 hw [] a2319 a2347 a2382 el_ pl_ so_ fi_ en_ un_ to_ [k0, k1, k2, k3, k4] [m0, m1, m2, m3, m4] el6 pl6 so6 fi6 en6 un6 to6 cnt6 tc6 a2554 a2638 a2718 a2802 a2890 [n2589, n2615] [n2503, n2500] [n2505, n2507] [0, n2536] [n2541, n2546] 1 k1 m1 h2956 n0 ⟨E2959, F2960, F2961, F2962, F2963, F2964, F2965, F2966, F2967, F2968, V2969, V2970, V2971, V2972, V2973, V2974, V2975, V2976, V2977⟩ V2978 V2979 V2980 V2981 V2956 hn2989) (by rw [hml]; rfl) pd_7 (argsL := [(.ref a2382), (.int (1 : Int32)), (.int (Int32.ofNat k1)), (.int (Int32.ofNat m1)), (.ref a2554), (.ref a2638), (.ref a2718), (.ref a2802), (.ref a2890)]) rfl (rest := []) rfl (hb hby at_630) 0 (Nat.le_of_eq rfl) (by decide) (by decide) (by decide) (by decide) 633 rfl (fun T2990 L2990 v2990 X2990 hQ2990 => ?_)
    obtain ⟨rfl, N2990, e2990⟩ := hQ2990
    have N2991 := Fr.app N2988 N2990
    show own_Go p e below G (T2990.setTop (mkF m 633 #[.val (.int v0), .val (.int v1), .val (.int v2), .val (.ref a2319), .val (.ref a2347), .val (.ref a2382), .val (.int (Int32.ofNat n2497)), .val (.int (Int32.ofNat n2499)), .val (.int (Int32.ofNat n2500)), .val (.int (Int32.ofNat n2501)), .val (.int (Int32.ofNat n2503)), .val (.int (Int32.ofNat n2505)), .val (.int (Int32.ofNat n2507)), .val (.int (Int32.ofNat n2513)), .val (.int (Int32.ofNat n2518)), .val (.int (Int32.ofNat n2521)), .val (.int (Int32.ofNat n2524)), .val (.int (Int32.ofNat n2532)), .val (.int (Int32.ofNat n2536)), .val (.int (Int32.ofNat n2541)), .val (.int (Int32.ofNat n2546)), .val (.int (Int32.ofNat n2553)), .val (.ref a2554), .val (.ref a2638), .val (.ref a2718), .val (.ref a2802), .val (.ref a2890), .unset, .unset, .unset, .unset] [(.int (1 : Int32))]))
    refine own_ifN X2990 hx (hb hby at_633) ((if0 _ _).trans (feq (by decide)).1) 636 rfl ?_
    refine own_aload X2990 hx (hb hby at_636) rfl rfl 638 rfl ?_
    refine own_iconst X2990 hx (hb hby at_638) (2 : Int32) rfl 639 rfl ?_
    refine own_aloadN X2990 hx (hb hby at_639) rfl rfl 640 rfl ?_
    refine own_iconst X2990 hx (hb hby at_640) (2 : Int32) rfl 641 rfl ?_
    refine own_iaload X2990 hx hZ e2990 V2969 2 rfl (Int32.ofNat k2) rfl (hb hby at_641) 642 rfl ?_
    refine own_aload X2990 hx (hb hby at_642) rfl rfl 644 rfl ?_
    refine own_iconst X2990 hx (hb hby at_644) (2 : Int32) rfl 645 rfl ?_
    refine own_iaload X2990 hx hZ e2990 V2970 2 rfl (Int32.ofNat m2) rfl (hb hby at_645) 646 rfl ?_
    refine own_aload X2990 hx (hb hby at_646) rfl rfl 648 rfl ?_
    refine own_aload X2990 hx (hb hby at_648) rfl rfl 650 rfl ?_
    refine own_aload X2990 hx (hb hby at_650) rfl rfl 652 rfl ?_
    refine own_aload X2990 hx (hb hby at_652) rfl rfl 654 rfl ?_
    refine own_aload X2990 hx (hb hby at_654) rfl rfl 656 rfl ?_
    obtain ⟨n2992, hn2992, hs2992⟩ := own_be hs2989
    refine own_callS X2990 hx hZ hown (own_w hw 67 rfl) (own_w hw 68 rfl) (own_w hw 3 rfl) (own_w hw 69 rfl) (by decide) e2990 (rmElem l Z a0 hw [] a2319 a2347 a2382 el_ pl_ so_ fi_ en_ un_ to_ [k0, k1, k2, k3, k4] [m0, m1, m2, m3, m4] el6 pl6 so6 fi6 en6 un6 to6 cnt6 tc6 a2554 a2638 a2718 a2802 a2890 [n2589, n2615] [n2503, n2500] [n2505, n2507] [0, n2536] [n2541, n2546] 2 k2 m2 h2956 n0 ⟨E2959, F2960, F2961, F2962, F2963, F2964, F2965, F2966, F2967, F2968, V2969, V2970, V2971, V2972, V2973, V2974, V2975, V2976, V2977⟩ V2978 V2979 V2980 V2981 V2956 hn2992) (by rw [hml]; rfl) pd_7 (argsL := [(.ref a2382), (.int (2 : Int32)), (.int (Int32.ofNat k2)), (.int (Int32.ofNat m2)), (.ref a2554), (.ref a2638), (.ref a2718), (.ref a2802), (.ref a2890)]) rfl (rest := []) rfl (hb hby at_656) 0 (Nat.le_of_eq rfl) (by decide) (by decide) (by decide) (by decide) 659 rfl (fun T2993 L2993 v2993 X2993 hQ2993 => ?_)
    obtain ⟨rfl, N2993, e2993⟩ := hQ2993
    have N2994 := Fr.app N2991 N2993
    show own_Go p e below G (T2993.setTop (mkF m 659 #[.val (.int v0), .val (.int v1), .val (.int v2), .val (.ref a2319), .val (.ref a2347), .val (.ref a2382), .val (.int (Int32.ofNat n2497)), .val (.int (Int32.ofNat n2499)), .val (.int (Int32.ofNat n2500)), .val (.int (Int32.ofNat n2501)), .val (.int (Int32.ofNat n2503)), .val (.int (Int32.ofNat n2505)), .val (.int (Int32.ofNat n2507)), .val (.int (Int32.ofNat n2513)), .val (.int (Int32.ofNat n2518)), .val (.int (Int32.ofNat n2521)), .val (.int (Int32.ofNat n2524)), .val (.int (Int32.ofNat n2532)), .val (.int (Int32.ofNat n2536)), .val (.int (Int32.ofNat n2541)), .val (.int (Int32.ofNat n2546)), .val (.int (Int32.ofNat n2553)), .val (.ref a2554), .val (.ref a2638), .val (.ref a2718), .val (.ref a2802), .val (.ref a2890), .unset, .unset, .unset, .unset] [(.int (1 : Int32))]))
    refine own_ifN X2993 hx (hb hby at_659) ((if0 _ _).trans (feq (by decide)).1) 662 rfl ?_
    refine own_aload X2993 hx (hb hby at_662) rfl rfl 664 rfl ?_
    refine own_iconst X2993 hx (hb hby at_664) (3 : Int32) rfl 665 rfl ?_
    refine own_aloadN X2993 hx (hb hby at_665) rfl rfl 666 rfl ?_
    refine own_iconst X2993 hx (hb hby at_666) (3 : Int32) rfl 667 rfl ?_
    refine own_iaload X2993 hx hZ e2993 V2969 3 rfl (Int32.ofNat k3) rfl (hb hby at_667) 668 rfl ?_
    refine own_aload X2993 hx (hb hby at_668) rfl rfl 670 rfl ?_
    refine own_iconst X2993 hx (hb hby at_670) (3 : Int32) rfl 671 rfl ?_
    refine own_iaload X2993 hx hZ e2993 V2970 3 rfl (Int32.ofNat m3) rfl (hb hby at_671) 672 rfl ?_
    refine own_aload X2993 hx (hb hby at_672) rfl rfl 674 rfl ?_
    refine own_aload X2993 hx (hb hby at_674) rfl rfl 676 rfl ?_
    refine own_aload X2993 hx (hb hby at_676) rfl rfl 678 rfl ?_
    refine own_aload X2993 hx (hb hby at_678) rfl rfl 680 rfl ?_
    refine own_aload X2993 hx (hb hby at_680) rfl rfl 682 rfl ?_
    obtain ⟨n2995, hn2995, hs2995⟩ := own_be hs2992
    refine own_callS X2993 hx hZ hown (own_w hw 67 rfl) (own_w hw 68 rfl) (own_w hw 3 rfl) (own_w hw 69 rfl) (by decide) e2993 (rmElem l Z a0 hw [] a2319 a2347 a2382 el_ pl_ so_ fi_ en_ un_ to_ [k0, k1, k2, k3, k4] [m0, m1, m2, m3, m4] el6 pl6 so6 fi6 en6 un6 to6 cnt6 tc6 a2554 a2638 a2718 a2802 a2890 [n2589, n2615] [n2503, n2500] [n2505, n2507] [0, n2536] [n2541, n2546] 3 k3 m3 h2956 n0 ⟨E2959, F2960, F2961, F2962, F2963, F2964, F2965, F2966, F2967, F2968, V2969, V2970, V2971, V2972, V2973, V2974, V2975, V2976, V2977⟩ V2978 V2979 V2980 V2981 V2956 hn2995) (by rw [hml]; rfl) pd_7 (argsL := [(.ref a2382), (.int (3 : Int32)), (.int (Int32.ofNat k3)), (.int (Int32.ofNat m3)), (.ref a2554), (.ref a2638), (.ref a2718), (.ref a2802), (.ref a2890)]) rfl (rest := []) rfl (hb hby at_682) 0 (Nat.le_of_eq rfl) (by decide) (by decide) (by decide) (by decide) 685 rfl (fun T2996 L2996 v2996 X2996 hQ2996 => ?_)
    obtain ⟨rfl, N2996, e2996⟩ := hQ2996
    have N2997 := Fr.app N2994 N2996
    show own_Go p e below G (T2996.setTop (mkF m 685 #[.val (.int v0), .val (.int v1), .val (.int v2), .val (.ref a2319), .val (.ref a2347), .val (.ref a2382), .val (.int (Int32.ofNat n2497)), .val (.int (Int32.ofNat n2499)), .val (.int (Int32.ofNat n2500)), .val (.int (Int32.ofNat n2501)), .val (.int (Int32.ofNat n2503)), .val (.int (Int32.ofNat n2505)), .val (.int (Int32.ofNat n2507)), .val (.int (Int32.ofNat n2513)), .val (.int (Int32.ofNat n2518)), .val (.int (Int32.ofNat n2521)), .val (.int (Int32.ofNat n2524)), .val (.int (Int32.ofNat n2532)), .val (.int (Int32.ofNat n2536)), .val (.int (Int32.ofNat n2541)), .val (.int (Int32.ofNat n2546)), .val (.int (Int32.ofNat n2553)), .val (.ref a2554), .val (.ref a2638), .val (.ref a2718), .val (.ref a2802), .val (.ref a2890), .unset, .unset, .unset, .unset] [(.int (1 : Int32))]))
    refine own_ifN X2996 hx (hb hby at_685) ((if0 _ _).trans (feq (by decide)).1) 688 rfl ?_
    refine own_aload X2996 hx (hb hby at_688) rfl rfl 690 rfl ?_
    refine own_iconst X2996 hx (hb hby at_690) (4 : Int32) rfl 691 rfl ?_
    refine own_aloadN X2996 hx (hb hby at_691) rfl rfl 692 rfl ?_
    refine own_iconst X2996 hx (hb hby at_692) (4 : Int32) rfl 693 rfl ?_
    refine own_iaload X2996 hx hZ e2996 V2969 4 rfl (Int32.ofNat k4) rfl (hb hby at_693) 694 rfl ?_
    refine own_aload X2996 hx (hb hby at_694) rfl rfl 696 rfl ?_
    refine own_iconst X2996 hx (hb hby at_696) (4 : Int32) rfl 697 rfl ?_
    refine own_iaload X2996 hx hZ e2996 V2970 4 rfl (Int32.ofNat m4) rfl (hb hby at_697) 698 rfl ?_
    refine own_aload X2996 hx (hb hby at_698) rfl rfl 700 rfl ?_
    refine own_aload X2996 hx (hb hby at_700) rfl rfl 702 rfl ?_
    refine own_aload X2996 hx (hb hby at_702) rfl rfl 704 rfl ?_
    refine own_aload X2996 hx (hb hby at_704) rfl rfl 706 rfl ?_
    refine own_aload X2996 hx (hb hby at_706) rfl rfl 708 rfl ?_
    obtain ⟨n2998, hn2998, hs2998⟩ := own_be hs2995
    refine own_callS X2996 hx hZ hown (own_w hw 67 rfl) (own_w hw 68 rfl) (own_w hw 3 rfl) (own_w hw 69 rfl) (by decide) e2996 (rmElem l Z a0 hw [] a2319 a2347 a2382 el_ pl_ so_ fi_ en_ un_ to_ [k0, k1, k2, k3, k4] [m0, m1, m2, m3, m4] el6 pl6 so6 fi6 en6 un6 to6 cnt6 tc6 a2554 a2638 a2718 a2802 a2890 [n2589, n2615] [n2503, n2500] [n2505, n2507] [0, n2536] [n2541, n2546] 4 k4 m4 h2956 n0 ⟨E2959, F2960, F2961, F2962, F2963, F2964, F2965, F2966, F2967, F2968, V2969, V2970, V2971, V2972, V2973, V2974, V2975, V2976, V2977⟩ V2978 V2979 V2980 V2981 V2956 hn2998) (by rw [hml]; rfl) pd_7 (argsL := [(.ref a2382), (.int (4 : Int32)), (.int (Int32.ofNat k4)), (.int (Int32.ofNat m4)), (.ref a2554), (.ref a2638), (.ref a2718), (.ref a2802), (.ref a2890)]) rfl (rest := []) rfl (hb hby at_708) 0 (Nat.le_of_eq rfl) (by decide) (by decide) (by decide) (by decide) 711 rfl (fun T2999 L2999 v2999 X2999 hQ2999 => ?_)
    obtain ⟨rfl, N2999, e2999⟩ := hQ2999
    have N3000 := Fr.app N2997 N2999
    show own_Go p e below G (T2999.setTop (mkF m 711 #[.val (.int v0), .val (.int v1), .val (.int v2), .val (.ref a2319), .val (.ref a2347), .val (.ref a2382), .val (.int (Int32.ofNat n2497)), .val (.int (Int32.ofNat n2499)), .val (.int (Int32.ofNat n2500)), .val (.int (Int32.ofNat n2501)), .val (.int (Int32.ofNat n2503)), .val (.int (Int32.ofNat n2505)), .val (.int (Int32.ofNat n2507)), .val (.int (Int32.ofNat n2513)), .val (.int (Int32.ofNat n2518)), .val (.int (Int32.ofNat n2521)), .val (.int (Int32.ofNat n2524)), .val (.int (Int32.ofNat n2532)), .val (.int (Int32.ofNat n2536)), .val (.int (Int32.ofNat n2541)), .val (.int (Int32.ofNat n2546)), .val (.int (Int32.ofNat n2553)), .val (.ref a2554), .val (.ref a2638), .val (.ref a2718), .val (.ref a2802), .val (.ref a2890), .unset, .unset, .unset, .unset] [(.int (1 : Int32))]))
    refine own_ifN X2999 hx (hb hby at_711) ((if0 _ _).trans (feq (by decide)).1) 714 rfl ?_
    refine own_iconst X2999 hx (hb hby at_714) (1 : Int32) rfl 715 rfl ?_
    refine own_goto X2999 hx (hb hby at_715) 719 ⟨by decide, by decide⟩ ?_
    refine own_istore X2999 hx (hb hby at_719) #[.val (.int v0), .val (.int v1), .val (.int v2), .val (.ref a2319), .val (.ref a2347), .val (.ref a2382), .val (.int (Int32.ofNat n2497)), .val (.int (Int32.ofNat n2499)), .val (.int (Int32.ofNat n2500)), .val (.int (Int32.ofNat n2501)), .val (.int (Int32.ofNat n2503)), .val (.int (Int32.ofNat n2505)), .val (.int (Int32.ofNat n2507)), .val (.int (Int32.ofNat n2513)), .val (.int (Int32.ofNat n2518)), .val (.int (Int32.ofNat n2521)), .val (.int (Int32.ofNat n2524)), .val (.int (Int32.ofNat n2532)), .val (.int (Int32.ofNat n2536)), .val (.int (Int32.ofNat n2541)), .val (.int (Int32.ofNat n2546)), .val (.int (Int32.ofNat n2553)), .val (.ref a2554), .val (.ref a2638), .val (.ref a2718), .val (.ref a2802), .val (.ref a2890), .val (.int (1 : Int32)), .unset, .unset, .unset] rfl 721 rfl ?_
    refine own_iload X2999 hx (hb hby at_721) rfl 723 rfl ?_
    refine own_ifY X2999 hx (hb hby at_723) ((if0 _ _).trans (feq (by decide)).2) 728 ⟨by decide, by decide⟩ ?_
    rw [← Option.some.inj hs2998] at hsC
    refine own_iloadN X2999 hx (hb hby at_728) rfl 729 rfl ?_
    refine own_ldcInt X2999 hx hown (mvT hZ (own_w hw 80 rfl)) (hb hby at_729) 731 rfl ?_
    refine own_iand X2999 hx (hb hby at_731) 732 rfl ?_
    refine own_iconst X2999 hx (hb hby at_732) (5 : Int32) rfl 733 rfl ?_
    refine own_irem X2999 hx (hb hby at_733) (by decide) 734 rfl ?_
    rw [hpk]
    refine own_istore X2999 hx (hb hby at_734) #[.val (.int v0), .val (.int v1), .val (.int v2), .val (.ref a2319), .val (.ref a2347), .val (.ref a2382), .val (.int (Int32.ofNat n2497)), .val (.int (Int32.ofNat n2499)), .val (.int (Int32.ofNat n2500)), .val (.int (Int32.ofNat n2501)), .val (.int (Int32.ofNat n2503)), .val (.int (Int32.ofNat n2505)), .val (.int (Int32.ofNat n2507)), .val (.int (Int32.ofNat n2513)), .val (.int (Int32.ofNat n2518)), .val (.int (Int32.ofNat n2521)), .val (.int (Int32.ofNat n2524)), .val (.int (Int32.ofNat n2532)), .val (.int (Int32.ofNat n2536)), .val (.int (Int32.ofNat n2541)), .val (.int (Int32.ofNat n2546)), .val (.int (Int32.ofNat n2553)), .val (.ref a2554), .val (.ref a2638), .val (.ref a2718), .val (.ref a2802), .val (.ref a2890), .val (.int (1 : Int32)), .val (.int (Int32.ofNat e2)), .unset, .unset] rfl 736 rfl ?_
    refine own_aload X2999 hx (hb hby at_736) rfl rfl 738 rfl ?_
    refine own_iload X2999 hx (hb hby at_738) rfl 740 rfl ?_
    obtain ⟨n3001, hn3001, hs3001⟩ := own_be hsC
    refine own_callV X2999 hx hZ hown (own_w hw 70 rfl) (own_w hw 71 rfl) (own_w hw 73 rfl) (notFace_of_selects (args := #[]) (mvT hZ (own_w hw 73 rfl))) (own_w hw 72 rfl) (own_w hw 7 rfl) (own_w hw 74 rfl) (by decide) e2999 E2959 (rmSet l Z a0 hw [] a2319 a2347 a2382 el_ pl_ so_ fi_ en_ un_ to_ [k0, k1, k2, k3, k4] [m0, m1, m2, m3, m4] el6 pl6 so6 fi6 en6 un6 to6 cnt6 tc6 e2 n3001 h2956 n0 ⟨E2959, F2960, F2961, F2962, F2963, F2964, F2965, F2966, F2967, F2968, V2969, V2970, V2971, V2972, V2973, V2974, V2975, V2976, V2977⟩ hn3001) (by rw [hml]; rfl) pd_1 (argsL := [(.int (Int32.ofNat e2))]) rfl (rest := []) rfl (hb hby at_740) 0 (Nat.le_of_eq rfl) (by decide) (by decide) (by decide) (by decide) 743 rfl (fun T3002 L3002 v3002 X3002 hQ3002 => ?_)
    obtain ⟨rfl, N3002, e3002⟩ := hQ3002
    have N3003 := Fr.app N3000 N3002
    show own_Go p e below G (T3002.setTop (mkF m 743 #[.val (.int v0), .val (.int v1), .val (.int v2), .val (.ref a2319), .val (.ref a2347), .val (.ref a2382), .val (.int (Int32.ofNat n2497)), .val (.int (Int32.ofNat n2499)), .val (.int (Int32.ofNat n2500)), .val (.int (Int32.ofNat n2501)), .val (.int (Int32.ofNat n2503)), .val (.int (Int32.ofNat n2505)), .val (.int (Int32.ofNat n2507)), .val (.int (Int32.ofNat n2513)), .val (.int (Int32.ofNat n2518)), .val (.int (Int32.ofNat n2521)), .val (.int (Int32.ofNat n2524)), .val (.int (Int32.ofNat n2532)), .val (.int (Int32.ofNat n2536)), .val (.int (Int32.ofNat n2541)), .val (.int (Int32.ofNat n2546)), .val (.int (Int32.ofNat n2553)), .val (.ref a2554), .val (.ref a2638), .val (.ref a2718), .val (.ref a2802), .val (.ref a2890), .val (.int (1 : Int32)), .val (.int (Int32.ofNat e2)), .unset, .unset] [(.int (Int32.ofNat n3001))]))
    refine own_istore X3002 hx (hb hby at_743) #[.val (.int v0), .val (.int v1), .val (.int v2), .val (.ref a2319), .val (.ref a2347), .val (.ref a2382), .val (.int (Int32.ofNat n2497)), .val (.int (Int32.ofNat n2499)), .val (.int (Int32.ofNat n2500)), .val (.int (Int32.ofNat n2501)), .val (.int (Int32.ofNat n2503)), .val (.int (Int32.ofNat n2505)), .val (.int (Int32.ofNat n2507)), .val (.int (Int32.ofNat n2513)), .val (.int (Int32.ofNat n2518)), .val (.int (Int32.ofNat n2521)), .val (.int (Int32.ofNat n2524)), .val (.int (Int32.ofNat n2532)), .val (.int (Int32.ofNat n2536)), .val (.int (Int32.ofNat n2541)), .val (.int (Int32.ofNat n2546)), .val (.int (Int32.ofNat n2553)), .val (.ref a2554), .val (.ref a2638), .val (.ref a2718), .val (.ref a2802), .val (.ref a2890), .val (.int (1 : Int32)), .val (.int (Int32.ofNat e2)), .val (.int (Int32.ofNat n3001)), .unset] rfl 745 rfl ?_
    refine own_aload X3002 hx (hb hby at_745) rfl rfl 747 rfl ?_
    refine own_iload X3002 hx (hb hby at_747) rfl 749 rfl ?_
    obtain ⟨n3004, hn3004, hs3004⟩ := own_be hs3001
    obtain ⟨n3005, hn3005, hs3005⟩ := own_be hs3004
    obtain ⟨hg3006, hs3006⟩ := own_ifE hs3005
    refine own_callV X3002 hx hZ hown (own_w hw 75 rfl) (own_w hw 76 rfl) (own_w hw 78 rfl) (notFace_of_selects (args := #[]) (mvT hZ (own_w hw 78 rfl))) (own_w hw 77 rfl) (own_w hw 7 rfl) (own_w hw 79 rfl) (by decide) e3002 E2959 (rmSize l Z a0 hw [] a2319 a2347 a2382 el_ pl_ so_ fi_ en_ un_ to_ [k0, k1, k2, k3, k4] [m0, m1, m2, m3, m4] el6 pl6 so6 fi6 en6 un6 to6 cnt6 tc6 n3001 n3004 n3005 h2956 n0 ⟨E2959, F2960, F2961, F2962, F2963, F2964, F2965, F2966, F2967, F2968, V2969, V2970, V2971, V2972, V2973, V2974, V2975, V2976, V2977⟩ hn3004 hn3005 hg3006) (by rw [hml]; rfl) pd_1 (argsL := [(.int (Int32.ofNat n3001))]) rfl (rest := []) rfl (hb hby at_749) 0 (Nat.le_of_eq rfl) (by decide) (by decide) (by decide) (by decide) 752 rfl (fun T3007 L3007 v3007 X3007 hQ3007 => ?_)
    obtain ⟨rfl, N3007, e3007⟩ := hQ3007
    have N3008 := Fr.app N3003 N3007
    show own_Go p e below G (T3007.setTop (mkF m 752 #[.val (.int v0), .val (.int v1), .val (.int v2), .val (.ref a2319), .val (.ref a2347), .val (.ref a2382), .val (.int (Int32.ofNat n2497)), .val (.int (Int32.ofNat n2499)), .val (.int (Int32.ofNat n2500)), .val (.int (Int32.ofNat n2501)), .val (.int (Int32.ofNat n2503)), .val (.int (Int32.ofNat n2505)), .val (.int (Int32.ofNat n2507)), .val (.int (Int32.ofNat n2513)), .val (.int (Int32.ofNat n2518)), .val (.int (Int32.ofNat n2521)), .val (.int (Int32.ofNat n2524)), .val (.int (Int32.ofNat n2532)), .val (.int (Int32.ofNat n2536)), .val (.int (Int32.ofNat n2541)), .val (.int (Int32.ofNat n2546)), .val (.int (Int32.ofNat n2553)), .val (.ref a2554), .val (.ref a2638), .val (.ref a2718), .val (.ref a2802), .val (.ref a2890), .val (.int (1 : Int32)), .val (.int (Int32.ofNat e2)), .val (.int (Int32.ofNat n3001)), .unset] [(.int (Int32.ofNat (n3004 - n3005)))]))
    refine own_istore X3007 hx (hb hby at_752) #[.val (.int v0), .val (.int v1), .val (.int v2), .val (.ref a2319), .val (.ref a2347), .val (.ref a2382), .val (.int (Int32.ofNat n2497)), .val (.int (Int32.ofNat n2499)), .val (.int (Int32.ofNat n2500)), .val (.int (Int32.ofNat n2501)), .val (.int (Int32.ofNat n2503)), .val (.int (Int32.ofNat n2505)), .val (.int (Int32.ofNat n2507)), .val (.int (Int32.ofNat n2513)), .val (.int (Int32.ofNat n2518)), .val (.int (Int32.ofNat n2521)), .val (.int (Int32.ofNat n2524)), .val (.int (Int32.ofNat n2532)), .val (.int (Int32.ofNat n2536)), .val (.int (Int32.ofNat n2541)), .val (.int (Int32.ofNat n2546)), .val (.int (Int32.ofNat n2553)), .val (.ref a2554), .val (.ref a2638), .val (.ref a2718), .val (.ref a2802), .val (.ref a2890), .val (.int (1 : Int32)), .val (.int (Int32.ofNat e2)), .val (.int (Int32.ofNat n3001)), .val (.int (Int32.ofNat (n3004 - n3005)))] rfl 754 rfl ?_
    refine own_aload X3007 hx (hb hby at_754) rfl rfl 756 rfl ?_
    refine own_iload X3007 hx (hb hby at_756) rfl 758 rfl ?_
    obtain ⟨⟨el3009, pl3009, so3009, fi3009, en3009, un3009, to3009, cnt3009, tc3009⟩, hn3010, hs3010⟩ := own_be hs3006
    refine own_callV X3007 hx hZ hown (own_w hw 43 rfl) (own_w hw 44 rfl) (own_w hw 46 rfl) (notFace_of_selects (args := #[]) (mvT hZ (own_w hw 46 rfl))) (own_w hw 45 rfl) (own_w hw 7 rfl) (own_w hw 47 rfl) (by decide) e3007 E2959 (rmMark l Z a0 hw [] a2319 a2347 a2382 el_ pl_ so_ fi_ en_ un_ to_ [k0, k1, k2, k3, k4] [m0, m1, m2, m3, m4] el6 pl6 so6 fi6 en6 un6 to6 cnt6 tc6 el3009 pl3009 so3009 fi3009 en3009 un3009 to3009 cnt3009 tc3009 e2 h2956 n0 Z2958 ga hord ⟨E2959, F2960, F2961, F2962, F2963, F2964, F2965, F2966, F2967, F2968, V2969, V2970, V2971, V2972, V2973, V2974, V2975, V2976, V2977⟩ hn3010) (by rw [hml]; rfl) pd_8 (argsL := [(.int (Int32.ofNat e2))]) rfl (rest := []) rfl (hb hby at_758) 0 (Nat.le_of_eq rfl) (by decide) (by decide) (by decide) (by decide) 761 rfl (fun T3011 L3011 v3011 X3011 hQ3011 => ?_)
    obtain ⟨rfl, N3011, Z3011, B3011⟩ := hQ3011
    have N3012 := Fr.app N3008 N3011
    obtain ⟨E3011, F0_3011, F1_3011, F2_3011, F3_3011, F4_3011, F5_3011, F6_3011, F7_3011, F8_3011, V0_3011, V1_3011, V2_3011, V3_3011, V4_3011, V5_3011, V6_3011, V7_3011, V8_3011⟩ := B3011
    show own_Go p e below G (T3011.setTop (mkF m 761 #[.val (.int v0), .val (.int v1), .val (.int v2), .val (.ref a2319), .val (.ref a2347), .val (.ref a2382), .val (.int (Int32.ofNat n2497)), .val (.int (Int32.ofNat n2499)), .val (.int (Int32.ofNat n2500)), .val (.int (Int32.ofNat n2501)), .val (.int (Int32.ofNat n2503)), .val (.int (Int32.ofNat n2505)), .val (.int (Int32.ofNat n2507)), .val (.int (Int32.ofNat n2513)), .val (.int (Int32.ofNat n2518)), .val (.int (Int32.ofNat n2521)), .val (.int (Int32.ofNat n2524)), .val (.int (Int32.ofNat n2532)), .val (.int (Int32.ofNat n2536)), .val (.int (Int32.ofNat n2541)), .val (.int (Int32.ofNat n2546)), .val (.int (Int32.ofNat n2553)), .val (.ref a2554), .val (.ref a2638), .val (.ref a2718), .val (.ref a2802), .val (.ref a2890), .val (.int (1 : Int32)), .val (.int (Int32.ofNat e2)), .val (.int (Int32.ofNat n3001)), .val (.int (Int32.ofNat (n3004 - n3005)))] []))
    refine own_aload X3011 hx (hb hby at_761) rfl rfl 763 rfl ?_
    obtain ⟨⟨el3013, pl3013, so3013, fi3013, en3013, un3013, to3013, cnt3013, tc3013⟩, hn3014, hs3014⟩ := own_be hs3010
    refine own_callV X3011 hx hZ hown (own_w hw 54 rfl) (own_w hw 55 rfl) (own_w hw 57 rfl) (notFace_of_selects (args := #[]) (mvT hZ (own_w hw 57 rfl))) (own_w hw 56 rfl) (own_w hw 7 rfl) (own_w hw 58 rfl) (by decide) (rfl : T3011.heap = T3011.heap) E3011 (rmSplit l Z a0 hw [] a2319 a2347 a2382 el_ pl_ so_ fi_ en_ un_ to_ [k0, k1, k2, k3, k4] [m0, m1, m2, m3, m4] el3009 pl3009 so3009 fi3009 en3009 un3009 to3009 cnt3009 tc3009 el3013 pl3013 so3013 fi3013 en3013 un3013 to3013 cnt3013 tc3013 T3011.heap n0 Z3011 ga hord ⟨E3011, F0_3011, F1_3011, F2_3011, F3_3011, F4_3011, F5_3011, F6_3011, F7_3011, F8_3011, V0_3011, V1_3011, V2_3011, V3_3011, V4_3011, V5_3011, V6_3011, V7_3011, V8_3011⟩ hn3014) (by rw [hml]; rfl) pd_4 (argsL := []) rfl (rest := []) rfl (hb hby at_763) 0 (Nat.le_of_eq rfl) (by decide) (by decide) (by decide) (by decide) 766 rfl (fun T3015 L3015 v3015 X3015 hQ3015 => ?_)
    obtain ⟨rfl, N3015, Z3015, B3015⟩ := hQ3015
    have N3016 := Fr.app N3012 N3015
    obtain ⟨E3015, F0_3015, F1_3015, F2_3015, F3_3015, F4_3015, F5_3015, F6_3015, F7_3015, F8_3015, V0_3015, V1_3015, V2_3015, V3_3015, V4_3015, V5_3015, V6_3015, V7_3015, V8_3015⟩ := B3015
    show own_Go p e below G (T3015.setTop (mkF m 766 #[.val (.int v0), .val (.int v1), .val (.int v2), .val (.ref a2319), .val (.ref a2347), .val (.ref a2382), .val (.int (Int32.ofNat n2497)), .val (.int (Int32.ofNat n2499)), .val (.int (Int32.ofNat n2500)), .val (.int (Int32.ofNat n2501)), .val (.int (Int32.ofNat n2503)), .val (.int (Int32.ofNat n2505)), .val (.int (Int32.ofNat n2507)), .val (.int (Int32.ofNat n2513)), .val (.int (Int32.ofNat n2518)), .val (.int (Int32.ofNat n2521)), .val (.int (Int32.ofNat n2524)), .val (.int (Int32.ofNat n2532)), .val (.int (Int32.ofNat n2536)), .val (.int (Int32.ofNat n2541)), .val (.int (Int32.ofNat n2546)), .val (.int (Int32.ofNat n2553)), .val (.ref a2554), .val (.ref a2638), .val (.ref a2718), .val (.ref a2802), .val (.ref a2890), .val (.int (1 : Int32)), .val (.int (Int32.ofNat e2)), .val (.int (Int32.ofNat n3001)), .val (.int (Int32.ofNat (n3004 - n3005)))] []))
    refine own_iload X3015 hx (hb hby at_766) rfl 768 rfl ?_
    refine own_iconst X3015 hx (hb hby at_768) (2 : Int32) rfl 769 rfl ?_
    obtain ⟨hg3017, hs3017⟩ := own_ifE hs3014
    by_cases c3018 : (n3004 - n3005) < 2
    ·
      have hs3019 := (if_pos c3018).symm.trans hs3017
      refine own_icmpY X3015 hx (hb hby at_769) (tlt ((own_ltN (a := (n3004 - n3005)) (b := 2) hg3017).mpr c3018)).1 827 ⟨by decide, by decide⟩ ?_
      refine own_aload X3015 hx (hb hby at_827) rfl rfl 829 rfl ?_
      refine own_iload X3015 hx (hb hby at_829) rfl 831 rfl ?_
      obtain ⟨n3020, hn3020, hs3020⟩ := own_be hs3019
      refine own_callV X3015 hx hZ hown (own_w hw 70 rfl) (own_w hw 71 rfl) (own_w hw 73 rfl) (notFace_of_selects (args := #[]) (mvT hZ (own_w hw 73 rfl))) (own_w hw 72 rfl) (own_w hw 7 rfl) (own_w hw 74 rfl) (by decide) (rfl : T3015.heap = T3015.heap) E3015 (rmSet l Z a0 hw [] a2319 a2347 a2382 el_ pl_ so_ fi_ en_ un_ to_ [k0, k1, k2, k3, k4] [m0, m1, m2, m3, m4] el3013 pl3013 so3013 fi3013 en3013 un3013 to3013 cnt3013 tc3013 e2 n3020 T3015.heap n0 ⟨E3015, F0_3015, F1_3015, F2_3015, F3_3015, F4_3015, F5_3015, F6_3015, F7_3015, F8_3015, V0_3015, V1_3015, V2_3015, V3_3015, V4_3015, V5_3015, V6_3015, V7_3015, V8_3015⟩ hn3020) (by rw [hml]; rfl) pd_1 (argsL := [(.int (Int32.ofNat e2))]) rfl (rest := []) rfl (hb hby at_831) 0 (Nat.le_of_eq rfl) (by decide) (by decide) (by decide) (by decide) 834 rfl (fun T3021 L3021 v3021 X3021 hQ3021 => ?_)
      obtain ⟨rfl, N3021, e3021⟩ := hQ3021
      have N3022 := Fr.app N3016 N3021
      show own_Go p e below G (T3021.setTop (mkF m 834 #[.val (.int v0), .val (.int v1), .val (.int v2), .val (.ref a2319), .val (.ref a2347), .val (.ref a2382), .val (.int (Int32.ofNat n2497)), .val (.int (Int32.ofNat n2499)), .val (.int (Int32.ofNat n2500)), .val (.int (Int32.ofNat n2501)), .val (.int (Int32.ofNat n2503)), .val (.int (Int32.ofNat n2505)), .val (.int (Int32.ofNat n2507)), .val (.int (Int32.ofNat n2513)), .val (.int (Int32.ofNat n2518)), .val (.int (Int32.ofNat n2521)), .val (.int (Int32.ofNat n2524)), .val (.int (Int32.ofNat n2532)), .val (.int (Int32.ofNat n2536)), .val (.int (Int32.ofNat n2541)), .val (.int (Int32.ofNat n2546)), .val (.int (Int32.ofNat n2553)), .val (.ref a2554), .val (.ref a2638), .val (.ref a2718), .val (.ref a2802), .val (.ref a2890), .val (.int (1 : Int32)), .val (.int (Int32.ofNat e2)), .val (.int (Int32.ofNat n3001)), .val (.int (Int32.ofNat (n3004 - n3005)))] [(.int (Int32.ofNat n3020))]))
      refine own_iload X3021 hx (hb hby at_834) rfl 836 rfl ?_
      obtain ⟨hg3023, hs3023⟩ := own_ifE hs3020
      obtain ⟨hg3024, hs3024⟩ := own_ifE hs3023
      refine own_icmpN X3021 hx (hb hby at_836) (teq ((own_eqN (a := n3020) (b := n3001) hg3023).mpr hg3024)).2 839 rfl ?_
      refine own_aload X3021 hx (hb hby at_839) rfl rfl 841 rfl ?_
      refine own_iload X3021 hx (hb hby at_841) rfl 843 rfl ?_
      obtain ⟨n3025, hn3025, hs3025⟩ := own_be hs3024
      obtain ⟨n3026, hn3026, hs3026⟩ := own_be hs3025
      obtain ⟨hg3027, hs3027⟩ := own_ifE hs3026
      refine own_callV X3021 hx hZ hown (own_w hw 75 rfl) (own_w hw 76 rfl) (own_w hw 78 rfl) (notFace_of_selects (args := #[]) (mvT hZ (own_w hw 78 rfl))) (own_w hw 77 rfl) (own_w hw 7 rfl) (own_w hw 79 rfl) (by decide) e3021 E3015 (rmSize l Z a0 hw [] a2319 a2347 a2382 el_ pl_ so_ fi_ en_ un_ to_ [k0, k1, k2, k3, k4] [m0, m1, m2, m3, m4] el3013 pl3013 so3013 fi3013 en3013 un3013 to3013 cnt3013 tc3013 n3001 n3025 n3026 T3015.heap n0 ⟨E3015, F0_3015, F1_3015, F2_3015, F3_3015, F4_3015, F5_3015, F6_3015, F7_3015, F8_3015, V0_3015, V1_3015, V2_3015, V3_3015, V4_3015, V5_3015, V6_3015, V7_3015, V8_3015⟩ hn3025 hn3026 hg3027) (by rw [hml]; rfl) pd_1 (argsL := [(.int (Int32.ofNat n3001))]) rfl (rest := []) rfl (hb hby at_843) 0 (Nat.le_of_eq rfl) (by decide) (by decide) (by decide) (by decide) 846 rfl (fun T3028 L3028 v3028 X3028 hQ3028 => ?_)
      obtain ⟨rfl, N3028, e3028⟩ := hQ3028
      have N3029 := Fr.app N3022 N3028
      show own_Go p e below G (T3028.setTop (mkF m 846 #[.val (.int v0), .val (.int v1), .val (.int v2), .val (.ref a2319), .val (.ref a2347), .val (.ref a2382), .val (.int (Int32.ofNat n2497)), .val (.int (Int32.ofNat n2499)), .val (.int (Int32.ofNat n2500)), .val (.int (Int32.ofNat n2501)), .val (.int (Int32.ofNat n2503)), .val (.int (Int32.ofNat n2505)), .val (.int (Int32.ofNat n2507)), .val (.int (Int32.ofNat n2513)), .val (.int (Int32.ofNat n2518)), .val (.int (Int32.ofNat n2521)), .val (.int (Int32.ofNat n2524)), .val (.int (Int32.ofNat n2532)), .val (.int (Int32.ofNat n2536)), .val (.int (Int32.ofNat n2541)), .val (.int (Int32.ofNat n2546)), .val (.int (Int32.ofNat n2553)), .val (.ref a2554), .val (.ref a2638), .val (.ref a2718), .val (.ref a2802), .val (.ref a2890), .val (.int (1 : Int32)), .val (.int (Int32.ofNat e2)), .val (.int (Int32.ofNat n3001)), .val (.int (Int32.ofNat (n3004 - n3005)))] [(.int (Int32.ofNat (n3025 - n3026)))]))
      refine own_iconst X3028 hx (hb hby at_846) (1 : Int32) rfl 847 rfl ?_
      obtain ⟨hg3030, hs3030⟩ := own_ifE hs3027
      obtain ⟨hg3031, hs3031⟩ := own_ifE hs3030
      refine own_icmpN X3028 hx (hb hby at_847) (teq ((own_eqN (a := (n3025 - n3026)) (b := 1) hg3030).mpr hg3031)).2 850 rfl ?_
      refine own_aload X3028 hx (hb hby at_850) rfl rfl 852 rfl ?_
      refine own_callV X3028 hx hZ hown (own_w hw 62 rfl) (own_w hw 63 rfl) (own_w hw 65 rfl) (notFace_of_selects (args := #[]) (mvT hZ (own_w hw 65 rfl))) (own_w hw 64 rfl) (own_w hw 7 rfl) (own_w hw 66 rfl) (by decide) e3028 E3015 (rmCnt l Z a0 hw [] a2319 a2347 a2382 el_ pl_ so_ fi_ en_ un_ to_ [k0, k1, k2, k3, k4] [m0, m1, m2, m3, m4] el3013 pl3013 so3013 fi3013 en3013 un3013 to3013 cnt3013 tc3013 T3015.heap n0 ⟨E3015, F0_3015, F1_3015, F2_3015, F3_3015, F4_3015, F5_3015, F6_3015, F7_3015, F8_3015, V0_3015, V1_3015, V2_3015, V3_3015, V4_3015, V5_3015, V6_3015, V7_3015, V8_3015⟩ ) (by rw [hml]; rfl) pd_6 (argsL := []) rfl (rest := []) rfl (hb hby at_852) 0 (Nat.le_of_eq rfl) (by decide) (by decide) (by decide) (by decide) 855 rfl (fun T3032 L3032 v3032 X3032 hQ3032 => ?_)
      obtain ⟨rfl, N3032, e3032⟩ := hQ3032
      have N3033 := Fr.app N3029 N3032
      show own_Go p e below G (T3032.setTop (mkF m 855 #[.val (.int v0), .val (.int v1), .val (.int v2), .val (.ref a2319), .val (.ref a2347), .val (.ref a2382), .val (.int (Int32.ofNat n2497)), .val (.int (Int32.ofNat n2499)), .val (.int (Int32.ofNat n2500)), .val (.int (Int32.ofNat n2501)), .val (.int (Int32.ofNat n2503)), .val (.int (Int32.ofNat n2505)), .val (.int (Int32.ofNat n2507)), .val (.int (Int32.ofNat n2513)), .val (.int (Int32.ofNat n2518)), .val (.int (Int32.ofNat n2521)), .val (.int (Int32.ofNat n2524)), .val (.int (Int32.ofNat n2532)), .val (.int (Int32.ofNat n2536)), .val (.int (Int32.ofNat n2541)), .val (.int (Int32.ofNat n2546)), .val (.int (Int32.ofNat n2553)), .val (.ref a2554), .val (.ref a2638), .val (.ref a2718), .val (.ref a2802), .val (.ref a2890), .val (.int (1 : Int32)), .val (.int (Int32.ofNat e2)), .val (.int (Int32.ofNat n3001)), .val (.int (Int32.ofNat (n3004 - n3005)))] [(.int (Int32.ofNat cnt3013))]))
      refine own_iload X3032 hx (hb hby at_855) rfl 857 rfl ?_
      obtain ⟨hg3034, hs3034⟩ := own_ifE hs3031
      obtain ⟨hg3035, hs3035⟩ := own_ifE hs3034
      refine own_icmpN X3032 hx (hb hby at_857) (teq ((own_eqN (a := cnt3013) (b := n2553) hg3034).mpr hg3035)).2 860 rfl ?_
      refine own_iconst X3032 hx (hb hby at_860) (1 : Int32) rfl 861 rfl ?_
      refine own_goto X3032 hx (hb hby at_861) 865 ⟨by decide, by decide⟩ ?_
      refine own_nreturn X3032 hx Bd.notSynchronized hG Bd.returns (by simp) (hb hby at_865) (by decide) (by decide) ?_
      rw [e3032]
      exact ⟨rfl, N3033⟩
    ·
      have hs3036 := (if_neg c3018).symm.trans hs3017
      refine own_icmpN X3015 hx (hb hby at_769) (flt (fun q => c3018 ((own_ltN (a := (n3004 - n3005)) (b := 2) hg3017).mp q))).1 772 rfl ?_
      refine own_aload X3015 hx (hb hby at_772) rfl rfl 774 rfl ?_
      refine own_iload X3015 hx (hb hby at_774) rfl 776 rfl ?_
      obtain ⟨n3037, hn3037, hs3037⟩ := own_be hs3036
      refine own_callV X3015 hx hZ hown (own_w hw 70 rfl) (own_w hw 71 rfl) (own_w hw 73 rfl) (notFace_of_selects (args := #[]) (mvT hZ (own_w hw 73 rfl))) (own_w hw 72 rfl) (own_w hw 7 rfl) (own_w hw 74 rfl) (by decide) (rfl : T3015.heap = T3015.heap) E3015 (rmSet l Z a0 hw [] a2319 a2347 a2382 el_ pl_ so_ fi_ en_ un_ to_ [k0, k1, k2, k3, k4] [m0, m1, m2, m3, m4] el3013 pl3013 so3013 fi3013 en3013 un3013 to3013 cnt3013 tc3013 e2 n3037 T3015.heap n0 ⟨E3015, F0_3015, F1_3015, F2_3015, F3_3015, F4_3015, F5_3015, F6_3015, F7_3015, F8_3015, V0_3015, V1_3015, V2_3015, V3_3015, V4_3015, V5_3015, V6_3015, V7_3015, V8_3015⟩ hn3037) (by rw [hml]; rfl) pd_1 (argsL := [(.int (Int32.ofNat e2))]) rfl (rest := []) rfl (hb hby at_776) 0 (Nat.le_of_eq rfl) (by decide) (by decide) (by decide) (by decide) 779 rfl (fun T3038 L3038 v3038 X3038 hQ3038 => ?_)
      obtain ⟨rfl, N3038, e3038⟩ := hQ3038
      have N3039 := Fr.app N3016 N3038
      show own_Go p e below G (T3038.setTop (mkF m 779 #[.val (.int v0), .val (.int v1), .val (.int v2), .val (.ref a2319), .val (.ref a2347), .val (.ref a2382), .val (.int (Int32.ofNat n2497)), .val (.int (Int32.ofNat n2499)), .val (.int (Int32.ofNat n2500)), .val (.int (Int32.ofNat n2501)), .val (.int (Int32.ofNat n2503)), .val (.int (Int32.ofNat n2505)), .val (.int (Int32.ofNat n2507)), .val (.int (Int32.ofNat n2513)), .val (.int (Int32.ofNat n2518)), .val (.int (Int32.ofNat n2521)), .val (.int (Int32.ofNat n2524)), .val (.int (Int32.ofNat n2532)), .val (.int (Int32.ofNat n2536)), .val (.int (Int32.ofNat n2541)), .val (.int (Int32.ofNat n2546)), .val (.int (Int32.ofNat n2553)), .val (.ref a2554), .val (.ref a2638), .val (.ref a2718), .val (.ref a2802), .val (.ref a2890), .val (.int (1 : Int32)), .val (.int (Int32.ofNat e2)), .val (.int (Int32.ofNat n3001)), .val (.int (Int32.ofNat (n3004 - n3005)))] [(.int (Int32.ofNat n3037))]))
      refine own_iload X3038 hx (hb hby at_779) rfl 781 rfl ?_
      obtain ⟨hg3040, hs3040⟩ := own_ifE hs3037
      obtain ⟨hg3041, hs3041⟩ := own_ifE hs3040
      refine own_icmpN X3038 hx (hb hby at_781) (teq ((own_eqN (a := n3037) (b := n2553) hg3040).mpr hg3041)).2 784 rfl ?_
      refine own_aload X3038 hx (hb hby at_784) rfl rfl 786 rfl ?_
      refine own_iload X3038 hx (hb hby at_786) rfl 788 rfl ?_
      obtain ⟨n3042, hn3042, hs3042⟩ := own_be hs3041
      obtain ⟨n3043, hn3043, hs3043⟩ := own_be hs3042
      obtain ⟨hg3044, hs3044⟩ := own_ifE hs3043
      refine own_callV X3038 hx hZ hown (own_w hw 75 rfl) (own_w hw 76 rfl) (own_w hw 78 rfl) (notFace_of_selects (args := #[]) (mvT hZ (own_w hw 78 rfl))) (own_w hw 77 rfl) (own_w hw 7 rfl) (own_w hw 79 rfl) (by decide) e3038 E3015 (rmSize l Z a0 hw [] a2319 a2347 a2382 el_ pl_ so_ fi_ en_ un_ to_ [k0, k1, k2, k3, k4] [m0, m1, m2, m3, m4] el3013 pl3013 so3013 fi3013 en3013 un3013 to3013 cnt3013 tc3013 n2553 n3042 n3043 T3015.heap n0 ⟨E3015, F0_3015, F1_3015, F2_3015, F3_3015, F4_3015, F5_3015, F6_3015, F7_3015, F8_3015, V0_3015, V1_3015, V2_3015, V3_3015, V4_3015, V5_3015, V6_3015, V7_3015, V8_3015⟩ hn3042 hn3043 hg3044) (by rw [hml]; rfl) pd_1 (argsL := [(.int (Int32.ofNat n2553))]) rfl (rest := []) rfl (hb hby at_788) 0 (Nat.le_of_eq rfl) (by decide) (by decide) (by decide) (by decide) 791 rfl (fun T3045 L3045 v3045 X3045 hQ3045 => ?_)
      obtain ⟨rfl, N3045, e3045⟩ := hQ3045
      have N3046 := Fr.app N3039 N3045
      show own_Go p e below G (T3045.setTop (mkF m 791 #[.val (.int v0), .val (.int v1), .val (.int v2), .val (.ref a2319), .val (.ref a2347), .val (.ref a2382), .val (.int (Int32.ofNat n2497)), .val (.int (Int32.ofNat n2499)), .val (.int (Int32.ofNat n2500)), .val (.int (Int32.ofNat n2501)), .val (.int (Int32.ofNat n2503)), .val (.int (Int32.ofNat n2505)), .val (.int (Int32.ofNat n2507)), .val (.int (Int32.ofNat n2513)), .val (.int (Int32.ofNat n2518)), .val (.int (Int32.ofNat n2521)), .val (.int (Int32.ofNat n2524)), .val (.int (Int32.ofNat n2532)), .val (.int (Int32.ofNat n2536)), .val (.int (Int32.ofNat n2541)), .val (.int (Int32.ofNat n2546)), .val (.int (Int32.ofNat n2553)), .val (.ref a2554), .val (.ref a2638), .val (.ref a2718), .val (.ref a2802), .val (.ref a2890), .val (.int (1 : Int32)), .val (.int (Int32.ofNat e2)), .val (.int (Int32.ofNat n3001)), .val (.int (Int32.ofNat (n3004 - n3005)))] [(.int (Int32.ofNat (n3042 - n3043)))]))
      refine own_iconst X3045 hx (hb hby at_791) (1 : Int32) rfl 792 rfl ?_
      obtain ⟨hg3047, hs3047⟩ := own_ifE hs3044
      obtain ⟨hg3048, hs3048⟩ := own_ifE hs3047
      refine own_icmpN X3045 hx (hb hby at_792) (teq ((own_eqN (a := (n3042 - n3043)) (b := 1) hg3047).mpr hg3048)).2 795 rfl ?_
      refine own_aload X3045 hx (hb hby at_795) rfl rfl 797 rfl ?_
      refine own_iload X3045 hx (hb hby at_797) rfl 799 rfl ?_
      obtain ⟨n3049, hn3049, hs3049⟩ := own_be hs3048
      obtain ⟨n3050, hn3050, hs3050⟩ := own_be hs3049
      obtain ⟨hg3051, hs3051⟩ := own_ifE hs3050
      refine own_callV X3045 hx hZ hown (own_w hw 75 rfl) (own_w hw 76 rfl) (own_w hw 78 rfl) (notFace_of_selects (args := #[]) (mvT hZ (own_w hw 78 rfl))) (own_w hw 77 rfl) (own_w hw 7 rfl) (own_w hw 79 rfl) (by decide) e3045 E3015 (rmSize l Z a0 hw [] a2319 a2347 a2382 el_ pl_ so_ fi_ en_ un_ to_ [k0, k1, k2, k3, k4] [m0, m1, m2, m3, m4] el3013 pl3013 so3013 fi3013 en3013 un3013 to3013 cnt3013 tc3013 n3001 n3049 n3050 T3015.heap n0 ⟨E3015, F0_3015, F1_3015, F2_3015, F3_3015, F4_3015, F5_3015, F6_3015, F7_3015, F8_3015, V0_3015, V1_3015, V2_3015, V3_3015, V4_3015, V5_3015, V6_3015, V7_3015, V8_3015⟩ hn3049 hn3050 hg3051) (by rw [hml]; rfl) pd_1 (argsL := [(.int (Int32.ofNat n3001))]) rfl (rest := []) rfl (hb hby at_799) 0 (Nat.le_of_eq rfl) (by decide) (by decide) (by decide) (by decide) 802 rfl (fun T3052 L3052 v3052 X3052 hQ3052 => ?_)
      obtain ⟨rfl, N3052, e3052⟩ := hQ3052
      have N3053 := Fr.app N3046 N3052
      show own_Go p e below G (T3052.setTop (mkF m 802 #[.val (.int v0), .val (.int v1), .val (.int v2), .val (.ref a2319), .val (.ref a2347), .val (.ref a2382), .val (.int (Int32.ofNat n2497)), .val (.int (Int32.ofNat n2499)), .val (.int (Int32.ofNat n2500)), .val (.int (Int32.ofNat n2501)), .val (.int (Int32.ofNat n2503)), .val (.int (Int32.ofNat n2505)), .val (.int (Int32.ofNat n2507)), .val (.int (Int32.ofNat n2513)), .val (.int (Int32.ofNat n2518)), .val (.int (Int32.ofNat n2521)), .val (.int (Int32.ofNat n2524)), .val (.int (Int32.ofNat n2532)), .val (.int (Int32.ofNat n2536)), .val (.int (Int32.ofNat n2541)), .val (.int (Int32.ofNat n2546)), .val (.int (Int32.ofNat n2553)), .val (.ref a2554), .val (.ref a2638), .val (.ref a2718), .val (.ref a2802), .val (.ref a2890), .val (.int (1 : Int32)), .val (.int (Int32.ofNat e2)), .val (.int (Int32.ofNat n3001)), .val (.int (Int32.ofNat (n3004 - n3005)))] [(.int (Int32.ofNat (n3049 - n3050)))]))
      refine own_iload X3052 hx (hb hby at_802) rfl 804 rfl ?_
      refine own_iconst X3052 hx (hb hby at_804) (1 : Int32) rfl 805 rfl ?_
      obtain ⟨hg3054, hs3054⟩ := own_ifE hs3051
      refine own_isubE X3052 hx (hb hby at_805) (Int32.ofNat ((n3004 - n3005) - 1)) (own_subN hg3054) 806 rfl ?_
      obtain ⟨hg3055, hs3055⟩ := own_ifE hs3054
      obtain ⟨hg3056, hs3056⟩ := own_ifE hs3055
      refine own_icmpN X3052 hx (hb hby at_806) (teq ((own_eqN (a := (n3049 - n3050)) (b := ((n3004 - n3005) - 1)) hg3055).mpr hg3056)).2 809 rfl ?_
      refine own_aload X3052 hx (hb hby at_809) rfl rfl 811 rfl ?_
      refine own_callV X3052 hx hZ hown (own_w hw 62 rfl) (own_w hw 63 rfl) (own_w hw 65 rfl) (notFace_of_selects (args := #[]) (mvT hZ (own_w hw 65 rfl))) (own_w hw 64 rfl) (own_w hw 7 rfl) (own_w hw 66 rfl) (by decide) e3052 E3015 (rmCnt l Z a0 hw [] a2319 a2347 a2382 el_ pl_ so_ fi_ en_ un_ to_ [k0, k1, k2, k3, k4] [m0, m1, m2, m3, m4] el3013 pl3013 so3013 fi3013 en3013 un3013 to3013 cnt3013 tc3013 T3015.heap n0 ⟨E3015, F0_3015, F1_3015, F2_3015, F3_3015, F4_3015, F5_3015, F6_3015, F7_3015, F8_3015, V0_3015, V1_3015, V2_3015, V3_3015, V4_3015, V5_3015, V6_3015, V7_3015, V8_3015⟩ ) (by rw [hml]; rfl) pd_6 (argsL := []) rfl (rest := []) rfl (hb hby at_811) 0 (Nat.le_of_eq rfl) (by decide) (by decide) (by decide) (by decide) 814 rfl (fun T3057 L3057 v3057 X3057 hQ3057 => ?_)
      obtain ⟨rfl, N3057, e3057⟩ := hQ3057
      have N3058 := Fr.app N3053 N3057
      show own_Go p e below G (T3057.setTop (mkF m 814 #[.val (.int v0), .val (.int v1), .val (.int v2), .val (.ref a2319), .val (.ref a2347), .val (.ref a2382), .val (.int (Int32.ofNat n2497)), .val (.int (Int32.ofNat n2499)), .val (.int (Int32.ofNat n2500)), .val (.int (Int32.ofNat n2501)), .val (.int (Int32.ofNat n2503)), .val (.int (Int32.ofNat n2505)), .val (.int (Int32.ofNat n2507)), .val (.int (Int32.ofNat n2513)), .val (.int (Int32.ofNat n2518)), .val (.int (Int32.ofNat n2521)), .val (.int (Int32.ofNat n2524)), .val (.int (Int32.ofNat n2532)), .val (.int (Int32.ofNat n2536)), .val (.int (Int32.ofNat n2541)), .val (.int (Int32.ofNat n2546)), .val (.int (Int32.ofNat n2553)), .val (.ref a2554), .val (.ref a2638), .val (.ref a2718), .val (.ref a2802), .val (.ref a2890), .val (.int (1 : Int32)), .val (.int (Int32.ofNat e2)), .val (.int (Int32.ofNat n3001)), .val (.int (Int32.ofNat (n3004 - n3005)))] [(.int (Int32.ofNat cnt3013))]))
      refine own_iload X3057 hx (hb hby at_814) rfl 816 rfl ?_
      refine own_iconst X3057 hx (hb hby at_816) (1 : Int32) rfl 817 rfl ?_
      refine own_iaddE X3057 hx (hb hby at_817) (Int32.ofNat (n2553 + 1)) (own_addN n2553 1) 818 rfl ?_
      obtain ⟨hg3059, hs3059⟩ := own_ifE hs3056
      obtain ⟨hg3060, hs3060⟩ := own_ifE hs3059
      refine own_icmpN X3057 hx (hb hby at_818) (teq ((own_eqN (a := cnt3013) (b := (n2553 + 1)) hg3059).mpr hg3060)).2 821 rfl ?_
      refine own_iconst X3057 hx (hb hby at_821) (1 : Int32) rfl 822 rfl ?_
      refine own_goto X3057 hx (hb hby at_822) 826 ⟨by decide, by decide⟩ ?_
      refine own_nreturn X3057 hx Bd.notSynchronized hG Bd.returns (by simp) (hb hby at_826) (by decide) (by decide) ?_
      rw [e3057]
      exact ⟨rfl, N3058⟩
  have km4 : ∀ (el pl so fi en un to : List Nat) (cnt tc : Nat) (T3061 : State) (h3061 : Heap) (lc3061 : List Loc), ((own_cm m4 (el, pl, so, fi, en, un, to, cnt, tc) 4).bind fun P5 => own_out 6 (own_Pel P5) (own_Ppl P5) (own_Pso P5) (own_Pfi P5) (own_Pen P5) (own_Pun P5) (own_Pto P5) (own_Pcnt P5) (own_Ptc P5) 0) = some ⟨el6, pl6, so6, fi6, en6, un6, to6, cnt6, tc6⟩ → Stand p l e room_1 s m #[.int v0, .int v1, .int v2] below meth c T3061 lc3061 14 67 → T3061.heap = h3061 → Fr n0 lc3061 → n0 ≤ h3061.size → Exa Z h3061 a2382 "com/example/libhedge/libhedge/RefinablePartition" → Fld Z h3061 a2382 "com/example/libhedge/libhedge/RefinablePartition" "elements" "[I" (.ref el_) → Fld Z h3061 a2382 "com/example/libhedge/libhedge/RefinablePartition" "placeOf" "[I" (.ref pl_) → Fld Z h3061 a2382 "com/example/libhedge/libhedge/RefinablePartition" "setOf" "[I" (.ref so_) → Fld Z h3061 a2382 "com/example/libhedge/libhedge/RefinablePartition" "first" "[I" (.ref fi_) → Fld Z h3061 a2382 "com/example/libhedge/libhedge/RefinablePartition" "end" "[I" (.ref en_) → Fld Z h3061 a2382 "com/example/libhedge/libhedge/RefinablePartition" "unmarked" "[I" (.ref un_) → Fld Z h3061 a2382 "com/example/libhedge/libhedge/RefinablePartition" "touched" "[I" (.ref to_) → Fld Z h3061 a2382 "com/example/libhedge/libhedge/RefinablePartition" "setCount" "I" (.int (Int32.ofNat cnt)) → Fld Z h3061 a2382 "com/example/libhedge/libhedge/RefinablePartition" "touchedCount" "I" (.int (Int32.ofNat tc)) → own_A .int Value.int Z h3061 a2319 (own_M [k0, k1, k2, k3, k4]) → own_A .int Value.int Z h3061 a2347 (own_M [m0, m1, m2, m3, m4]) → own_A .int Value.int Z h3061 el_ (own_M el) → own_A .int Value.int Z h3061 pl_ (own_M pl) → own_A .int Value.int Z h3061 so_ (own_M so) → own_A .int Value.int Z h3061 fi_ (own_M fi) → own_A .int Value.int Z h3061 en_ (own_M en) → own_A .int Value.int Z h3061 un_ (own_M un) → own_A .int Value.int Z h3061 to_ (own_M to) → own_Go p e below G (T3061.setTop (mkF m 188 #[.val (.int v0), .val (.int v1), .val (.int v2), .val (.ref a2319), .val (.ref a2347), .val (.ref a2382), .unset, .unset, .unset, .unset, .unset, .unset, .unset, .unset, .unset, .unset, .unset, .unset, .unset, .unset, .unset, .unset, .unset, .unset, .unset, .unset, .unset, .unset, .unset, .unset, .unset] [])) := by
    intro el pl so fi en un to cnt tc T3061 h3061 lc3061 hs3061 X3061 e3061 N3061 Z3061 J0_3061 J1_3061 J2_3061 J3_3061 J4_3061 J5_3061 J6_3061 J7_3061 J8_3061 J9_3061 J10_3061 J11_3061 J12_3061 J13_3061 J14_3061 J15_3061 J16_3061 J17_3061 J18_3061
    refine own_aload X3061 hx (hb hby at_188) rfl rfl 190 rfl ?_
    refine own_iconst X3061 hx (hb hby at_190) (4 : Int32) rfl 191 rfl ?_
    refine own_iaload X3061 hx hZ e3061 J11_3061 4 rfl (Int32.ofNat m4) rfl (hb hby at_191) 192 rfl ?_
    refine own_iconst X3061 hx (hb hby at_192) (1 : Int32) rfl 193 rfl ?_
    obtain ⟨P3062, hp3062, hs3062⟩ := own_be hs3061
    by_cases c3063 : m4 = 1
    ·
      have hq3062 := (if_pos c3063).symm.trans hp3062
      refine own_icmpN X3061 hx (hb hby at_193) (teq ((own_eqN (a := m4) (b := 1) ⟨by omega, by omega⟩).mpr c3063)).2 196 rfl ?_
      obtain ⟨el3062, pl3062, so3062, fi3062, en3062, un3062, to3062, cnt3062, tc3062⟩ := P3062
      refine own_aload X3061 hx (hb hby at_196) rfl rfl 198 rfl ?_
      refine own_iconst X3061 hx (hb hby at_198) (4 : Int32) rfl 199 rfl ?_
      refine own_callV X3061 hx hZ hown (own_w hw 43 rfl) (own_w hw 44 rfl) (own_w hw 46 rfl) (notFace_of_selects (args := #[]) (mvT hZ (own_w hw 46 rfl))) (own_w hw 45 rfl) (own_w hw 7 rfl) (own_w hw 47 rfl) (by decide) e3061 J0_3061 (rmMark l Z a0 hw [] a2319 a2347 a2382 el_ pl_ so_ fi_ en_ un_ to_ [k0, k1, k2, k3, k4] [m0, m1, m2, m3, m4] el pl so fi en un to cnt tc el3062 pl3062 so3062 fi3062 en3062 un3062 to3062 cnt3062 tc3062 4 h3061 n0 Z3061 ga hord ⟨J0_3061, J1_3061, J2_3061, J3_3061, J4_3061, J5_3061, J6_3061, J7_3061, J8_3061, J9_3061, J10_3061, J11_3061, J12_3061, J13_3061, J14_3061, J15_3061, J16_3061, J17_3061, J18_3061⟩ hq3062) (by rw [hml]; rfl) pd_8 (argsL := [(.int (4 : Int32))]) rfl (rest := []) rfl (hb hby at_199) 0 (Nat.le_of_eq rfl) (by decide) (by decide) (by decide) (by decide) 202 rfl (fun T3064 L3064 v3064 X3064 hQ3064 => ?_)
      obtain ⟨rfl, N3064, Z3064, B3064⟩ := hQ3064
      have N3065 := Fr.app N3061 N3064
      obtain ⟨E3064, F0_3064, F1_3064, F2_3064, F3_3064, F4_3064, F5_3064, F6_3064, F7_3064, F8_3064, V0_3064, V1_3064, V2_3064, V3_3064, V4_3064, V5_3064, V6_3064, V7_3064, V8_3064⟩ := B3064
      show own_Go p e below G (T3064.setTop (mkF m 202 #[.val (.int v0), .val (.int v1), .val (.int v2), .val (.ref a2319), .val (.ref a2347), .val (.ref a2382), .unset, .unset, .unset, .unset, .unset, .unset, .unset, .unset, .unset, .unset, .unset, .unset, .unset, .unset, .unset, .unset, .unset, .unset, .unset, .unset, .unset, .unset, .unset, .unset, .unset] []))
      exact km5 el3062 pl3062 so3062 fi3062 en3062 un3062 to3062 cnt3062 tc3062 T3064 T3064.heap _ hs3062 X3064 (rfl : T3064.heap = T3064.heap) N3065 Z3064 E3064 F0_3064 F1_3064 F2_3064 F3_3064 F4_3064 F5_3064 F6_3064 F7_3064 F8_3064 V0_3064 V1_3064 V2_3064 V3_3064 V4_3064 V5_3064 V6_3064 V7_3064 V8_3064
    ·
      have hq3062 := (if_neg c3063).symm.trans hp3062
      refine own_icmpY X3061 hx (hb hby at_193) (feq (fun q => c3063 ((own_eqN (a := m4) (b := 1) ⟨by omega, by omega⟩).mp q))).2 202 ⟨by decide, by decide⟩ ?_
      have hr3062 := Option.some.inj hq3062
      subst hr3062
      exact km5 el pl so fi en un to cnt tc T3061 h3061 _ hs3062 X3061 e3061 N3061 Z3061 J0_3061 J1_3061 J2_3061 J3_3061 J4_3061 J5_3061 J6_3061 J7_3061 J8_3061 J9_3061 J10_3061 J11_3061 J12_3061 J13_3061 J14_3061 J15_3061 J16_3061 J17_3061 J18_3061
  have km3 : ∀ (el pl so fi en un to : List Nat) (cnt tc : Nat) (T3066 : State) (h3066 : Heap) (lc3066 : List Loc), ((own_cm m3 (el, pl, so, fi, en, un, to, cnt, tc) 3).bind fun P4 => (own_cm m4 P4 4).bind fun P5 => own_out 6 (own_Pel P5) (own_Ppl P5) (own_Pso P5) (own_Pfi P5) (own_Pen P5) (own_Pun P5) (own_Pto P5) (own_Pcnt P5) (own_Ptc P5) 0) = some ⟨el6, pl6, so6, fi6, en6, un6, to6, cnt6, tc6⟩ → Stand p l e room_1 s m #[.int v0, .int v1, .int v2] below meth c T3066 lc3066 14 67 → T3066.heap = h3066 → Fr n0 lc3066 → n0 ≤ h3066.size → Exa Z h3066 a2382 "com/example/libhedge/libhedge/RefinablePartition" → Fld Z h3066 a2382 "com/example/libhedge/libhedge/RefinablePartition" "elements" "[I" (.ref el_) → Fld Z h3066 a2382 "com/example/libhedge/libhedge/RefinablePartition" "placeOf" "[I" (.ref pl_) → Fld Z h3066 a2382 "com/example/libhedge/libhedge/RefinablePartition" "setOf" "[I" (.ref so_) → Fld Z h3066 a2382 "com/example/libhedge/libhedge/RefinablePartition" "first" "[I" (.ref fi_) → Fld Z h3066 a2382 "com/example/libhedge/libhedge/RefinablePartition" "end" "[I" (.ref en_) → Fld Z h3066 a2382 "com/example/libhedge/libhedge/RefinablePartition" "unmarked" "[I" (.ref un_) → Fld Z h3066 a2382 "com/example/libhedge/libhedge/RefinablePartition" "touched" "[I" (.ref to_) → Fld Z h3066 a2382 "com/example/libhedge/libhedge/RefinablePartition" "setCount" "I" (.int (Int32.ofNat cnt)) → Fld Z h3066 a2382 "com/example/libhedge/libhedge/RefinablePartition" "touchedCount" "I" (.int (Int32.ofNat tc)) → own_A .int Value.int Z h3066 a2319 (own_M [k0, k1, k2, k3, k4]) → own_A .int Value.int Z h3066 a2347 (own_M [m0, m1, m2, m3, m4]) → own_A .int Value.int Z h3066 el_ (own_M el) → own_A .int Value.int Z h3066 pl_ (own_M pl) → own_A .int Value.int Z h3066 so_ (own_M so) → own_A .int Value.int Z h3066 fi_ (own_M fi) → own_A .int Value.int Z h3066 en_ (own_M en) → own_A .int Value.int Z h3066 un_ (own_M un) → own_A .int Value.int Z h3066 to_ (own_M to) → own_Go p e below G (T3066.setTop (mkF m 174 #[.val (.int v0), .val (.int v1), .val (.int v2), .val (.ref a2319), .val (.ref a2347), .val (.ref a2382), .unset, .unset, .unset, .unset, .unset, .unset, .unset, .unset, .unset, .unset, .unset, .unset, .unset, .unset, .unset, .unset, .unset, .unset, .unset, .unset, .unset, .unset, .unset, .unset, .unset] [])) := by
    intro el pl so fi en un to cnt tc T3066 h3066 lc3066 hs3066 X3066 e3066 N3066 Z3066 J0_3066 J1_3066 J2_3066 J3_3066 J4_3066 J5_3066 J6_3066 J7_3066 J8_3066 J9_3066 J10_3066 J11_3066 J12_3066 J13_3066 J14_3066 J15_3066 J16_3066 J17_3066 J18_3066
    refine own_aload X3066 hx (hb hby at_174) rfl rfl 176 rfl ?_
    refine own_iconst X3066 hx (hb hby at_176) (3 : Int32) rfl 177 rfl ?_
    refine own_iaload X3066 hx hZ e3066 J11_3066 3 rfl (Int32.ofNat m3) rfl (hb hby at_177) 178 rfl ?_
    refine own_iconst X3066 hx (hb hby at_178) (1 : Int32) rfl 179 rfl ?_
    obtain ⟨P3067, hp3067, hs3067⟩ := own_be hs3066
    by_cases c3068 : m3 = 1
    ·
      have hq3067 := (if_pos c3068).symm.trans hp3067
      refine own_icmpN X3066 hx (hb hby at_179) (teq ((own_eqN (a := m3) (b := 1) ⟨by omega, by omega⟩).mpr c3068)).2 182 rfl ?_
      obtain ⟨el3067, pl3067, so3067, fi3067, en3067, un3067, to3067, cnt3067, tc3067⟩ := P3067
      refine own_aload X3066 hx (hb hby at_182) rfl rfl 184 rfl ?_
      refine own_iconst X3066 hx (hb hby at_184) (3 : Int32) rfl 185 rfl ?_
      refine own_callV X3066 hx hZ hown (own_w hw 43 rfl) (own_w hw 44 rfl) (own_w hw 46 rfl) (notFace_of_selects (args := #[]) (mvT hZ (own_w hw 46 rfl))) (own_w hw 45 rfl) (own_w hw 7 rfl) (own_w hw 47 rfl) (by decide) e3066 J0_3066 (rmMark l Z a0 hw [] a2319 a2347 a2382 el_ pl_ so_ fi_ en_ un_ to_ [k0, k1, k2, k3, k4] [m0, m1, m2, m3, m4] el pl so fi en un to cnt tc el3067 pl3067 so3067 fi3067 en3067 un3067 to3067 cnt3067 tc3067 3 h3066 n0 Z3066 ga hord ⟨J0_3066, J1_3066, J2_3066, J3_3066, J4_3066, J5_3066, J6_3066, J7_3066, J8_3066, J9_3066, J10_3066, J11_3066, J12_3066, J13_3066, J14_3066, J15_3066, J16_3066, J17_3066, J18_3066⟩ hq3067) (by rw [hml]; rfl) pd_8 (argsL := [(.int (3 : Int32))]) rfl (rest := []) rfl (hb hby at_185) 0 (Nat.le_of_eq rfl) (by decide) (by decide) (by decide) (by decide) 188 rfl (fun T3069 L3069 v3069 X3069 hQ3069 => ?_)
      obtain ⟨rfl, N3069, Z3069, B3069⟩ := hQ3069
      have N3070 := Fr.app N3066 N3069
      obtain ⟨E3069, F0_3069, F1_3069, F2_3069, F3_3069, F4_3069, F5_3069, F6_3069, F7_3069, F8_3069, V0_3069, V1_3069, V2_3069, V3_3069, V4_3069, V5_3069, V6_3069, V7_3069, V8_3069⟩ := B3069
      show own_Go p e below G (T3069.setTop (mkF m 188 #[.val (.int v0), .val (.int v1), .val (.int v2), .val (.ref a2319), .val (.ref a2347), .val (.ref a2382), .unset, .unset, .unset, .unset, .unset, .unset, .unset, .unset, .unset, .unset, .unset, .unset, .unset, .unset, .unset, .unset, .unset, .unset, .unset, .unset, .unset, .unset, .unset, .unset, .unset] []))
      exact km4 el3067 pl3067 so3067 fi3067 en3067 un3067 to3067 cnt3067 tc3067 T3069 T3069.heap _ hs3067 X3069 (rfl : T3069.heap = T3069.heap) N3070 Z3069 E3069 F0_3069 F1_3069 F2_3069 F3_3069 F4_3069 F5_3069 F6_3069 F7_3069 F8_3069 V0_3069 V1_3069 V2_3069 V3_3069 V4_3069 V5_3069 V6_3069 V7_3069 V8_3069
    ·
      have hq3067 := (if_neg c3068).symm.trans hp3067
      refine own_icmpY X3066 hx (hb hby at_179) (feq (fun q => c3068 ((own_eqN (a := m3) (b := 1) ⟨by omega, by omega⟩).mp q))).2 188 ⟨by decide, by decide⟩ ?_
      have hr3067 := Option.some.inj hq3067
      subst hr3067
      exact km4 el pl so fi en un to cnt tc T3066 h3066 _ hs3067 X3066 e3066 N3066 Z3066 J0_3066 J1_3066 J2_3066 J3_3066 J4_3066 J5_3066 J6_3066 J7_3066 J8_3066 J9_3066 J10_3066 J11_3066 J12_3066 J13_3066 J14_3066 J15_3066 J16_3066 J17_3066 J18_3066
  have km2 : ∀ (el pl so fi en un to : List Nat) (cnt tc : Nat) (T3071 : State) (h3071 : Heap) (lc3071 : List Loc), ((own_cm m2 (el, pl, so, fi, en, un, to, cnt, tc) 2).bind fun P3 => (own_cm m3 P3 3).bind fun P4 => (own_cm m4 P4 4).bind fun P5 => own_out 6 (own_Pel P5) (own_Ppl P5) (own_Pso P5) (own_Pfi P5) (own_Pen P5) (own_Pun P5) (own_Pto P5) (own_Pcnt P5) (own_Ptc P5) 0) = some ⟨el6, pl6, so6, fi6, en6, un6, to6, cnt6, tc6⟩ → Stand p l e room_1 s m #[.int v0, .int v1, .int v2] below meth c T3071 lc3071 14 67 → T3071.heap = h3071 → Fr n0 lc3071 → n0 ≤ h3071.size → Exa Z h3071 a2382 "com/example/libhedge/libhedge/RefinablePartition" → Fld Z h3071 a2382 "com/example/libhedge/libhedge/RefinablePartition" "elements" "[I" (.ref el_) → Fld Z h3071 a2382 "com/example/libhedge/libhedge/RefinablePartition" "placeOf" "[I" (.ref pl_) → Fld Z h3071 a2382 "com/example/libhedge/libhedge/RefinablePartition" "setOf" "[I" (.ref so_) → Fld Z h3071 a2382 "com/example/libhedge/libhedge/RefinablePartition" "first" "[I" (.ref fi_) → Fld Z h3071 a2382 "com/example/libhedge/libhedge/RefinablePartition" "end" "[I" (.ref en_) → Fld Z h3071 a2382 "com/example/libhedge/libhedge/RefinablePartition" "unmarked" "[I" (.ref un_) → Fld Z h3071 a2382 "com/example/libhedge/libhedge/RefinablePartition" "touched" "[I" (.ref to_) → Fld Z h3071 a2382 "com/example/libhedge/libhedge/RefinablePartition" "setCount" "I" (.int (Int32.ofNat cnt)) → Fld Z h3071 a2382 "com/example/libhedge/libhedge/RefinablePartition" "touchedCount" "I" (.int (Int32.ofNat tc)) → own_A .int Value.int Z h3071 a2319 (own_M [k0, k1, k2, k3, k4]) → own_A .int Value.int Z h3071 a2347 (own_M [m0, m1, m2, m3, m4]) → own_A .int Value.int Z h3071 el_ (own_M el) → own_A .int Value.int Z h3071 pl_ (own_M pl) → own_A .int Value.int Z h3071 so_ (own_M so) → own_A .int Value.int Z h3071 fi_ (own_M fi) → own_A .int Value.int Z h3071 en_ (own_M en) → own_A .int Value.int Z h3071 un_ (own_M un) → own_A .int Value.int Z h3071 to_ (own_M to) → own_Go p e below G (T3071.setTop (mkF m 160 #[.val (.int v0), .val (.int v1), .val (.int v2), .val (.ref a2319), .val (.ref a2347), .val (.ref a2382), .unset, .unset, .unset, .unset, .unset, .unset, .unset, .unset, .unset, .unset, .unset, .unset, .unset, .unset, .unset, .unset, .unset, .unset, .unset, .unset, .unset, .unset, .unset, .unset, .unset] [])) := by
    intro el pl so fi en un to cnt tc T3071 h3071 lc3071 hs3071 X3071 e3071 N3071 Z3071 J0_3071 J1_3071 J2_3071 J3_3071 J4_3071 J5_3071 J6_3071 J7_3071 J8_3071 J9_3071 J10_3071 J11_3071 J12_3071 J13_3071 J14_3071 J15_3071 J16_3071 J17_3071 J18_3071
    refine own_aload X3071 hx (hb hby at_160) rfl rfl 162 rfl ?_
    refine own_iconst X3071 hx (hb hby at_162) (2 : Int32) rfl 163 rfl ?_
    refine own_iaload X3071 hx hZ e3071 J11_3071 2 rfl (Int32.ofNat m2) rfl (hb hby at_163) 164 rfl ?_
    refine own_iconst X3071 hx (hb hby at_164) (1 : Int32) rfl 165 rfl ?_
    obtain ⟨P3072, hp3072, hs3072⟩ := own_be hs3071
    by_cases c3073 : m2 = 1
    ·
      have hq3072 := (if_pos c3073).symm.trans hp3072
      refine own_icmpN X3071 hx (hb hby at_165) (teq ((own_eqN (a := m2) (b := 1) ⟨by omega, by omega⟩).mpr c3073)).2 168 rfl ?_
      obtain ⟨el3072, pl3072, so3072, fi3072, en3072, un3072, to3072, cnt3072, tc3072⟩ := P3072
      refine own_aload X3071 hx (hb hby at_168) rfl rfl 170 rfl ?_
      refine own_iconst X3071 hx (hb hby at_170) (2 : Int32) rfl 171 rfl ?_
      refine own_callV X3071 hx hZ hown (own_w hw 43 rfl) (own_w hw 44 rfl) (own_w hw 46 rfl) (notFace_of_selects (args := #[]) (mvT hZ (own_w hw 46 rfl))) (own_w hw 45 rfl) (own_w hw 7 rfl) (own_w hw 47 rfl) (by decide) e3071 J0_3071 (rmMark l Z a0 hw [] a2319 a2347 a2382 el_ pl_ so_ fi_ en_ un_ to_ [k0, k1, k2, k3, k4] [m0, m1, m2, m3, m4] el pl so fi en un to cnt tc el3072 pl3072 so3072 fi3072 en3072 un3072 to3072 cnt3072 tc3072 2 h3071 n0 Z3071 ga hord ⟨J0_3071, J1_3071, J2_3071, J3_3071, J4_3071, J5_3071, J6_3071, J7_3071, J8_3071, J9_3071, J10_3071, J11_3071, J12_3071, J13_3071, J14_3071, J15_3071, J16_3071, J17_3071, J18_3071⟩ hq3072) (by rw [hml]; rfl) pd_8 (argsL := [(.int (2 : Int32))]) rfl (rest := []) rfl (hb hby at_171) 0 (Nat.le_of_eq rfl) (by decide) (by decide) (by decide) (by decide) 174 rfl (fun T3074 L3074 v3074 X3074 hQ3074 => ?_)
      obtain ⟨rfl, N3074, Z3074, B3074⟩ := hQ3074
      have N3075 := Fr.app N3071 N3074
      obtain ⟨E3074, F0_3074, F1_3074, F2_3074, F3_3074, F4_3074, F5_3074, F6_3074, F7_3074, F8_3074, V0_3074, V1_3074, V2_3074, V3_3074, V4_3074, V5_3074, V6_3074, V7_3074, V8_3074⟩ := B3074
      show own_Go p e below G (T3074.setTop (mkF m 174 #[.val (.int v0), .val (.int v1), .val (.int v2), .val (.ref a2319), .val (.ref a2347), .val (.ref a2382), .unset, .unset, .unset, .unset, .unset, .unset, .unset, .unset, .unset, .unset, .unset, .unset, .unset, .unset, .unset, .unset, .unset, .unset, .unset, .unset, .unset, .unset, .unset, .unset, .unset] []))
      exact km3 el3072 pl3072 so3072 fi3072 en3072 un3072 to3072 cnt3072 tc3072 T3074 T3074.heap _ hs3072 X3074 (rfl : T3074.heap = T3074.heap) N3075 Z3074 E3074 F0_3074 F1_3074 F2_3074 F3_3074 F4_3074 F5_3074 F6_3074 F7_3074 F8_3074 V0_3074 V1_3074 V2_3074 V3_3074 V4_3074 V5_3074 V6_3074 V7_3074 V8_3074
    ·
      have hq3072 := (if_neg c3073).symm.trans hp3072
      refine own_icmpY X3071 hx (hb hby at_165) (feq (fun q => c3073 ((own_eqN (a := m2) (b := 1) ⟨by omega, by omega⟩).mp q))).2 174 ⟨by decide, by decide⟩ ?_
      have hr3072 := Option.some.inj hq3072
      subst hr3072
      exact km3 el pl so fi en un to cnt tc T3071 h3071 _ hs3072 X3071 e3071 N3071 Z3071 J0_3071 J1_3071 J2_3071 J3_3071 J4_3071 J5_3071 J6_3071 J7_3071 J8_3071 J9_3071 J10_3071 J11_3071 J12_3071 J13_3071 J14_3071 J15_3071 J16_3071 J17_3071 J18_3071
  have km1 : ∀ (el pl so fi en un to : List Nat) (cnt tc : Nat) (T3076 : State) (h3076 : Heap) (lc3076 : List Loc), ((own_cm m1 (el, pl, so, fi, en, un, to, cnt, tc) 1).bind fun P2 => (own_cm m2 P2 2).bind fun P3 => (own_cm m3 P3 3).bind fun P4 => (own_cm m4 P4 4).bind fun P5 => own_out 6 (own_Pel P5) (own_Ppl P5) (own_Pso P5) (own_Pfi P5) (own_Pen P5) (own_Pun P5) (own_Pto P5) (own_Pcnt P5) (own_Ptc P5) 0) = some ⟨el6, pl6, so6, fi6, en6, un6, to6, cnt6, tc6⟩ → Stand p l e room_1 s m #[.int v0, .int v1, .int v2] below meth c T3076 lc3076 14 67 → T3076.heap = h3076 → Fr n0 lc3076 → n0 ≤ h3076.size → Exa Z h3076 a2382 "com/example/libhedge/libhedge/RefinablePartition" → Fld Z h3076 a2382 "com/example/libhedge/libhedge/RefinablePartition" "elements" "[I" (.ref el_) → Fld Z h3076 a2382 "com/example/libhedge/libhedge/RefinablePartition" "placeOf" "[I" (.ref pl_) → Fld Z h3076 a2382 "com/example/libhedge/libhedge/RefinablePartition" "setOf" "[I" (.ref so_) → Fld Z h3076 a2382 "com/example/libhedge/libhedge/RefinablePartition" "first" "[I" (.ref fi_) → Fld Z h3076 a2382 "com/example/libhedge/libhedge/RefinablePartition" "end" "[I" (.ref en_) → Fld Z h3076 a2382 "com/example/libhedge/libhedge/RefinablePartition" "unmarked" "[I" (.ref un_) → Fld Z h3076 a2382 "com/example/libhedge/libhedge/RefinablePartition" "touched" "[I" (.ref to_) → Fld Z h3076 a2382 "com/example/libhedge/libhedge/RefinablePartition" "setCount" "I" (.int (Int32.ofNat cnt)) → Fld Z h3076 a2382 "com/example/libhedge/libhedge/RefinablePartition" "touchedCount" "I" (.int (Int32.ofNat tc)) → own_A .int Value.int Z h3076 a2319 (own_M [k0, k1, k2, k3, k4]) → own_A .int Value.int Z h3076 a2347 (own_M [m0, m1, m2, m3, m4]) → own_A .int Value.int Z h3076 el_ (own_M el) → own_A .int Value.int Z h3076 pl_ (own_M pl) → own_A .int Value.int Z h3076 so_ (own_M so) → own_A .int Value.int Z h3076 fi_ (own_M fi) → own_A .int Value.int Z h3076 en_ (own_M en) → own_A .int Value.int Z h3076 un_ (own_M un) → own_A .int Value.int Z h3076 to_ (own_M to) → own_Go p e below G (T3076.setTop (mkF m 146 #[.val (.int v0), .val (.int v1), .val (.int v2), .val (.ref a2319), .val (.ref a2347), .val (.ref a2382), .unset, .unset, .unset, .unset, .unset, .unset, .unset, .unset, .unset, .unset, .unset, .unset, .unset, .unset, .unset, .unset, .unset, .unset, .unset, .unset, .unset, .unset, .unset, .unset, .unset] [])) := by
    intro el pl so fi en un to cnt tc T3076 h3076 lc3076 hs3076 X3076 e3076 N3076 Z3076 J0_3076 J1_3076 J2_3076 J3_3076 J4_3076 J5_3076 J6_3076 J7_3076 J8_3076 J9_3076 J10_3076 J11_3076 J12_3076 J13_3076 J14_3076 J15_3076 J16_3076 J17_3076 J18_3076
    refine own_aload X3076 hx (hb hby at_146) rfl rfl 148 rfl ?_
    refine own_iconst X3076 hx (hb hby at_148) (1 : Int32) rfl 149 rfl ?_
    refine own_iaload X3076 hx hZ e3076 J11_3076 1 rfl (Int32.ofNat m1) rfl (hb hby at_149) 150 rfl ?_
    refine own_iconst X3076 hx (hb hby at_150) (1 : Int32) rfl 151 rfl ?_
    obtain ⟨P3077, hp3077, hs3077⟩ := own_be hs3076
    by_cases c3078 : m1 = 1
    ·
      have hq3077 := (if_pos c3078).symm.trans hp3077
      refine own_icmpN X3076 hx (hb hby at_151) (teq ((own_eqN (a := m1) (b := 1) ⟨by omega, by omega⟩).mpr c3078)).2 154 rfl ?_
      obtain ⟨el3077, pl3077, so3077, fi3077, en3077, un3077, to3077, cnt3077, tc3077⟩ := P3077
      refine own_aload X3076 hx (hb hby at_154) rfl rfl 156 rfl ?_
      refine own_iconst X3076 hx (hb hby at_156) (1 : Int32) rfl 157 rfl ?_
      refine own_callV X3076 hx hZ hown (own_w hw 43 rfl) (own_w hw 44 rfl) (own_w hw 46 rfl) (notFace_of_selects (args := #[]) (mvT hZ (own_w hw 46 rfl))) (own_w hw 45 rfl) (own_w hw 7 rfl) (own_w hw 47 rfl) (by decide) e3076 J0_3076 (rmMark l Z a0 hw [] a2319 a2347 a2382 el_ pl_ so_ fi_ en_ un_ to_ [k0, k1, k2, k3, k4] [m0, m1, m2, m3, m4] el pl so fi en un to cnt tc el3077 pl3077 so3077 fi3077 en3077 un3077 to3077 cnt3077 tc3077 1 h3076 n0 Z3076 ga hord ⟨J0_3076, J1_3076, J2_3076, J3_3076, J4_3076, J5_3076, J6_3076, J7_3076, J8_3076, J9_3076, J10_3076, J11_3076, J12_3076, J13_3076, J14_3076, J15_3076, J16_3076, J17_3076, J18_3076⟩ hq3077) (by rw [hml]; rfl) pd_8 (argsL := [(.int (1 : Int32))]) rfl (rest := []) rfl (hb hby at_157) 0 (Nat.le_of_eq rfl) (by decide) (by decide) (by decide) (by decide) 160 rfl (fun T3079 L3079 v3079 X3079 hQ3079 => ?_)
      obtain ⟨rfl, N3079, Z3079, B3079⟩ := hQ3079
      have N3080 := Fr.app N3076 N3079
      obtain ⟨E3079, F0_3079, F1_3079, F2_3079, F3_3079, F4_3079, F5_3079, F6_3079, F7_3079, F8_3079, V0_3079, V1_3079, V2_3079, V3_3079, V4_3079, V5_3079, V6_3079, V7_3079, V8_3079⟩ := B3079
      show own_Go p e below G (T3079.setTop (mkF m 160 #[.val (.int v0), .val (.int v1), .val (.int v2), .val (.ref a2319), .val (.ref a2347), .val (.ref a2382), .unset, .unset, .unset, .unset, .unset, .unset, .unset, .unset, .unset, .unset, .unset, .unset, .unset, .unset, .unset, .unset, .unset, .unset, .unset, .unset, .unset, .unset, .unset, .unset, .unset] []))
      exact km2 el3077 pl3077 so3077 fi3077 en3077 un3077 to3077 cnt3077 tc3077 T3079 T3079.heap _ hs3077 X3079 (rfl : T3079.heap = T3079.heap) N3080 Z3079 E3079 F0_3079 F1_3079 F2_3079 F3_3079 F4_3079 F5_3079 F6_3079 F7_3079 F8_3079 V0_3079 V1_3079 V2_3079 V3_3079 V4_3079 V5_3079 V6_3079 V7_3079 V8_3079
    ·
      have hq3077 := (if_neg c3078).symm.trans hp3077
      refine own_icmpY X3076 hx (hb hby at_151) (feq (fun q => c3078 ((own_eqN (a := m1) (b := 1) ⟨by omega, by omega⟩).mp q))).2 160 ⟨by decide, by decide⟩ ?_
      have hr3077 := Option.some.inj hq3077
      subst hr3077
      exact km2 el pl so fi en un to cnt tc T3076 h3076 _ hs3077 X3076 e3076 N3076 Z3076 J0_3076 J1_3076 J2_3076 J3_3076 J4_3076 J5_3076 J6_3076 J7_3076 J8_3076 J9_3076 J10_3076 J11_3076 J12_3076 J13_3076 J14_3076 J15_3076 J16_3076 J17_3076 J18_3076
  refine own_aload X2492 hx (hb hby at_132) rfl rfl 134 rfl ?_
  refine own_iconst X2492 hx (hb hby at_134) (0 : Int32) rfl 135 rfl ?_
  refine own_iaload X2492 hx hZ (rfl : T2492.heap = T2492.heap) V1_2492 0 rfl (Int32.ofNat m0) rfl (hb hby at_135) 136 rfl ?_
  refine own_iconst X2492 hx (hb hby at_136) (1 : Int32) rfl 137 rfl ?_
  obtain ⟨P3081, hp3081, hs3081⟩ := own_be hs2491
  by_cases c3082 : m0 = 1
  ·
    have hq3081 := (if_pos c3082).symm.trans hp3081
    refine own_icmpN X2492 hx (hb hby at_137) (teq ((own_eqN (a := m0) (b := 1) ⟨by omega, by omega⟩).mpr c3082)).2 140 rfl ?_
    obtain ⟨el3081, pl3081, so3081, fi3081, en3081, un3081, to3081, cnt3081, tc3081⟩ := P3081
    refine own_aload X2492 hx (hb hby at_140) rfl rfl 142 rfl ?_
    refine own_iconst X2492 hx (hb hby at_142) (0 : Int32) rfl 143 rfl ?_
    refine own_callV X2492 hx hZ hown (own_w hw 43 rfl) (own_w hw 44 rfl) (own_w hw 46 rfl) (notFace_of_selects (args := #[]) (mvT hZ (own_w hw 46 rfl))) (own_w hw 45 rfl) (own_w hw 7 rfl) (own_w hw 47 rfl) (by decide) (rfl : T2492.heap = T2492.heap) E2492 (rmMark l Z a0 hw [] a2319 a2347 a2382 el_ pl_ so_ fi_ en_ un_ to_ [k0, k1, k2, k3, k4] [m0, m1, m2, m3, m4] el0 pl0 so0 fi0 en0 un0 to0 cnt0 tc0 el3081 pl3081 so3081 fi3081 en3081 un3081 to3081 cnt3081 tc3081 0 T2492.heap n0 Z2492 ga hord ⟨E2492, F0_2492, F1_2492, F2_2492, F3_2492, F4_2492, F5_2492, F6_2492, F7_2492, F8_2492, V0_2492, V1_2492, V2_2492, V3_2492, V4_2492, V5_2492, V6_2492, V7_2492, V8_2492⟩ hq3081) (by rw [hml]; rfl) pd_8 (argsL := [(.int (0 : Int32))]) rfl (rest := []) rfl (hb hby at_143) 0 (Nat.le_of_eq rfl) (by decide) (by decide) (by decide) (by decide) 146 rfl (fun T3083 L3083 v3083 X3083 hQ3083 => ?_)
    obtain ⟨rfl, N3083, Z3083, B3083⟩ := hQ3083
    have N3084 := Fr.app N2493 N3083
    obtain ⟨E3083, F0_3083, F1_3083, F2_3083, F3_3083, F4_3083, F5_3083, F6_3083, F7_3083, F8_3083, V0_3083, V1_3083, V2_3083, V3_3083, V4_3083, V5_3083, V6_3083, V7_3083, V8_3083⟩ := B3083
    show own_Go p e below G (T3083.setTop (mkF m 146 #[.val (.int v0), .val (.int v1), .val (.int v2), .val (.ref a2319), .val (.ref a2347), .val (.ref a2382), .unset, .unset, .unset, .unset, .unset, .unset, .unset, .unset, .unset, .unset, .unset, .unset, .unset, .unset, .unset, .unset, .unset, .unset, .unset, .unset, .unset, .unset, .unset, .unset, .unset] []))
    exact km1 el3081 pl3081 so3081 fi3081 en3081 un3081 to3081 cnt3081 tc3081 T3083 T3083.heap _ hs3081 X3083 (rfl : T3083.heap = T3083.heap) N3084 Z3083 E3083 F0_3083 F1_3083 F2_3083 F3_3083 F4_3083 F5_3083 F6_3083 F7_3083 F8_3083 V0_3083 V1_3083 V2_3083 V3_3083 V4_3083 V5_3083 V6_3083 V7_3083 V8_3083
  ·
    have hq3081 := (if_neg c3082).symm.trans hp3081
    refine own_icmpY X2492 hx (hb hby at_137) (feq (fun q => c3082 ((own_eqN (a := m0) (b := 1) ⟨by omega, by omega⟩).mp q))).2 146 ⟨by decide, by decide⟩ ?_
    have hr3081 := Option.some.inj hq3081
    subst hr3081
    exact km1 el0 pl0 so0 fi0 en0 un0 to0 cnt0 tc0 T2492 T2492.heap _ hs3081 X2492 (rfl : T2492.heap = T2492.heap) N2493 Z2492 E2492 F0_2492 F1_2492 F2_2492 F3_2492 F4_2492 F5_2492 F6_2492 F7_2492 F8_2492 V0_2492 V1_2492 V2_2492 V3_2492 V4_2492 V5_2492 V6_2492 V7_2492 V8_2492
set_option maxRecDepth 65536 in
set_option maxHeartbeats 40000000 in
theorem comes_1 {Post : Tables → Env → Array Value → State → Outcome → State → Prop} (hpost : ∀ tb e args s v u, (limb_1_1.after args s (.returned v) u = true ∧ limb_1_2.after args s (.returned v) u = true ∧ True) → FrameEnd s (.returned v) u (Jvm.fieldLocs frame_1_writes args s ++ Jvm.arrayLocs frame_1_arrays args s ++ Jvm.staticLocs frame_1_statics s) 48 256 → Post tb e args s (.returned v) u) :
    ArmFor flags0 classFile x code maxLocals ret World_1 tables_1 room_1 Calls_1 rest_1 Pre_1 Post := by
  intro l hfl _ _ p e ha hc hk s m args below hf hA hF happ hP
  obtain ⟨hcalls, hrest, hpre⟩ := hP
  obtain ⟨-, -, -, hnamed, -, -, -, hat⟩ := (Spec.applies_iff hf).mp happ
  obtain ⟨hg, hn⟩ := and_e (Cond.before_iff.mp (show (Jvm.Cond.and given_1 narrow_1).before args s = true from hpre))
  obtain ⟨hcount, k0⟩ := and_e hg
  obtain ⟨q0, k1⟩ := and_e k0
  obtain ⟨q1, k2⟩ := and_e k1
  have q2 := k2
  obtain ⟨w0, w1, w2, rfl⟩ : ∃ w0 w1 w2 : Value, args = #[w0, w1, w2] := by
    have hs : args.size = 3 := by simpa [Cond.value, given_1] using hcount
    obtain ⟨L⟩ := args
    match L, hs with
    | [w0, w1, w2], _ => exact ⟨w0, w1, w2, rfl⟩
  have hw := fun d (hd : d ∈ tables_1) => atoms_spec (ws := Jvm.Cond.code x code maxLocals ret :: tables_1) hat d (List.mem_cons_of_mem _ hd)
  have hfit : Fit s := fun {y c} hc i hi => by
    obtain ⟨ha, rfl⟩ := Array.getElem?_eq_some_iff.mp hc
    have q := List.all_eq_true.mp ((Array.all_eq_true_iff_forall_mem.mp hF) _ (Array.getElem_mem ha)) i (List.mem_range.mpr hi)
    simpa [Array.getElem?_eq_getElem hi] using q
  obtain ⟨i0, r0⟩ := is_v q0
  obtain rfl : w0 = (.int i0) := Option.some.inj r0
  obtain ⟨i1, r1⟩ := is_v q1
  obtain rfl : w1 = (.int i1) := Option.some.inj r1
  obtain ⟨i2, r2⟩ := is_v q2
  obtain rfl : w2 = (.int i2) := Option.some.inj r2
  obtain ⟨n, o, h1, h2, h3, _, L, rfl, ⟨rfl, N⟩, hq⟩ := rm0 l s _ hw tables_1 i0 i1 i2 s.heap s.heap.size (Nat.le_refl _) p e ha hc hk s m _ below hf ((Spec.applies_iff_loose hf).mp happ).1 ⟨rfl, State.Warmed39.refl s, rfl⟩ trivial
  refine ⟨n, _, h1, h2, h3, hpost _ _ _ _ _ _ ⟨Cond.after_iff.mpr rfl, Cond.after_iff.mpr (eq_i res_at (Term.int_eval (1)) rfl), trivial⟩ ⟨hq.1, hq.2.1, (hq.2.2.sift fun y hy => Or.inr (N y hy)).mono (by decide) (by decide)⟩⟩
theorem main_1_1 : Claimed_1_1 := comes_1 fun _ _ _ _ _ _ h hF => ⟨h.1, hF⟩
theorem main_1_2 : Claimed_1_2 := comes_1 fun _ _ _ _ _ _ h hF => ⟨h.2.1, hF⟩
end Jvm.Pilot.@@N@@
namespace Jvm.Pilot.@@N@@
open Jvm Jvm.ClassFile Sem Op Lib Jvm.Free Jvm.Stand Jvm.Pilot.@@N@@.Jvm.D
/-! MADE BY PROGRAM (witnessworld.py) out of the Statement's table words and the real class files: 10 classes; the members and pool entries that the words name. The judged class is class 1, her method 4. -/
namespace start1
open Jvm.ClassFile
def u (s : String) : CpInfo := .utf8 (stringToUtf16 s)
/-- a pool by its gaps: so many unusable entries, then the entry; so many at the end -/
def gap : Nat → List CpInfo → List CpInfo
  | 0, r => r
  | n + 1, r => .unusable :: gap n r
def poolList (es : List (Nat × CpInfo)) (last : Nat) : List CpInfo := es.foldr (fun e r => gap e.1 (e.2 :: r)) (gap last [])
def pool (es : List (Nat × CpInfo)) (last : Nat) : Array CpInfo := ⟨poolList es last⟩
def fileOf (pool : Array CpInfo) (this : Nat) (attrs : Array Attribute := #[]) (ms : Array MethodInfo := #[]) (fl : Nat := 33) (sup : Nat := 0) (ifs : Array Nat := #[]) (fds : Array FieldInfo := #[]) : ClassFile where
  minorVersion := 0
  majorVersion := 65
  constantPool := pool
  accessFlags := fl
  thisClass := this
  superClass := sup
  interfaces := ifs
  fields := fds
  methods := ms
  attributes := attrs
def plain (name : String) (sup : Option ClassId) : Class where
  name := name
  kind := .ordinary
  loader := none
  accessFlags := 33
  super := sup
  interfaces := #[]
  cf := none
  fields := #[]
  methods := #[]
  instanceTypes := #[]
  staticTypes := #[]
  resolved := #[]
  callSites := []
  init := .initialized
  statics := none
  mirror := none

def pool0 : Array CpInfo := pool [(5, u "<init>"), (0, u "()V"), (1, .class_ 10), (1, u "java/lang/Object"), (85, u "clone"), (0, u "()Ljava/lang/Object;")] 26

def k0c0 : Code := { maxStack := 0, maxLocals := 1, code := object_method_1_code, exceptionTable := #[], attributes := #[] }
def k0m0 : Method := { name := "<init>", desc := "()V", sig := { parameters := [], returnType := none }, accessFlags := 1, code := some k0c0 }
def k0m1 : Method := { name := "clone", desc := "()Ljava/lang/Object;", sig := { parameters := [], returnType := some (.object "java/lang/Object") }, accessFlags := 260, code := none }
/-- java/lang/Object -/
def k0 : Class := { plain "java/lang/Object" none with
  accessFlags := 33
  interfaces := #[]
  cf := some (fileOf pool0 8 #[] #[{ accessFlags := 1, nameIndex := 5, descriptorIndex := 6, attributes := #[] }, { accessFlags := 260, nameIndex := 96, descriptorIndex := 97, attributes := #[] }] 33 0 #[] #[])
  fields := #[]
  methods := #[k0m0, k0m1]
  instanceTypes := #[]
  staticTypes := #[]
  resolved := Array.replicate 124 none
  statics := none }

def pool1 : Array CpInfo := pool [(2, .class_ 4), (1, u "java/lang/Object"), (0, u "<init>"), (0, u "()V"), (0, .methodref 8 9), (0, .class_ 10), (0, .nameAndType 11 12), (0, u "com/example/libhedge/libhedge/RefinablePartition"), (0, u "setOf"), (0, u "(I)I"), (0, .methodref 8 14), (0, .nameAndType 15 12), (0, u "sizeOf"), (0, .methodref 17 18), (0, .class_ 19), (0, .nameAndType 20 21), (0, u "com/example/libhedge/libhedge/RefinablePartitionSplitPinLaw"), (0, u "bit"), (0, u "(II)I"), (0, .methodref 8 23), (0, .nameAndType 5 24), (0, u "([II)V"), (0, .methodref 8 26), (0, .nameAndType 27 28), (0, u "mark"), (0, u "(I)V"), (0, .methodref 8 30), (0, .nameAndType 31 6), (0, u "split"), (0, .methodref 17 33), (0, .nameAndType 34 35), (0, u "firstMarked"), (0, u "([I[II)I"), (0, .methodref 8 37), (0, .nameAndType 38 39), (0, u "setCount"), (0, u "()I"), (0, .methodref 17 41), (0, .nameAndType 42 43), (0, u "elemOk"), (0, u "(Lcom/example/libhedge/libhedge/RefinablePartition;III[I[I[I[I[I)Z"), (0, .integer 2147483647), (5, u "law"), (0, u "(III)Z")] 2

def k1m0 : Method := { name := "<init>", desc := "()V", sig := { parameters := [], returnType := none }, accessFlags := 1, code := none }
def k1c1 : Code := { maxStack := 2, maxLocals := 2, code := method_2_code, exceptionTable := #[], attributes := #[] }
def k1m1 : Method := { name := "bit", desc := "(II)I", sig := { parameters := [.int, .int], returnType := some .int }, accessFlags := 10, code := some k1c1 }
def k1c2 : Code := { maxStack := 2, maxLocals := 3, code := method_3_code, exceptionTable := #[], attributes := #[] }
def k1m2 : Method := { name := "firstMarked", desc := "([I[II)I", sig := { parameters := [(.array .int), (.array .int), .int], returnType := some .int }, accessFlags := 10, code := some k1c2 }
def k1c3 : Code := { maxStack := 3, maxLocals := 13, code := method_4_code, exceptionTable := #[], attributes := #[] }
def k1m3 : Method := { name := "elemOk", desc := "(Lcom/example/libhedge/libhedge/RefinablePartition;III[I[I[I[I[I)Z", sig := { parameters := [(.object "com/example/libhedge/libhedge/RefinablePartition"), .int, .int, .int, (.array .int), (.array .int), (.array .int), (.array .int), (.array .int)], returnType := some .boolean }, accessFlags := 10, code := some k1c3 }
def k1c4 : Code := { maxStack := 9, maxLocals := 31, code := code, exceptionTable := #[], attributes := #[] }
def k1m4 : Method := { name := "law", desc := "(III)Z", sig := { parameters := [.int, .int, .int], returnType := some .boolean }, accessFlags := 9, code := some k1c4 }
/-- com/example/libhedge/libhedge/RefinablePartitionSplitPinLaw -/
def k1 : Class := { plain "com/example/libhedge/libhedge/RefinablePartitionSplitPinLaw" (some 0) with
  accessFlags := 49
  interfaces := #[]
  cf := some (fileOf pool1 17 #[] #[{ accessFlags := 1, nameIndex := 5, descriptorIndex := 6, attributes := #[] }, { accessFlags := 10, nameIndex := 20, descriptorIndex := 21, attributes := #[] }, { accessFlags := 10, nameIndex := 34, descriptorIndex := 35, attributes := #[] }, { accessFlags := 10, nameIndex := 42, descriptorIndex := 43, attributes := #[] }, { accessFlags := 9, nameIndex := 50, descriptorIndex := 51, attributes := #[] }] 49 2 #[] #[])
  fields := #[]
  methods := #[k1m0, k1m1, k1m2, k1m3, k1m4]
  instanceTypes := #[]
  staticTypes := #[]
  resolved := Array.replicate 54 none
  statics := none }

def pool2 : Array CpInfo := pool [(1, .methodref 2 3), (0, .class_ 4), (0, .nameAndType 5 6), (0, u "java/lang/Object"), (0, u "<init>"), (0, u "()V"), (0, .fieldref 8 9), (0, .class_ 10), (0, .nameAndType 11 12), (0, u "com/example/libhedge/libhedge/RefinablePartition"), (0, u "elements"), (0, u "[I"), (0, .fieldref 8 14), (0, .nameAndType 15 12), (0, u "placeOf"), (0, .fieldref 8 17), (0, .nameAndType 18 12), (0, u "setOf"), (0, .methodref 20 21), (0, .class_ 22), (0, .nameAndType 23 24), (0, u "java/lang/Math"), (0, u "max"), (0, u "(II)I"), (0, .fieldref 8 26), (0, .nameAndType 27 12), (0, u "first"), (0, .fieldref 8 29), (0, .nameAndType 30 12), (0, u "end"), (0, .fieldref 8 32), (0, .nameAndType 33 12), (0, u "unmarked"), (0, .fieldref 8 35), (0, .nameAndType 36 12), (0, u "touched"), (0, .fieldref 8 38), (0, .nameAndType 39 40), (0, u "setCount"), (0, u "I"), (0, .methodref 42 43), (0, .class_ 12), (0, .nameAndType 44 45), (0, u "clone"), (0, u "()Ljava/lang/Object;"), (0, .fieldref 8 47), (0, .nameAndType 48 40), (0, u "touchedCount"), (0, .methodref 8 50), (0, .nameAndType 51 52), (0, u "swap"), (0, u "(II)V"), (0, u "([II)V"), (3, u "()I"), (0, u "(I)I"), (0, u "sizeOf"), (1, u "mark"), (0, u "(I)V"), (0, u "split")] 2

def k2c0 : Code := { maxStack := 5, maxLocals := 9, code := prog_71_method_1_code, exceptionTable := #[], attributes := #[] }
def k2m0 : Method := { name := "<init>", desc := "([II)V", sig := { parameters := [(.array .int), .int], returnType := none }, accessFlags := 0, code := some k2c0 }
def k2c1 : Code := { maxStack := 1, maxLocals := 1, code := prog_71_method_2_code, exceptionTable := #[], attributes := #[] }
def k2m1 : Method := { name := "setCount", desc := "()I", sig := { parameters := [], returnType := some .int }, accessFlags := 0, code := some k2c1 }
def k2c2 : Code := { maxStack := 2, maxLocals := 2, code := prog_71_method_3_code, exceptionTable := #[], attributes := #[] }
def k2m2 : Method := { name := "setOf", desc := "(I)I", sig := { parameters := [.int], returnType := some .int }, accessFlags := 0, code := some k2c2 }
def k2c3 : Code := { maxStack := 3, maxLocals := 2, code := prog_71_method_4_code, exceptionTable := #[], attributes := #[] }
def k2m3 : Method := { name := "sizeOf", desc := "(I)I", sig := { parameters := [.int], returnType := some .int }, accessFlags := 0, code := some k2c3 }
def k2c4 : Code := { maxStack := 5, maxLocals := 5, code := prog_71_method_6_code, exceptionTable := #[], attributes := #[] }
def k2m4 : Method := { name := "mark", desc := "(I)V", sig := { parameters := [.int], returnType := none }, accessFlags := 0, code := some k2c4 }
def k2c5 : Code := { maxStack := 4, maxLocals := 6, code := prog_71_method_7_code, exceptionTable := #[], attributes := #[] }
def k2m5 : Method := { name := "split", desc := "()V", sig := { parameters := [], returnType := none }, accessFlags := 0, code := some k2c5 }
def k2c6 : Code := { maxStack := 3, maxLocals := 5, code := prog_71_method_8_code, exceptionTable := #[], attributes := #[] }
def k2m6 : Method := { name := "swap", desc := "(II)V", sig := { parameters := [.int, .int], returnType := none }, accessFlags := 2, code := some k2c6 }
/-- com/example/libhedge/libhedge/RefinablePartition -/
def k2 : Class := { plain "com/example/libhedge/libhedge/RefinablePartition" (some 0) with
  accessFlags := 32
  interfaces := #[]
  cf := some (fileOf pool2 8 #[] #[{ accessFlags := 0, nameIndex := 5, descriptorIndex := 53, attributes := #[] }, { accessFlags := 0, nameIndex := 39, descriptorIndex := 57, attributes := #[] }, { accessFlags := 0, nameIndex := 18, descriptorIndex := 58, attributes := #[] }, { accessFlags := 0, nameIndex := 59, descriptorIndex := 58, attributes := #[] }, { accessFlags := 0, nameIndex := 61, descriptorIndex := 62, attributes := #[] }, { accessFlags := 0, nameIndex := 63, descriptorIndex := 6, attributes := #[] }, { accessFlags := 2, nameIndex := 51, descriptorIndex := 52, attributes := #[] }] 32 2 #[] #[{ accessFlags := 18, nameIndex := 11, descriptorIndex := 12, attributes := #[] }, { accessFlags := 18, nameIndex := 15, descriptorIndex := 12, attributes := #[] }, { accessFlags := 18, nameIndex := 18, descriptorIndex := 12, attributes := #[] }, { accessFlags := 18, nameIndex := 27, descriptorIndex := 12, attributes := #[] }, { accessFlags := 18, nameIndex := 30, descriptorIndex := 12, attributes := #[] }, { accessFlags := 18, nameIndex := 33, descriptorIndex := 12, attributes := #[] }, { accessFlags := 2, nameIndex := 39, descriptorIndex := 40, attributes := #[] }, { accessFlags := 18, nameIndex := 36, descriptorIndex := 12, attributes := #[] }, { accessFlags := 2, nameIndex := 48, descriptorIndex := 40, attributes := #[] }])
  fields := #[{ name := "elements", type := (.array .int), accessFlags := 18, slot := 0, constantValue := 0 }, { name := "placeOf", type := (.array .int), accessFlags := 18, slot := 1, constantValue := 0 }, { name := "setOf", type := (.array .int), accessFlags := 18, slot := 2, constantValue := 0 }, { name := "first", type := (.array .int), accessFlags := 18, slot := 3, constantValue := 0 }, { name := "end", type := (.array .int), accessFlags := 18, slot := 4, constantValue := 0 }, { name := "unmarked", type := (.array .int), accessFlags := 18, slot := 5, constantValue := 0 }, { name := "setCount", type := .int, accessFlags := 2, slot := 6, constantValue := 0 }, { name := "touched", type := (.array .int), accessFlags := 18, slot := 7, constantValue := 0 }, { name := "touchedCount", type := .int, accessFlags := 2, slot := 8, constantValue := 0 }]
  methods := #[k2m0, k2m1, k2m2, k2m3, k2m4, k2m5, k2m6]
  instanceTypes := #[(.array .int), (.array .int), (.array .int), (.array .int), (.array .int), (.array .int), .int, (.array .int), .int]
  staticTypes := #[]
  resolved := Array.replicate 66 none
  statics := none }

def pool3 : Array CpInfo := pool [(1, .class_ 2), (0, u "java/lang/Math"), (1, .class_ 6), (1, u "java/lang/Object"), (0, u "<init>"), (0, u "()V"), (89, .class_ 100), (1, u "java/lang/Math$RandomNumberGeneratorHolder"), (71, u "negativeZeroFloatBits"), (0, u "J"), (2, u "negativeZeroDoubleBits"), (21, u "max"), (46, u "$assertionsDisabled"), (0, u "Z"), (88, u "(II)I"), (2, u "twoToTheDoubleScaleDown"), (0, u "D"), (4, u "twoToTheDoubleScaleUp"), (9, u "E"), (3, u "PI"), (2, u "TAU"), (2, u "DEGREES_TO_RADIANS"), (0, u "RADIANS_TO_DEGREES")] 94

def k3m0 : Method := { name := "<init>", desc := "()V", sig := { parameters := [], returnType := none }, accessFlags := 2, code := none }
def k3c1 : Code := { maxStack := 2, maxLocals := 2, code := jdk_29_method_65_code, exceptionTable := #[], attributes := #[] }
def k3m1 : Method := { name := "max", desc := "(II)I", sig := { parameters := [.int, .int], returnType := some .int }, accessFlags := 9, code := some k3c1 }
/-- java/lang/Math -/
def k3 : Class := { plain "java/lang/Math" (some 0) with
  accessFlags := 49
  interfaces := #[]
  cf := some (fileOf pool3 1 #[.nestMembers #[98]] #[{ accessFlags := 2, nameIndex := 7, descriptorIndex := 8, attributes := #[] }, { accessFlags := 9, nameIndex := 198, descriptorIndex := 335, attributes := #[] }] 49 4 #[] #[{ accessFlags := 25, nameIndex := 354, descriptorIndex := 339, attributes := #[] }, { accessFlags := 25, nameIndex := 358, descriptorIndex := 339, attributes := #[] }, { accessFlags := 25, nameIndex := 361, descriptorIndex := 339, attributes := #[] }, { accessFlags := 26, nameIndex := 364, descriptorIndex := 339, attributes := #[] }, { accessFlags := 26, nameIndex := 365, descriptorIndex := 339, attributes := #[] }, { accessFlags := 26, nameIndex := 172, descriptorIndex := 173, attributes := #[] }, { accessFlags := 26, nameIndex := 176, descriptorIndex := 173, attributes := #[] }, { accessFlags := 8, nameIndex := 344, descriptorIndex := 339, attributes := #[] }, { accessFlags := 8, nameIndex := 338, descriptorIndex := 339, attributes := #[] }, { accessFlags := 4120, nameIndex := 245, descriptorIndex := 246, attributes := #[] }])
  fields := #[{ name := "E", type := .double, accessFlags := 25, slot := 0, constantValue := 0 }, { name := "PI", type := .double, accessFlags := 25, slot := 1, constantValue := 0 }, { name := "TAU", type := .double, accessFlags := 25, slot := 2, constantValue := 0 }, { name := "DEGREES_TO_RADIANS", type := .double, accessFlags := 26, slot := 3, constantValue := 0 }, { name := "RADIANS_TO_DEGREES", type := .double, accessFlags := 26, slot := 4, constantValue := 0 }, { name := "negativeZeroFloatBits", type := .long, accessFlags := 26, slot := 5, constantValue := 0 }, { name := "negativeZeroDoubleBits", type := .long, accessFlags := 26, slot := 6, constantValue := 0 }, { name := "twoToTheDoubleScaleUp", type := .double, accessFlags := 8, slot := 7, constantValue := 0 }, { name := "twoToTheDoubleScaleDown", type := .double, accessFlags := 8, slot := 8, constantValue := 0 }, { name := "$assertionsDisabled", type := .boolean, accessFlags := 4120, slot := 9, constantValue := 0 }]
  methods := #[k3m0, k3m1]
  instanceTypes := #[]
  staticTypes := #[.double, .double, .double, .double, .double, .long, .long, .double, .double, .boolean]
  resolved := Array.replicate 460 none
  statics := none }

def pool4 : Array CpInfo := pool [(1, .class_ 2), (0, u "java/lang/Cloneable"), (0, .class_ 4), (0, u "java/lang/Object")] 2

/-- java/lang/Cloneable -/
def k4 : Class := { plain "java/lang/Cloneable" (some 0) with
  accessFlags := 1537
  interfaces := #[]
  cf := some (fileOf pool4 1 #[] #[] 1537 3 #[] #[])
  fields := #[]
  methods := #[]
  instanceTypes := #[]
  staticTypes := #[]
  resolved := Array.replicate 7 none
  statics := none }

def pool5 : Array CpInfo := pool [(1, u "java/io/Serializable"), (0, .class_ 1), (0, u "java/lang/Object"), (0, .class_ 3)] 3

/-- java/io/Serializable -/
def k5 : Class := { plain "java/io/Serializable" (some 0) with
  accessFlags := 1537
  interfaces := #[]
  cf := some (fileOf pool5 2 #[] #[] 1537 4 #[] #[])
  fields := #[]
  methods := #[]
  instanceTypes := #[]
  staticTypes := #[]
  resolved := Array.replicate 8 none
  statics := none }

/-- the primitive byte -/
def k6 : Class := { plain "byte" none with kind := .primitive 'B', accessFlags := 0x411 }
/-- [B -/
def k7 : Class := { plain "[B" (some 0) with kind := .array 6 .byte, interfaces := #[4, 5], accessFlags := 1041 }

/-- the primitive int -/
def k8 : Class := { plain "int" none with kind := .primitive 'I', accessFlags := 0x411 }
/-- [I -/
def k9 : Class := { plain "[I" (some 0) with kind := .array 8 .int, interfaces := #[4, 5], accessFlags := 1041 }

def heap : Heap := #[]
def classes : Array Class := #[k0, k1, k2, k3, k4, k5, k6, k7, k8, k9]
def interned : List (Array UInt16 × Addr) := []
def slotsUsed : Nat := 0
def theMethod : MethodId := ⟨1, 4⟩
def args0 : Array Value := #[.int 5, .int 9, .int 7]
def aboutOver (below : List Frame) : State where
  vm := { classes := classes, interned := interned.toArray }
  heap := heap
  slotsUsed := slotsUsed
  threads := #[{ frames := .invoking theMethod args0 :: below }]
def below0 : List Frame := [.native { method := ⟨0, 0⟩, args := #[] }]
def about1 : State := aboutOver below0
def p0 : Program := .bare "" "" ""
def e0 : Env := launch0.env 0 0 0
theorem w_frames : about1.frames = Frame.invoking theMethod args0 :: below0 := rfl
set_option maxRecDepth 65536 in
theorem w_args : argsFit about1.vm theMethod args0 = true := by decide +kernel
set_option maxRecDepth 65536 in
theorem w_heap : heapFits about1 = true := by decide +kernel
set_option maxRecDepth 65536 in
theorem w_runnable : about1.curStatus? = some .runnable := by decide +kernel
set_option maxRecDepth 65536 in
theorem w_alone : about1.alone = true := by decide +kernel
set_option maxRecDepth 65536 in
theorem w_named : about1.methodNamed? x = some theMethod := by decide +kernel
set_option maxRecDepth 65536 in
theorem w_hears : about1.hears theMethod below0 = true := by decide +kernel
set_option maxRecDepth 65536 in
theorem w_ripe : about1.ripe theMethod args0 below0 = true := by decide +kernel
theorem w_running : about1.status = .running := rfl
set_option maxRecDepth 65536 in
theorem w_room : about1.hasRoom e0.platform room_1 = true :=
  launch0.hasRoom_least _ room_1 (by decide +kernel) (by decide +kernel) (by decide +kernel) (by decide +kernel) (by decide +kernel) (by decide +kernel)
theorem allAtoms_all (ts : List Jvm.Cond) (a : Array Jvm.Value) (st : Jvm.State) : (allAtoms ts).before a st = ts.all (fun c => c.before a st) := by
  induction ts with
  | nil => rfl
  | cons c t ih =>
    show (Jvm.Cond.and c (allAtoms t)).before a st = _
    rw [Jvm.Cond.before_and, ih, List.all_cons]
def words1 : List Jvm.Cond := Jvm.Cond.code x code maxLocals ret :: tables_1
/-- a 'code' word, met by the world's own term for the bytes: nothing is compared byte by byte -/
theorem code_word {y : MethodName} {bytes : ByteArray} {mx : Nat} {rt : Option FieldType} {a : Array Value} {s : State} {m : MethodId} {meth : Method} {c : Code} (h1 : s.methodNamed? y = some m) (h2 : s.vm.method? m = some meth) (h3 : meth.code = some c) (h4 : c.code = bytes)
    (h5 : (c.maxLocals == mx && c.exceptionTable.isEmpty && decide (c.maxStack ≤ mostOperands) && decide (meth.sig.returnType = rt) && !meth.locks && decide (parseMethodDescriptor y.desc = some meth.sig)) = true) : (Jvm.Cond.code y bytes mx rt).before a s = true := by
  simp only [Bool.and_eq_true, beq_iff_eq, Bool.not_eq_true', decide_eq_true_eq] at h5
  obtain ⟨⟨⟨⟨⟨g1, g2⟩, g3⟩, g4⟩, g5⟩, g6⟩ := h5
  simp [Cond.before, Cond.holds, Cond.value, h1, h2, h3, h4, g1, g2, g3, g4, g5, g6]
def isCode : Jvm.Cond → Bool
  | .code _ _ _ _ => true
  | _ => false
theorem all_split {L : List Jvm.Cond} {P : Jvm.Cond → Bool} (h1 : L.all (fun c => isCode c || P c) = true) (h2 : ∀ c ∈ L.filter isCode, P c = true) : L.all P = true := by
  refine List.all_eq_true.mpr fun c hc => ?_
  have h := List.all_eq_true.mp h1 c hc
  rcases Bool.eq_false_or_eq_true (isCode c) with hi | hi
  · exact h2 c (List.mem_filter.mpr ⟨hc, hi⟩)
  · simpa [hi] using h
set_option maxRecDepth 65536 in
theorem w_c0 : (Jvm.Cond.code x code maxLocals ret).before args0 about1 = true := code_word (m := ⟨1, 4⟩) (meth := k1m4) (c := k1c4) (by decide +kernel) rfl rfl rfl (by decide +kernel)
set_option maxRecDepth 65536 in
theorem w_c1 : (Jvm.Cond.code ({ cls := "com/example/libhedge/libhedge/RefinablePartitionSplitPinLaw", name := "bit", desc := "(II)I" } : Jvm.MethodName) method_2_code (2 : Nat) (Option.some Jvm.ClassFile.FieldType.int)).before args0 about1 = true := code_word (m := ⟨1, 1⟩) (meth := k1m1) (c := k1c1) (by decide +kernel) rfl rfl rfl (by decide +kernel)
set_option maxRecDepth 65536 in
theorem w_c2 : (Jvm.Cond.code ({ cls := "com/example/libhedge/libhedge/RefinablePartition", name := "<init>", desc := "([II)V" } : Jvm.MethodName) prog_71_method_1_code (9 : Nat) (Option.none : Option Jvm.ClassFile.FieldType)).before args0 about1 = true := code_word (m := ⟨2, 0⟩) (meth := k2m0) (c := k2c0) (by decide +kernel) rfl rfl rfl (by decide +kernel)
set_option maxRecDepth 65536 in
theorem w_c3 : (Jvm.Cond.code ({ cls := "java/lang/Object", name := "<init>", desc := "()V" } : Jvm.MethodName) object_method_1_code (1 : Nat) (Option.none : Option Jvm.ClassFile.FieldType)).before args0 about1 = true := code_word (m := ⟨0, 0⟩) (meth := k0m0) (c := k0c0) (by decide +kernel) rfl rfl rfl (by decide +kernel)
set_option maxRecDepth 65536 in
theorem w_c4 : (Jvm.Cond.code ({ cls := "java/lang/Math", name := "max", desc := "(II)I" } : Jvm.MethodName) jdk_29_method_65_code (2 : Nat) (Option.some Jvm.ClassFile.FieldType.int)).before args0 about1 = true := code_word (m := ⟨3, 1⟩) (meth := k3m1) (c := k3c1) (by decide +kernel) rfl rfl rfl (by decide +kernel)
set_option maxRecDepth 65536 in
theorem w_c5 : (Jvm.Cond.code ({ cls := "com/example/libhedge/libhedge/RefinablePartition", name := "mark", desc := "(I)V" } : Jvm.MethodName) prog_71_method_6_code (5 : Nat) (Option.none : Option Jvm.ClassFile.FieldType)).before args0 about1 = true := code_word (m := ⟨2, 4⟩) (meth := k2m4) (c := k2c4) (by decide +kernel) rfl rfl rfl (by decide +kernel)
set_option maxRecDepth 65536 in
theorem w_c6 : (Jvm.Cond.code ({ cls := "com/example/libhedge/libhedge/RefinablePartition", name := "swap", desc := "(II)V" } : Jvm.MethodName) prog_71_method_8_code (5 : Nat) (Option.none : Option Jvm.ClassFile.FieldType)).before args0 about1 = true := code_word (m := ⟨2, 6⟩) (meth := k2m6) (c := k2c6) (by decide +kernel) rfl rfl rfl (by decide +kernel)
set_option maxRecDepth 65536 in
theorem w_c7 : (Jvm.Cond.code ({ cls := "com/example/libhedge/libhedge/RefinablePartition", name := "split", desc := "()V" } : Jvm.MethodName) prog_71_method_7_code (6 : Nat) (Option.none : Option Jvm.ClassFile.FieldType)).before args0 about1 = true := code_word (m := ⟨2, 5⟩) (meth := k2m5) (c := k2c5) (by decide +kernel) rfl rfl rfl (by decide +kernel)
set_option maxRecDepth 65536 in
theorem w_c8 : (Jvm.Cond.code ({ cls := "com/example/libhedge/libhedge/RefinablePartitionSplitPinLaw", name := "firstMarked", desc := "([I[II)I" } : Jvm.MethodName) method_3_code (3 : Nat) (Option.some Jvm.ClassFile.FieldType.int)).before args0 about1 = true := code_word (m := ⟨1, 2⟩) (meth := k1m2) (c := k1c2) (by decide +kernel) rfl rfl rfl (by decide +kernel)
set_option maxRecDepth 65536 in
theorem w_c9 : (Jvm.Cond.code ({ cls := "com/example/libhedge/libhedge/RefinablePartition", name := "setCount", desc := "()I" } : Jvm.MethodName) prog_71_method_2_code (1 : Nat) (Option.some Jvm.ClassFile.FieldType.int)).before args0 about1 = true := code_word (m := ⟨2, 1⟩) (meth := k2m1) (c := k2c1) (by decide +kernel) rfl rfl rfl (by decide +kernel)
set_option maxRecDepth 65536 in
theorem w_c10 : (Jvm.Cond.code ({ cls := "com/example/libhedge/libhedge/RefinablePartitionSplitPinLaw", name := "elemOk", desc := "(Lcom/example/libhedge/libhedge/RefinablePartition;III[I[I[I[I[I)Z" } : Jvm.MethodName) method_4_code (13 : Nat) (Option.some Jvm.ClassFile.FieldType.boolean)).before args0 about1 = true := code_word (m := ⟨1, 3⟩) (meth := k1m3) (c := k1c3) (by decide +kernel) rfl rfl rfl (by decide +kernel)
set_option maxRecDepth 65536 in
theorem w_c11 : (Jvm.Cond.code ({ cls := "com/example/libhedge/libhedge/RefinablePartition", name := "setOf", desc := "(I)I" } : Jvm.MethodName) prog_71_method_3_code (2 : Nat) (Option.some Jvm.ClassFile.FieldType.int)).before args0 about1 = true := code_word (m := ⟨2, 2⟩) (meth := k2m2) (c := k2c2) (by decide +kernel) rfl rfl rfl (by decide +kernel)
set_option maxRecDepth 65536 in
theorem w_c12 : (Jvm.Cond.code ({ cls := "com/example/libhedge/libhedge/RefinablePartition", name := "sizeOf", desc := "(I)I" } : Jvm.MethodName) prog_71_method_4_code (2 : Nat) (Option.some Jvm.ClassFile.FieldType.int)).before args0 about1 = true := code_word (m := ⟨2, 3⟩) (meth := k2m3) (c := k2c3) (by decide +kernel) rfl rfl rfl (by decide +kernel)
def codes1 : List Jvm.Cond := [Jvm.Cond.code x code maxLocals ret, Jvm.Cond.code ({ cls := "com/example/libhedge/libhedge/RefinablePartitionSplitPinLaw", name := "bit", desc := "(II)I" } : Jvm.MethodName) method_2_code (2 : Nat) (Option.some Jvm.ClassFile.FieldType.int), Jvm.Cond.code ({ cls := "com/example/libhedge/libhedge/RefinablePartition", name := "<init>", desc := "([II)V" } : Jvm.MethodName) prog_71_method_1_code (9 : Nat) (Option.none : Option Jvm.ClassFile.FieldType), Jvm.Cond.code ({ cls := "java/lang/Object", name := "<init>", desc := "()V" } : Jvm.MethodName) object_method_1_code (1 : Nat) (Option.none : Option Jvm.ClassFile.FieldType), Jvm.Cond.code ({ cls := "java/lang/Math", name := "max", desc := "(II)I" } : Jvm.MethodName) jdk_29_method_65_code (2 : Nat) (Option.some Jvm.ClassFile.FieldType.int), Jvm.Cond.code ({ cls := "com/example/libhedge/libhedge/RefinablePartition", name := "mark", desc := "(I)V" } : Jvm.MethodName) prog_71_method_6_code (5 : Nat) (Option.none : Option Jvm.ClassFile.FieldType), Jvm.Cond.code ({ cls := "com/example/libhedge/libhedge/RefinablePartition", name := "swap", desc := "(II)V" } : Jvm.MethodName) prog_71_method_8_code (5 : Nat) (Option.none : Option Jvm.ClassFile.FieldType), Jvm.Cond.code ({ cls := "com/example/libhedge/libhedge/RefinablePartition", name := "split", desc := "()V" } : Jvm.MethodName) prog_71_method_7_code (6 : Nat) (Option.none : Option Jvm.ClassFile.FieldType), Jvm.Cond.code ({ cls := "com/example/libhedge/libhedge/RefinablePartitionSplitPinLaw", name := "firstMarked", desc := "([I[II)I" } : Jvm.MethodName) method_3_code (3 : Nat) (Option.some Jvm.ClassFile.FieldType.int), Jvm.Cond.code ({ cls := "com/example/libhedge/libhedge/RefinablePartition", name := "setCount", desc := "()I" } : Jvm.MethodName) prog_71_method_2_code (1 : Nat) (Option.some Jvm.ClassFile.FieldType.int), Jvm.Cond.code ({ cls := "com/example/libhedge/libhedge/RefinablePartitionSplitPinLaw", name := "elemOk", desc := "(Lcom/example/libhedge/libhedge/RefinablePartition;III[I[I[I[I[I)Z" } : Jvm.MethodName) method_4_code (13 : Nat) (Option.some Jvm.ClassFile.FieldType.boolean), Jvm.Cond.code ({ cls := "com/example/libhedge/libhedge/RefinablePartition", name := "setOf", desc := "(I)I" } : Jvm.MethodName) prog_71_method_3_code (2 : Nat) (Option.some Jvm.ClassFile.FieldType.int), Jvm.Cond.code ({ cls := "com/example/libhedge/libhedge/RefinablePartition", name := "sizeOf", desc := "(I)I" } : Jvm.MethodName) prog_71_method_4_code (2 : Nat) (Option.some Jvm.ClassFile.FieldType.int)]
set_option maxRecDepth 65536 in
theorem codes_eq : words1.filter isCode = codes1 := rfl
theorem w_codes : ∀ c ∈ words1.filter isCode, c.before args0 about1 = true := by
  rw [codes_eq]
  intro c hc
  simp only [codes1, List.mem_cons, List.not_mem_nil, or_false] at hc
  rcases hc with rfl | rfl | rfl | rfl | rfl | rfl | rfl | rfl | rfl | rfl | rfl | rfl | rfl
  · exact w_c0
  · exact w_c1
  · exact w_c2
  · exact w_c3
  · exact w_c4
  · exact w_c5
  · exact w_c6
  · exact w_c7
  · exact w_c8
  · exact w_c9
  · exact w_c10
  · exact w_c11
  · exact w_c12
set_option maxRecDepth 65536 in
theorem w_t1 : (words1.take 24).all (fun c => isCode c || c.before args0 about1) = true := by decide +kernel
set_option maxRecDepth 65536 in
theorem w_t2 : ((words1.drop 24).take 24).all (fun c => isCode c || c.before args0 about1) = true := by decide +kernel
set_option maxRecDepth 65536 in
theorem w_t3 : (((words1.drop 24).drop 24).take 24).all (fun c => isCode c || c.before args0 about1) = true := by decide +kernel
set_option maxRecDepth 65536 in
theorem w_t4 : (((words1.drop 24).drop 24).drop 24).all (fun c => isCode c || c.before args0 about1) = true := by decide +kernel
theorem w_tables : (allAtoms (Jvm.Cond.code x code maxLocals ret :: tables_1)).before args0 about1 = true := by
  rw [allAtoms_all]
  show words1.all (fun c => c.before args0 about1) = true
  refine all_split ?_ w_codes
  rw [← List.take_append_drop 24 words1, List.all_append, w_t1, ← List.take_append_drop 24 (words1.drop 24), List.all_append, w_t2, ← List.take_append_drop 24 ((words1.drop 24).drop 24), List.all_append, w_t3, w_t4]
  rfl
set_option maxRecDepth 65536 in
theorem w_case : (Jvm.Cond.and given_1 narrow_1).before args0 about1 = true := by decide +kernel
theorem w_applies : (headSpec (Jvm.Cond.code x code maxLocals ret :: tables_1) room_1).applies x e0.platform about1 = true :=
  (Spec.applies_iff w_frames).mpr ⟨w_running, w_runnable, w_alone, w_named, w_hears, w_ripe, w_room, w_tables⟩
theorem atStart : AtStart classFile x code maxLocals ret World_1 tables_1 room_1 Calls_1 rest_1 Pre_1 launch0 p0 e0 about1 theMethod args0 below0 :=
  ⟨lists_1, trivial, launch0.admits_env _ _ _, launch0.least_env, fairChoices_fair.cas, fairChoices_fair.clock, w_frames, w_args, w_heap, w_applies, trivial, trivial, w_case⟩
end start1
theorem witness_1 : WitnessClaimed_1 := ⟨start1.p0, start1.e0, start1.about1, start1.theMethod, start1.args0, start1.below0, start1.atStart⟩
end Jvm.Pilot.@@N@@
