import JvmDerived
import JvmDerived.Pilot.@@N@@Statement
import JvmDerived.Pilot.@@N@@Code
set_option linter.unusedVariables false
set_option linter.unusedSimpArgs false
namespace Jvm.Pilot.@@N@@
open Jvm Jvm.ClassFile Sem Op Lib Jvm.Free Jvm.Stand Jvm.LawKit Jvm.RoadKit Bundle Jvm.Pilot.@@N@@.Jvm.D
def own_Go (p : Program) (e : Env) (below : List Frame) (G : State → Outcome → Prop) (σ : State) : Prop := ∃ U o, Steps p.tables e below σ U ∧ U.status = .running ∧ Ended U below o ∧ G U o
theorem own_go {p : Program} {e : Env} {below : List Frame} {G : State → Outcome → Prop} {σ σ' : State} (h : ∀ t, Steps p.tables e below σ' t → Steps p.tables e below σ t) (k : own_Go p e below G σ') : own_Go p e below G σ := by
  obtain ⟨U, o, h1, h2⟩ := k
  exact ⟨U, o, h _ h1, h2⟩
def own_Post (s : State) (Q : Option Value → Heap → List Loc → Prop) (C S : Nat) (U : State) (o : Outcome) : Prop := ∃ v L, o = .returned v ∧ Q v U.heap L ∧ FrameEnd s o U L C S
theorem own_ltL {x y : Int64} (h : x < y) : ifCond.holds .lt (lcmpW x y) = true ∧ ifCond.holds .ge (lcmpW x y) = false := by
  have q := (lw_lt x y).mpr h
  exact ⟨(if0 _ _).trans (tlt q).1, (if0 _ _).trans (tlt q).2.1⟩
theorem own_nltL {x y : Int64} (h : ¬ x < y) : ifCond.holds .lt (lcmpW x y) = false ∧ ifCond.holds .ge (lcmpW x y) = true := by
  have q := fun z => h ((lw_lt x y).mp z)
  exact ⟨(if0 _ _).trans (flt q).1, (if0 _ _).trans (flt q).2.1⟩
theorem own_eqL {x y : Int64} (h : x = y) : ifCond.holds .eq (lcmpW x y) = true ∧ ifCond.holds .ne (lcmpW x y) = false := by
  have q := (lw_eq x y).mpr h
  exact ⟨(if0 _ _).trans (teq q).1, (if0 _ _).trans (teq q).2⟩
section OwnSteps
variable {p : Program} {l : Launch} {e : Env} {R : Room} {s : State} {m : MethodId} {args : Array Value} {below : List Frame} {meth : Method} {c : Code} {T : State} {locs : List Loc} {cells slots : Nat} {G : State → Outcome → Prop} {Ls : Array Slot} {rest : List Value} {pc : Nat}
theorem own_iloadN (X : Stand p l e R s m args below meth c T locs cells slots) (hx : p.tables.exec = Jvm.exec) {i : Fin 4} {v : Int32} (hd : decode c.code pc = .ok (.iload_n i, 1)) (hl : Ls[i.val]? = some (.val (.int v))) (pc' : Nat) (hp : pc + 1 = pc') (k : own_Go p e below G (T.setTop (mkF m pc' Ls (.int v :: rest)))) : own_Go p e below G (T.setTop (mkF m pc Ls (rest))) := by
  subst hp; exact own_go (fun t q => XS.iloadN X.here hx rfl hd hl q) k
theorem own_iload (X : Stand p l e R s m args below meth c T locs cells slots) (hx : p.tables.exec = Jvm.exec) {i : Nat} {v : Int32} (hd : decode c.code pc = .ok (.iload i, 2)) (hl : Ls[i]? = some (.val (.int v))) (pc' : Nat) (hp : pc + 2 = pc') (k : own_Go p e below G (T.setTop (mkF m pc' Ls (.int v :: rest)))) : own_Go p e below G (T.setTop (mkF m pc Ls (rest))) := by
  subst hp; exact own_go (fun t q => XS.iload X.here hx rfl hd hl q) k
theorem own_lload (X : Stand p l e R s m args below meth c T locs cells slots) (hx : p.tables.exec = Jvm.exec) {i : Nat} {v : Int64} (hd : decode c.code pc = .ok (.lload i, 2)) (hl : Ls[i]? = some (.val (.long v))) (pc' : Nat) (hp : pc + 2 = pc') (k : own_Go p e below G (T.setTop (mkF m pc' Ls (.long v :: rest)))) : own_Go p e below G (T.setTop (mkF m pc Ls (rest))) := by
  subst hp; exact own_go (fun t q => XS.lload X.here hx rfl hd hl q) k
theorem own_aloadN (X : Stand p l e R s m args below meth c T locs cells slots) (hx : p.tables.exec = Jvm.exec) {i : Fin 4} {v : Value} (hd : decode c.code pc = .ok (.aload_n i, 1)) (hl : Ls[i.val]? = some (.val v)) (hv : v.isRef = true) (pc' : Nat) (hp : pc + 1 = pc') (k : own_Go p e below G (T.setTop (mkF m pc' Ls (v :: rest)))) : own_Go p e below G (T.setTop (mkF m pc Ls (rest))) := by
  subst hp; exact own_go (fun t q => XS.aloadN X.here hx rfl hd hl hv q) k
theorem own_aload (X : Stand p l e R s m args below meth c T locs cells slots) (hx : p.tables.exec = Jvm.exec) {i : Nat} {v : Value} (hd : decode c.code pc = .ok (.aload i, 2)) (hl : Ls[i]? = some (.val v)) (hv : v.isRef = true) (pc' : Nat) (hp : pc + 2 = pc') (k : own_Go p e below G (T.setTop (mkF m pc' Ls (v :: rest)))) : own_Go p e below G (T.setTop (mkF m pc Ls (rest))) := by
  subst hp; exact own_go (fun t q => XS.aload X.here hx rfl hd hl hv q) k
theorem own_istoreN (X : Stand p l e R s m args below meth c T locs cells slots) (hx : p.tables.exec = Jvm.exec) {i : Fin 4} {v : Int32} (hd : decode c.code pc = .ok (.istore_n i, 1)) (l' : Array Slot) (hl : storeLocals Ls i.val (.int v) = some l') (pc' : Nat) (hp : pc + 1 = pc') (k : own_Go p e below G (T.setTop (mkF m pc' l' (rest)))) : own_Go p e below G (T.setTop (mkF m pc Ls (.int v :: rest))) := by
  subst hp; exact own_go (fun t q => XS.istoreN X.here hx rfl hd rfl hl q) k
theorem own_istore (X : Stand p l e R s m args below meth c T locs cells slots) (hx : p.tables.exec = Jvm.exec) {i : Nat} {v : Int32} (hd : decode c.code pc = .ok (.istore i, 2)) (l' : Array Slot) (hl : storeLocals Ls i (.int v) = some l') (pc' : Nat) (hp : pc + 2 = pc') (k : own_Go p e below G (T.setTop (mkF m pc' l' (rest)))) : own_Go p e below G (T.setTop (mkF m pc Ls (.int v :: rest))) := by
  subst hp; exact own_go (fun t q => XS.istore X.here hx rfl hd rfl hl q) k
theorem own_lstore (X : Stand p l e R s m args below meth c T locs cells slots) (hx : p.tables.exec = Jvm.exec) {i : Nat} {v : Int64} (hd : decode c.code pc = .ok (.lstore i, 2)) (l' : Array Slot) (hl : storeLocals Ls i (.long v) = some l') (pc' : Nat) (hp : pc + 2 = pc') (k : own_Go p e below G (T.setTop (mkF m pc' l' (rest)))) : own_Go p e below G (T.setTop (mkF m pc Ls (.long v :: rest))) := by
  subst hp; exact own_go (fun t q => XS.lstore X.here hx rfl hd rfl hl q) k
theorem own_astore (X : Stand p l e R s m args below meth c T locs cells slots) (hx : p.tables.exec = Jvm.exec) {i : Nat} {v : Value} (hd : decode c.code pc = .ok (.astore i, 2)) (hv : v.isRef = true) (l' : Array Slot) (hl : storeLocals Ls i v = some l') (pc' : Nat) (hp : pc + 2 = pc') (k : own_Go p e below G (T.setTop (mkF m pc' l' (rest)))) : own_Go p e below G (T.setTop (mkF m pc Ls (v :: rest))) := by
  subst hp; exact own_go (fun t q => XS.astore X.here hx rfl hd rfl hv hl q) k
theorem own_iinc (X : Stand p l e R s m args below meth c T locs cells slots) (hx : p.tables.exec = Jvm.exec) {i : Nat} {z : Int} {v : Int32} (hd : decode c.code pc = .ok (.iinc i z, 3)) (hl : Ls[i]? = some (.val (.int v))) (l' : Array Slot) (hl' : storeLocals Ls i (.int (v + Int32.ofInt z)) = some l') (pc' : Nat) (hp : pc + 3 = pc') (k : own_Go p e below G (T.setTop (mkF m pc' l' (rest)))) : own_Go p e below G (T.setTop (mkF m pc Ls (rest))) := by
  subst hp; exact own_go (fun t q => XS.iinc X.here hx rfl hd hl hl' q) k
theorem own_iconst (X : Stand p l e R s m args below meth c T locs cells slots) (hx : p.tables.exec = Jvm.exec) {i : Int} (hd : decode c.code pc = .ok (.iconst i, 1)) (v : Int32) (hv : v = Int32.ofInt i) (pc' : Nat) (hp : pc + 1 = pc') (k : own_Go p e below G (T.setTop (mkF m pc' Ls (.int v :: rest)))) : own_Go p e below G (T.setTop (mkF m pc Ls (rest))) := by
  subst hp; exact own_go (fun t q => XS.iconst X.here hx rfl hd (hv ▸ q)) k
theorem own_lconst (X : Stand p l e R s m args below meth c T locs cells slots) (hx : p.tables.exec = Jvm.exec) {i : Fin 2} (hd : decode c.code pc = .ok (.lconst i, 1)) (v : Int64) (hv : v = Int64.ofNat i) (pc' : Nat) (hp : pc + 1 = pc') (k : own_Go p e below G (T.setTop (mkF m pc' Ls (.long v :: rest)))) : own_Go p e below G (T.setTop (mkF m pc Ls (rest))) := by
  subst hp; exact own_go (fun t q => XS.lconst X.here hx rfl hd (hv ▸ q)) k
theorem own_ldcInt (X : Stand p l e R s m args below meth c T locs cells slots) (hx : p.tables.exec = Jvm.exec) {own : String} {index : Nat} {v : Int32} (hown : s.vm.findClass own = some m.cls) (hc : (Cond.constant own index v).before args s = true) (hd : decode c.code pc = .ok (.ldc index, 2)) (pc' : Nat) (hp : pc + 2 = pc') (k : own_Go p e below G (T.setTop (mkF m pc' Ls (.int v :: rest)))) : own_Go p e below G (T.setTop (mkF m pc Ls rest)) := by
  subst hp; exact own_go (X.ldcInt hx hown hc (g := mkF m pc Ls rest) rfl hd) k
theorem own_iadd (X : Stand p l e R s m args below meth c T locs cells slots) (hx : p.tables.exec = Jvm.exec) {x y : Int32} (hd : decode c.code pc = .ok (.iadd, 1)) (pc' : Nat) (hp : pc + 1 = pc') (k : own_Go p e below G (T.setTop (mkF m pc' Ls (.int (x + y) :: rest)))) : own_Go p e below G (T.setTop (mkF m pc Ls (.int y :: .int x :: rest))) := by
  subst hp; exact own_go (fun t q => XS.iadd X.here hx rfl hd rfl q) k
theorem own_isub (X : Stand p l e R s m args below meth c T locs cells slots) (hx : p.tables.exec = Jvm.exec) {x y : Int32} (hd : decode c.code pc = .ok (.isub, 1)) (pc' : Nat) (hp : pc + 1 = pc') (k : own_Go p e below G (T.setTop (mkF m pc' Ls (.int (x - y) :: rest)))) : own_Go p e below G (T.setTop (mkF m pc Ls (.int y :: .int x :: rest))) := by
  subst hp; exact own_go (fun t q => XS.isub X.here hx rfl hd rfl q) k
theorem own_iand (X : Stand p l e R s m args below meth c T locs cells slots) (hx : p.tables.exec = Jvm.exec) {x y : Int32} (hd : decode c.code pc = .ok (.iand, 1)) (pc' : Nat) (hp : pc + 1 = pc') (k : own_Go p e below G (T.setTop (mkF m pc' Ls (.int (x &&& y) :: rest)))) : own_Go p e below G (T.setTop (mkF m pc Ls (.int y :: .int x :: rest))) := by
  subst hp; exact own_go (fun t q => XS.iand X.here hx rfl hd rfl q) k
theorem own_ladd (X : Stand p l e R s m args below meth c T locs cells slots) (hx : p.tables.exec = Jvm.exec) {x y : Int64} (hd : decode c.code pc = .ok (.ladd, 1)) (pc' : Nat) (hp : pc + 1 = pc') (k : own_Go p e below G (T.setTop (mkF m pc' Ls (.long (x + y) :: rest)))) : own_Go p e below G (T.setTop (mkF m pc Ls (.long y :: .long x :: rest))) := by
  subst hp; exact own_go (fun t q => XS.ladd X.here hx rfl hd rfl q) k
theorem own_lmul (X : Stand p l e R s m args below meth c T locs cells slots) (hx : p.tables.exec = Jvm.exec) {x y : Int64} (hd : decode c.code pc = .ok (.lmul, 1)) (pc' : Nat) (hp : pc + 1 = pc') (k : own_Go p e below G (T.setTop (mkF m pc' Ls (.long (x * y) :: rest)))) : own_Go p e below G (T.setTop (mkF m pc Ls (.long y :: .long x :: rest))) := by
  subst hp; exact own_go (fun t q => XS.lmul X.here hx rfl hd rfl q) k
theorem own_irem (X : Stand p l e R s m args below meth c T locs cells slots) (hx : p.tables.exec = Jvm.exec) {x y : Int32} (hd : decode c.code pc = .ok (.irem, 1)) (hy : y ≠ 0) (pc' : Nat) (hp : pc + 1 = pc') (k : own_Go p e below G (T.setTop (mkF m pc' Ls (.int (x % y) :: rest)))) : own_Go p e below G (T.setTop (mkF m pc Ls (.int y :: .int x :: rest))) := by
  subst hp; exact own_go (fun t q => iremM X hx rfl hd rfl hy q) k
theorem own_iushr (X : Stand p l e R s m args below meth c T locs cells slots) (hx : p.tables.exec = Jvm.exec) {x y : Int32} (hd : decode c.code pc = .ok (.iushr, 1)) (pc' : Nat) (hp : pc + 1 = pc') (k : own_Go p e below G (T.setTop (mkF m pc' Ls (.int ((x.toUInt32 >>> (y &&& 31).toUInt32).toInt32) :: rest)))) : own_Go p e below G (T.setTop (mkF m pc Ls (.int y :: .int x :: rest))) := by
  subst hp; exact own_go (fun t q => XS.iushr X.here hx rfl hd rfl q) k
theorem own_i2l (X : Stand p l e R s m args below meth c T locs cells slots) (hx : p.tables.exec = Jvm.exec) {x : Int32} (hd : decode c.code pc = .ok (.i2l, 1)) (pc' : Nat) (hp : pc + 1 = pc') (k : own_Go p e below G (T.setTop (mkF m pc' Ls (.long x.toInt64 :: rest)))) : own_Go p e below G (T.setTop (mkF m pc Ls (.int x :: rest))) := by
  subst hp; exact own_go (fun t q => XS.i2l X.here hx rfl hd rfl q) k
theorem own_dup (X : Stand p l e R s m args below meth c T locs cells slots) (hx : p.tables.exec = Jvm.exec) {x : Value} (hd : decode c.code pc = .ok (.dup, 1)) (hc : x.category = 1) (pc' : Nat) (hp : pc + 1 = pc') (k : own_Go p e below G (T.setTop (mkF m pc' Ls (x :: x :: rest)))) : own_Go p e below G (T.setTop (mkF m pc Ls (x :: rest))) := by
  subst hp; exact own_go (fun t q => XS.dup X.here hx rfl hd rfl hc q) k
theorem own_dup2 (X : Stand p l e R s m args below meth c T locs cells slots) (hx : p.tables.exec = Jvm.exec) {x y : Value} (hd : decode c.code pc = .ok (.dup2, 1)) (hc : x.category = 1) (hc' : y.category = 1) (pc' : Nat) (hp : pc + 1 = pc') (k : own_Go p e below G (T.setTop (mkF m pc' Ls (x :: y :: x :: y :: rest)))) : own_Go p e below G (T.setTop (mkF m pc Ls (x :: y :: rest))) := by
  subst hp; exact own_go (fun t q => XT.dup2 X.here hx rfl hd rfl hc hc' q) k
theorem own_lcmp (X : Stand p l e R s m args below meth c T locs cells slots) (hx : p.tables.exec = Jvm.exec) {x y : Int64} (hd : decode c.code pc = .ok (.lcmp, 1)) (pc' : Nat) (hp : pc + 1 = pc') (k : own_Go p e below G (T.setTop (mkF m pc' Ls (.int (lcmpW x y) :: rest)))) : own_Go p e below G (T.setTop (mkF m pc Ls (.long y :: .long x :: rest))) := by
  subst hp; exact own_go (fun t q => XS.lcmp X.here hx rfl hd rfl q) k
theorem own_goto (X : Stand p l e R s m args below meth c T locs cells slots) (hx : p.tables.exec = Jvm.exec) {o : Int} (hd : decode c.code pc = .ok (.goto o, 3)) (pc' : Nat) (hp : 0 ≤ (pc : Int) + o ∧ ((pc : Int) + o).toNat = pc') (k : own_Go p e below G (T.setTop (mkF m pc' Ls rest))) : own_Go p e below G (T.setTop (mkF m pc Ls rest)) :=
  own_go (fun t q => XS.goto X.here hx rfl (pc0 := pc) (pc' := pc') rfl hd hp.1 hp.2 q) k
theorem own_ifY (X : Stand p l e R s m args below meth c T locs cells slots) (hx : p.tables.exec = Jvm.exec) {o : Int} {cd : ClassFile.Cond} {x : Int32} (hd : decode c.code pc = .ok (.ifCond cd o, 3)) (hc : ifCond.holds cd x = true) (pc' : Nat) (hp : 0 ≤ (pc : Int) + o ∧ ((pc : Int) + o).toNat = pc') (k : own_Go p e below G (T.setTop (mkF m pc' Ls rest))) : own_Go p e below G (T.setTop (mkF m pc Ls (.int x :: rest))) :=
  own_go (fun t q => XS.ifYes X.here hx rfl (pc0 := pc) (pc' := pc') rfl hd rfl hc hp.1 hp.2 q) k
theorem own_ifN (X : Stand p l e R s m args below meth c T locs cells slots) (hx : p.tables.exec = Jvm.exec) {o : Int} {cd : ClassFile.Cond} {x : Int32} (hd : decode c.code pc = .ok (.ifCond cd o, 3)) (hc : ifCond.holds cd x = false) (pc' : Nat) (hp : pc + 3 = pc') (k : own_Go p e below G (T.setTop (mkF m pc' Ls (rest)))) : own_Go p e below G (T.setTop (mkF m pc Ls (.int x :: rest))) := by
  subst hp; exact own_go (fun t q => XS.ifNo X.here hx rfl hd rfl hc q) k
theorem own_icmpY (X : Stand p l e R s m args below meth c T locs cells slots) (hx : p.tables.exec = Jvm.exec) {o : Int} {cd : ClassFile.Cond} {x y : Int32} (hd : decode c.code pc = .ok (.if_icmp cd o, 3)) (hc : if_icmp.holds cd x y = true) (pc' : Nat) (hp : 0 ≤ (pc : Int) + o ∧ ((pc : Int) + o).toNat = pc') (k : own_Go p e below G (T.setTop (mkF m pc' Ls rest))) : own_Go p e below G (T.setTop (mkF m pc Ls (.int y :: .int x :: rest))) :=
  own_go (fun t q => XS.icmpYes X.here hx rfl (pc0 := pc) (pc' := pc') rfl hd rfl hc hp.1 hp.2 q) k
theorem own_icmpN (X : Stand p l e R s m args below meth c T locs cells slots) (hx : p.tables.exec = Jvm.exec) {o : Int} {cd : ClassFile.Cond} {x y : Int32} (hd : decode c.code pc = .ok (.if_icmp cd o, 3)) (hc : if_icmp.holds cd x y = false) (pc' : Nat) (hp : pc + 3 = pc') (k : own_Go p e below G (T.setTop (mkF m pc' Ls (rest)))) : own_Go p e below G (T.setTop (mkF m pc Ls (.int y :: .int x :: rest))) := by
  subst hp; exact own_go (fun t q => XS.icmpNo X.here hx rfl hd rfl hc q) k
theorem own_ret {f : JFrame} {Q : Option Value → Heap → List Loc → Prop} {C S : Nat} (X : Stand p l e R s m args below meth c T locs cells slots) (hlk : meth.locks = false) (hG : own_Post s Q C S = G) {v : Option Value} (hv : meth.sig.returnType = none → v = none)
    (st : ∀ fs, (∀ (f : JFrame) (acts : List Action), f.method = m → f.locked = none → f.entered = [] → (doReturn e (T.setTop f) acts v).1 = T.setFrames fs) → Steps p.tables e below (T.setTop f) (T.setFrames fs)) (hc : cells ≤ C) (hs : slots ≤ S) (hq : Q v T.heap locs) : own_Go p e below G (T.setTop f) := by
  subst hG
  obtain ⟨fs, hr, hrun, hended, hW, hsame⟩ := X.leave (v := v) hv hlk
  exact ⟨_, _, st fs hr, hrun, hended, _, _, rfl, hq, ⟨_, rfl⟩, hW, hsame.mono hc hs⟩
theorem own_ireturn {z : Int32} {Q : Option Value → Heap → List Loc → Prop} {C S : Nat} (X : Stand p l e R s m args below meth c T locs cells slots) (hx : p.tables.exec = Jvm.exec) (hlk : meth.locks = false) (hG : own_Post s Q C S = G) (hret : meth.sig.returnType = some .int) (hd : decode c.code pc = .ok (.ireturn, 1)) (hc : cells ≤ C) (hs : slots ≤ S) (hq : Q (some (.int z)) T.heap locs) : own_Go p e below G (T.setTop (mkF m pc Ls (.int z :: rest))) :=
  own_ret X hlk hG (fun h => by rw [hret] at h; cases h) (fun fs hr => retOut X hx hret rfl (Or.inl ⟨rfl, Or.inl rfl, _, rfl⟩) hd hr) hc hs hq
theorem own_nreturn {z : Int32} {ty : FieldType} {Q : Option Value → Heap → List Loc → Prop} {C S : Nat} (X : Stand p l e R s m args below meth c T locs cells slots) (hx : p.tables.exec = Jvm.exec) (hlk : meth.locks = false) (hG : own_Post s Q C S = G) (hret : meth.sig.returnType = some ty) (ht : ty = .boolean ∨ ty = .byte ∨ ty = .char ∨ ty = .short) (hd : decode c.code pc = .ok (.ireturn, 1)) (hc : cells ≤ C) (hs : slots ≤ S) (hq : Q (some (.int (nar ty z))) T.heap locs) : own_Go p e below G (T.setTop (mkF m pc Ls (.int z :: rest))) :=
  own_ret X hlk hG (fun h => by rw [hret] at h; cases h) (fun fs hr => retN X hx hret ht hd hr) hc hs hq
variable {Z : State} {a0 : Array Value} {h : Heap}
theorem own_callS {bytes : ByteArray} {maxL : Nat} {ret : Option FieldType} {rm : Room} {y : MethodName} {argsL : List Value} {Q : Option Value → Heap → List Loc → Prop} (X : Stand p l e R s m args below meth c T locs cells slots) (hx : p.tables.exec = Jvm.exec) (hZ : Z.Warmed39 s.vm) {own : String} {index : Nat} (hown : s.vm.findClass own = some m.cls) (w1 : (Cond.methodLink own index y).before a0 Z = true) (w2 : (Cond.static y).before a0 Z = true) (w3 : (Cond.initialized y.cls).before a0 Z = true) (w4 : (Cond.code y bytes maxL ret).before a0 Z = true) (hy : y.cls ≠ "java/lang/invoke/MethodHandle" ∧ y.cls ≠ "java/lang/invoke/VarHandle") (eT : T.heap = h)
    (hM : MetFree l y (head1 [Cond.code y bytes maxL ret] rm) (fun a U => a = argsL.toArray ∧ Z.Warmed39 U.vm ∧ U.heap = h) (fun _ _ _ _ _ => True) (fun _ U o U' => ∃ v L, o = .returned v ∧ Q v U'.heap L ∧ FrameEnd U o U' L rm.cells rm.slots))
    (hsize : Ls.size = c.maxLocals) {ps : List FieldType} {rt : Option FieldType} (hdesc : parseMethodDescriptor y.desc = some ⟨ps, rt⟩) (hlen : argsL.length = ps.length) {st : List Value} (hst : st = argsL.reverse ++ rest) (hd : decode c.code pc = .ok (.invokestatic index, 3)) (W : Nat) (hW : (rest.map fun v => v.category).sum ≤ W) (hf : rm.frames + 1 ≤ R.frames) (hl : W + (maxL + 11) + rm.locals ≤ R.locals) (hc : cells + rm.cells ≤ R.cells) (hs : slots + rm.slots ≤ R.slots) (pc' : Nat) (hp : pc + 3 = pc')
    (k : ∀ (T' : State) (L : List Loc) (v : Option Value), Stand p l e R s m args below meth c T' (locs ++ L) (cells + rm.cells) (slots + rm.slots) → Q v T'.heap L → own_Go p e below G (T'.setTop (mkF m pc' Ls (v.toList ++ rest)))) : own_Go p e below G (T.setTop (mkF m pc Ls st)) := by
  subst hp hst
  obtain ⟨v, _, ⟨T', L', k', n'⟩, -, X', ⟨Lc, hQ, l', y', z'⟩, st⟩ := Jvm.LawKit.callS X hx hown (mvT hZ w1) (mvT hZ w2) (mvT hZ w3) (mvT hZ w4) hy (backOf (W := W) hM hZ w4 w3 hf hl) (g := mkF m pc Ls (argsL.reverse ++ rest)) rfl hsize (argsL := argsL) (rest := rest) (lenOf hdesc hlen) rfl (by show 2 * 0 + _ ≤ W; rw [Nat.mul_zero, Nat.zero_add]; exact hW) hd (fun _ _ => ⟨rfl, eT, hc, hs⟩)
  dsimp only [Pt.U, Pt.locs, Pt.cells, Pt.slots] at X' l' y' z' st hQ
  subst l' y' z'
  exact own_go st (k T' Lc v X' hQ)
def own_A {α : Type} (ty : FieldType) (f : α → Value) (Z : State) (h : Heap) (a : Addr) (L : List α) : Prop := ∃ cl : Cell, Arr Z h a cl ty ∧ cl.slots = (L.map f).toArray ∧ L.length < 2147483648
section OwnArr
variable {α : Type} {ty : FieldType} {f : α → Value} {h' : Heap} {a b : Addr} {L : List α}
theorem own_A.lt (F : own_A ty f Z h a L) : a < h.size := by obtain ⟨cl, A, -⟩ := F; exact A.lt
theorem own_A.ext (F : own_A ty f Z h a L) (E : Ext h h') : own_A ty f Z h' a L := by obtain ⟨cl, A, r⟩ := F; exact ⟨cl, A.ext E, r⟩
theorem own_A.other {sl : Nat} {v : Value} (F : own_A ty f Z h b L) (W : Wr h h' a sl v) (q : b ≠ a) : own_A ty f Z h' b L := by obtain ⟨cl, A, r⟩ := F; exact ⟨cl, A.other W q, r⟩
theorem own_A.keep {ws : List Addr} (F : own_A ty f Z h a L) (K : Keep h h' ws) (q : a ∉ ws) : own_A ty f Z h' a L := by obtain ⟨cl, A, r⟩ := F; exact ⟨cl, ⟨K.2.1 a cl A.1 q, A.2⟩, r⟩
theorem own_A.len (F : own_A ty f Z h a L) : L.length < 2147483648 := by obtain ⟨cl, A, -, r⟩ := F; exact r
theorem own_A.set {i : Nat} {x : α} (F : own_A ty f Z h a L) (W : Wr h h' a i (f x)) : own_A ty f Z h' a (L.set i x) := by
  obtain ⟨cl, A, r, r'⟩ := F
  refine ⟨_, A.same W, ?_, by simpa using r'⟩
  show cl.slots.setIfInBounds i (f x) = _
  rw [r, List.map_set]; simp
theorem own_idx {j : Int32} {i n : Nat} (hj : j = Int32.ofNat i) (hi : i < n) (hn : n < 2147483648) : ¬ (j < 0 ∨ n ≤ j.toNatClampNeg) ∧ j.toNatClampNeg = i := by
  subst hj
  have q : (Int32.ofNat i).toInt = i := Int32.toInt_ofNat_of_lt (by omega)
  have q2 : (Int32.ofNat i).toNatClampNeg = i := by rw [Int32.toNatClampNeg, q]; rfl
  refine ⟨fun z => z.elim (fun z => ?_) fun z => by omega, q2⟩
  rw [Int32.lt_iff_toInt_lt, q, show (0 : Int32).toInt = 0 from rfl] at z; omega
theorem own_A.new {k : ClassId} {n : Int32} {d : α} (hd : f d = defaultValue ty) (A : Arr Z h a (newA k ty n) ty) (i : Nat) (hn : n = Int32.ofNat i) (hi : i < 2147483648) : own_A ty f Z h a (List.replicate i d) := by
  refine ⟨_, A, ?_, by simpa using hi⟩
  have q := (own_idx hn (Nat.lt_succ_self i) (n := i + 1))
  have q2 : n.toNatClampNeg = i := by
    subst hn
    rw [Int32.toNatClampNeg, Int32.toInt_ofNat_of_lt (by omega)]; rfl
  simp [newA, q2, hd]
end OwnArr
theorem own_iaload (X : Stand p l e R s m args below meth c T locs cells slots) (hx : p.tables.exec = Jvm.exec) (hZ : Z.Warmed39 s.vm) (eT : T.heap = h) {a : Addr} {L : List Int32} (V : own_A .int Value.int Z h a L) {j : Int32} (i : Nat) (hj : j = Int32.ofNat i) (v : Int32) (hv : L[i]? = some v) (hd : decode c.code pc = .ok (.iaload, 1)) (pc' : Nat) (hp : pc + 1 = pc') (k : own_Go p e below G (T.setTop (mkF m pc' Ls (Value.int v :: rest)))) : own_Go p e below G (T.setTop (mkF m pc Ls (.int j :: .ref a :: rest))) := by
  subst hp
  obtain ⟨cl, A, r, r'⟩ := V
  have hi : i < L.length := (List.getElem?_eq_some_iff.mp hv).1
  obtain ⟨q1, q2⟩ := own_idx hj hi r'
  exact own_go (X.iaload hx (j := j) (v := Value.int v) (by rw [eT]; exact A.1) (State.isArrayOf_alike hZ.alike A.2.1) A.2.2 (by rw [r]; simpa using q1) (by rw [r, q2]; simp [hv]) (g := mkF m pc Ls (.int j :: .ref a :: rest)) rfl rfl hd) k
theorem own_iastore (X : Stand p l e R s m args below meth c T locs cells slots) (hx : p.tables.exec = Jvm.exec) (hZ : Z.Warmed39 s.vm) (eT : T.heap = h) {a : Addr} {L : List Int32} (V : own_A .int Value.int Z h a L) {j : Int32} {x : Int32} (i : Nat) (hj : j = Int32.ofNat i) (hi : i < L.length) (hd : decode c.code pc = .ok (.iastore, 1)) (pc' : Nat) (hp : pc + 1 = pc')
    (k : ∀ (T' : State) (h' : Heap), Stand p l e R s m args below meth c T' (locs ++ [⟨a, j.toNatClampNeg⟩]) cells slots → T'.heap = h' → Wr h h' a i (Value.int x) → own_A .int Value.int Z h' a (L.set i x) → own_Go p e below G (T'.setTop (mkF m pc' Ls rest))) : own_Go p e below G (T.setTop (mkF m pc Ls (Value.int x :: .int j :: .ref a :: rest))) := by
  subst hp
  have V' := V
  obtain ⟨cl, A, r, r'⟩ := V'
  obtain ⟨q1, q2⟩ := own_idx hj hi r'
  obtain ⟨T', h', X', e', W, st⟩ := stI X hx hZ eT A (j := j) (x := x) (by rw [r]; simpa using q1) (g := mkF m pc Ls (Value.int x :: .int j :: .ref a :: rest)) rfl rfl hd
  rw [q2] at W
  exact own_go st (k T' h' X' e' W (V.set W))
theorem own_arraylength {α : Type} {ty : FieldType} {f : α → Value} {L : List α} (X : Stand p l e R s m args below meth c T locs cells slots) (hx : p.tables.exec = Jvm.exec) (hZ : Z.Warmed39 s.vm) (eT : T.heap = h) {a : Addr} (V : own_A ty f Z h a L) (hd : decode c.code pc = .ok (.arraylength, 1)) (pc' : Nat) (hp : pc + 1 = pc') (k : own_Go p e below G (T.setTop (mkF m pc' Ls (.int (Int32.ofNat L.length) :: rest)))) : own_Go p e below G (T.setTop (mkF m pc Ls (.ref a :: rest))) := by
  subst hp
  obtain ⟨cl, A, r, r'⟩ := V
  refine own_go (X.arraylength hx (cell := cl) (by rw [eT]; exact A.1) (State.isArrayOf_alike hZ.alike A.2.1) (g := mkF m pc Ls (.ref a :: rest)) rfl (rest := rest) rfl hd) ?_
  rw [show cl.slots.size.toInt32 = Int32.ofNat L.length by rw [r]; simp]
  exact k
theorem own_newI (X : Stand p l e R s m args below meth c T locs cells slots) (hx : p.tables.exec = Jvm.exec) (hZ : Z.Warmed39 s.vm) (w : (Cond.arrayClass .int).before a0 Z = true) (eT : T.heap = h) {n : Int32} (hd : decode c.code pc = .ok (.newarray .int, 2)) (i : Nat) (hn : n = Int32.ofNat i) (cap : Nat) (hcap : i ≤ cap) (hb : cap * 8 ≤ 536870912) (hc : cells + 1 ≤ R.cells) (hl : slots + cap ≤ R.slots) (pc' : Nat) (hp : pc + 2 = pc')
    (k : ∀ (T' : State) (h' : Heap) (a' : Addr), a' = h.size → Stand p l e R s m args below meth c T' locs (cells + 1) (slots + cap) → T'.heap = h' → Ext h h' → own_A .int Value.int Z h' a' (List.replicate i (0 : Int32)) → own_Go p e below G (T'.setTop (mkF m pc' Ls (.ref a' :: rest)))) : own_Go p e below G (T.setTop (mkF m pc Ls (.int n :: rest))) := by
  subst hp
  have hi : i < 2147483648 := by omega
  obtain ⟨q1, q2⟩ := own_idx hn (Nat.lt_succ_self i) (n := i + 1) (by omega)
  obtain ⟨T', h', cA, X', e', E', A', st⟩ := newP X hx hZ (aty := .int) w eT (g := mkF m pc Ls (.int n :: rest)) rfl hd (n := n) (rest := rest) rfl (fun z => q1 (Or.inl z)) (cap := cap) (by rw [q2]; exact hcap) hb hc hl
  exact own_go st (k T' h' _ rfl X' e' E' (own_A.new (f := Value.int) (d := 0) rfl A' i hn hi))
end OwnSteps
theorem own_w {Z : State} {a0 : Array Value} (hw : ∀ d ∈ tables_1, d.before a0 Z = true) (i : Nat) {d : Cond} (h : tables_1[i]? = some d) : d.before a0 Z = true := hw d (List.mem_of_getElem? h)
theorem own_isl {args : Array Value} {first s : State} {o : Option Outcome} {idx : List Nat} {t : Term} (h : (Cond.isLong t).value args first o s idx = some true) : ∃ x, t.eval args first o idx s = some (.long x) := isL_v h
theorem d1_0 : decode method_2_code 0 = .ok (.iload_n 0, 1) := by decide +kernel
theorem d1_1 : decode method_2_code 1 = .ok (.iconst 1, 1) := by decide +kernel
theorem d1_2 : decode method_2_code 2 = .ok (.iand, 1) := by decide +kernel
theorem d1_3 : decode method_2_code 3 = .ok (.ifCond .eq 7, 3) := by decide +kernel
theorem d1_6 : decode method_2_code 6 = .ok (.iload_n 1, 1) := by decide +kernel
theorem d1_7 : decode method_2_code 7 = .ok (.iconst 1, 1) := by decide +kernel
theorem d1_8 : decode method_2_code 8 = .ok (.isub, 1) := by decide +kernel
theorem d1_9 : decode method_2_code 9 = .ok (.ireturn, 1) := by decide +kernel
theorem d1_10 : decode method_2_code 10 = .ok (.iload_n 0, 1) := by decide +kernel
theorem d1_11 : decode method_2_code 11 = .ok (.iconst 1, 1) := by decide +kernel
theorem d1_12 : decode method_2_code 12 = .ok (.iushr, 1) := by decide +kernel
theorem d1_13 : decode method_2_code 13 = .ok (.iload_n 1, 1) := by decide +kernel
theorem d1_14 : decode method_2_code 14 = .ok (.irem, 1) := by decide +kernel
theorem d1_15 : decode method_2_code 15 = .ok (.ireturn, 1) := by decide +kernel
theorem d2_0 : decode prog_18_method_3_code 0 = .ok (.aload_n 0, 1) := by decide +kernel
theorem d2_1 : decode prog_18_method_3_code 1 = .ok (.arraylength, 1) := by decide +kernel
theorem d2_2 : decode prog_18_method_3_code 2 = .ok (.iconst 1, 1) := by decide +kernel
theorem d2_3 : decode prog_18_method_3_code 3 = .ok (.isub, 1) := by decide +kernel
theorem d2_4 : decode prog_18_method_3_code 4 = .ok (.istore_n 2, 1) := by decide +kernel
theorem d2_5 : decode prog_18_method_3_code 5 = .ok (.iload_n 2, 1) := by decide +kernel
theorem d2_6 : decode prog_18_method_3_code 6 = .ok (.ifCond .lt 24, 3) := by decide +kernel
theorem d2_9 : decode prog_18_method_3_code 9 = .ok (.aload_n 0, 1) := by decide +kernel
theorem d2_10 : decode prog_18_method_3_code 10 = .ok (.iload_n 2, 1) := by decide +kernel
theorem d2_11 : decode prog_18_method_3_code 11 = .ok (.iaload, 1) := by decide +kernel
theorem d2_12 : decode prog_18_method_3_code 12 = .ok (.aload_n 1, 1) := by decide +kernel
theorem d2_13 : decode prog_18_method_3_code 13 = .ok (.iload_n 2, 1) := by decide +kernel
theorem d2_14 : decode prog_18_method_3_code 14 = .ok (.iaload, 1) := by decide +kernel
theorem d2_15 : decode prog_18_method_3_code 15 = .ok (.iconst 1, 1) := by decide +kernel
theorem d2_16 : decode prog_18_method_3_code 16 = .ok (.isub, 1) := by decide +kernel
theorem d2_17 : decode prog_18_method_3_code 17 = .ok (.if_icmp .ne 13, 3) := by decide +kernel
theorem d2_20 : decode prog_18_method_3_code 20 = .ok (.aload_n 0, 1) := by decide +kernel
theorem d2_21 : decode prog_18_method_3_code 21 = .ok (.iload_n 2, 1) := by decide +kernel
theorem d2_22 : decode prog_18_method_3_code 22 = .ok (.iconst 0, 1) := by decide +kernel
theorem d2_23 : decode prog_18_method_3_code 23 = .ok (.iastore, 1) := by decide +kernel
theorem d2_24 : decode prog_18_method_3_code 24 = .ok (.iinc 2 (-1), 3) := by decide +kernel
theorem d2_27 : decode prog_18_method_3_code 27 = .ok (.goto (-22), 3) := by decide +kernel
theorem d2_30 : decode prog_18_method_3_code 30 = .ok (.iload_n 2, 1) := by decide +kernel
theorem d2_31 : decode prog_18_method_3_code 31 = .ok (.ifCond .lt 10, 3) := by decide +kernel
theorem d2_34 : decode prog_18_method_3_code 34 = .ok (.aload_n 0, 1) := by decide +kernel
theorem d2_35 : decode prog_18_method_3_code 35 = .ok (.iload_n 2, 1) := by decide +kernel
theorem d2_36 : decode prog_18_method_3_code 36 = .ok (.dup2, 1) := by decide +kernel
theorem d2_37 : decode prog_18_method_3_code 37 = .ok (.iaload, 1) := by decide +kernel
theorem d2_38 : decode prog_18_method_3_code 38 = .ok (.iconst 1, 1) := by decide +kernel
theorem d2_39 : decode prog_18_method_3_code 39 = .ok (.iadd, 1) := by decide +kernel
theorem d2_40 : decode prog_18_method_3_code 40 = .ok (.iastore, 1) := by decide +kernel
theorem d2_41 : decode prog_18_method_3_code 41 = .ok (.iload_n 2, 1) := by decide +kernel
theorem d2_42 : decode prog_18_method_3_code 42 = .ok (.ifCond .lt 7, 3) := by decide +kernel
theorem d2_45 : decode prog_18_method_3_code 45 = .ok (.iconst 1, 1) := by decide +kernel
theorem d2_46 : decode prog_18_method_3_code 46 = .ok (.goto 4, 3) := by decide +kernel
theorem d2_49 : decode prog_18_method_3_code 49 = .ok (.iconst 0, 1) := by decide +kernel
theorem d2_50 : decode prog_18_method_3_code 50 = .ok (.ireturn, 1) := by decide +kernel
abbrev own_y1 : MethodName := ⟨"com/example/libhedge/libhedge/ChoicesNextPinLaw", "pick", "(II)I"⟩
abbrev own_y2 : MethodName := ⟨"com/example/libhedge/libhedge/Choices", "next", "([I[I)Z"⟩
theorem pf_1 : plainFor own_y1 = true := by first | exact plainFor_of_name (by simp [plainName, overriddenIn]; done) | decide +kernel
theorem pf_2 : plainFor own_y2 = true := by first | exact plainFor_of_name (by simp [plainName, overriddenIn]; done) | decide +kernel
theorem pn_0 : plainName "com/example/libhedge/libhedge/ChoicesNextPinLaw" = true := by first | (simp [plainName, overriddenIn]; done) | decide +kernel
theorem pd_0 : parseMethodDescriptor "(II)I" = some ⟨[.int, .int], some .int⟩ := by decide +kernel
theorem pd_1 : parseMethodDescriptor "([I[I)Z" = some ⟨[(.array .int), (.array .int)], some .boolean⟩ := by decide +kernel
theorem own_and32 (x m : Int32) (k : Nat) (hm : m.toBitVec.toNat = 2 ^ k - 1) (hk : k < 32) : (x &&& m).toInt = ((x.toBitVec.toNat % 2 ^ k : Nat) : Int) := by
  have h : (x &&& m).toBitVec.toNat = x.toBitVec.toNat % 2 ^ k := by
    rw [Int32.toBitVec_and, BitVec.toNat_and, hm, Nat.and_two_pow_sub_one_eq_mod]
  have h2 : x.toBitVec.toNat % 2 ^ k < 2 ^ k := Nat.mod_lt _ (Nat.two_pow_pos k)
  have h3 : 2 ^ k ≤ 2 ^ 31 := Nat.pow_le_pow_right (by decide) (by omega)
  rw [← Int32.toInt_toBitVec, BitVec.toInt_eq_toNat_of_lt (by omega), h]
def own_Cnt (n : Int32) : Prop := 1 ≤ n.toInt ∧ n.toInt ≤ 65536
def own_In (a n : Int32) : Prop := 0 ≤ a.toInt ∧ a.toInt < n.toInt
theorem own_z : (0 : Int32).toInt = 0 := rfl
theorem own_o : (1 : Int32).toInt = 1 := rfl
theorem own_cnt {k n : Int32} (h : ((k &&& (65535 : Int32)) + (1 : Int32)) = n) : own_Cnt n := by
  have q := own_and32 k 65535 16 (by decide) (by decide)
  unfold own_Cnt
  rw [← h, Int32.toInt_add, q, own_o, Int.bmod_eq_of_le_mul_two (by omega) (by omega)]
  omega
theorem own_m1 {n : Int32} (h : own_Cnt n) : (n - (1 : Int32)).toInt = n.toInt - 1 := by
  unfold own_Cnt at h
  rw [Int32.toInt_sub, own_o, Int.bmod_eq_of_le_mul_two (by omega) (by omega)]
theorem own_p1 {a n : Int32} (h : own_Cnt n) (q : own_In a n) : (a + (1 : Int32)).toInt = a.toInt + 1 := by
  unfold own_Cnt at h
  unfold own_In at q
  rw [Int32.toInt_add, own_o, Int.bmod_eq_of_le_mul_two (by omega) (by omega)]
theorem own_max {a n : Int32} (h : own_Cnt n) : a = n - (1 : Int32) ↔ a.toInt = n.toInt - 1 := by
  rw [← own_m1 h]; exact Int32.toInt_inj.symm
def own_pick (c n : Int32) : Int32 := if (c &&& (1 : Int32)) = 0 then ((c).toUInt32 >>> ((1 : Int32) &&& 31).toUInt32).toInt32 % n else n - (1 : Int32)
theorem own_nz {n : Int32} (h : own_Cnt n) : n ≠ 0 := fun q => by
  unfold own_Cnt at h; rw [q, own_z] at h; omega
theorem own_shr1 (c : Int32) : 0 ≤ (((c).toUInt32 >>> ((1 : Int32) &&& 31).toUInt32).toInt32).toInt := by
  have h : (((c).toUInt32 >>> ((1 : Int32) &&& 31).toUInt32).toInt32).toBitVec.toNat = c.toBitVec.toNat / 2 := by
    show ((c).toUInt32 >>> ((1 : Int32) &&& 31).toUInt32).toNat = _
    rw [UInt32.toNat_shiftRight]
    show c.toBitVec.toNat >>> 1 = _
    rw [Nat.shiftRight_eq_div_pow]
  have := c.toBitVec.isLt
  rw [← Int32.toInt_toBitVec, BitVec.toInt_eq_toNat_of_lt (by omega)]; omega
theorem own_pickIn {c n a : Int32} (h : own_Cnt n) (q : own_pick c n = a) : own_In a n := by
  subst q
  unfold own_pick own_In
  split
  · have := own_shr1 c
    unfold own_Cnt at h
    rw [Int32.toInt_mod, Int.tmod_eq_emod_of_nonneg this]
    exact ⟨Int.emod_nonneg _ (by omega), Int.emod_lt_of_pos _ (by omega)⟩
  · rw [own_m1 h]; unfold own_Cnt at h; omega
def own_V (a0 a1 a2 n1 n2 : Int32) : Int64 := (((((a0).toInt64 * (n1).toInt64) + (a1).toInt64) * (n2).toInt64) + (a2).toInt64)
def own_W (n0 n1 n2 : Int32) : Int64 := (((n0).toInt64 * (n1).toInt64) * (n2).toInt64)
theorem own_mulb {x y : Int} {b c : Int} (h0 : 0 ≤ x) (h1 : x ≤ b) (h2 : 0 ≤ y) (h3 : y ≤ c) : 0 ≤ x * y ∧ x * y ≤ b * c :=
  ⟨Int.mul_nonneg h0 h2, Int.mul_le_mul h1 h3 h2 (by omega)⟩
theorem own_Vi {a0 a1 a2 n1 n2 : Int32} (c1 : own_Cnt n1) (c2 : own_Cnt n2) (i0 : 0 ≤ a0.toInt ∧ a0.toInt ≤ 65536) (i1 : 0 ≤ a1.toInt ∧ a1.toInt ≤ 65536) (i2 : 0 ≤ a2.toInt ∧ a2.toInt ≤ 65536) :
    (own_V a0 a1 a2 n1 n2).toInt = (a0.toInt * n1.toInt + a1.toInt) * n2.toInt + a2.toInt ∧ 0 ≤ (own_V a0 a1 a2 n1 n2).toInt ∧ (own_V a0 a1 a2 n1 n2).toInt ≤ 300000000000000 := by
  unfold own_Cnt at *
  obtain ⟨b1, b2⟩ := own_mulb i0.1 i0.2 (by omega : 0 ≤ n1.toInt) c1.2
  obtain ⟨b3, b4⟩ := own_mulb (x := a0.toInt * n1.toInt + a1.toInt) (b := 65536 * 65536 + 65536) (by omega) (by omega) (by omega : 0 ≤ n2.toInt) c2.2
  have e : (own_V a0 a1 a2 n1 n2).toInt = (a0.toInt * n1.toInt + a1.toInt) * n2.toInt + a2.toInt := by
    have s1 : ((a0).toInt64 * (n1).toInt64).toInt = a0.toInt * n1.toInt := by
      rw [Int64.toInt_mul, Int32.toInt_toInt64, Int32.toInt_toInt64, Int.bmod_eq_of_le_mul_two (by omega) (by omega)]
    have s2 : (((a0).toInt64 * (n1).toInt64) + (a1).toInt64).toInt = a0.toInt * n1.toInt + a1.toInt := by
      rw [Int64.toInt_add, s1, Int32.toInt_toInt64, Int.bmod_eq_of_le_mul_two (by omega) (by omega)]
    have s3 : ((((a0).toInt64 * (n1).toInt64) + (a1).toInt64) * (n2).toInt64).toInt = (a0.toInt * n1.toInt + a1.toInt) * n2.toInt := by
      rw [Int64.toInt_mul, s2, Int32.toInt_toInt64, Int.bmod_eq_of_le_mul_two (by omega) (by omega)]
    unfold own_V
    rw [Int64.toInt_add, s3, Int32.toInt_toInt64, Int.bmod_eq_of_le_mul_two (by omega) (by omega)]
  exact ⟨e, by omega, by omega⟩
theorem own_Wi {n0 n1 n2 : Int32} (c0 : own_Cnt n0) (c1 : own_Cnt n1) (c2 : own_Cnt n2) : (own_W n0 n1 n2).toInt = (n0.toInt * n1.toInt) * n2.toInt := by
  unfold own_Cnt at *
  obtain ⟨b1, b2⟩ := own_mulb (by omega : 0 ≤ n0.toInt) c0.2 (by omega : 0 ≤ n1.toInt) c1.2
  obtain ⟨b3, b4⟩ := own_mulb (x := n0.toInt * n1.toInt) (b := 65536 * 65536) (by omega) (by omega) (by omega : 0 ≤ n2.toInt) c2.2
  have s1 : ((n0).toInt64 * (n1).toInt64).toInt = n0.toInt * n1.toInt := by
    rw [Int64.toInt_mul, Int32.toInt_toInt64, Int32.toInt_toInt64, Int.bmod_eq_of_le_mul_two (by omega) (by omega)]
  unfold own_W
  rw [Int64.toInt_mul, s1, Int32.toInt_toInt64, Int.bmod_eq_of_le_mul_two (by omega) (by omega)]
/-- the plain law on integers -/
theorem own_int {A0 A1 A2 N0 N1 N2 : Int} (h0 : 0 ≤ A0) (h0' : A0 < N0) (h1 : 0 ≤ A1) (h1' : A1 < N1) (h2 : 0 ≤ A2) (h2' : A2 < N2) :
    ((A2 ≠ N2 - 1 → (A0 * N1 + A1) * N2 + (A2 + 1) = (A0 * N1 + A1) * N2 + A2 + 1 ∧ (A0 * N1 + A1) * N2 + A2 + 1 < N0 * N1 * N2) ∧
    (A2 = N2 - 1 → A1 ≠ N1 - 1 → (A0 * N1 + (A1 + 1)) * N2 + 0 = (A0 * N1 + A1) * N2 + A2 + 1 ∧ (A0 * N1 + A1) * N2 + A2 + 1 < N0 * N1 * N2)) ∧
    (A2 = N2 - 1 → A1 = N1 - 1 → A0 ≠ N0 - 1 → ((A0 + 1) * N1 + 0) * N2 + 0 = (A0 * N1 + A1) * N2 + A2 + 1 ∧ (A0 * N1 + A1) * N2 + A2 + 1 < N0 * N1 * N2) ∧
    (A2 = N2 - 1 → A1 = N1 - 1 → A0 = N0 - 1 → ¬ (A0 * N1 + A1) * N2 + A2 + 1 < N0 * N1 * N2) := by
  have e1 : (A0 * N1 + (A1 + 1)) * N2 = (A0 * N1 + A1) * N2 + N2 := by rw [← Int.add_assoc, Int.add_mul _ 1, Int.one_mul]
  have e2 : (A0 + 1) * N1 = A0 * N1 + N1 := by rw [Int.add_mul, Int.one_mul]
  have b1 : (A0 + 1) * N1 ≤ N0 * N1 := Int.mul_le_mul_of_nonneg_right (by omega) (by omega)
  have b2 : (A0 * N1 + A1 + 1) * N2 ≤ N0 * N1 * N2 := Int.mul_le_mul_of_nonneg_right (by omega) (by omega)
  rw [Int.add_mul _ 1, Int.one_mul] at b2
  refine ⟨⟨fun q => ⟨by omega, by omega⟩, fun q r => ⟨by omega, ?_⟩⟩, fun q r t => ⟨?_, ?_⟩, fun q r t => ?_⟩
  · have b3 : (A0 * N1 + A1 + 2) * N2 ≤ N0 * N1 * N2 := Int.mul_le_mul_of_nonneg_right (by omega) (by omega)
    rw [Int.add_mul _ 2] at b3; omega
  · have : (A0 + 1) * N1 + 0 = A0 * N1 + (A1 + 1) := by omega
    rw [this, e1]; omega
  · have b3 : (A0 + 2) * N1 ≤ N0 * N1 := Int.mul_le_mul_of_nonneg_right (by omega) (by omega)
    rw [Int.add_mul _ 2] at b3
    have b4 : (A0 * N1 + A1 + 2) * N2 ≤ N0 * N1 * N2 := Int.mul_le_mul_of_nonneg_right (by omega) (by omega)
    rw [Int.add_mul _ 2] at b4; omega
  · have : N0 * N1 = A0 * N1 + (A1 + 1) := by rw [show N0 = A0 + 1 by omega, e2]; omega
    rw [this, e1]; omega
theorem own_inb {a n : Int32} (i : own_In a n) : ¬ a < (0 : Int32) ∧ a < n := by
  unfold own_In at i
  rw [Int32.lt_iff_toInt_lt, Int32.lt_iff_toInt_lt, own_z]; omega
theorem own_In0 {n : Int32} (c : own_Cnt n) : own_In 0 n := by unfold own_Cnt at c; unfold own_In; rw [own_z]; omega
theorem own_In1 {a n : Int32} (c : own_Cnt n) (i : own_In a n) (h : ¬ a = n - (1 : Int32)) : own_In (a + (1 : Int32)) n := by
  rw [own_max c] at h
  unfold own_In
  rw [own_p1 c i]
  unfold own_In at i; omega
theorem own_le {a n : Int32} (c : own_Cnt n) (i : own_In a n) : 0 ≤ a.toInt ∧ a.toInt ≤ 65536 := by unfold own_Cnt at c; unfold own_In at i; omega
theorem own_V1 {a0 a1 a2 n1 n2 : Int32} (c1 : own_Cnt n1) (c2 : own_Cnt n2) (i0 : 0 ≤ a0.toInt ∧ a0.toInt ≤ 65536) (i1 : 0 ≤ a1.toInt ∧ a1.toInt ≤ 65536) (i2 : 0 ≤ a2.toInt ∧ a2.toInt ≤ 65536) : (own_V a0 a1 a2 n1 n2 + 1).toInt = (a0.toInt * n1.toInt + a1.toInt) * n2.toInt + a2.toInt + 1 := by
  have q := own_Vi c1 c2 i0 i1 i2
  rw [Int64.toInt_add, show (1 : Int64).toInt = 1 from rfl, Int.bmod_eq_of_le_mul_two (by omega) (by omega)]; omega
theorem own_all {a0 a1 a2 n0 n1 n2 : Int32} (c0 : own_Cnt n0) (c1 : own_Cnt n1) (c2 : own_Cnt n2) (i0 : own_In a0 n0) (i1 : own_In a1 n1) (i2 : own_In a2 n2) :
    ((¬ a2 = n2 - (1 : Int32) → own_V a0 a1 (a2 + (1 : Int32)) n1 n2 = own_V a0 a1 a2 n1 n2 + 1 ∧ own_V a0 a1 a2 n1 n2 + 1 < own_W n0 n1 n2) ∧
    (a2 = n2 - (1 : Int32) → ¬ a1 = n1 - (1 : Int32) → own_V a0 (a1 + (1 : Int32)) 0 n1 n2 = own_V a0 a1 a2 n1 n2 + 1 ∧ own_V a0 a1 a2 n1 n2 + 1 < own_W n0 n1 n2)) ∧
    (a2 = n2 - (1 : Int32) → a1 = n1 - (1 : Int32) → ¬ a0 = n0 - (1 : Int32) → own_V (a0 + (1 : Int32)) 0 0 n1 n2 = own_V a0 a1 a2 n1 n2 + 1 ∧ own_V a0 a1 a2 n1 n2 + 1 < own_W n0 n1 n2) ∧
    (a2 = n2 - (1 : Int32) → a1 = n1 - (1 : Int32) → a0 = n0 - (1 : Int32) → ¬ own_V a0 a1 a2 n1 n2 + 1 < own_W n0 n1 n2) := by
  obtain ⟨⟨r1, r2⟩, r3, r4⟩ := own_int i0.1 i0.2 i1.1 i1.2 i2.1 i2.2
  have v1 := own_V1 c1 c2 (own_le c0 i0) (own_le c1 i1) (own_le c2 i2)
  have w := own_Wi c0 c1 c2
  have z : 0 ≤ (0 : Int32).toInt ∧ (0 : Int32).toInt ≤ 65536 := by decide
  refine ⟨⟨fun q => ?_, fun q r => ?_⟩, fun q r t => ?_, fun q r t => ?_⟩
  · have k := own_In1 c2 i2 q
    rw [own_max c2] at q
    obtain ⟨u1, u2⟩ := r1 q
    refine ⟨Int64.toInt_inj.mp ?_, by rw [Int64.lt_iff_toInt_lt, v1, w]; exact u2⟩
    rw [v1, (own_Vi c1 c2 (own_le c0 i0) (own_le c1 i1) (own_le c2 k)).1, own_p1 c2 i2]; exact u1
  · have k := own_In1 c1 i1 r
    rw [own_max c2] at q
    rw [own_max c1] at r
    obtain ⟨u1, u2⟩ := r2 q r
    refine ⟨Int64.toInt_inj.mp ?_, by rw [Int64.lt_iff_toInt_lt, v1, w]; exact u2⟩
    rw [v1, (own_Vi c1 c2 (own_le c0 i0) (own_le c1 k) z).1, own_p1 c1 i1]; exact u1
  · have k := own_In1 c0 i0 t
    rw [own_max c2] at q
    rw [own_max c1] at r
    rw [own_max c0] at t
    obtain ⟨u1, u2⟩ := r3 q r t
    refine ⟨Int64.toInt_inj.mp ?_, by rw [Int64.lt_iff_toInt_lt, v1, w]; exact u2⟩
    rw [v1, (own_Vi c1 c2 (own_le c0 k) z z).1, own_p1 c0 i0]; exact u1
  · rw [own_max c2] at q
    rw [own_max c1] at r
    rw [own_max c0] at t
    rw [Int64.lt_iff_toInt_lt, v1, w]; exact r4 q r t

def Q1 (cc nn : Int32) (h0 : Heap) (n0 : Nat) (v : Option Value) (h : Heap) (L : List Loc) : Prop := v = some (.int (own_pick cc nn)) ∧ Fr n0 L ∧ h = h0
theorem ef_rm1 (m : MethodId) (x0 : Int32) (x1 : Int32) : entryFrame m #[(.int x0), (.int x1)] 2 = mkF m 0 #[.val (.int x0), .val (.int x1)] [] := by first | (simp [entryFrame, mkF, argsToLocals, Value.category, maxLocals]; done) | rfl
set_option maxRecDepth 65536 in
set_option maxHeartbeats 40000000 in
theorem rm1 (l : Launch) (Z : State) (a0 : Array Value) (hw : ∀ d ∈ tables_1, d.before a0 Z = true) (ws : List Jvm.Cond) (cc nn : Int32) (h0 : Heap) (n0 : Nat) (hnn : nn ≠ 0) :
    MetFree l own_y1 (head1 (Jvm.Cond.code own_y1 method_2_code 2 (some .int) :: ws) ({ frames := 0, cells := 0, slots := 0, locals := 0 } : Room)) (fun aR U => aR = #[(.int cc), (.int nn)] ∧ Z.Warmed39 U.vm ∧ U.heap = h0) (fun _ _ _ _ _ => True) (fun _ U o U' => ∃ v L, o = .returned v ∧ Q1 cc nn h0 n0 v U'.heap L ∧ FrameEnd U o U' L ({ frames := 0, cells := 0, slots := 0, locals := 0 } : Room).cells ({ frames := 0, cells := 0, slots := 0, locals := 0 } : Room).slots) := by
  refine MetFree.of_bodySF pf_1 hisR ?_
  intro p e s m args below meth c s₁ Bd hml0 hP hK
  obtain ⟨rfl, hZ, hhE⟩ := hP
  have hx := Bd.exec
  have hby := Bd.bytes
  have hml : c.maxLocals = 2 := hml0
  have hown : s.vm.findClass "com/example/libhedge/libhedge/ChoicesNextPinLaw" = some m.cls := findClass_of_methodNamed Bd.named
  have hnm := (name_of_methodNamed Bd.named Bd.method).1
  have X0 : Stand p l e ({ frames := 0, cells := 0, slots := 0, locals := 0 } : Room) s m #[(.int cc), (.int nn)] below meth c s₁ [] 0 0 := Stand.of_body Bd
  have e0 : s₁.heap = h0 := by rw [← hhE, Bd.state]; rfl
  have N0 := Fr.nil n0
  show own_Go p e below (own_Post s (Q1 cc nn h0 n0) ({ frames := 0, cells := 0, slots := 0, locals := 0 } : Room).cells ({ frames := 0, cells := 0, slots := 0, locals := 0 } : Room).slots) (s₁.setTop (entryFrame m #[(.int cc), (.int nn)] 2))
  rw [ef_rm1]
  generalize hG : own_Post s (Q1 cc nn h0 n0) ({ frames := 0, cells := 0, slots := 0, locals := 0 } : Room).cells ({ frames := 0, cells := 0, slots := 0, locals := 0 } : Room).slots = G
  refine own_iloadN X0 hx (hb hby d1_0) rfl 1 rfl ?_
  refine own_iconst X0 hx (hb hby d1_1) (1 : Int32) rfl 2 rfl ?_
  refine own_iand X0 hx (hb hby d1_2) 3 rfl ?_
  by_cases c1 : (cc &&& (1 : Int32)) = (0 : Int32)
  ·
    refine own_ifY X0 hx (hb hby d1_3) ((if0 _ _).trans (teq c1).1) 10 ⟨by decide, by decide⟩ ?_
    refine own_iloadN X0 hx (hb hby d1_10) rfl 11 rfl ?_
    refine own_iconst X0 hx (hb hby d1_11) (1 : Int32) rfl 12 rfl ?_
    refine own_iushr X0 hx (hb hby d1_12) 13 rfl ?_
    refine own_iloadN X0 hx (hb hby d1_13) rfl 14 rfl ?_
    refine own_irem X0 hx (hb hby d1_14) hnn 15 rfl ?_
    refine own_ireturn X0 hx Bd.notSynchronized hG Bd.returns (hb hby d1_15) (by decide) (by decide) ?_
    rw [e0]
    exact ⟨by first | (unfold own_pick; (try simp only [↓reduceIte, c1]) <;> rfl) | (simp [own_pick, c1, nar]; done) | (simp [own_pick, c1] <;> rfl), N0, rfl⟩
  ·
    refine own_ifN X0 hx (hb hby d1_3) ((if0 _ _).trans (feq c1).1) 6 rfl ?_
    refine own_iloadN X0 hx (hb hby d1_6) rfl 7 rfl ?_
    refine own_iconst X0 hx (hb hby d1_7) (1 : Int32) rfl 8 rfl ?_
    refine own_isub X0 hx (hb hby d1_8) 9 rfl ?_
    refine own_ireturn X0 hx Bd.notSynchronized hG Bd.returns (hb hby d1_9) (by decide) (by decide) ?_
    rw [e0]
    exact ⟨by first | (unfold own_pick; (try simp only [↓reduceIte, c1]) <;> rfl) | (simp [own_pick, c1, nar]; done) | (simp [own_pick, c1] <;> rfl), N0, rfl⟩
def Q2 (Z : State) (a : Addr) (k0 k1 k2 m0 m1 m2 : Int32) (h0 : Heap) (n0 : Nat) (v : Option Value) (h : Heap) (L : List Loc) : Prop := ∃ (r : Int32) (C : List Int32), v = some (.int r) ∧ Fr n0 L ∧ Keep h0 h [a] ∧ own_A .int Value.int Z h a C ∧ ((¬ k2 = m2 - (1 : Int32) ∧ r = 1 ∧ C = [k0, k1, (k2 + (1 : Int32))]) ∨ (k2 = m2 - (1 : Int32) ∧ ¬ k1 = m1 - (1 : Int32) ∧ r = 1 ∧ C = [k0, (k1 + (1 : Int32)), (0 : Int32)]) ∨ (k2 = m2 - (1 : Int32) ∧ k1 = m1 - (1 : Int32) ∧ ¬ k0 = m0 - (1 : Int32) ∧ r = 1 ∧ C = [(k0 + (1 : Int32)), (0 : Int32), (0 : Int32)]) ∨ (k2 = m2 - (1 : Int32) ∧ k1 = m1 - (1 : Int32) ∧ k0 = m0 - (1 : Int32) ∧ r = 0 ∧ C = [(0 : Int32), (0 : Int32), (0 : Int32)]))
theorem ef_rm2 (m : MethodId) (x0 : Addr) (x1 : Addr) : entryFrame m #[(.ref x0), (.ref x1)] 3 = mkF m 0 #[.val (.ref x0), .val (.ref x1), .unset] [] := by first | (simp [entryFrame, mkF, argsToLocals, Value.category, maxLocals]; done) | rfl
set_option maxRecDepth 65536 in
set_option maxHeartbeats 40000000 in
theorem rm2 (l : Launch) (Z : State) (a0 : Array Value) (hw : ∀ d ∈ tables_1, d.before a0 Z = true) (ws : List Jvm.Cond) (a b : Addr) (k0 k1 k2 m0 m1 m2 : Int32) (h0 : Heap) (n0 : Nat) (Z0 : n0 ≤ h0.size) (ga : n0 ≤ a) (hab : a ≠ b) (Va : own_A .int Value.int Z h0 a [k0, k1, k2]) (Vb : own_A .int Value.int Z h0 b [m0, m1, m2]) :
    MetFree l own_y2 (head1 (Jvm.Cond.code own_y2 prog_18_method_3_code 3 (some .boolean) :: ws) ({ frames := 0, cells := 0, slots := 0, locals := 0 } : Room)) (fun aR U => aR = #[(.ref a), (.ref b)] ∧ Z.Warmed39 U.vm ∧ U.heap = h0) (fun _ _ _ _ _ => True) (fun _ U o U' => ∃ v L, o = .returned v ∧ Q2 Z a k0 k1 k2 m0 m1 m2 h0 n0 v U'.heap L ∧ FrameEnd U o U' L ({ frames := 0, cells := 0, slots := 0, locals := 0 } : Room).cells ({ frames := 0, cells := 0, slots := 0, locals := 0 } : Room).slots) := by
  refine MetFree.of_bodySF pf_2 hisR ?_
  intro p e s m args below meth c s₁ Bd hml0 hP hK
  obtain ⟨rfl, hZ, hhE⟩ := hP
  have hx := Bd.exec
  have hby := Bd.bytes
  have hml : c.maxLocals = 3 := hml0
  have hown : s.vm.findClass "com/example/libhedge/libhedge/Choices" = some m.cls := findClass_of_methodNamed Bd.named
  have hnm := (name_of_methodNamed Bd.named Bd.method).1
  have X0 : Stand p l e ({ frames := 0, cells := 0, slots := 0, locals := 0 } : Room) s m #[(.ref a), (.ref b)] below meth c s₁ [] 0 0 := Stand.of_body Bd
  have e0 : s₁.heap = h0 := by rw [← hhE, Bd.state]; rfl
  have N0 := Fr.nil n0
  show own_Go p e below (own_Post s (Q2 Z a k0 k1 k2 m0 m1 m2 h0 n0) ({ frames := 0, cells := 0, slots := 0, locals := 0 } : Room).cells ({ frames := 0, cells := 0, slots := 0, locals := 0 } : Room).slots) (s₁.setTop (entryFrame m #[(.ref a), (.ref b)] 3))
  rw [ef_rm2]
  generalize hG : own_Post s (Q2 Z a k0 k1 k2 m0 m1 m2 h0 n0) ({ frames := 0, cells := 0, slots := 0, locals := 0 } : Room).cells ({ frames := 0, cells := 0, slots := 0, locals := 0 } : Room).slots = G
  have K0 : Keep h0 h0 [a] := Keep.refl _ _
  refine own_aloadN X0 hx (hb hby d2_0) rfl rfl 1 rfl ?_
  refine own_arraylength X0 hx hZ e0 Va (hb hby d2_1) 2 rfl ?_
  rw [show Int32.ofNat (List.length [k0, k1, k2]) = (3 : Int32) from rfl]
  refine own_iconst X0 hx (hb hby d2_2) (1 : Int32) rfl 3 rfl ?_
  refine own_isub X0 hx (hb hby d2_3) 4 rfl ?_
  show own_Go p e below G (s₁.setTop (mkF m 4 #[.val (.ref a), .val (.ref b), .unset] [(.int (2 : Int32))]))
  refine own_istoreN X0 hx (hb hby d2_4) #[.val (.ref a), .val (.ref b), .val (.int (2 : Int32))] rfl 5 rfl ?_
  refine own_iloadN X0 hx (hb hby d2_5) rfl 6 rfl ?_
  refine own_ifN X0 hx (hb hby d2_6) ((if0 _ _).trans (flt (by decide)).1) 9 rfl ?_
  refine own_aloadN X0 hx (hb hby d2_9) rfl rfl 10 rfl ?_
  refine own_iloadN X0 hx (hb hby d2_10) rfl 11 rfl ?_
  refine own_iaload X0 hx hZ e0 Va 2 rfl k2 rfl (hb hby d2_11) 12 rfl ?_
  refine own_aloadN X0 hx (hb hby d2_12) rfl rfl 13 rfl ?_
  refine own_iloadN X0 hx (hb hby d2_13) rfl 14 rfl ?_
  refine own_iaload X0 hx hZ e0 Vb 2 rfl m2 rfl (hb hby d2_14) 15 rfl ?_
  refine own_iconst X0 hx (hb hby d2_15) (1 : Int32) rfl 16 rfl ?_
  refine own_isub X0 hx (hb hby d2_16) 17 rfl ?_
  by_cases c2 : k2 = (m2 - (1 : Int32))
  ·
    refine own_icmpN X0 hx (hb hby d2_17) (teq c2).2 20 rfl ?_
    refine own_aloadN X0 hx (hb hby d2_20) rfl rfl 21 rfl ?_
    refine own_iloadN X0 hx (hb hby d2_21) rfl 22 rfl ?_
    refine own_iconst X0 hx (hb hby d2_22) (0 : Int32) rfl 23 rfl ?_
    refine own_iastore X0 hx hZ e0 Va 2 rfl (by simp) (hb hby d2_23) 24 rfl (fun T3 h3 X3 e3 W3 V3 => ?_)
    rw [show [k0, k1, k2].set 2 (0 : Int32) = [k0, k1, (0 : Int32)] from rfl] at V3
    have N4 := Fr.snoc X3 N0 ga
    have Z5 : n0 ≤ h3.size := by rw [W3.size]; exact Z0
    have V6 := Vb.other W3 (Ne.symm hab)
    have K7 := Keep.wr K0 W3 (Or.inl (List.mem_singleton.mpr rfl))
    refine own_iinc X3 hx (hb hby d2_24) rfl #[.val (.ref a), .val (.ref b), .val (.int (1 : Int32))] rfl 27 rfl ?_
    refine own_goto X3 hx (hb hby d2_27) 5 ⟨by decide, by decide⟩ ?_
    refine own_iloadN X3 hx (hb hby d2_5) rfl 6 rfl ?_
    refine own_ifN X3 hx (hb hby d2_6) ((if0 _ _).trans (flt (by decide)).1) 9 rfl ?_
    refine own_aloadN X3 hx (hb hby d2_9) rfl rfl 10 rfl ?_
    refine own_iloadN X3 hx (hb hby d2_10) rfl 11 rfl ?_
    refine own_iaload X3 hx hZ e3 V3 1 rfl k1 rfl (hb hby d2_11) 12 rfl ?_
    refine own_aloadN X3 hx (hb hby d2_12) rfl rfl 13 rfl ?_
    refine own_iloadN X3 hx (hb hby d2_13) rfl 14 rfl ?_
    refine own_iaload X3 hx hZ e3 V6 1 rfl m1 rfl (hb hby d2_14) 15 rfl ?_
    refine own_iconst X3 hx (hb hby d2_15) (1 : Int32) rfl 16 rfl ?_
    refine own_isub X3 hx (hb hby d2_16) 17 rfl ?_
    by_cases c8 : k1 = (m1 - (1 : Int32))
    ·
      refine own_icmpN X3 hx (hb hby d2_17) (teq c8).2 20 rfl ?_
      refine own_aloadN X3 hx (hb hby d2_20) rfl rfl 21 rfl ?_
      refine own_iloadN X3 hx (hb hby d2_21) rfl 22 rfl ?_
      refine own_iconst X3 hx (hb hby d2_22) (0 : Int32) rfl 23 rfl ?_
      refine own_iastore X3 hx hZ e3 V3 1 rfl (by simp) (hb hby d2_23) 24 rfl (fun T9 h9 X9 e9 W9 V9 => ?_)
      rw [show [k0, k1, (0 : Int32)].set 1 (0 : Int32) = [k0, (0 : Int32), (0 : Int32)] from rfl] at V9
      have N10 := Fr.snoc X9 N4 ga
      have Z11 : n0 ≤ h9.size := by rw [W9.size]; exact Z5
      have V12 := V6.other W9 (Ne.symm hab)
      have K13 := Keep.wr K7 W9 (Or.inl (List.mem_singleton.mpr rfl))
      refine own_iinc X9 hx (hb hby d2_24) rfl #[.val (.ref a), .val (.ref b), .val (.int (0 : Int32))] rfl 27 rfl ?_
      refine own_goto X9 hx (hb hby d2_27) 5 ⟨by decide, by decide⟩ ?_
      refine own_iloadN X9 hx (hb hby d2_5) rfl 6 rfl ?_
      refine own_ifN X9 hx (hb hby d2_6) ((if0 _ _).trans (flt (by decide)).1) 9 rfl ?_
      refine own_aloadN X9 hx (hb hby d2_9) rfl rfl 10 rfl ?_
      refine own_iloadN X9 hx (hb hby d2_10) rfl 11 rfl ?_
      refine own_iaload X9 hx hZ e9 V9 0 rfl k0 rfl (hb hby d2_11) 12 rfl ?_
      refine own_aloadN X9 hx (hb hby d2_12) rfl rfl 13 rfl ?_
      refine own_iloadN X9 hx (hb hby d2_13) rfl 14 rfl ?_
      refine own_iaload X9 hx hZ e9 V12 0 rfl m0 rfl (hb hby d2_14) 15 rfl ?_
      refine own_iconst X9 hx (hb hby d2_15) (1 : Int32) rfl 16 rfl ?_
      refine own_isub X9 hx (hb hby d2_16) 17 rfl ?_
      by_cases c14 : k0 = (m0 - (1 : Int32))
      ·
        refine own_icmpN X9 hx (hb hby d2_17) (teq c14).2 20 rfl ?_
        refine own_aloadN X9 hx (hb hby d2_20) rfl rfl 21 rfl ?_
        refine own_iloadN X9 hx (hb hby d2_21) rfl 22 rfl ?_
        refine own_iconst X9 hx (hb hby d2_22) (0 : Int32) rfl 23 rfl ?_
        refine own_iastore X9 hx hZ e9 V9 0 rfl (by simp) (hb hby d2_23) 24 rfl (fun T15 h15 X15 e15 W15 V15 => ?_)
        rw [show [k0, (0 : Int32), (0 : Int32)].set 0 (0 : Int32) = [(0 : Int32), (0 : Int32), (0 : Int32)] from rfl] at V15
        have N16 := Fr.snoc X15 N10 ga
        have Z17 : n0 ≤ h15.size := by rw [W15.size]; exact Z11
        have V18 := V12.other W15 (Ne.symm hab)
        have K19 := Keep.wr K13 W15 (Or.inl (List.mem_singleton.mpr rfl))
        refine own_iinc X15 hx (hb hby d2_24) rfl #[.val (.ref a), .val (.ref b), .val (.int (-1 : Int32))] rfl 27 rfl ?_
        refine own_goto X15 hx (hb hby d2_27) 5 ⟨by decide, by decide⟩ ?_
        refine own_iloadN X15 hx (hb hby d2_5) rfl 6 rfl ?_
        refine own_ifY X15 hx (hb hby d2_6) ((if0 _ _).trans (tlt (by decide)).1) 30 ⟨by decide, by decide⟩ ?_
        refine own_iloadN X15 hx (hb hby d2_30) rfl 31 rfl ?_
        refine own_ifY X15 hx (hb hby d2_31) ((if0 _ _).trans (tlt (by decide)).1) 41 ⟨by decide, by decide⟩ ?_
        refine own_iloadN X15 hx (hb hby d2_41) rfl 42 rfl ?_
        refine own_ifY X15 hx (hb hby d2_42) ((if0 _ _).trans (tlt (by decide)).1) 49 ⟨by decide, by decide⟩ ?_
        refine own_iconst X15 hx (hb hby d2_49) (0 : Int32) rfl 50 rfl ?_
        refine own_nreturn X15 hx Bd.notSynchronized hG Bd.returns (by simp) (hb hby d2_50) (by decide) (by decide) ?_
        rw [e15]
        exact ⟨_, _, rfl, N16, K19, V15, Or.inr (Or.inr (Or.inr ⟨c2, c8, c14, rfl, rfl⟩))⟩
      ·
        refine own_icmpY X9 hx (hb hby d2_17) (feq c14).2 30 ⟨by decide, by decide⟩ ?_
        refine own_iloadN X9 hx (hb hby d2_30) rfl 31 rfl ?_
        refine own_ifN X9 hx (hb hby d2_31) ((if0 _ _).trans (flt (by decide)).1) 34 rfl ?_
        refine own_aloadN X9 hx (hb hby d2_34) rfl rfl 35 rfl ?_
        refine own_iloadN X9 hx (hb hby d2_35) rfl 36 rfl ?_
        refine own_dup2 X9 hx (hb hby d2_36) rfl rfl 37 rfl ?_
        refine own_iaload X9 hx hZ e9 V9 0 rfl k0 rfl (hb hby d2_37) 38 rfl ?_
        refine own_iconst X9 hx (hb hby d2_38) (1 : Int32) rfl 39 rfl ?_
        refine own_iadd X9 hx (hb hby d2_39) 40 rfl ?_
        refine own_iastore X9 hx hZ e9 V9 0 rfl (by simp) (hb hby d2_40) 41 rfl (fun T20 h20 X20 e20 W20 V20 => ?_)
        rw [show [k0, (0 : Int32), (0 : Int32)].set 0 (k0 + (1 : Int32)) = [(k0 + (1 : Int32)), (0 : Int32), (0 : Int32)] from rfl] at V20
        have N21 := Fr.snoc X20 N10 ga
        have Z22 : n0 ≤ h20.size := by rw [W20.size]; exact Z11
        have V23 := V12.other W20 (Ne.symm hab)
        have K24 := Keep.wr K13 W20 (Or.inl (List.mem_singleton.mpr rfl))
        refine own_iloadN X20 hx (hb hby d2_41) rfl 42 rfl ?_
        refine own_ifN X20 hx (hb hby d2_42) ((if0 _ _).trans (flt (by decide)).1) 45 rfl ?_
        refine own_iconst X20 hx (hb hby d2_45) (1 : Int32) rfl 46 rfl ?_
        refine own_goto X20 hx (hb hby d2_46) 50 ⟨by decide, by decide⟩ ?_
        refine own_nreturn X20 hx Bd.notSynchronized hG Bd.returns (by simp) (hb hby d2_50) (by decide) (by decide) ?_
        rw [e20]
        exact ⟨_, _, rfl, N21, K24, V20, Or.inr (Or.inr (Or.inl ⟨c2, c8, c14, rfl, rfl⟩))⟩
    ·
      refine own_icmpY X3 hx (hb hby d2_17) (feq c8).2 30 ⟨by decide, by decide⟩ ?_
      refine own_iloadN X3 hx (hb hby d2_30) rfl 31 rfl ?_
      refine own_ifN X3 hx (hb hby d2_31) ((if0 _ _).trans (flt (by decide)).1) 34 rfl ?_
      refine own_aloadN X3 hx (hb hby d2_34) rfl rfl 35 rfl ?_
      refine own_iloadN X3 hx (hb hby d2_35) rfl 36 rfl ?_
      refine own_dup2 X3 hx (hb hby d2_36) rfl rfl 37 rfl ?_
      refine own_iaload X3 hx hZ e3 V3 1 rfl k1 rfl (hb hby d2_37) 38 rfl ?_
      refine own_iconst X3 hx (hb hby d2_38) (1 : Int32) rfl 39 rfl ?_
      refine own_iadd X3 hx (hb hby d2_39) 40 rfl ?_
      refine own_iastore X3 hx hZ e3 V3 1 rfl (by simp) (hb hby d2_40) 41 rfl (fun T25 h25 X25 e25 W25 V25 => ?_)
      rw [show [k0, k1, (0 : Int32)].set 1 (k1 + (1 : Int32)) = [k0, (k1 + (1 : Int32)), (0 : Int32)] from rfl] at V25
      have N26 := Fr.snoc X25 N4 ga
      have Z27 : n0 ≤ h25.size := by rw [W25.size]; exact Z5
      have V28 := V6.other W25 (Ne.symm hab)
      have K29 := Keep.wr K7 W25 (Or.inl (List.mem_singleton.mpr rfl))
      refine own_iloadN X25 hx (hb hby d2_41) rfl 42 rfl ?_
      refine own_ifN X25 hx (hb hby d2_42) ((if0 _ _).trans (flt (by decide)).1) 45 rfl ?_
      refine own_iconst X25 hx (hb hby d2_45) (1 : Int32) rfl 46 rfl ?_
      refine own_goto X25 hx (hb hby d2_46) 50 ⟨by decide, by decide⟩ ?_
      refine own_nreturn X25 hx Bd.notSynchronized hG Bd.returns (by simp) (hb hby d2_50) (by decide) (by decide) ?_
      rw [e25]
      exact ⟨_, _, rfl, N26, K29, V25, Or.inr (Or.inl ⟨c2, c8, rfl, rfl⟩)⟩
  ·
    refine own_icmpY X0 hx (hb hby d2_17) (feq c2).2 30 ⟨by decide, by decide⟩ ?_
    refine own_iloadN X0 hx (hb hby d2_30) rfl 31 rfl ?_
    refine own_ifN X0 hx (hb hby d2_31) ((if0 _ _).trans (flt (by decide)).1) 34 rfl ?_
    refine own_aloadN X0 hx (hb hby d2_34) rfl rfl 35 rfl ?_
    refine own_iloadN X0 hx (hb hby d2_35) rfl 36 rfl ?_
    refine own_dup2 X0 hx (hb hby d2_36) rfl rfl 37 rfl ?_
    refine own_iaload X0 hx hZ e0 Va 2 rfl k2 rfl (hb hby d2_37) 38 rfl ?_
    refine own_iconst X0 hx (hb hby d2_38) (1 : Int32) rfl 39 rfl ?_
    refine own_iadd X0 hx (hb hby d2_39) 40 rfl ?_
    refine own_iastore X0 hx hZ e0 Va 2 rfl (by simp) (hb hby d2_40) 41 rfl (fun T30 h30 X30 e30 W30 V30 => ?_)
    rw [show [k0, k1, k2].set 2 (k2 + (1 : Int32)) = [k0, k1, (k2 + (1 : Int32))] from rfl] at V30
    have N31 := Fr.snoc X30 N0 ga
    have Z32 : n0 ≤ h30.size := by rw [W30.size]; exact Z0
    have V33 := Vb.other W30 (Ne.symm hab)
    have K34 := Keep.wr K0 W30 (Or.inl (List.mem_singleton.mpr rfl))
    refine own_iloadN X30 hx (hb hby d2_41) rfl 42 rfl ?_
    refine own_ifN X30 hx (hb hby d2_42) ((if0 _ _).trans (flt (by decide)).1) 45 rfl ?_
    refine own_iconst X30 hx (hb hby d2_45) (1 : Int32) rfl 46 rfl ?_
    refine own_goto X30 hx (hb hby d2_46) 50 ⟨by decide, by decide⟩ ?_
    refine own_nreturn X30 hx Bd.notSynchronized hG Bd.returns (by simp) (hb hby d2_50) (by decide) (by decide) ?_
    rw [e30]
    exact ⟨_, _, rfl, N31, K34, V30, Or.inl ⟨c2, rfl, rfl⟩⟩
def Q0 (h0 : Heap) (n0 : Nat) (v : Option Value) (h : Heap) (L : List Loc) : Prop := v = some (.int 1) ∧ Fr n0 L
theorem ef_rm0 (m : MethodId) (x0 : Int32) (x1 : Int32) (x2 : Int32) (x3 : Int32) (x4 : Int32) (x5 : Int32) : entryFrame m #[(.int x0), (.int x1), (.int x2), (.int x3), (.int x4), (.int x5)] maxLocals = mkF m 0 #[.val (.int x0), .val (.int x1), .val (.int x2), .val (.int x3), .val (.int x4), .val (.int x5), .unset, .unset, .unset, .unset, .unset, .unset, .unset, .unset, .unset, .unset, .unset, .unset, .unset, .unset, .unset, .unset, .unset] [] := by first | (simp [entryFrame, mkF, argsToLocals, Value.category, maxLocals]; done) | rfl
set_option maxRecDepth 65536 in
set_option maxHeartbeats 40000000 in
theorem rm0 (l : Launch) (Z : State) (a0 : Array Value) (hw : ∀ d ∈ tables_1, d.before a0 Z = true) (ws : List Jvm.Cond) (v0 v1 v2 v3 v4 v5 : Int32) (h0 : Heap) (n0 : Nat) (Z0 : n0 ≤ h0.size) :
    MetFree l x (head1 (Jvm.Cond.code x code maxLocals ret :: ws) room_1) (fun aR U => aR = #[(.int v0), (.int v1), (.int v2), (.int v3), (.int v4), (.int v5)] ∧ Z.Warmed39 U.vm ∧ U.heap = h0) (fun _ _ _ _ _ => True) (fun _ U o U' => ∃ v L, o = .returned v ∧ Q0 h0 n0 v U'.heap L ∧ FrameEnd U o U' L room_1.cells room_1.slots) := by
  refine MetFree.of_bodySF (plainFor_of_name pn_0) hisR ?_
  intro p e s m args below meth c s₁ Bd hml0 hP hK
  obtain ⟨rfl, hZ, hhE⟩ := hP
  have hx := Bd.exec
  have hby := Bd.bytes
  have hml : c.maxLocals = 23 := hml0
  have hown : s.vm.findClass "com/example/libhedge/libhedge/ChoicesNextPinLaw" = some m.cls := findClass_of_methodNamed Bd.named
  have hnm := (name_of_methodNamed Bd.named Bd.method).1
  have X0 : Stand p l e room_1 s m #[(.int v0), (.int v1), (.int v2), (.int v3), (.int v4), (.int v5)] below meth c s₁ [] 0 0 := Stand.of_body Bd
  have e0 : s₁.heap = h0 := by rw [← hhE, Bd.state]; rfl
  have N0 := Fr.nil n0
  show own_Go p e below (own_Post s (Q0 h0 n0) room_1.cells room_1.slots) (s₁.setTop (entryFrame m #[(.int v0), (.int v1), (.int v2), (.int v3), (.int v4), (.int v5)] maxLocals))
  rw [ef_rm0]
  generalize hG : own_Post s (Q0 h0 n0) room_1.cells room_1.slots = G
  refine own_iloadN X0 hx (hb hby at_0) rfl 1 rfl ?_
  refine own_ldcInt X0 hx hown (mvT hZ (own_w hw 0 rfl)) (hb hby at_1) 3 rfl ?_
  refine own_iand X0 hx (hb hby at_3) 4 rfl ?_
  refine own_iconst X0 hx (hb hby at_4) (1 : Int32) rfl 5 rfl ?_
  refine own_iadd X0 hx (hb hby at_5) 6 rfl ?_
  generalize hy35 : ((v0 &&& (65535 : Int32)) + (1 : Int32)) = y35
  refine own_istore X0 hx (hb hby at_6) #[.val (.int v0), .val (.int v1), .val (.int v2), .val (.int v3), .val (.int v4), .val (.int v5), .val (.int y35), .unset, .unset, .unset, .unset, .unset, .unset, .unset, .unset, .unset, .unset, .unset, .unset, .unset, .unset, .unset, .unset] rfl 8 rfl ?_
  refine own_iloadN X0 hx (hb hby at_8) rfl 9 rfl ?_
  refine own_ldcInt X0 hx hown (mvT hZ (own_w hw 0 rfl)) (hb hby at_9) 11 rfl ?_
  refine own_iand X0 hx (hb hby at_11) 12 rfl ?_
  refine own_iconst X0 hx (hb hby at_12) (1 : Int32) rfl 13 rfl ?_
  refine own_iadd X0 hx (hb hby at_13) 14 rfl ?_
  generalize hy36 : ((v1 &&& (65535 : Int32)) + (1 : Int32)) = y36
  refine own_istore X0 hx (hb hby at_14) #[.val (.int v0), .val (.int v1), .val (.int v2), .val (.int v3), .val (.int v4), .val (.int v5), .val (.int y35), .val (.int y36), .unset, .unset, .unset, .unset, .unset, .unset, .unset, .unset, .unset, .unset, .unset, .unset, .unset, .unset, .unset] rfl 16 rfl ?_
  refine own_iloadN X0 hx (hb hby at_16) rfl 17 rfl ?_
  refine own_ldcInt X0 hx hown (mvT hZ (own_w hw 0 rfl)) (hb hby at_17) 19 rfl ?_
  refine own_iand X0 hx (hb hby at_19) 20 rfl ?_
  refine own_iconst X0 hx (hb hby at_20) (1 : Int32) rfl 21 rfl ?_
  refine own_iadd X0 hx (hb hby at_21) 22 rfl ?_
  generalize hy37 : ((v2 &&& (65535 : Int32)) + (1 : Int32)) = y37
  refine own_istore X0 hx (hb hby at_22) #[.val (.int v0), .val (.int v1), .val (.int v2), .val (.int v3), .val (.int v4), .val (.int v5), .val (.int y35), .val (.int y36), .val (.int y37), .unset, .unset, .unset, .unset, .unset, .unset, .unset, .unset, .unset, .unset, .unset, .unset, .unset, .unset] rfl 24 rfl ?_
  refine own_iloadN X0 hx (hb hby at_24) rfl 25 rfl ?_
  refine own_iload X0 hx (hb hby at_25) rfl 27 rfl ?_
  have c0 := own_cnt hy35
  have c1 := own_cnt hy36
  have c2 := own_cnt hy37
  refine own_callS X0 hx hZ hown (own_w hw 1 rfl) (own_w hw 2 rfl) (own_w hw 3 rfl) (own_w hw 4 rfl) (by decide) e0 (rm1 l Z a0 hw [] v3 y35 h0 n0 (own_nz c0)) (by rw [hml]; rfl) pd_0 (argsL := [(.int v3), (.int y35)]) rfl (rest := []) rfl (hb hby at_27) 0 (Nat.le_of_eq rfl) (by decide) (by decide) (by decide) (by decide) 30 rfl (fun T38 L38 v38 X38 hQ38 => ?_)
  obtain ⟨rfl, N38, e38⟩ := hQ38
  have N39 := Fr.app N0 N38
  show own_Go p e below G (T38.setTop (mkF m 30 #[.val (.int v0), .val (.int v1), .val (.int v2), .val (.int v3), .val (.int v4), .val (.int v5), .val (.int y35), .val (.int y36), .val (.int y37), .unset, .unset, .unset, .unset, .unset, .unset, .unset, .unset, .unset, .unset, .unset, .unset, .unset, .unset] [(.int (own_pick v3 y35))]))
  generalize hy40 : (own_pick v3 y35) = y40
  refine own_istore X38 hx (hb hby at_30) #[.val (.int v0), .val (.int v1), .val (.int v2), .val (.int v3), .val (.int v4), .val (.int v5), .val (.int y35), .val (.int y36), .val (.int y37), .val (.int y40), .unset, .unset, .unset, .unset, .unset, .unset, .unset, .unset, .unset, .unset, .unset, .unset, .unset] rfl 32 rfl ?_
  refine own_iload X38 hx (hb hby at_32) rfl 34 rfl ?_
  refine own_iload X38 hx (hb hby at_34) rfl 36 rfl ?_
  refine own_callS X38 hx hZ hown (own_w hw 1 rfl) (own_w hw 2 rfl) (own_w hw 3 rfl) (own_w hw 4 rfl) (by decide) e38 (rm1 l Z a0 hw [] v4 y36 h0 n0 (own_nz c1)) (by rw [hml]; rfl) pd_0 (argsL := [(.int v4), (.int y36)]) rfl (rest := []) rfl (hb hby at_36) 0 (Nat.le_of_eq rfl) (by decide) (by decide) (by decide) (by decide) 39 rfl (fun T41 L41 v41 X41 hQ41 => ?_)
  obtain ⟨rfl, N41, e41⟩ := hQ41
  have N42 := Fr.app N39 N41
  show own_Go p e below G (T41.setTop (mkF m 39 #[.val (.int v0), .val (.int v1), .val (.int v2), .val (.int v3), .val (.int v4), .val (.int v5), .val (.int y35), .val (.int y36), .val (.int y37), .val (.int y40), .unset, .unset, .unset, .unset, .unset, .unset, .unset, .unset, .unset, .unset, .unset, .unset, .unset] [(.int (own_pick v4 y36))]))
  generalize hy43 : (own_pick v4 y36) = y43
  refine own_istore X41 hx (hb hby at_39) #[.val (.int v0), .val (.int v1), .val (.int v2), .val (.int v3), .val (.int v4), .val (.int v5), .val (.int y35), .val (.int y36), .val (.int y37), .val (.int y40), .val (.int y43), .unset, .unset, .unset, .unset, .unset, .unset, .unset, .unset, .unset, .unset, .unset, .unset] rfl 41 rfl ?_
  refine own_iload X41 hx (hb hby at_41) rfl 43 rfl ?_
  refine own_iload X41 hx (hb hby at_43) rfl 45 rfl ?_
  refine own_callS X41 hx hZ hown (own_w hw 1 rfl) (own_w hw 2 rfl) (own_w hw 3 rfl) (own_w hw 4 rfl) (by decide) e41 (rm1 l Z a0 hw [] v5 y37 h0 n0 (own_nz c2)) (by rw [hml]; rfl) pd_0 (argsL := [(.int v5), (.int y37)]) rfl (rest := []) rfl (hb hby at_45) 0 (Nat.le_of_eq rfl) (by decide) (by decide) (by decide) (by decide) 48 rfl (fun T44 L44 v44 X44 hQ44 => ?_)
  obtain ⟨rfl, N44, e44⟩ := hQ44
  have N45 := Fr.app N42 N44
  show own_Go p e below G (T44.setTop (mkF m 48 #[.val (.int v0), .val (.int v1), .val (.int v2), .val (.int v3), .val (.int v4), .val (.int v5), .val (.int y35), .val (.int y36), .val (.int y37), .val (.int y40), .val (.int y43), .unset, .unset, .unset, .unset, .unset, .unset, .unset, .unset, .unset, .unset, .unset, .unset] [(.int (own_pick v5 y37))]))
  generalize hy46 : (own_pick v5 y37) = y46
  refine own_istore X44 hx (hb hby at_48) #[.val (.int v0), .val (.int v1), .val (.int v2), .val (.int v3), .val (.int v4), .val (.int v5), .val (.int y35), .val (.int y36), .val (.int y37), .val (.int y40), .val (.int y43), .val (.int y46), .unset, .unset, .unset, .unset, .unset, .unset, .unset, .unset, .unset, .unset, .unset] rfl 50 rfl ?_
  have i0 := own_pickIn c0 hy40
  have i1 := own_pickIn c1 hy43
  have i2 := own_pickIn c2 hy46
  refine own_iconst X44 hx (hb hby at_50) (3 : Int32) rfl 51 rfl ?_
  refine own_newI X44 hx hZ (own_w hw 5 rfl) e44 (hb hby at_51) 3 rfl 3 (by decide) (by decide) (by decide) (by decide) 53 rfl (fun T47 h47 a47 g47 X47 e47 E47 V47 => ?_)
  have ge48 : n0 ≤ a47 := by rw [g47]; exact Z0
  have Z49 : n0 ≤ h47.size := Nat.le_trans Z0 E47.1
  rw [show (List.replicate 3 (0 : Int32)) = [(0 : Int32), (0 : Int32), (0 : Int32)] from rfl] at V47
  refine own_dup X47 hx (hb hby at_53) rfl 54 rfl ?_
  refine own_iconst X47 hx (hb hby at_54) (0 : Int32) rfl 55 rfl ?_
  refine own_iload X47 hx (hb hby at_55) rfl 57 rfl ?_
  refine own_iastore X47 hx hZ e47 V47 0 rfl (by simp) (hb hby at_57) 58 rfl (fun T50 h50 X50 e50 W50 V50 => ?_)
  rw [show [(0 : Int32), (0 : Int32), (0 : Int32)].set 0 y35 = [y35, (0 : Int32), (0 : Int32)] from rfl] at V50
  have N51 := Fr.snoc X50 N45 ge48
  have Z52 : n0 ≤ h50.size := by rw [W50.size]; exact Z49
  refine own_dup X50 hx (hb hby at_58) rfl 59 rfl ?_
  refine own_iconst X50 hx (hb hby at_59) (1 : Int32) rfl 60 rfl ?_
  refine own_iload X50 hx (hb hby at_60) rfl 62 rfl ?_
  refine own_iastore X50 hx hZ e50 V50 1 rfl (by simp) (hb hby at_62) 63 rfl (fun T53 h53 X53 e53 W53 V53 => ?_)
  rw [show [y35, (0 : Int32), (0 : Int32)].set 1 y36 = [y35, y36, (0 : Int32)] from rfl] at V53
  have N54 := Fr.snoc X53 N51 ge48
  have Z55 : n0 ≤ h53.size := by rw [W53.size]; exact Z52
  refine own_dup X53 hx (hb hby at_63) rfl 64 rfl ?_
  refine own_iconst X53 hx (hb hby at_64) (2 : Int32) rfl 65 rfl ?_
  refine own_iload X53 hx (hb hby at_65) rfl 67 rfl ?_
  refine own_iastore X53 hx hZ e53 V53 2 rfl (by simp) (hb hby at_67) 68 rfl (fun T56 h56 X56 e56 W56 V56 => ?_)
  rw [show [y35, y36, (0 : Int32)].set 2 y37 = [y35, y36, y37] from rfl] at V56
  have N57 := Fr.snoc X56 N54 ge48
  have Z58 : n0 ≤ h56.size := by rw [W56.size]; exact Z55
  refine own_astore X56 hx (hb hby at_68) rfl #[.val (.int v0), .val (.int v1), .val (.int v2), .val (.int v3), .val (.int v4), .val (.int v5), .val (.int y35), .val (.int y36), .val (.int y37), .val (.int y40), .val (.int y43), .val (.int y46), .val (.ref a47), .unset, .unset, .unset, .unset, .unset, .unset, .unset, .unset, .unset, .unset] rfl 70 rfl ?_
  refine own_iconst X56 hx (hb hby at_70) (3 : Int32) rfl 71 rfl ?_
  refine own_newI X56 hx hZ (own_w hw 5 rfl) e56 (hb hby at_71) 3 rfl 3 (by decide) (by decide) (by decide) (by decide) 73 rfl (fun T59 h59 a59 g59 X59 e59 E59 V59 => ?_)
  have ne60 : a47 ≠ a59 := by rw [g59]; exact Nat.ne_of_lt V56.lt
  have ge61 : n0 ≤ a59 := by rw [g59]; exact Z58
  have Z62 : n0 ≤ h59.size := Nat.le_trans Z58 E59.1
  have V63 := V56.ext E59
  rw [show (List.replicate 3 (0 : Int32)) = [(0 : Int32), (0 : Int32), (0 : Int32)] from rfl] at V59
  refine own_dup X59 hx (hb hby at_73) rfl 74 rfl ?_
  refine own_iconst X59 hx (hb hby at_74) (0 : Int32) rfl 75 rfl ?_
  refine own_iload X59 hx (hb hby at_75) rfl 77 rfl ?_
  refine own_iastore X59 hx hZ e59 V59 0 rfl (by simp) (hb hby at_77) 78 rfl (fun T64 h64 X64 e64 W64 V64 => ?_)
  rw [show [(0 : Int32), (0 : Int32), (0 : Int32)].set 0 y40 = [y40, (0 : Int32), (0 : Int32)] from rfl] at V64
  have N65 := Fr.snoc X64 N57 ge61
  have Z66 : n0 ≤ h64.size := by rw [W64.size]; exact Z62
  have V67 := V63.other W64 ne60
  refine own_dup X64 hx (hb hby at_78) rfl 79 rfl ?_
  refine own_iconst X64 hx (hb hby at_79) (1 : Int32) rfl 80 rfl ?_
  refine own_iload X64 hx (hb hby at_80) rfl 82 rfl ?_
  refine own_iastore X64 hx hZ e64 V64 1 rfl (by simp) (hb hby at_82) 83 rfl (fun T68 h68 X68 e68 W68 V68 => ?_)
  rw [show [y40, (0 : Int32), (0 : Int32)].set 1 y43 = [y40, y43, (0 : Int32)] from rfl] at V68
  have N69 := Fr.snoc X68 N65 ge61
  have Z70 : n0 ≤ h68.size := by rw [W68.size]; exact Z66
  have V71 := V67.other W68 ne60
  refine own_dup X68 hx (hb hby at_83) rfl 84 rfl ?_
  refine own_iconst X68 hx (hb hby at_84) (2 : Int32) rfl 85 rfl ?_
  refine own_iload X68 hx (hb hby at_85) rfl 87 rfl ?_
  refine own_iastore X68 hx hZ e68 V68 2 rfl (by simp) (hb hby at_87) 88 rfl (fun T72 h72 X72 e72 W72 V72 => ?_)
  rw [show [y40, y43, (0 : Int32)].set 2 y46 = [y40, y43, y46] from rfl] at V72
  have N73 := Fr.snoc X72 N69 ge61
  have Z74 : n0 ≤ h72.size := by rw [W72.size]; exact Z70
  have V75 := V71.other W72 ne60
  refine own_astore X72 hx (hb hby at_88) rfl #[.val (.int v0), .val (.int v1), .val (.int v2), .val (.int v3), .val (.int v4), .val (.int v5), .val (.int y35), .val (.int y36), .val (.int y37), .val (.int y40), .val (.int y43), .val (.int y46), .val (.ref a47), .val (.ref a59), .unset, .unset, .unset, .unset, .unset, .unset, .unset, .unset, .unset] rfl 90 rfl ?_
  refine own_iload X72 hx (hb hby at_90) rfl 92 rfl ?_
  refine own_i2l X72 hx (hb hby at_92) 93 rfl ?_
  refine own_iload X72 hx (hb hby at_93) rfl 95 rfl ?_
  refine own_i2l X72 hx (hb hby at_95) 96 rfl ?_
  refine own_lmul X72 hx (hb hby at_96) 97 rfl ?_
  refine own_iload X72 hx (hb hby at_97) rfl 99 rfl ?_
  refine own_i2l X72 hx (hb hby at_99) 100 rfl ?_
  refine own_ladd X72 hx (hb hby at_100) 101 rfl ?_
  refine own_iload X72 hx (hb hby at_101) rfl 103 rfl ?_
  refine own_i2l X72 hx (hb hby at_103) 104 rfl ?_
  refine own_lmul X72 hx (hb hby at_104) 105 rfl ?_
  refine own_iload X72 hx (hb hby at_105) rfl 107 rfl ?_
  refine own_i2l X72 hx (hb hby at_107) 108 rfl ?_
  refine own_ladd X72 hx (hb hby at_108) 109 rfl ?_
  generalize hy76 : (((((y40).toInt64 * (y36).toInt64) + (y43).toInt64) * (y37).toInt64) + (y46).toInt64) = y76
  refine own_lstore X72 hx (hb hby at_109) #[.val (.int v0), .val (.int v1), .val (.int v2), .val (.int v3), .val (.int v4), .val (.int v5), .val (.int y35), .val (.int y36), .val (.int y37), .val (.int y40), .val (.int y43), .val (.int y46), .val (.ref a47), .val (.ref a59), .val (.long y76), .second, .unset, .unset, .unset, .unset, .unset, .unset, .unset] rfl 111 rfl ?_
  refine own_iload X72 hx (hb hby at_111) rfl 113 rfl ?_
  refine own_i2l X72 hx (hb hby at_113) 114 rfl ?_
  refine own_iload X72 hx (hb hby at_114) rfl 116 rfl ?_
  refine own_i2l X72 hx (hb hby at_116) 117 rfl ?_
  refine own_lmul X72 hx (hb hby at_117) 118 rfl ?_
  refine own_iload X72 hx (hb hby at_118) rfl 120 rfl ?_
  refine own_i2l X72 hx (hb hby at_120) 121 rfl ?_
  refine own_lmul X72 hx (hb hby at_121) 122 rfl ?_
  generalize hy77 : (((y35).toInt64 * (y36).toInt64) * (y37).toInt64) = y77
  refine own_lstore X72 hx (hb hby at_122) #[.val (.int v0), .val (.int v1), .val (.int v2), .val (.int v3), .val (.int v4), .val (.int v5), .val (.int y35), .val (.int y36), .val (.int y37), .val (.int y40), .val (.int y43), .val (.int y46), .val (.ref a47), .val (.ref a59), .val (.long y76), .second, .val (.long y77), .second, .unset, .unset, .unset, .unset, .unset] rfl 124 rfl ?_
  refine own_aload X72 hx (hb hby at_124) rfl rfl 126 rfl ?_
  refine own_aload X72 hx (hb hby at_126) rfl rfl 128 rfl ?_
  have hV : own_V y40 y43 y46 y36 y37 = y76 := hy76
  have hW : own_W y35 y36 y37 = y77 := hy77
  have hall := own_all c0 c1 c2 i0 i1 i2
  rw [hV, hW] at hall
  refine own_callS X72 hx hZ hown (own_w hw 6 rfl) (own_w hw 7 rfl) (own_w hw 8 rfl) (own_w hw 9 rfl) (by decide) e72 (rm2 l Z a0 hw [] a59 a47 y40 y43 y46 y35 y36 y37 h72 n0 Z74 ge61 (Ne.symm ne60) V72 V75) (by rw [hml]; rfl) pd_1 (argsL := [(.ref a59), (.ref a47)]) rfl (rest := []) rfl (hb hby at_128) 0 (Nat.le_of_eq rfl) (by decide) (by decide) (by decide) (by decide) 131 rfl (fun T78 L78 v78 X78 hQ78 => ?_)
  obtain ⟨r78, C78, hv78, N78, K78, Va78, hcs78⟩ := hQ78
  subst hv78
  have N79 := Fr.app N73 N78
  have V80 := V75.keep K78 (ninS ne60 nin0)
  have Z81 : n0 ≤ T78.heap.size := Nat.le_trans Z74 K78.1
  rcases hcs78 with ⟨g1, rfl, rfl⟩ | ⟨g1, g2, rfl, rfl⟩ | ⟨g1, g2, g3, rfl, rfl⟩ | ⟨g1, g2, g3, rfl, rfl⟩
  ·
    show own_Go p e below G (T78.setTop (mkF m 131 #[.val (.int v0), .val (.int v1), .val (.int v2), .val (.int v3), .val (.int v4), .val (.int v5), .val (.int y35), .val (.int y36), .val (.int y37), .val (.int y40), .val (.int y43), .val (.int y46), .val (.ref a47), .val (.ref a59), .val (.long y76), .second, .val (.long y77), .second, .unset, .unset, .unset, .unset, .unset] [(.int (1 : Int32))]))
    have hc := hall.1.1 g1
    refine own_istore X78 hx (hb hby at_131) #[.val (.int v0), .val (.int v1), .val (.int v2), .val (.int v3), .val (.int v4), .val (.int v5), .val (.int y35), .val (.int y36), .val (.int y37), .val (.int y40), .val (.int y43), .val (.int y46), .val (.ref a47), .val (.ref a59), .val (.long y76), .second, .val (.long y77), .second, .val (.int (1 : Int32)), .unset, .unset, .unset, .unset] rfl 133 rfl ?_
    refine own_aload X78 hx (hb hby at_133) rfl rfl 135 rfl ?_
    refine own_iconst X78 hx (hb hby at_135) (0 : Int32) rfl 136 rfl ?_
    refine own_iaload X78 hx hZ (rfl : T78.heap = T78.heap) V80 0 rfl y35 rfl (hb hby at_136) 137 rfl ?_
    refine own_iload X78 hx (hb hby at_137) rfl 139 rfl ?_
    refine own_icmpN X78 hx (hb hby at_139) (teq rfl).2 142 rfl ?_
    refine own_aload X78 hx (hb hby at_142) rfl rfl 144 rfl ?_
    refine own_iconst X78 hx (hb hby at_144) (1 : Int32) rfl 145 rfl ?_
    refine own_iaload X78 hx hZ (rfl : T78.heap = T78.heap) V80 1 rfl y36 rfl (hb hby at_145) 146 rfl ?_
    refine own_iload X78 hx (hb hby at_146) rfl 148 rfl ?_
    refine own_icmpN X78 hx (hb hby at_148) (teq rfl).2 151 rfl ?_
    refine own_aload X78 hx (hb hby at_151) rfl rfl 153 rfl ?_
    refine own_iconst X78 hx (hb hby at_153) (2 : Int32) rfl 154 rfl ?_
    refine own_iaload X78 hx hZ (rfl : T78.heap = T78.heap) V80 2 rfl y37 rfl (hb hby at_154) 155 rfl ?_
    refine own_iload X78 hx (hb hby at_155) rfl 157 rfl ?_
    refine own_icmpN X78 hx (hb hby at_157) (teq rfl).2 160 rfl ?_
    refine own_iconst X78 hx (hb hby at_160) (1 : Int32) rfl 161 rfl ?_
    refine own_goto X78 hx (hb hby at_161) 165 ⟨by decide, by decide⟩ ?_
    refine own_istore X78 hx (hb hby at_165) #[.val (.int v0), .val (.int v1), .val (.int v2), .val (.int v3), .val (.int v4), .val (.int v5), .val (.int y35), .val (.int y36), .val (.int y37), .val (.int y40), .val (.int y43), .val (.int y46), .val (.ref a47), .val (.ref a59), .val (.long y76), .second, .val (.long y77), .second, .val (.int (1 : Int32)), .val (.int (1 : Int32)), .unset, .unset, .unset] rfl 167 rfl ?_
    refine own_iload X78 hx (hb hby at_167) rfl 169 rfl ?_
    refine own_ifY X78 hx (hb hby at_169) ((if0 _ _).trans (feq (by decide)).2) 174 ⟨by decide, by decide⟩ ?_
    refine own_aload X78 hx (hb hby at_174) rfl rfl 176 rfl ?_
    refine own_iconst X78 hx (hb hby at_176) (0 : Int32) rfl 177 rfl ?_
    refine own_iaload X78 hx hZ (rfl : T78.heap = T78.heap) Va78 0 rfl y40 rfl (hb hby at_177) 178 rfl ?_
    refine own_ifN X78 hx (hb hby at_178) ((if0 _ _).trans (flt (own_inb i0).1).1) 181 rfl ?_
    refine own_aload X78 hx (hb hby at_181) rfl rfl 183 rfl ?_
    refine own_iconst X78 hx (hb hby at_183) (0 : Int32) rfl 184 rfl ?_
    refine own_iaload X78 hx hZ (rfl : T78.heap = T78.heap) Va78 0 rfl y40 rfl (hb hby at_184) 185 rfl ?_
    refine own_iload X78 hx (hb hby at_185) rfl 187 rfl ?_
    refine own_icmpN X78 hx (hb hby at_187) (tlt (own_inb i0).2).2.1 190 rfl ?_
    refine own_aload X78 hx (hb hby at_190) rfl rfl 192 rfl ?_
    refine own_iconst X78 hx (hb hby at_192) (1 : Int32) rfl 193 rfl ?_
    refine own_iaload X78 hx hZ (rfl : T78.heap = T78.heap) Va78 1 rfl y43 rfl (hb hby at_193) 194 rfl ?_
    refine own_ifN X78 hx (hb hby at_194) ((if0 _ _).trans (flt (own_inb i1).1).1) 197 rfl ?_
    refine own_aload X78 hx (hb hby at_197) rfl rfl 199 rfl ?_
    refine own_iconst X78 hx (hb hby at_199) (1 : Int32) rfl 200 rfl ?_
    refine own_iaload X78 hx hZ (rfl : T78.heap = T78.heap) Va78 1 rfl y43 rfl (hb hby at_200) 201 rfl ?_
    refine own_iload X78 hx (hb hby at_201) rfl 203 rfl ?_
    refine own_icmpN X78 hx (hb hby at_203) (tlt (own_inb i1).2).2.1 206 rfl ?_
    refine own_aload X78 hx (hb hby at_206) rfl rfl 208 rfl ?_
    refine own_iconst X78 hx (hb hby at_208) (2 : Int32) rfl 209 rfl ?_
    refine own_iaload X78 hx hZ (rfl : T78.heap = T78.heap) Va78 2 rfl (y46 + (1 : Int32)) rfl (hb hby at_209) 210 rfl ?_
    refine own_ifN X78 hx (hb hby at_210) ((if0 _ _).trans (flt (own_inb (own_In1 c2 i2 g1)).1).1) 213 rfl ?_
    refine own_aload X78 hx (hb hby at_213) rfl rfl 215 rfl ?_
    refine own_iconst X78 hx (hb hby at_215) (2 : Int32) rfl 216 rfl ?_
    refine own_iaload X78 hx hZ (rfl : T78.heap = T78.heap) Va78 2 rfl (y46 + (1 : Int32)) rfl (hb hby at_216) 217 rfl ?_
    refine own_iload X78 hx (hb hby at_217) rfl 219 rfl ?_
    refine own_icmpN X78 hx (hb hby at_219) (tlt (own_inb (own_In1 c2 i2 g1)).2).2.1 222 rfl ?_
    refine own_iconst X78 hx (hb hby at_222) (1 : Int32) rfl 223 rfl ?_
    refine own_goto X78 hx (hb hby at_223) 227 ⟨by decide, by decide⟩ ?_
    refine own_istore X78 hx (hb hby at_227) #[.val (.int v0), .val (.int v1), .val (.int v2), .val (.int v3), .val (.int v4), .val (.int v5), .val (.int y35), .val (.int y36), .val (.int y37), .val (.int y40), .val (.int y43), .val (.int y46), .val (.ref a47), .val (.ref a59), .val (.long y76), .second, .val (.long y77), .second, .val (.int (1 : Int32)), .val (.int (1 : Int32)), .val (.int (1 : Int32)), .unset, .unset] rfl 229 rfl ?_
    refine own_iload X78 hx (hb hby at_229) rfl 231 rfl ?_
    refine own_ifY X78 hx (hb hby at_231) ((if0 _ _).trans (feq (by decide)).2) 236 ⟨by decide, by decide⟩ ?_
    refine own_aload X78 hx (hb hby at_236) rfl rfl 238 rfl ?_
    refine own_iconst X78 hx (hb hby at_238) (0 : Int32) rfl 239 rfl ?_
    refine own_iaload X78 hx hZ (rfl : T78.heap = T78.heap) Va78 0 rfl y40 rfl (hb hby at_239) 240 rfl ?_
    refine own_i2l X78 hx (hb hby at_240) 241 rfl ?_
    refine own_iload X78 hx (hb hby at_241) rfl 243 rfl ?_
    refine own_i2l X78 hx (hb hby at_243) 244 rfl ?_
    refine own_lmul X78 hx (hb hby at_244) 245 rfl ?_
    refine own_aload X78 hx (hb hby at_245) rfl rfl 247 rfl ?_
    refine own_iconst X78 hx (hb hby at_247) (1 : Int32) rfl 248 rfl ?_
    refine own_iaload X78 hx hZ (rfl : T78.heap = T78.heap) Va78 1 rfl y43 rfl (hb hby at_248) 249 rfl ?_
    refine own_i2l X78 hx (hb hby at_249) 250 rfl ?_
    refine own_ladd X78 hx (hb hby at_250) 251 rfl ?_
    refine own_iload X78 hx (hb hby at_251) rfl 253 rfl ?_
    refine own_i2l X78 hx (hb hby at_253) 254 rfl ?_
    refine own_lmul X78 hx (hb hby at_254) 255 rfl ?_
    refine own_aload X78 hx (hb hby at_255) rfl rfl 257 rfl ?_
    refine own_iconst X78 hx (hb hby at_257) (2 : Int32) rfl 258 rfl ?_
    refine own_iaload X78 hx hZ (rfl : T78.heap = T78.heap) Va78 2 rfl (y46 + (1 : Int32)) rfl (hb hby at_258) 259 rfl ?_
    refine own_i2l X78 hx (hb hby at_259) 260 rfl ?_
    refine own_ladd X78 hx (hb hby at_260) 261 rfl ?_
    refine own_lstore X78 hx (hb hby at_261) #[.val (.int v0), .val (.int v1), .val (.int v2), .val (.int v3), .val (.int v4), .val (.int v5), .val (.int y35), .val (.int y36), .val (.int y37), .val (.int y40), .val (.int y43), .val (.int y46), .val (.ref a47), .val (.ref a59), .val (.long y76), .second, .val (.long y77), .second, .val (.int (1 : Int32)), .val (.int (1 : Int32)), .val (.int (1 : Int32)), .val (.long (((((y40).toInt64 * (y36).toInt64) + (y43).toInt64) * (y37).toInt64) + ((y46 + (1 : Int32))).toInt64)), .second] rfl 263 rfl ?_
    refine own_lload X78 hx (hb hby at_263) rfl 265 rfl ?_
    refine own_lconst X78 hx (hb hby at_265) (1 : Int64) rfl 266 rfl ?_
    refine own_ladd X78 hx (hb hby at_266) 267 rfl ?_
    refine own_lload X78 hx (hb hby at_267) rfl 269 rfl ?_
    refine own_lcmp X78 hx (hb hby at_269) 270 rfl ?_
    refine own_ifN X78 hx (hb hby at_270) (own_ltL hc.2).2 273 rfl ?_
    refine own_iload X78 hx (hb hby at_273) rfl 275 rfl ?_
    refine own_ifN X78 hx (hb hby at_275) ((if0 _ _).trans (feq (by decide)).1) 278 rfl ?_
    refine own_lload X78 hx (hb hby at_278) rfl 280 rfl ?_
    refine own_lload X78 hx (hb hby at_280) rfl 282 rfl ?_
    refine own_lconst X78 hx (hb hby at_282) (1 : Int64) rfl 283 rfl ?_
    refine own_ladd X78 hx (hb hby at_283) 284 rfl ?_
    refine own_lcmp X78 hx (hb hby at_284) 285 rfl ?_
    refine own_ifN X78 hx (hb hby at_285) (own_eqL hc.1).2 288 rfl ?_
    refine own_iconst X78 hx (hb hby at_288) (1 : Int32) rfl 289 rfl ?_
    refine own_goto X78 hx (hb hby at_289) 293 ⟨by decide, by decide⟩ ?_
    refine own_nreturn X78 hx Bd.notSynchronized hG Bd.returns (by simp) (hb hby at_293) (by decide) (by decide) ?_
    skip
    exact ⟨rfl, N79⟩
  ·
    show own_Go p e below G (T78.setTop (mkF m 131 #[.val (.int v0), .val (.int v1), .val (.int v2), .val (.int v3), .val (.int v4), .val (.int v5), .val (.int y35), .val (.int y36), .val (.int y37), .val (.int y40), .val (.int y43), .val (.int y46), .val (.ref a47), .val (.ref a59), .val (.long y76), .second, .val (.long y77), .second, .unset, .unset, .unset, .unset, .unset] [(.int (1 : Int32))]))
    have hc := hall.1.2 g1 g2
    refine own_istore X78 hx (hb hby at_131) #[.val (.int v0), .val (.int v1), .val (.int v2), .val (.int v3), .val (.int v4), .val (.int v5), .val (.int y35), .val (.int y36), .val (.int y37), .val (.int y40), .val (.int y43), .val (.int y46), .val (.ref a47), .val (.ref a59), .val (.long y76), .second, .val (.long y77), .second, .val (.int (1 : Int32)), .unset, .unset, .unset, .unset] rfl 133 rfl ?_
    refine own_aload X78 hx (hb hby at_133) rfl rfl 135 rfl ?_
    refine own_iconst X78 hx (hb hby at_135) (0 : Int32) rfl 136 rfl ?_
    refine own_iaload X78 hx hZ (rfl : T78.heap = T78.heap) V80 0 rfl y35 rfl (hb hby at_136) 137 rfl ?_
    refine own_iload X78 hx (hb hby at_137) rfl 139 rfl ?_
    refine own_icmpN X78 hx (hb hby at_139) (teq rfl).2 142 rfl ?_
    refine own_aload X78 hx (hb hby at_142) rfl rfl 144 rfl ?_
    refine own_iconst X78 hx (hb hby at_144) (1 : Int32) rfl 145 rfl ?_
    refine own_iaload X78 hx hZ (rfl : T78.heap = T78.heap) V80 1 rfl y36 rfl (hb hby at_145) 146 rfl ?_
    refine own_iload X78 hx (hb hby at_146) rfl 148 rfl ?_
    refine own_icmpN X78 hx (hb hby at_148) (teq rfl).2 151 rfl ?_
    refine own_aload X78 hx (hb hby at_151) rfl rfl 153 rfl ?_
    refine own_iconst X78 hx (hb hby at_153) (2 : Int32) rfl 154 rfl ?_
    refine own_iaload X78 hx hZ (rfl : T78.heap = T78.heap) V80 2 rfl y37 rfl (hb hby at_154) 155 rfl ?_
    refine own_iload X78 hx (hb hby at_155) rfl 157 rfl ?_
    refine own_icmpN X78 hx (hb hby at_157) (teq rfl).2 160 rfl ?_
    refine own_iconst X78 hx (hb hby at_160) (1 : Int32) rfl 161 rfl ?_
    refine own_goto X78 hx (hb hby at_161) 165 ⟨by decide, by decide⟩ ?_
    refine own_istore X78 hx (hb hby at_165) #[.val (.int v0), .val (.int v1), .val (.int v2), .val (.int v3), .val (.int v4), .val (.int v5), .val (.int y35), .val (.int y36), .val (.int y37), .val (.int y40), .val (.int y43), .val (.int y46), .val (.ref a47), .val (.ref a59), .val (.long y76), .second, .val (.long y77), .second, .val (.int (1 : Int32)), .val (.int (1 : Int32)), .unset, .unset, .unset] rfl 167 rfl ?_
    refine own_iload X78 hx (hb hby at_167) rfl 169 rfl ?_
    refine own_ifY X78 hx (hb hby at_169) ((if0 _ _).trans (feq (by decide)).2) 174 ⟨by decide, by decide⟩ ?_
    refine own_aload X78 hx (hb hby at_174) rfl rfl 176 rfl ?_
    refine own_iconst X78 hx (hb hby at_176) (0 : Int32) rfl 177 rfl ?_
    refine own_iaload X78 hx hZ (rfl : T78.heap = T78.heap) Va78 0 rfl y40 rfl (hb hby at_177) 178 rfl ?_
    refine own_ifN X78 hx (hb hby at_178) ((if0 _ _).trans (flt (own_inb i0).1).1) 181 rfl ?_
    refine own_aload X78 hx (hb hby at_181) rfl rfl 183 rfl ?_
    refine own_iconst X78 hx (hb hby at_183) (0 : Int32) rfl 184 rfl ?_
    refine own_iaload X78 hx hZ (rfl : T78.heap = T78.heap) Va78 0 rfl y40 rfl (hb hby at_184) 185 rfl ?_
    refine own_iload X78 hx (hb hby at_185) rfl 187 rfl ?_
    refine own_icmpN X78 hx (hb hby at_187) (tlt (own_inb i0).2).2.1 190 rfl ?_
    refine own_aload X78 hx (hb hby at_190) rfl rfl 192 rfl ?_
    refine own_iconst X78 hx (hb hby at_192) (1 : Int32) rfl 193 rfl ?_
    refine own_iaload X78 hx hZ (rfl : T78.heap = T78.heap) Va78 1 rfl (y43 + (1 : Int32)) rfl (hb hby at_193) 194 rfl ?_
    refine own_ifN X78 hx (hb hby at_194) ((if0 _ _).trans (flt (own_inb (own_In1 c1 i1 g2)).1).1) 197 rfl ?_
    refine own_aload X78 hx (hb hby at_197) rfl rfl 199 rfl ?_
    refine own_iconst X78 hx (hb hby at_199) (1 : Int32) rfl 200 rfl ?_
    refine own_iaload X78 hx hZ (rfl : T78.heap = T78.heap) Va78 1 rfl (y43 + (1 : Int32)) rfl (hb hby at_200) 201 rfl ?_
    refine own_iload X78 hx (hb hby at_201) rfl 203 rfl ?_
    refine own_icmpN X78 hx (hb hby at_203) (tlt (own_inb (own_In1 c1 i1 g2)).2).2.1 206 rfl ?_
    refine own_aload X78 hx (hb hby at_206) rfl rfl 208 rfl ?_
    refine own_iconst X78 hx (hb hby at_208) (2 : Int32) rfl 209 rfl ?_
    refine own_iaload X78 hx hZ (rfl : T78.heap = T78.heap) Va78 2 rfl (0 : Int32) rfl (hb hby at_209) 210 rfl ?_
    refine own_ifN X78 hx (hb hby at_210) ((if0 _ _).trans (flt (by decide)).1) 213 rfl ?_
    refine own_aload X78 hx (hb hby at_213) rfl rfl 215 rfl ?_
    refine own_iconst X78 hx (hb hby at_215) (2 : Int32) rfl 216 rfl ?_
    refine own_iaload X78 hx hZ (rfl : T78.heap = T78.heap) Va78 2 rfl (0 : Int32) rfl (hb hby at_216) 217 rfl ?_
    refine own_iload X78 hx (hb hby at_217) rfl 219 rfl ?_
    refine own_icmpN X78 hx (hb hby at_219) (tlt (own_inb (own_In0 c2)).2).2.1 222 rfl ?_
    refine own_iconst X78 hx (hb hby at_222) (1 : Int32) rfl 223 rfl ?_
    refine own_goto X78 hx (hb hby at_223) 227 ⟨by decide, by decide⟩ ?_
    refine own_istore X78 hx (hb hby at_227) #[.val (.int v0), .val (.int v1), .val (.int v2), .val (.int v3), .val (.int v4), .val (.int v5), .val (.int y35), .val (.int y36), .val (.int y37), .val (.int y40), .val (.int y43), .val (.int y46), .val (.ref a47), .val (.ref a59), .val (.long y76), .second, .val (.long y77), .second, .val (.int (1 : Int32)), .val (.int (1 : Int32)), .val (.int (1 : Int32)), .unset, .unset] rfl 229 rfl ?_
    refine own_iload X78 hx (hb hby at_229) rfl 231 rfl ?_
    refine own_ifY X78 hx (hb hby at_231) ((if0 _ _).trans (feq (by decide)).2) 236 ⟨by decide, by decide⟩ ?_
    refine own_aload X78 hx (hb hby at_236) rfl rfl 238 rfl ?_
    refine own_iconst X78 hx (hb hby at_238) (0 : Int32) rfl 239 rfl ?_
    refine own_iaload X78 hx hZ (rfl : T78.heap = T78.heap) Va78 0 rfl y40 rfl (hb hby at_239) 240 rfl ?_
    refine own_i2l X78 hx (hb hby at_240) 241 rfl ?_
    refine own_iload X78 hx (hb hby at_241) rfl 243 rfl ?_
    refine own_i2l X78 hx (hb hby at_243) 244 rfl ?_
    refine own_lmul X78 hx (hb hby at_244) 245 rfl ?_
    refine own_aload X78 hx (hb hby at_245) rfl rfl 247 rfl ?_
    refine own_iconst X78 hx (hb hby at_247) (1 : Int32) rfl 248 rfl ?_
    refine own_iaload X78 hx hZ (rfl : T78.heap = T78.heap) Va78 1 rfl (y43 + (1 : Int32)) rfl (hb hby at_248) 249 rfl ?_
    refine own_i2l X78 hx (hb hby at_249) 250 rfl ?_
    refine own_ladd X78 hx (hb hby at_250) 251 rfl ?_
    refine own_iload X78 hx (hb hby at_251) rfl 253 rfl ?_
    refine own_i2l X78 hx (hb hby at_253) 254 rfl ?_
    refine own_lmul X78 hx (hb hby at_254) 255 rfl ?_
    refine own_aload X78 hx (hb hby at_255) rfl rfl 257 rfl ?_
    refine own_iconst X78 hx (hb hby at_257) (2 : Int32) rfl 258 rfl ?_
    refine own_iaload X78 hx hZ (rfl : T78.heap = T78.heap) Va78 2 rfl (0 : Int32) rfl (hb hby at_258) 259 rfl ?_
    refine own_i2l X78 hx (hb hby at_259) 260 rfl ?_
    refine own_ladd X78 hx (hb hby at_260) 261 rfl ?_
    refine own_lstore X78 hx (hb hby at_261) #[.val (.int v0), .val (.int v1), .val (.int v2), .val (.int v3), .val (.int v4), .val (.int v5), .val (.int y35), .val (.int y36), .val (.int y37), .val (.int y40), .val (.int y43), .val (.int y46), .val (.ref a47), .val (.ref a59), .val (.long y76), .second, .val (.long y77), .second, .val (.int (1 : Int32)), .val (.int (1 : Int32)), .val (.int (1 : Int32)), .val (.long (((((y40).toInt64 * (y36).toInt64) + ((y43 + (1 : Int32))).toInt64) * (y37).toInt64) + ((0 : Int32)).toInt64)), .second] rfl 263 rfl ?_
    refine own_lload X78 hx (hb hby at_263) rfl 265 rfl ?_
    refine own_lconst X78 hx (hb hby at_265) (1 : Int64) rfl 266 rfl ?_
    refine own_ladd X78 hx (hb hby at_266) 267 rfl ?_
    refine own_lload X78 hx (hb hby at_267) rfl 269 rfl ?_
    refine own_lcmp X78 hx (hb hby at_269) 270 rfl ?_
    refine own_ifN X78 hx (hb hby at_270) (own_ltL hc.2).2 273 rfl ?_
    refine own_iload X78 hx (hb hby at_273) rfl 275 rfl ?_
    refine own_ifN X78 hx (hb hby at_275) ((if0 _ _).trans (feq (by decide)).1) 278 rfl ?_
    refine own_lload X78 hx (hb hby at_278) rfl 280 rfl ?_
    refine own_lload X78 hx (hb hby at_280) rfl 282 rfl ?_
    refine own_lconst X78 hx (hb hby at_282) (1 : Int64) rfl 283 rfl ?_
    refine own_ladd X78 hx (hb hby at_283) 284 rfl ?_
    refine own_lcmp X78 hx (hb hby at_284) 285 rfl ?_
    refine own_ifN X78 hx (hb hby at_285) (own_eqL hc.1).2 288 rfl ?_
    refine own_iconst X78 hx (hb hby at_288) (1 : Int32) rfl 289 rfl ?_
    refine own_goto X78 hx (hb hby at_289) 293 ⟨by decide, by decide⟩ ?_
    refine own_nreturn X78 hx Bd.notSynchronized hG Bd.returns (by simp) (hb hby at_293) (by decide) (by decide) ?_
    skip
    exact ⟨rfl, N79⟩
  ·
    show own_Go p e below G (T78.setTop (mkF m 131 #[.val (.int v0), .val (.int v1), .val (.int v2), .val (.int v3), .val (.int v4), .val (.int v5), .val (.int y35), .val (.int y36), .val (.int y37), .val (.int y40), .val (.int y43), .val (.int y46), .val (.ref a47), .val (.ref a59), .val (.long y76), .second, .val (.long y77), .second, .unset, .unset, .unset, .unset, .unset] [(.int (1 : Int32))]))
    have hc := hall.2.1 g1 g2 g3
    refine own_istore X78 hx (hb hby at_131) #[.val (.int v0), .val (.int v1), .val (.int v2), .val (.int v3), .val (.int v4), .val (.int v5), .val (.int y35), .val (.int y36), .val (.int y37), .val (.int y40), .val (.int y43), .val (.int y46), .val (.ref a47), .val (.ref a59), .val (.long y76), .second, .val (.long y77), .second, .val (.int (1 : Int32)), .unset, .unset, .unset, .unset] rfl 133 rfl ?_
    refine own_aload X78 hx (hb hby at_133) rfl rfl 135 rfl ?_
    refine own_iconst X78 hx (hb hby at_135) (0 : Int32) rfl 136 rfl ?_
    refine own_iaload X78 hx hZ (rfl : T78.heap = T78.heap) V80 0 rfl y35 rfl (hb hby at_136) 137 rfl ?_
    refine own_iload X78 hx (hb hby at_137) rfl 139 rfl ?_
    refine own_icmpN X78 hx (hb hby at_139) (teq rfl).2 142 rfl ?_
    refine own_aload X78 hx (hb hby at_142) rfl rfl 144 rfl ?_
    refine own_iconst X78 hx (hb hby at_144) (1 : Int32) rfl 145 rfl ?_
    refine own_iaload X78 hx hZ (rfl : T78.heap = T78.heap) V80 1 rfl y36 rfl (hb hby at_145) 146 rfl ?_
    refine own_iload X78 hx (hb hby at_146) rfl 148 rfl ?_
    refine own_icmpN X78 hx (hb hby at_148) (teq rfl).2 151 rfl ?_
    refine own_aload X78 hx (hb hby at_151) rfl rfl 153 rfl ?_
    refine own_iconst X78 hx (hb hby at_153) (2 : Int32) rfl 154 rfl ?_
    refine own_iaload X78 hx hZ (rfl : T78.heap = T78.heap) V80 2 rfl y37 rfl (hb hby at_154) 155 rfl ?_
    refine own_iload X78 hx (hb hby at_155) rfl 157 rfl ?_
    refine own_icmpN X78 hx (hb hby at_157) (teq rfl).2 160 rfl ?_
    refine own_iconst X78 hx (hb hby at_160) (1 : Int32) rfl 161 rfl ?_
    refine own_goto X78 hx (hb hby at_161) 165 ⟨by decide, by decide⟩ ?_
    refine own_istore X78 hx (hb hby at_165) #[.val (.int v0), .val (.int v1), .val (.int v2), .val (.int v3), .val (.int v4), .val (.int v5), .val (.int y35), .val (.int y36), .val (.int y37), .val (.int y40), .val (.int y43), .val (.int y46), .val (.ref a47), .val (.ref a59), .val (.long y76), .second, .val (.long y77), .second, .val (.int (1 : Int32)), .val (.int (1 : Int32)), .unset, .unset, .unset] rfl 167 rfl ?_
    refine own_iload X78 hx (hb hby at_167) rfl 169 rfl ?_
    refine own_ifY X78 hx (hb hby at_169) ((if0 _ _).trans (feq (by decide)).2) 174 ⟨by decide, by decide⟩ ?_
    refine own_aload X78 hx (hb hby at_174) rfl rfl 176 rfl ?_
    refine own_iconst X78 hx (hb hby at_176) (0 : Int32) rfl 177 rfl ?_
    refine own_iaload X78 hx hZ (rfl : T78.heap = T78.heap) Va78 0 rfl (y40 + (1 : Int32)) rfl (hb hby at_177) 178 rfl ?_
    refine own_ifN X78 hx (hb hby at_178) ((if0 _ _).trans (flt (own_inb (own_In1 c0 i0 g3)).1).1) 181 rfl ?_
    refine own_aload X78 hx (hb hby at_181) rfl rfl 183 rfl ?_
    refine own_iconst X78 hx (hb hby at_183) (0 : Int32) rfl 184 rfl ?_
    refine own_iaload X78 hx hZ (rfl : T78.heap = T78.heap) Va78 0 rfl (y40 + (1 : Int32)) rfl (hb hby at_184) 185 rfl ?_
    refine own_iload X78 hx (hb hby at_185) rfl 187 rfl ?_
    refine own_icmpN X78 hx (hb hby at_187) (tlt (own_inb (own_In1 c0 i0 g3)).2).2.1 190 rfl ?_
    refine own_aload X78 hx (hb hby at_190) rfl rfl 192 rfl ?_
    refine own_iconst X78 hx (hb hby at_192) (1 : Int32) rfl 193 rfl ?_
    refine own_iaload X78 hx hZ (rfl : T78.heap = T78.heap) Va78 1 rfl (0 : Int32) rfl (hb hby at_193) 194 rfl ?_
    refine own_ifN X78 hx (hb hby at_194) ((if0 _ _).trans (flt (by decide)).1) 197 rfl ?_
    refine own_aload X78 hx (hb hby at_197) rfl rfl 199 rfl ?_
    refine own_iconst X78 hx (hb hby at_199) (1 : Int32) rfl 200 rfl ?_
    refine own_iaload X78 hx hZ (rfl : T78.heap = T78.heap) Va78 1 rfl (0 : Int32) rfl (hb hby at_200) 201 rfl ?_
    refine own_iload X78 hx (hb hby at_201) rfl 203 rfl ?_
    refine own_icmpN X78 hx (hb hby at_203) (tlt (own_inb (own_In0 c1)).2).2.1 206 rfl ?_
    refine own_aload X78 hx (hb hby at_206) rfl rfl 208 rfl ?_
    refine own_iconst X78 hx (hb hby at_208) (2 : Int32) rfl 209 rfl ?_
    refine own_iaload X78 hx hZ (rfl : T78.heap = T78.heap) Va78 2 rfl (0 : Int32) rfl (hb hby at_209) 210 rfl ?_
    refine own_ifN X78 hx (hb hby at_210) ((if0 _ _).trans (flt (by decide)).1) 213 rfl ?_
    refine own_aload X78 hx (hb hby at_213) rfl rfl 215 rfl ?_
    refine own_iconst X78 hx (hb hby at_215) (2 : Int32) rfl 216 rfl ?_
    refine own_iaload X78 hx hZ (rfl : T78.heap = T78.heap) Va78 2 rfl (0 : Int32) rfl (hb hby at_216) 217 rfl ?_
    refine own_iload X78 hx (hb hby at_217) rfl 219 rfl ?_
    refine own_icmpN X78 hx (hb hby at_219) (tlt (own_inb (own_In0 c2)).2).2.1 222 rfl ?_
    refine own_iconst X78 hx (hb hby at_222) (1 : Int32) rfl 223 rfl ?_
    refine own_goto X78 hx (hb hby at_223) 227 ⟨by decide, by decide⟩ ?_
    refine own_istore X78 hx (hb hby at_227) #[.val (.int v0), .val (.int v1), .val (.int v2), .val (.int v3), .val (.int v4), .val (.int v5), .val (.int y35), .val (.int y36), .val (.int y37), .val (.int y40), .val (.int y43), .val (.int y46), .val (.ref a47), .val (.ref a59), .val (.long y76), .second, .val (.long y77), .second, .val (.int (1 : Int32)), .val (.int (1 : Int32)), .val (.int (1 : Int32)), .unset, .unset] rfl 229 rfl ?_
    refine own_iload X78 hx (hb hby at_229) rfl 231 rfl ?_
    refine own_ifY X78 hx (hb hby at_231) ((if0 _ _).trans (feq (by decide)).2) 236 ⟨by decide, by decide⟩ ?_
    refine own_aload X78 hx (hb hby at_236) rfl rfl 238 rfl ?_
    refine own_iconst X78 hx (hb hby at_238) (0 : Int32) rfl 239 rfl ?_
    refine own_iaload X78 hx hZ (rfl : T78.heap = T78.heap) Va78 0 rfl (y40 + (1 : Int32)) rfl (hb hby at_239) 240 rfl ?_
    refine own_i2l X78 hx (hb hby at_240) 241 rfl ?_
    refine own_iload X78 hx (hb hby at_241) rfl 243 rfl ?_
    refine own_i2l X78 hx (hb hby at_243) 244 rfl ?_
    refine own_lmul X78 hx (hb hby at_244) 245 rfl ?_
    refine own_aload X78 hx (hb hby at_245) rfl rfl 247 rfl ?_
    refine own_iconst X78 hx (hb hby at_247) (1 : Int32) rfl 248 rfl ?_
    refine own_iaload X78 hx hZ (rfl : T78.heap = T78.heap) Va78 1 rfl (0 : Int32) rfl (hb hby at_248) 249 rfl ?_
    refine own_i2l X78 hx (hb hby at_249) 250 rfl ?_
    refine own_ladd X78 hx (hb hby at_250) 251 rfl ?_
    refine own_iload X78 hx (hb hby at_251) rfl 253 rfl ?_
    refine own_i2l X78 hx (hb hby at_253) 254 rfl ?_
    refine own_lmul X78 hx (hb hby at_254) 255 rfl ?_
    refine own_aload X78 hx (hb hby at_255) rfl rfl 257 rfl ?_
    refine own_iconst X78 hx (hb hby at_257) (2 : Int32) rfl 258 rfl ?_
    refine own_iaload X78 hx hZ (rfl : T78.heap = T78.heap) Va78 2 rfl (0 : Int32) rfl (hb hby at_258) 259 rfl ?_
    refine own_i2l X78 hx (hb hby at_259) 260 rfl ?_
    refine own_ladd X78 hx (hb hby at_260) 261 rfl ?_
    refine own_lstore X78 hx (hb hby at_261) #[.val (.int v0), .val (.int v1), .val (.int v2), .val (.int v3), .val (.int v4), .val (.int v5), .val (.int y35), .val (.int y36), .val (.int y37), .val (.int y40), .val (.int y43), .val (.int y46), .val (.ref a47), .val (.ref a59), .val (.long y76), .second, .val (.long y77), .second, .val (.int (1 : Int32)), .val (.int (1 : Int32)), .val (.int (1 : Int32)), .val (.long ((((((y40 + (1 : Int32))).toInt64 * (y36).toInt64) + ((0 : Int32)).toInt64) * (y37).toInt64) + ((0 : Int32)).toInt64)), .second] rfl 263 rfl ?_
    refine own_lload X78 hx (hb hby at_263) rfl 265 rfl ?_
    refine own_lconst X78 hx (hb hby at_265) (1 : Int64) rfl 266 rfl ?_
    refine own_ladd X78 hx (hb hby at_266) 267 rfl ?_
    refine own_lload X78 hx (hb hby at_267) rfl 269 rfl ?_
    refine own_lcmp X78 hx (hb hby at_269) 270 rfl ?_
    refine own_ifN X78 hx (hb hby at_270) (own_ltL hc.2).2 273 rfl ?_
    refine own_iload X78 hx (hb hby at_273) rfl 275 rfl ?_
    refine own_ifN X78 hx (hb hby at_275) ((if0 _ _).trans (feq (by decide)).1) 278 rfl ?_
    refine own_lload X78 hx (hb hby at_278) rfl 280 rfl ?_
    refine own_lload X78 hx (hb hby at_280) rfl 282 rfl ?_
    refine own_lconst X78 hx (hb hby at_282) (1 : Int64) rfl 283 rfl ?_
    refine own_ladd X78 hx (hb hby at_283) 284 rfl ?_
    refine own_lcmp X78 hx (hb hby at_284) 285 rfl ?_
    refine own_ifN X78 hx (hb hby at_285) (own_eqL hc.1).2 288 rfl ?_
    refine own_iconst X78 hx (hb hby at_288) (1 : Int32) rfl 289 rfl ?_
    refine own_goto X78 hx (hb hby at_289) 293 ⟨by decide, by decide⟩ ?_
    refine own_nreturn X78 hx Bd.notSynchronized hG Bd.returns (by simp) (hb hby at_293) (by decide) (by decide) ?_
    skip
    exact ⟨rfl, N79⟩
  ·
    show own_Go p e below G (T78.setTop (mkF m 131 #[.val (.int v0), .val (.int v1), .val (.int v2), .val (.int v3), .val (.int v4), .val (.int v5), .val (.int y35), .val (.int y36), .val (.int y37), .val (.int y40), .val (.int y43), .val (.int y46), .val (.ref a47), .val (.ref a59), .val (.long y76), .second, .val (.long y77), .second, .unset, .unset, .unset, .unset, .unset] [(.int (0 : Int32))]))
    have hc := hall.2.2 g1 g2 g3
    refine own_istore X78 hx (hb hby at_131) #[.val (.int v0), .val (.int v1), .val (.int v2), .val (.int v3), .val (.int v4), .val (.int v5), .val (.int y35), .val (.int y36), .val (.int y37), .val (.int y40), .val (.int y43), .val (.int y46), .val (.ref a47), .val (.ref a59), .val (.long y76), .second, .val (.long y77), .second, .val (.int (0 : Int32)), .unset, .unset, .unset, .unset] rfl 133 rfl ?_
    refine own_aload X78 hx (hb hby at_133) rfl rfl 135 rfl ?_
    refine own_iconst X78 hx (hb hby at_135) (0 : Int32) rfl 136 rfl ?_
    refine own_iaload X78 hx hZ (rfl : T78.heap = T78.heap) V80 0 rfl y35 rfl (hb hby at_136) 137 rfl ?_
    refine own_iload X78 hx (hb hby at_137) rfl 139 rfl ?_
    refine own_icmpN X78 hx (hb hby at_139) (teq rfl).2 142 rfl ?_
    refine own_aload X78 hx (hb hby at_142) rfl rfl 144 rfl ?_
    refine own_iconst X78 hx (hb hby at_144) (1 : Int32) rfl 145 rfl ?_
    refine own_iaload X78 hx hZ (rfl : T78.heap = T78.heap) V80 1 rfl y36 rfl (hb hby at_145) 146 rfl ?_
    refine own_iload X78 hx (hb hby at_146) rfl 148 rfl ?_
    refine own_icmpN X78 hx (hb hby at_148) (teq rfl).2 151 rfl ?_
    refine own_aload X78 hx (hb hby at_151) rfl rfl 153 rfl ?_
    refine own_iconst X78 hx (hb hby at_153) (2 : Int32) rfl 154 rfl ?_
    refine own_iaload X78 hx hZ (rfl : T78.heap = T78.heap) V80 2 rfl y37 rfl (hb hby at_154) 155 rfl ?_
    refine own_iload X78 hx (hb hby at_155) rfl 157 rfl ?_
    refine own_icmpN X78 hx (hb hby at_157) (teq rfl).2 160 rfl ?_
    refine own_iconst X78 hx (hb hby at_160) (1 : Int32) rfl 161 rfl ?_
    refine own_goto X78 hx (hb hby at_161) 165 ⟨by decide, by decide⟩ ?_
    refine own_istore X78 hx (hb hby at_165) #[.val (.int v0), .val (.int v1), .val (.int v2), .val (.int v3), .val (.int v4), .val (.int v5), .val (.int y35), .val (.int y36), .val (.int y37), .val (.int y40), .val (.int y43), .val (.int y46), .val (.ref a47), .val (.ref a59), .val (.long y76), .second, .val (.long y77), .second, .val (.int (0 : Int32)), .val (.int (1 : Int32)), .unset, .unset, .unset] rfl 167 rfl ?_
    refine own_iload X78 hx (hb hby at_167) rfl 169 rfl ?_
    refine own_ifY X78 hx (hb hby at_169) ((if0 _ _).trans (feq (by decide)).2) 174 ⟨by decide, by decide⟩ ?_
    refine own_aload X78 hx (hb hby at_174) rfl rfl 176 rfl ?_
    refine own_iconst X78 hx (hb hby at_176) (0 : Int32) rfl 177 rfl ?_
    refine own_iaload X78 hx hZ (rfl : T78.heap = T78.heap) Va78 0 rfl (0 : Int32) rfl (hb hby at_177) 178 rfl ?_
    refine own_ifN X78 hx (hb hby at_178) ((if0 _ _).trans (flt (by decide)).1) 181 rfl ?_
    refine own_aload X78 hx (hb hby at_181) rfl rfl 183 rfl ?_
    refine own_iconst X78 hx (hb hby at_183) (0 : Int32) rfl 184 rfl ?_
    refine own_iaload X78 hx hZ (rfl : T78.heap = T78.heap) Va78 0 rfl (0 : Int32) rfl (hb hby at_184) 185 rfl ?_
    refine own_iload X78 hx (hb hby at_185) rfl 187 rfl ?_
    refine own_icmpN X78 hx (hb hby at_187) (tlt (own_inb (own_In0 c0)).2).2.1 190 rfl ?_
    refine own_aload X78 hx (hb hby at_190) rfl rfl 192 rfl ?_
    refine own_iconst X78 hx (hb hby at_192) (1 : Int32) rfl 193 rfl ?_
    refine own_iaload X78 hx hZ (rfl : T78.heap = T78.heap) Va78 1 rfl (0 : Int32) rfl (hb hby at_193) 194 rfl ?_
    refine own_ifN X78 hx (hb hby at_194) ((if0 _ _).trans (flt (by decide)).1) 197 rfl ?_
    refine own_aload X78 hx (hb hby at_197) rfl rfl 199 rfl ?_
    refine own_iconst X78 hx (hb hby at_199) (1 : Int32) rfl 200 rfl ?_
    refine own_iaload X78 hx hZ (rfl : T78.heap = T78.heap) Va78 1 rfl (0 : Int32) rfl (hb hby at_200) 201 rfl ?_
    refine own_iload X78 hx (hb hby at_201) rfl 203 rfl ?_
    refine own_icmpN X78 hx (hb hby at_203) (tlt (own_inb (own_In0 c1)).2).2.1 206 rfl ?_
    refine own_aload X78 hx (hb hby at_206) rfl rfl 208 rfl ?_
    refine own_iconst X78 hx (hb hby at_208) (2 : Int32) rfl 209 rfl ?_
    refine own_iaload X78 hx hZ (rfl : T78.heap = T78.heap) Va78 2 rfl (0 : Int32) rfl (hb hby at_209) 210 rfl ?_
    refine own_ifN X78 hx (hb hby at_210) ((if0 _ _).trans (flt (by decide)).1) 213 rfl ?_
    refine own_aload X78 hx (hb hby at_213) rfl rfl 215 rfl ?_
    refine own_iconst X78 hx (hb hby at_215) (2 : Int32) rfl 216 rfl ?_
    refine own_iaload X78 hx hZ (rfl : T78.heap = T78.heap) Va78 2 rfl (0 : Int32) rfl (hb hby at_216) 217 rfl ?_
    refine own_iload X78 hx (hb hby at_217) rfl 219 rfl ?_
    refine own_icmpN X78 hx (hb hby at_219) (tlt (own_inb (own_In0 c2)).2).2.1 222 rfl ?_
    refine own_iconst X78 hx (hb hby at_222) (1 : Int32) rfl 223 rfl ?_
    refine own_goto X78 hx (hb hby at_223) 227 ⟨by decide, by decide⟩ ?_
    refine own_istore X78 hx (hb hby at_227) #[.val (.int v0), .val (.int v1), .val (.int v2), .val (.int v3), .val (.int v4), .val (.int v5), .val (.int y35), .val (.int y36), .val (.int y37), .val (.int y40), .val (.int y43), .val (.int y46), .val (.ref a47), .val (.ref a59), .val (.long y76), .second, .val (.long y77), .second, .val (.int (0 : Int32)), .val (.int (1 : Int32)), .val (.int (1 : Int32)), .unset, .unset] rfl 229 rfl ?_
    refine own_iload X78 hx (hb hby at_229) rfl 231 rfl ?_
    refine own_ifY X78 hx (hb hby at_231) ((if0 _ _).trans (feq (by decide)).2) 236 ⟨by decide, by decide⟩ ?_
    refine own_aload X78 hx (hb hby at_236) rfl rfl 238 rfl ?_
    refine own_iconst X78 hx (hb hby at_238) (0 : Int32) rfl 239 rfl ?_
    refine own_iaload X78 hx hZ (rfl : T78.heap = T78.heap) Va78 0 rfl (0 : Int32) rfl (hb hby at_239) 240 rfl ?_
    refine own_i2l X78 hx (hb hby at_240) 241 rfl ?_
    refine own_iload X78 hx (hb hby at_241) rfl 243 rfl ?_
    refine own_i2l X78 hx (hb hby at_243) 244 rfl ?_
    refine own_lmul X78 hx (hb hby at_244) 245 rfl ?_
    refine own_aload X78 hx (hb hby at_245) rfl rfl 247 rfl ?_
    refine own_iconst X78 hx (hb hby at_247) (1 : Int32) rfl 248 rfl ?_
    refine own_iaload X78 hx hZ (rfl : T78.heap = T78.heap) Va78 1 rfl (0 : Int32) rfl (hb hby at_248) 249 rfl ?_
    refine own_i2l X78 hx (hb hby at_249) 250 rfl ?_
    refine own_ladd X78 hx (hb hby at_250) 251 rfl ?_
    refine own_iload X78 hx (hb hby at_251) rfl 253 rfl ?_
    refine own_i2l X78 hx (hb hby at_253) 254 rfl ?_
    refine own_lmul X78 hx (hb hby at_254) 255 rfl ?_
    refine own_aload X78 hx (hb hby at_255) rfl rfl 257 rfl ?_
    refine own_iconst X78 hx (hb hby at_257) (2 : Int32) rfl 258 rfl ?_
    refine own_iaload X78 hx hZ (rfl : T78.heap = T78.heap) Va78 2 rfl (0 : Int32) rfl (hb hby at_258) 259 rfl ?_
    refine own_i2l X78 hx (hb hby at_259) 260 rfl ?_
    refine own_ladd X78 hx (hb hby at_260) 261 rfl ?_
    refine own_lstore X78 hx (hb hby at_261) #[.val (.int v0), .val (.int v1), .val (.int v2), .val (.int v3), .val (.int v4), .val (.int v5), .val (.int y35), .val (.int y36), .val (.int y37), .val (.int y40), .val (.int y43), .val (.int y46), .val (.ref a47), .val (.ref a59), .val (.long y76), .second, .val (.long y77), .second, .val (.int (0 : Int32)), .val (.int (1 : Int32)), .val (.int (1 : Int32)), .val (.long ((((((0 : Int32)).toInt64 * (y36).toInt64) + ((0 : Int32)).toInt64) * (y37).toInt64) + ((0 : Int32)).toInt64)), .second] rfl 263 rfl ?_
    refine own_lload X78 hx (hb hby at_263) rfl 265 rfl ?_
    refine own_lconst X78 hx (hb hby at_265) (1 : Int64) rfl 266 rfl ?_
    refine own_ladd X78 hx (hb hby at_266) 267 rfl ?_
    refine own_lload X78 hx (hb hby at_267) rfl 269 rfl ?_
    refine own_lcmp X78 hx (hb hby at_269) 270 rfl ?_
    refine own_ifY X78 hx (hb hby at_270) (own_nltL hc).2 294 ⟨by decide, by decide⟩ ?_
    refine own_iload X78 hx (hb hby at_294) rfl 296 rfl ?_
    refine own_ifN X78 hx (hb hby at_296) ((if0 _ _).trans (teq (by decide)).2) 299 rfl ?_
    refine own_aload X78 hx (hb hby at_299) rfl rfl 301 rfl ?_
    refine own_iconst X78 hx (hb hby at_301) (0 : Int32) rfl 302 rfl ?_
    refine own_iaload X78 hx hZ (rfl : T78.heap = T78.heap) Va78 0 rfl (0 : Int32) rfl (hb hby at_302) 303 rfl ?_
    refine own_ifN X78 hx (hb hby at_303) ((if0 _ _).trans (teq (by decide)).2) 306 rfl ?_
    refine own_aload X78 hx (hb hby at_306) rfl rfl 308 rfl ?_
    refine own_iconst X78 hx (hb hby at_308) (1 : Int32) rfl 309 rfl ?_
    refine own_iaload X78 hx hZ (rfl : T78.heap = T78.heap) Va78 1 rfl (0 : Int32) rfl (hb hby at_309) 310 rfl ?_
    refine own_ifN X78 hx (hb hby at_310) ((if0 _ _).trans (teq (by decide)).2) 313 rfl ?_
    refine own_aload X78 hx (hb hby at_313) rfl rfl 315 rfl ?_
    refine own_iconst X78 hx (hb hby at_315) (2 : Int32) rfl 316 rfl ?_
    refine own_iaload X78 hx hZ (rfl : T78.heap = T78.heap) Va78 2 rfl (0 : Int32) rfl (hb hby at_316) 317 rfl ?_
    refine own_ifN X78 hx (hb hby at_317) ((if0 _ _).trans (teq (by decide)).2) 320 rfl ?_
    refine own_iconst X78 hx (hb hby at_320) (1 : Int32) rfl 321 rfl ?_
    refine own_goto X78 hx (hb hby at_321) 325 ⟨by decide, by decide⟩ ?_
    refine own_nreturn X78 hx Bd.notSynchronized hG Bd.returns (by simp) (hb hby at_325) (by decide) (by decide) ?_
    skip
    exact ⟨rfl, N79⟩
set_option maxRecDepth 65536 in
set_option maxHeartbeats 40000000 in
theorem comes_1 {Post : Tables → Env → Array Value → State → Outcome → State → Prop} (hpost : ∀ tb e args s v u, (limb_1_1.after args s (.returned v) u = true ∧ limb_1_2.after args s (.returned v) u = true ∧ True) → FrameEnd s (.returned v) u (Jvm.fieldLocs frame_1_writes args s ++ Jvm.arrayLocs frame_1_arrays args s ++ Jvm.staticLocs frame_1_statics s) 16 128 → Post tb e args s (.returned v) u) :
    ArmFor flags0 classFile x code maxLocals ret World_1 tables_1 room_1 Calls_1 rest_1 Pre_1 Post := by
  intro l hfl _ _ p e ha hc hk s m args below hf hA hF happ hP
  obtain ⟨hcalls, hrest, hpre⟩ := hP
  obtain ⟨-, -, -, hnamed, -, -, -, hat⟩ := (Spec.applies_iff hf).mp happ
  obtain ⟨hg, hn⟩ := and_e (Cond.before_iff.mp (show (Jvm.Cond.and given_1 narrow_1).before args s = true from hpre))
  obtain ⟨hcount, k0⟩ := and_e hg
  obtain ⟨q0, k1⟩ := and_e k0
  obtain ⟨q1, k2⟩ := and_e k1
  obtain ⟨q2, k3⟩ := and_e k2
  obtain ⟨q3, k4⟩ := and_e k3
  obtain ⟨q4, k5⟩ := and_e k4
  have q5 := k5
  obtain ⟨w0, w1, w2, w3, w4, w5, rfl⟩ : ∃ w0 w1 w2 w3 w4 w5 : Value, args = #[w0, w1, w2, w3, w4, w5] := by
    have hs : args.size = 6 := by simpa [Cond.value, given_1] using hcount
    obtain ⟨L⟩ := args
    match L, hs with
    | [w0, w1, w2, w3, w4, w5], _ => exact ⟨w0, w1, w2, w3, w4, w5, rfl⟩
  have hw := fun d (hd : d ∈ tables_1) => atoms_spec (ws := Jvm.Cond.code x code maxLocals ret :: tables_1) hat d (List.mem_cons_of_mem _ hd)
  have hfit : Fit s := fun {y c} hc i hi => by
    obtain ⟨ha, rfl⟩ := Array.getElem?_eq_some_iff.mp hc
    have q := List.all_eq_true.mp ((Array.all_eq_true_iff_forall_mem.mp hF) _ (Array.getElem_mem ha)) i (List.mem_range.mpr hi)
    simpa [Array.getElem?_eq_getElem hi] using q
  obtain ⟨i0, r0⟩ := is_v q0
  obtain rfl : w0 = (.int i0) := Option.some.inj r0
  obtain ⟨i1, r1⟩ := is_v q1
  obtain rfl : w1 = (.int i1) := Option.some.inj r1
  obtain ⟨i2, r2⟩ := is_v q2
  obtain rfl : w2 = (.int i2) := Option.some.inj r2
  obtain ⟨i3, r3⟩ := is_v q3
  obtain rfl : w3 = (.int i3) := Option.some.inj r3
  obtain ⟨i4, r4⟩ := is_v q4
  obtain rfl : w4 = (.int i4) := Option.some.inj r4
  obtain ⟨i5, r5⟩ := is_v q5
  obtain rfl : w5 = (.int i5) := Option.some.inj r5
  obtain ⟨n, o, h1, h2, h3, _, L, rfl, ⟨rfl, N⟩, hq⟩ := rm0 l s _ hw tables_1 i0 i1 i2 i3 i4 i5 s.heap s.heap.size (Nat.le_refl _) p e ha hc hk s m _ below hf ((Spec.applies_iff_loose hf).mp happ).1 ⟨rfl, State.Warmed39.refl s, rfl⟩ trivial
  refine ⟨n, _, h1, h2, h3, hpost _ _ _ _ _ _ ⟨Cond.after_iff.mpr rfl, Cond.after_iff.mpr (eq_i res_at (Term.int_eval (1)) rfl), trivial⟩ ⟨hq.1, hq.2.1, (hq.2.2.sift fun y hy => Or.inr (N y hy)).mono (by decide) (by decide)⟩⟩
theorem main_1_1 : Claimed_1_1 := comes_1 fun _ _ _ _ _ _ h hF => ⟨h.1, hF⟩
theorem main_1_2 : Claimed_1_2 := comes_1 fun _ _ _ _ _ _ h hF => ⟨h.2.1, hF⟩
end Jvm.Pilot.@@N@@
namespace Jvm.Pilot.@@N@@
open Jvm Jvm.ClassFile Sem Op Lib Jvm.Free Jvm.Stand Jvm.Pilot.@@N@@.Jvm.D
/-! MADE BY PROGRAM (witnessworld.py) out of the Statement's table words and the real class files: 9 classes; the members and pool entries that the words name. The judged class is class 1, her method 2. -/
namespace start1
open Jvm.ClassFile
def u (s : String) : CpInfo := .utf8 (stringToUtf16 s)
/-- a pool by its gaps: so many unusable entries, then the entry; so many at the end -/
def gap : Nat → List CpInfo → List CpInfo
  | 0, r => r
  | n + 1, r => .unusable :: gap n r
def poolList (es : List (Nat × CpInfo)) (last : Nat) : List CpInfo := es.foldr (fun e r => gap e.1 (e.2 :: r)) (gap last [])
def pool (es : List (Nat × CpInfo)) (last : Nat) : Array CpInfo := ⟨poolList es last⟩
def fileOf (pool : Array CpInfo) (this : Nat) (attrs : Array Attribute := #[]) (ms : Array MethodInfo := #[]) (fl : Nat := 33) (sup : Nat := 0) (ifs : Array Nat := #[]) (fds : Array FieldInfo := #[]) : ClassFile where
  minorVersion := 0
  majorVersion := 65
  constantPool := pool
  accessFlags := fl
  thisClass := this
  superClass := sup
  interfaces := ifs
  fields := fds
  methods := ms
  attributes := attrs
def plain (name : String) (sup : Option ClassId) : Class where
  name := name
  kind := .ordinary
  loader := none
  accessFlags := 33
  super := sup
  interfaces := #[]
  cf := none
  fields := #[]
  methods := #[]
  instanceTypes := #[]
  staticTypes := #[]
  resolved := #[]
  callSites := []
  init := .initialized
  statics := none
  mirror := none

def pool0 : Array CpInfo := pool [(5, u "<init>"), (0, u "()V"), (1, .class_ 10), (1, u "java/lang/Object")] 113

def k0m0 : Method := { name := "<init>", desc := "()V", sig := { parameters := [], returnType := none }, accessFlags := 1, code := none }
/-- java/lang/Object -/
def k0 : Class := { plain "java/lang/Object" none with
  accessFlags := 33
  interfaces := #[]
  cf := some (fileOf pool0 8 #[] #[{ accessFlags := 1, nameIndex := 5, descriptorIndex := 6, attributes := #[] }] 33 0 #[] #[])
  fields := #[]
  methods := #[k0m0]
  instanceTypes := #[]
  staticTypes := #[]
  resolved := Array.replicate 124 none
  statics := none }

def pool1 : Array CpInfo := pool [(2, .class_ 4), (1, u "java/lang/Object"), (0, u "<init>"), (0, u "()V"), (0, .integer 65535), (0, .methodref 9 10), (0, .class_ 11), (0, .nameAndType 12 13), (0, u "com/example/libhedge/libhedge/ChoicesNextPinLaw"), (0, u "pick"), (0, u "(II)I"), (0, .methodref 15 16), (0, .class_ 17), (0, .nameAndType 18 19), (0, u "com/example/libhedge/libhedge/Choices"), (0, u "next"), (0, u "([I[I)Z"), (3, u "law"), (0, u "(IIIIII)Z")] 4

def k1m0 : Method := { name := "<init>", desc := "()V", sig := { parameters := [], returnType := none }, accessFlags := 2, code := none }
def k1c1 : Code := { maxStack := 2, maxLocals := 2, code := method_2_code, exceptionTable := #[], attributes := #[] }
def k1m1 : Method := { name := "pick", desc := "(II)I", sig := { parameters := [.int, .int], returnType := some .int }, accessFlags := 10, code := some k1c1 }
def k1c2 : Code := { maxStack := 6, maxLocals := 23, code := code, exceptionTable := #[], attributes := #[] }
def k1m2 : Method := { name := "law", desc := "(IIIIII)Z", sig := { parameters := [.int, .int, .int, .int, .int, .int], returnType := some .boolean }, accessFlags := 9, code := some k1c2 }
/-- com/example/libhedge/libhedge/ChoicesNextPinLaw -/
def k1 : Class := { plain "com/example/libhedge/libhedge/ChoicesNextPinLaw" (some 0) with
  accessFlags := 49
  interfaces := #[]
  cf := some (fileOf pool1 9 #[] #[{ accessFlags := 2, nameIndex := 5, descriptorIndex := 6, attributes := #[] }, { accessFlags := 10, nameIndex := 12, descriptorIndex := 13, attributes := #[] }, { accessFlags := 9, nameIndex := 23, descriptorIndex := 24, attributes := #[] }] 49 2 #[] #[])
  fields := #[]
  methods := #[k1m0, k1m1, k1m2]
  instanceTypes := #[]
  staticTypes := #[]
  resolved := Array.replicate 29 none
  statics := none }

def pool2 : Array CpInfo := pool [(2, .class_ 4), (1, u "java/lang/Object"), (0, u "<init>"), (0, u "()V"), (16, .class_ 24), (0, u "com/example/libhedge/libhedge/Choices"), (4, u "next"), (0, u "([I[I)Z")] 23

def k2m0 : Method := { name := "<init>", desc := "()V", sig := { parameters := [], returnType := none }, accessFlags := 2, code := none }
def k2c1 : Code := { maxStack := 4, maxLocals := 3, code := prog_18_method_3_code, exceptionTable := #[], attributes := #[] }
def k2m1 : Method := { name := "next", desc := "([I[I)Z", sig := { parameters := [(.array .int), (.array .int)], returnType := some .boolean }, accessFlags := 8, code := some k2c1 }
/-- com/example/libhedge/libhedge/Choices -/
def k2 : Class := { plain "com/example/libhedge/libhedge/Choices" (some 0) with
  accessFlags := 32
  interfaces := #[]
  cf := some (fileOf pool2 23 #[] #[{ accessFlags := 2, nameIndex := 5, descriptorIndex := 6, attributes := #[] }, { accessFlags := 8, nameIndex := 29, descriptorIndex := 30, attributes := #[] }] 32 2 #[] #[])
  fields := #[]
  methods := #[k2m0, k2m1]
  instanceTypes := #[]
  staticTypes := #[]
  resolved := Array.replicate 54 none
  statics := none }

def pool3 : Array CpInfo := pool [(1, u "java/lang/Cloneable"), (0, .class_ 1), (0, u "java/lang/Object"), (0, .class_ 3)] 3

/-- java/lang/Cloneable -/
def k3 : Class := { plain "java/lang/Cloneable" (some 0) with
  accessFlags := 1537
  interfaces := #[]
  cf := some (fileOf pool3 2 #[] #[] 1537 4 #[] #[])
  fields := #[]
  methods := #[]
  instanceTypes := #[]
  staticTypes := #[]
  resolved := Array.replicate 8 none
  statics := none }

def pool4 : Array CpInfo := pool [(1, u "java/io/Serializable"), (0, .class_ 1), (0, u "java/lang/Object"), (0, .class_ 3)] 3

/-- java/io/Serializable -/
def k4 : Class := { plain "java/io/Serializable" (some 0) with
  accessFlags := 1537
  interfaces := #[]
  cf := some (fileOf pool4 2 #[] #[] 1537 4 #[] #[])
  fields := #[]
  methods := #[]
  instanceTypes := #[]
  staticTypes := #[]
  resolved := Array.replicate 8 none
  statics := none }

/-- the primitive byte -/
def k5 : Class := { plain "byte" none with kind := .primitive 'B', accessFlags := 0x411 }
/-- [B -/
def k6 : Class := { plain "[B" (some 0) with kind := .array 5 .byte, interfaces := #[3, 4], accessFlags := 1041 }

/-- the primitive int -/
def k7 : Class := { plain "int" none with kind := .primitive 'I', accessFlags := 0x411 }
/-- [I -/
def k8 : Class := { plain "[I" (some 0) with kind := .array 7 .int, interfaces := #[3, 4], accessFlags := 1041 }

def heap : Heap := #[]
def classes : Array Class := #[k0, k1, k2, k3, k4, k5, k6, k7, k8]
def interned : List (Array UInt16 × Addr) := []
def slotsUsed : Nat := 0
def theMethod : MethodId := ⟨1, 2⟩
def args0 : Array Value := #[.int 2, .int 3, .int 4, .int 5, .int 6, .int 7]
def aboutOver (below : List Frame) : State where
  vm := { classes := classes, interned := interned.toArray }
  heap := heap
  slotsUsed := slotsUsed
  threads := #[{ frames := .invoking theMethod args0 :: below }]
def below0 : List Frame := [.native { method := ⟨0, 0⟩, args := #[] }]
def about1 : State := aboutOver below0
def p0 : Program := .bare "" "" ""
def e0 : Env := launch0.env 0 0 0
theorem w_frames : about1.frames = Frame.invoking theMethod args0 :: below0 := rfl
set_option maxRecDepth 65536 in
theorem w_args : argsFit about1.vm theMethod args0 = true := by decide +kernel
set_option maxRecDepth 65536 in
theorem w_heap : heapFits about1 = true := by decide +kernel
set_option maxRecDepth 65536 in
theorem w_runnable : about1.curStatus? = some .runnable := by decide +kernel
set_option maxRecDepth 65536 in
theorem w_alone : about1.alone = true := by decide +kernel
set_option maxRecDepth 65536 in
theorem w_named : about1.methodNamed? x = some theMethod := by decide +kernel
set_option maxRecDepth 65536 in
theorem w_hears : about1.hears theMethod below0 = true := by decide +kernel
set_option maxRecDepth 65536 in
theorem w_ripe : about1.ripe theMethod args0 below0 = true := by decide +kernel
theorem w_running : about1.status = .running := rfl
set_option maxRecDepth 65536 in
theorem w_room : about1.hasRoom e0.platform room_1 = true :=
  launch0.hasRoom_least _ room_1 (by decide +kernel) (by decide +kernel) (by decide +kernel) (by decide +kernel) (by decide +kernel) (by decide +kernel)
theorem allAtoms_all (ts : List Jvm.Cond) (a : Array Jvm.Value) (st : Jvm.State) : (allAtoms ts).before a st = ts.all (fun c => c.before a st) := by
  induction ts with
  | nil => rfl
  | cons c t ih =>
    show (Jvm.Cond.and c (allAtoms t)).before a st = _
    rw [Jvm.Cond.before_and, ih, List.all_cons]
def words1 : List Jvm.Cond := Jvm.Cond.code x code maxLocals ret :: tables_1
/-- a 'code' word, met by the world's own term for the bytes: nothing is compared byte by byte -/
theorem code_word {y : MethodName} {bytes : ByteArray} {mx : Nat} {rt : Option FieldType} {a : Array Value} {s : State} {m : MethodId} {meth : Method} {c : Code} (h1 : s.methodNamed? y = some m) (h2 : s.vm.method? m = some meth) (h3 : meth.code = some c) (h4 : c.code = bytes)
    (h5 : (c.maxLocals == mx && c.exceptionTable.isEmpty && decide (c.maxStack ≤ mostOperands) && decide (meth.sig.returnType = rt) && !meth.locks && decide (parseMethodDescriptor y.desc = some meth.sig)) = true) : (Jvm.Cond.code y bytes mx rt).before a s = true := by
  simp only [Bool.and_eq_true, beq_iff_eq, Bool.not_eq_true', decide_eq_true_eq] at h5
  obtain ⟨⟨⟨⟨⟨g1, g2⟩, g3⟩, g4⟩, g5⟩, g6⟩ := h5
  simp [Cond.before, Cond.holds, Cond.value, h1, h2, h3, h4, g1, g2, g3, g4, g5, g6]
def isCode : Jvm.Cond → Bool
  | .code _ _ _ _ => true
  | _ => false
theorem all_split {L : List Jvm.Cond} {P : Jvm.Cond → Bool} (h1 : L.all (fun c => isCode c || P c) = true) (h2 : ∀ c ∈ L.filter isCode, P c = true) : L.all P = true := by
  refine List.all_eq_true.mpr fun c hc => ?_
  have h := List.all_eq_true.mp h1 c hc
  rcases Bool.eq_false_or_eq_true (isCode c) with hi | hi
  · exact h2 c (List.mem_filter.mpr ⟨hc, hi⟩)
  · simpa [hi] using h
set_option maxRecDepth 65536 in
theorem w_c0 : (Jvm.Cond.code x code maxLocals ret).before args0 about1 = true := code_word (m := ⟨1, 2⟩) (meth := k1m2) (c := k1c2) (by decide +kernel) rfl rfl rfl (by decide +kernel)
set_option maxRecDepth 65536 in
theorem w_c1 : (Jvm.Cond.code ({ cls := "com/example/libhedge/libhedge/ChoicesNextPinLaw", name := "pick", desc := "(II)I" } : Jvm.MethodName) method_2_code (2 : Nat) (Option.some Jvm.ClassFile.FieldType.int)).before args0 about1 = true := code_word (m := ⟨1, 1⟩) (meth := k1m1) (c := k1c1) (by decide +kernel) rfl rfl rfl (by decide +kernel)
set_option maxRecDepth 65536 in
theorem w_c2 : (Jvm.Cond.code ({ cls := "com/example/libhedge/libhedge/Choices", name := "next", desc := "([I[I)Z" } : Jvm.MethodName) prog_18_method_3_code (3 : Nat) (Option.some Jvm.ClassFile.FieldType.boolean)).before args0 about1 = true := code_word (m := ⟨2, 1⟩) (meth := k2m1) (c := k2c1) (by decide +kernel) rfl rfl rfl (by decide +kernel)
def codes1 : List Jvm.Cond := [Jvm.Cond.code x code maxLocals ret, Jvm.Cond.code ({ cls := "com/example/libhedge/libhedge/ChoicesNextPinLaw", name := "pick", desc := "(II)I" } : Jvm.MethodName) method_2_code (2 : Nat) (Option.some Jvm.ClassFile.FieldType.int), Jvm.Cond.code ({ cls := "com/example/libhedge/libhedge/Choices", name := "next", desc := "([I[I)Z" } : Jvm.MethodName) prog_18_method_3_code (3 : Nat) (Option.some Jvm.ClassFile.FieldType.boolean)]
set_option maxRecDepth 65536 in
theorem codes_eq : words1.filter isCode = codes1 := rfl
theorem w_codes : ∀ c ∈ words1.filter isCode, c.before args0 about1 = true := by
  rw [codes_eq]
  intro c hc
  simp only [codes1, List.mem_cons, List.not_mem_nil, or_false] at hc
  rcases hc with rfl | rfl | rfl
  · exact w_c0
  · exact w_c1
  · exact w_c2
set_option maxRecDepth 65536 in
theorem w_t1 : words1.all (fun c => isCode c || c.before args0 about1) = true := by decide +kernel
theorem w_tables : (allAtoms (Jvm.Cond.code x code maxLocals ret :: tables_1)).before args0 about1 = true := by
  rw [allAtoms_all]
  show words1.all (fun c => c.before args0 about1) = true
  refine all_split ?_ w_codes
  rw [w_t1]
set_option maxRecDepth 65536 in
theorem w_case : (Jvm.Cond.and given_1 narrow_1).before args0 about1 = true := by decide +kernel
theorem w_applies : (headSpec (Jvm.Cond.code x code maxLocals ret :: tables_1) room_1).applies x e0.platform about1 = true :=
  (Spec.applies_iff w_frames).mpr ⟨w_running, w_runnable, w_alone, w_named, w_hears, w_ripe, w_room, w_tables⟩
theorem atStart : AtStart classFile x code maxLocals ret World_1 tables_1 room_1 Calls_1 rest_1 Pre_1 launch0 p0 e0 about1 theMethod args0 below0 :=
  ⟨lists_1, trivial, launch0.admits_env _ _ _, launch0.least_env, fairChoices_fair.cas, fairChoices_fair.clock, w_frames, w_args, w_heap, w_applies, trivial, trivial, w_case⟩
end start1
theorem witness_1 : WitnessClaimed_1 := ⟨start1.p0, start1.e0, start1.about1, start1.theMethod, start1.args0, start1.below0, start1.atStart⟩
end Jvm.Pilot.@@N@@
