import JvmDerived
import JvmDerived.Pilot.@@N@@Statement
import JvmDerived.Pilot.@@N@@Code
set_option linter.unusedVariables false
set_option linter.unusedSimpArgs false
namespace Jvm.Pilot.@@N@@
open Jvm Jvm.ClassFile Sem Op Lib Jvm.Free Jvm.Stand Jvm.LawKit Jvm.RoadKit Bundle Jvm.Pilot.@@N@@.Jvm.D
def own_Go (p : Program) (e : Env) (below : List Frame) (G : State → Outcome → Prop) (σ : State) : Prop := ∃ U o, Steps p.tables e below σ U ∧ U.status = .running ∧ Ended U below o ∧ G U o
theorem own_go {p : Program} {e : Env} {below : List Frame} {G : State → Outcome → Prop} {σ σ' : State} (h : ∀ t, Steps p.tables e below σ' t → Steps p.tables e below σ t) (k : own_Go p e below G σ') : own_Go p e below G σ := by
  obtain ⟨U, o, h1, h2⟩ := k
  exact ⟨U, o, h _ h1, h2⟩
def own_Post (s : State) (Q : Option Value → Heap → List Loc → Prop) (C S : Nat) (U : State) (o : Outcome) : Prop := ∃ v L, o = .returned v ∧ Q v U.heap L ∧ FrameEnd s o U L C S
theorem own_eqL {x y : Int64} (h : x = y) : ifCond.holds .eq (lcmpW x y) = true ∧ ifCond.holds .ne (lcmpW x y) = false := by
  have q := (lw_eq x y).mpr h
  exact ⟨(if0 _ _).trans (teq q).1, (if0 _ _).trans (teq q).2⟩
section OwnSteps
variable {p : Program} {l : Launch} {e : Env} {R : Room} {s : State} {m : MethodId} {args : Array Value} {below : List Frame} {meth : Method} {c : Code} {T : State} {locs : List Loc} {cells slots : Nat} {G : State → Outcome → Prop} {Ls : Array Slot} {rest : List Value} {pc : Nat}
theorem own_iloadN (X : Stand p l e R s m args below meth c T locs cells slots) (hx : p.tables.exec = Jvm.exec) {i : Fin 4} {v : Int32} (hd : decode c.code pc = .ok (.iload_n i, 1)) (hl : Ls[i.val]? = some (.val (.int v))) (pc' : Nat) (hp : pc + 1 = pc') (k : own_Go p e below G (T.setTop (mkF m pc' Ls (.int v :: rest)))) : own_Go p e below G (T.setTop (mkF m pc Ls (rest))) := by
  subst hp; exact own_go (fun t q => XS.iloadN X.here hx rfl hd hl q) k
theorem own_iload (X : Stand p l e R s m args below meth c T locs cells slots) (hx : p.tables.exec = Jvm.exec) {i : Nat} {v : Int32} (hd : decode c.code pc = .ok (.iload i, 2)) (hl : Ls[i]? = some (.val (.int v))) (pc' : Nat) (hp : pc + 2 = pc') (k : own_Go p e below G (T.setTop (mkF m pc' Ls (.int v :: rest)))) : own_Go p e below G (T.setTop (mkF m pc Ls (rest))) := by
  subst hp; exact own_go (fun t q => XS.iload X.here hx rfl hd hl q) k
theorem own_lloadN (X : Stand p l e R s m args below meth c T locs cells slots) (hx : p.tables.exec = Jvm.exec) {i : Fin 4} {v : Int64} (hd : decode c.code pc = .ok (.lload_n i, 1)) (hl : Ls[i.val]? = some (.val (.long v))) (pc' : Nat) (hp : pc + 1 = pc') (k : own_Go p e below G (T.setTop (mkF m pc' Ls (.long v :: rest)))) : own_Go p e below G (T.setTop (mkF m pc Ls (rest))) := by
  subst hp; exact own_go (fun t q => XS.lloadN X.here hx rfl hd hl q) k
theorem own_lload (X : Stand p l e R s m args below meth c T locs cells slots) (hx : p.tables.exec = Jvm.exec) {i : Nat} {v : Int64} (hd : decode c.code pc = .ok (.lload i, 2)) (hl : Ls[i]? = some (.val (.long v))) (pc' : Nat) (hp : pc + 2 = pc') (k : own_Go p e below G (T.setTop (mkF m pc' Ls (.long v :: rest)))) : own_Go p e below G (T.setTop (mkF m pc Ls (rest))) := by
  subst hp; exact own_go (fun t q => XS.lload X.here hx rfl hd hl q) k
theorem own_aloadN (X : Stand p l e R s m args below meth c T locs cells slots) (hx : p.tables.exec = Jvm.exec) {i : Fin 4} {v : Value} (hd : decode c.code pc = .ok (.aload_n i, 1)) (hl : Ls[i.val]? = some (.val v)) (hv : v.isRef = true) (pc' : Nat) (hp : pc + 1 = pc') (k : own_Go p e below G (T.setTop (mkF m pc' Ls (v :: rest)))) : own_Go p e below G (T.setTop (mkF m pc Ls (rest))) := by
  subst hp; exact own_go (fun t q => XS.aloadN X.here hx rfl hd hl hv q) k
theorem own_aload (X : Stand p l e R s m args below meth c T locs cells slots) (hx : p.tables.exec = Jvm.exec) {i : Nat} {v : Value} (hd : decode c.code pc = .ok (.aload i, 2)) (hl : Ls[i]? = some (.val v)) (hv : v.isRef = true) (pc' : Nat) (hp : pc + 2 = pc') (k : own_Go p e below G (T.setTop (mkF m pc' Ls (v :: rest)))) : own_Go p e below G (T.setTop (mkF m pc Ls (rest))) := by
  subst hp; exact own_go (fun t q => XS.aload X.here hx rfl hd hl hv q) k
theorem own_istore (X : Stand p l e R s m args below meth c T locs cells slots) (hx : p.tables.exec = Jvm.exec) {i : Nat} {v : Int32} (hd : decode c.code pc = .ok (.istore i, 2)) (l' : Array Slot) (hl : storeLocals Ls i (.int v) = some l') (pc' : Nat) (hp : pc + 2 = pc') (k : own_Go p e below G (T.setTop (mkF m pc' l' (rest)))) : own_Go p e below G (T.setTop (mkF m pc Ls (.int v :: rest))) := by
  subst hp; exact own_go (fun t q => XS.istore X.here hx rfl hd rfl hl q) k
theorem own_lstoreN (X : Stand p l e R s m args below meth c T locs cells slots) (hx : p.tables.exec = Jvm.exec) {i : Fin 4} {v : Int64} (hd : decode c.code pc = .ok (.lstore_n i, 1)) (l' : Array Slot) (hl : storeLocals Ls i.val (.long v) = some l') (pc' : Nat) (hp : pc + 1 = pc') (k : own_Go p e below G (T.setTop (mkF m pc' l' (rest)))) : own_Go p e below G (T.setTop (mkF m pc Ls (.long v :: rest))) := by
  subst hp; exact own_go (fun t q => XS.lstoreN X.here hx rfl hd rfl hl q) k
theorem own_lstore (X : Stand p l e R s m args below meth c T locs cells slots) (hx : p.tables.exec = Jvm.exec) {i : Nat} {v : Int64} (hd : decode c.code pc = .ok (.lstore i, 2)) (l' : Array Slot) (hl : storeLocals Ls i (.long v) = some l') (pc' : Nat) (hp : pc + 2 = pc') (k : own_Go p e below G (T.setTop (mkF m pc' l' (rest)))) : own_Go p e below G (T.setTop (mkF m pc Ls (.long v :: rest))) := by
  subst hp; exact own_go (fun t q => XS.lstore X.here hx rfl hd rfl hl q) k
theorem own_astoreN (X : Stand p l e R s m args below meth c T locs cells slots) (hx : p.tables.exec = Jvm.exec) {i : Fin 4} {v : Value} (hd : decode c.code pc = .ok (.astore_n i, 1)) (hv : v.isRef = true) (l' : Array Slot) (hl : storeLocals Ls i.val v = some l') (pc' : Nat) (hp : pc + 1 = pc') (k : own_Go p e below G (T.setTop (mkF m pc' l' (rest)))) : own_Go p e below G (T.setTop (mkF m pc Ls (v :: rest))) := by
  subst hp; exact own_go (fun t q => XS.astoreN X.here hx rfl hd rfl hv hl q) k
theorem own_astore (X : Stand p l e R s m args below meth c T locs cells slots) (hx : p.tables.exec = Jvm.exec) {i : Nat} {v : Value} (hd : decode c.code pc = .ok (.astore i, 2)) (hv : v.isRef = true) (l' : Array Slot) (hl : storeLocals Ls i v = some l') (pc' : Nat) (hp : pc + 2 = pc') (k : own_Go p e below G (T.setTop (mkF m pc' l' (rest)))) : own_Go p e below G (T.setTop (mkF m pc Ls (v :: rest))) := by
  subst hp; exact own_go (fun t q => XS.astore X.here hx rfl hd rfl hv hl q) k
theorem own_iinc (X : Stand p l e R s m args below meth c T locs cells slots) (hx : p.tables.exec = Jvm.exec) {i : Nat} {z : Int} {v : Int32} (hd : decode c.code pc = .ok (.iinc i z, 3)) (hl : Ls[i]? = some (.val (.int v))) (l' : Array Slot) (hl' : storeLocals Ls i (.int (v + Int32.ofInt z)) = some l') (pc' : Nat) (hp : pc + 3 = pc') (k : own_Go p e below G (T.setTop (mkF m pc' l' (rest)))) : own_Go p e below G (T.setTop (mkF m pc Ls (rest))) := by
  subst hp; exact own_go (fun t q => XS.iinc X.here hx rfl hd hl hl' q) k
theorem own_iconst (X : Stand p l e R s m args below meth c T locs cells slots) (hx : p.tables.exec = Jvm.exec) {i : Int} (hd : decode c.code pc = .ok (.iconst i, 1)) (v : Int32) (hv : v = Int32.ofInt i) (pc' : Nat) (hp : pc + 1 = pc') (k : own_Go p e below G (T.setTop (mkF m pc' Ls (.int v :: rest)))) : own_Go p e below G (T.setTop (mkF m pc Ls (rest))) := by
  subst hp; exact own_go (fun t q => XS.iconst X.here hx rfl hd (hv ▸ q)) k
theorem own_bipush (X : Stand p l e R s m args below meth c T locs cells slots) (hx : p.tables.exec = Jvm.exec) {i : Int} (hd : decode c.code pc = .ok (.bipush i, 2)) (v : Int32) (hv : v = (Int8.ofInt i).toInt32) (pc' : Nat) (hp : pc + 2 = pc') (k : own_Go p e below G (T.setTop (mkF m pc' Ls (.int v :: rest)))) : own_Go p e below G (T.setTop (mkF m pc Ls (rest))) := by
  subst hp; exact own_go (fun t q => XS.bipush X.here hx rfl hd (hv ▸ q)) k
theorem own_sipush (X : Stand p l e R s m args below meth c T locs cells slots) (hx : p.tables.exec = Jvm.exec) {i : Int} (hd : decode c.code pc = .ok (.sipush i, 3)) (v : Int32) (hv : v = (Int16.ofInt i).toInt32) (pc' : Nat) (hp : pc + 3 = pc') (k : own_Go p e below G (T.setTop (mkF m pc' Ls (.int v :: rest)))) : own_Go p e below G (T.setTop (mkF m pc Ls (rest))) := by
  subst hp; exact own_go (fun t q => XS.sipush X.here hx rfl hd (hv ▸ q)) k
theorem own_ldcInt (X : Stand p l e R s m args below meth c T locs cells slots) (hx : p.tables.exec = Jvm.exec) {own : String} {index : Nat} {v : Int32} (hown : s.vm.findClass own = some m.cls) (hc : (Cond.constant own index v).before args s = true) (hd : decode c.code pc = .ok (.ldc index, 2)) (pc' : Nat) (hp : pc + 2 = pc') (k : own_Go p e below G (T.setTop (mkF m pc' Ls (.int v :: rest)))) : own_Go p e below G (T.setTop (mkF m pc Ls rest)) := by
  subst hp; exact own_go (X.ldcInt hx hown hc (g := mkF m pc Ls rest) rfl hd) k
theorem own_ldc2Long (X : Stand p l e R s m args below meth c T locs cells slots) (hx : p.tables.exec = Jvm.exec) {own : String} {index : Nat} {v : Int64} (hown : s.vm.findClass own = some m.cls) (hc : (Cond.constantLong own index v).before args s = true) (hd : decode c.code pc = .ok (.ldc2_w index, 3)) (pc' : Nat) (hp : pc + 3 = pc') (k : own_Go p e below G (T.setTop (mkF m pc' Ls (.long v :: rest)))) : own_Go p e below G (T.setTop (mkF m pc Ls rest)) := by
  subst hp; exact own_go (X.ldc2Long hx hown hc (g := mkF m pc Ls rest) rfl hd) k
theorem own_iand (X : Stand p l e R s m args below meth c T locs cells slots) (hx : p.tables.exec = Jvm.exec) {x y : Int32} (hd : decode c.code pc = .ok (.iand, 1)) (pc' : Nat) (hp : pc + 1 = pc') (k : own_Go p e below G (T.setTop (mkF m pc' Ls (.int (x &&& y) :: rest)))) : own_Go p e below G (T.setTop (mkF m pc Ls (.int y :: .int x :: rest))) := by
  subst hp; exact own_go (fun t q => XS.iand X.here hx rfl hd rfl q) k
theorem own_lmul (X : Stand p l e R s m args below meth c T locs cells slots) (hx : p.tables.exec = Jvm.exec) {x y : Int64} (hd : decode c.code pc = .ok (.lmul, 1)) (pc' : Nat) (hp : pc + 1 = pc') (k : own_Go p e below G (T.setTop (mkF m pc' Ls (.long (x * y) :: rest)))) : own_Go p e below G (T.setTop (mkF m pc Ls (.long y :: .long x :: rest))) := by
  subst hp; exact own_go (fun t q => XS.lmul X.here hx rfl hd rfl q) k
theorem own_land (X : Stand p l e R s m args below meth c T locs cells slots) (hx : p.tables.exec = Jvm.exec) {x y : Int64} (hd : decode c.code pc = .ok (.land, 1)) (pc' : Nat) (hp : pc + 1 = pc') (k : own_Go p e below G (T.setTop (mkF m pc' Ls (.long (x &&& y) :: rest)))) : own_Go p e below G (T.setTop (mkF m pc Ls (.long y :: .long x :: rest))) := by
  subst hp; exact own_go (fun t q => XS.land X.here hx rfl hd rfl q) k
theorem own_lxor (X : Stand p l e R s m args below meth c T locs cells slots) (hx : p.tables.exec = Jvm.exec) {x y : Int64} (hd : decode c.code pc = .ok (.lxor, 1)) (pc' : Nat) (hp : pc + 1 = pc') (k : own_Go p e below G (T.setTop (mkF m pc' Ls (.long (x ^^^ y) :: rest)))) : own_Go p e below G (T.setTop (mkF m pc Ls (.long y :: .long x :: rest))) := by
  subst hp; exact own_go (fun t q => XS.lxor X.here hx rfl hd rfl q) k
theorem own_irem (X : Stand p l e R s m args below meth c T locs cells slots) (hx : p.tables.exec = Jvm.exec) {x y : Int32} (hd : decode c.code pc = .ok (.irem, 1)) (hy : y ≠ 0) (pc' : Nat) (hp : pc + 1 = pc') (k : own_Go p e below G (T.setTop (mkF m pc' Ls (.int (x % y) :: rest)))) : own_Go p e below G (T.setTop (mkF m pc Ls (.int y :: .int x :: rest))) := by
  subst hp; exact own_go (fun t q => iremM X hx rfl hd rfl hy q) k
theorem own_lushr (X : Stand p l e R s m args below meth c T locs cells slots) (hx : p.tables.exec = Jvm.exec) {x : Int64} {y : Int32} (hd : decode c.code pc = .ok (.lushr, 1)) (pc' : Nat) (hp : pc + 1 = pc') (k : own_Go p e below G (T.setTop (mkF m pc' Ls (.long ((x.toUInt64 >>> (y &&& 0x3f).toInt64.toUInt64).toInt64) :: rest)))) : own_Go p e below G (T.setTop (mkF m pc Ls (.int y :: .long x :: rest))) := by
  subst hp; exact own_go (fun t q => XS.lushr X.here hx rfl hd rfl q) k
theorem own_i2l (X : Stand p l e R s m args below meth c T locs cells slots) (hx : p.tables.exec = Jvm.exec) {x : Int32} (hd : decode c.code pc = .ok (.i2l, 1)) (pc' : Nat) (hp : pc + 1 = pc') (k : own_Go p e below G (T.setTop (mkF m pc' Ls (.long x.toInt64 :: rest)))) : own_Go p e below G (T.setTop (mkF m pc Ls (.int x :: rest))) := by
  subst hp; exact own_go (fun t q => XS.i2l X.here hx rfl hd rfl q) k
theorem own_i2b (X : Stand p l e R s m args below meth c T locs cells slots) (hx : p.tables.exec = Jvm.exec) {x : Int32} (hd : decode c.code pc = .ok (.i2b, 1)) (pc' : Nat) (hp : pc + 1 = pc') (k : own_Go p e below G (T.setTop (mkF m pc' Ls (.int x.toInt8.toInt32 :: rest)))) : own_Go p e below G (T.setTop (mkF m pc Ls (.int x :: rest))) := by
  subst hp; exact own_go (fun t q => XS.i2b X.here hx rfl hd rfl q) k
theorem own_lcmp (X : Stand p l e R s m args below meth c T locs cells slots) (hx : p.tables.exec = Jvm.exec) {x y : Int64} (hd : decode c.code pc = .ok (.lcmp, 1)) (pc' : Nat) (hp : pc + 1 = pc') (k : own_Go p e below G (T.setTop (mkF m pc' Ls (.int (lcmpW x y) :: rest)))) : own_Go p e below G (T.setTop (mkF m pc Ls (.long y :: .long x :: rest))) := by
  subst hp; exact own_go (fun t q => XS.lcmp X.here hx rfl hd rfl q) k
theorem own_goto (X : Stand p l e R s m args below meth c T locs cells slots) (hx : p.tables.exec = Jvm.exec) {o : Int} (hd : decode c.code pc = .ok (.goto o, 3)) (pc' : Nat) (hp : 0 ≤ (pc : Int) + o ∧ ((pc : Int) + o).toNat = pc') (k : own_Go p e below G (T.setTop (mkF m pc' Ls rest))) : own_Go p e below G (T.setTop (mkF m pc Ls rest)) :=
  own_go (fun t q => XS.goto X.here hx rfl (pc0 := pc) (pc' := pc') rfl hd hp.1 hp.2 q) k
theorem own_ifY (X : Stand p l e R s m args below meth c T locs cells slots) (hx : p.tables.exec = Jvm.exec) {o : Int} {cd : ClassFile.Cond} {x : Int32} (hd : decode c.code pc = .ok (.ifCond cd o, 3)) (hc : ifCond.holds cd x = true) (pc' : Nat) (hp : 0 ≤ (pc : Int) + o ∧ ((pc : Int) + o).toNat = pc') (k : own_Go p e below G (T.setTop (mkF m pc' Ls rest))) : own_Go p e below G (T.setTop (mkF m pc Ls (.int x :: rest))) :=
  own_go (fun t q => XS.ifYes X.here hx rfl (pc0 := pc) (pc' := pc') rfl hd rfl hc hp.1 hp.2 q) k
theorem own_ifN (X : Stand p l e R s m args below meth c T locs cells slots) (hx : p.tables.exec = Jvm.exec) {o : Int} {cd : ClassFile.Cond} {x : Int32} (hd : decode c.code pc = .ok (.ifCond cd o, 3)) (hc : ifCond.holds cd x = false) (pc' : Nat) (hp : pc + 3 = pc') (k : own_Go p e below G (T.setTop (mkF m pc' Ls (rest)))) : own_Go p e below G (T.setTop (mkF m pc Ls (.int x :: rest))) := by
  subst hp; exact own_go (fun t q => XS.ifNo X.here hx rfl hd rfl hc q) k
theorem own_icmpY (X : Stand p l e R s m args below meth c T locs cells slots) (hx : p.tables.exec = Jvm.exec) {o : Int} {cd : ClassFile.Cond} {x y : Int32} (hd : decode c.code pc = .ok (.if_icmp cd o, 3)) (hc : if_icmp.holds cd x y = true) (pc' : Nat) (hp : 0 ≤ (pc : Int) + o ∧ ((pc : Int) + o).toNat = pc') (k : own_Go p e below G (T.setTop (mkF m pc' Ls rest))) : own_Go p e below G (T.setTop (mkF m pc Ls (.int y :: .int x :: rest))) :=
  own_go (fun t q => XS.icmpYes X.here hx rfl (pc0 := pc) (pc' := pc') rfl hd rfl hc hp.1 hp.2 q) k
theorem own_icmpN (X : Stand p l e R s m args below meth c T locs cells slots) (hx : p.tables.exec = Jvm.exec) {o : Int} {cd : ClassFile.Cond} {x y : Int32} (hd : decode c.code pc = .ok (.if_icmp cd o, 3)) (hc : if_icmp.holds cd x y = false) (pc' : Nat) (hp : pc + 3 = pc') (k : own_Go p e below G (T.setTop (mkF m pc' Ls (rest)))) : own_Go p e below G (T.setTop (mkF m pc Ls (.int y :: .int x :: rest))) := by
  subst hp; exact own_go (fun t q => XS.icmpNo X.here hx rfl hd rfl hc q) k
theorem own_ret {f : JFrame} {Q : Option Value → Heap → List Loc → Prop} {C S : Nat} (X : Stand p l e R s m args below meth c T locs cells slots) (hlk : meth.locks = false) (hG : own_Post s Q C S = G) {v : Option Value} (hv : meth.sig.returnType = none → v = none)
    (st : ∀ fs, (∀ (f : JFrame) (acts : List Action), f.method = m → f.locked = none → f.entered = [] → (doReturn e (T.setTop f) acts v).1 = T.setFrames fs) → Steps p.tables e below (T.setTop f) (T.setFrames fs)) (hc : cells ≤ C) (hs : slots ≤ S) (hq : Q v T.heap locs) : own_Go p e below G (T.setTop f) := by
  subst hG
  obtain ⟨fs, hr, hrun, hended, hW, hsame⟩ := X.leave (v := v) hv hlk
  exact ⟨_, _, st fs hr, hrun, hended, _, _, rfl, hq, ⟨_, rfl⟩, hW, hsame.mono hc hs⟩
theorem own_nreturn {z : Int32} {ty : FieldType} {Q : Option Value → Heap → List Loc → Prop} {C S : Nat} (X : Stand p l e R s m args below meth c T locs cells slots) (hx : p.tables.exec = Jvm.exec) (hlk : meth.locks = false) (hG : own_Post s Q C S = G) (hret : meth.sig.returnType = some ty) (ht : ty = .boolean ∨ ty = .byte ∨ ty = .char ∨ ty = .short) (hd : decode c.code pc = .ok (.ireturn, 1)) (hc : cells ≤ C) (hs : slots ≤ S) (hq : Q (some (.int (nar ty z))) T.heap locs) : own_Go p e below G (T.setTop (mkF m pc Ls (.int z :: rest))) :=
  own_ret X hlk hG (fun h => by rw [hret] at h; cases h) (fun fs hr => retN X hx hret ht hd hr) hc hs hq
theorem own_lreturn {z : Int64} {Q : Option Value → Heap → List Loc → Prop} {C S : Nat} (X : Stand p l e R s m args below meth c T locs cells slots) (hx : p.tables.exec = Jvm.exec) (hlk : meth.locks = false) (hG : own_Post s Q C S = G) (hret : meth.sig.returnType = some .long) (hd : decode c.code pc = .ok (.lreturn, 1)) (hc : cells ≤ C) (hs : slots ≤ S) (hq : Q (some (.long z)) T.heap locs) : own_Go p e below G (T.setTop (mkF m pc Ls (.long z :: rest))) :=
  own_ret X hlk hG (fun h => by rw [hret] at h; cases h) (fun fs hr => retOut X hx hret rfl (Or.inr (Or.inl ⟨rfl, rfl, _, rfl⟩)) hd hr) hc hs hq
variable {Z : State} {a0 : Array Value} {h : Heap}
theorem own_callS {bytes : ByteArray} {maxL : Nat} {ret : Option FieldType} {rm : Room} {y : MethodName} {argsL : List Value} {Q : Option Value → Heap → List Loc → Prop} (X : Stand p l e R s m args below meth c T locs cells slots) (hx : p.tables.exec = Jvm.exec) (hZ : Z.Warmed39 s.vm) {own : String} {index : Nat} (hown : s.vm.findClass own = some m.cls) (w1 : (Cond.methodLink own index y).before a0 Z = true) (w2 : (Cond.static y).before a0 Z = true) (w3 : (Cond.initialized y.cls).before a0 Z = true) (w4 : (Cond.code y bytes maxL ret).before a0 Z = true) (hy : y.cls ≠ "java/lang/invoke/MethodHandle" ∧ y.cls ≠ "java/lang/invoke/VarHandle") (eT : T.heap = h)
    (hM : MetFree l y (head1 [Cond.code y bytes maxL ret] rm) (fun a U => a = argsL.toArray ∧ Z.Warmed39 U.vm ∧ U.heap = h) (fun _ _ _ _ _ => True) (fun _ U o U' => ∃ v L, o = .returned v ∧ Q v U'.heap L ∧ FrameEnd U o U' L rm.cells rm.slots))
    (hsize : Ls.size = c.maxLocals) {ps : List FieldType} {rt : Option FieldType} (hdesc : parseMethodDescriptor y.desc = some ⟨ps, rt⟩) (hlen : argsL.length = ps.length) {st : List Value} (hst : st = argsL.reverse ++ rest) (hd : decode c.code pc = .ok (.invokestatic index, 3)) (W : Nat) (hW : (rest.map fun v => v.category).sum ≤ W) (hf : rm.frames + 1 ≤ R.frames) (hl : W + (maxL + 11) + rm.locals ≤ R.locals) (hc : cells + rm.cells ≤ R.cells) (hs : slots + rm.slots ≤ R.slots) (pc' : Nat) (hp : pc + 3 = pc')
    (k : ∀ (T' : State) (L : List Loc) (v : Option Value), Stand p l e R s m args below meth c T' (locs ++ L) (cells + rm.cells) (slots + rm.slots) → Q v T'.heap L → own_Go p e below G (T'.setTop (mkF m pc' Ls (v.toList ++ rest)))) : own_Go p e below G (T.setTop (mkF m pc Ls st)) := by
  subst hp hst
  obtain ⟨v, _, ⟨T', L', k', n'⟩, -, X', ⟨Lc, hQ, l', y', z'⟩, st⟩ := Jvm.LawKit.callS X hx hown (mvT hZ w1) (mvT hZ w2) (mvT hZ w3) (mvT hZ w4) hy (backOf (W := W) hM hZ w4 w3 hf hl) (g := mkF m pc Ls (argsL.reverse ++ rest)) rfl hsize (argsL := argsL) (rest := rest) (lenOf hdesc hlen) rfl (by show 2 * 0 + _ ≤ W; rw [Nat.mul_zero, Nat.zero_add]; exact hW) hd (fun _ _ => ⟨rfl, eT, hc, hs⟩)
  dsimp only [Pt.U, Pt.locs, Pt.cells, Pt.slots] at X' l' y' z' st hQ
  subst l' y' z'
  exact own_go st (k T' Lc v X' hQ)
def own_A {α : Type} (ty : FieldType) (f : α → Value) (Z : State) (h : Heap) (a : Addr) (L : List α) : Prop := ∃ cl : Cell, Arr Z h a cl ty ∧ cl.slots = (L.map f).toArray ∧ L.length < 2147483648
section OwnArr
variable {α : Type} {ty : FieldType} {f : α → Value} {h' : Heap} {a b : Addr} {L : List α}
theorem own_A.lt (F : own_A ty f Z h a L) : a < h.size := by obtain ⟨cl, A, -⟩ := F; exact A.lt
theorem own_A.ext (F : own_A ty f Z h a L) (E : Ext h h') : own_A ty f Z h' a L := by obtain ⟨cl, A, r⟩ := F; exact ⟨cl, A.ext E, r⟩
theorem own_A.other {sl : Nat} {v : Value} (F : own_A ty f Z h b L) (W : Wr h h' a sl v) (q : b ≠ a) : own_A ty f Z h' b L := by obtain ⟨cl, A, r⟩ := F; exact ⟨cl, A.other W q, r⟩
theorem own_A.keep {ws : List Addr} (F : own_A ty f Z h a L) (K : Keep h h' ws) (q : a ∉ ws) : own_A ty f Z h' a L := by obtain ⟨cl, A, r⟩ := F; exact ⟨cl, ⟨K.2.1 a cl A.1 q, A.2⟩, r⟩
theorem own_A.len (F : own_A ty f Z h a L) : L.length < 2147483648 := by obtain ⟨cl, A, -, r⟩ := F; exact r
theorem own_A.set {i : Nat} {x : α} (F : own_A ty f Z h a L) (W : Wr h h' a i (f x)) : own_A ty f Z h' a (L.set i x) := by
  obtain ⟨cl, A, r, r'⟩ := F
  refine ⟨_, A.same W, ?_, by simpa using r'⟩
  show cl.slots.setIfInBounds i (f x) = _
  rw [r, List.map_set]; simp
theorem own_idx {j : Int32} {i n : Nat} (hj : j = Int32.ofNat i) (hi : i < n) (hn : n < 2147483648) : ¬ (j < 0 ∨ n ≤ j.toNatClampNeg) ∧ j.toNatClampNeg = i := by
  subst hj
  have q : (Int32.ofNat i).toInt = i := Int32.toInt_ofNat_of_lt (by omega)
  have q2 : (Int32.ofNat i).toNatClampNeg = i := by rw [Int32.toNatClampNeg, q]; rfl
  refine ⟨fun z => z.elim (fun z => ?_) fun z => by omega, q2⟩
  rw [Int32.lt_iff_toInt_lt, q, show (0 : Int32).toInt = 0 from rfl] at z; omega
theorem own_A.new {k : ClassId} {n : Int32} {d : α} (hd : f d = defaultValue ty) (A : Arr Z h a (newA k ty n) ty) (i : Nat) (hn : n = Int32.ofNat i) (hi : i < 2147483648) : own_A ty f Z h a (List.replicate i d) := by
  refine ⟨_, A, ?_, by simpa using hi⟩
  have q := (own_idx hn (Nat.lt_succ_self i) (n := i + 1))
  have q2 : n.toNatClampNeg = i := by
    subst hn
    rw [Int32.toNatClampNeg, Int32.toInt_ofNat_of_lt (by omega)]; rfl
  simp [newA, q2, hd]
end OwnArr
theorem own_baload (X : Stand p l e R s m args below meth c T locs cells slots) (hx : p.tables.exec = Jvm.exec) (hZ : Z.Warmed39 s.vm) (eT : T.heap = h) {a : Addr} {L : List Int32} (V : own_A .byte Value.int Z h a L) {j : Int32} (i : Nat) (hj : j = Int32.ofNat i) (v : Int32) (hv : L[i]? = some v) (hd : decode c.code pc = .ok (.baload, 1)) (pc' : Nat) (hp : pc + 1 = pc') (k : own_Go p e below G (T.setTop (mkF m pc' Ls (Value.int v :: rest)))) : own_Go p e below G (T.setTop (mkF m pc Ls (.int j :: .ref a :: rest))) := by
  subst hp
  obtain ⟨cl, A, r, r'⟩ := V
  have hi : i < L.length := (List.getElem?_eq_some_iff.mp hv).1
  obtain ⟨q1, q2⟩ := own_idx hj hi r'
  exact own_go (X.baloadBytes hx (j := j) (v := Value.int v) (by rw [eT]; exact A.1) (State.isArrayOf_alike hZ.alike A.2.1) A.2.2 (by rw [r]; simpa using q1) (by rw [r, q2]; simp [hv]) (g := mkF m pc Ls (.int j :: .ref a :: rest)) rfl rfl hd) k
theorem own_bastore (X : Stand p l e R s m args below meth c T locs cells slots) (hx : p.tables.exec = Jvm.exec) (hZ : Z.Warmed39 s.vm) (eT : T.heap = h) {a : Addr} {L : List Int32} (V : own_A .byte Value.int Z h a L) {j : Int32} {x : Int32} (i : Nat) (hj : j = Int32.ofNat i) (hi : i < L.length) (hd : decode c.code pc = .ok (.bastore, 1)) (pc' : Nat) (hp : pc + 1 = pc')
    (k : ∀ (T' : State) (h' : Heap), Stand p l e R s m args below meth c T' (locs ++ [⟨a, j.toNatClampNeg⟩]) cells slots → T'.heap = h' → Wr h h' a i (Value.int (x.toInt8.toInt32)) → own_A .byte Value.int Z h' a (L.set i (x.toInt8.toInt32)) → own_Go p e below G (T'.setTop (mkF m pc' Ls rest))) : own_Go p e below G (T.setTop (mkF m pc Ls (Value.int x :: .int j :: .ref a :: rest))) := by
  subst hp
  have V' := V
  obtain ⟨cl, A, r, r'⟩ := V'
  obtain ⟨q1, q2⟩ := own_idx hj hi r'
  obtain ⟨T', h', X', e', W, st⟩ := stB X hx hZ eT A (j := j) (x := x) (by rw [r]; simpa using q1) (g := mkF m pc Ls (Value.int x :: .int j :: .ref a :: rest)) rfl rfl hd
  rw [q2] at W
  exact own_go st (k T' h' X' e' W (V.set W))
theorem own_arraylength {α : Type} {ty : FieldType} {f : α → Value} {L : List α} (X : Stand p l e R s m args below meth c T locs cells slots) (hx : p.tables.exec = Jvm.exec) (hZ : Z.Warmed39 s.vm) (eT : T.heap = h) {a : Addr} (V : own_A ty f Z h a L) (hd : decode c.code pc = .ok (.arraylength, 1)) (pc' : Nat) (hp : pc + 1 = pc') (k : own_Go p e below G (T.setTop (mkF m pc' Ls (.int (Int32.ofNat L.length) :: rest)))) : own_Go p e below G (T.setTop (mkF m pc Ls (.ref a :: rest))) := by
  subst hp
  obtain ⟨cl, A, r, r'⟩ := V
  refine own_go (X.arraylength hx (cell := cl) (by rw [eT]; exact A.1) (State.isArrayOf_alike hZ.alike A.2.1) (g := mkF m pc Ls (.ref a :: rest)) rfl (rest := rest) rfl hd) ?_
  rw [show cl.slots.size.toInt32 = Int32.ofNat L.length by rw [r]; simp]
  exact k
theorem own_newB (X : Stand p l e R s m args below meth c T locs cells slots) (hx : p.tables.exec = Jvm.exec) (hZ : Z.Warmed39 s.vm) (w : (Cond.arrayClass .byte).before a0 Z = true) (eT : T.heap = h) {n : Int32} (hd : decode c.code pc = .ok (.newarray .byte, 2)) (i : Nat) (hn : n = Int32.ofNat i) (cap : Nat) (hcap : i ≤ cap) (hb : cap * 8 ≤ 536870912) (hc : cells + 1 ≤ R.cells) (hl : slots + cap ≤ R.slots) (pc' : Nat) (hp : pc + 2 = pc')
    (k : ∀ (T' : State) (h' : Heap) (a' : Addr), a' = h.size → Stand p l e R s m args below meth c T' locs (cells + 1) (slots + cap) → T'.heap = h' → Ext h h' → own_A .byte Value.int Z h' a' (List.replicate i (0 : Int32)) → own_Go p e below G (T'.setTop (mkF m pc' Ls (.ref a' :: rest)))) : own_Go p e below G (T.setTop (mkF m pc Ls (.int n :: rest))) := by
  subst hp
  have hi : i < 2147483648 := by omega
  obtain ⟨q1, q2⟩ := own_idx hn (Nat.lt_succ_self i) (n := i + 1) (by omega)
  obtain ⟨T', h', cA, X', e', E', A', st⟩ := newP X hx hZ (aty := .byte) w eT (g := mkF m pc Ls (.int n :: rest)) rfl hd (n := n) (rest := rest) rfl (fun z => q1 (Or.inl z)) (cap := cap) (by rw [q2]; exact hcap) hb hc hl
  exact own_go st (k T' h' _ rfl X' e' E' (own_A.new (f := Value.int) (d := 0) rfl A' i hn hi))
end OwnSteps
theorem own_w {Z : State} {a0 : Array Value} (hw : ∀ d ∈ tables_1, d.before a0 Z = true) (i : Nat) {d : Cond} (h : tables_1[i]? = some d) : d.before a0 Z = true := hw d (List.mem_of_getElem? h)
theorem own_isl {args : Array Value} {first s : State} {o : Option Outcome} {idx : List Nat} {t : Term} (h : (Cond.isLong t).value args first o s idx = some true) : ∃ x, t.eval args first o idx s = some (.long x) := isL_v h
theorem d1_0 : decode method_3_code 0 = .ok (.lload_n 0, 1) := by decide +kernel
theorem d1_1 : decode method_3_code 1 = .ok (.lstore_n 2, 1) := by decide +kernel
theorem d1_2 : decode method_3_code 2 = .ok (.lload_n 2, 1) := by decide +kernel
theorem d1_3 : decode method_3_code 3 = .ok (.lload_n 2, 1) := by decide +kernel
theorem d1_4 : decode method_3_code 4 = .ok (.bipush 33, 2) := by decide +kernel
theorem d1_6 : decode method_3_code 6 = .ok (.lushr, 1) := by decide +kernel
theorem d1_7 : decode method_3_code 7 = .ok (.lxor, 1) := by decide +kernel
theorem d1_8 : decode method_3_code 8 = .ok (.lstore_n 2, 1) := by decide +kernel
theorem d1_9 : decode method_3_code 9 = .ok (.lload_n 2, 1) := by decide +kernel
theorem d1_10 : decode method_3_code 10 = .ok (.ldc2_w 11, 3) := by decide +kernel
theorem d1_13 : decode method_3_code 13 = .ok (.lmul, 1) := by decide +kernel
theorem d1_14 : decode method_3_code 14 = .ok (.lstore_n 2, 1) := by decide +kernel
theorem d1_15 : decode method_3_code 15 = .ok (.lload_n 2, 1) := by decide +kernel
theorem d1_16 : decode method_3_code 16 = .ok (.lload_n 2, 1) := by decide +kernel
theorem d1_17 : decode method_3_code 17 = .ok (.bipush 33, 2) := by decide +kernel
theorem d1_19 : decode method_3_code 19 = .ok (.lushr, 1) := by decide +kernel
theorem d1_20 : decode method_3_code 20 = .ok (.lxor, 1) := by decide +kernel
theorem d1_21 : decode method_3_code 21 = .ok (.lstore_n 2, 1) := by decide +kernel
theorem d1_22 : decode method_3_code 22 = .ok (.lload_n 2, 1) := by decide +kernel
theorem d1_23 : decode method_3_code 23 = .ok (.ldc2_w 13, 3) := by decide +kernel
theorem d1_26 : decode method_3_code 26 = .ok (.lmul, 1) := by decide +kernel
theorem d1_27 : decode method_3_code 27 = .ok (.lstore_n 2, 1) := by decide +kernel
theorem d1_28 : decode method_3_code 28 = .ok (.lload_n 2, 1) := by decide +kernel
theorem d1_29 : decode method_3_code 29 = .ok (.lload_n 2, 1) := by decide +kernel
theorem d1_30 : decode method_3_code 30 = .ok (.bipush 33, 2) := by decide +kernel
theorem d1_32 : decode method_3_code 32 = .ok (.lushr, 1) := by decide +kernel
theorem d1_33 : decode method_3_code 33 = .ok (.lxor, 1) := by decide +kernel
theorem d1_34 : decode method_3_code 34 = .ok (.lstore_n 2, 1) := by decide +kernel
theorem d1_35 : decode method_3_code 35 = .ok (.lload_n 2, 1) := by decide +kernel
theorem d1_36 : decode method_3_code 36 = .ok (.lreturn, 1) := by decide +kernel
theorem d2_0 : decode prog_74_method_4_code 0 = .ok (.ldc2_w 36, 3) := by decide +kernel
theorem d2_3 : decode prog_74_method_4_code 3 = .ok (.lstore_n 1, 1) := by decide +kernel
theorem d2_4 : decode prog_74_method_4_code 4 = .ok (.aload_n 0, 1) := by decide +kernel
theorem d2_5 : decode prog_74_method_4_code 5 = .ok (.astore_n 3, 1) := by decide +kernel
theorem d2_6 : decode prog_74_method_4_code 6 = .ok (.aload_n 3, 1) := by decide +kernel
theorem d2_7 : decode prog_74_method_4_code 7 = .ok (.arraylength, 1) := by decide +kernel
theorem d2_8 : decode prog_74_method_4_code 8 = .ok (.istore 4, 2) := by decide +kernel
theorem d2_10 : decode prog_74_method_4_code 10 = .ok (.iconst 0, 1) := by decide +kernel
theorem d2_11 : decode prog_74_method_4_code 11 = .ok (.istore 5, 2) := by decide +kernel
theorem d2_13 : decode prog_74_method_4_code 13 = .ok (.iload 5, 2) := by decide +kernel
theorem d2_15 : decode prog_74_method_4_code 15 = .ok (.iload 4, 2) := by decide +kernel
theorem d2_17 : decode prog_74_method_4_code 17 = .ok (.if_icmp .ge 31, 3) := by decide +kernel
theorem d2_20 : decode prog_74_method_4_code 20 = .ok (.aload_n 3, 1) := by decide +kernel
theorem d2_21 : decode prog_74_method_4_code 21 = .ok (.iload 5, 2) := by decide +kernel
theorem d2_23 : decode prog_74_method_4_code 23 = .ok (.baload, 1) := by decide +kernel
theorem d2_24 : decode prog_74_method_4_code 24 = .ok (.istore 6, 2) := by decide +kernel
theorem d2_26 : decode prog_74_method_4_code 26 = .ok (.lload_n 1, 1) := by decide +kernel
theorem d2_27 : decode prog_74_method_4_code 27 = .ok (.iload 6, 2) := by decide +kernel
theorem d2_29 : decode prog_74_method_4_code 29 = .ok (.sipush 255, 3) := by decide +kernel
theorem d2_32 : decode prog_74_method_4_code 32 = .ok (.iand, 1) := by decide +kernel
theorem d2_33 : decode prog_74_method_4_code 33 = .ok (.i2l, 1) := by decide +kernel
theorem d2_34 : decode prog_74_method_4_code 34 = .ok (.lxor, 1) := by decide +kernel
theorem d2_35 : decode prog_74_method_4_code 35 = .ok (.lstore_n 1, 1) := by decide +kernel
theorem d2_36 : decode prog_74_method_4_code 36 = .ok (.lload_n 1, 1) := by decide +kernel
theorem d2_37 : decode prog_74_method_4_code 37 = .ok (.ldc2_w 38, 3) := by decide +kernel
theorem d2_40 : decode prog_74_method_4_code 40 = .ok (.lmul, 1) := by decide +kernel
theorem d2_41 : decode prog_74_method_4_code 41 = .ok (.lstore_n 1, 1) := by decide +kernel
theorem d2_42 : decode prog_74_method_4_code 42 = .ok (.iinc 5 1, 3) := by decide +kernel
theorem d2_45 : decode prog_74_method_4_code 45 = .ok (.goto (-32), 3) := by decide +kernel
theorem d2_48 : decode prog_74_method_4_code 48 = .ok (.lload_n 1, 1) := by decide +kernel
theorem d2_49 : decode prog_74_method_4_code 49 = .ok (.lload_n 1, 1) := by decide +kernel
theorem d2_50 : decode prog_74_method_4_code 50 = .ok (.bipush 33, 2) := by decide +kernel
theorem d2_52 : decode prog_74_method_4_code 52 = .ok (.lushr, 1) := by decide +kernel
theorem d2_53 : decode prog_74_method_4_code 53 = .ok (.lxor, 1) := by decide +kernel
theorem d2_54 : decode prog_74_method_4_code 54 = .ok (.lstore_n 1, 1) := by decide +kernel
theorem d2_55 : decode prog_74_method_4_code 55 = .ok (.lload_n 1, 1) := by decide +kernel
theorem d2_56 : decode prog_74_method_4_code 56 = .ok (.ldc2_w 40, 3) := by decide +kernel
theorem d2_59 : decode prog_74_method_4_code 59 = .ok (.lmul, 1) := by decide +kernel
theorem d2_60 : decode prog_74_method_4_code 60 = .ok (.lstore_n 1, 1) := by decide +kernel
theorem d2_61 : decode prog_74_method_4_code 61 = .ok (.lload_n 1, 1) := by decide +kernel
theorem d2_62 : decode prog_74_method_4_code 62 = .ok (.lload_n 1, 1) := by decide +kernel
theorem d2_63 : decode prog_74_method_4_code 63 = .ok (.bipush 33, 2) := by decide +kernel
theorem d2_65 : decode prog_74_method_4_code 65 = .ok (.lushr, 1) := by decide +kernel
theorem d2_66 : decode prog_74_method_4_code 66 = .ok (.lxor, 1) := by decide +kernel
theorem d2_67 : decode prog_74_method_4_code 67 = .ok (.lstore_n 1, 1) := by decide +kernel
theorem d2_68 : decode prog_74_method_4_code 68 = .ok (.lload_n 1, 1) := by decide +kernel
theorem d2_69 : decode prog_74_method_4_code 69 = .ok (.ldc2_w 42, 3) := by decide +kernel
theorem d2_72 : decode prog_74_method_4_code 72 = .ok (.lmul, 1) := by decide +kernel
theorem d2_73 : decode prog_74_method_4_code 73 = .ok (.lstore_n 1, 1) := by decide +kernel
theorem d2_74 : decode prog_74_method_4_code 74 = .ok (.lload_n 1, 1) := by decide +kernel
theorem d2_75 : decode prog_74_method_4_code 75 = .ok (.lload_n 1, 1) := by decide +kernel
theorem d2_76 : decode prog_74_method_4_code 76 = .ok (.bipush 33, 2) := by decide +kernel
theorem d2_78 : decode prog_74_method_4_code 78 = .ok (.lushr, 1) := by decide +kernel
theorem d2_79 : decode prog_74_method_4_code 79 = .ok (.lxor, 1) := by decide +kernel
theorem d2_80 : decode prog_74_method_4_code 80 = .ok (.lstore_n 1, 1) := by decide +kernel
theorem d2_81 : decode prog_74_method_4_code 81 = .ok (.lload_n 1, 1) := by decide +kernel
theorem d2_82 : decode prog_74_method_4_code 82 = .ok (.lreturn, 1) := by decide +kernel
theorem d3_0 : decode method_2_code 0 = .ok (.lload_n 0, 1) := by decide +kernel
theorem d3_1 : decode method_2_code 1 = .ok (.iload_n 2, 1) := by decide +kernel
theorem d3_2 : decode method_2_code 2 = .ok (.i2l, 1) := by decide +kernel
theorem d3_3 : decode method_2_code 3 = .ok (.ldc2_w 7, 3) := by decide +kernel
theorem d3_6 : decode method_2_code 6 = .ok (.land, 1) := by decide +kernel
theorem d3_7 : decode method_2_code 7 = .ok (.lxor, 1) := by decide +kernel
theorem d3_8 : decode method_2_code 8 = .ok (.lstore_n 3, 1) := by decide +kernel
theorem d3_9 : decode method_2_code 9 = .ok (.lload_n 3, 1) := by decide +kernel
theorem d3_10 : decode method_2_code 10 = .ok (.ldc2_w 9, 3) := by decide +kernel
theorem d3_13 : decode method_2_code 13 = .ok (.lmul, 1) := by decide +kernel
theorem d3_14 : decode method_2_code 14 = .ok (.lreturn, 1) := by decide +kernel
abbrev own_y3 : MethodName := ⟨"com/example/causeway/causeway/core/ShardMapHashPinLaw", "fnvStep", "(JB)J"⟩
abbrev own_y1 : MethodName := ⟨"com/example/causeway/causeway/core/ShardMapHashPinLaw", "fmix64", "(J)J"⟩
abbrev own_y2 : MethodName := ⟨"com/example/causeway/causeway/core/ShardMap", "hash", "([B)J"⟩
theorem pf_3 : plainFor own_y3 = true := by decide +kernel
theorem pf_1 : plainFor own_y1 = true := by decide +kernel
theorem pf_2 : plainFor own_y2 = true := by decide +kernel
theorem pn_0 : plainName "com/example/causeway/causeway/core/ShardMapHashPinLaw" = true := by first | (simp [plainName, overriddenIn]; done) | decide +kernel
theorem pd_0 : parseMethodDescriptor "(J)J" = some ⟨[.long], some .long⟩ := by decide +kernel
theorem pd_1 : parseMethodDescriptor "([B)J" = some ⟨[(.array .byte)], some .long⟩ := by decide +kernel
theorem pd_2 : parseMethodDescriptor "(JB)J" = some ⟨[.long, .byte], some .long⟩ := by decide +kernel
theorem own_and32 (x m : Int32) (k : Nat) (hm : m.toBitVec.toNat = 2 ^ k - 1) (hk : k < 32) : (x &&& m).toInt = ((x.toBitVec.toNat % 2 ^ k : Nat) : Int) := by
  have h : (x &&& m).toBitVec.toNat = x.toBitVec.toNat % 2 ^ k := by
    rw [Int32.toBitVec_and, BitVec.toNat_and, hm, Nat.and_two_pow_sub_one_eq_mod]
  have h2 : x.toBitVec.toNat % 2 ^ k < 2 ^ k := Nat.mod_lt _ (Nat.two_pow_pos k)
  have h3 : 2 ^ k ≤ 2 ^ 31 := Nat.pow_le_pow_right (by decide) (by omega)
  rw [← Int32.toInt_toBitVec, BitVec.toInt_eq_toNat_of_lt (by omega), h]
theorem own_and64 (x m : Int64) (k : Nat) (hm : m.toBitVec.toNat = 2 ^ k - 1) (hk : k < 64) : (x &&& m).toInt = ((x.toBitVec.toNat % 2 ^ k : Nat) : Int) := by
  have h : (x &&& m).toBitVec.toNat = x.toBitVec.toNat % 2 ^ k := by
    rw [Int64.toBitVec_and, BitVec.toNat_and, hm, Nat.and_two_pow_sub_one_eq_mod]
  have h2 : x.toBitVec.toNat % 2 ^ k < 2 ^ k := Nat.mod_lt _ (Nat.two_pow_pos k)
  have h3 : 2 ^ k ≤ 2 ^ 63 := Nat.pow_le_pow_right (by decide) (by omega)
  rw [← Int64.toInt_toBitVec, BitVec.toInt_eq_toNat_of_lt (by omega), h]
theorem own_toInt64 (x : Int64) : x.toInt = if 2 * x.toBitVec.toNat < 2 ^ 64 then (x.toBitVec.toNat : Int) else (x.toBitVec.toNat : Int) - 2 ^ 64 := by
  rw [← Int64.toInt_toBitVec, BitVec.toInt_eq_toNat_cond]; rfl
theorem own_toInt32 (x : Int32) : x.toInt = if 2 * x.toBitVec.toNat < 2 ^ 32 then (x.toBitVec.toNat : Int) else (x.toBitVec.toNat : Int) - 2 ^ 32 := by
  rw [← Int32.toInt_toBitVec, BitVec.toInt_eq_toNat_cond]; rfl
theorem own_b8 (b : Int32) : (b &&& (255 : Int32)).toInt64 = b.toInt64 &&& (255 : Int64) := by
  apply Int64.toInt_inj.mp
  rw [Int32.toInt_toInt64, own_and32 b 255 8 (by decide) (by decide), own_and64 _ 255 8 (by decide) (by decide)]
  have h1 := own_toInt64 b.toInt64
  have h2 := own_toInt32 b
  rw [Int32.toInt_toInt64] at h1
  have := b.toInt64.toBitVec.isLt
  have := b.toBitVec.isLt
  split at h1 <;> split at h2 <;> omega
theorem own_b {b y : Int32} (h : b.toInt8.toInt32 = y) : y.toInt8.toInt32 = y := by
  subst h; simp
def own_st (h : Int64) (b : Int32) : Int64 := (h ^^^ (b.toInt64 &&& 255)) * 1099511628211
def own_x33 (x : Int64) : Int64 := x ^^^ ((x).toUInt64 >>> ((33 : Int32) &&& 0x3f).toInt64.toUInt64).toInt64
def own_mix (h : Int64) : Int64 := own_x33 (own_x33 (own_x33 h * (-49064778989728563 : Int64)) * (-4265267296055464877 : Int64))
theorem own_mod5 (x : Int32) : (x &&& (2147483647 : Int32)) % (5 : Int32) = 0 ∨ (x &&& (2147483647 : Int32)) % (5 : Int32) = 1 ∨ (x &&& (2147483647 : Int32)) % (5 : Int32) = 2 ∨ (x &&& (2147483647 : Int32)) % (5 : Int32) = 3 ∨ (x &&& (2147483647 : Int32)) % (5 : Int32) = 4 := by
  have h := own_and32 x 2147483647 31 (by decide) (by decide)
  have q : ((x &&& (2147483647 : Int32)) % (5 : Int32)).toInt = ((x.toBitVec.toNat % 2 ^ 31 : Nat) : Int) % 5 := by
    rw [Int32.toInt_mod, h, show (5 : Int32).toInt = 5 from rfl, Int.tmod_eq_emod_of_nonneg (by omega)]
  have e : ∀ z : Int32, ((x &&& (2147483647 : Int32)) % (5 : Int32)).toInt = z.toInt → (x &&& (2147483647 : Int32)) % (5 : Int32) = z := fun z h => Int32.toInt_inj.mp h
  have q5 : ((x.toBitVec.toNat % 2 ^ 31 : Nat) : Int) % 5 = 0 ∨ ((x.toBitVec.toNat % 2 ^ 31 : Nat) : Int) % 5 = 1 ∨ ((x.toBitVec.toNat % 2 ^ 31 : Nat) : Int) % 5 = 2 ∨ ((x.toBitVec.toNat % 2 ^ 31 : Nat) : Int) % 5 = 3 ∨ ((x.toBitVec.toNat % 2 ^ 31 : Nat) : Int) % 5 = 4 := by omega
  rcases q5 with r | r | r | r | r
  · exact Or.inl (e 0 (q.trans r))
  · exact Or.inr (Or.inl (e 1 (q.trans r)))
  · exact Or.inr (Or.inr (Or.inl (e 2 (q.trans r))))
  · exact Or.inr (Or.inr (Or.inr (Or.inl (e 3 (q.trans r)))))
  · exact Or.inr (Or.inr (Or.inr (Or.inr (e 4 (q.trans r)))))

def Q1 (hh : Int64) (bb : Int32) (h0 : Heap) (n0 : Nat) (v : Option Value) (h : Heap) (L : List Loc) : Prop := v = some (.long (own_st hh bb)) ∧ Fr n0 L ∧ h = h0
theorem ef_rm1 (m : MethodId) (x0 : Int64) (x1 : Int32) : entryFrame m #[(.long x0), (.int x1)] 5 = mkF m 0 #[.val (.long x0), .second, .val (.int x1), .unset, .unset] [] := by first | (simp [entryFrame, mkF, argsToLocals, Value.category, maxLocals]; done) | rfl
set_option maxRecDepth 65536 in
set_option maxHeartbeats 40000000 in
theorem rm1 (l : Launch) (Z : State) (a0 : Array Value) (hw : ∀ d ∈ tables_1, d.before a0 Z = true) (ws : List Jvm.Cond) (hh : Int64) (bb : Int32) (h0 : Heap) (n0 : Nat)  :
    MetFree l own_y3 (head1 (Jvm.Cond.code own_y3 method_2_code 5 (some .long) :: ws) ({ frames := 0, cells := 0, slots := 0, locals := 0 } : Room)) (fun aR U => aR = #[(.long hh), (.int bb)] ∧ Z.Warmed39 U.vm ∧ U.heap = h0) (fun _ _ _ _ _ => True) (fun _ U o U' => ∃ v L, o = .returned v ∧ Q1 hh bb h0 n0 v U'.heap L ∧ FrameEnd U o U' L ({ frames := 0, cells := 0, slots := 0, locals := 0 } : Room).cells ({ frames := 0, cells := 0, slots := 0, locals := 0 } : Room).slots) := by
  refine MetFree.of_bodySF pf_3 hisR ?_
  intro p e s m args below meth c s₁ Bd hml0 hP hK
  obtain ⟨rfl, hZ, hhE⟩ := hP
  have hx := Bd.exec
  have hby := Bd.bytes
  have hml : c.maxLocals = 5 := hml0
  have hown : s.vm.findClass "com/example/causeway/causeway/core/ShardMapHashPinLaw" = some m.cls := findClass_of_methodNamed Bd.named
  have hnm := (name_of_methodNamed Bd.named Bd.method).1
  have X0 : Stand p l e ({ frames := 0, cells := 0, slots := 0, locals := 0 } : Room) s m #[(.long hh), (.int bb)] below meth c s₁ [] 0 0 := Stand.of_body Bd
  have e0 : s₁.heap = h0 := by rw [← hhE, Bd.state]; rfl
  have N0 := Fr.nil n0
  show own_Go p e below (own_Post s (Q1 hh bb h0 n0) ({ frames := 0, cells := 0, slots := 0, locals := 0 } : Room).cells ({ frames := 0, cells := 0, slots := 0, locals := 0 } : Room).slots) (s₁.setTop (entryFrame m #[(.long hh), (.int bb)] 5))
  rw [ef_rm1]
  generalize hG : own_Post s (Q1 hh bb h0 n0) ({ frames := 0, cells := 0, slots := 0, locals := 0 } : Room).cells ({ frames := 0, cells := 0, slots := 0, locals := 0 } : Room).slots = G
  refine own_lloadN X0 hx (hb hby d3_0) rfl 1 rfl ?_
  refine own_iloadN X0 hx (hb hby d3_1) rfl 2 rfl ?_
  refine own_i2l X0 hx (hb hby d3_2) 3 rfl ?_
  refine own_ldc2Long X0 hx hown (mvT hZ (own_w hw 19 rfl)) (hb hby d3_3) 6 rfl ?_
  refine own_land X0 hx (hb hby d3_6) 7 rfl ?_
  refine own_lxor X0 hx (hb hby d3_7) 8 rfl ?_
  refine own_lstoreN X0 hx (hb hby d3_8) #[.val (.long hh), .second, .val (.int bb), .val (.long (hh ^^^ ((bb).toInt64 &&& (255 : Int64)))), .second] rfl 9 rfl ?_
  refine own_lloadN X0 hx (hb hby d3_9) rfl 10 rfl ?_
  refine own_ldc2Long X0 hx hown (mvT hZ (own_w hw 20 rfl)) (hb hby d3_10) 13 rfl ?_
  refine own_lmul X0 hx (hb hby d3_13) 14 rfl ?_
  refine own_lreturn X0 hx Bd.notSynchronized hG Bd.returns (hb hby d3_14) (by decide) (by decide) ?_
  rw [e0]
  exact ⟨rfl, N0, rfl⟩
def Q2 (hh : Int64) (h0 : Heap) (n0 : Nat) (v : Option Value) (h : Heap) (L : List Loc) : Prop := v = some (.long (own_mix hh)) ∧ Fr n0 L ∧ h = h0
theorem ef_rm2 (m : MethodId) (x0 : Int64) : entryFrame m #[(.long x0)] 4 = mkF m 0 #[.val (.long x0), .second, .unset, .unset] [] := by first | (simp [entryFrame, mkF, argsToLocals, Value.category, maxLocals]; done) | rfl
set_option maxRecDepth 65536 in
set_option maxHeartbeats 40000000 in
theorem rm2 (l : Launch) (Z : State) (a0 : Array Value) (hw : ∀ d ∈ tables_1, d.before a0 Z = true) (ws : List Jvm.Cond) (hh : Int64) (h0 : Heap) (n0 : Nat)  :
    MetFree l own_y1 (head1 (Jvm.Cond.code own_y1 method_3_code 4 (some .long) :: ws) ({ frames := 0, cells := 0, slots := 0, locals := 0 } : Room)) (fun aR U => aR = #[(.long hh)] ∧ Z.Warmed39 U.vm ∧ U.heap = h0) (fun _ _ _ _ _ => True) (fun _ U o U' => ∃ v L, o = .returned v ∧ Q2 hh h0 n0 v U'.heap L ∧ FrameEnd U o U' L ({ frames := 0, cells := 0, slots := 0, locals := 0 } : Room).cells ({ frames := 0, cells := 0, slots := 0, locals := 0 } : Room).slots) := by
  refine MetFree.of_bodySF pf_1 hisR ?_
  intro p e s m args below meth c s₁ Bd hml0 hP hK
  obtain ⟨rfl, hZ, hhE⟩ := hP
  have hx := Bd.exec
  have hby := Bd.bytes
  have hml : c.maxLocals = 4 := hml0
  have hown : s.vm.findClass "com/example/causeway/causeway/core/ShardMapHashPinLaw" = some m.cls := findClass_of_methodNamed Bd.named
  have hnm := (name_of_methodNamed Bd.named Bd.method).1
  have X0 : Stand p l e ({ frames := 0, cells := 0, slots := 0, locals := 0 } : Room) s m #[(.long hh)] below meth c s₁ [] 0 0 := Stand.of_body Bd
  have e0 : s₁.heap = h0 := by rw [← hhE, Bd.state]; rfl
  have N0 := Fr.nil n0
  show own_Go p e below (own_Post s (Q2 hh h0 n0) ({ frames := 0, cells := 0, slots := 0, locals := 0 } : Room).cells ({ frames := 0, cells := 0, slots := 0, locals := 0 } : Room).slots) (s₁.setTop (entryFrame m #[(.long hh)] 4))
  rw [ef_rm2]
  generalize hG : own_Post s (Q2 hh h0 n0) ({ frames := 0, cells := 0, slots := 0, locals := 0 } : Room).cells ({ frames := 0, cells := 0, slots := 0, locals := 0 } : Room).slots = G
  refine own_lloadN X0 hx (hb hby d1_0) rfl 1 rfl ?_
  refine own_lstoreN X0 hx (hb hby d1_1) #[.val (.long hh), .second, .val (.long hh), .second] rfl 2 rfl ?_
  refine own_lloadN X0 hx (hb hby d1_2) rfl 3 rfl ?_
  refine own_lloadN X0 hx (hb hby d1_3) rfl 4 rfl ?_
  refine own_bipush X0 hx (hb hby d1_4) (33 : Int32) rfl 6 rfl ?_
  refine own_lushr X0 hx (hb hby d1_6) 7 rfl ?_
  refine own_lxor X0 hx (hb hby d1_7) 8 rfl ?_
  generalize hy1 : (hh ^^^ ((hh).toUInt64 >>> ((33 : Int32) &&& 0x3f).toInt64.toUInt64).toInt64) = y1
  refine own_lstoreN X0 hx (hb hby d1_8) #[.val (.long hh), .second, .val (.long y1), .second] rfl 9 rfl ?_
  refine own_lloadN X0 hx (hb hby d1_9) rfl 10 rfl ?_
  refine own_ldc2Long X0 hx hown (mvT hZ (own_w hw 7 rfl)) (hb hby d1_10) 13 rfl ?_
  refine own_lmul X0 hx (hb hby d1_13) 14 rfl ?_
  generalize hy2 : (y1 * (-49064778989728563 : Int64)) = y2
  refine own_lstoreN X0 hx (hb hby d1_14) #[.val (.long hh), .second, .val (.long y2), .second] rfl 15 rfl ?_
  refine own_lloadN X0 hx (hb hby d1_15) rfl 16 rfl ?_
  refine own_lloadN X0 hx (hb hby d1_16) rfl 17 rfl ?_
  refine own_bipush X0 hx (hb hby d1_17) (33 : Int32) rfl 19 rfl ?_
  refine own_lushr X0 hx (hb hby d1_19) 20 rfl ?_
  refine own_lxor X0 hx (hb hby d1_20) 21 rfl ?_
  generalize hy3 : (y2 ^^^ ((y2).toUInt64 >>> ((33 : Int32) &&& 0x3f).toInt64.toUInt64).toInt64) = y3
  refine own_lstoreN X0 hx (hb hby d1_21) #[.val (.long hh), .second, .val (.long y3), .second] rfl 22 rfl ?_
  refine own_lloadN X0 hx (hb hby d1_22) rfl 23 rfl ?_
  refine own_ldc2Long X0 hx hown (mvT hZ (own_w hw 8 rfl)) (hb hby d1_23) 26 rfl ?_
  refine own_lmul X0 hx (hb hby d1_26) 27 rfl ?_
  generalize hy4 : (y3 * (-4265267296055464877 : Int64)) = y4
  refine own_lstoreN X0 hx (hb hby d1_27) #[.val (.long hh), .second, .val (.long y4), .second] rfl 28 rfl ?_
  refine own_lloadN X0 hx (hb hby d1_28) rfl 29 rfl ?_
  refine own_lloadN X0 hx (hb hby d1_29) rfl 30 rfl ?_
  refine own_bipush X0 hx (hb hby d1_30) (33 : Int32) rfl 32 rfl ?_
  refine own_lushr X0 hx (hb hby d1_32) 33 rfl ?_
  refine own_lxor X0 hx (hb hby d1_33) 34 rfl ?_
  generalize hy5 : (y4 ^^^ ((y4).toUInt64 >>> ((33 : Int32) &&& 0x3f).toInt64.toUInt64).toInt64) = y5
  refine own_lstoreN X0 hx (hb hby d1_34) #[.val (.long hh), .second, .val (.long y5), .second] rfl 35 rfl ?_
  refine own_lloadN X0 hx (hb hby d1_35) rfl 36 rfl ?_
  refine own_lreturn X0 hx Bd.notSynchronized hG Bd.returns (hb hby d1_36) (by decide) (by decide) ?_
  rw [e0]
  exact ⟨by subst_vars; rfl, N0, rfl⟩
def QH0  (h0 : Heap) (n0 : Nat) (v : Option Value) (h : Heap) (L : List Loc) : Prop := v = some (.long (own_mix (-3750763034362895579 : Int64))) ∧ Fr n0 L ∧ h = h0
theorem ef_rmH0 (m : MethodId) (x0 : Addr) : entryFrame m #[(.ref x0)] 7 = mkF m 0 #[.val (.ref x0), .unset, .unset, .unset, .unset, .unset, .unset] [] := by first | (simp [entryFrame, mkF, argsToLocals, Value.category, maxLocals]; done) | rfl
set_option maxRecDepth 65536 in
set_option maxHeartbeats 40000000 in
theorem rmH0 (l : Launch) (Z : State) (a0 : Array Value) (hw : ∀ d ∈ tables_1, d.before a0 Z = true) (ws : List Jvm.Cond) (a : Addr)  (h0 : Heap) (n0 : Nat) (V0 : own_A .byte Value.int Z h0 a ([] : List Int32)) :
    MetFree l own_y2 (head1 (Jvm.Cond.code own_y2 prog_74_method_4_code 7 (some .long) :: ws) ({ frames := 0, cells := 0, slots := 0, locals := 0 } : Room)) (fun aR U => aR = #[(.ref a)] ∧ Z.Warmed39 U.vm ∧ U.heap = h0) (fun _ _ _ _ _ => True) (fun _ U o U' => ∃ v L, o = .returned v ∧ QH0  h0 n0 v U'.heap L ∧ FrameEnd U o U' L ({ frames := 0, cells := 0, slots := 0, locals := 0 } : Room).cells ({ frames := 0, cells := 0, slots := 0, locals := 0 } : Room).slots) := by
  refine MetFree.of_bodySF pf_2 hisR ?_
  intro p e s m args below meth c s₁ Bd hml0 hP hK
  obtain ⟨rfl, hZ, hhE⟩ := hP
  have hx := Bd.exec
  have hby := Bd.bytes
  have hml : c.maxLocals = 7 := hml0
  have hown : s.vm.findClass "com/example/causeway/causeway/core/ShardMap" = some m.cls := findClass_of_methodNamed Bd.named
  have hnm := (name_of_methodNamed Bd.named Bd.method).1
  have X0 : Stand p l e ({ frames := 0, cells := 0, slots := 0, locals := 0 } : Room) s m #[(.ref a)] below meth c s₁ [] 0 0 := Stand.of_body Bd
  have e0 : s₁.heap = h0 := by rw [← hhE, Bd.state]; rfl
  have N0 := Fr.nil n0
  show own_Go p e below (own_Post s (QH0  h0 n0) ({ frames := 0, cells := 0, slots := 0, locals := 0 } : Room).cells ({ frames := 0, cells := 0, slots := 0, locals := 0 } : Room).slots) (s₁.setTop (entryFrame m #[(.ref a)] 7))
  rw [ef_rmH0]
  generalize hG : own_Post s (QH0  h0 n0) ({ frames := 0, cells := 0, slots := 0, locals := 0 } : Room).cells ({ frames := 0, cells := 0, slots := 0, locals := 0 } : Room).slots = G
  refine own_ldc2Long X0 hx hown (mvT hZ (own_w hw 13 rfl)) (hb hby d2_0) 3 rfl ?_
  refine own_lstoreN X0 hx (hb hby d2_3) #[.val (.ref a), .val (.long (-3750763034362895579 : Int64)), .second, .unset, .unset, .unset, .unset] rfl 4 rfl ?_
  refine own_aloadN X0 hx (hb hby d2_4) rfl rfl 5 rfl ?_
  refine own_astoreN X0 hx (hb hby d2_5) rfl #[.val (.ref a), .val (.long (-3750763034362895579 : Int64)), .second, .val (.ref a), .unset, .unset, .unset] rfl 6 rfl ?_
  refine own_aloadN X0 hx (hb hby d2_6) rfl rfl 7 rfl ?_
  refine own_arraylength X0 hx hZ e0 V0 (hb hby d2_7) 8 rfl ?_
  rw [show Int32.ofNat (List.length ([] : List Int32)) = (0 : Int32) from rfl]
  refine own_istore X0 hx (hb hby d2_8) #[.val (.ref a), .val (.long (-3750763034362895579 : Int64)), .second, .val (.ref a), .val (.int (0 : Int32)), .unset, .unset] rfl 10 rfl ?_
  refine own_iconst X0 hx (hb hby d2_10) (0 : Int32) rfl 11 rfl ?_
  refine own_istore X0 hx (hb hby d2_11) #[.val (.ref a), .val (.long (-3750763034362895579 : Int64)), .second, .val (.ref a), .val (.int (0 : Int32)), .val (.int (0 : Int32)), .unset] rfl 13 rfl ?_
  refine own_iload X0 hx (hb hby d2_13) rfl 15 rfl ?_
  refine own_iload X0 hx (hb hby d2_15) rfl 17 rfl ?_
  refine own_icmpY X0 hx (hb hby d2_17) (flt (by decide)).2.1 48 ⟨by decide, by decide⟩ ?_
  refine own_lloadN X0 hx (hb hby d2_48) rfl 49 rfl ?_
  refine own_lloadN X0 hx (hb hby d2_49) rfl 50 rfl ?_
  refine own_bipush X0 hx (hb hby d2_50) (33 : Int32) rfl 52 rfl ?_
  refine own_lushr X0 hx (hb hby d2_52) 53 rfl ?_
  refine own_lxor X0 hx (hb hby d2_53) 54 rfl ?_
  generalize hy6 : ((-3750763034362895579 : Int64) ^^^ (((-3750763034362895579 : Int64)).toUInt64 >>> ((33 : Int32) &&& 0x3f).toInt64.toUInt64).toInt64) = y6
  refine own_lstoreN X0 hx (hb hby d2_54) #[.val (.ref a), .val (.long y6), .second, .val (.ref a), .val (.int (0 : Int32)), .val (.int (0 : Int32)), .unset] rfl 55 rfl ?_
  refine own_lloadN X0 hx (hb hby d2_55) rfl 56 rfl ?_
  refine own_ldc2Long X0 hx hown (mvT hZ (own_w hw 14 rfl)) (hb hby d2_56) 59 rfl ?_
  refine own_lmul X0 hx (hb hby d2_59) 60 rfl ?_
  generalize hy7 : (y6 * (-49064778989728563 : Int64)) = y7
  refine own_lstoreN X0 hx (hb hby d2_60) #[.val (.ref a), .val (.long y7), .second, .val (.ref a), .val (.int (0 : Int32)), .val (.int (0 : Int32)), .unset] rfl 61 rfl ?_
  refine own_lloadN X0 hx (hb hby d2_61) rfl 62 rfl ?_
  refine own_lloadN X0 hx (hb hby d2_62) rfl 63 rfl ?_
  refine own_bipush X0 hx (hb hby d2_63) (33 : Int32) rfl 65 rfl ?_
  refine own_lushr X0 hx (hb hby d2_65) 66 rfl ?_
  refine own_lxor X0 hx (hb hby d2_66) 67 rfl ?_
  generalize hy8 : (y7 ^^^ ((y7).toUInt64 >>> ((33 : Int32) &&& 0x3f).toInt64.toUInt64).toInt64) = y8
  refine own_lstoreN X0 hx (hb hby d2_67) #[.val (.ref a), .val (.long y8), .second, .val (.ref a), .val (.int (0 : Int32)), .val (.int (0 : Int32)), .unset] rfl 68 rfl ?_
  refine own_lloadN X0 hx (hb hby d2_68) rfl 69 rfl ?_
  refine own_ldc2Long X0 hx hown (mvT hZ (own_w hw 15 rfl)) (hb hby d2_69) 72 rfl ?_
  refine own_lmul X0 hx (hb hby d2_72) 73 rfl ?_
  generalize hy9 : (y8 * (-4265267296055464877 : Int64)) = y9
  refine own_lstoreN X0 hx (hb hby d2_73) #[.val (.ref a), .val (.long y9), .second, .val (.ref a), .val (.int (0 : Int32)), .val (.int (0 : Int32)), .unset] rfl 74 rfl ?_
  refine own_lloadN X0 hx (hb hby d2_74) rfl 75 rfl ?_
  refine own_lloadN X0 hx (hb hby d2_75) rfl 76 rfl ?_
  refine own_bipush X0 hx (hb hby d2_76) (33 : Int32) rfl 78 rfl ?_
  refine own_lushr X0 hx (hb hby d2_78) 79 rfl ?_
  refine own_lxor X0 hx (hb hby d2_79) 80 rfl ?_
  generalize hy10 : (y9 ^^^ ((y9).toUInt64 >>> ((33 : Int32) &&& 0x3f).toInt64.toUInt64).toInt64) = y10
  refine own_lstoreN X0 hx (hb hby d2_80) #[.val (.ref a), .val (.long y10), .second, .val (.ref a), .val (.int (0 : Int32)), .val (.int (0 : Int32)), .unset] rfl 81 rfl ?_
  refine own_lloadN X0 hx (hb hby d2_81) rfl 82 rfl ?_
  refine own_lreturn X0 hx Bd.notSynchronized hG Bd.returns (hb hby d2_82) (by decide) (by decide) ?_
  rw [e0]
  exact ⟨by subst_vars; (try simp only [own_b8]); rfl, N0, rfl⟩
def QH1 (b0 : Int32) (h0 : Heap) (n0 : Nat) (v : Option Value) (h : Heap) (L : List Loc) : Prop := v = some (.long (own_mix (own_st (-3750763034362895579 : Int64) b0))) ∧ Fr n0 L ∧ h = h0
theorem ef_rmH1 (m : MethodId) (x0 : Addr) : entryFrame m #[(.ref x0)] 7 = mkF m 0 #[.val (.ref x0), .unset, .unset, .unset, .unset, .unset, .unset] [] := by first | (simp [entryFrame, mkF, argsToLocals, Value.category, maxLocals]; done) | rfl
set_option maxRecDepth 65536 in
set_option maxHeartbeats 40000000 in
theorem rmH1 (l : Launch) (Z : State) (a0 : Array Value) (hw : ∀ d ∈ tables_1, d.before a0 Z = true) (ws : List Jvm.Cond) (a : Addr) (b0 : Int32) (h0 : Heap) (n0 : Nat) (V0 : own_A .byte Value.int Z h0 a [b0]) :
    MetFree l own_y2 (head1 (Jvm.Cond.code own_y2 prog_74_method_4_code 7 (some .long) :: ws) ({ frames := 0, cells := 0, slots := 0, locals := 0 } : Room)) (fun aR U => aR = #[(.ref a)] ∧ Z.Warmed39 U.vm ∧ U.heap = h0) (fun _ _ _ _ _ => True) (fun _ U o U' => ∃ v L, o = .returned v ∧ QH1 b0 h0 n0 v U'.heap L ∧ FrameEnd U o U' L ({ frames := 0, cells := 0, slots := 0, locals := 0 } : Room).cells ({ frames := 0, cells := 0, slots := 0, locals := 0 } : Room).slots) := by
  refine MetFree.of_bodySF pf_2 hisR ?_
  intro p e s m args below meth c s₁ Bd hml0 hP hK
  obtain ⟨rfl, hZ, hhE⟩ := hP
  have hx := Bd.exec
  have hby := Bd.bytes
  have hml : c.maxLocals = 7 := hml0
  have hown : s.vm.findClass "com/example/causeway/causeway/core/ShardMap" = some m.cls := findClass_of_methodNamed Bd.named
  have hnm := (name_of_methodNamed Bd.named Bd.method).1
  have X0 : Stand p l e ({ frames := 0, cells := 0, slots := 0, locals := 0 } : Room) s m #[(.ref a)] below meth c s₁ [] 0 0 := Stand.of_body Bd
  have e0 : s₁.heap = h0 := by rw [← hhE, Bd.state]; rfl
  have N0 := Fr.nil n0
  show own_Go p e below (own_Post s (QH1 b0 h0 n0) ({ frames := 0, cells := 0, slots := 0, locals := 0 } : Room).cells ({ frames := 0, cells := 0, slots := 0, locals := 0 } : Room).slots) (s₁.setTop (entryFrame m #[(.ref a)] 7))
  rw [ef_rmH1]
  generalize hG : own_Post s (QH1 b0 h0 n0) ({ frames := 0, cells := 0, slots := 0, locals := 0 } : Room).cells ({ frames := 0, cells := 0, slots := 0, locals := 0 } : Room).slots = G
  refine own_ldc2Long X0 hx hown (mvT hZ (own_w hw 13 rfl)) (hb hby d2_0) 3 rfl ?_
  refine own_lstoreN X0 hx (hb hby d2_3) #[.val (.ref a), .val (.long (-3750763034362895579 : Int64)), .second, .unset, .unset, .unset, .unset] rfl 4 rfl ?_
  refine own_aloadN X0 hx (hb hby d2_4) rfl rfl 5 rfl ?_
  refine own_astoreN X0 hx (hb hby d2_5) rfl #[.val (.ref a), .val (.long (-3750763034362895579 : Int64)), .second, .val (.ref a), .unset, .unset, .unset] rfl 6 rfl ?_
  refine own_aloadN X0 hx (hb hby d2_6) rfl rfl 7 rfl ?_
  refine own_arraylength X0 hx hZ e0 V0 (hb hby d2_7) 8 rfl ?_
  rw [show Int32.ofNat (List.length [b0]) = (1 : Int32) from rfl]
  refine own_istore X0 hx (hb hby d2_8) #[.val (.ref a), .val (.long (-3750763034362895579 : Int64)), .second, .val (.ref a), .val (.int (1 : Int32)), .unset, .unset] rfl 10 rfl ?_
  refine own_iconst X0 hx (hb hby d2_10) (0 : Int32) rfl 11 rfl ?_
  refine own_istore X0 hx (hb hby d2_11) #[.val (.ref a), .val (.long (-3750763034362895579 : Int64)), .second, .val (.ref a), .val (.int (1 : Int32)), .val (.int (0 : Int32)), .unset] rfl 13 rfl ?_
  refine own_iload X0 hx (hb hby d2_13) rfl 15 rfl ?_
  refine own_iload X0 hx (hb hby d2_15) rfl 17 rfl ?_
  refine own_icmpN X0 hx (hb hby d2_17) (tlt (by decide)).2.1 20 rfl ?_
  refine own_aloadN X0 hx (hb hby d2_20) rfl rfl 21 rfl ?_
  refine own_iload X0 hx (hb hby d2_21) rfl 23 rfl ?_
  refine own_baload X0 hx hZ e0 V0 0 rfl b0 rfl (hb hby d2_23) 24 rfl ?_
  refine own_istore X0 hx (hb hby d2_24) #[.val (.ref a), .val (.long (-3750763034362895579 : Int64)), .second, .val (.ref a), .val (.int (1 : Int32)), .val (.int (0 : Int32)), .val (.int b0)] rfl 26 rfl ?_
  refine own_lloadN X0 hx (hb hby d2_26) rfl 27 rfl ?_
  refine own_iload X0 hx (hb hby d2_27) rfl 29 rfl ?_
  refine own_sipush X0 hx (hb hby d2_29) (255 : Int32) rfl 32 rfl ?_
  refine own_iand X0 hx (hb hby d2_32) 33 rfl ?_
  refine own_i2l X0 hx (hb hby d2_33) 34 rfl ?_
  refine own_lxor X0 hx (hb hby d2_34) 35 rfl ?_
  generalize hy11 : ((-3750763034362895579 : Int64) ^^^ ((b0 &&& (255 : Int32))).toInt64) = y11
  refine own_lstoreN X0 hx (hb hby d2_35) #[.val (.ref a), .val (.long y11), .second, .val (.ref a), .val (.int (1 : Int32)), .val (.int (0 : Int32)), .val (.int b0)] rfl 36 rfl ?_
  refine own_lloadN X0 hx (hb hby d2_36) rfl 37 rfl ?_
  refine own_ldc2Long X0 hx hown (mvT hZ (own_w hw 21 rfl)) (hb hby d2_37) 40 rfl ?_
  refine own_lmul X0 hx (hb hby d2_40) 41 rfl ?_
  generalize hy12 : (y11 * (1099511628211 : Int64)) = y12
  refine own_lstoreN X0 hx (hb hby d2_41) #[.val (.ref a), .val (.long y12), .second, .val (.ref a), .val (.int (1 : Int32)), .val (.int (0 : Int32)), .val (.int b0)] rfl 42 rfl ?_
  refine own_iinc X0 hx (hb hby d2_42) rfl #[.val (.ref a), .val (.long y12), .second, .val (.ref a), .val (.int (1 : Int32)), .val (.int (1 : Int32)), .val (.int b0)] rfl 45 rfl ?_
  refine own_goto X0 hx (hb hby d2_45) 13 ⟨by decide, by decide⟩ ?_
  refine own_iload X0 hx (hb hby d2_13) rfl 15 rfl ?_
  refine own_iload X0 hx (hb hby d2_15) rfl 17 rfl ?_
  refine own_icmpY X0 hx (hb hby d2_17) (flt (by decide)).2.1 48 ⟨by decide, by decide⟩ ?_
  refine own_lloadN X0 hx (hb hby d2_48) rfl 49 rfl ?_
  refine own_lloadN X0 hx (hb hby d2_49) rfl 50 rfl ?_
  refine own_bipush X0 hx (hb hby d2_50) (33 : Int32) rfl 52 rfl ?_
  refine own_lushr X0 hx (hb hby d2_52) 53 rfl ?_
  refine own_lxor X0 hx (hb hby d2_53) 54 rfl ?_
  generalize hy13 : (y12 ^^^ ((y12).toUInt64 >>> ((33 : Int32) &&& 0x3f).toInt64.toUInt64).toInt64) = y13
  refine own_lstoreN X0 hx (hb hby d2_54) #[.val (.ref a), .val (.long y13), .second, .val (.ref a), .val (.int (1 : Int32)), .val (.int (1 : Int32)), .val (.int b0)] rfl 55 rfl ?_
  refine own_lloadN X0 hx (hb hby d2_55) rfl 56 rfl ?_
  refine own_ldc2Long X0 hx hown (mvT hZ (own_w hw 14 rfl)) (hb hby d2_56) 59 rfl ?_
  refine own_lmul X0 hx (hb hby d2_59) 60 rfl ?_
  generalize hy14 : (y13 * (-49064778989728563 : Int64)) = y14
  refine own_lstoreN X0 hx (hb hby d2_60) #[.val (.ref a), .val (.long y14), .second, .val (.ref a), .val (.int (1 : Int32)), .val (.int (1 : Int32)), .val (.int b0)] rfl 61 rfl ?_
  refine own_lloadN X0 hx (hb hby d2_61) rfl 62 rfl ?_
  refine own_lloadN X0 hx (hb hby d2_62) rfl 63 rfl ?_
  refine own_bipush X0 hx (hb hby d2_63) (33 : Int32) rfl 65 rfl ?_
  refine own_lushr X0 hx (hb hby d2_65) 66 rfl ?_
  refine own_lxor X0 hx (hb hby d2_66) 67 rfl ?_
  generalize hy15 : (y14 ^^^ ((y14).toUInt64 >>> ((33 : Int32) &&& 0x3f).toInt64.toUInt64).toInt64) = y15
  refine own_lstoreN X0 hx (hb hby d2_67) #[.val (.ref a), .val (.long y15), .second, .val (.ref a), .val (.int (1 : Int32)), .val (.int (1 : Int32)), .val (.int b0)] rfl 68 rfl ?_
  refine own_lloadN X0 hx (hb hby d2_68) rfl 69 rfl ?_
  refine own_ldc2Long X0 hx hown (mvT hZ (own_w hw 15 rfl)) (hb hby d2_69) 72 rfl ?_
  refine own_lmul X0 hx (hb hby d2_72) 73 rfl ?_
  generalize hy16 : (y15 * (-4265267296055464877 : Int64)) = y16
  refine own_lstoreN X0 hx (hb hby d2_73) #[.val (.ref a), .val (.long y16), .second, .val (.ref a), .val (.int (1 : Int32)), .val (.int (1 : Int32)), .val (.int b0)] rfl 74 rfl ?_
  refine own_lloadN X0 hx (hb hby d2_74) rfl 75 rfl ?_
  refine own_lloadN X0 hx (hb hby d2_75) rfl 76 rfl ?_
  refine own_bipush X0 hx (hb hby d2_76) (33 : Int32) rfl 78 rfl ?_
  refine own_lushr X0 hx (hb hby d2_78) 79 rfl ?_
  refine own_lxor X0 hx (hb hby d2_79) 80 rfl ?_
  generalize hy17 : (y16 ^^^ ((y16).toUInt64 >>> ((33 : Int32) &&& 0x3f).toInt64.toUInt64).toInt64) = y17
  refine own_lstoreN X0 hx (hb hby d2_80) #[.val (.ref a), .val (.long y17), .second, .val (.ref a), .val (.int (1 : Int32)), .val (.int (1 : Int32)), .val (.int b0)] rfl 81 rfl ?_
  refine own_lloadN X0 hx (hb hby d2_81) rfl 82 rfl ?_
  refine own_lreturn X0 hx Bd.notSynchronized hG Bd.returns (hb hby d2_82) (by decide) (by decide) ?_
  rw [e0]
  exact ⟨by subst_vars; (try simp only [own_b8]); rfl, N0, rfl⟩
def QH2 (b0 b1 : Int32) (h0 : Heap) (n0 : Nat) (v : Option Value) (h : Heap) (L : List Loc) : Prop := v = some (.long (own_mix (own_st (own_st (-3750763034362895579 : Int64) b0) b1))) ∧ Fr n0 L ∧ h = h0
theorem ef_rmH2 (m : MethodId) (x0 : Addr) : entryFrame m #[(.ref x0)] 7 = mkF m 0 #[.val (.ref x0), .unset, .unset, .unset, .unset, .unset, .unset] [] := by first | (simp [entryFrame, mkF, argsToLocals, Value.category, maxLocals]; done) | rfl
set_option maxRecDepth 65536 in
set_option maxHeartbeats 40000000 in
theorem rmH2 (l : Launch) (Z : State) (a0 : Array Value) (hw : ∀ d ∈ tables_1, d.before a0 Z = true) (ws : List Jvm.Cond) (a : Addr) (b0 b1 : Int32) (h0 : Heap) (n0 : Nat) (V0 : own_A .byte Value.int Z h0 a [b0, b1]) :
    MetFree l own_y2 (head1 (Jvm.Cond.code own_y2 prog_74_method_4_code 7 (some .long) :: ws) ({ frames := 0, cells := 0, slots := 0, locals := 0 } : Room)) (fun aR U => aR = #[(.ref a)] ∧ Z.Warmed39 U.vm ∧ U.heap = h0) (fun _ _ _ _ _ => True) (fun _ U o U' => ∃ v L, o = .returned v ∧ QH2 b0 b1 h0 n0 v U'.heap L ∧ FrameEnd U o U' L ({ frames := 0, cells := 0, slots := 0, locals := 0 } : Room).cells ({ frames := 0, cells := 0, slots := 0, locals := 0 } : Room).slots) := by
  refine MetFree.of_bodySF pf_2 hisR ?_
  intro p e s m args below meth c s₁ Bd hml0 hP hK
  obtain ⟨rfl, hZ, hhE⟩ := hP
  have hx := Bd.exec
  have hby := Bd.bytes
  have hml : c.maxLocals = 7 := hml0
  have hown : s.vm.findClass "com/example/causeway/causeway/core/ShardMap" = some m.cls := findClass_of_methodNamed Bd.named
  have hnm := (name_of_methodNamed Bd.named Bd.method).1
  have X0 : Stand p l e ({ frames := 0, cells := 0, slots := 0, locals := 0 } : Room) s m #[(.ref a)] below meth c s₁ [] 0 0 := Stand.of_body Bd
  have e0 : s₁.heap = h0 := by rw [← hhE, Bd.state]; rfl
  have N0 := Fr.nil n0
  show own_Go p e below (own_Post s (QH2 b0 b1 h0 n0) ({ frames := 0, cells := 0, slots := 0, locals := 0 } : Room).cells ({ frames := 0, cells := 0, slots := 0, locals := 0 } : Room).slots) (s₁.setTop (entryFrame m #[(.ref a)] 7))
  rw [ef_rmH2]
  generalize hG : own_Post s (QH2 b0 b1 h0 n0) ({ frames := 0, cells := 0, slots := 0, locals := 0 } : Room).cells ({ frames := 0, cells := 0, slots := 0, locals := 0 } : Room).slots = G
  refine own_ldc2Long X0 hx hown (mvT hZ (own_w hw 13 rfl)) (hb hby d2_0) 3 rfl ?_
  refine own_lstoreN X0 hx (hb hby d2_3) #[.val (.ref a), .val (.long (-3750763034362895579 : Int64)), .second, .unset, .unset, .unset, .unset] rfl 4 rfl ?_
  refine own_aloadN X0 hx (hb hby d2_4) rfl rfl 5 rfl ?_
  refine own_astoreN X0 hx (hb hby d2_5) rfl #[.val (.ref a), .val (.long (-3750763034362895579 : Int64)), .second, .val (.ref a), .unset, .unset, .unset] rfl 6 rfl ?_
  refine own_aloadN X0 hx (hb hby d2_6) rfl rfl 7 rfl ?_
  refine own_arraylength X0 hx hZ e0 V0 (hb hby d2_7) 8 rfl ?_
  rw [show Int32.ofNat (List.length [b0, b1]) = (2 : Int32) from rfl]
  refine own_istore X0 hx (hb hby d2_8) #[.val (.ref a), .val (.long (-3750763034362895579 : Int64)), .second, .val (.ref a), .val (.int (2 : Int32)), .unset, .unset] rfl 10 rfl ?_
  refine own_iconst X0 hx (hb hby d2_10) (0 : Int32) rfl 11 rfl ?_
  refine own_istore X0 hx (hb hby d2_11) #[.val (.ref a), .val (.long (-3750763034362895579 : Int64)), .second, .val (.ref a), .val (.int (2 : Int32)), .val (.int (0 : Int32)), .unset] rfl 13 rfl ?_
  refine own_iload X0 hx (hb hby d2_13) rfl 15 rfl ?_
  refine own_iload X0 hx (hb hby d2_15) rfl 17 rfl ?_
  refine own_icmpN X0 hx (hb hby d2_17) (tlt (by decide)).2.1 20 rfl ?_
  refine own_aloadN X0 hx (hb hby d2_20) rfl rfl 21 rfl ?_
  refine own_iload X0 hx (hb hby d2_21) rfl 23 rfl ?_
  refine own_baload X0 hx hZ e0 V0 0 rfl b0 rfl (hb hby d2_23) 24 rfl ?_
  refine own_istore X0 hx (hb hby d2_24) #[.val (.ref a), .val (.long (-3750763034362895579 : Int64)), .second, .val (.ref a), .val (.int (2 : Int32)), .val (.int (0 : Int32)), .val (.int b0)] rfl 26 rfl ?_
  refine own_lloadN X0 hx (hb hby d2_26) rfl 27 rfl ?_
  refine own_iload X0 hx (hb hby d2_27) rfl 29 rfl ?_
  refine own_sipush X0 hx (hb hby d2_29) (255 : Int32) rfl 32 rfl ?_
  refine own_iand X0 hx (hb hby d2_32) 33 rfl ?_
  refine own_i2l X0 hx (hb hby d2_33) 34 rfl ?_
  refine own_lxor X0 hx (hb hby d2_34) 35 rfl ?_
  generalize hy18 : ((-3750763034362895579 : Int64) ^^^ ((b0 &&& (255 : Int32))).toInt64) = y18
  refine own_lstoreN X0 hx (hb hby d2_35) #[.val (.ref a), .val (.long y18), .second, .val (.ref a), .val (.int (2 : Int32)), .val (.int (0 : Int32)), .val (.int b0)] rfl 36 rfl ?_
  refine own_lloadN X0 hx (hb hby d2_36) rfl 37 rfl ?_
  refine own_ldc2Long X0 hx hown (mvT hZ (own_w hw 21 rfl)) (hb hby d2_37) 40 rfl ?_
  refine own_lmul X0 hx (hb hby d2_40) 41 rfl ?_
  generalize hy19 : (y18 * (1099511628211 : Int64)) = y19
  refine own_lstoreN X0 hx (hb hby d2_41) #[.val (.ref a), .val (.long y19), .second, .val (.ref a), .val (.int (2 : Int32)), .val (.int (0 : Int32)), .val (.int b0)] rfl 42 rfl ?_
  refine own_iinc X0 hx (hb hby d2_42) rfl #[.val (.ref a), .val (.long y19), .second, .val (.ref a), .val (.int (2 : Int32)), .val (.int (1 : Int32)), .val (.int b0)] rfl 45 rfl ?_
  refine own_goto X0 hx (hb hby d2_45) 13 ⟨by decide, by decide⟩ ?_
  refine own_iload X0 hx (hb hby d2_13) rfl 15 rfl ?_
  refine own_iload X0 hx (hb hby d2_15) rfl 17 rfl ?_
  refine own_icmpN X0 hx (hb hby d2_17) (tlt (by decide)).2.1 20 rfl ?_
  refine own_aloadN X0 hx (hb hby d2_20) rfl rfl 21 rfl ?_
  refine own_iload X0 hx (hb hby d2_21) rfl 23 rfl ?_
  refine own_baload X0 hx hZ e0 V0 1 rfl b1 rfl (hb hby d2_23) 24 rfl ?_
  refine own_istore X0 hx (hb hby d2_24) #[.val (.ref a), .val (.long y19), .second, .val (.ref a), .val (.int (2 : Int32)), .val (.int (1 : Int32)), .val (.int b1)] rfl 26 rfl ?_
  refine own_lloadN X0 hx (hb hby d2_26) rfl 27 rfl ?_
  refine own_iload X0 hx (hb hby d2_27) rfl 29 rfl ?_
  refine own_sipush X0 hx (hb hby d2_29) (255 : Int32) rfl 32 rfl ?_
  refine own_iand X0 hx (hb hby d2_32) 33 rfl ?_
  refine own_i2l X0 hx (hb hby d2_33) 34 rfl ?_
  refine own_lxor X0 hx (hb hby d2_34) 35 rfl ?_
  generalize hy20 : (y19 ^^^ ((b1 &&& (255 : Int32))).toInt64) = y20
  refine own_lstoreN X0 hx (hb hby d2_35) #[.val (.ref a), .val (.long y20), .second, .val (.ref a), .val (.int (2 : Int32)), .val (.int (1 : Int32)), .val (.int b1)] rfl 36 rfl ?_
  refine own_lloadN X0 hx (hb hby d2_36) rfl 37 rfl ?_
  refine own_ldc2Long X0 hx hown (mvT hZ (own_w hw 21 rfl)) (hb hby d2_37) 40 rfl ?_
  refine own_lmul X0 hx (hb hby d2_40) 41 rfl ?_
  generalize hy21 : (y20 * (1099511628211 : Int64)) = y21
  refine own_lstoreN X0 hx (hb hby d2_41) #[.val (.ref a), .val (.long y21), .second, .val (.ref a), .val (.int (2 : Int32)), .val (.int (1 : Int32)), .val (.int b1)] rfl 42 rfl ?_
  refine own_iinc X0 hx (hb hby d2_42) rfl #[.val (.ref a), .val (.long y21), .second, .val (.ref a), .val (.int (2 : Int32)), .val (.int (2 : Int32)), .val (.int b1)] rfl 45 rfl ?_
  refine own_goto X0 hx (hb hby d2_45) 13 ⟨by decide, by decide⟩ ?_
  refine own_iload X0 hx (hb hby d2_13) rfl 15 rfl ?_
  refine own_iload X0 hx (hb hby d2_15) rfl 17 rfl ?_
  refine own_icmpY X0 hx (hb hby d2_17) (flt (by decide)).2.1 48 ⟨by decide, by decide⟩ ?_
  refine own_lloadN X0 hx (hb hby d2_48) rfl 49 rfl ?_
  refine own_lloadN X0 hx (hb hby d2_49) rfl 50 rfl ?_
  refine own_bipush X0 hx (hb hby d2_50) (33 : Int32) rfl 52 rfl ?_
  refine own_lushr X0 hx (hb hby d2_52) 53 rfl ?_
  refine own_lxor X0 hx (hb hby d2_53) 54 rfl ?_
  generalize hy22 : (y21 ^^^ ((y21).toUInt64 >>> ((33 : Int32) &&& 0x3f).toInt64.toUInt64).toInt64) = y22
  refine own_lstoreN X0 hx (hb hby d2_54) #[.val (.ref a), .val (.long y22), .second, .val (.ref a), .val (.int (2 : Int32)), .val (.int (2 : Int32)), .val (.int b1)] rfl 55 rfl ?_
  refine own_lloadN X0 hx (hb hby d2_55) rfl 56 rfl ?_
  refine own_ldc2Long X0 hx hown (mvT hZ (own_w hw 14 rfl)) (hb hby d2_56) 59 rfl ?_
  refine own_lmul X0 hx (hb hby d2_59) 60 rfl ?_
  generalize hy23 : (y22 * (-49064778989728563 : Int64)) = y23
  refine own_lstoreN X0 hx (hb hby d2_60) #[.val (.ref a), .val (.long y23), .second, .val (.ref a), .val (.int (2 : Int32)), .val (.int (2 : Int32)), .val (.int b1)] rfl 61 rfl ?_
  refine own_lloadN X0 hx (hb hby d2_61) rfl 62 rfl ?_
  refine own_lloadN X0 hx (hb hby d2_62) rfl 63 rfl ?_
  refine own_bipush X0 hx (hb hby d2_63) (33 : Int32) rfl 65 rfl ?_
  refine own_lushr X0 hx (hb hby d2_65) 66 rfl ?_
  refine own_lxor X0 hx (hb hby d2_66) 67 rfl ?_
  generalize hy24 : (y23 ^^^ ((y23).toUInt64 >>> ((33 : Int32) &&& 0x3f).toInt64.toUInt64).toInt64) = y24
  refine own_lstoreN X0 hx (hb hby d2_67) #[.val (.ref a), .val (.long y24), .second, .val (.ref a), .val (.int (2 : Int32)), .val (.int (2 : Int32)), .val (.int b1)] rfl 68 rfl ?_
  refine own_lloadN X0 hx (hb hby d2_68) rfl 69 rfl ?_
  refine own_ldc2Long X0 hx hown (mvT hZ (own_w hw 15 rfl)) (hb hby d2_69) 72 rfl ?_
  refine own_lmul X0 hx (hb hby d2_72) 73 rfl ?_
  generalize hy25 : (y24 * (-4265267296055464877 : Int64)) = y25
  refine own_lstoreN X0 hx (hb hby d2_73) #[.val (.ref a), .val (.long y25), .second, .val (.ref a), .val (.int (2 : Int32)), .val (.int (2 : Int32)), .val (.int b1)] rfl 74 rfl ?_
  refine own_lloadN X0 hx (hb hby d2_74) rfl 75 rfl ?_
  refine own_lloadN X0 hx (hb hby d2_75) rfl 76 rfl ?_
  refine own_bipush X0 hx (hb hby d2_76) (33 : Int32) rfl 78 rfl ?_
  refine own_lushr X0 hx (hb hby d2_78) 79 rfl ?_
  refine own_lxor X0 hx (hb hby d2_79) 80 rfl ?_
  generalize hy26 : (y25 ^^^ ((y25).toUInt64 >>> ((33 : Int32) &&& 0x3f).toInt64.toUInt64).toInt64) = y26
  refine own_lstoreN X0 hx (hb hby d2_80) #[.val (.ref a), .val (.long y26), .second, .val (.ref a), .val (.int (2 : Int32)), .val (.int (2 : Int32)), .val (.int b1)] rfl 81 rfl ?_
  refine own_lloadN X0 hx (hb hby d2_81) rfl 82 rfl ?_
  refine own_lreturn X0 hx Bd.notSynchronized hG Bd.returns (hb hby d2_82) (by decide) (by decide) ?_
  rw [e0]
  exact ⟨by subst_vars; (try simp only [own_b8]); rfl, N0, rfl⟩
def QH3 (b0 b1 b2 : Int32) (h0 : Heap) (n0 : Nat) (v : Option Value) (h : Heap) (L : List Loc) : Prop := v = some (.long (own_mix (own_st (own_st (own_st (-3750763034362895579 : Int64) b0) b1) b2))) ∧ Fr n0 L ∧ h = h0
theorem ef_rmH3 (m : MethodId) (x0 : Addr) : entryFrame m #[(.ref x0)] 7 = mkF m 0 #[.val (.ref x0), .unset, .unset, .unset, .unset, .unset, .unset] [] := by first | (simp [entryFrame, mkF, argsToLocals, Value.category, maxLocals]; done) | rfl
set_option maxRecDepth 65536 in
set_option maxHeartbeats 40000000 in
theorem rmH3 (l : Launch) (Z : State) (a0 : Array Value) (hw : ∀ d ∈ tables_1, d.before a0 Z = true) (ws : List Jvm.Cond) (a : Addr) (b0 b1 b2 : Int32) (h0 : Heap) (n0 : Nat) (V0 : own_A .byte Value.int Z h0 a [b0, b1, b2]) :
    MetFree l own_y2 (head1 (Jvm.Cond.code own_y2 prog_74_method_4_code 7 (some .long) :: ws) ({ frames := 0, cells := 0, slots := 0, locals := 0 } : Room)) (fun aR U => aR = #[(.ref a)] ∧ Z.Warmed39 U.vm ∧ U.heap = h0) (fun _ _ _ _ _ => True) (fun _ U o U' => ∃ v L, o = .returned v ∧ QH3 b0 b1 b2 h0 n0 v U'.heap L ∧ FrameEnd U o U' L ({ frames := 0, cells := 0, slots := 0, locals := 0 } : Room).cells ({ frames := 0, cells := 0, slots := 0, locals := 0 } : Room).slots) := by
  refine MetFree.of_bodySF pf_2 hisR ?_
  intro p e s m args below meth c s₁ Bd hml0 hP hK
  obtain ⟨rfl, hZ, hhE⟩ := hP
  have hx := Bd.exec
  have hby := Bd.bytes
  have hml : c.maxLocals = 7 := hml0
  have hown : s.vm.findClass "com/example/causeway/causeway/core/ShardMap" = some m.cls := findClass_of_methodNamed Bd.named
  have hnm := (name_of_methodNamed Bd.named Bd.method).1
  have X0 : Stand p l e ({ frames := 0, cells := 0, slots := 0, locals := 0 } : Room) s m #[(.ref a)] below meth c s₁ [] 0 0 := Stand.of_body Bd
  have e0 : s₁.heap = h0 := by rw [← hhE, Bd.state]; rfl
  have N0 := Fr.nil n0
  show own_Go p e below (own_Post s (QH3 b0 b1 b2 h0 n0) ({ frames := 0, cells := 0, slots := 0, locals := 0 } : Room).cells ({ frames := 0, cells := 0, slots := 0, locals := 0 } : Room).slots) (s₁.setTop (entryFrame m #[(.ref a)] 7))
  rw [ef_rmH3]
  generalize hG : own_Post s (QH3 b0 b1 b2 h0 n0) ({ frames := 0, cells := 0, slots := 0, locals := 0 } : Room).cells ({ frames := 0, cells := 0, slots := 0, locals := 0 } : Room).slots = G
  refine own_ldc2Long X0 hx hown (mvT hZ (own_w hw 13 rfl)) (hb hby d2_0) 3 rfl ?_
  refine own_lstoreN X0 hx (hb hby d2_3) #[.val (.ref a), .val (.long (-3750763034362895579 : Int64)), .second, .unset, .unset, .unset, .unset] rfl 4 rfl ?_
  refine own_aloadN X0 hx (hb hby d2_4) rfl rfl 5 rfl ?_
  refine own_astoreN X0 hx (hb hby d2_5) rfl #[.val (.ref a), .val (.long (-3750763034362895579 : Int64)), .second, .val (.ref a), .unset, .unset, .unset] rfl 6 rfl ?_
  refine own_aloadN X0 hx (hb hby d2_6) rfl rfl 7 rfl ?_
  refine own_arraylength X0 hx hZ e0 V0 (hb hby d2_7) 8 rfl ?_
  rw [show Int32.ofNat (List.length [b0, b1, b2]) = (3 : Int32) from rfl]
  refine own_istore X0 hx (hb hby d2_8) #[.val (.ref a), .val (.long (-3750763034362895579 : Int64)), .second, .val (.ref a), .val (.int (3 : Int32)), .unset, .unset] rfl 10 rfl ?_
  refine own_iconst X0 hx (hb hby d2_10) (0 : Int32) rfl 11 rfl ?_
  refine own_istore X0 hx (hb hby d2_11) #[.val (.ref a), .val (.long (-3750763034362895579 : Int64)), .second, .val (.ref a), .val (.int (3 : Int32)), .val (.int (0 : Int32)), .unset] rfl 13 rfl ?_
  refine own_iload X0 hx (hb hby d2_13) rfl 15 rfl ?_
  refine own_iload X0 hx (hb hby d2_15) rfl 17 rfl ?_
  refine own_icmpN X0 hx (hb hby d2_17) (tlt (by decide)).2.1 20 rfl ?_
  refine own_aloadN X0 hx (hb hby d2_20) rfl rfl 21 rfl ?_
  refine own_iload X0 hx (hb hby d2_21) rfl 23 rfl ?_
  refine own_baload X0 hx hZ e0 V0 0 rfl b0 rfl (hb hby d2_23) 24 rfl ?_
  refine own_istore X0 hx (hb hby d2_24) #[.val (.ref a), .val (.long (-3750763034362895579 : Int64)), .second, .val (.ref a), .val (.int (3 : Int32)), .val (.int (0 : Int32)), .val (.int b0)] rfl 26 rfl ?_
  refine own_lloadN X0 hx (hb hby d2_26) rfl 27 rfl ?_
  refine own_iload X0 hx (hb hby d2_27) rfl 29 rfl ?_
  refine own_sipush X0 hx (hb hby d2_29) (255 : Int32) rfl 32 rfl ?_
  refine own_iand X0 hx (hb hby d2_32) 33 rfl ?_
  refine own_i2l X0 hx (hb hby d2_33) 34 rfl ?_
  refine own_lxor X0 hx (hb hby d2_34) 35 rfl ?_
  generalize hy27 : ((-3750763034362895579 : Int64) ^^^ ((b0 &&& (255 : Int32))).toInt64) = y27
  refine own_lstoreN X0 hx (hb hby d2_35) #[.val (.ref a), .val (.long y27), .second, .val (.ref a), .val (.int (3 : Int32)), .val (.int (0 : Int32)), .val (.int b0)] rfl 36 rfl ?_
  refine own_lloadN X0 hx (hb hby d2_36) rfl 37 rfl ?_
  refine own_ldc2Long X0 hx hown (mvT hZ (own_w hw 21 rfl)) (hb hby d2_37) 40 rfl ?_
  refine own_lmul X0 hx (hb hby d2_40) 41 rfl ?_
  generalize hy28 : (y27 * (1099511628211 : Int64)) = y28
  refine own_lstoreN X0 hx (hb hby d2_41) #[.val (.ref a), .val (.long y28), .second, .val (.ref a), .val (.int (3 : Int32)), .val (.int (0 : Int32)), .val (.int b0)] rfl 42 rfl ?_
  refine own_iinc X0 hx (hb hby d2_42) rfl #[.val (.ref a), .val (.long y28), .second, .val (.ref a), .val (.int (3 : Int32)), .val (.int (1 : Int32)), .val (.int b0)] rfl 45 rfl ?_
  refine own_goto X0 hx (hb hby d2_45) 13 ⟨by decide, by decide⟩ ?_
  refine own_iload X0 hx (hb hby d2_13) rfl 15 rfl ?_
  refine own_iload X0 hx (hb hby d2_15) rfl 17 rfl ?_
  refine own_icmpN X0 hx (hb hby d2_17) (tlt (by decide)).2.1 20 rfl ?_
  refine own_aloadN X0 hx (hb hby d2_20) rfl rfl 21 rfl ?_
  refine own_iload X0 hx (hb hby d2_21) rfl 23 rfl ?_
  refine own_baload X0 hx hZ e0 V0 1 rfl b1 rfl (hb hby d2_23) 24 rfl ?_
  refine own_istore X0 hx (hb hby d2_24) #[.val (.ref a), .val (.long y28), .second, .val (.ref a), .val (.int (3 : Int32)), .val (.int (1 : Int32)), .val (.int b1)] rfl 26 rfl ?_
  refine own_lloadN X0 hx (hb hby d2_26) rfl 27 rfl ?_
  refine own_iload X0 hx (hb hby d2_27) rfl 29 rfl ?_
  refine own_sipush X0 hx (hb hby d2_29) (255 : Int32) rfl 32 rfl ?_
  refine own_iand X0 hx (hb hby d2_32) 33 rfl ?_
  refine own_i2l X0 hx (hb hby d2_33) 34 rfl ?_
  refine own_lxor X0 hx (hb hby d2_34) 35 rfl ?_
  generalize hy29 : (y28 ^^^ ((b1 &&& (255 : Int32))).toInt64) = y29
  refine own_lstoreN X0 hx (hb hby d2_35) #[.val (.ref a), .val (.long y29), .second, .val (.ref a), .val (.int (3 : Int32)), .val (.int (1 : Int32)), .val (.int b1)] rfl 36 rfl ?_
  refine own_lloadN X0 hx (hb hby d2_36) rfl 37 rfl ?_
  refine own_ldc2Long X0 hx hown (mvT hZ (own_w hw 21 rfl)) (hb hby d2_37) 40 rfl ?_
  refine own_lmul X0 hx (hb hby d2_40) 41 rfl ?_
  generalize hy30 : (y29 * (1099511628211 : Int64)) = y30
  refine own_lstoreN X0 hx (hb hby d2_41) #[.val (.ref a), .val (.long y30), .second, .val (.ref a), .val (.int (3 : Int32)), .val (.int (1 : Int32)), .val (.int b1)] rfl 42 rfl ?_
  refine own_iinc X0 hx (hb hby d2_42) rfl #[.val (.ref a), .val (.long y30), .second, .val (.ref a), .val (.int (3 : Int32)), .val (.int (2 : Int32)), .val (.int b1)] rfl 45 rfl ?_
  refine own_goto X0 hx (hb hby d2_45) 13 ⟨by decide, by decide⟩ ?_
  refine own_iload X0 hx (hb hby d2_13) rfl 15 rfl ?_
  refine own_iload X0 hx (hb hby d2_15) rfl 17 rfl ?_
  refine own_icmpN X0 hx (hb hby d2_17) (tlt (by decide)).2.1 20 rfl ?_
  refine own_aloadN X0 hx (hb hby d2_20) rfl rfl 21 rfl ?_
  refine own_iload X0 hx (hb hby d2_21) rfl 23 rfl ?_
  refine own_baload X0 hx hZ e0 V0 2 rfl b2 rfl (hb hby d2_23) 24 rfl ?_
  refine own_istore X0 hx (hb hby d2_24) #[.val (.ref a), .val (.long y30), .second, .val (.ref a), .val (.int (3 : Int32)), .val (.int (2 : Int32)), .val (.int b2)] rfl 26 rfl ?_
  refine own_lloadN X0 hx (hb hby d2_26) rfl 27 rfl ?_
  refine own_iload X0 hx (hb hby d2_27) rfl 29 rfl ?_
  refine own_sipush X0 hx (hb hby d2_29) (255 : Int32) rfl 32 rfl ?_
  refine own_iand X0 hx (hb hby d2_32) 33 rfl ?_
  refine own_i2l X0 hx (hb hby d2_33) 34 rfl ?_
  refine own_lxor X0 hx (hb hby d2_34) 35 rfl ?_
  generalize hy31 : (y30 ^^^ ((b2 &&& (255 : Int32))).toInt64) = y31
  refine own_lstoreN X0 hx (hb hby d2_35) #[.val (.ref a), .val (.long y31), .second, .val (.ref a), .val (.int (3 : Int32)), .val (.int (2 : Int32)), .val (.int b2)] rfl 36 rfl ?_
  refine own_lloadN X0 hx (hb hby d2_36) rfl 37 rfl ?_
  refine own_ldc2Long X0 hx hown (mvT hZ (own_w hw 21 rfl)) (hb hby d2_37) 40 rfl ?_
  refine own_lmul X0 hx (hb hby d2_40) 41 rfl ?_
  generalize hy32 : (y31 * (1099511628211 : Int64)) = y32
  refine own_lstoreN X0 hx (hb hby d2_41) #[.val (.ref a), .val (.long y32), .second, .val (.ref a), .val (.int (3 : Int32)), .val (.int (2 : Int32)), .val (.int b2)] rfl 42 rfl ?_
  refine own_iinc X0 hx (hb hby d2_42) rfl #[.val (.ref a), .val (.long y32), .second, .val (.ref a), .val (.int (3 : Int32)), .val (.int (3 : Int32)), .val (.int b2)] rfl 45 rfl ?_
  refine own_goto X0 hx (hb hby d2_45) 13 ⟨by decide, by decide⟩ ?_
  refine own_iload X0 hx (hb hby d2_13) rfl 15 rfl ?_
  refine own_iload X0 hx (hb hby d2_15) rfl 17 rfl ?_
  refine own_icmpY X0 hx (hb hby d2_17) (flt (by decide)).2.1 48 ⟨by decide, by decide⟩ ?_
  refine own_lloadN X0 hx (hb hby d2_48) rfl 49 rfl ?_
  refine own_lloadN X0 hx (hb hby d2_49) rfl 50 rfl ?_
  refine own_bipush X0 hx (hb hby d2_50) (33 : Int32) rfl 52 rfl ?_
  refine own_lushr X0 hx (hb hby d2_52) 53 rfl ?_
  refine own_lxor X0 hx (hb hby d2_53) 54 rfl ?_
  generalize hy33 : (y32 ^^^ ((y32).toUInt64 >>> ((33 : Int32) &&& 0x3f).toInt64.toUInt64).toInt64) = y33
  refine own_lstoreN X0 hx (hb hby d2_54) #[.val (.ref a), .val (.long y33), .second, .val (.ref a), .val (.int (3 : Int32)), .val (.int (3 : Int32)), .val (.int b2)] rfl 55 rfl ?_
  refine own_lloadN X0 hx (hb hby d2_55) rfl 56 rfl ?_
  refine own_ldc2Long X0 hx hown (mvT hZ (own_w hw 14 rfl)) (hb hby d2_56) 59 rfl ?_
  refine own_lmul X0 hx (hb hby d2_59) 60 rfl ?_
  generalize hy34 : (y33 * (-49064778989728563 : Int64)) = y34
  refine own_lstoreN X0 hx (hb hby d2_60) #[.val (.ref a), .val (.long y34), .second, .val (.ref a), .val (.int (3 : Int32)), .val (.int (3 : Int32)), .val (.int b2)] rfl 61 rfl ?_
  refine own_lloadN X0 hx (hb hby d2_61) rfl 62 rfl ?_
  refine own_lloadN X0 hx (hb hby d2_62) rfl 63 rfl ?_
  refine own_bipush X0 hx (hb hby d2_63) (33 : Int32) rfl 65 rfl ?_
  refine own_lushr X0 hx (hb hby d2_65) 66 rfl ?_
  refine own_lxor X0 hx (hb hby d2_66) 67 rfl ?_
  generalize hy35 : (y34 ^^^ ((y34).toUInt64 >>> ((33 : Int32) &&& 0x3f).toInt64.toUInt64).toInt64) = y35
  refine own_lstoreN X0 hx (hb hby d2_67) #[.val (.ref a), .val (.long y35), .second, .val (.ref a), .val (.int (3 : Int32)), .val (.int (3 : Int32)), .val (.int b2)] rfl 68 rfl ?_
  refine own_lloadN X0 hx (hb hby d2_68) rfl 69 rfl ?_
  refine own_ldc2Long X0 hx hown (mvT hZ (own_w hw 15 rfl)) (hb hby d2_69) 72 rfl ?_
  refine own_lmul X0 hx (hb hby d2_72) 73 rfl ?_
  generalize hy36 : (y35 * (-4265267296055464877 : Int64)) = y36
  refine own_lstoreN X0 hx (hb hby d2_73) #[.val (.ref a), .val (.long y36), .second, .val (.ref a), .val (.int (3 : Int32)), .val (.int (3 : Int32)), .val (.int b2)] rfl 74 rfl ?_
  refine own_lloadN X0 hx (hb hby d2_74) rfl 75 rfl ?_
  refine own_lloadN X0 hx (hb hby d2_75) rfl 76 rfl ?_
  refine own_bipush X0 hx (hb hby d2_76) (33 : Int32) rfl 78 rfl ?_
  refine own_lushr X0 hx (hb hby d2_78) 79 rfl ?_
  refine own_lxor X0 hx (hb hby d2_79) 80 rfl ?_
  generalize hy37 : (y36 ^^^ ((y36).toUInt64 >>> ((33 : Int32) &&& 0x3f).toInt64.toUInt64).toInt64) = y37
  refine own_lstoreN X0 hx (hb hby d2_80) #[.val (.ref a), .val (.long y37), .second, .val (.ref a), .val (.int (3 : Int32)), .val (.int (3 : Int32)), .val (.int b2)] rfl 81 rfl ?_
  refine own_lloadN X0 hx (hb hby d2_81) rfl 82 rfl ?_
  refine own_lreturn X0 hx Bd.notSynchronized hG Bd.returns (hb hby d2_82) (by decide) (by decide) ?_
  rw [e0]
  exact ⟨by subst_vars; (try simp only [own_b8]); rfl, N0, rfl⟩
def QH4 (b0 b1 b2 b3 : Int32) (h0 : Heap) (n0 : Nat) (v : Option Value) (h : Heap) (L : List Loc) : Prop := v = some (.long (own_mix (own_st (own_st (own_st (own_st (-3750763034362895579 : Int64) b0) b1) b2) b3))) ∧ Fr n0 L ∧ h = h0
theorem ef_rmH4 (m : MethodId) (x0 : Addr) : entryFrame m #[(.ref x0)] 7 = mkF m 0 #[.val (.ref x0), .unset, .unset, .unset, .unset, .unset, .unset] [] := by first | (simp [entryFrame, mkF, argsToLocals, Value.category, maxLocals]; done) | rfl
set_option maxRecDepth 65536 in
set_option maxHeartbeats 40000000 in
theorem rmH4 (l : Launch) (Z : State) (a0 : Array Value) (hw : ∀ d ∈ tables_1, d.before a0 Z = true) (ws : List Jvm.Cond) (a : Addr) (b0 b1 b2 b3 : Int32) (h0 : Heap) (n0 : Nat) (V0 : own_A .byte Value.int Z h0 a [b0, b1, b2, b3]) :
    MetFree l own_y2 (head1 (Jvm.Cond.code own_y2 prog_74_method_4_code 7 (some .long) :: ws) ({ frames := 0, cells := 0, slots := 0, locals := 0 } : Room)) (fun aR U => aR = #[(.ref a)] ∧ Z.Warmed39 U.vm ∧ U.heap = h0) (fun _ _ _ _ _ => True) (fun _ U o U' => ∃ v L, o = .returned v ∧ QH4 b0 b1 b2 b3 h0 n0 v U'.heap L ∧ FrameEnd U o U' L ({ frames := 0, cells := 0, slots := 0, locals := 0 } : Room).cells ({ frames := 0, cells := 0, slots := 0, locals := 0 } : Room).slots) := by
  refine MetFree.of_bodySF pf_2 hisR ?_
  intro p e s m args below meth c s₁ Bd hml0 hP hK
  obtain ⟨rfl, hZ, hhE⟩ := hP
  have hx := Bd.exec
  have hby := Bd.bytes
  have hml : c.maxLocals = 7 := hml0
  have hown : s.vm.findClass "com/example/causeway/causeway/core/ShardMap" = some m.cls := findClass_of_methodNamed Bd.named
  have hnm := (name_of_methodNamed Bd.named Bd.method).1
  have X0 : Stand p l e ({ frames := 0, cells := 0, slots := 0, locals := 0 } : Room) s m #[(.ref a)] below meth c s₁ [] 0 0 := Stand.of_body Bd
  have e0 : s₁.heap = h0 := by rw [← hhE, Bd.state]; rfl
  have N0 := Fr.nil n0
  show own_Go p e below (own_Post s (QH4 b0 b1 b2 b3 h0 n0) ({ frames := 0, cells := 0, slots := 0, locals := 0 } : Room).cells ({ frames := 0, cells := 0, slots := 0, locals := 0 } : Room).slots) (s₁.setTop (entryFrame m #[(.ref a)] 7))
  rw [ef_rmH4]
  generalize hG : own_Post s (QH4 b0 b1 b2 b3 h0 n0) ({ frames := 0, cells := 0, slots := 0, locals := 0 } : Room).cells ({ frames := 0, cells := 0, slots := 0, locals := 0 } : Room).slots = G
  refine own_ldc2Long X0 hx hown (mvT hZ (own_w hw 13 rfl)) (hb hby d2_0) 3 rfl ?_
  refine own_lstoreN X0 hx (hb hby d2_3) #[.val (.ref a), .val (.long (-3750763034362895579 : Int64)), .second, .unset, .unset, .unset, .unset] rfl 4 rfl ?_
  refine own_aloadN X0 hx (hb hby d2_4) rfl rfl 5 rfl ?_
  refine own_astoreN X0 hx (hb hby d2_5) rfl #[.val (.ref a), .val (.long (-3750763034362895579 : Int64)), .second, .val (.ref a), .unset, .unset, .unset] rfl 6 rfl ?_
  refine own_aloadN X0 hx (hb hby d2_6) rfl rfl 7 rfl ?_
  refine own_arraylength X0 hx hZ e0 V0 (hb hby d2_7) 8 rfl ?_
  rw [show Int32.ofNat (List.length [b0, b1, b2, b3]) = (4 : Int32) from rfl]
  refine own_istore X0 hx (hb hby d2_8) #[.val (.ref a), .val (.long (-3750763034362895579 : Int64)), .second, .val (.ref a), .val (.int (4 : Int32)), .unset, .unset] rfl 10 rfl ?_
  refine own_iconst X0 hx (hb hby d2_10) (0 : Int32) rfl 11 rfl ?_
  refine own_istore X0 hx (hb hby d2_11) #[.val (.ref a), .val (.long (-3750763034362895579 : Int64)), .second, .val (.ref a), .val (.int (4 : Int32)), .val (.int (0 : Int32)), .unset] rfl 13 rfl ?_
  refine own_iload X0 hx (hb hby d2_13) rfl 15 rfl ?_
  refine own_iload X0 hx (hb hby d2_15) rfl 17 rfl ?_
  refine own_icmpN X0 hx (hb hby d2_17) (tlt (by decide)).2.1 20 rfl ?_
  refine own_aloadN X0 hx (hb hby d2_20) rfl rfl 21 rfl ?_
  refine own_iload X0 hx (hb hby d2_21) rfl 23 rfl ?_
  refine own_baload X0 hx hZ e0 V0 0 rfl b0 rfl (hb hby d2_23) 24 rfl ?_
  refine own_istore X0 hx (hb hby d2_24) #[.val (.ref a), .val (.long (-3750763034362895579 : Int64)), .second, .val (.ref a), .val (.int (4 : Int32)), .val (.int (0 : Int32)), .val (.int b0)] rfl 26 rfl ?_
  refine own_lloadN X0 hx (hb hby d2_26) rfl 27 rfl ?_
  refine own_iload X0 hx (hb hby d2_27) rfl 29 rfl ?_
  refine own_sipush X0 hx (hb hby d2_29) (255 : Int32) rfl 32 rfl ?_
  refine own_iand X0 hx (hb hby d2_32) 33 rfl ?_
  refine own_i2l X0 hx (hb hby d2_33) 34 rfl ?_
  refine own_lxor X0 hx (hb hby d2_34) 35 rfl ?_
  generalize hy38 : ((-3750763034362895579 : Int64) ^^^ ((b0 &&& (255 : Int32))).toInt64) = y38
  refine own_lstoreN X0 hx (hb hby d2_35) #[.val (.ref a), .val (.long y38), .second, .val (.ref a), .val (.int (4 : Int32)), .val (.int (0 : Int32)), .val (.int b0)] rfl 36 rfl ?_
  refine own_lloadN X0 hx (hb hby d2_36) rfl 37 rfl ?_
  refine own_ldc2Long X0 hx hown (mvT hZ (own_w hw 21 rfl)) (hb hby d2_37) 40 rfl ?_
  refine own_lmul X0 hx (hb hby d2_40) 41 rfl ?_
  generalize hy39 : (y38 * (1099511628211 : Int64)) = y39
  refine own_lstoreN X0 hx (hb hby d2_41) #[.val (.ref a), .val (.long y39), .second, .val (.ref a), .val (.int (4 : Int32)), .val (.int (0 : Int32)), .val (.int b0)] rfl 42 rfl ?_
  refine own_iinc X0 hx (hb hby d2_42) rfl #[.val (.ref a), .val (.long y39), .second, .val (.ref a), .val (.int (4 : Int32)), .val (.int (1 : Int32)), .val (.int b0)] rfl 45 rfl ?_
  refine own_goto X0 hx (hb hby d2_45) 13 ⟨by decide, by decide⟩ ?_
  refine own_iload X0 hx (hb hby d2_13) rfl 15 rfl ?_
  refine own_iload X0 hx (hb hby d2_15) rfl 17 rfl ?_
  refine own_icmpN X0 hx (hb hby d2_17) (tlt (by decide)).2.1 20 rfl ?_
  refine own_aloadN X0 hx (hb hby d2_20) rfl rfl 21 rfl ?_
  refine own_iload X0 hx (hb hby d2_21) rfl 23 rfl ?_
  refine own_baload X0 hx hZ e0 V0 1 rfl b1 rfl (hb hby d2_23) 24 rfl ?_
  refine own_istore X0 hx (hb hby d2_24) #[.val (.ref a), .val (.long y39), .second, .val (.ref a), .val (.int (4 : Int32)), .val (.int (1 : Int32)), .val (.int b1)] rfl 26 rfl ?_
  refine own_lloadN X0 hx (hb hby d2_26) rfl 27 rfl ?_
  refine own_iload X0 hx (hb hby d2_27) rfl 29 rfl ?_
  refine own_sipush X0 hx (hb hby d2_29) (255 : Int32) rfl 32 rfl ?_
  refine own_iand X0 hx (hb hby d2_32) 33 rfl ?_
  refine own_i2l X0 hx (hb hby d2_33) 34 rfl ?_
  refine own_lxor X0 hx (hb hby d2_34) 35 rfl ?_
  generalize hy40 : (y39 ^^^ ((b1 &&& (255 : Int32))).toInt64) = y40
  refine own_lstoreN X0 hx (hb hby d2_35) #[.val (.ref a), .val (.long y40), .second, .val (.ref a), .val (.int (4 : Int32)), .val (.int (1 : Int32)), .val (.int b1)] rfl 36 rfl ?_
  refine own_lloadN X0 hx (hb hby d2_36) rfl 37 rfl ?_
  refine own_ldc2Long X0 hx hown (mvT hZ (own_w hw 21 rfl)) (hb hby d2_37) 40 rfl ?_
  refine own_lmul X0 hx (hb hby d2_40) 41 rfl ?_
  generalize hy41 : (y40 * (1099511628211 : Int64)) = y41
  refine own_lstoreN X0 hx (hb hby d2_41) #[.val (.ref a), .val (.long y41), .second, .val (.ref a), .val (.int (4 : Int32)), .val (.int (1 : Int32)), .val (.int b1)] rfl 42 rfl ?_
  refine own_iinc X0 hx (hb hby d2_42) rfl #[.val (.ref a), .val (.long y41), .second, .val (.ref a), .val (.int (4 : Int32)), .val (.int (2 : Int32)), .val (.int b1)] rfl 45 rfl ?_
  refine own_goto X0 hx (hb hby d2_45) 13 ⟨by decide, by decide⟩ ?_
  refine own_iload X0 hx (hb hby d2_13) rfl 15 rfl ?_
  refine own_iload X0 hx (hb hby d2_15) rfl 17 rfl ?_
  refine own_icmpN X0 hx (hb hby d2_17) (tlt (by decide)).2.1 20 rfl ?_
  refine own_aloadN X0 hx (hb hby d2_20) rfl rfl 21 rfl ?_
  refine own_iload X0 hx (hb hby d2_21) rfl 23 rfl ?_
  refine own_baload X0 hx hZ e0 V0 2 rfl b2 rfl (hb hby d2_23) 24 rfl ?_
  refine own_istore X0 hx (hb hby d2_24) #[.val (.ref a), .val (.long y41), .second, .val (.ref a), .val (.int (4 : Int32)), .val (.int (2 : Int32)), .val (.int b2)] rfl 26 rfl ?_
  refine own_lloadN X0 hx (hb hby d2_26) rfl 27 rfl ?_
  refine own_iload X0 hx (hb hby d2_27) rfl 29 rfl ?_
  refine own_sipush X0 hx (hb hby d2_29) (255 : Int32) rfl 32 rfl ?_
  refine own_iand X0 hx (hb hby d2_32) 33 rfl ?_
  refine own_i2l X0 hx (hb hby d2_33) 34 rfl ?_
  refine own_lxor X0 hx (hb hby d2_34) 35 rfl ?_
  generalize hy42 : (y41 ^^^ ((b2 &&& (255 : Int32))).toInt64) = y42
  refine own_lstoreN X0 hx (hb hby d2_35) #[.val (.ref a), .val (.long y42), .second, .val (.ref a), .val (.int (4 : Int32)), .val (.int (2 : Int32)), .val (.int b2)] rfl 36 rfl ?_
  refine own_lloadN X0 hx (hb hby d2_36) rfl 37 rfl ?_
  refine own_ldc2Long X0 hx hown (mvT hZ (own_w hw 21 rfl)) (hb hby d2_37) 40 rfl ?_
  refine own_lmul X0 hx (hb hby d2_40) 41 rfl ?_
  generalize hy43 : (y42 * (1099511628211 : Int64)) = y43
  refine own_lstoreN X0 hx (hb hby d2_41) #[.val (.ref a), .val (.long y43), .second, .val (.ref a), .val (.int (4 : Int32)), .val (.int (2 : Int32)), .val (.int b2)] rfl 42 rfl ?_
  refine own_iinc X0 hx (hb hby d2_42) rfl #[.val (.ref a), .val (.long y43), .second, .val (.ref a), .val (.int (4 : Int32)), .val (.int (3 : Int32)), .val (.int b2)] rfl 45 rfl ?_
  refine own_goto X0 hx (hb hby d2_45) 13 ⟨by decide, by decide⟩ ?_
  refine own_iload X0 hx (hb hby d2_13) rfl 15 rfl ?_
  refine own_iload X0 hx (hb hby d2_15) rfl 17 rfl ?_
  refine own_icmpN X0 hx (hb hby d2_17) (tlt (by decide)).2.1 20 rfl ?_
  refine own_aloadN X0 hx (hb hby d2_20) rfl rfl 21 rfl ?_
  refine own_iload X0 hx (hb hby d2_21) rfl 23 rfl ?_
  refine own_baload X0 hx hZ e0 V0 3 rfl b3 rfl (hb hby d2_23) 24 rfl ?_
  refine own_istore X0 hx (hb hby d2_24) #[.val (.ref a), .val (.long y43), .second, .val (.ref a), .val (.int (4 : Int32)), .val (.int (3 : Int32)), .val (.int b3)] rfl 26 rfl ?_
  refine own_lloadN X0 hx (hb hby d2_26) rfl 27 rfl ?_
  refine own_iload X0 hx (hb hby d2_27) rfl 29 rfl ?_
  refine own_sipush X0 hx (hb hby d2_29) (255 : Int32) rfl 32 rfl ?_
  refine own_iand X0 hx (hb hby d2_32) 33 rfl ?_
  refine own_i2l X0 hx (hb hby d2_33) 34 rfl ?_
  refine own_lxor X0 hx (hb hby d2_34) 35 rfl ?_
  generalize hy44 : (y43 ^^^ ((b3 &&& (255 : Int32))).toInt64) = y44
  refine own_lstoreN X0 hx (hb hby d2_35) #[.val (.ref a), .val (.long y44), .second, .val (.ref a), .val (.int (4 : Int32)), .val (.int (3 : Int32)), .val (.int b3)] rfl 36 rfl ?_
  refine own_lloadN X0 hx (hb hby d2_36) rfl 37 rfl ?_
  refine own_ldc2Long X0 hx hown (mvT hZ (own_w hw 21 rfl)) (hb hby d2_37) 40 rfl ?_
  refine own_lmul X0 hx (hb hby d2_40) 41 rfl ?_
  generalize hy45 : (y44 * (1099511628211 : Int64)) = y45
  refine own_lstoreN X0 hx (hb hby d2_41) #[.val (.ref a), .val (.long y45), .second, .val (.ref a), .val (.int (4 : Int32)), .val (.int (3 : Int32)), .val (.int b3)] rfl 42 rfl ?_
  refine own_iinc X0 hx (hb hby d2_42) rfl #[.val (.ref a), .val (.long y45), .second, .val (.ref a), .val (.int (4 : Int32)), .val (.int (4 : Int32)), .val (.int b3)] rfl 45 rfl ?_
  refine own_goto X0 hx (hb hby d2_45) 13 ⟨by decide, by decide⟩ ?_
  refine own_iload X0 hx (hb hby d2_13) rfl 15 rfl ?_
  refine own_iload X0 hx (hb hby d2_15) rfl 17 rfl ?_
  refine own_icmpY X0 hx (hb hby d2_17) (flt (by decide)).2.1 48 ⟨by decide, by decide⟩ ?_
  refine own_lloadN X0 hx (hb hby d2_48) rfl 49 rfl ?_
  refine own_lloadN X0 hx (hb hby d2_49) rfl 50 rfl ?_
  refine own_bipush X0 hx (hb hby d2_50) (33 : Int32) rfl 52 rfl ?_
  refine own_lushr X0 hx (hb hby d2_52) 53 rfl ?_
  refine own_lxor X0 hx (hb hby d2_53) 54 rfl ?_
  generalize hy46 : (y45 ^^^ ((y45).toUInt64 >>> ((33 : Int32) &&& 0x3f).toInt64.toUInt64).toInt64) = y46
  refine own_lstoreN X0 hx (hb hby d2_54) #[.val (.ref a), .val (.long y46), .second, .val (.ref a), .val (.int (4 : Int32)), .val (.int (4 : Int32)), .val (.int b3)] rfl 55 rfl ?_
  refine own_lloadN X0 hx (hb hby d2_55) rfl 56 rfl ?_
  refine own_ldc2Long X0 hx hown (mvT hZ (own_w hw 14 rfl)) (hb hby d2_56) 59 rfl ?_
  refine own_lmul X0 hx (hb hby d2_59) 60 rfl ?_
  generalize hy47 : (y46 * (-49064778989728563 : Int64)) = y47
  refine own_lstoreN X0 hx (hb hby d2_60) #[.val (.ref a), .val (.long y47), .second, .val (.ref a), .val (.int (4 : Int32)), .val (.int (4 : Int32)), .val (.int b3)] rfl 61 rfl ?_
  refine own_lloadN X0 hx (hb hby d2_61) rfl 62 rfl ?_
  refine own_lloadN X0 hx (hb hby d2_62) rfl 63 rfl ?_
  refine own_bipush X0 hx (hb hby d2_63) (33 : Int32) rfl 65 rfl ?_
  refine own_lushr X0 hx (hb hby d2_65) 66 rfl ?_
  refine own_lxor X0 hx (hb hby d2_66) 67 rfl ?_
  generalize hy48 : (y47 ^^^ ((y47).toUInt64 >>> ((33 : Int32) &&& 0x3f).toInt64.toUInt64).toInt64) = y48
  refine own_lstoreN X0 hx (hb hby d2_67) #[.val (.ref a), .val (.long y48), .second, .val (.ref a), .val (.int (4 : Int32)), .val (.int (4 : Int32)), .val (.int b3)] rfl 68 rfl ?_
  refine own_lloadN X0 hx (hb hby d2_68) rfl 69 rfl ?_
  refine own_ldc2Long X0 hx hown (mvT hZ (own_w hw 15 rfl)) (hb hby d2_69) 72 rfl ?_
  refine own_lmul X0 hx (hb hby d2_72) 73 rfl ?_
  generalize hy49 : (y48 * (-4265267296055464877 : Int64)) = y49
  refine own_lstoreN X0 hx (hb hby d2_73) #[.val (.ref a), .val (.long y49), .second, .val (.ref a), .val (.int (4 : Int32)), .val (.int (4 : Int32)), .val (.int b3)] rfl 74 rfl ?_
  refine own_lloadN X0 hx (hb hby d2_74) rfl 75 rfl ?_
  refine own_lloadN X0 hx (hb hby d2_75) rfl 76 rfl ?_
  refine own_bipush X0 hx (hb hby d2_76) (33 : Int32) rfl 78 rfl ?_
  refine own_lushr X0 hx (hb hby d2_78) 79 rfl ?_
  refine own_lxor X0 hx (hb hby d2_79) 80 rfl ?_
  generalize hy50 : (y49 ^^^ ((y49).toUInt64 >>> ((33 : Int32) &&& 0x3f).toInt64.toUInt64).toInt64) = y50
  refine own_lstoreN X0 hx (hb hby d2_80) #[.val (.ref a), .val (.long y50), .second, .val (.ref a), .val (.int (4 : Int32)), .val (.int (4 : Int32)), .val (.int b3)] rfl 81 rfl ?_
  refine own_lloadN X0 hx (hb hby d2_81) rfl 82 rfl ?_
  refine own_lreturn X0 hx Bd.notSynchronized hG Bd.returns (hb hby d2_82) (by decide) (by decide) ?_
  rw [e0]
  exact ⟨by subst_vars; (try simp only [own_b8]); rfl, N0, rfl⟩
def Q0 (h0 : Heap) (n0 : Nat) (v : Option Value) (h : Heap) (L : List Loc) : Prop := v = some (.int 1) ∧ Fr n0 L
theorem ef_rm0 (m : MethodId) (x0 : Int32) (x1 : Int32) (x2 : Int32) (x3 : Int32) (x4 : Int32) : entryFrame m #[(.int x0), (.int x1), (.int x2), (.int x3), (.int x4)] maxLocals = mkF m 0 #[.val (.int x0), .val (.int x1), .val (.int x2), .val (.int x3), .val (.int x4), .unset, .unset, .unset, .unset, .unset, .unset, .unset, .unset] [] := by first | (simp [entryFrame, mkF, argsToLocals, Value.category, maxLocals]; done) | rfl
set_option maxRecDepth 65536 in
set_option maxHeartbeats 40000000 in
theorem rm0 (l : Launch) (Z : State) (a0 : Array Value) (hw : ∀ d ∈ tables_1, d.before a0 Z = true) (ws : List Jvm.Cond) (v0 v1 v2 v3 v4 : Int32) (h0 : Heap) (n0 : Nat) (Z0 : n0 ≤ h0.size) :
    MetFree l x (head1 (Jvm.Cond.code x code maxLocals ret :: ws) room_1) (fun aR U => aR = #[(.int v0), (.int v1), (.int v2), (.int v3), (.int v4)] ∧ Z.Warmed39 U.vm ∧ U.heap = h0) (fun _ _ _ _ _ => True) (fun _ U o U' => ∃ v L, o = .returned v ∧ Q0 h0 n0 v U'.heap L ∧ FrameEnd U o U' L room_1.cells room_1.slots) := by
  refine MetFree.of_bodySF (plainFor_of_name pn_0) hisR ?_
  intro p e s m args below meth c s₁ Bd hml0 hP hK
  obtain ⟨rfl, hZ, hhE⟩ := hP
  have hx := Bd.exec
  have hby := Bd.bytes
  have hml : c.maxLocals = 13 := hml0
  have hown : s.vm.findClass "com/example/causeway/causeway/core/ShardMapHashPinLaw" = some m.cls := findClass_of_methodNamed Bd.named
  have hnm := (name_of_methodNamed Bd.named Bd.method).1
  have X0 : Stand p l e room_1 s m #[(.int v0), (.int v1), (.int v2), (.int v3), (.int v4)] below meth c s₁ [] 0 0 := Stand.of_body Bd
  have e0 : s₁.heap = h0 := by rw [← hhE, Bd.state]; rfl
  have N0 := Fr.nil n0
  show own_Go p e below (own_Post s (Q0 h0 n0) room_1.cells room_1.slots) (s₁.setTop (entryFrame m #[(.int v0), (.int v1), (.int v2), (.int v3), (.int v4)] maxLocals))
  rw [ef_rm0]
  generalize hG : own_Post s (Q0 h0 n0) room_1.cells room_1.slots = G
  refine own_iloadN X0 hx (hb hby at_0) rfl 1 rfl ?_
  refine own_ldcInt X0 hx hown (mvT hZ (own_w hw 0 rfl)) (hb hby at_1) 3 rfl ?_
  refine own_iand X0 hx (hb hby at_3) 4 rfl ?_
  refine own_iconst X0 hx (hb hby at_4) (5 : Int32) rfl 5 rfl ?_
  refine own_irem X0 hx (hb hby at_5) (by decide) 6 rfl ?_
  generalize hy51 : ((v0 &&& (2147483647 : Int32)) % (5 : Int32)) = y51
  refine own_istore X0 hx (hb hby at_6) #[.val (.int v0), .val (.int v1), .val (.int v2), .val (.int v3), .val (.int v4), .val (.int y51), .unset, .unset, .unset, .unset, .unset, .unset, .unset] rfl 8 rfl ?_
  refine own_iloadN X0 hx (hb hby at_8) rfl 9 rfl ?_
  refine own_i2b X0 hx (hb hby at_9) 10 rfl ?_
  generalize hy52 : (v1).toInt8.toInt32 = y52
  refine own_istore X0 hx (hb hby at_10) #[.val (.int v0), .val (.int v1), .val (.int v2), .val (.int v3), .val (.int v4), .val (.int y51), .val (.int y52), .unset, .unset, .unset, .unset, .unset, .unset] rfl 12 rfl ?_
  refine own_iloadN X0 hx (hb hby at_12) rfl 13 rfl ?_
  refine own_i2b X0 hx (hb hby at_13) 14 rfl ?_
  generalize hy53 : (v2).toInt8.toInt32 = y53
  refine own_istore X0 hx (hb hby at_14) #[.val (.int v0), .val (.int v1), .val (.int v2), .val (.int v3), .val (.int v4), .val (.int y51), .val (.int y52), .val (.int y53), .unset, .unset, .unset, .unset, .unset] rfl 16 rfl ?_
  refine own_iloadN X0 hx (hb hby at_16) rfl 17 rfl ?_
  refine own_i2b X0 hx (hb hby at_17) 18 rfl ?_
  generalize hy54 : (v3).toInt8.toInt32 = y54
  refine own_istore X0 hx (hb hby at_18) #[.val (.int v0), .val (.int v1), .val (.int v2), .val (.int v3), .val (.int v4), .val (.int y51), .val (.int y52), .val (.int y53), .val (.int y54), .unset, .unset, .unset, .unset] rfl 20 rfl ?_
  refine own_iload X0 hx (hb hby at_20) rfl 22 rfl ?_
  refine own_i2b X0 hx (hb hby at_22) 23 rfl ?_
  generalize hy55 : (v4).toInt8.toInt32 = y55
  refine own_istore X0 hx (hb hby at_23) #[.val (.int v0), .val (.int v1), .val (.int v2), .val (.int v3), .val (.int v4), .val (.int y51), .val (.int y52), .val (.int y53), .val (.int y54), .val (.int y55), .unset, .unset, .unset] rfl 25 rfl ?_
  refine own_iload X0 hx (hb hby at_25) rfl 27 rfl ?_
  have hm5 : y51 = 0 ∨ y51 = 1 ∨ y51 = 2 ∨ y51 = 3 ∨ y51 = 4 := hy51 ▸ own_mod5 v0
  rcases hm5 with rfl | rfl | rfl | rfl | rfl
  ·
    refine own_newB X0 hx hZ (own_w hw 1 rfl) e0 (hb hby at_27) 0 rfl 0 (by decide) (by decide) (by decide) (by decide) 29 rfl (fun T56 h56 a56 g56 X56 e56 E56 V56 => ?_)
    have ge57 : n0 ≤ a56 := by rw [g56]; exact Z0
    have Z58 : n0 ≤ h56.size := Nat.le_trans Z0 E56.1
    rw [show (List.replicate 0 (0 : Int32)) = ([] : List Int32) from rfl] at V56
    refine own_astore X56 hx (hb hby at_29) rfl #[.val (.int v0), .val (.int v1), .val (.int v2), .val (.int v3), .val (.int v4), .val (.int (0 : Int32)), .val (.int y52), .val (.int y53), .val (.int y54), .val (.int y55), .val (.ref a56), .unset, .unset] rfl 31 rfl ?_
    refine own_ldc2Long X56 hx hown (mvT hZ (own_w hw 2 rfl)) (hb hby at_31) 34 rfl ?_
    refine own_lstore X56 hx (hb hby at_34) #[.val (.int v0), .val (.int v1), .val (.int v2), .val (.int v3), .val (.int v4), .val (.int (0 : Int32)), .val (.int y52), .val (.int y53), .val (.int y54), .val (.int y55), .val (.ref a56), .val (.long (-3750763034362895579 : Int64)), .second] rfl 36 rfl ?_
    refine own_iload X56 hx (hb hby at_36) rfl 38 rfl ?_
    refine own_ifY X56 hx (hb hby at_38) ((if0 _ _).trans (flt (by decide)).2.2.2) 56 ⟨by decide, by decide⟩ ?_
    refine own_iload X56 hx (hb hby at_56) rfl 58 rfl ?_
    refine own_iconst X56 hx (hb hby at_58) (1 : Int32) rfl 59 rfl ?_
    refine own_icmpY X56 hx (hb hby at_59) (flt (by decide)).2.2.2 77 ⟨by decide, by decide⟩ ?_
    refine own_iload X56 hx (hb hby at_77) rfl 79 rfl ?_
    refine own_iconst X56 hx (hb hby at_79) (2 : Int32) rfl 80 rfl ?_
    refine own_icmpY X56 hx (hb hby at_80) (flt (by decide)).2.2.2 98 ⟨by decide, by decide⟩ ?_
    refine own_iload X56 hx (hb hby at_98) rfl 100 rfl ?_
    refine own_iconst X56 hx (hb hby at_100) (3 : Int32) rfl 101 rfl ?_
    refine own_icmpY X56 hx (hb hby at_101) (flt (by decide)).2.2.2 119 ⟨by decide, by decide⟩ ?_
    refine own_lload X56 hx (hb hby at_119) rfl 121 rfl ?_
    refine own_callS X56 hx hZ hown (own_w hw 3 rfl) (own_w hw 4 rfl) (own_w hw 5 rfl) (own_w hw 6 rfl) (by decide) e56 (rm2 l Z a0 hw [] (-3750763034362895579 : Int64) h56 n0) (by rw [hml]; rfl) pd_0 (argsL := [(.long (-3750763034362895579 : Int64))]) rfl (rest := []) rfl (hb hby at_121) 0 (Nat.le_of_eq rfl) (by decide) (by decide) (by decide) (by decide) 124 rfl (fun T59 L59 v59 X59 hQ59 => ?_)
    obtain ⟨rfl, N59, e59⟩ := hQ59
    have N60 := Fr.app N0 N59
    show own_Go p e below G (T59.setTop (mkF m 124 #[.val (.int v0), .val (.int v1), .val (.int v2), .val (.int v3), .val (.int v4), .val (.int (0 : Int32)), .val (.int y52), .val (.int y53), .val (.int y54), .val (.int y55), .val (.ref a56), .val (.long (-3750763034362895579 : Int64)), .second] [(.long (own_mix (-3750763034362895579 : Int64)))]))
    refine own_lstore X59 hx (hb hby at_124) #[.val (.int v0), .val (.int v1), .val (.int v2), .val (.int v3), .val (.int v4), .val (.int (0 : Int32)), .val (.int y52), .val (.int y53), .val (.int y54), .val (.int y55), .val (.ref a56), .val (.long (own_mix (-3750763034362895579 : Int64))), .second] rfl 126 rfl ?_
    refine own_aload X59 hx (hb hby at_126) rfl rfl 128 rfl ?_
    refine own_callS X59 hx hZ hown (own_w hw 9 rfl) (own_w hw 10 rfl) (own_w hw 11 rfl) (own_w hw 12 rfl) (by decide) e59 (rmH0 l Z a0 hw [] a56  h56 n0 V56) (by rw [hml]; rfl) pd_1 (argsL := [(.ref a56)]) rfl (rest := []) rfl (hb hby at_128) 0 (Nat.le_of_eq rfl) (by decide) (by decide) (by decide) (by decide) 131 rfl (fun T61 L61 v61 X61 hQ61 => ?_)
    obtain ⟨rfl, N61, e61⟩ := hQ61
    have N62 := Fr.app N60 N61
    show own_Go p e below G (T61.setTop (mkF m 131 #[.val (.int v0), .val (.int v1), .val (.int v2), .val (.int v3), .val (.int v4), .val (.int (0 : Int32)), .val (.int y52), .val (.int y53), .val (.int y54), .val (.int y55), .val (.ref a56), .val (.long (own_mix (-3750763034362895579 : Int64))), .second] [(.long (own_mix (-3750763034362895579 : Int64)))]))
    refine own_lload X61 hx (hb hby at_131) rfl 133 rfl ?_
    refine own_lcmp X61 hx (hb hby at_133) 134 rfl ?_
    refine own_ifN X61 hx (hb hby at_134) (own_eqL rfl).2 137 rfl ?_
    refine own_iconst X61 hx (hb hby at_137) (1 : Int32) rfl 138 rfl ?_
    refine own_goto X61 hx (hb hby at_138) 142 ⟨by decide, by decide⟩ ?_
    refine own_nreturn X61 hx Bd.notSynchronized hG Bd.returns (by simp) (hb hby at_142) (by decide) (by decide) ?_
    rw [e61]
    exact ⟨rfl, N62⟩
  ·
    refine own_newB X0 hx hZ (own_w hw 1 rfl) e0 (hb hby at_27) 1 rfl 1 (by decide) (by decide) (by decide) (by decide) 29 rfl (fun T63 h63 a63 g63 X63 e63 E63 V63 => ?_)
    have ge64 : n0 ≤ a63 := by rw [g63]; exact Z0
    have Z65 : n0 ≤ h63.size := Nat.le_trans Z0 E63.1
    rw [show (List.replicate 1 (0 : Int32)) = [(0 : Int32)] from rfl] at V63
    refine own_astore X63 hx (hb hby at_29) rfl #[.val (.int v0), .val (.int v1), .val (.int v2), .val (.int v3), .val (.int v4), .val (.int (1 : Int32)), .val (.int y52), .val (.int y53), .val (.int y54), .val (.int y55), .val (.ref a63), .unset, .unset] rfl 31 rfl ?_
    refine own_ldc2Long X63 hx hown (mvT hZ (own_w hw 2 rfl)) (hb hby at_31) 34 rfl ?_
    refine own_lstore X63 hx (hb hby at_34) #[.val (.int v0), .val (.int v1), .val (.int v2), .val (.int v3), .val (.int v4), .val (.int (1 : Int32)), .val (.int y52), .val (.int y53), .val (.int y54), .val (.int y55), .val (.ref a63), .val (.long (-3750763034362895579 : Int64)), .second] rfl 36 rfl ?_
    refine own_iload X63 hx (hb hby at_36) rfl 38 rfl ?_
    refine own_ifN X63 hx (hb hby at_38) ((if0 _ _).trans (tlt (by decide)).2.2.2) 41 rfl ?_
    refine own_aload X63 hx (hb hby at_41) rfl rfl 43 rfl ?_
    refine own_iconst X63 hx (hb hby at_43) (0 : Int32) rfl 44 rfl ?_
    refine own_iload X63 hx (hb hby at_44) rfl 46 rfl ?_
    refine own_bastore X63 hx hZ e63 V63 0 rfl (by simp) (hb hby at_46) 47 rfl (fun T66 h66 X66 e66 W66 V66 => ?_)
    rw [show [(0 : Int32)].set 0 (y52.toInt8.toInt32) = [y52] from (by rw [own_b hy52]; rfl)] at V66
    have N67 := Fr.snoc X66 N0 ge64
    have Z68 : n0 ≤ h66.size := by rw [W66.size]; exact Z65
    refine own_lload X66 hx (hb hby at_47) rfl 49 rfl ?_
    refine own_iload X66 hx (hb hby at_49) rfl 51 rfl ?_
    refine own_callS X66 hx hZ hown (own_w hw 16 rfl) (own_w hw 17 rfl) (own_w hw 5 rfl) (own_w hw 18 rfl) (by decide) e66 (rm1 l Z a0 hw [] (-3750763034362895579 : Int64) y52 h66 n0) (by rw [hml]; rfl) pd_2 (argsL := [(.long (-3750763034362895579 : Int64)), (.int y52)]) rfl (rest := []) rfl (hb hby at_51) 0 (Nat.le_of_eq rfl) (by decide) (by decide) (by decide) (by decide) 54 rfl (fun T69 L69 v69 X69 hQ69 => ?_)
    obtain ⟨rfl, N69, e69⟩ := hQ69
    have N70 := Fr.app N67 N69
    show own_Go p e below G (T69.setTop (mkF m 54 #[.val (.int v0), .val (.int v1), .val (.int v2), .val (.int v3), .val (.int v4), .val (.int (1 : Int32)), .val (.int y52), .val (.int y53), .val (.int y54), .val (.int y55), .val (.ref a63), .val (.long (-3750763034362895579 : Int64)), .second] [(.long (own_st (-3750763034362895579 : Int64) y52))]))
    refine own_lstore X69 hx (hb hby at_54) #[.val (.int v0), .val (.int v1), .val (.int v2), .val (.int v3), .val (.int v4), .val (.int (1 : Int32)), .val (.int y52), .val (.int y53), .val (.int y54), .val (.int y55), .val (.ref a63), .val (.long (own_st (-3750763034362895579 : Int64) y52)), .second] rfl 56 rfl ?_
    refine own_iload X69 hx (hb hby at_56) rfl 58 rfl ?_
    refine own_iconst X69 hx (hb hby at_58) (1 : Int32) rfl 59 rfl ?_
    refine own_icmpY X69 hx (hb hby at_59) (flt (by decide)).2.2.2 77 ⟨by decide, by decide⟩ ?_
    refine own_iload X69 hx (hb hby at_77) rfl 79 rfl ?_
    refine own_iconst X69 hx (hb hby at_79) (2 : Int32) rfl 80 rfl ?_
    refine own_icmpY X69 hx (hb hby at_80) (flt (by decide)).2.2.2 98 ⟨by decide, by decide⟩ ?_
    refine own_iload X69 hx (hb hby at_98) rfl 100 rfl ?_
    refine own_iconst X69 hx (hb hby at_100) (3 : Int32) rfl 101 rfl ?_
    refine own_icmpY X69 hx (hb hby at_101) (flt (by decide)).2.2.2 119 ⟨by decide, by decide⟩ ?_
    refine own_lload X69 hx (hb hby at_119) rfl 121 rfl ?_
    refine own_callS X69 hx hZ hown (own_w hw 3 rfl) (own_w hw 4 rfl) (own_w hw 5 rfl) (own_w hw 6 rfl) (by decide) e69 (rm2 l Z a0 hw [] (own_st (-3750763034362895579 : Int64) y52) h66 n0) (by rw [hml]; rfl) pd_0 (argsL := [(.long (own_st (-3750763034362895579 : Int64) y52))]) rfl (rest := []) rfl (hb hby at_121) 0 (Nat.le_of_eq rfl) (by decide) (by decide) (by decide) (by decide) 124 rfl (fun T71 L71 v71 X71 hQ71 => ?_)
    obtain ⟨rfl, N71, e71⟩ := hQ71
    have N72 := Fr.app N70 N71
    show own_Go p e below G (T71.setTop (mkF m 124 #[.val (.int v0), .val (.int v1), .val (.int v2), .val (.int v3), .val (.int v4), .val (.int (1 : Int32)), .val (.int y52), .val (.int y53), .val (.int y54), .val (.int y55), .val (.ref a63), .val (.long (own_st (-3750763034362895579 : Int64) y52)), .second] [(.long (own_mix (own_st (-3750763034362895579 : Int64) y52)))]))
    refine own_lstore X71 hx (hb hby at_124) #[.val (.int v0), .val (.int v1), .val (.int v2), .val (.int v3), .val (.int v4), .val (.int (1 : Int32)), .val (.int y52), .val (.int y53), .val (.int y54), .val (.int y55), .val (.ref a63), .val (.long (own_mix (own_st (-3750763034362895579 : Int64) y52))), .second] rfl 126 rfl ?_
    refine own_aload X71 hx (hb hby at_126) rfl rfl 128 rfl ?_
    refine own_callS X71 hx hZ hown (own_w hw 9 rfl) (own_w hw 10 rfl) (own_w hw 11 rfl) (own_w hw 12 rfl) (by decide) e71 (rmH1 l Z a0 hw [] a63 y52 h66 n0 V66) (by rw [hml]; rfl) pd_1 (argsL := [(.ref a63)]) rfl (rest := []) rfl (hb hby at_128) 0 (Nat.le_of_eq rfl) (by decide) (by decide) (by decide) (by decide) 131 rfl (fun T73 L73 v73 X73 hQ73 => ?_)
    obtain ⟨rfl, N73, e73⟩ := hQ73
    have N74 := Fr.app N72 N73
    show own_Go p e below G (T73.setTop (mkF m 131 #[.val (.int v0), .val (.int v1), .val (.int v2), .val (.int v3), .val (.int v4), .val (.int (1 : Int32)), .val (.int y52), .val (.int y53), .val (.int y54), .val (.int y55), .val (.ref a63), .val (.long (own_mix (own_st (-3750763034362895579 : Int64) y52))), .second] [(.long (own_mix (own_st (-3750763034362895579 : Int64) y52)))]))
    refine own_lload X73 hx (hb hby at_131) rfl 133 rfl ?_
    refine own_lcmp X73 hx (hb hby at_133) 134 rfl ?_
    refine own_ifN X73 hx (hb hby at_134) (own_eqL rfl).2 137 rfl ?_
    refine own_iconst X73 hx (hb hby at_137) (1 : Int32) rfl 138 rfl ?_
    refine own_goto X73 hx (hb hby at_138) 142 ⟨by decide, by decide⟩ ?_
    refine own_nreturn X73 hx Bd.notSynchronized hG Bd.returns (by simp) (hb hby at_142) (by decide) (by decide) ?_
    rw [e73]
    exact ⟨rfl, N74⟩
  ·
    refine own_newB X0 hx hZ (own_w hw 1 rfl) e0 (hb hby at_27) 2 rfl 2 (by decide) (by decide) (by decide) (by decide) 29 rfl (fun T75 h75 a75 g75 X75 e75 E75 V75 => ?_)
    have ge76 : n0 ≤ a75 := by rw [g75]; exact Z0
    have Z77 : n0 ≤ h75.size := Nat.le_trans Z0 E75.1
    rw [show (List.replicate 2 (0 : Int32)) = [(0 : Int32), (0 : Int32)] from rfl] at V75
    refine own_astore X75 hx (hb hby at_29) rfl #[.val (.int v0), .val (.int v1), .val (.int v2), .val (.int v3), .val (.int v4), .val (.int (2 : Int32)), .val (.int y52), .val (.int y53), .val (.int y54), .val (.int y55), .val (.ref a75), .unset, .unset] rfl 31 rfl ?_
    refine own_ldc2Long X75 hx hown (mvT hZ (own_w hw 2 rfl)) (hb hby at_31) 34 rfl ?_
    refine own_lstore X75 hx (hb hby at_34) #[.val (.int v0), .val (.int v1), .val (.int v2), .val (.int v3), .val (.int v4), .val (.int (2 : Int32)), .val (.int y52), .val (.int y53), .val (.int y54), .val (.int y55), .val (.ref a75), .val (.long (-3750763034362895579 : Int64)), .second] rfl 36 rfl ?_
    refine own_iload X75 hx (hb hby at_36) rfl 38 rfl ?_
    refine own_ifN X75 hx (hb hby at_38) ((if0 _ _).trans (tlt (by decide)).2.2.2) 41 rfl ?_
    refine own_aload X75 hx (hb hby at_41) rfl rfl 43 rfl ?_
    refine own_iconst X75 hx (hb hby at_43) (0 : Int32) rfl 44 rfl ?_
    refine own_iload X75 hx (hb hby at_44) rfl 46 rfl ?_
    refine own_bastore X75 hx hZ e75 V75 0 rfl (by simp) (hb hby at_46) 47 rfl (fun T78 h78 X78 e78 W78 V78 => ?_)
    rw [show [(0 : Int32), (0 : Int32)].set 0 (y52.toInt8.toInt32) = [y52, (0 : Int32)] from (by rw [own_b hy52]; rfl)] at V78
    have N79 := Fr.snoc X78 N0 ge76
    have Z80 : n0 ≤ h78.size := by rw [W78.size]; exact Z77
    refine own_lload X78 hx (hb hby at_47) rfl 49 rfl ?_
    refine own_iload X78 hx (hb hby at_49) rfl 51 rfl ?_
    refine own_callS X78 hx hZ hown (own_w hw 16 rfl) (own_w hw 17 rfl) (own_w hw 5 rfl) (own_w hw 18 rfl) (by decide) e78 (rm1 l Z a0 hw [] (-3750763034362895579 : Int64) y52 h78 n0) (by rw [hml]; rfl) pd_2 (argsL := [(.long (-3750763034362895579 : Int64)), (.int y52)]) rfl (rest := []) rfl (hb hby at_51) 0 (Nat.le_of_eq rfl) (by decide) (by decide) (by decide) (by decide) 54 rfl (fun T81 L81 v81 X81 hQ81 => ?_)
    obtain ⟨rfl, N81, e81⟩ := hQ81
    have N82 := Fr.app N79 N81
    show own_Go p e below G (T81.setTop (mkF m 54 #[.val (.int v0), .val (.int v1), .val (.int v2), .val (.int v3), .val (.int v4), .val (.int (2 : Int32)), .val (.int y52), .val (.int y53), .val (.int y54), .val (.int y55), .val (.ref a75), .val (.long (-3750763034362895579 : Int64)), .second] [(.long (own_st (-3750763034362895579 : Int64) y52))]))
    refine own_lstore X81 hx (hb hby at_54) #[.val (.int v0), .val (.int v1), .val (.int v2), .val (.int v3), .val (.int v4), .val (.int (2 : Int32)), .val (.int y52), .val (.int y53), .val (.int y54), .val (.int y55), .val (.ref a75), .val (.long (own_st (-3750763034362895579 : Int64) y52)), .second] rfl 56 rfl ?_
    refine own_iload X81 hx (hb hby at_56) rfl 58 rfl ?_
    refine own_iconst X81 hx (hb hby at_58) (1 : Int32) rfl 59 rfl ?_
    refine own_icmpN X81 hx (hb hby at_59) (tlt (by decide)).2.2.2 62 rfl ?_
    refine own_aload X81 hx (hb hby at_62) rfl rfl 64 rfl ?_
    refine own_iconst X81 hx (hb hby at_64) (1 : Int32) rfl 65 rfl ?_
    refine own_iload X81 hx (hb hby at_65) rfl 67 rfl ?_
    refine own_bastore X81 hx hZ e81 V78 1 rfl (by simp) (hb hby at_67) 68 rfl (fun T83 h83 X83 e83 W83 V83 => ?_)
    rw [show [y52, (0 : Int32)].set 1 (y53.toInt8.toInt32) = [y52, y53] from (by rw [own_b hy53]; rfl)] at V83
    have N84 := Fr.snoc X83 N82 ge76
    have Z85 : n0 ≤ h83.size := by rw [W83.size]; exact Z80
    refine own_lload X83 hx (hb hby at_68) rfl 70 rfl ?_
    refine own_iload X83 hx (hb hby at_70) rfl 72 rfl ?_
    refine own_callS X83 hx hZ hown (own_w hw 16 rfl) (own_w hw 17 rfl) (own_w hw 5 rfl) (own_w hw 18 rfl) (by decide) e83 (rm1 l Z a0 hw [] (own_st (-3750763034362895579 : Int64) y52) y53 h83 n0) (by rw [hml]; rfl) pd_2 (argsL := [(.long (own_st (-3750763034362895579 : Int64) y52)), (.int y53)]) rfl (rest := []) rfl (hb hby at_72) 0 (Nat.le_of_eq rfl) (by decide) (by decide) (by decide) (by decide) 75 rfl (fun T86 L86 v86 X86 hQ86 => ?_)
    obtain ⟨rfl, N86, e86⟩ := hQ86
    have N87 := Fr.app N84 N86
    show own_Go p e below G (T86.setTop (mkF m 75 #[.val (.int v0), .val (.int v1), .val (.int v2), .val (.int v3), .val (.int v4), .val (.int (2 : Int32)), .val (.int y52), .val (.int y53), .val (.int y54), .val (.int y55), .val (.ref a75), .val (.long (own_st (-3750763034362895579 : Int64) y52)), .second] [(.long (own_st (own_st (-3750763034362895579 : Int64) y52) y53))]))
    refine own_lstore X86 hx (hb hby at_75) #[.val (.int v0), .val (.int v1), .val (.int v2), .val (.int v3), .val (.int v4), .val (.int (2 : Int32)), .val (.int y52), .val (.int y53), .val (.int y54), .val (.int y55), .val (.ref a75), .val (.long (own_st (own_st (-3750763034362895579 : Int64) y52) y53)), .second] rfl 77 rfl ?_
    refine own_iload X86 hx (hb hby at_77) rfl 79 rfl ?_
    refine own_iconst X86 hx (hb hby at_79) (2 : Int32) rfl 80 rfl ?_
    refine own_icmpY X86 hx (hb hby at_80) (flt (by decide)).2.2.2 98 ⟨by decide, by decide⟩ ?_
    refine own_iload X86 hx (hb hby at_98) rfl 100 rfl ?_
    refine own_iconst X86 hx (hb hby at_100) (3 : Int32) rfl 101 rfl ?_
    refine own_icmpY X86 hx (hb hby at_101) (flt (by decide)).2.2.2 119 ⟨by decide, by decide⟩ ?_
    refine own_lload X86 hx (hb hby at_119) rfl 121 rfl ?_
    refine own_callS X86 hx hZ hown (own_w hw 3 rfl) (own_w hw 4 rfl) (own_w hw 5 rfl) (own_w hw 6 rfl) (by decide) e86 (rm2 l Z a0 hw [] (own_st (own_st (-3750763034362895579 : Int64) y52) y53) h83 n0) (by rw [hml]; rfl) pd_0 (argsL := [(.long (own_st (own_st (-3750763034362895579 : Int64) y52) y53))]) rfl (rest := []) rfl (hb hby at_121) 0 (Nat.le_of_eq rfl) (by decide) (by decide) (by decide) (by decide) 124 rfl (fun T88 L88 v88 X88 hQ88 => ?_)
    obtain ⟨rfl, N88, e88⟩ := hQ88
    have N89 := Fr.app N87 N88
    show own_Go p e below G (T88.setTop (mkF m 124 #[.val (.int v0), .val (.int v1), .val (.int v2), .val (.int v3), .val (.int v4), .val (.int (2 : Int32)), .val (.int y52), .val (.int y53), .val (.int y54), .val (.int y55), .val (.ref a75), .val (.long (own_st (own_st (-3750763034362895579 : Int64) y52) y53)), .second] [(.long (own_mix (own_st (own_st (-3750763034362895579 : Int64) y52) y53)))]))
    refine own_lstore X88 hx (hb hby at_124) #[.val (.int v0), .val (.int v1), .val (.int v2), .val (.int v3), .val (.int v4), .val (.int (2 : Int32)), .val (.int y52), .val (.int y53), .val (.int y54), .val (.int y55), .val (.ref a75), .val (.long (own_mix (own_st (own_st (-3750763034362895579 : Int64) y52) y53))), .second] rfl 126 rfl ?_
    refine own_aload X88 hx (hb hby at_126) rfl rfl 128 rfl ?_
    refine own_callS X88 hx hZ hown (own_w hw 9 rfl) (own_w hw 10 rfl) (own_w hw 11 rfl) (own_w hw 12 rfl) (by decide) e88 (rmH2 l Z a0 hw [] a75 y52 y53 h83 n0 V83) (by rw [hml]; rfl) pd_1 (argsL := [(.ref a75)]) rfl (rest := []) rfl (hb hby at_128) 0 (Nat.le_of_eq rfl) (by decide) (by decide) (by decide) (by decide) 131 rfl (fun T90 L90 v90 X90 hQ90 => ?_)
    obtain ⟨rfl, N90, e90⟩ := hQ90
    have N91 := Fr.app N89 N90
    show own_Go p e below G (T90.setTop (mkF m 131 #[.val (.int v0), .val (.int v1), .val (.int v2), .val (.int v3), .val (.int v4), .val (.int (2 : Int32)), .val (.int y52), .val (.int y53), .val (.int y54), .val (.int y55), .val (.ref a75), .val (.long (own_mix (own_st (own_st (-3750763034362895579 : Int64) y52) y53))), .second] [(.long (own_mix (own_st (own_st (-3750763034362895579 : Int64) y52) y53)))]))
    refine own_lload X90 hx (hb hby at_131) rfl 133 rfl ?_
    refine own_lcmp X90 hx (hb hby at_133) 134 rfl ?_
    refine own_ifN X90 hx (hb hby at_134) (own_eqL rfl).2 137 rfl ?_
    refine own_iconst X90 hx (hb hby at_137) (1 : Int32) rfl 138 rfl ?_
    refine own_goto X90 hx (hb hby at_138) 142 ⟨by decide, by decide⟩ ?_
    refine own_nreturn X90 hx Bd.notSynchronized hG Bd.returns (by simp) (hb hby at_142) (by decide) (by decide) ?_
    rw [e90]
    exact ⟨rfl, N91⟩
  ·
    refine own_newB X0 hx hZ (own_w hw 1 rfl) e0 (hb hby at_27) 3 rfl 3 (by decide) (by decide) (by decide) (by decide) 29 rfl (fun T92 h92 a92 g92 X92 e92 E92 V92 => ?_)
    have ge93 : n0 ≤ a92 := by rw [g92]; exact Z0
    have Z94 : n0 ≤ h92.size := Nat.le_trans Z0 E92.1
    rw [show (List.replicate 3 (0 : Int32)) = [(0 : Int32), (0 : Int32), (0 : Int32)] from rfl] at V92
    refine own_astore X92 hx (hb hby at_29) rfl #[.val (.int v0), .val (.int v1), .val (.int v2), .val (.int v3), .val (.int v4), .val (.int (3 : Int32)), .val (.int y52), .val (.int y53), .val (.int y54), .val (.int y55), .val (.ref a92), .unset, .unset] rfl 31 rfl ?_
    refine own_ldc2Long X92 hx hown (mvT hZ (own_w hw 2 rfl)) (hb hby at_31) 34 rfl ?_
    refine own_lstore X92 hx (hb hby at_34) #[.val (.int v0), .val (.int v1), .val (.int v2), .val (.int v3), .val (.int v4), .val (.int (3 : Int32)), .val (.int y52), .val (.int y53), .val (.int y54), .val (.int y55), .val (.ref a92), .val (.long (-3750763034362895579 : Int64)), .second] rfl 36 rfl ?_
    refine own_iload X92 hx (hb hby at_36) rfl 38 rfl ?_
    refine own_ifN X92 hx (hb hby at_38) ((if0 _ _).trans (tlt (by decide)).2.2.2) 41 rfl ?_
    refine own_aload X92 hx (hb hby at_41) rfl rfl 43 rfl ?_
    refine own_iconst X92 hx (hb hby at_43) (0 : Int32) rfl 44 rfl ?_
    refine own_iload X92 hx (hb hby at_44) rfl 46 rfl ?_
    refine own_bastore X92 hx hZ e92 V92 0 rfl (by simp) (hb hby at_46) 47 rfl (fun T95 h95 X95 e95 W95 V95 => ?_)
    rw [show [(0 : Int32), (0 : Int32), (0 : Int32)].set 0 (y52.toInt8.toInt32) = [y52, (0 : Int32), (0 : Int32)] from (by rw [own_b hy52]; rfl)] at V95
    have N96 := Fr.snoc X95 N0 ge93
    have Z97 : n0 ≤ h95.size := by rw [W95.size]; exact Z94
    refine own_lload X95 hx (hb hby at_47) rfl 49 rfl ?_
    refine own_iload X95 hx (hb hby at_49) rfl 51 rfl ?_
    refine own_callS X95 hx hZ hown (own_w hw 16 rfl) (own_w hw 17 rfl) (own_w hw 5 rfl) (own_w hw 18 rfl) (by decide) e95 (rm1 l Z a0 hw [] (-3750763034362895579 : Int64) y52 h95 n0) (by rw [hml]; rfl) pd_2 (argsL := [(.long (-3750763034362895579 : Int64)), (.int y52)]) rfl (rest := []) rfl (hb hby at_51) 0 (Nat.le_of_eq rfl) (by decide) (by decide) (by decide) (by decide) 54 rfl (fun T98 L98 v98 X98 hQ98 => ?_)
    obtain ⟨rfl, N98, e98⟩ := hQ98
    have N99 := Fr.app N96 N98
    show own_Go p e below G (T98.setTop (mkF m 54 #[.val (.int v0), .val (.int v1), .val (.int v2), .val (.int v3), .val (.int v4), .val (.int (3 : Int32)), .val (.int y52), .val (.int y53), .val (.int y54), .val (.int y55), .val (.ref a92), .val (.long (-3750763034362895579 : Int64)), .second] [(.long (own_st (-3750763034362895579 : Int64) y52))]))
    refine own_lstore X98 hx (hb hby at_54) #[.val (.int v0), .val (.int v1), .val (.int v2), .val (.int v3), .val (.int v4), .val (.int (3 : Int32)), .val (.int y52), .val (.int y53), .val (.int y54), .val (.int y55), .val (.ref a92), .val (.long (own_st (-3750763034362895579 : Int64) y52)), .second] rfl 56 rfl ?_
    refine own_iload X98 hx (hb hby at_56) rfl 58 rfl ?_
    refine own_iconst X98 hx (hb hby at_58) (1 : Int32) rfl 59 rfl ?_
    refine own_icmpN X98 hx (hb hby at_59) (tlt (by decide)).2.2.2 62 rfl ?_
    refine own_aload X98 hx (hb hby at_62) rfl rfl 64 rfl ?_
    refine own_iconst X98 hx (hb hby at_64) (1 : Int32) rfl 65 rfl ?_
    refine own_iload X98 hx (hb hby at_65) rfl 67 rfl ?_
    refine own_bastore X98 hx hZ e98 V95 1 rfl (by simp) (hb hby at_67) 68 rfl (fun T100 h100 X100 e100 W100 V100 => ?_)
    rw [show [y52, (0 : Int32), (0 : Int32)].set 1 (y53.toInt8.toInt32) = [y52, y53, (0 : Int32)] from (by rw [own_b hy53]; rfl)] at V100
    have N101 := Fr.snoc X100 N99 ge93
    have Z102 : n0 ≤ h100.size := by rw [W100.size]; exact Z97
    refine own_lload X100 hx (hb hby at_68) rfl 70 rfl ?_
    refine own_iload X100 hx (hb hby at_70) rfl 72 rfl ?_
    refine own_callS X100 hx hZ hown (own_w hw 16 rfl) (own_w hw 17 rfl) (own_w hw 5 rfl) (own_w hw 18 rfl) (by decide) e100 (rm1 l Z a0 hw [] (own_st (-3750763034362895579 : Int64) y52) y53 h100 n0) (by rw [hml]; rfl) pd_2 (argsL := [(.long (own_st (-3750763034362895579 : Int64) y52)), (.int y53)]) rfl (rest := []) rfl (hb hby at_72) 0 (Nat.le_of_eq rfl) (by decide) (by decide) (by decide) (by decide) 75 rfl (fun T103 L103 v103 X103 hQ103 => ?_)
    obtain ⟨rfl, N103, e103⟩ := hQ103
    have N104 := Fr.app N101 N103
    show own_Go p e below G (T103.setTop (mkF m 75 #[.val (.int v0), .val (.int v1), .val (.int v2), .val (.int v3), .val (.int v4), .val (.int (3 : Int32)), .val (.int y52), .val (.int y53), .val (.int y54), .val (.int y55), .val (.ref a92), .val (.long (own_st (-3750763034362895579 : Int64) y52)), .second] [(.long (own_st (own_st (-3750763034362895579 : Int64) y52) y53))]))
    refine own_lstore X103 hx (hb hby at_75) #[.val (.int v0), .val (.int v1), .val (.int v2), .val (.int v3), .val (.int v4), .val (.int (3 : Int32)), .val (.int y52), .val (.int y53), .val (.int y54), .val (.int y55), .val (.ref a92), .val (.long (own_st (own_st (-3750763034362895579 : Int64) y52) y53)), .second] rfl 77 rfl ?_
    refine own_iload X103 hx (hb hby at_77) rfl 79 rfl ?_
    refine own_iconst X103 hx (hb hby at_79) (2 : Int32) rfl 80 rfl ?_
    refine own_icmpN X103 hx (hb hby at_80) (tlt (by decide)).2.2.2 83 rfl ?_
    refine own_aload X103 hx (hb hby at_83) rfl rfl 85 rfl ?_
    refine own_iconst X103 hx (hb hby at_85) (2 : Int32) rfl 86 rfl ?_
    refine own_iload X103 hx (hb hby at_86) rfl 88 rfl ?_
    refine own_bastore X103 hx hZ e103 V100 2 rfl (by simp) (hb hby at_88) 89 rfl (fun T105 h105 X105 e105 W105 V105 => ?_)
    rw [show [y52, y53, (0 : Int32)].set 2 (y54.toInt8.toInt32) = [y52, y53, y54] from (by rw [own_b hy54]; rfl)] at V105
    have N106 := Fr.snoc X105 N104 ge93
    have Z107 : n0 ≤ h105.size := by rw [W105.size]; exact Z102
    refine own_lload X105 hx (hb hby at_89) rfl 91 rfl ?_
    refine own_iload X105 hx (hb hby at_91) rfl 93 rfl ?_
    refine own_callS X105 hx hZ hown (own_w hw 16 rfl) (own_w hw 17 rfl) (own_w hw 5 rfl) (own_w hw 18 rfl) (by decide) e105 (rm1 l Z a0 hw [] (own_st (own_st (-3750763034362895579 : Int64) y52) y53) y54 h105 n0) (by rw [hml]; rfl) pd_2 (argsL := [(.long (own_st (own_st (-3750763034362895579 : Int64) y52) y53)), (.int y54)]) rfl (rest := []) rfl (hb hby at_93) 0 (Nat.le_of_eq rfl) (by decide) (by decide) (by decide) (by decide) 96 rfl (fun T108 L108 v108 X108 hQ108 => ?_)
    obtain ⟨rfl, N108, e108⟩ := hQ108
    have N109 := Fr.app N106 N108
    show own_Go p e below G (T108.setTop (mkF m 96 #[.val (.int v0), .val (.int v1), .val (.int v2), .val (.int v3), .val (.int v4), .val (.int (3 : Int32)), .val (.int y52), .val (.int y53), .val (.int y54), .val (.int y55), .val (.ref a92), .val (.long (own_st (own_st (-3750763034362895579 : Int64) y52) y53)), .second] [(.long (own_st (own_st (own_st (-3750763034362895579 : Int64) y52) y53) y54))]))
    refine own_lstore X108 hx (hb hby at_96) #[.val (.int v0), .val (.int v1), .val (.int v2), .val (.int v3), .val (.int v4), .val (.int (3 : Int32)), .val (.int y52), .val (.int y53), .val (.int y54), .val (.int y55), .val (.ref a92), .val (.long (own_st (own_st (own_st (-3750763034362895579 : Int64) y52) y53) y54)), .second] rfl 98 rfl ?_
    refine own_iload X108 hx (hb hby at_98) rfl 100 rfl ?_
    refine own_iconst X108 hx (hb hby at_100) (3 : Int32) rfl 101 rfl ?_
    refine own_icmpY X108 hx (hb hby at_101) (flt (by decide)).2.2.2 119 ⟨by decide, by decide⟩ ?_
    refine own_lload X108 hx (hb hby at_119) rfl 121 rfl ?_
    refine own_callS X108 hx hZ hown (own_w hw 3 rfl) (own_w hw 4 rfl) (own_w hw 5 rfl) (own_w hw 6 rfl) (by decide) e108 (rm2 l Z a0 hw [] (own_st (own_st (own_st (-3750763034362895579 : Int64) y52) y53) y54) h105 n0) (by rw [hml]; rfl) pd_0 (argsL := [(.long (own_st (own_st (own_st (-3750763034362895579 : Int64) y52) y53) y54))]) rfl (rest := []) rfl (hb hby at_121) 0 (Nat.le_of_eq rfl) (by decide) (by decide) (by decide) (by decide) 124 rfl (fun T110 L110 v110 X110 hQ110 => ?_)
    obtain ⟨rfl, N110, e110⟩ := hQ110
    have N111 := Fr.app N109 N110
    show own_Go p e below G (T110.setTop (mkF m 124 #[.val (.int v0), .val (.int v1), .val (.int v2), .val (.int v3), .val (.int v4), .val (.int (3 : Int32)), .val (.int y52), .val (.int y53), .val (.int y54), .val (.int y55), .val (.ref a92), .val (.long (own_st (own_st (own_st (-3750763034362895579 : Int64) y52) y53) y54)), .second] [(.long (own_mix (own_st (own_st (own_st (-3750763034362895579 : Int64) y52) y53) y54)))]))
    refine own_lstore X110 hx (hb hby at_124) #[.val (.int v0), .val (.int v1), .val (.int v2), .val (.int v3), .val (.int v4), .val (.int (3 : Int32)), .val (.int y52), .val (.int y53), .val (.int y54), .val (.int y55), .val (.ref a92), .val (.long (own_mix (own_st (own_st (own_st (-3750763034362895579 : Int64) y52) y53) y54))), .second] rfl 126 rfl ?_
    refine own_aload X110 hx (hb hby at_126) rfl rfl 128 rfl ?_
    refine own_callS X110 hx hZ hown (own_w hw 9 rfl) (own_w hw 10 rfl) (own_w hw 11 rfl) (own_w hw 12 rfl) (by decide) e110 (rmH3 l Z a0 hw [] a92 y52 y53 y54 h105 n0 V105) (by rw [hml]; rfl) pd_1 (argsL := [(.ref a92)]) rfl (rest := []) rfl (hb hby at_128) 0 (Nat.le_of_eq rfl) (by decide) (by decide) (by decide) (by decide) 131 rfl (fun T112 L112 v112 X112 hQ112 => ?_)
    obtain ⟨rfl, N112, e112⟩ := hQ112
    have N113 := Fr.app N111 N112
    show own_Go p e below G (T112.setTop (mkF m 131 #[.val (.int v0), .val (.int v1), .val (.int v2), .val (.int v3), .val (.int v4), .val (.int (3 : Int32)), .val (.int y52), .val (.int y53), .val (.int y54), .val (.int y55), .val (.ref a92), .val (.long (own_mix (own_st (own_st (own_st (-3750763034362895579 : Int64) y52) y53) y54))), .second] [(.long (own_mix (own_st (own_st (own_st (-3750763034362895579 : Int64) y52) y53) y54)))]))
    refine own_lload X112 hx (hb hby at_131) rfl 133 rfl ?_
    refine own_lcmp X112 hx (hb hby at_133) 134 rfl ?_
    refine own_ifN X112 hx (hb hby at_134) (own_eqL rfl).2 137 rfl ?_
    refine own_iconst X112 hx (hb hby at_137) (1 : Int32) rfl 138 rfl ?_
    refine own_goto X112 hx (hb hby at_138) 142 ⟨by decide, by decide⟩ ?_
    refine own_nreturn X112 hx Bd.notSynchronized hG Bd.returns (by simp) (hb hby at_142) (by decide) (by decide) ?_
    rw [e112]
    exact ⟨rfl, N113⟩
  ·
    refine own_newB X0 hx hZ (own_w hw 1 rfl) e0 (hb hby at_27) 4 rfl 4 (by decide) (by decide) (by decide) (by decide) 29 rfl (fun T114 h114 a114 g114 X114 e114 E114 V114 => ?_)
    have ge115 : n0 ≤ a114 := by rw [g114]; exact Z0
    have Z116 : n0 ≤ h114.size := Nat.le_trans Z0 E114.1
    rw [show (List.replicate 4 (0 : Int32)) = [(0 : Int32), (0 : Int32), (0 : Int32), (0 : Int32)] from rfl] at V114
    refine own_astore X114 hx (hb hby at_29) rfl #[.val (.int v0), .val (.int v1), .val (.int v2), .val (.int v3), .val (.int v4), .val (.int (4 : Int32)), .val (.int y52), .val (.int y53), .val (.int y54), .val (.int y55), .val (.ref a114), .unset, .unset] rfl 31 rfl ?_
    refine own_ldc2Long X114 hx hown (mvT hZ (own_w hw 2 rfl)) (hb hby at_31) 34 rfl ?_
    refine own_lstore X114 hx (hb hby at_34) #[.val (.int v0), .val (.int v1), .val (.int v2), .val (.int v3), .val (.int v4), .val (.int (4 : Int32)), .val (.int y52), .val (.int y53), .val (.int y54), .val (.int y55), .val (.ref a114), .val (.long (-3750763034362895579 : Int64)), .second] rfl 36 rfl ?_
    refine own_iload X114 hx (hb hby at_36) rfl 38 rfl ?_
    refine own_ifN X114 hx (hb hby at_38) ((if0 _ _).trans (tlt (by decide)).2.2.2) 41 rfl ?_
    refine own_aload X114 hx (hb hby at_41) rfl rfl 43 rfl ?_
    refine own_iconst X114 hx (hb hby at_43) (0 : Int32) rfl 44 rfl ?_
    refine own_iload X114 hx (hb hby at_44) rfl 46 rfl ?_
    refine own_bastore X114 hx hZ e114 V114 0 rfl (by simp) (hb hby at_46) 47 rfl (fun T117 h117 X117 e117 W117 V117 => ?_)
    rw [show [(0 : Int32), (0 : Int32), (0 : Int32), (0 : Int32)].set 0 (y52.toInt8.toInt32) = [y52, (0 : Int32), (0 : Int32), (0 : Int32)] from (by rw [own_b hy52]; rfl)] at V117
    have N118 := Fr.snoc X117 N0 ge115
    have Z119 : n0 ≤ h117.size := by rw [W117.size]; exact Z116
    refine own_lload X117 hx (hb hby at_47) rfl 49 rfl ?_
    refine own_iload X117 hx (hb hby at_49) rfl 51 rfl ?_
    refine own_callS X117 hx hZ hown (own_w hw 16 rfl) (own_w hw 17 rfl) (own_w hw 5 rfl) (own_w hw 18 rfl) (by decide) e117 (rm1 l Z a0 hw [] (-3750763034362895579 : Int64) y52 h117 n0) (by rw [hml]; rfl) pd_2 (argsL := [(.long (-3750763034362895579 : Int64)), (.int y52)]) rfl (rest := []) rfl (hb hby at_51) 0 (Nat.le_of_eq rfl) (by decide) (by decide) (by decide) (by decide) 54 rfl (fun T120 L120 v120 X120 hQ120 => ?_)
    obtain ⟨rfl, N120, e120⟩ := hQ120
    have N121 := Fr.app N118 N120
    show own_Go p e below G (T120.setTop (mkF m 54 #[.val (.int v0), .val (.int v1), .val (.int v2), .val (.int v3), .val (.int v4), .val (.int (4 : Int32)), .val (.int y52), .val (.int y53), .val (.int y54), .val (.int y55), .val (.ref a114), .val (.long (-3750763034362895579 : Int64)), .second] [(.long (own_st (-3750763034362895579 : Int64) y52))]))
    refine own_lstore X120 hx (hb hby at_54) #[.val (.int v0), .val (.int v1), .val (.int v2), .val (.int v3), .val (.int v4), .val (.int (4 : Int32)), .val (.int y52), .val (.int y53), .val (.int y54), .val (.int y55), .val (.ref a114), .val (.long (own_st (-3750763034362895579 : Int64) y52)), .second] rfl 56 rfl ?_
    refine own_iload X120 hx (hb hby at_56) rfl 58 rfl ?_
    refine own_iconst X120 hx (hb hby at_58) (1 : Int32) rfl 59 rfl ?_
    refine own_icmpN X120 hx (hb hby at_59) (tlt (by decide)).2.2.2 62 rfl ?_
    refine own_aload X120 hx (hb hby at_62) rfl rfl 64 rfl ?_
    refine own_iconst X120 hx (hb hby at_64) (1 : Int32) rfl 65 rfl ?_
    refine own_iload X120 hx (hb hby at_65) rfl 67 rfl ?_
    refine own_bastore X120 hx hZ e120 V117 1 rfl (by simp) (hb hby at_67) 68 rfl (fun T122 h122 X122 e122 W122 V122 => ?_)
    rw [show [y52, (0 : Int32), (0 : Int32), (0 : Int32)].set 1 (y53.toInt8.toInt32) = [y52, y53, (0 : Int32), (0 : Int32)] from (by rw [own_b hy53]; rfl)] at V122
    have N123 := Fr.snoc X122 N121 ge115
    have Z124 : n0 ≤ h122.size := by rw [W122.size]; exact Z119
    refine own_lload X122 hx (hb hby at_68) rfl 70 rfl ?_
    refine own_iload X122 hx (hb hby at_70) rfl 72 rfl ?_
    refine own_callS X122 hx hZ hown (own_w hw 16 rfl) (own_w hw 17 rfl) (own_w hw 5 rfl) (own_w hw 18 rfl) (by decide) e122 (rm1 l Z a0 hw [] (own_st (-3750763034362895579 : Int64) y52) y53 h122 n0) (by rw [hml]; rfl) pd_2 (argsL := [(.long (own_st (-3750763034362895579 : Int64) y52)), (.int y53)]) rfl (rest := []) rfl (hb hby at_72) 0 (Nat.le_of_eq rfl) (by decide) (by decide) (by decide) (by decide) 75 rfl (fun T125 L125 v125 X125 hQ125 => ?_)
    obtain ⟨rfl, N125, e125⟩ := hQ125
    have N126 := Fr.app N123 N125
    show own_Go p e below G (T125.setTop (mkF m 75 #[.val (.int v0), .val (.int v1), .val (.int v2), .val (.int v3), .val (.int v4), .val (.int (4 : Int32)), .val (.int y52), .val (.int y53), .val (.int y54), .val (.int y55), .val (.ref a114), .val (.long (own_st (-3750763034362895579 : Int64) y52)), .second] [(.long (own_st (own_st (-3750763034362895579 : Int64) y52) y53))]))
    refine own_lstore X125 hx (hb hby at_75) #[.val (.int v0), .val (.int v1), .val (.int v2), .val (.int v3), .val (.int v4), .val (.int (4 : Int32)), .val (.int y52), .val (.int y53), .val (.int y54), .val (.int y55), .val (.ref a114), .val (.long (own_st (own_st (-3750763034362895579 : Int64) y52) y53)), .second] rfl 77 rfl ?_
    refine own_iload X125 hx (hb hby at_77) rfl 79 rfl ?_
    refine own_iconst X125 hx (hb hby at_79) (2 : Int32) rfl 80 rfl ?_
    refine own_icmpN X125 hx (hb hby at_80) (tlt (by decide)).2.2.2 83 rfl ?_
    refine own_aload X125 hx (hb hby at_83) rfl rfl 85 rfl ?_
    refine own_iconst X125 hx (hb hby at_85) (2 : Int32) rfl 86 rfl ?_
    refine own_iload X125 hx (hb hby at_86) rfl 88 rfl ?_
    refine own_bastore X125 hx hZ e125 V122 2 rfl (by simp) (hb hby at_88) 89 rfl (fun T127 h127 X127 e127 W127 V127 => ?_)
    rw [show [y52, y53, (0 : Int32), (0 : Int32)].set 2 (y54.toInt8.toInt32) = [y52, y53, y54, (0 : Int32)] from (by rw [own_b hy54]; rfl)] at V127
    have N128 := Fr.snoc X127 N126 ge115
    have Z129 : n0 ≤ h127.size := by rw [W127.size]; exact Z124
    refine own_lload X127 hx (hb hby at_89) rfl 91 rfl ?_
    refine own_iload X127 hx (hb hby at_91) rfl 93 rfl ?_
    refine own_callS X127 hx hZ hown (own_w hw 16 rfl) (own_w hw 17 rfl) (own_w hw 5 rfl) (own_w hw 18 rfl) (by decide) e127 (rm1 l Z a0 hw [] (own_st (own_st (-3750763034362895579 : Int64) y52) y53) y54 h127 n0) (by rw [hml]; rfl) pd_2 (argsL := [(.long (own_st (own_st (-3750763034362895579 : Int64) y52) y53)), (.int y54)]) rfl (rest := []) rfl (hb hby at_93) 0 (Nat.le_of_eq rfl) (by decide) (by decide) (by decide) (by decide) 96 rfl (fun T130 L130 v130 X130 hQ130 => ?_)
    obtain ⟨rfl, N130, e130⟩ := hQ130
    have N131 := Fr.app N128 N130
    show own_Go p e below G (T130.setTop (mkF m 96 #[.val (.int v0), .val (.int v1), .val (.int v2), .val (.int v3), .val (.int v4), .val (.int (4 : Int32)), .val (.int y52), .val (.int y53), .val (.int y54), .val (.int y55), .val (.ref a114), .val (.long (own_st (own_st (-3750763034362895579 : Int64) y52) y53)), .second] [(.long (own_st (own_st (own_st (-3750763034362895579 : Int64) y52) y53) y54))]))
    refine own_lstore X130 hx (hb hby at_96) #[.val (.int v0), .val (.int v1), .val (.int v2), .val (.int v3), .val (.int v4), .val (.int (4 : Int32)), .val (.int y52), .val (.int y53), .val (.int y54), .val (.int y55), .val (.ref a114), .val (.long (own_st (own_st (own_st (-3750763034362895579 : Int64) y52) y53) y54)), .second] rfl 98 rfl ?_
    refine own_iload X130 hx (hb hby at_98) rfl 100 rfl ?_
    refine own_iconst X130 hx (hb hby at_100) (3 : Int32) rfl 101 rfl ?_
    refine own_icmpN X130 hx (hb hby at_101) (tlt (by decide)).2.2.2 104 rfl ?_
    refine own_aload X130 hx (hb hby at_104) rfl rfl 106 rfl ?_
    refine own_iconst X130 hx (hb hby at_106) (3 : Int32) rfl 107 rfl ?_
    refine own_iload X130 hx (hb hby at_107) rfl 109 rfl ?_
    refine own_bastore X130 hx hZ e130 V127 3 rfl (by simp) (hb hby at_109) 110 rfl (fun T132 h132 X132 e132 W132 V132 => ?_)
    rw [show [y52, y53, y54, (0 : Int32)].set 3 (y55.toInt8.toInt32) = [y52, y53, y54, y55] from (by rw [own_b hy55]; rfl)] at V132
    have N133 := Fr.snoc X132 N131 ge115
    have Z134 : n0 ≤ h132.size := by rw [W132.size]; exact Z129
    refine own_lload X132 hx (hb hby at_110) rfl 112 rfl ?_
    refine own_iload X132 hx (hb hby at_112) rfl 114 rfl ?_
    refine own_callS X132 hx hZ hown (own_w hw 16 rfl) (own_w hw 17 rfl) (own_w hw 5 rfl) (own_w hw 18 rfl) (by decide) e132 (rm1 l Z a0 hw [] (own_st (own_st (own_st (-3750763034362895579 : Int64) y52) y53) y54) y55 h132 n0) (by rw [hml]; rfl) pd_2 (argsL := [(.long (own_st (own_st (own_st (-3750763034362895579 : Int64) y52) y53) y54)), (.int y55)]) rfl (rest := []) rfl (hb hby at_114) 0 (Nat.le_of_eq rfl) (by decide) (by decide) (by decide) (by decide) 117 rfl (fun T135 L135 v135 X135 hQ135 => ?_)
    obtain ⟨rfl, N135, e135⟩ := hQ135
    have N136 := Fr.app N133 N135
    show own_Go p e below G (T135.setTop (mkF m 117 #[.val (.int v0), .val (.int v1), .val (.int v2), .val (.int v3), .val (.int v4), .val (.int (4 : Int32)), .val (.int y52), .val (.int y53), .val (.int y54), .val (.int y55), .val (.ref a114), .val (.long (own_st (own_st (own_st (-3750763034362895579 : Int64) y52) y53) y54)), .second] [(.long (own_st (own_st (own_st (own_st (-3750763034362895579 : Int64) y52) y53) y54) y55))]))
    refine own_lstore X135 hx (hb hby at_117) #[.val (.int v0), .val (.int v1), .val (.int v2), .val (.int v3), .val (.int v4), .val (.int (4 : Int32)), .val (.int y52), .val (.int y53), .val (.int y54), .val (.int y55), .val (.ref a114), .val (.long (own_st (own_st (own_st (own_st (-3750763034362895579 : Int64) y52) y53) y54) y55)), .second] rfl 119 rfl ?_
    refine own_lload X135 hx (hb hby at_119) rfl 121 rfl ?_
    refine own_callS X135 hx hZ hown (own_w hw 3 rfl) (own_w hw 4 rfl) (own_w hw 5 rfl) (own_w hw 6 rfl) (by decide) e135 (rm2 l Z a0 hw [] (own_st (own_st (own_st (own_st (-3750763034362895579 : Int64) y52) y53) y54) y55) h132 n0) (by rw [hml]; rfl) pd_0 (argsL := [(.long (own_st (own_st (own_st (own_st (-3750763034362895579 : Int64) y52) y53) y54) y55))]) rfl (rest := []) rfl (hb hby at_121) 0 (Nat.le_of_eq rfl) (by decide) (by decide) (by decide) (by decide) 124 rfl (fun T137 L137 v137 X137 hQ137 => ?_)
    obtain ⟨rfl, N137, e137⟩ := hQ137
    have N138 := Fr.app N136 N137
    show own_Go p e below G (T137.setTop (mkF m 124 #[.val (.int v0), .val (.int v1), .val (.int v2), .val (.int v3), .val (.int v4), .val (.int (4 : Int32)), .val (.int y52), .val (.int y53), .val (.int y54), .val (.int y55), .val (.ref a114), .val (.long (own_st (own_st (own_st (own_st (-3750763034362895579 : Int64) y52) y53) y54) y55)), .second] [(.long (own_mix (own_st (own_st (own_st (own_st (-3750763034362895579 : Int64) y52) y53) y54) y55)))]))
    refine own_lstore X137 hx (hb hby at_124) #[.val (.int v0), .val (.int v1), .val (.int v2), .val (.int v3), .val (.int v4), .val (.int (4 : Int32)), .val (.int y52), .val (.int y53), .val (.int y54), .val (.int y55), .val (.ref a114), .val (.long (own_mix (own_st (own_st (own_st (own_st (-3750763034362895579 : Int64) y52) y53) y54) y55))), .second] rfl 126 rfl ?_
    refine own_aload X137 hx (hb hby at_126) rfl rfl 128 rfl ?_
    refine own_callS X137 hx hZ hown (own_w hw 9 rfl) (own_w hw 10 rfl) (own_w hw 11 rfl) (own_w hw 12 rfl) (by decide) e137 (rmH4 l Z a0 hw [] a114 y52 y53 y54 y55 h132 n0 V132) (by rw [hml]; rfl) pd_1 (argsL := [(.ref a114)]) rfl (rest := []) rfl (hb hby at_128) 0 (Nat.le_of_eq rfl) (by decide) (by decide) (by decide) (by decide) 131 rfl (fun T139 L139 v139 X139 hQ139 => ?_)
    obtain ⟨rfl, N139, e139⟩ := hQ139
    have N140 := Fr.app N138 N139
    show own_Go p e below G (T139.setTop (mkF m 131 #[.val (.int v0), .val (.int v1), .val (.int v2), .val (.int v3), .val (.int v4), .val (.int (4 : Int32)), .val (.int y52), .val (.int y53), .val (.int y54), .val (.int y55), .val (.ref a114), .val (.long (own_mix (own_st (own_st (own_st (own_st (-3750763034362895579 : Int64) y52) y53) y54) y55))), .second] [(.long (own_mix (own_st (own_st (own_st (own_st (-3750763034362895579 : Int64) y52) y53) y54) y55)))]))
    refine own_lload X139 hx (hb hby at_131) rfl 133 rfl ?_
    refine own_lcmp X139 hx (hb hby at_133) 134 rfl ?_
    refine own_ifN X139 hx (hb hby at_134) (own_eqL rfl).2 137 rfl ?_
    refine own_iconst X139 hx (hb hby at_137) (1 : Int32) rfl 138 rfl ?_
    refine own_goto X139 hx (hb hby at_138) 142 ⟨by decide, by decide⟩ ?_
    refine own_nreturn X139 hx Bd.notSynchronized hG Bd.returns (by simp) (hb hby at_142) (by decide) (by decide) ?_
    rw [e139]
    exact ⟨rfl, N140⟩
set_option maxRecDepth 65536 in
set_option maxHeartbeats 40000000 in
theorem comes_1 {Post : Tables → Env → Array Value → State → Outcome → State → Prop} (hpost : ∀ tb e args s v u, (limb_1_1.after args s (.returned v) u = true ∧ limb_1_2.after args s (.returned v) u = true ∧ True) → FrameEnd s (.returned v) u (Jvm.fieldLocs frame_1_writes args s ++ Jvm.arrayLocs frame_1_arrays args s ++ Jvm.staticLocs frame_1_statics s) 16 128 → Post tb e args s (.returned v) u) :
    ArmFor flags0 classFile x code maxLocals ret World_1 tables_1 room_1 Calls_1 rest_1 Pre_1 Post := by
  intro l hfl _ _ p e ha hc hk s m args below hf hA hF happ hP
  obtain ⟨hcalls, hrest, hpre⟩ := hP
  obtain ⟨-, -, -, hnamed, -, -, -, hat⟩ := (Spec.applies_iff hf).mp happ
  obtain ⟨hg, hn⟩ := and_e (Cond.before_iff.mp (show (Jvm.Cond.and given_1 narrow_1).before args s = true from hpre))
  obtain ⟨hcount, k0⟩ := and_e hg
  obtain ⟨q0, k1⟩ := and_e k0
  obtain ⟨q1, k2⟩ := and_e k1
  obtain ⟨q2, k3⟩ := and_e k2
  obtain ⟨q3, k4⟩ := and_e k3
  have q4 := k4
  obtain ⟨w0, w1, w2, w3, w4, rfl⟩ : ∃ w0 w1 w2 w3 w4 : Value, args = #[w0, w1, w2, w3, w4] := by
    have hs : args.size = 5 := by simpa [Cond.value, given_1] using hcount
    obtain ⟨L⟩ := args
    match L, hs with
    | [w0, w1, w2, w3, w4], _ => exact ⟨w0, w1, w2, w3, w4, rfl⟩
  have hw := fun d (hd : d ∈ tables_1) => atoms_spec (ws := Jvm.Cond.code x code maxLocals ret :: tables_1) hat d (List.mem_cons_of_mem _ hd)
  have hfit : Fit s := fun {y c} hc i hi => by
    obtain ⟨ha, rfl⟩ := Array.getElem?_eq_some_iff.mp hc
    have q := List.all_eq_true.mp ((Array.all_eq_true_iff_forall_mem.mp hF) _ (Array.getElem_mem ha)) i (List.mem_range.mpr hi)
    simpa [Array.getElem?_eq_getElem hi] using q
  obtain ⟨i0, r0⟩ := is_v q0
  obtain rfl : w0 = (.int i0) := Option.some.inj r0
  obtain ⟨i1, r1⟩ := is_v q1
  obtain rfl : w1 = (.int i1) := Option.some.inj r1
  obtain ⟨i2, r2⟩ := is_v q2
  obtain rfl : w2 = (.int i2) := Option.some.inj r2
  obtain ⟨i3, r3⟩ := is_v q3
  obtain rfl : w3 = (.int i3) := Option.some.inj r3
  obtain ⟨i4, r4⟩ := is_v q4
  obtain rfl : w4 = (.int i4) := Option.some.inj r4
  obtain ⟨n, o, h1, h2, h3, _, L, rfl, ⟨rfl, N⟩, hq⟩ := rm0 l s _ hw tables_1 i0 i1 i2 i3 i4 s.heap s.heap.size (Nat.le_refl _) p e ha hc hk s m _ below hf ((Spec.applies_iff_loose hf).mp happ).1 ⟨rfl, State.Warmed39.refl s, rfl⟩ trivial
  refine ⟨n, _, h1, h2, h3, hpost _ _ _ _ _ _ ⟨Cond.after_iff.mpr rfl, Cond.after_iff.mpr (eq_i res_at (Term.int_eval (1)) rfl), trivial⟩ ⟨hq.1, hq.2.1, (hq.2.2.sift fun y hy => Or.inr (N y hy)).mono (by decide) (by decide)⟩⟩
theorem main_1_1 : Claimed_1_1 := comes_1 fun _ _ _ _ _ _ h hF => ⟨h.1, hF⟩
theorem main_1_2 : Claimed_1_2 := comes_1 fun _ _ _ _ _ _ h hF => ⟨h.2.1, hF⟩
end Jvm.Pilot.@@N@@
namespace Jvm.Pilot.@@N@@
open Jvm Jvm.ClassFile Sem Op Lib Jvm.Free Jvm.Stand Jvm.Pilot.@@N@@.Jvm.D
/-! MADE BY PROGRAM (witnessworld.py) out of the Statement's table words and the real class files: 10 classes; the members and pool entries that the words name. The judged class is class 1, her method 3. -/
namespace start1
open Jvm.ClassFile
def u (s : String) : CpInfo := .utf8 (stringToUtf16 s)
/-- a pool by its gaps: so many unusable entries, then the entry; so many at the end -/
def gap : Nat → List CpInfo → List CpInfo
  | 0, r => r
  | n + 1, r => .unusable :: gap n r
def poolList (es : List (Nat × CpInfo)) (last : Nat) : List CpInfo := es.foldr (fun e r => gap e.1 (e.2 :: r)) (gap last [])
def pool (es : List (Nat × CpInfo)) (last : Nat) : Array CpInfo := ⟨poolList es last⟩
def fileOf (pool : Array CpInfo) (this : Nat) (attrs : Array Attribute := #[]) (ms : Array MethodInfo := #[]) (fl : Nat := 33) (sup : Nat := 0) (ifs : Array Nat := #[]) (fds : Array FieldInfo := #[]) : ClassFile where
  minorVersion := 0
  majorVersion := 65
  constantPool := pool
  accessFlags := fl
  thisClass := this
  superClass := sup
  interfaces := ifs
  fields := fds
  methods := ms
  attributes := attrs
def plain (name : String) (sup : Option ClassId) : Class where
  name := name
  kind := .ordinary
  loader := none
  accessFlags := 33
  super := sup
  interfaces := #[]
  cf := none
  fields := #[]
  methods := #[]
  instanceTypes := #[]
  staticTypes := #[]
  resolved := #[]
  callSites := []
  init := .initialized
  statics := none
  mirror := none

def pool0 : Array CpInfo := pool [(5, u "<init>"), (0, u "()V"), (1, .class_ 10), (1, u "java/lang/Object")] 113

def k0m0 : Method := { name := "<init>", desc := "()V", sig := { parameters := [], returnType := none }, accessFlags := 1, code := none }
/-- java/lang/Object -/
def k0 : Class := { plain "java/lang/Object" none with
  accessFlags := 33
  interfaces := #[]
  cf := some (fileOf pool0 8 #[] #[{ accessFlags := 1, nameIndex := 5, descriptorIndex := 6, attributes := #[] }] 33 0 #[] #[])
  fields := #[]
  methods := #[k0m0]
  instanceTypes := #[]
  staticTypes := #[]
  resolved := Array.replicate 124 none
  statics := none }

def pool1 : Array CpInfo := pool [(2, .class_ 4), (1, u "java/lang/Object"), (0, u "<init>"), (0, u "()V"), (0, .long 255), (1, .long 1099511628211), (1, .long 18397679294719823053), (1, .long 14181476777654086739), (1, .integer 2147483647), (0, .long 14695981039346656037), (1, .methodref 19 20), (0, .class_ 21), (0, .nameAndType 22 23), (0, u "com/example/causeway/causeway/core/ShardMapHashPinLaw"), (0, u "fnvStep"), (0, u "(JB)J"), (0, .methodref 19 25), (0, .nameAndType 26 27), (0, u "fmix64"), (0, u "(J)J"), (0, .methodref 29 30), (0, .class_ 31), (0, .nameAndType 32 33), (0, u "com/example/causeway/causeway/core/ShardMap"), (0, u "hash"), (0, u "([B)J"), (2, u "law"), (0, u "(IIIII)Z")] 5

def k1m0 : Method := { name := "<init>", desc := "()V", sig := { parameters := [], returnType := none }, accessFlags := 2, code := none }
def k1c1 : Code := { maxStack := 6, maxLocals := 5, code := method_2_code, exceptionTable := #[], attributes := #[] }
def k1m1 : Method := { name := "fnvStep", desc := "(JB)J", sig := { parameters := [.long, .byte], returnType := some .long }, accessFlags := 10, code := some k1c1 }
def k1c2 : Code := { maxStack := 5, maxLocals := 4, code := method_3_code, exceptionTable := #[], attributes := #[] }
def k1m2 : Method := { name := "fmix64", desc := "(J)J", sig := { parameters := [.long], returnType := some .long }, accessFlags := 10, code := some k1c2 }
def k1c3 : Code := { maxStack := 4, maxLocals := 13, code := code, exceptionTable := #[], attributes := #[] }
def k1m3 : Method := { name := "law", desc := "(IIIII)Z", sig := { parameters := [.int, .int, .int, .int, .int], returnType := some .boolean }, accessFlags := 9, code := some k1c3 }
/-- com/example/causeway/causeway/core/ShardMapHashPinLaw -/
def k1 : Class := { plain "com/example/causeway/causeway/core/ShardMapHashPinLaw" (some 0) with
  accessFlags := 49
  interfaces := #[]
  cf := some (fileOf pool1 19 #[] #[{ accessFlags := 2, nameIndex := 5, descriptorIndex := 6, attributes := #[] }, { accessFlags := 10, nameIndex := 22, descriptorIndex := 23, attributes := #[] }, { accessFlags := 10, nameIndex := 26, descriptorIndex := 27, attributes := #[] }, { accessFlags := 9, nameIndex := 36, descriptorIndex := 37, attributes := #[] }] 49 2 #[] #[])
  fields := #[]
  methods := #[k1m0, k1m1, k1m2, k1m3]
  instanceTypes := #[]
  staticTypes := #[]
  resolved := Array.replicate 43 none
  statics := none }

def pool2 : Array CpInfo := pool [(2, .class_ 4), (1, u "java/lang/Object"), (0, u "<init>"), (0, u "()V"), (0, .class_ 8), (0, u "java/lang/Record")] 13

def k2m0 : Method := { name := "<init>", desc := "()V", sig := { parameters := [], returnType := none }, accessFlags := 4, code := none }
/-- java/lang/Record -/
def k2 : Class := { plain "java/lang/Record" (some 0) with
  accessFlags := 1057
  interfaces := #[]
  cf := some (fileOf pool2 7 #[] #[{ accessFlags := 4, nameIndex := 5, descriptorIndex := 6, attributes := #[] }] 1057 2 #[] #[])
  fields := #[]
  methods := #[k2m0]
  instanceTypes := #[]
  staticTypes := #[]
  resolved := Array.replicate 22 none
  statics := none }

def pool3 : Array CpInfo := pool [(2, .class_ 4), (1, u "java/lang/Record"), (3, .class_ 10), (1, u "com/example/causeway/causeway/core/ShardMap"), (4, u "count"), (0, u "I"), (11, u "hash"), (0, u "([B)J"), (6, .long 14695981039346656037), (1, .long 1099511628211), (1, .long 18397679294719823053), (1, .long 14181476777654086739), (13, u "MAX_SHARDS"), (2, u "FNV_OFFSET_BASIS"), (0, u "J"), (0, u "FNV_PRIME")] 38

def k3c0 : Code := { maxStack := 5, maxLocals := 7, code := prog_74_method_4_code, exceptionTable := #[], attributes := #[] }
def k3m0 : Method := { name := "hash", desc := "([B)J", sig := { parameters := [(.array .byte)], returnType := some .long }, accessFlags := 9, code := some k3c0 }
/-- com/example/causeway/causeway/core/ShardMap -/
def k3 : Class := { plain "com/example/causeway/causeway/core/ShardMap" (some 2) with
  accessFlags := 49
  interfaces := #[]
  cf := some (fileOf pool3 8 #[] #[{ accessFlags := 9, nameIndex := 28, descriptorIndex := 29, attributes := #[] }] 49 2 #[] #[{ accessFlags := 18, nameIndex := 15, descriptorIndex := 16, attributes := #[] }, { accessFlags := 25, nameIndex := 56, descriptorIndex := 16, attributes := #[] }, { accessFlags := 26, nameIndex := 59, descriptorIndex := 60, attributes := #[] }, { accessFlags := 26, nameIndex := 61, descriptorIndex := 60, attributes := #[] }])
  fields := #[{ name := "count", type := .int, accessFlags := 18, slot := 0, constantValue := 0 }, { name := "MAX_SHARDS", type := .int, accessFlags := 25, slot := 0, constantValue := 0 }, { name := "FNV_OFFSET_BASIS", type := .long, accessFlags := 26, slot := 1, constantValue := 0 }, { name := "FNV_PRIME", type := .long, accessFlags := 26, slot := 2, constantValue := 0 }]
  methods := #[k3m0]
  instanceTypes := #[.int]
  staticTypes := #[.int, .long, .long]
  resolved := Array.replicate 100 none
  statics := none }

def pool4 : Array CpInfo := pool [(1, u "java/lang/Cloneable"), (0, .class_ 1), (0, u "java/lang/Object"), (0, .class_ 3)] 3

/-- java/lang/Cloneable -/
def k4 : Class := { plain "java/lang/Cloneable" (some 0) with
  accessFlags := 1537
  interfaces := #[]
  cf := some (fileOf pool4 2 #[] #[] 1537 4 #[] #[])
  fields := #[]
  methods := #[]
  instanceTypes := #[]
  staticTypes := #[]
  resolved := Array.replicate 8 none
  statics := none }

def pool5 : Array CpInfo := pool [(1, u "java/io/Serializable"), (0, .class_ 1), (0, u "java/lang/Object"), (0, .class_ 3)] 3

/-- java/io/Serializable -/
def k5 : Class := { plain "java/io/Serializable" (some 0) with
  accessFlags := 1537
  interfaces := #[]
  cf := some (fileOf pool5 2 #[] #[] 1537 4 #[] #[])
  fields := #[]
  methods := #[]
  instanceTypes := #[]
  staticTypes := #[]
  resolved := Array.replicate 8 none
  statics := none }

/-- the primitive byte -/
def k6 : Class := { plain "byte" none with kind := .primitive 'B', accessFlags := 0x411 }
/-- [B -/
def k7 : Class := { plain "[B" (some 0) with kind := .array 6 .byte, interfaces := #[4, 5], accessFlags := 1041 }

/-- the primitive int -/
def k8 : Class := { plain "int" none with kind := .primitive 'I', accessFlags := 0x411 }
/-- [I -/
def k9 : Class := { plain "[I" (some 0) with kind := .array 8 .int, interfaces := #[4, 5], accessFlags := 1041 }

def heap : Heap := #[]
def classes : Array Class := #[k0, k1, k2, k3, k4, k5, k6, k7, k8, k9]
def interned : List (Array UInt16 × Addr) := []
def slotsUsed : Nat := 0
def theMethod : MethodId := ⟨1, 3⟩
def args0 : Array Value := #[.int 3, .int 4, .int 5, .int 6, .int 7]
def aboutOver (below : List Frame) : State where
  vm := { classes := classes, interned := interned.toArray }
  heap := heap
  slotsUsed := slotsUsed
  threads := #[{ frames := .invoking theMethod args0 :: below }]
def below0 : List Frame := [.native { method := ⟨0, 0⟩, args := #[] }]
def about1 : State := aboutOver below0
def p0 : Program := .bare "" "" ""
def e0 : Env := launch0.env 0 0 0
theorem w_frames : about1.frames = Frame.invoking theMethod args0 :: below0 := rfl
set_option maxRecDepth 65536 in
theorem w_args : argsFit about1.vm theMethod args0 = true := by decide +kernel
set_option maxRecDepth 65536 in
theorem w_heap : heapFits about1 = true := by decide +kernel
set_option maxRecDepth 65536 in
theorem w_runnable : about1.curStatus? = some .runnable := by decide +kernel
set_option maxRecDepth 65536 in
theorem w_alone : about1.alone = true := by decide +kernel
set_option maxRecDepth 65536 in
theorem w_named : about1.methodNamed? x = some theMethod := by decide +kernel
set_option maxRecDepth 65536 in
theorem w_hears : about1.hears theMethod below0 = true := by decide +kernel
set_option maxRecDepth 65536 in
theorem w_ripe : about1.ripe theMethod args0 below0 = true := by decide +kernel
theorem w_running : about1.status = .running := rfl
set_option maxRecDepth 65536 in
theorem w_room : about1.hasRoom e0.platform room_1 = true :=
  launch0.hasRoom_least _ room_1 (by decide +kernel) (by decide +kernel) (by decide +kernel) (by decide +kernel) (by decide +kernel) (by decide +kernel)
theorem allAtoms_all (ts : List Jvm.Cond) (a : Array Jvm.Value) (st : Jvm.State) : (allAtoms ts).before a st = ts.all (fun c => c.before a st) := by
  induction ts with
  | nil => rfl
  | cons c t ih =>
    show (Jvm.Cond.and c (allAtoms t)).before a st = _
    rw [Jvm.Cond.before_and, ih, List.all_cons]
def words1 : List Jvm.Cond := Jvm.Cond.code x code maxLocals ret :: tables_1
/-- a 'code' word, met by the world's own term for the bytes: nothing is compared byte by byte -/
theorem code_word {y : MethodName} {bytes : ByteArray} {mx : Nat} {rt : Option FieldType} {a : Array Value} {s : State} {m : MethodId} {meth : Method} {c : Code} (h1 : s.methodNamed? y = some m) (h2 : s.vm.method? m = some meth) (h3 : meth.code = some c) (h4 : c.code = bytes)
    (h5 : (c.maxLocals == mx && c.exceptionTable.isEmpty && decide (c.maxStack ≤ mostOperands) && decide (meth.sig.returnType = rt) && !meth.locks && decide (parseMethodDescriptor y.desc = some meth.sig)) = true) : (Jvm.Cond.code y bytes mx rt).before a s = true := by
  simp only [Bool.and_eq_true, beq_iff_eq, Bool.not_eq_true', decide_eq_true_eq] at h5
  obtain ⟨⟨⟨⟨⟨g1, g2⟩, g3⟩, g4⟩, g5⟩, g6⟩ := h5
  simp [Cond.before, Cond.holds, Cond.value, h1, h2, h3, h4, g1, g2, g3, g4, g5, g6]
def isCode : Jvm.Cond → Bool
  | .code _ _ _ _ => true
  | _ => false
theorem all_split {L : List Jvm.Cond} {P : Jvm.Cond → Bool} (h1 : L.all (fun c => isCode c || P c) = true) (h2 : ∀ c ∈ L.filter isCode, P c = true) : L.all P = true := by
  refine List.all_eq_true.mpr fun c hc => ?_
  have h := List.all_eq_true.mp h1 c hc
  rcases Bool.eq_false_or_eq_true (isCode c) with hi | hi
  · exact h2 c (List.mem_filter.mpr ⟨hc, hi⟩)
  · simpa [hi] using h
set_option maxRecDepth 65536 in
theorem w_c0 : (Jvm.Cond.code x code maxLocals ret).before args0 about1 = true := code_word (m := ⟨1, 3⟩) (meth := k1m3) (c := k1c3) (by decide +kernel) rfl rfl rfl (by decide +kernel)
set_option maxRecDepth 65536 in
theorem w_c1 : (Jvm.Cond.code ({ cls := "com/example/causeway/causeway/core/ShardMapHashPinLaw", name := "fmix64", desc := "(J)J" } : Jvm.MethodName) method_3_code (4 : Nat) (Option.some Jvm.ClassFile.FieldType.long)).before args0 about1 = true := code_word (m := ⟨1, 2⟩) (meth := k1m2) (c := k1c2) (by decide +kernel) rfl rfl rfl (by decide +kernel)
set_option maxRecDepth 65536 in
theorem w_c2 : (Jvm.Cond.code ({ cls := "com/example/causeway/causeway/core/ShardMap", name := "hash", desc := "([B)J" } : Jvm.MethodName) prog_74_method_4_code (7 : Nat) (Option.some Jvm.ClassFile.FieldType.long)).before args0 about1 = true := code_word (m := ⟨3, 0⟩) (meth := k3m0) (c := k3c0) (by decide +kernel) rfl rfl rfl (by decide +kernel)
set_option maxRecDepth 65536 in
theorem w_c3 : (Jvm.Cond.code ({ cls := "com/example/causeway/causeway/core/ShardMapHashPinLaw", name := "fnvStep", desc := "(JB)J" } : Jvm.MethodName) method_2_code (5 : Nat) (Option.some Jvm.ClassFile.FieldType.long)).before args0 about1 = true := code_word (m := ⟨1, 1⟩) (meth := k1m1) (c := k1c1) (by decide +kernel) rfl rfl rfl (by decide +kernel)
def codes1 : List Jvm.Cond := [Jvm.Cond.code x code maxLocals ret, Jvm.Cond.code ({ cls := "com/example/causeway/causeway/core/ShardMapHashPinLaw", name := "fmix64", desc := "(J)J" } : Jvm.MethodName) method_3_code (4 : Nat) (Option.some Jvm.ClassFile.FieldType.long), Jvm.Cond.code ({ cls := "com/example/causeway/causeway/core/ShardMap", name := "hash", desc := "([B)J" } : Jvm.MethodName) prog_74_method_4_code (7 : Nat) (Option.some Jvm.ClassFile.FieldType.long), Jvm.Cond.code ({ cls := "com/example/causeway/causeway/core/ShardMapHashPinLaw", name := "fnvStep", desc := "(JB)J" } : Jvm.MethodName) method_2_code (5 : Nat) (Option.some Jvm.ClassFile.FieldType.long)]
set_option maxRecDepth 65536 in
theorem codes_eq : words1.filter isCode = codes1 := rfl
theorem w_codes : ∀ c ∈ words1.filter isCode, c.before args0 about1 = true := by
  rw [codes_eq]
  intro c hc
  simp only [codes1, List.mem_cons, List.not_mem_nil, or_false] at hc
  rcases hc with rfl | rfl | rfl | rfl
  · exact w_c0
  · exact w_c1
  · exact w_c2
  · exact w_c3
set_option maxRecDepth 65536 in
theorem w_t1 : words1.all (fun c => isCode c || c.before args0 about1) = true := by decide +kernel
theorem w_tables : (allAtoms (Jvm.Cond.code x code maxLocals ret :: tables_1)).before args0 about1 = true := by
  rw [allAtoms_all]
  show words1.all (fun c => c.before args0 about1) = true
  refine all_split ?_ w_codes
  rw [w_t1]
set_option maxRecDepth 65536 in
theorem w_case : (Jvm.Cond.and given_1 narrow_1).before args0 about1 = true := by decide +kernel
theorem w_applies : (headSpec (Jvm.Cond.code x code maxLocals ret :: tables_1) room_1).applies x e0.platform about1 = true :=
  (Spec.applies_iff w_frames).mpr ⟨w_running, w_runnable, w_alone, w_named, w_hears, w_ripe, w_room, w_tables⟩
theorem atStart : AtStart classFile x code maxLocals ret World_1 tables_1 room_1 Calls_1 rest_1 Pre_1 launch0 p0 e0 about1 theMethod args0 below0 :=
  ⟨lists_1, trivial, launch0.admits_env _ _ _, launch0.least_env, fairChoices_fair.cas, fairChoices_fair.clock, w_frames, w_args, w_heap, w_applies, trivial, trivial, w_case⟩
end start1
theorem witness_1 : WitnessClaimed_1 := ⟨start1.p0, start1.e0, start1.about1, start1.theMethod, start1.args0, start1.below0, start1.atStart⟩
end Jvm.Pilot.@@N@@
