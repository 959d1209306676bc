import JvmDerived
import JvmDerived.Pilot.@@N@@Statement
import JvmDerived.Pilot.@@N@@Code
set_option linter.unusedVariables false
set_option linter.unusedSimpArgs false
namespace Jvm.Pilot.@@N@@
open Jvm Jvm.ClassFile Sem Op Lib Jvm.Free Jvm.Stand Jvm.LawKit Jvm.RoadKit Bundle Jvm.Pilot.@@N@@.Jvm.D
def own_Go (p : Program) (e : Env) (below : List Frame) (G : State → Outcome → Prop) (σ : State) : Prop := ∃ U o, Steps p.tables e below σ U ∧ U.status = .running ∧ Ended U below o ∧ G U o
theorem own_go {p : Program} {e : Env} {below : List Frame} {G : State → Outcome → Prop} {σ σ' : State} (h : ∀ t, Steps p.tables e below σ' t → Steps p.tables e below σ t) (k : own_Go p e below G σ') : own_Go p e below G σ := by
  obtain ⟨U, o, h1, h2⟩ := k
  exact ⟨U, o, h _ h1, h2⟩
def own_Post (s : State) (Q : Option Value → Heap → List Loc → Prop) (C S : Nat) (U : State) (o : Outcome) : Prop := ∃ v L, o = .returned v ∧ Q v U.heap L ∧ FrameEnd s o U L C S
theorem own_lrem_eq (x y : Int64) : x - (x / y) * y = x % y := by
  apply Int64.toInt_inj.mp
  have h1 := Int64.le_toInt (x % y)
  have h2 := Int64.toInt_lt (x % y)
  rw [Int64.toInt_sub, Int64.toInt_mul, Int64.toInt_div, Int.bmod_mul_bmod, Int.sub_bmod_bmod, Int.mul_comm (x.toInt.tdiv y.toInt), ← Int.tmod_def, ← Int64.toInt_mod]
  exact Int.bmod_eq_of_le_mul_two (by omega) (by omega)
theorem own_eqL {x y : Int64} (h : x = y) : ifCond.holds .eq (lcmpW x y) = true ∧ ifCond.holds .ne (lcmpW x y) = false := by
  have q := (lw_eq x y).mpr h
  exact ⟨(if0 _ _).trans (teq q).1, (if0 _ _).trans (teq q).2⟩
section OwnSteps
variable {p : Program} {l : Launch} {e : Env} {R : Room} {s : State} {m : MethodId} {args : Array Value} {below : List Frame} {meth : Method} {c : Code} {T : State} {locs : List Loc} {cells slots : Nat} {G : State → Outcome → Prop} {Ls : Array Slot} {rest : List Value} {pc : Nat}
theorem own_iloadN (X : Stand p l e R s m args below meth c T locs cells slots) (hx : p.tables.exec = Jvm.exec) {i : Fin 4} {v : Int32} (hd : decode c.code pc = .ok (.iload_n i, 1)) (hl : Ls[i.val]? = some (.val (.int v))) (pc' : Nat) (hp : pc + 1 = pc') (k : own_Go p e below G (T.setTop (mkF m pc' Ls (.int v :: rest)))) : own_Go p e below G (T.setTop (mkF m pc Ls (rest))) := by
  subst hp; exact own_go (fun t q => XS.iloadN X.here hx rfl hd hl q) k
theorem own_iload (X : Stand p l e R s m args below meth c T locs cells slots) (hx : p.tables.exec = Jvm.exec) {i : Nat} {v : Int32} (hd : decode c.code pc = .ok (.iload i, 2)) (hl : Ls[i]? = some (.val (.int v))) (pc' : Nat) (hp : pc + 2 = pc') (k : own_Go p e below G (T.setTop (mkF m pc' Ls (.int v :: rest)))) : own_Go p e below G (T.setTop (mkF m pc Ls (rest))) := by
  subst hp; exact own_go (fun t q => XS.iload X.here hx rfl hd hl q) k
theorem own_lloadN (X : Stand p l e R s m args below meth c T locs cells slots) (hx : p.tables.exec = Jvm.exec) {i : Fin 4} {v : Int64} (hd : decode c.code pc = .ok (.lload_n i, 1)) (hl : Ls[i.val]? = some (.val (.long v))) (pc' : Nat) (hp : pc + 1 = pc') (k : own_Go p e below G (T.setTop (mkF m pc' Ls (.long v :: rest)))) : own_Go p e below G (T.setTop (mkF m pc Ls (rest))) := by
  subst hp; exact own_go (fun t q => XS.lloadN X.here hx rfl hd hl q) k
theorem own_lload (X : Stand p l e R s m args below meth c T locs cells slots) (hx : p.tables.exec = Jvm.exec) {i : Nat} {v : Int64} (hd : decode c.code pc = .ok (.lload i, 2)) (hl : Ls[i]? = some (.val (.long v))) (pc' : Nat) (hp : pc + 2 = pc') (k : own_Go p e below G (T.setTop (mkF m pc' Ls (.long v :: rest)))) : own_Go p e below G (T.setTop (mkF m pc Ls (rest))) := by
  subst hp; exact own_go (fun t q => XS.lload X.here hx rfl hd hl q) k
theorem own_aloadN (X : Stand p l e R s m args below meth c T locs cells slots) (hx : p.tables.exec = Jvm.exec) {i : Fin 4} {v : Value} (hd : decode c.code pc = .ok (.aload_n i, 1)) (hl : Ls[i.val]? = some (.val v)) (hv : v.isRef = true) (pc' : Nat) (hp : pc + 1 = pc') (k : own_Go p e below G (T.setTop (mkF m pc' Ls (v :: rest)))) : own_Go p e below G (T.setTop (mkF m pc Ls (rest))) := by
  subst hp; exact own_go (fun t q => XS.aloadN X.here hx rfl hd hl hv q) k
theorem own_aload (X : Stand p l e R s m args below meth c T locs cells slots) (hx : p.tables.exec = Jvm.exec) {i : Nat} {v : Value} (hd : decode c.code pc = .ok (.aload i, 2)) (hl : Ls[i]? = some (.val v)) (hv : v.isRef = true) (pc' : Nat) (hp : pc + 2 = pc') (k : own_Go p e below G (T.setTop (mkF m pc' Ls (v :: rest)))) : own_Go p e below G (T.setTop (mkF m pc Ls (rest))) := by
  subst hp; exact own_go (fun t q => XS.aload X.here hx rfl hd hl hv q) k
theorem own_istore (X : Stand p l e R s m args below meth c T locs cells slots) (hx : p.tables.exec = Jvm.exec) {i : Nat} {v : Int32} (hd : decode c.code pc = .ok (.istore i, 2)) (l' : Array Slot) (hl : storeLocals Ls i (.int v) = some l') (pc' : Nat) (hp : pc + 2 = pc') (k : own_Go p e below G (T.setTop (mkF m pc' l' (rest)))) : own_Go p e below G (T.setTop (mkF m pc Ls (.int v :: rest))) := by
  subst hp; exact own_go (fun t q => XS.istore X.here hx rfl hd rfl hl q) k
theorem own_lstoreN (X : Stand p l e R s m args below meth c T locs cells slots) (hx : p.tables.exec = Jvm.exec) {i : Fin 4} {v : Int64} (hd : decode c.code pc = .ok (.lstore_n i, 1)) (l' : Array Slot) (hl : storeLocals Ls i.val (.long v) = some l') (pc' : Nat) (hp : pc + 1 = pc') (k : own_Go p e below G (T.setTop (mkF m pc' l' (rest)))) : own_Go p e below G (T.setTop (mkF m pc Ls (.long v :: rest))) := by
  subst hp; exact own_go (fun t q => XS.lstoreN X.here hx rfl hd rfl hl q) k
theorem own_lstore (X : Stand p l e R s m args below meth c T locs cells slots) (hx : p.tables.exec = Jvm.exec) {i : Nat} {v : Int64} (hd : decode c.code pc = .ok (.lstore i, 2)) (l' : Array Slot) (hl : storeLocals Ls i (.long v) = some l') (pc' : Nat) (hp : pc + 2 = pc') (k : own_Go p e below G (T.setTop (mkF m pc' l' (rest)))) : own_Go p e below G (T.setTop (mkF m pc Ls (.long v :: rest))) := by
  subst hp; exact own_go (fun t q => XS.lstore X.here hx rfl hd rfl hl q) k
theorem own_astore (X : Stand p l e R s m args below meth c T locs cells slots) (hx : p.tables.exec = Jvm.exec) {i : Nat} {v : Value} (hd : decode c.code pc = .ok (.astore i, 2)) (hv : v.isRef = true) (l' : Array Slot) (hl : storeLocals Ls i v = some l') (pc' : Nat) (hp : pc + 2 = pc') (k : own_Go p e below G (T.setTop (mkF m pc' l' (rest)))) : own_Go p e below G (T.setTop (mkF m pc Ls (v :: rest))) := by
  subst hp; exact own_go (fun t q => XS.astore X.here hx rfl hd rfl hv hl q) k
theorem own_iinc (X : Stand p l e R s m args below meth c T locs cells slots) (hx : p.tables.exec = Jvm.exec) {i : Nat} {z : Int} {v : Int32} (hd : decode c.code pc = .ok (.iinc i z, 3)) (hl : Ls[i]? = some (.val (.int v))) (l' : Array Slot) (hl' : storeLocals Ls i (.int (v + Int32.ofInt z)) = some l') (pc' : Nat) (hp : pc + 3 = pc') (k : own_Go p e below G (T.setTop (mkF m pc' l' (rest)))) : own_Go p e below G (T.setTop (mkF m pc Ls (rest))) := by
  subst hp; exact own_go (fun t q => XS.iinc X.here hx rfl hd hl hl' q) k
theorem own_iconst (X : Stand p l e R s m args below meth c T locs cells slots) (hx : p.tables.exec = Jvm.exec) {i : Int} (hd : decode c.code pc = .ok (.iconst i, 1)) (v : Int32) (hv : v = Int32.ofInt i) (pc' : Nat) (hp : pc + 1 = pc') (k : own_Go p e below G (T.setTop (mkF m pc' Ls (.int v :: rest)))) : own_Go p e below G (T.setTop (mkF m pc Ls (rest))) := by
  subst hp; exact own_go (fun t q => XS.iconst X.here hx rfl hd (hv ▸ q)) k
theorem own_bipush (X : Stand p l e R s m args below meth c T locs cells slots) (hx : p.tables.exec = Jvm.exec) {i : Int} (hd : decode c.code pc = .ok (.bipush i, 2)) (v : Int32) (hv : v = (Int8.ofInt i).toInt32) (pc' : Nat) (hp : pc + 2 = pc') (k : own_Go p e below G (T.setTop (mkF m pc' Ls (.int v :: rest)))) : own_Go p e below G (T.setTop (mkF m pc Ls (rest))) := by
  subst hp; exact own_go (fun t q => XS.bipush X.here hx rfl hd (hv ▸ q)) k
theorem own_lconst (X : Stand p l e R s m args below meth c T locs cells slots) (hx : p.tables.exec = Jvm.exec) {i : Fin 2} (hd : decode c.code pc = .ok (.lconst i, 1)) (v : Int64) (hv : v = Int64.ofNat i) (pc' : Nat) (hp : pc + 1 = pc') (k : own_Go p e below G (T.setTop (mkF m pc' Ls (.long v :: rest)))) : own_Go p e below G (T.setTop (mkF m pc Ls (rest))) := by
  subst hp; exact own_go (fun t q => XS.lconst X.here hx rfl hd (hv ▸ q)) k
theorem own_ldcInt (X : Stand p l e R s m args below meth c T locs cells slots) (hx : p.tables.exec = Jvm.exec) {own : String} {index : Nat} {v : Int32} (hown : s.vm.findClass own = some m.cls) (hc : (Cond.constant own index v).before args s = true) (hd : decode c.code pc = .ok (.ldc index, 2)) (pc' : Nat) (hp : pc + 2 = pc') (k : own_Go p e below G (T.setTop (mkF m pc' Ls (.int v :: rest)))) : own_Go p e below G (T.setTop (mkF m pc Ls rest)) := by
  subst hp; exact own_go (X.ldcInt hx hown hc (g := mkF m pc Ls rest) rfl hd) k
theorem own_ldc2Long (X : Stand p l e R s m args below meth c T locs cells slots) (hx : p.tables.exec = Jvm.exec) {own : String} {index : Nat} {v : Int64} (hown : s.vm.findClass own = some m.cls) (hc : (Cond.constantLong own index v).before args s = true) (hd : decode c.code pc = .ok (.ldc2_w index, 3)) (pc' : Nat) (hp : pc + 3 = pc') (k : own_Go p e below G (T.setTop (mkF m pc' Ls (.long v :: rest)))) : own_Go p e below G (T.setTop (mkF m pc Ls rest)) := by
  subst hp; exact own_go (X.ldc2Long hx hown hc (g := mkF m pc Ls rest) rfl hd) k
theorem own_iadd (X : Stand p l e R s m args below meth c T locs cells slots) (hx : p.tables.exec = Jvm.exec) {x y : Int32} (hd : decode c.code pc = .ok (.iadd, 1)) (pc' : Nat) (hp : pc + 1 = pc') (k : own_Go p e below G (T.setTop (mkF m pc' Ls (.int (x + y) :: rest)))) : own_Go p e below G (T.setTop (mkF m pc Ls (.int y :: .int x :: rest))) := by
  subst hp; exact own_go (fun t q => XS.iadd X.here hx rfl hd rfl q) k
theorem own_isub (X : Stand p l e R s m args below meth c T locs cells slots) (hx : p.tables.exec = Jvm.exec) {x y : Int32} (hd : decode c.code pc = .ok (.isub, 1)) (pc' : Nat) (hp : pc + 1 = pc') (k : own_Go p e below G (T.setTop (mkF m pc' Ls (.int (x - y) :: rest)))) : own_Go p e below G (T.setTop (mkF m pc Ls (.int y :: .int x :: rest))) := by
  subst hp; exact own_go (fun t q => XS.isub X.here hx rfl hd rfl q) k
theorem own_iand (X : Stand p l e R s m args below meth c T locs cells slots) (hx : p.tables.exec = Jvm.exec) {x y : Int32} (hd : decode c.code pc = .ok (.iand, 1)) (pc' : Nat) (hp : pc + 1 = pc') (k : own_Go p e below G (T.setTop (mkF m pc' Ls (.int (x &&& y) :: rest)))) : own_Go p e below G (T.setTop (mkF m pc Ls (.int y :: .int x :: rest))) := by
  subst hp; exact own_go (fun t q => XS.iand X.here hx rfl hd rfl q) k
theorem own_ladd (X : Stand p l e R s m args below meth c T locs cells slots) (hx : p.tables.exec = Jvm.exec) {x y : Int64} (hd : decode c.code pc = .ok (.ladd, 1)) (pc' : Nat) (hp : pc + 1 = pc') (k : own_Go p e below G (T.setTop (mkF m pc' Ls (.long (x + y) :: rest)))) : own_Go p e below G (T.setTop (mkF m pc Ls (.long y :: .long x :: rest))) := by
  subst hp; exact own_go (fun t q => XS.ladd X.here hx rfl hd rfl q) k
theorem own_lsub (X : Stand p l e R s m args below meth c T locs cells slots) (hx : p.tables.exec = Jvm.exec) {x y : Int64} (hd : decode c.code pc = .ok (.lsub, 1)) (pc' : Nat) (hp : pc + 1 = pc') (k : own_Go p e below G (T.setTop (mkF m pc' Ls (.long (x - y) :: rest)))) : own_Go p e below G (T.setTop (mkF m pc Ls (.long y :: .long x :: rest))) := by
  subst hp; exact own_go (fun t q => XS.lsub X.here hx rfl hd rfl q) k
theorem own_lmul (X : Stand p l e R s m args below meth c T locs cells slots) (hx : p.tables.exec = Jvm.exec) {x y : Int64} (hd : decode c.code pc = .ok (.lmul, 1)) (pc' : Nat) (hp : pc + 1 = pc') (k : own_Go p e below G (T.setTop (mkF m pc' Ls (.long (x * y) :: rest)))) : own_Go p e below G (T.setTop (mkF m pc Ls (.long y :: .long x :: rest))) := by
  subst hp; exact own_go (fun t q => XS.lmul X.here hx rfl hd rfl q) k
theorem own_land (X : Stand p l e R s m args below meth c T locs cells slots) (hx : p.tables.exec = Jvm.exec) {x y : Int64} (hd : decode c.code pc = .ok (.land, 1)) (pc' : Nat) (hp : pc + 1 = pc') (k : own_Go p e below G (T.setTop (mkF m pc' Ls (.long (x &&& y) :: rest)))) : own_Go p e below G (T.setTop (mkF m pc Ls (.long y :: .long x :: rest))) := by
  subst hp; exact own_go (fun t q => XS.land X.here hx rfl hd rfl q) k
theorem own_irem (X : Stand p l e R s m args below meth c T locs cells slots) (hx : p.tables.exec = Jvm.exec) {x y : Int32} (hd : decode c.code pc = .ok (.irem, 1)) (hy : y ≠ 0) (pc' : Nat) (hp : pc + 1 = pc') (k : own_Go p e below G (T.setTop (mkF m pc' Ls (.int (x % y) :: rest)))) : own_Go p e below G (T.setTop (mkF m pc Ls (.int y :: .int x :: rest))) := by
  subst hp; exact own_go (fun t q => iremM X hx rfl hd rfl hy q) k
theorem own_lrem (X : Stand p l e R s m args below meth c T locs cells slots) (hx : p.tables.exec = Jvm.exec) {x y : Int64} (hd : decode c.code pc = .ok (.lrem, 1)) (hy : y ≠ 0) (pc' : Nat) (hp : pc + 1 = pc') (k : own_Go p e below G (T.setTop (mkF m pc' Ls (.long (x % y) :: rest)))) : own_Go p e below G (T.setTop (mkF m pc Ls (.long y :: .long x :: rest))) := by
  subst hp; exact own_go (fun t q => XS.lrem X.here hx rfl hd rfl hy (by rw [own_lrem_eq]; exact q)) k
theorem own_ldiv (X : Stand p l e R s m args below meth c T locs cells slots) (hx : p.tables.exec = Jvm.exec) {x y : Int64} (hd : decode c.code pc = .ok (.ldiv, 1)) (hy : y ≠ 0) (pc' : Nat) (hp : pc + 1 = pc') (k : own_Go p e below G (T.setTop (mkF m pc' Ls (.long (x / y) :: rest)))) : own_Go p e below G (T.setTop (mkF m pc Ls (.long y :: .long x :: rest))) := by
  subst hp; exact own_go (fun t q => XS.ldiv X.here hx rfl hd rfl hy q) k
theorem own_i2l (X : Stand p l e R s m args below meth c T locs cells slots) (hx : p.tables.exec = Jvm.exec) {x : Int32} (hd : decode c.code pc = .ok (.i2l, 1)) (pc' : Nat) (hp : pc + 1 = pc') (k : own_Go p e below G (T.setTop (mkF m pc' Ls (.long x.toInt64 :: rest)))) : own_Go p e below G (T.setTop (mkF m pc Ls (.int x :: rest))) := by
  subst hp; exact own_go (fun t q => XS.i2l X.here hx rfl hd rfl q) k
theorem own_l2i (X : Stand p l e R s m args below meth c T locs cells slots) (hx : p.tables.exec = Jvm.exec) {x : Int64} (hd : decode c.code pc = .ok (.l2i, 1)) (pc' : Nat) (hp : pc + 1 = pc') (k : own_Go p e below G (T.setTop (mkF m pc' Ls (.int x.toInt32 :: rest)))) : own_Go p e below G (T.setTop (mkF m pc Ls (.long x :: rest))) := by
  subst hp; exact own_go (fun t q => XS.l2i X.here hx rfl hd rfl q) k
theorem own_i2b (X : Stand p l e R s m args below meth c T locs cells slots) (hx : p.tables.exec = Jvm.exec) {x : Int32} (hd : decode c.code pc = .ok (.i2b, 1)) (pc' : Nat) (hp : pc + 1 = pc') (k : own_Go p e below G (T.setTop (mkF m pc' Ls (.int x.toInt8.toInt32 :: rest)))) : own_Go p e below G (T.setTop (mkF m pc Ls (.int x :: rest))) := by
  subst hp; exact own_go (fun t q => XS.i2b X.here hx rfl hd rfl q) k
theorem own_dup (X : Stand p l e R s m args below meth c T locs cells slots) (hx : p.tables.exec = Jvm.exec) {x : Value} (hd : decode c.code pc = .ok (.dup, 1)) (hc : x.category = 1) (pc' : Nat) (hp : pc + 1 = pc') (k : own_Go p e below G (T.setTop (mkF m pc' Ls (x :: x :: rest)))) : own_Go p e below G (T.setTop (mkF m pc Ls (x :: rest))) := by
  subst hp; exact own_go (fun t q => XS.dup X.here hx rfl hd rfl hc q) k
theorem own_lcmp (X : Stand p l e R s m args below meth c T locs cells slots) (hx : p.tables.exec = Jvm.exec) {x y : Int64} (hd : decode c.code pc = .ok (.lcmp, 1)) (pc' : Nat) (hp : pc + 1 = pc') (k : own_Go p e below G (T.setTop (mkF m pc' Ls (.int (lcmpW x y) :: rest)))) : own_Go p e below G (T.setTop (mkF m pc Ls (.long y :: .long x :: rest))) := by
  subst hp; exact own_go (fun t q => XS.lcmp X.here hx rfl hd rfl q) k
theorem own_goto (X : Stand p l e R s m args below meth c T locs cells slots) (hx : p.tables.exec = Jvm.exec) {o : Int} (hd : decode c.code pc = .ok (.goto o, 3)) (pc' : Nat) (hp : 0 ≤ (pc : Int) + o ∧ ((pc : Int) + o).toNat = pc') (k : own_Go p e below G (T.setTop (mkF m pc' Ls rest))) : own_Go p e below G (T.setTop (mkF m pc Ls rest)) :=
  own_go (fun t q => XS.goto X.here hx rfl (pc0 := pc) (pc' := pc') rfl hd hp.1 hp.2 q) k
theorem own_ifN (X : Stand p l e R s m args below meth c T locs cells slots) (hx : p.tables.exec = Jvm.exec) {o : Int} {cd : ClassFile.Cond} {x : Int32} (hd : decode c.code pc = .ok (.ifCond cd o, 3)) (hc : ifCond.holds cd x = false) (pc' : Nat) (hp : pc + 3 = pc') (k : own_Go p e below G (T.setTop (mkF m pc' Ls (rest)))) : own_Go p e below G (T.setTop (mkF m pc Ls (.int x :: rest))) := by
  subst hp; exact own_go (fun t q => XS.ifNo X.here hx rfl hd rfl hc q) k
theorem own_icmpY (X : Stand p l e R s m args below meth c T locs cells slots) (hx : p.tables.exec = Jvm.exec) {o : Int} {cd : ClassFile.Cond} {x y : Int32} (hd : decode c.code pc = .ok (.if_icmp cd o, 3)) (hc : if_icmp.holds cd x y = true) (pc' : Nat) (hp : 0 ≤ (pc : Int) + o ∧ ((pc : Int) + o).toNat = pc') (k : own_Go p e below G (T.setTop (mkF m pc' Ls rest))) : own_Go p e below G (T.setTop (mkF m pc Ls (.int y :: .int x :: rest))) :=
  own_go (fun t q => XS.icmpYes X.here hx rfl (pc0 := pc) (pc' := pc') rfl hd rfl hc hp.1 hp.2 q) k
theorem own_icmpN (X : Stand p l e R s m args below meth c T locs cells slots) (hx : p.tables.exec = Jvm.exec) {o : Int} {cd : ClassFile.Cond} {x y : Int32} (hd : decode c.code pc = .ok (.if_icmp cd o, 3)) (hc : if_icmp.holds cd x y = false) (pc' : Nat) (hp : pc + 3 = pc') (k : own_Go p e below G (T.setTop (mkF m pc' Ls (rest)))) : own_Go p e below G (T.setTop (mkF m pc Ls (.int y :: .int x :: rest))) := by
  subst hp; exact own_go (fun t q => XS.icmpNo X.here hx rfl hd rfl hc q) k
theorem own_ret {f : JFrame} {Q : Option Value → Heap → List Loc → Prop} {C S : Nat} (X : Stand p l e R s m args below meth c T locs cells slots) (hlk : meth.locks = false) (hG : own_Post s Q C S = G) {v : Option Value} (hv : meth.sig.returnType = none → v = none)
    (st : ∀ fs, (∀ (f : JFrame) (acts : List Action), f.method = m → f.locked = none → f.entered = [] → (doReturn e (T.setTop f) acts v).1 = T.setFrames fs) → Steps p.tables e below (T.setTop f) (T.setFrames fs)) (hc : cells ≤ C) (hs : slots ≤ S) (hq : Q v T.heap locs) : own_Go p e below G (T.setTop f) := by
  subst hG
  obtain ⟨fs, hr, hrun, hended, hW, hsame⟩ := X.leave (v := v) hv hlk
  exact ⟨_, _, st fs hr, hrun, hended, _, _, rfl, hq, ⟨_, rfl⟩, hW, hsame.mono hc hs⟩
theorem own_nreturn {z : Int32} {ty : FieldType} {Q : Option Value → Heap → List Loc → Prop} {C S : Nat} (X : Stand p l e R s m args below meth c T locs cells slots) (hx : p.tables.exec = Jvm.exec) (hlk : meth.locks = false) (hG : own_Post s Q C S = G) (hret : meth.sig.returnType = some ty) (ht : ty = .boolean ∨ ty = .byte ∨ ty = .char ∨ ty = .short) (hd : decode c.code pc = .ok (.ireturn, 1)) (hc : cells ≤ C) (hs : slots ≤ S) (hq : Q (some (.int (nar ty z))) T.heap locs) : own_Go p e below G (T.setTop (mkF m pc Ls (.int z :: rest))) :=
  own_ret X hlk hG (fun h => by rw [hret] at h; cases h) (fun fs hr => retN X hx hret ht hd hr) hc hs hq
theorem own_lreturn {z : Int64} {Q : Option Value → Heap → List Loc → Prop} {C S : Nat} (X : Stand p l e R s m args below meth c T locs cells slots) (hx : p.tables.exec = Jvm.exec) (hlk : meth.locks = false) (hG : own_Post s Q C S = G) (hret : meth.sig.returnType = some .long) (hd : decode c.code pc = .ok (.lreturn, 1)) (hc : cells ≤ C) (hs : slots ≤ S) (hq : Q (some (.long z)) T.heap locs) : own_Go p e below G (T.setTop (mkF m pc Ls (.long z :: rest))) :=
  own_ret X hlk hG (fun h => by rw [hret] at h; cases h) (fun fs hr => retOut X hx hret rfl (Or.inr (Or.inl ⟨rfl, rfl, _, rfl⟩)) hd hr) hc hs hq
variable {Z : State} {a0 : Array Value} {h : Heap}
theorem own_callS {bytes : ByteArray} {maxL : Nat} {ret : Option FieldType} {rm : Room} {y : MethodName} {argsL : List Value} {Q : Option Value → Heap → List Loc → Prop} (X : Stand p l e R s m args below meth c T locs cells slots) (hx : p.tables.exec = Jvm.exec) (hZ : Z.Warmed39 s.vm) {own : String} {index : Nat} (hown : s.vm.findClass own = some m.cls) (w1 : (Cond.methodLink own index y).before a0 Z = true) (w2 : (Cond.static y).before a0 Z = true) (w3 : (Cond.initialized y.cls).before a0 Z = true) (w4 : (Cond.code y bytes maxL ret).before a0 Z = true) (hy : y.cls ≠ "java/lang/invoke/MethodHandle" ∧ y.cls ≠ "java/lang/invoke/VarHandle") (eT : T.heap = h)
    (hM : MetFree l y (head1 [Cond.code y bytes maxL ret] rm) (fun a U => a = argsL.toArray ∧ Z.Warmed39 U.vm ∧ U.heap = h) (fun _ _ _ _ _ => True) (fun _ U o U' => ∃ v L, o = .returned v ∧ Q v U'.heap L ∧ FrameEnd U o U' L rm.cells rm.slots))
    (hsize : Ls.size = c.maxLocals) {ps : List FieldType} {rt : Option FieldType} (hdesc : parseMethodDescriptor y.desc = some ⟨ps, rt⟩) (hlen : argsL.length = ps.length) {st : List Value} (hst : st = argsL.reverse ++ rest) (hd : decode c.code pc = .ok (.invokestatic index, 3)) (W : Nat) (hW : (rest.map fun v => v.category).sum ≤ W) (hf : rm.frames + 1 ≤ R.frames) (hl : W + (maxL + 11) + rm.locals ≤ R.locals) (hc : cells + rm.cells ≤ R.cells) (hs : slots + rm.slots ≤ R.slots) (pc' : Nat) (hp : pc + 3 = pc')
    (k : ∀ (T' : State) (L : List Loc) (v : Option Value), Stand p l e R s m args below meth c T' (locs ++ L) (cells + rm.cells) (slots + rm.slots) → Q v T'.heap L → own_Go p e below G (T'.setTop (mkF m pc' Ls (v.toList ++ rest)))) : own_Go p e below G (T.setTop (mkF m pc Ls st)) := by
  subst hp hst
  obtain ⟨v, _, ⟨T', L', k', n'⟩, -, X', ⟨Lc, hQ, l', y', z'⟩, st⟩ := Jvm.LawKit.callS X hx hown (mvT hZ w1) (mvT hZ w2) (mvT hZ w3) (mvT hZ w4) hy (backOf (W := W) hM hZ w4 w3 hf hl) (g := mkF m pc Ls (argsL.reverse ++ rest)) rfl hsize (argsL := argsL) (rest := rest) (lenOf hdesc hlen) rfl (by show 2 * 0 + _ ≤ W; rw [Nat.mul_zero, Nat.zero_add]; exact hW) hd (fun _ _ => ⟨rfl, eT, hc, hs⟩)
  dsimp only [Pt.U, Pt.locs, Pt.cells, Pt.slots] at X' l' y' z' st hQ
  subst l' y' z'
  exact own_go st (k T' Lc v X' hQ)
def own_A {α : Type} (ty : FieldType) (f : α → Value) (Z : State) (h : Heap) (a : Addr) (L : List α) : Prop := ∃ cl : Cell, Arr Z h a cl ty ∧ cl.slots = (L.map f).toArray ∧ L.length < 2147483648
section OwnArr
variable {α : Type} {ty : FieldType} {f : α → Value} {h' : Heap} {a b : Addr} {L : List α}
theorem own_A.lt (F : own_A ty f Z h a L) : a < h.size := by obtain ⟨cl, A, -⟩ := F; exact A.lt
theorem own_A.ext (F : own_A ty f Z h a L) (E : Ext h h') : own_A ty f Z h' a L := by obtain ⟨cl, A, r⟩ := F; exact ⟨cl, A.ext E, r⟩
theorem own_A.other {sl : Nat} {v : Value} (F : own_A ty f Z h b L) (W : Wr h h' a sl v) (q : b ≠ a) : own_A ty f Z h' b L := by obtain ⟨cl, A, r⟩ := F; exact ⟨cl, A.other W q, r⟩
theorem own_A.keep {ws : List Addr} (F : own_A ty f Z h a L) (K : Keep h h' ws) (q : a ∉ ws) : own_A ty f Z h' a L := by obtain ⟨cl, A, r⟩ := F; exact ⟨cl, ⟨K.2.1 a cl A.1 q, A.2⟩, r⟩
theorem own_A.len (F : own_A ty f Z h a L) : L.length < 2147483648 := by obtain ⟨cl, A, -, r⟩ := F; exact r
theorem own_A.set {i : Nat} {x : α} (F : own_A ty f Z h a L) (W : Wr h h' a i (f x)) : own_A ty f Z h' a (L.set i x) := by
  obtain ⟨cl, A, r, r'⟩ := F
  refine ⟨_, A.same W, ?_, by simpa using r'⟩
  show cl.slots.setIfInBounds i (f x) = _
  rw [r, List.map_set]; simp
theorem own_idx {j : Int32} {i n : Nat} (hj : j = Int32.ofNat i) (hi : i < n) (hn : n < 2147483648) : ¬ (j < 0 ∨ n ≤ j.toNatClampNeg) ∧ j.toNatClampNeg = i := by
  subst hj
  have q : (Int32.ofNat i).toInt = i := Int32.toInt_ofNat_of_lt (by omega)
  have q2 : (Int32.ofNat i).toNatClampNeg = i := by rw [Int32.toNatClampNeg, q]; rfl
  refine ⟨fun z => z.elim (fun z => ?_) fun z => by omega, q2⟩
  rw [Int32.lt_iff_toInt_lt, q, show (0 : Int32).toInt = 0 from rfl] at z; omega
theorem own_A.new {k : ClassId} {n : Int32} {d : α} (hd : f d = defaultValue ty) (A : Arr Z h a (newA k ty n) ty) (i : Nat) (hn : n = Int32.ofNat i) (hi : i < 2147483648) : own_A ty f Z h a (List.replicate i d) := by
  refine ⟨_, A, ?_, by simpa using hi⟩
  have q := (own_idx hn (Nat.lt_succ_self i) (n := i + 1))
  have q2 : n.toNatClampNeg = i := by
    subst hn
    rw [Int32.toNatClampNeg, Int32.toInt_ofNat_of_lt (by omega)]; rfl
  simp [newA, q2, hd]
end OwnArr
theorem own_laload (X : Stand p l e R s m args below meth c T locs cells slots) (hx : p.tables.exec = Jvm.exec) (hZ : Z.Warmed39 s.vm) (eT : T.heap = h) {a : Addr} {L : List Int64} (V : own_A .long Value.long Z h a L) {j : Int32} (i : Nat) (hj : j = Int32.ofNat i) (v : Int64) (hv : L[i]? = some v) (hd : decode c.code pc = .ok (.laload, 1)) (pc' : Nat) (hp : pc + 1 = pc') (k : own_Go p e below G (T.setTop (mkF m pc' Ls (Value.long v :: rest)))) : own_Go p e below G (T.setTop (mkF m pc Ls (.int j :: .ref a :: rest))) := by
  subst hp
  obtain ⟨cl, A, r, r'⟩ := V
  have hi : i < L.length := (List.getElem?_eq_some_iff.mp hv).1
  obtain ⟨q1, q2⟩ := own_idx hj hi r'
  exact own_go (X.laload hx (j := j) (v := Value.long v) (by rw [eT]; exact A.1) (State.isArrayOf_alike hZ.alike A.2.1) A.2.2 (by rw [r]; simpa using q1) (by rw [r, q2]; simp [hv]) (g := mkF m pc Ls (.int j :: .ref a :: rest)) rfl rfl hd) k
theorem own_baload (X : Stand p l e R s m args below meth c T locs cells slots) (hx : p.tables.exec = Jvm.exec) (hZ : Z.Warmed39 s.vm) (eT : T.heap = h) {a : Addr} {L : List Int32} (V : own_A .byte Value.int Z h a L) {j : Int32} (i : Nat) (hj : j = Int32.ofNat i) (v : Int32) (hv : L[i]? = some v) (hd : decode c.code pc = .ok (.baload, 1)) (pc' : Nat) (hp : pc + 1 = pc') (k : own_Go p e below G (T.setTop (mkF m pc' Ls (Value.int v :: rest)))) : own_Go p e below G (T.setTop (mkF m pc Ls (.int j :: .ref a :: rest))) := by
  subst hp
  obtain ⟨cl, A, r, r'⟩ := V
  have hi : i < L.length := (List.getElem?_eq_some_iff.mp hv).1
  obtain ⟨q1, q2⟩ := own_idx hj hi r'
  exact own_go (X.baloadBytes hx (j := j) (v := Value.int v) (by rw [eT]; exact A.1) (State.isArrayOf_alike hZ.alike A.2.1) A.2.2 (by rw [r]; simpa using q1) (by rw [r, q2]; simp [hv]) (g := mkF m pc Ls (.int j :: .ref a :: rest)) rfl rfl hd) k
theorem own_lastore (X : Stand p l e R s m args below meth c T locs cells slots) (hx : p.tables.exec = Jvm.exec) (hZ : Z.Warmed39 s.vm) (eT : T.heap = h) {a : Addr} {L : List Int64} (V : own_A .long Value.long Z h a L) {j : Int32} {x : Int64} (i : Nat) (hj : j = Int32.ofNat i) (hi : i < L.length) (hd : decode c.code pc = .ok (.lastore, 1)) (pc' : Nat) (hp : pc + 1 = pc')
    (k : ∀ (T' : State) (h' : Heap), Stand p l e R s m args below meth c T' (locs ++ [⟨a, j.toNatClampNeg⟩]) cells slots → T'.heap = h' → Wr h h' a i (Value.long x) → own_A .long Value.long Z h' a (L.set i x) → own_Go p e below G (T'.setTop (mkF m pc' Ls rest))) : own_Go p e below G (T.setTop (mkF m pc Ls (Value.long x :: .int j :: .ref a :: rest))) := by
  subst hp
  have V' := V
  obtain ⟨cl, A, r, r'⟩ := V'
  obtain ⟨q1, q2⟩ := own_idx hj hi r'
  obtain ⟨T', h', X', e', W, st⟩ := stJ X hx hZ eT A (j := j) (x := x) (by rw [r]; simpa using q1) (g := mkF m pc Ls (Value.long x :: .int j :: .ref a :: rest)) rfl rfl hd
  rw [q2] at W
  exact own_go st (k T' h' X' e' W (V.set W))
theorem own_bastore (X : Stand p l e R s m args below meth c T locs cells slots) (hx : p.tables.exec = Jvm.exec) (hZ : Z.Warmed39 s.vm) (eT : T.heap = h) {a : Addr} {L : List Int32} (V : own_A .byte Value.int Z h a L) {j : Int32} {x : Int32} (i : Nat) (hj : j = Int32.ofNat i) (hi : i < L.length) (hd : decode c.code pc = .ok (.bastore, 1)) (pc' : Nat) (hp : pc + 1 = pc')
    (k : ∀ (T' : State) (h' : Heap), Stand p l e R s m args below meth c T' (locs ++ [⟨a, j.toNatClampNeg⟩]) cells slots → T'.heap = h' → Wr h h' a i (Value.int (x.toInt8.toInt32)) → own_A .byte Value.int Z h' a (L.set i (x.toInt8.toInt32)) → own_Go p e below G (T'.setTop (mkF m pc' Ls rest))) : own_Go p e below G (T.setTop (mkF m pc Ls (Value.int x :: .int j :: .ref a :: rest))) := by
  subst hp
  have V' := V
  obtain ⟨cl, A, r, r'⟩ := V'
  obtain ⟨q1, q2⟩ := own_idx hj hi r'
  obtain ⟨T', h', X', e', W, st⟩ := stB X hx hZ eT A (j := j) (x := x) (by rw [r]; simpa using q1) (g := mkF m pc Ls (Value.int x :: .int j :: .ref a :: rest)) rfl rfl hd
  rw [q2] at W
  exact own_go st (k T' h' X' e' W (V.set W))
theorem own_newJ (X : Stand p l e R s m args below meth c T locs cells slots) (hx : p.tables.exec = Jvm.exec) (hZ : Z.Warmed39 s.vm) (w : (Cond.arrayClass .long).before a0 Z = true) (eT : T.heap = h) {n : Int32} (hd : decode c.code pc = .ok (.newarray .long, 2)) (i : Nat) (hn : n = Int32.ofNat i) (cap : Nat) (hcap : i ≤ cap) (hb : cap * 8 ≤ 536870912) (hc : cells + 1 ≤ R.cells) (hl : slots + cap ≤ R.slots) (pc' : Nat) (hp : pc + 2 = pc')
    (k : ∀ (T' : State) (h' : Heap) (a' : Addr), a' = h.size → Stand p l e R s m args below meth c T' locs (cells + 1) (slots + cap) → T'.heap = h' → Ext h h' → own_A .long Value.long Z h' a' (List.replicate i (0 : Int64)) → own_Go p e below G (T'.setTop (mkF m pc' Ls (.ref a' :: rest)))) : own_Go p e below G (T.setTop (mkF m pc Ls (.int n :: rest))) := by
  subst hp
  have hi : i < 2147483648 := by omega
  obtain ⟨q1, q2⟩ := own_idx hn (Nat.lt_succ_self i) (n := i + 1) (by omega)
  obtain ⟨T', h', cA, X', e', E', A', st⟩ := newP X hx hZ (aty := .long) w eT (g := mkF m pc Ls (.int n :: rest)) rfl hd (n := n) (rest := rest) rfl (fun z => q1 (Or.inl z)) (cap := cap) (by rw [q2]; exact hcap) hb hc hl
  exact own_go st (k T' h' _ rfl X' e' E' (own_A.new (f := Value.long) (d := 0) rfl A' i hn hi))
theorem own_newB (X : Stand p l e R s m args below meth c T locs cells slots) (hx : p.tables.exec = Jvm.exec) (hZ : Z.Warmed39 s.vm) (w : (Cond.arrayClass .byte).before a0 Z = true) (eT : T.heap = h) {n : Int32} (hd : decode c.code pc = .ok (.newarray .byte, 2)) (i : Nat) (hn : n = Int32.ofNat i) (cap : Nat) (hcap : i ≤ cap) (hb : cap * 8 ≤ 536870912) (hc : cells + 1 ≤ R.cells) (hl : slots + cap ≤ R.slots) (pc' : Nat) (hp : pc + 2 = pc')
    (k : ∀ (T' : State) (h' : Heap) (a' : Addr), a' = h.size → Stand p l e R s m args below meth c T' locs (cells + 1) (slots + cap) → T'.heap = h' → Ext h h' → own_A .byte Value.int Z h' a' (List.replicate i (0 : Int32)) → own_Go p e below G (T'.setTop (mkF m pc' Ls (.ref a' :: rest)))) : own_Go p e below G (T.setTop (mkF m pc Ls (.int n :: rest))) := by
  subst hp
  have hi : i < 2147483648 := by omega
  obtain ⟨q1, q2⟩ := own_idx hn (Nat.lt_succ_self i) (n := i + 1) (by omega)
  obtain ⟨T', h', cA, X', e', E', A', st⟩ := newP X hx hZ (aty := .byte) w eT (g := mkF m pc Ls (.int n :: rest)) rfl hd (n := n) (rest := rest) rfl (fun z => q1 (Or.inl z)) (cap := cap) (by rw [q2]; exact hcap) hb hc hl
  exact own_go st (k T' h' _ rfl X' e' E' (own_A.new (f := Value.int) (d := 0) rfl A' i hn hi))
end OwnSteps
theorem own_w {Z : State} {a0 : Array Value} (hw : ∀ d ∈ tables_1, d.before a0 Z = true) (i : Nat) {d : Cond} (h : tables_1[i]? = some d) : d.before a0 Z = true := hw d (List.mem_of_getElem? h)
theorem own_isl {args : Array Value} {first s : State} {o : Option Outcome} {idx : List Nat} {t : Term} (h : (Cond.isLong t).value args first o s idx = some true) : ∃ x, t.eval args first o idx s = some (.long x) := isL_v h
theorem d1_0 : decode method_2_code 0 = .ok (.ldc2_w 7, 3) := by decide +kernel
theorem d1_3 : decode method_2_code 3 = .ok (.lload_n 0, 1) := by decide +kernel
theorem d1_4 : decode method_2_code 4 = .ok (.lload_n 2, 1) := by decide +kernel
theorem d1_5 : decode method_2_code 5 = .ok (.ldiv, 1) := by decide +kernel
theorem d1_6 : decode method_2_code 6 = .ok (.ldc2_w 9, 3) := by decide +kernel
theorem d1_9 : decode method_2_code 9 = .ok (.lrem, 1) := by decide +kernel
theorem d1_10 : decode method_2_code 10 = .ok (.ladd, 1) := by decide +kernel
theorem d1_11 : decode method_2_code 11 = .ok (.l2i, 1) := by decide +kernel
theorem d1_12 : decode method_2_code 12 = .ok (.i2b, 1) := by decide +kernel
theorem d1_13 : decode method_2_code 13 = .ok (.ireturn, 1) := by decide +kernel
theorem d2_0 : decode prog_13_method_5_code 0 = .ok (.lconst 0, 1) := by decide +kernel
theorem d2_1 : decode prog_13_method_5_code 1 = .ok (.lstore_n 3, 1) := by decide +kernel
theorem d2_2 : decode prog_13_method_5_code 2 = .ok (.iload_n 1, 1) := by decide +kernel
theorem d2_3 : decode prog_13_method_5_code 3 = .ok (.istore 5, 2) := by decide +kernel
theorem d2_5 : decode prog_13_method_5_code 5 = .ok (.iload 5, 2) := by decide +kernel
theorem d2_7 : decode prog_13_method_5_code 7 = .ok (.iload_n 2, 1) := by decide +kernel
theorem d2_8 : decode prog_13_method_5_code 8 = .ok (.if_icmp .ge 25, 3) := by decide +kernel
theorem d2_11 : decode prog_13_method_5_code 11 = .ok (.lload_n 3, 1) := by decide +kernel
theorem d2_12 : decode prog_13_method_5_code 12 = .ok (.ldc2_w 29, 3) := by decide +kernel
theorem d2_15 : decode prog_13_method_5_code 15 = .ok (.lmul, 1) := by decide +kernel
theorem d2_16 : decode prog_13_method_5_code 16 = .ok (.aload_n 0, 1) := by decide +kernel
theorem d2_17 : decode prog_13_method_5_code 17 = .ok (.iload 5, 2) := by decide +kernel
theorem d2_19 : decode prog_13_method_5_code 19 = .ok (.baload, 1) := by decide +kernel
theorem d2_20 : decode prog_13_method_5_code 20 = .ok (.i2l, 1) := by decide +kernel
theorem d2_21 : decode prog_13_method_5_code 21 = .ok (.ladd, 1) := by decide +kernel
theorem d2_22 : decode prog_13_method_5_code 22 = .ok (.ldc2_w 31, 3) := by decide +kernel
theorem d2_25 : decode prog_13_method_5_code 25 = .ok (.lsub, 1) := by decide +kernel
theorem d2_26 : decode prog_13_method_5_code 26 = .ok (.lstore_n 3, 1) := by decide +kernel
theorem d2_27 : decode prog_13_method_5_code 27 = .ok (.iinc 5 1, 3) := by decide +kernel
theorem d2_30 : decode prog_13_method_5_code 30 = .ok (.goto (-25), 3) := by decide +kernel
theorem d2_33 : decode prog_13_method_5_code 33 = .ok (.lload_n 3, 1) := by decide +kernel
theorem d2_34 : decode prog_13_method_5_code 34 = .ok (.lreturn, 1) := by decide +kernel
abbrev own_y1 : MethodName := ⟨"com/example/mapweft/mapweft/release/DecimalDigitsLongValuePinLaw", "digit", "(JJ)B"⟩
abbrev own_y2 : MethodName := ⟨"com/example/mapweft/mapweft/release/DecimalDigits", "longValue", "([BII)J"⟩
theorem pf_1 : plainFor own_y1 = true := by decide +kernel
theorem pf_2 : plainFor own_y2 = true := by decide +kernel
theorem pn_0 : plainName "com/example/mapweft/mapweft/release/DecimalDigitsLongValuePinLaw" = true := by first | (simp [plainName, overriddenIn]; done) | decide +kernel
theorem pd_0 : parseMethodDescriptor "(JJ)B" = some ⟨[.long, .long], some .byte⟩ := by decide +kernel
theorem pd_1 : parseMethodDescriptor "([BII)J" = some ⟨[(.array .byte), .int, .int], some .long⟩ := by decide +kernel
theorem own_and32 (x m : Int32) (k : Nat) (hm : m.toBitVec.toNat = 2 ^ k - 1) (hk : k < 32) : (x &&& m).toInt = ((x.toBitVec.toNat % 2 ^ k : Nat) : Int) := by
  have h : (x &&& m).toBitVec.toNat = x.toBitVec.toNat % 2 ^ k := by
    rw [Int32.toBitVec_and, BitVec.toNat_and, hm, Nat.and_two_pow_sub_one_eq_mod]
  have h2 : x.toBitVec.toNat % 2 ^ k < 2 ^ k := Nat.mod_lt _ (Nat.two_pow_pos k)
  have h3 : 2 ^ k ≤ 2 ^ 31 := Nat.pow_le_pow_right (by decide) (by omega)
  rw [← Int32.toInt_toBitVec, BitVec.toInt_eq_toNat_of_lt (by omega), h]
theorem own_and64 (x m : Int64) (k : Nat) (hm : m.toBitVec.toNat = 2 ^ k - 1) (hk : k < 64) : (x &&& m).toInt = ((x.toBitVec.toNat % 2 ^ k : Nat) : Int) := by
  have h : (x &&& m).toBitVec.toNat = x.toBitVec.toNat % 2 ^ k := by
    rw [Int64.toBitVec_and, BitVec.toNat_and, hm, Nat.and_two_pow_sub_one_eq_mod]
  have h2 : x.toBitVec.toNat % 2 ^ k < 2 ^ k := Nat.mod_lt _ (Nat.two_pow_pos k)
  have h3 : 2 ^ k ≤ 2 ^ 63 := Nat.pow_le_pow_right (by decide) (by omega)
  rw [← Int64.toInt_toBitVec, BitVec.toInt_eq_toNat_of_lt (by omega), h]
theorem own_b {b y : Int32} (h : b.toInt8.toInt32 = y) : y.toInt8.toInt32 = y := by
  subst h; simp
theorem own_v (x : Int64) : ∃ n : Nat, n < 1000000000000000000 ∧ ((x &&& (9223372036854775807 : Int64)) % (1000000000000000000 : Int64)) = Int64.ofNat n := by
  have h := own_and64 x 9223372036854775807 63 (by decide) (by decide)
  refine ⟨x.toBitVec.toNat % 2 ^ 63 % 1000000000000000000, by omega, ?_⟩
  apply Int64.toInt_inj.mp
  rw [Int64.toInt_mod, h, show (1000000000000000000 : Int64).toInt = 1000000000000000000 from rfl, Int.tmod_eq_emod_of_nonneg (by omega), Int64.toInt_ofNat_of_lt (by omega)]
  omega
theorem own_n (x : Int32) : ∃ n : Nat, n < 19 ∧ ((x &&& (2147483647 : Int32)) % (19 : Int32)) = Int32.ofNat n := by
  have h := own_and32 x 2147483647 31 (by decide) (by decide)
  refine ⟨x.toBitVec.toNat % 2 ^ 31 % 19, by omega, ?_⟩
  apply Int32.toInt_inj.mp
  rw [Int32.toInt_mod, h, show (19 : Int32).toInt = 19 from rfl, Int.tmod_eq_emod_of_nonneg (by omega), Int32.toInt_ofNat_of_lt (by omega)]
  omega
theorem own_f (x : Int32) : (x &&& (3 : Int32)) = 0 ∨ (x &&& (3 : Int32)) = 1 ∨ (x &&& (3 : Int32)) = 2 ∨ (x &&& (3 : Int32)) = 3 := by
  have h := own_and32 x 3 2 (by decide) (by decide)
  have q : x.toBitVec.toNat % 2 ^ 2 = 0 ∨ x.toBitVec.toNat % 2 ^ 2 = 1 ∨ x.toBitVec.toNat % 2 ^ 2 = 2 ∨ x.toBitVec.toNat % 2 ^ 2 = 3 := by omega
  rcases q with r | r | r | r <;> rw [r] at h
  · exact Or.inl (Int32.toInt_inj.mp h)
  · exact Or.inr (Or.inl (Int32.toInt_inj.mp h))
  · exact Or.inr (Or.inr (Or.inl (Int32.toInt_inj.mp h)))
  · exact Or.inr (Or.inr (Or.inr (Int32.toInt_inj.mp h)))
/-- the digit before 10^j -/
def own_d (n j : Nat) : Int32 := Int32.ofNat (48 + n / 10 ^ j % 10)
theorem own_small {k : Nat} (h : k < 128) : (Int32.ofNat k).toInt8.toInt32 = Int32.ofNat k := by
  apply Int32.toInt_inj.mp
  rw [Int8.toInt_toInt32, Int32.toInt_toInt8, Int32.toInt_ofNat_of_lt (by omega), Int.bmod_eq_of_le_mul_two (by omega) (by omega)]
theorem own_d8 (n j : Nat) : (own_d n j).toInt8.toInt32 = own_d n j := own_small (by omega)
theorem own_div {n : Nat} (hn : n < 1000000000000000000) (p : Int64) (q : Nat) (hp : p.toInt = q) (hq : 0 < q) : ((48 : Int64) + (Int64.ofNat n / p) % (10 : Int64)).toInt32 = Int32.ofNat (48 + n / q % 10) := by
  have e1 : (Int64.ofNat n / p).toInt = ((n / q : Nat) : Int) := by
    have hb : n / q ≤ n := Nat.div_le_self _ _
    rw [Int64.toInt_div, Int64.toInt_ofNat_of_lt (by omega), hp, Int.tdiv_eq_ediv_of_nonneg (by omega), ← Int.natCast_ediv]
    generalize n / q = r at *
    rw [Int.bmod_eq_of_le_mul_two (by omega) (by omega)]
  have e2 : ((Int64.ofNat n / p) % (10 : Int64)).toInt = ((n / q % 10 : Nat) : Int) := by
    rw [Int64.toInt_mod, e1, show (10 : Int64).toInt = ((10 : Nat) : Int) from rfl]
    generalize n / q = r at *
    rw [Int.tmod_eq_emod_of_nonneg (by omega), ← Int.natCast_emod]
  have hm : n / q % 10 < 10 := Nat.mod_lt _ (by decide)
  have e3 : ((48 : Int64) + (Int64.ofNat n / p) % (10 : Int64)).toInt = ((48 + n / q % 10 : Nat) : Int) := by
    rw [Int64.toInt_add, e2, show (48 : Int64).toInt = ((48 : Nat) : Int) from rfl, ← Int.natCast_add, Int.bmod_eq_of_le_mul_two (by omega) (by omega)]
  apply Int32.toInt_inj.mp
  rw [Int64.toInt_toInt32, e3, Int32.toInt_ofNat_of_lt (by omega), Int.bmod_eq_of_le_mul_two (by omega) (by omega)]
theorem own_n32 {i : Nat} (h : i < 2147483648) : (Int32.ofNat i).toInt = i := Int32.toInt_ofNat_of_lt h
theorem own_lt32 {i j : Nat} (hi : i < 2147483648) (hj : j < 2147483648) : Int32.ofNat i < Int32.ofNat j ↔ i < j := by
  rw [Int32.lt_iff_toInt_lt, own_n32 hi, own_n32 hj]; omega
theorem own_sub32 {i j : Nat} (hij : i ≤ j) : Int32.ofNat j - Int32.ofNat i = Int32.ofNat (j - i) := by
  rw [← Int32.ofNat_sub _ _ hij]
def own_slice (L : List Int32) (i j : Nat) : List Int32 := (L.take j).drop i
theorem own_snil {L : List Int32} {j : Nat} : own_slice L j j = [] := by simp [own_slice]
theorem own_scons {L : List Int32} {i j : Nat} (hij : i < j) (hj : j ≤ L.length) {b : Int32} (hb : L[i]? = some b) : own_slice L i j = b :: own_slice L (i + 1) j := by
  have hi : i < L.length := by omega
  have e : b = L[i] := by rw [List.getElem?_eq_getElem hi] at hb; exact (Option.some.inj hb).symm
  unfold own_slice
  rw [List.drop_eq_getElem_cons (by simp; omega)]
  simp [e]
def own_lv (acc : Int64) (b : Int32) : Int64 := ((acc * 10) + b.toInt64) - 48
def own_D (n : Nat) : Nat → List Int32
  | 0 => []
  | i + 1 => own_d n i :: own_D n i
theorem own_lvN (A n j : Nat) : own_lv (Int64.ofNat A) (own_d n j) = Int64.ofNat (A * 10 + n / 10 ^ j % 10) := by
  unfold own_lv own_d
  have e : (Int32.ofNat (48 + n / 10 ^ j % 10)).toInt64 = Int64.ofNat (48 + n / 10 ^ j % 10) := by
    apply Int64.toInt_inj.mp
    rw [Int32.toInt_toInt64, Int32.toInt_ofNat_of_lt (by omega), Int64.toInt_ofNat_of_lt (by omega)]
  rw [e, show (10 : Int64) = Int64.ofNat 10 from rfl, show (48 : Int64) = Int64.ofNat 48 from rfl, ← Int64.ofNat_mul, ← Int64.ofNat_add, ← Int64.ofNat_sub _ _ (by omega)]
  congr 1; omega
theorem own_fold (n : Nat) : ∀ (i A : Nat), (own_D n i).foldl own_lv (Int64.ofNat A) = Int64.ofNat (A * 10 ^ i + n % 10 ^ i)
  | 0, A => by simp [own_D, Nat.mod_one]
  | i + 1, A => by
    show (own_D n i).foldl own_lv (own_lv (Int64.ofNat A) (own_d n i)) = _
    rw [own_lvN, own_fold n i, Nat.mod_pow_succ]
    congr 1
    rw [Nat.add_mul, Nat.pow_succ, Nat.mul_assoc, Nat.mul_comm 10 (10 ^ i), Nat.mul_comm (n / 10 ^ i % 10)]
    omega
/-- 10^i is the i-th of the list -/
def own_ps : List Int64 := [1, 10, 100, 1000, 10000, 100000, 1000000, 10000000, 100000000, 1000000000, 10000000000, 100000000000, 1000000000000, 10000000000000, 100000000000000, 1000000000000000, 10000000000000000, 100000000000000000, 1000000000000000000]
theorem own_pow {i : Nat} (h : i < 19) : ∃ x, own_ps[i]? = some x ∧ x.toInt = ((10 ^ i : Nat) : Int) ∧ x ≠ 0 := by
  have q : ∀ i : Fin 19, ∃ x, own_ps[i.val]? = some x ∧ x.toInt = ((10 ^ i.val : Nat) : Int) ∧ x ≠ 0 := by
    intro i
    have : ∀ i : Fin 19, (own_ps[i.val]?.map fun x => decide (x.toInt = ((10 ^ i.val : Nat) : Int) ∧ x ≠ 0)) = some true := by decide
    have := this i
    cases hx : own_ps[i.val]? with
    | none => rw [hx] at this; cases this
    | some x => rw [hx] at this; exact ⟨x, rfl, of_decide_eq_true (Option.some.inj this)⟩
  exact q ⟨i, h⟩
theorem own_end {n i : Nat} (hn : n < 1000000000000000000) {x : Int64} (hx : x.toInt = ((10 ^ i : Nat) : Int)) : (own_D n i).foldl own_lv 0 = Int64.ofNat n % x := by
  have := own_fold n i 0
  rw [show (0 : Int64) = Int64.ofNat 0 from rfl, this]
  apply Int64.toInt_inj.mp
  have hb : n % 10 ^ i ≤ n := Nat.mod_le _ _
  rw [Nat.zero_mul, Nat.zero_add, Int64.toInt_mod, hx, Int64.toInt_ofNat_of_lt (by omega), Int64.toInt_ofNat_of_lt (by omega), Int.tmod_eq_emod_of_nonneg (by omega), ← Int.natCast_emod]

def Q1 (nn jj : Nat) (h0 : Heap) (n0 : Nat) (v : Option Value) (h : Heap) (L : List Loc) : Prop := v = some (.int (own_d nn jj)) ∧ Fr n0 L ∧ h = h0
theorem ef_rm1 (m : MethodId) (x0 : Int64) (x1 : Int64) : entryFrame m #[(.long x0), (.long x1)] 4 = mkF m 0 #[.val (.long x0), .second, .val (.long x1), .second] [] := by first | (simp [entryFrame, mkF, argsToLocals, Value.category, maxLocals]; done) | rfl
set_option maxRecDepth 65536 in
set_option maxHeartbeats 40000000 in
theorem rm1 (l : Launch) (Z : State) (a0 : Array Value) (hw : ∀ d ∈ tables_1, d.before a0 Z = true) (ws : List Jvm.Cond) (nn jj : Nat) (pp : Int64) (h0 : Heap) (n0 : Nat) (hnn : nn < 1000000000000000000) (hpp : pp.toInt = ((10 ^ jj : Nat) : Int)) (hnz : pp ≠ 0) :
    MetFree l own_y1 (head1 (Jvm.Cond.code own_y1 method_2_code 4 (some .byte) :: ws) ({ frames := 0, cells := 0, slots := 0, locals := 0 } : Room)) (fun aR U => aR = #[(.long (Int64.ofNat nn)), (.long pp)] ∧ Z.Warmed39 U.vm ∧ U.heap = h0) (fun _ _ _ _ _ => True) (fun _ U o U' => ∃ v L, o = .returned v ∧ Q1 nn jj h0 n0 v U'.heap L ∧ FrameEnd U o U' L ({ frames := 0, cells := 0, slots := 0, locals := 0 } : Room).cells ({ frames := 0, cells := 0, slots := 0, locals := 0 } : Room).slots) := by
  refine MetFree.of_bodySF pf_1 hisR ?_
  intro p e s m args below meth c s₁ Bd hml0 hP hK
  obtain ⟨rfl, hZ, hhE⟩ := hP
  have hx := Bd.exec
  have hby := Bd.bytes
  have hml : c.maxLocals = 4 := hml0
  have hown : s.vm.findClass "com/example/mapweft/mapweft/release/DecimalDigitsLongValuePinLaw" = some m.cls := findClass_of_methodNamed Bd.named
  have hnm := (name_of_methodNamed Bd.named Bd.method).1
  have X0 : Stand p l e ({ frames := 0, cells := 0, slots := 0, locals := 0 } : Room) s m #[(.long (Int64.ofNat nn)), (.long pp)] below meth c s₁ [] 0 0 := Stand.of_body Bd
  have e0 : s₁.heap = h0 := by rw [← hhE, Bd.state]; rfl
  have N0 := Fr.nil n0
  show own_Go p e below (own_Post s (Q1 nn jj h0 n0) ({ frames := 0, cells := 0, slots := 0, locals := 0 } : Room).cells ({ frames := 0, cells := 0, slots := 0, locals := 0 } : Room).slots) (s₁.setTop (entryFrame m #[(.long (Int64.ofNat nn)), (.long pp)] 4))
  rw [ef_rm1]
  generalize hG : own_Post s (Q1 nn jj h0 n0) ({ frames := 0, cells := 0, slots := 0, locals := 0 } : Room).cells ({ frames := 0, cells := 0, slots := 0, locals := 0 } : Room).slots = G
  refine own_ldc2Long X0 hx hown (mvT hZ (own_w hw 26 rfl)) (hb hby d1_0) 3 rfl ?_
  refine own_lloadN X0 hx (hb hby d1_3) rfl 4 rfl ?_
  refine own_lloadN X0 hx (hb hby d1_4) rfl 5 rfl ?_
  refine own_ldiv X0 hx (hb hby d1_5) hnz 6 rfl ?_
  refine own_ldc2Long X0 hx hown (mvT hZ (own_w hw 5 rfl)) (hb hby d1_6) 9 rfl ?_
  refine own_lrem X0 hx (hb hby d1_9) (by decide) 10 rfl ?_
  refine own_ladd X0 hx (hb hby d1_10) 11 rfl ?_
  refine own_l2i X0 hx (hb hby d1_11) 12 rfl ?_
  refine own_i2b X0 hx (hb hby d1_12) 13 rfl ?_
  rw [own_div hnn pp (10 ^ jj) hpp (Nat.pow_pos (by decide))]
  show own_Go p e below G (s₁.setTop (mkF m 13 #[.val (.long (Int64.ofNat nn)), .second, .val (.long pp), .second] [(.int (Int32.ofNat (48 + nn / 10 ^ jj % 10)).toInt8.toInt32)]))
  refine own_nreturn X0 hx Bd.notSynchronized hG Bd.returns (by simp) (hb hby d1_13) (by decide) (by decide) ?_
  rw [e0]
  exact ⟨by show some (Value.int ((Int32.ofNat (48 + nn / 10 ^ jj % 10)).toInt8.toInt32.toInt8.toInt32)) = _; rw [own_small (by omega), own_small (by omega)]; rfl, N0, rfl⟩
def Q2 (Ls : List Int32) (i j : Nat) (h0 : Heap) (n0 : Nat) (v : Option Value) (h : Heap) (L : List Loc) : Prop := v = some (.long ((own_slice Ls i j).foldl own_lv 0)) ∧ Fr n0 L ∧ h = h0
theorem ef_rm2 (m : MethodId) (x0 : Addr) (x1 : Int32) (x2 : Int32) : entryFrame m #[(.ref x0), (.int x1), (.int x2)] 6 = mkF m 0 #[.val (.ref x0), .val (.int x1), .val (.int x2), .unset, .unset, .unset] [] := by first | (simp [entryFrame, mkF, argsToLocals, Value.category, maxLocals]; done) | rfl
set_option maxRecDepth 65536 in
set_option maxHeartbeats 40000000 in
theorem rm2 (l : Launch) (Z : State) (a0 : Array Value) (hw : ∀ d ∈ tables_1, d.before a0 Z = true) (ws : List Jvm.Cond) (a : Addr) (i j : Nat) (Ls : List Int32) (h0 : Heap) (n0 : Nat) (hij : i ≤ j) (hj : j ≤ Ls.length) (V0 : own_A .byte Value.int Z h0 a Ls) :
    MetFree l own_y2 (head1 (Jvm.Cond.code own_y2 prog_13_method_5_code 6 (some .long) :: ws) ({ frames := 0, cells := 0, slots := 0, locals := 0 } : Room)) (fun aR U => aR = #[(.ref a), (.int (Int32.ofNat i)), (.int (Int32.ofNat j))] ∧ Z.Warmed39 U.vm ∧ U.heap = h0) (fun _ _ _ _ _ => True) (fun _ U o U' => ∃ v L, o = .returned v ∧ Q2 Ls i j h0 n0 v U'.heap L ∧ FrameEnd U o U' L ({ frames := 0, cells := 0, slots := 0, locals := 0 } : Room).cells ({ frames := 0, cells := 0, slots := 0, locals := 0 } : Room).slots) := by
  refine MetFree.of_bodySF pf_2 hisR ?_
  intro p e s m args below meth c s₁ Bd hml0 hP hK
  obtain ⟨rfl, hZ, hhE⟩ := hP
  have hx := Bd.exec
  have hby := Bd.bytes
  have hml : c.maxLocals = 6 := hml0
  have hown : s.vm.findClass "com/example/mapweft/mapweft/release/DecimalDigits" = some m.cls := findClass_of_methodNamed Bd.named
  have hnm := (name_of_methodNamed Bd.named Bd.method).1
  have X0 : Stand p l e ({ frames := 0, cells := 0, slots := 0, locals := 0 } : Room) s m #[(.ref a), (.int (Int32.ofNat i)), (.int (Int32.ofNat j))] below meth c s₁ [] 0 0 := Stand.of_body Bd
  have e0 : s₁.heap = h0 := by rw [← hhE, Bd.state]; rfl
  have N0 := Fr.nil n0
  show own_Go p e below (own_Post s (Q2 Ls i j h0 n0) ({ frames := 0, cells := 0, slots := 0, locals := 0 } : Room).cells ({ frames := 0, cells := 0, slots := 0, locals := 0 } : Room).slots) (s₁.setTop (entryFrame m #[(.ref a), (.int (Int32.ofNat i)), (.int (Int32.ofNat j))] 6))
  rw [ef_rm2]
  generalize hG : own_Post s (Q2 Ls i j h0 n0) ({ frames := 0, cells := 0, slots := 0, locals := 0 } : Room).cells ({ frames := 0, cells := 0, slots := 0, locals := 0 } : Room).slots = G
  have hlen := V0.len
  have hj' : j < 2147483648 := by omega
  have loop : ∀ (d k : Nat) (acc : Int64), k + d = j → (own_slice Ls i j).foldl own_lv 0 = (own_slice Ls k j).foldl own_lv acc → own_Go p e below G (s₁.setTop (mkF m 5 #[.val (.ref a), .val (.int (Int32.ofNat i)), .val (.int (Int32.ofNat j)), .val (.long acc), .second, .val (.int (Int32.ofNat k))] [])) := by
    intro d
    induction d with
    | zero =>
      intro k acc hk hv
      have hkj : k = j := by omega
      subst hkj
      refine own_iload X0 hx (hb hby d2_5) rfl 7 rfl ?_
      refine own_iloadN X0 hx (hb hby d2_7) rfl 8 rfl ?_
      refine own_icmpY X0 hx (hb hby d2_8) (flt (by rw [own_lt32 hj' hj']; omega)).2.1 33 ⟨by decide, by decide⟩ ?_
      refine own_lloadN X0 hx (hb hby d2_33) rfl 34 rfl ?_
      refine own_lreturn X0 hx Bd.notSynchronized hG Bd.returns (hb hby d2_34) (by decide) (by decide) ?_
      rw [e0]
      exact ⟨by rw [hv, own_snil]; rfl, N0, rfl⟩
    | succ d ih =>
      intro k acc hk hv
      have hk' : k < 2147483648 := by omega
      have hkl : k < Ls.length := by omega
      obtain ⟨bb, hbb⟩ : ∃ bb, Ls[k]? = some bb := ⟨_, List.getElem?_eq_getElem hkl⟩
      rw [own_scons (show k < j by omega) hj hbb] at hv
      refine own_iload X0 hx (hb hby d2_5) rfl 7 rfl ?_
      refine own_iloadN X0 hx (hb hby d2_7) rfl 8 rfl ?_
      refine own_icmpN X0 hx (hb hby d2_8) (tlt (by rw [own_lt32 hk' hj']; omega)).2.1 11 rfl ?_
      refine own_lloadN X0 hx (hb hby d2_11) rfl 12 rfl ?_
      refine own_ldc2Long X0 hx hown (mvT hZ (own_w hw 31 rfl)) (hb hby d2_12) 15 rfl ?_
      refine own_lmul X0 hx (hb hby d2_15) 16 rfl ?_
      refine own_aloadN X0 hx (hb hby d2_16) rfl rfl 17 rfl ?_
      refine own_iload X0 hx (hb hby d2_17) rfl 19 rfl ?_
      refine own_baload X0 hx hZ e0 V0 k rfl bb hbb (hb hby d2_19) 20 rfl ?_
      refine own_i2l X0 hx (hb hby d2_20) 21 rfl ?_
      refine own_ladd X0 hx (hb hby d2_21) 22 rfl ?_
      refine own_ldc2Long X0 hx hown (mvT hZ (own_w hw 32 rfl)) (hb hby d2_22) 25 rfl ?_
      refine own_lsub X0 hx (hb hby d2_25) 26 rfl ?_
      refine own_lstoreN X0 hx (hb hby d2_26) #[.val (.ref a), .val (.int (Int32.ofNat i)), .val (.int (Int32.ofNat j)), .val (.long (((acc * (10 : Int64)) + (bb).toInt64) - (48 : Int64))), .second, .val (.int (Int32.ofNat k))] rfl 27 rfl ?_
      refine own_iinc X0 hx (hb hby d2_27) rfl #[.val (.ref a), .val (.int (Int32.ofNat i)), .val (.int (Int32.ofNat j)), .val (.long (((acc * (10 : Int64)) + (bb).toInt64) - (48 : Int64))), .second, .val (.int ((Int32.ofNat k) + (1 : Int32)))] rfl 30 rfl ?_
      refine own_goto X0 hx (hb hby d2_30) 5 ⟨by decide, by decide⟩ ?_
      rw [show (Int32.ofNat k) + (1 : Int32) = Int32.ofNat (k + 1) from (Int32.ofNat_add k 1).symm]
      exact ih (k + 1) _ (by omega) hv
  refine own_lconst X0 hx (hb hby d2_0) (0 : Int64) rfl 1 rfl ?_
  refine own_lstoreN X0 hx (hb hby d2_1) #[.val (.ref a), .val (.int (Int32.ofNat i)), .val (.int (Int32.ofNat j)), .val (.long (0 : Int64)), .second, .unset] rfl 2 rfl ?_
  refine own_iloadN X0 hx (hb hby d2_2) rfl 3 rfl ?_
  refine own_istore X0 hx (hb hby d2_3) #[.val (.ref a), .val (.int (Int32.ofNat i)), .val (.int (Int32.ofNat j)), .val (.long (0 : Int64)), .second, .val (.int (Int32.ofNat i))] rfl 5 rfl ?_
  exact loop (j - i) i 0 (by omega) rfl
def Q0 (h0 : Heap) (n0 : Nat) (v : Option Value) (h : Heap) (L : List Loc) : Prop := v = some (.int 1) ∧ Fr n0 L
theorem ef_rm0 (m : MethodId) (x0 : Int64) (x1 : Int32) (x2 : Int32) (x3 : Int32) : entryFrame m #[(.long x0), (.int x1), (.int x2), (.int x3)] maxLocals = mkF m 0 #[.val (.long x0), .second, .val (.int x1), .val (.int x2), .val (.int x3), .unset, .unset, .unset, .unset, .unset, .unset, .unset, .unset, .unset] [] := by first | (simp [entryFrame, mkF, argsToLocals, Value.category, maxLocals]; done) | rfl
set_option maxRecDepth 65536 in
set_option maxHeartbeats 40000000 in
theorem rm0 (l : Launch) (Z : State) (a0 : Array Value) (hw : ∀ d ∈ tables_1, d.before a0 Z = true) (ws : List Jvm.Cond) (v0 : Int64) (v1 v2 v3 : Int32) (h0 : Heap) (n0 : Nat) (Z0 : n0 ≤ h0.size) :
    MetFree l x (head1 (Jvm.Cond.code x code maxLocals ret :: ws) room_1) (fun aR U => aR = #[(.long v0), (.int v1), (.int v2), (.int v3)] ∧ Z.Warmed39 U.vm ∧ U.heap = h0) (fun _ _ _ _ _ => True) (fun _ U o U' => ∃ v L, o = .returned v ∧ Q0 h0 n0 v U'.heap L ∧ FrameEnd U o U' L room_1.cells room_1.slots) := by
  refine MetFree.of_bodySF (plainFor_of_name pn_0) hisR ?_
  intro p e s m args below meth c s₁ Bd hml0 hP hK
  obtain ⟨rfl, hZ, hhE⟩ := hP
  have hx := Bd.exec
  have hby := Bd.bytes
  have hml : c.maxLocals = 14 := hml0
  have hown : s.vm.findClass "com/example/mapweft/mapweft/release/DecimalDigitsLongValuePinLaw" = some m.cls := findClass_of_methodNamed Bd.named
  have hnm := (name_of_methodNamed Bd.named Bd.method).1
  have X0 : Stand p l e room_1 s m #[(.long v0), (.int v1), (.int v2), (.int v3)] below meth c s₁ [] 0 0 := Stand.of_body Bd
  have e0 : s₁.heap = h0 := by rw [← hhE, Bd.state]; rfl
  have N0 := Fr.nil n0
  show own_Go p e below (own_Post s (Q0 h0 n0) room_1.cells room_1.slots) (s₁.setTop (entryFrame m #[(.long v0), (.int v1), (.int v2), (.int v3)] maxLocals))
  rw [ef_rm0]
  generalize hG : own_Post s (Q0 h0 n0) room_1.cells room_1.slots = G
  refine own_lloadN X0 hx (hb hby at_0) rfl 1 rfl ?_
  refine own_ldc2Long X0 hx hown (mvT hZ (own_w hw 0 rfl)) (hb hby at_1) 4 rfl ?_
  refine own_land X0 hx (hb hby at_4) 5 rfl ?_
  refine own_ldc2Long X0 hx hown (mvT hZ (own_w hw 1 rfl)) (hb hby at_5) 8 rfl ?_
  refine own_lrem X0 hx (hb hby at_8) (by decide) 9 rfl ?_
  generalize hy1 : ((v0 &&& (9223372036854775807 : Int64)) % (1000000000000000000 : Int64)) = y1
  refine own_lstore X0 hx (hb hby at_9) #[.val (.long v0), .second, .val (.int v1), .val (.int v2), .val (.int v3), .val (.long y1), .second, .unset, .unset, .unset, .unset, .unset, .unset, .unset] rfl 11 rfl ?_
  refine own_iloadN X0 hx (hb hby at_11) rfl 12 rfl ?_
  refine own_ldcInt X0 hx hown (mvT hZ (own_w hw 2 rfl)) (hb hby at_12) 14 rfl ?_
  refine own_iand X0 hx (hb hby at_14) 15 rfl ?_
  refine own_bipush X0 hx (hb hby at_15) (19 : Int32) rfl 17 rfl ?_
  refine own_irem X0 hx (hb hby at_17) (by decide) 18 rfl ?_
  generalize hy2 : ((v1 &&& (2147483647 : Int32)) % (19 : Int32)) = y2
  refine own_istore X0 hx (hb hby at_18) #[.val (.long v0), .second, .val (.int v1), .val (.int v2), .val (.int v3), .val (.long y1), .second, .val (.int y2), .unset, .unset, .unset, .unset, .unset, .unset] rfl 20 rfl ?_
  refine own_iloadN X0 hx (hb hby at_20) rfl 21 rfl ?_
  refine own_iconst X0 hx (hb hby at_21) (3 : Int32) rfl 22 rfl ?_
  refine own_iand X0 hx (hb hby at_22) 23 rfl ?_
  generalize hy3 : (v2 &&& (3 : Int32)) = y3
  refine own_istore X0 hx (hb hby at_23) #[.val (.long v0), .second, .val (.int v1), .val (.int v2), .val (.int v3), .val (.long y1), .second, .val (.int y2), .val (.int y3), .unset, .unset, .unset, .unset, .unset] rfl 25 rfl ?_
  obtain ⟨nn, hnn, he⟩ := own_v v0
  obtain rfl : y1 = Int64.ofNat nn := hy1.symm.trans he
  obtain ⟨ni, hni, he2⟩ := own_n v1
  obtain rfl : y2 = Int32.ofNat ni := hy2.symm.trans he2
  have hf : y3 = 0 ∨ y3 = 1 ∨ y3 = 2 ∨ y3 = 3 := hy3 ▸ own_f v2
  obtain ⟨xx, hxx, hxi, hxz⟩ := own_pow hni
  rcases hf with rfl | rfl | rfl | rfl
  ·
    refine own_iload X0 hx (hb hby at_25) rfl 27 rfl ?_
    refine own_bipush X0 hx (hb hby at_27) (18 : Int32) rfl 29 rfl ?_
    refine own_iadd X0 hx (hb hby at_29) 30 rfl ?_
    show own_Go p e below G (s₁.setTop (mkF m 30 #[.val (.long v0), .second, .val (.int v1), .val (.int v2), .val (.int v3), .val (.long (Int64.ofNat nn)), .second, .val (.int (Int32.ofNat ni)), .val (.int (0 : Int32)), .unset, .unset, .unset, .unset, .unset] [(.int (18 : Int32))]))
    refine own_istore X0 hx (hb hby at_30) #[.val (.long v0), .second, .val (.int v1), .val (.int v2), .val (.int v3), .val (.long (Int64.ofNat nn)), .second, .val (.int (Int32.ofNat ni)), .val (.int (0 : Int32)), .val (.int (18 : Int32)), .unset, .unset, .unset, .unset] rfl 32 rfl ?_
    refine own_iload X0 hx (hb hby at_32) rfl 34 rfl ?_
    refine own_iload X0 hx (hb hby at_34) rfl 36 rfl ?_
    refine own_isub X0 hx (hb hby at_36) 37 rfl ?_
    rw [show (18 : Int32) - Int32.ofNat ni = Int32.ofNat (18 - ni) from own_sub32 (i := ni) (j := 18) (by omega)]
    refine own_istore X0 hx (hb hby at_37) #[.val (.long v0), .second, .val (.int v1), .val (.int v2), .val (.int v3), .val (.long (Int64.ofNat nn)), .second, .val (.int (Int32.ofNat ni)), .val (.int (0 : Int32)), .val (.int (18 : Int32)), .val (.int (Int32.ofNat (18 - ni))), .unset, .unset, .unset] rfl 39 rfl ?_
    refine own_iload X0 hx (hb hby at_39) rfl 41 rfl ?_
    refine own_i2b X0 hx (hb hby at_41) 42 rfl ?_
    generalize hy4 : (v3).toInt8.toInt32 = y4
    refine own_istore X0 hx (hb hby at_42) #[.val (.long v0), .second, .val (.int v1), .val (.int v2), .val (.int v3), .val (.long (Int64.ofNat nn)), .second, .val (.int (Int32.ofNat ni)), .val (.int (0 : Int32)), .val (.int (18 : Int32)), .val (.int (Int32.ofNat (18 - ni))), .val (.int y4), .unset, .unset] rfl 44 rfl ?_
    refine own_bipush X0 hx (hb hby at_44) (24 : Int32) rfl 46 rfl ?_
    refine own_newB X0 hx hZ (own_w hw 3 rfl) e0 (hb hby at_46) 24 rfl 24 (by decide) (by decide) (by decide) (by decide) 48 rfl (fun T5 h5 a5 g5 X5 e5 E5 V5 => ?_)
    have ge6 : n0 ≤ a5 := by rw [g5]; exact Z0
    have Z7 : n0 ≤ h5.size := Nat.le_trans Z0 E5.1
    rw [show (List.replicate 24 (0 : Int32)) = [(0 : Int32), (0 : Int32), (0 : Int32), (0 : Int32), (0 : Int32), (0 : Int32), (0 : Int32), (0 : Int32), (0 : Int32), (0 : Int32), (0 : Int32), (0 : Int32), (0 : Int32), (0 : Int32), (0 : Int32), (0 : Int32), (0 : Int32), (0 : Int32), (0 : Int32), (0 : Int32), (0 : Int32), (0 : Int32), (0 : Int32), (0 : Int32)] from rfl] at V5
    refine own_astore X5 hx (hb hby at_48) rfl #[.val (.long v0), .second, .val (.int v1), .val (.int v2), .val (.int v3), .val (.long (Int64.ofNat nn)), .second, .val (.int (Int32.ofNat ni)), .val (.int (0 : Int32)), .val (.int (18 : Int32)), .val (.int (Int32.ofNat (18 - ni))), .val (.int y4), .val (.ref a5), .unset] rfl 50 rfl ?_
    refine own_aload X5 hx (hb hby at_50) rfl rfl 52 rfl ?_
    refine own_iconst X5 hx (hb hby at_52) (0 : Int32) rfl 53 rfl ?_
    refine own_iload X5 hx (hb hby at_53) rfl 55 rfl ?_
    refine own_bastore X5 hx hZ e5 V5 0 rfl (by simp) (hb hby at_55) 56 rfl (fun T8 h8 X8 e8 W8 V8 => ?_)
    rw [show [(0 : Int32), (0 : Int32), (0 : Int32), (0 : Int32), (0 : Int32), (0 : Int32), (0 : Int32), (0 : Int32), (0 : Int32), (0 : Int32), (0 : Int32), (0 : Int32), (0 : Int32), (0 : Int32), (0 : Int32), (0 : Int32), (0 : Int32), (0 : Int32), (0 : Int32), (0 : Int32), (0 : Int32), (0 : Int32), (0 : Int32), (0 : Int32)].set 0 (y4.toInt8.toInt32) = [y4, (0 : Int32), (0 : Int32), (0 : Int32), (0 : Int32), (0 : Int32), (0 : Int32), (0 : Int32), (0 : Int32), (0 : Int32), (0 : Int32), (0 : Int32), (0 : Int32), (0 : Int32), (0 : Int32), (0 : Int32), (0 : Int32), (0 : Int32), (0 : Int32), (0 : Int32), (0 : Int32), (0 : Int32), (0 : Int32), (0 : Int32)] from (by rw [own_b hy4]; rfl)] at V8
    have N9 := Fr.snoc X8 N0 ge6
    have Z10 : n0 ≤ h8.size := by rw [W8.size]; exact Z7
    refine own_aload X8 hx (hb hby at_56) rfl rfl 58 rfl ?_
    refine own_iconst X8 hx (hb hby at_58) (1 : Int32) rfl 59 rfl ?_
    refine own_iload X8 hx (hb hby at_59) rfl 61 rfl ?_
    refine own_bastore X8 hx hZ e8 V8 1 rfl (by simp) (hb hby at_61) 62 rfl (fun T11 h11 X11 e11 W11 V11 => ?_)
    rw [show [y4, (0 : Int32), (0 : Int32), (0 : Int32), (0 : Int32), (0 : Int32), (0 : Int32), (0 : Int32), (0 : Int32), (0 : Int32), (0 : Int32), (0 : Int32), (0 : Int32), (0 : Int32), (0 : Int32), (0 : Int32), (0 : Int32), (0 : Int32), (0 : Int32), (0 : Int32), (0 : Int32), (0 : Int32), (0 : Int32), (0 : Int32)].set 1 (y4.toInt8.toInt32) = [y4, y4, (0 : Int32), (0 : Int32), (0 : Int32), (0 : Int32), (0 : Int32), (0 : Int32), (0 : Int32), (0 : Int32), (0 : Int32), (0 : Int32), (0 : Int32), (0 : Int32), (0 : Int32), (0 : Int32), (0 : Int32), (0 : Int32), (0 : Int32), (0 : Int32), (0 : Int32), (0 : Int32), (0 : Int32), (0 : Int32)] from (by rw [own_b hy4]; rfl)] at V11
    have N12 := Fr.snoc X11 N9 ge6
    have Z13 : n0 ≤ h11.size := by rw [W11.size]; exact Z10
    refine own_aload X11 hx (hb hby at_62) rfl rfl 64 rfl ?_
    refine own_iconst X11 hx (hb hby at_64) (2 : Int32) rfl 65 rfl ?_
    refine own_iload X11 hx (hb hby at_65) rfl 67 rfl ?_
    refine own_bastore X11 hx hZ e11 V11 2 rfl (by simp) (hb hby at_67) 68 rfl (fun T14 h14 X14 e14 W14 V14 => ?_)
    rw [show [y4, y4, (0 : Int32), (0 : Int32), (0 : Int32), (0 : Int32), (0 : Int32), (0 : Int32), (0 : Int32), (0 : Int32), (0 : Int32), (0 : Int32), (0 : Int32), (0 : Int32), (0 : Int32), (0 : Int32), (0 : Int32), (0 : Int32), (0 : Int32), (0 : Int32), (0 : Int32), (0 : Int32), (0 : Int32), (0 : Int32)].set 2 (y4.toInt8.toInt32) = [y4, y4, y4, (0 : Int32), (0 : Int32), (0 : Int32), (0 : Int32), (0 : Int32), (0 : Int32), (0 : Int32), (0 : Int32), (0 : Int32), (0 : Int32), (0 : Int32), (0 : Int32), (0 : Int32), (0 : Int32), (0 : Int32), (0 : Int32), (0 : Int32), (0 : Int32), (0 : Int32), (0 : Int32), (0 : Int32)] from (by rw [own_b hy4]; rfl)] at V14
    have N15 := Fr.snoc X14 N12 ge6
    have Z16 : n0 ≤ h14.size := by rw [W14.size]; exact Z13
    refine own_aload X14 hx (hb hby at_68) rfl rfl 70 rfl ?_
    refine own_iconst X14 hx (hb hby at_70) (3 : Int32) rfl 71 rfl ?_
    refine own_iload X14 hx (hb hby at_71) rfl 73 rfl ?_
    refine own_bastore X14 hx hZ e14 V14 3 rfl (by simp) (hb hby at_73) 74 rfl (fun T17 h17 X17 e17 W17 V17 => ?_)
    rw [show [y4, y4, y4, (0 : Int32), (0 : Int32), (0 : Int32), (0 : Int32), (0 : Int32), (0 : Int32), (0 : Int32), (0 : Int32), (0 : Int32), (0 : Int32), (0 : Int32), (0 : Int32), (0 : Int32), (0 : Int32), (0 : Int32), (0 : Int32), (0 : Int32), (0 : Int32), (0 : Int32), (0 : Int32), (0 : Int32)].set 3 (y4.toInt8.toInt32) = [y4, y4, y4, y4, (0 : Int32), (0 : Int32), (0 : Int32), (0 : Int32), (0 : Int32), (0 : Int32), (0 : Int32), (0 : Int32), (0 : Int32), (0 : Int32), (0 : Int32), (0 : Int32), (0 : Int32), (0 : Int32), (0 : Int32), (0 : Int32), (0 : Int32), (0 : Int32), (0 : Int32), (0 : Int32)] from (by rw [own_b hy4]; rfl)] at V17
    have N18 := Fr.snoc X17 N15 ge6
    have Z19 : n0 ≤ h17.size := by rw [W17.size]; exact Z16
    refine own_aload X17 hx (hb hby at_74) rfl rfl 76 rfl ?_
    refine own_bipush X17 hx (hb hby at_76) (18 : Int32) rfl 78 rfl ?_
    refine own_iload X17 hx (hb hby at_78) rfl 80 rfl ?_
    refine own_bastore X17 hx hZ e17 V17 18 rfl (by simp) (hb hby at_80) 81 rfl (fun T20 h20 X20 e20 W20 V20 => ?_)
    rw [show [y4, y4, y4, y4, (0 : Int32), (0 : Int32), (0 : Int32), (0 : Int32), (0 : Int32), (0 : Int32), (0 : Int32), (0 : Int32), (0 : Int32), (0 : Int32), (0 : Int32), (0 : Int32), (0 : Int32), (0 : Int32), (0 : Int32), (0 : Int32), (0 : Int32), (0 : Int32), (0 : Int32), (0 : Int32)].set 18 (y4.toInt8.toInt32) = [y4, y4, y4, y4, (0 : Int32), (0 : Int32), (0 : Int32), (0 : Int32), (0 : Int32), (0 : Int32), (0 : Int32), (0 : Int32), (0 : Int32), (0 : Int32), (0 : Int32), (0 : Int32), (0 : Int32), (0 : Int32), y4, (0 : Int32), (0 : Int32), (0 : Int32), (0 : Int32), (0 : Int32)] from (by rw [own_b hy4]; rfl)] at V20
    have N21 := Fr.snoc X20 N18 ge6
    have Z22 : n0 ≤ h20.size := by rw [W20.size]; exact Z19
    refine own_aload X20 hx (hb hby at_81) rfl rfl 83 rfl ?_
    refine own_bipush X20 hx (hb hby at_83) (19 : Int32) rfl 85 rfl ?_
    refine own_iload X20 hx (hb hby at_85) rfl 87 rfl ?_
    refine own_bastore X20 hx hZ e20 V20 19 rfl (by simp) (hb hby at_87) 88 rfl (fun T23 h23 X23 e23 W23 V23 => ?_)
    rw [show [y4, y4, y4, y4, (0 : Int32), (0 : Int32), (0 : Int32), (0 : Int32), (0 : Int32), (0 : Int32), (0 : Int32), (0 : Int32), (0 : Int32), (0 : Int32), (0 : Int32), (0 : Int32), (0 : Int32), (0 : Int32), y4, (0 : Int32), (0 : Int32), (0 : Int32), (0 : Int32), (0 : Int32)].set 19 (y4.toInt8.toInt32) = [y4, y4, y4, y4, (0 : Int32), (0 : Int32), (0 : Int32), (0 : Int32), (0 : Int32), (0 : Int32), (0 : Int32), (0 : Int32), (0 : Int32), (0 : Int32), (0 : Int32), (0 : Int32), (0 : Int32), (0 : Int32), y4, y4, (0 : Int32), (0 : Int32), (0 : Int32), (0 : Int32)] from (by rw [own_b hy4]; rfl)] at V23
    have N24 := Fr.snoc X23 N21 ge6
    have Z25 : n0 ≤ h23.size := by rw [W23.size]; exact Z22
    refine own_aload X23 hx (hb hby at_88) rfl rfl 90 rfl ?_
    refine own_bipush X23 hx (hb hby at_90) (20 : Int32) rfl 92 rfl ?_
    refine own_iload X23 hx (hb hby at_92) rfl 94 rfl ?_
    refine own_bastore X23 hx hZ e23 V23 20 rfl (by simp) (hb hby at_94) 95 rfl (fun T26 h26 X26 e26 W26 V26 => ?_)
    rw [show [y4, y4, y4, y4, (0 : Int32), (0 : Int32), (0 : Int32), (0 : Int32), (0 : Int32), (0 : Int32), (0 : Int32), (0 : Int32), (0 : Int32), (0 : Int32), (0 : Int32), (0 : Int32), (0 : Int32), (0 : Int32), y4, y4, (0 : Int32), (0 : Int32), (0 : Int32), (0 : Int32)].set 20 (y4.toInt8.toInt32) = [y4, y4, y4, y4, (0 : Int32), (0 : Int32), (0 : Int32), (0 : Int32), (0 : Int32), (0 : Int32), (0 : Int32), (0 : Int32), (0 : Int32), (0 : Int32), (0 : Int32), (0 : Int32), (0 : Int32), (0 : Int32), y4, y4, y4, (0 : Int32), (0 : Int32), (0 : Int32)] from (by rw [own_b hy4]; rfl)] at V26
    have N27 := Fr.snoc X26 N24 ge6
    have Z28 : n0 ≤ h26.size := by rw [W26.size]; exact Z25
    refine own_aload X26 hx (hb hby at_95) rfl rfl 97 rfl ?_
    refine own_bipush X26 hx (hb hby at_97) (21 : Int32) rfl 99 rfl ?_
    refine own_iload X26 hx (hb hby at_99) rfl 101 rfl ?_
    refine own_bastore X26 hx hZ e26 V26 21 rfl (by simp) (hb hby at_101) 102 rfl (fun T29 h29 X29 e29 W29 V29 => ?_)
    rw [show [y4, y4, y4, y4, (0 : Int32), (0 : Int32), (0 : Int32), (0 : Int32), (0 : Int32), (0 : Int32), (0 : Int32), (0 : Int32), (0 : Int32), (0 : Int32), (0 : Int32), (0 : Int32), (0 : Int32), (0 : Int32), y4, y4, y4, (0 : Int32), (0 : Int32), (0 : Int32)].set 21 (y4.toInt8.toInt32) = [y4, y4, y4, y4, (0 : Int32), (0 : Int32), (0 : Int32), (0 : Int32), (0 : Int32), (0 : Int32), (0 : Int32), (0 : Int32), (0 : Int32), (0 : Int32), (0 : Int32), (0 : Int32), (0 : Int32), (0 : Int32), y4, y4, y4, y4, (0 : Int32), (0 : Int32)] from (by rw [own_b hy4]; rfl)] at V29
    have N30 := Fr.snoc X29 N27 ge6
    have Z31 : n0 ≤ h29.size := by rw [W29.size]; exact Z28
    refine own_aload X29 hx (hb hby at_102) rfl rfl 104 rfl ?_
    refine own_bipush X29 hx (hb hby at_104) (22 : Int32) rfl 106 rfl ?_
    refine own_iload X29 hx (hb hby at_106) rfl 108 rfl ?_
    refine own_bastore X29 hx hZ e29 V29 22 rfl (by simp) (hb hby at_108) 109 rfl (fun T32 h32 X32 e32 W32 V32 => ?_)
    rw [show [y4, y4, y4, y4, (0 : Int32), (0 : Int32), (0 : Int32), (0 : Int32), (0 : Int32), (0 : Int32), (0 : Int32), (0 : Int32), (0 : Int32), (0 : Int32), (0 : Int32), (0 : Int32), (0 : Int32), (0 : Int32), y4, y4, y4, y4, (0 : Int32), (0 : Int32)].set 22 (y4.toInt8.toInt32) = [y4, y4, y4, y4, (0 : Int32), (0 : Int32), (0 : Int32), (0 : Int32), (0 : Int32), (0 : Int32), (0 : Int32), (0 : Int32), (0 : Int32), (0 : Int32), (0 : Int32), (0 : Int32), (0 : Int32), (0 : Int32), y4, y4, y4, y4, y4, (0 : Int32)] from (by rw [own_b hy4]; rfl)] at V32
    have N33 := Fr.snoc X32 N30 ge6
    have Z34 : n0 ≤ h32.size := by rw [W32.size]; exact Z31
    refine own_aload X32 hx (hb hby at_109) rfl rfl 111 rfl ?_
    refine own_bipush X32 hx (hb hby at_111) (23 : Int32) rfl 113 rfl ?_
    refine own_iload X32 hx (hb hby at_113) rfl 115 rfl ?_
    refine own_bastore X32 hx hZ e32 V32 23 rfl (by simp) (hb hby at_115) 116 rfl (fun T35 h35 X35 e35 W35 V35 => ?_)
    rw [show [y4, y4, y4, y4, (0 : Int32), (0 : Int32), (0 : Int32), (0 : Int32), (0 : Int32), (0 : Int32), (0 : Int32), (0 : Int32), (0 : Int32), (0 : Int32), (0 : Int32), (0 : Int32), (0 : Int32), (0 : Int32), y4, y4, y4, y4, y4, (0 : Int32)].set 23 (y4.toInt8.toInt32) = [y4, y4, y4, y4, (0 : Int32), (0 : Int32), (0 : Int32), (0 : Int32), (0 : Int32), (0 : Int32), (0 : Int32), (0 : Int32), (0 : Int32), (0 : Int32), (0 : Int32), (0 : Int32), (0 : Int32), (0 : Int32), y4, y4, y4, y4, y4, y4] from (by rw [own_b hy4]; rfl)] at V35
    have N36 := Fr.snoc X35 N33 ge6
    have Z37 : n0 ≤ h35.size := by rw [W35.size]; exact Z34
    refine own_bipush X35 hx (hb hby at_116) (19 : Int32) rfl 118 rfl ?_
    refine own_newJ X35 hx hZ (own_w hw 4 rfl) e35 (hb hby at_118) 19 rfl 19 (by decide) (by decide) (by decide) (by decide) 120 rfl (fun T38 h38 a38 g38 X38 e38 E38 V38 => ?_)
    have ne39 : a5 ≠ a38 := by rw [g38]; exact Nat.ne_of_lt V35.lt
    have ge40 : n0 ≤ a38 := by rw [g38]; exact Z37
    have Z41 : n0 ≤ h38.size := Nat.le_trans Z37 E38.1
    have V42 := V35.ext E38
    rw [show (List.replicate 19 (0 : Int64)) = [(0 : Int64), (0 : Int64), (0 : Int64), (0 : Int64), (0 : Int64), (0 : Int64), (0 : Int64), (0 : Int64), (0 : Int64), (0 : Int64), (0 : Int64), (0 : Int64), (0 : Int64), (0 : Int64), (0 : Int64), (0 : Int64), (0 : Int64), (0 : Int64), (0 : Int64)] from rfl] at V38
    refine own_dup X38 hx (hb hby at_120) rfl 121 rfl ?_
    refine own_iconst X38 hx (hb hby at_121) (0 : Int32) rfl 122 rfl ?_
    refine own_lconst X38 hx (hb hby at_122) (1 : Int64) rfl 123 rfl ?_
    refine own_lastore X38 hx hZ e38 V38 0 rfl (by simp) (hb hby at_123) 124 rfl (fun T43 h43 X43 e43 W43 V43 => ?_)
    rw [show [(0 : Int64), (0 : Int64), (0 : Int64), (0 : Int64), (0 : Int64), (0 : Int64), (0 : Int64), (0 : Int64), (0 : Int64), (0 : Int64), (0 : Int64), (0 : Int64), (0 : Int64), (0 : Int64), (0 : Int64), (0 : Int64), (0 : Int64), (0 : Int64), (0 : Int64)].set 0 (1 : Int64) = [(1 : Int64), (0 : Int64), (0 : Int64), (0 : Int64), (0 : Int64), (0 : Int64), (0 : Int64), (0 : Int64), (0 : Int64), (0 : Int64), (0 : Int64), (0 : Int64), (0 : Int64), (0 : Int64), (0 : Int64), (0 : Int64), (0 : Int64), (0 : Int64), (0 : Int64)] from rfl] at V43
    have N44 := Fr.snoc X43 N36 ge40
    have Z45 : n0 ≤ h43.size := by rw [W43.size]; exact Z41
    have V46 := V42.other W43 ne39
    refine own_dup X43 hx (hb hby at_124) rfl 125 rfl ?_
    refine own_iconst X43 hx (hb hby at_125) (1 : Int32) rfl 126 rfl ?_
    refine own_ldc2Long X43 hx hown (mvT hZ (own_w hw 5 rfl)) (hb hby at_126) 129 rfl ?_
    refine own_lastore X43 hx hZ e43 V43 1 rfl (by simp) (hb hby at_129) 130 rfl (fun T47 h47 X47 e47 W47 V47 => ?_)
    rw [show [(1 : Int64), (0 : Int64), (0 : Int64), (0 : Int64), (0 : Int64), (0 : Int64), (0 : Int64), (0 : Int64), (0 : Int64), (0 : Int64), (0 : Int64), (0 : Int64), (0 : Int64), (0 : Int64), (0 : Int64), (0 : Int64), (0 : Int64), (0 : Int64), (0 : Int64)].set 1 (10 : Int64) = [(1 : Int64), (10 : Int64), (0 : Int64), (0 : Int64), (0 : Int64), (0 : Int64), (0 : Int64), (0 : Int64), (0 : Int64), (0 : Int64), (0 : Int64), (0 : Int64), (0 : Int64), (0 : Int64), (0 : Int64), (0 : Int64), (0 : Int64), (0 : Int64), (0 : Int64)] from rfl] at V47
    have N48 := Fr.snoc X47 N44 ge40
    have Z49 : n0 ≤ h47.size := by rw [W47.size]; exact Z45
    have V50 := V46.other W47 ne39
    refine own_dup X47 hx (hb hby at_130) rfl 131 rfl ?_
    refine own_iconst X47 hx (hb hby at_131) (2 : Int32) rfl 132 rfl ?_
    refine own_ldc2Long X47 hx hown (mvT hZ (own_w hw 6 rfl)) (hb hby at_132) 135 rfl ?_
    refine own_lastore X47 hx hZ e47 V47 2 rfl (by simp) (hb hby at_135) 136 rfl (fun T51 h51 X51 e51 W51 V51 => ?_)
    rw [show [(1 : Int64), (10 : Int64), (0 : Int64), (0 : Int64), (0 : Int64), (0 : Int64), (0 : Int64), (0 : Int64), (0 : Int64), (0 : Int64), (0 : Int64), (0 : Int64), (0 : Int64), (0 : Int64), (0 : Int64), (0 : Int64), (0 : Int64), (0 : Int64), (0 : Int64)].set 2 (100 : Int64) = [(1 : Int64), (10 : Int64), (100 : Int64), (0 : Int64), (0 : Int64), (0 : Int64), (0 : Int64), (0 : Int64), (0 : Int64), (0 : Int64), (0 : Int64), (0 : Int64), (0 : Int64), (0 : Int64), (0 : Int64), (0 : Int64), (0 : Int64), (0 : Int64), (0 : Int64)] from rfl] at V51
    have N52 := Fr.snoc X51 N48 ge40
    have Z53 : n0 ≤ h51.size := by rw [W51.size]; exact Z49
    have V54 := V50.other W51 ne39
    refine own_dup X51 hx (hb hby at_136) rfl 137 rfl ?_
    refine own_iconst X51 hx (hb hby at_137) (3 : Int32) rfl 138 rfl ?_
    refine own_ldc2Long X51 hx hown (mvT hZ (own_w hw 7 rfl)) (hb hby at_138) 141 rfl ?_
    refine own_lastore X51 hx hZ e51 V51 3 rfl (by simp) (hb hby at_141) 142 rfl (fun T55 h55 X55 e55 W55 V55 => ?_)
    rw [show [(1 : Int64), (10 : Int64), (100 : Int64), (0 : Int64), (0 : Int64), (0 : Int64), (0 : Int64), (0 : Int64), (0 : Int64), (0 : Int64), (0 : Int64), (0 : Int64), (0 : Int64), (0 : Int64), (0 : Int64), (0 : Int64), (0 : Int64), (0 : Int64), (0 : Int64)].set 3 (1000 : Int64) = [(1 : Int64), (10 : Int64), (100 : Int64), (1000 : Int64), (0 : Int64), (0 : Int64), (0 : Int64), (0 : Int64), (0 : Int64), (0 : Int64), (0 : Int64), (0 : Int64), (0 : Int64), (0 : Int64), (0 : Int64), (0 : Int64), (0 : Int64), (0 : Int64), (0 : Int64)] from rfl] at V55
    have N56 := Fr.snoc X55 N52 ge40
    have Z57 : n0 ≤ h55.size := by rw [W55.size]; exact Z53
    have V58 := V54.other W55 ne39
    refine own_dup X55 hx (hb hby at_142) rfl 143 rfl ?_
    refine own_iconst X55 hx (hb hby at_143) (4 : Int32) rfl 144 rfl ?_
    refine own_ldc2Long X55 hx hown (mvT hZ (own_w hw 8 rfl)) (hb hby at_144) 147 rfl ?_
    refine own_lastore X55 hx hZ e55 V55 4 rfl (by simp) (hb hby at_147) 148 rfl (fun T59 h59 X59 e59 W59 V59 => ?_)
    rw [show [(1 : Int64), (10 : Int64), (100 : Int64), (1000 : Int64), (0 : Int64), (0 : Int64), (0 : Int64), (0 : Int64), (0 : Int64), (0 : Int64), (0 : Int64), (0 : Int64), (0 : Int64), (0 : Int64), (0 : Int64), (0 : Int64), (0 : Int64), (0 : Int64), (0 : Int64)].set 4 (10000 : Int64) = [(1 : Int64), (10 : Int64), (100 : Int64), (1000 : Int64), (10000 : Int64), (0 : Int64), (0 : Int64), (0 : Int64), (0 : Int64), (0 : Int64), (0 : Int64), (0 : Int64), (0 : Int64), (0 : Int64), (0 : Int64), (0 : Int64), (0 : Int64), (0 : Int64), (0 : Int64)] from rfl] at V59
    have N60 := Fr.snoc X59 N56 ge40
    have Z61 : n0 ≤ h59.size := by rw [W59.size]; exact Z57
    have V62 := V58.other W59 ne39
    refine own_dup X59 hx (hb hby at_148) rfl 149 rfl ?_
    refine own_iconst X59 hx (hb hby at_149) (5 : Int32) rfl 150 rfl ?_
    refine own_ldc2Long X59 hx hown (mvT hZ (own_w hw 9 rfl)) (hb hby at_150) 153 rfl ?_
    refine own_lastore X59 hx hZ e59 V59 5 rfl (by simp) (hb hby at_153) 154 rfl (fun T63 h63 X63 e63 W63 V63 => ?_)
    rw [show [(1 : Int64), (10 : Int64), (100 : Int64), (1000 : Int64), (10000 : Int64), (0 : Int64), (0 : Int64), (0 : Int64), (0 : Int64), (0 : Int64), (0 : Int64), (0 : Int64), (0 : Int64), (0 : Int64), (0 : Int64), (0 : Int64), (0 : Int64), (0 : Int64), (0 : Int64)].set 5 (100000 : Int64) = [(1 : Int64), (10 : Int64), (100 : Int64), (1000 : Int64), (10000 : Int64), (100000 : Int64), (0 : Int64), (0 : Int64), (0 : Int64), (0 : Int64), (0 : Int64), (0 : Int64), (0 : Int64), (0 : Int64), (0 : Int64), (0 : Int64), (0 : Int64), (0 : Int64), (0 : Int64)] from rfl] at V63
    have N64 := Fr.snoc X63 N60 ge40
    have Z65 : n0 ≤ h63.size := by rw [W63.size]; exact Z61
    have V66 := V62.other W63 ne39
    refine own_dup X63 hx (hb hby at_154) rfl 155 rfl ?_
    refine own_bipush X63 hx (hb hby at_155) (6 : Int32) rfl 157 rfl ?_
    refine own_ldc2Long X63 hx hown (mvT hZ (own_w hw 10 rfl)) (hb hby at_157) 160 rfl ?_
    refine own_lastore X63 hx hZ e63 V63 6 rfl (by simp) (hb hby at_160) 161 rfl (fun T67 h67 X67 e67 W67 V67 => ?_)
    rw [show [(1 : Int64), (10 : Int64), (100 : Int64), (1000 : Int64), (10000 : Int64), (100000 : Int64), (0 : Int64), (0 : Int64), (0 : Int64), (0 : Int64), (0 : Int64), (0 : Int64), (0 : Int64), (0 : Int64), (0 : Int64), (0 : Int64), (0 : Int64), (0 : Int64), (0 : Int64)].set 6 (1000000 : Int64) = [(1 : Int64), (10 : Int64), (100 : Int64), (1000 : Int64), (10000 : Int64), (100000 : Int64), (1000000 : Int64), (0 : Int64), (0 : Int64), (0 : Int64), (0 : Int64), (0 : Int64), (0 : Int64), (0 : Int64), (0 : Int64), (0 : Int64), (0 : Int64), (0 : Int64), (0 : Int64)] from rfl] at V67
    have N68 := Fr.snoc X67 N64 ge40
    have Z69 : n0 ≤ h67.size := by rw [W67.size]; exact Z65
    have V70 := V66.other W67 ne39
    refine own_dup X67 hx (hb hby at_161) rfl 162 rfl ?_
    refine own_bipush X67 hx (hb hby at_162) (7 : Int32) rfl 164 rfl ?_
    refine own_ldc2Long X67 hx hown (mvT hZ (own_w hw 11 rfl)) (hb hby at_164) 167 rfl ?_
    refine own_lastore X67 hx hZ e67 V67 7 rfl (by simp) (hb hby at_167) 168 rfl (fun T71 h71 X71 e71 W71 V71 => ?_)
    rw [show [(1 : Int64), (10 : Int64), (100 : Int64), (1000 : Int64), (10000 : Int64), (100000 : Int64), (1000000 : Int64), (0 : Int64), (0 : Int64), (0 : Int64), (0 : Int64), (0 : Int64), (0 : Int64), (0 : Int64), (0 : Int64), (0 : Int64), (0 : Int64), (0 : Int64), (0 : Int64)].set 7 (10000000 : Int64) = [(1 : Int64), (10 : Int64), (100 : Int64), (1000 : Int64), (10000 : Int64), (100000 : Int64), (1000000 : Int64), (10000000 : Int64), (0 : Int64), (0 : Int64), (0 : Int64), (0 : Int64), (0 : Int64), (0 : Int64), (0 : Int64), (0 : Int64), (0 : Int64), (0 : Int64), (0 : Int64)] from rfl] at V71
    have N72 := Fr.snoc X71 N68 ge40
    have Z73 : n0 ≤ h71.size := by rw [W71.size]; exact Z69
    have V74 := V70.other W71 ne39
    refine own_dup X71 hx (hb hby at_168) rfl 169 rfl ?_
    refine own_bipush X71 hx (hb hby at_169) (8 : Int32) rfl 171 rfl ?_
    refine own_ldc2Long X71 hx hown (mvT hZ (own_w hw 12 rfl)) (hb hby at_171) 174 rfl ?_
    refine own_lastore X71 hx hZ e71 V71 8 rfl (by simp) (hb hby at_174) 175 rfl (fun T75 h75 X75 e75 W75 V75 => ?_)
    rw [show [(1 : Int64), (10 : Int64), (100 : Int64), (1000 : Int64), (10000 : Int64), (100000 : Int64), (1000000 : Int64), (10000000 : Int64), (0 : Int64), (0 : Int64), (0 : Int64), (0 : Int64), (0 : Int64), (0 : Int64), (0 : Int64), (0 : Int64), (0 : Int64), (0 : Int64), (0 : Int64)].set 8 (100000000 : Int64) = [(1 : Int64), (10 : Int64), (100 : Int64), (1000 : Int64), (10000 : Int64), (100000 : Int64), (1000000 : Int64), (10000000 : Int64), (100000000 : Int64), (0 : Int64), (0 : Int64), (0 : Int64), (0 : Int64), (0 : Int64), (0 : Int64), (0 : Int64), (0 : Int64), (0 : Int64), (0 : Int64)] from rfl] at V75
    have N76 := Fr.snoc X75 N72 ge40
    have Z77 : n0 ≤ h75.size := by rw [W75.size]; exact Z73
    have V78 := V74.other W75 ne39
    refine own_dup X75 hx (hb hby at_175) rfl 176 rfl ?_
    refine own_bipush X75 hx (hb hby at_176) (9 : Int32) rfl 178 rfl ?_
    refine own_ldc2Long X75 hx hown (mvT hZ (own_w hw 13 rfl)) (hb hby at_178) 181 rfl ?_
    refine own_lastore X75 hx hZ e75 V75 9 rfl (by simp) (hb hby at_181) 182 rfl (fun T79 h79 X79 e79 W79 V79 => ?_)
    rw [show [(1 : Int64), (10 : Int64), (100 : Int64), (1000 : Int64), (10000 : Int64), (100000 : Int64), (1000000 : Int64), (10000000 : Int64), (100000000 : Int64), (0 : Int64), (0 : Int64), (0 : Int64), (0 : Int64), (0 : Int64), (0 : Int64), (0 : Int64), (0 : Int64), (0 : Int64), (0 : Int64)].set 9 (1000000000 : Int64) = [(1 : Int64), (10 : Int64), (100 : Int64), (1000 : Int64), (10000 : Int64), (100000 : Int64), (1000000 : Int64), (10000000 : Int64), (100000000 : Int64), (1000000000 : Int64), (0 : Int64), (0 : Int64), (0 : Int64), (0 : Int64), (0 : Int64), (0 : Int64), (0 : Int64), (0 : Int64), (0 : Int64)] from rfl] at V79
    have N80 := Fr.snoc X79 N76 ge40
    have Z81 : n0 ≤ h79.size := by rw [W79.size]; exact Z77
    have V82 := V78.other W79 ne39
    refine own_dup X79 hx (hb hby at_182) rfl 183 rfl ?_
    refine own_bipush X79 hx (hb hby at_183) (10 : Int32) rfl 185 rfl ?_
    refine own_ldc2Long X79 hx hown (mvT hZ (own_w hw 14 rfl)) (hb hby at_185) 188 rfl ?_
    refine own_lastore X79 hx hZ e79 V79 10 rfl (by simp) (hb hby at_188) 189 rfl (fun T83 h83 X83 e83 W83 V83 => ?_)
    rw [show [(1 : Int64), (10 : Int64), (100 : Int64), (1000 : Int64), (10000 : Int64), (100000 : Int64), (1000000 : Int64), (10000000 : Int64), (100000000 : Int64), (1000000000 : Int64), (0 : Int64), (0 : Int64), (0 : Int64), (0 : Int64), (0 : Int64), (0 : Int64), (0 : Int64), (0 : Int64), (0 : Int64)].set 10 (10000000000 : Int64) = [(1 : Int64), (10 : Int64), (100 : Int64), (1000 : Int64), (10000 : Int64), (100000 : Int64), (1000000 : Int64), (10000000 : Int64), (100000000 : Int64), (1000000000 : Int64), (10000000000 : Int64), (0 : Int64), (0 : Int64), (0 : Int64), (0 : Int64), (0 : Int64), (0 : Int64), (0 : Int64), (0 : Int64)] from rfl] at V83
    have N84 := Fr.snoc X83 N80 ge40
    have Z85 : n0 ≤ h83.size := by rw [W83.size]; exact Z81
    have V86 := V82.other W83 ne39
    refine own_dup X83 hx (hb hby at_189) rfl 190 rfl ?_
    refine own_bipush X83 hx (hb hby at_190) (11 : Int32) rfl 192 rfl ?_
    refine own_ldc2Long X83 hx hown (mvT hZ (own_w hw 15 rfl)) (hb hby at_192) 195 rfl ?_
    refine own_lastore X83 hx hZ e83 V83 11 rfl (by simp) (hb hby at_195) 196 rfl (fun T87 h87 X87 e87 W87 V87 => ?_)
    rw [show [(1 : Int64), (10 : Int64), (100 : Int64), (1000 : Int64), (10000 : Int64), (100000 : Int64), (1000000 : Int64), (10000000 : Int64), (100000000 : Int64), (1000000000 : Int64), (10000000000 : Int64), (0 : Int64), (0 : Int64), (0 : Int64), (0 : Int64), (0 : Int64), (0 : Int64), (0 : Int64), (0 : Int64)].set 11 (100000000000 : Int64) = [(1 : Int64), (10 : Int64), (100 : Int64), (1000 : Int64), (10000 : Int64), (100000 : Int64), (1000000 : Int64), (10000000 : Int64), (100000000 : Int64), (1000000000 : Int64), (10000000000 : Int64), (100000000000 : Int64), (0 : Int64), (0 : Int64), (0 : Int64), (0 : Int64), (0 : Int64), (0 : Int64), (0 : Int64)] from rfl] at V87
    have N88 := Fr.snoc X87 N84 ge40
    have Z89 : n0 ≤ h87.size := by rw [W87.size]; exact Z85
    have V90 := V86.other W87 ne39
    refine own_dup X87 hx (hb hby at_196) rfl 197 rfl ?_
    refine own_bipush X87 hx (hb hby at_197) (12 : Int32) rfl 199 rfl ?_
    refine own_ldc2Long X87 hx hown (mvT hZ (own_w hw 16 rfl)) (hb hby at_199) 202 rfl ?_
    refine own_lastore X87 hx hZ e87 V87 12 rfl (by simp) (hb hby at_202) 203 rfl (fun T91 h91 X91 e91 W91 V91 => ?_)
    rw [show [(1 : Int64), (10 : Int64), (100 : Int64), (1000 : Int64), (10000 : Int64), (100000 : Int64), (1000000 : Int64), (10000000 : Int64), (100000000 : Int64), (1000000000 : Int64), (10000000000 : Int64), (100000000000 : Int64), (0 : Int64), (0 : Int64), (0 : Int64), (0 : Int64), (0 : Int64), (0 : Int64), (0 : Int64)].set 12 (1000000000000 : Int64) = [(1 : Int64), (10 : Int64), (100 : Int64), (1000 : Int64), (10000 : Int64), (100000 : Int64), (1000000 : Int64), (10000000 : Int64), (100000000 : Int64), (1000000000 : Int64), (10000000000 : Int64), (100000000000 : Int64), (1000000000000 : Int64), (0 : Int64), (0 : Int64), (0 : Int64), (0 : Int64), (0 : Int64), (0 : Int64)] from rfl] at V91
    have N92 := Fr.snoc X91 N88 ge40
    have Z93 : n0 ≤ h91.size := by rw [W91.size]; exact Z89
    have V94 := V90.other W91 ne39
    refine own_dup X91 hx (hb hby at_203) rfl 204 rfl ?_
    refine own_bipush X91 hx (hb hby at_204) (13 : Int32) rfl 206 rfl ?_
    refine own_ldc2Long X91 hx hown (mvT hZ (own_w hw 17 rfl)) (hb hby at_206) 209 rfl ?_
    refine own_lastore X91 hx hZ e91 V91 13 rfl (by simp) (hb hby at_209) 210 rfl (fun T95 h95 X95 e95 W95 V95 => ?_)
    rw [show [(1 : Int64), (10 : Int64), (100 : Int64), (1000 : Int64), (10000 : Int64), (100000 : Int64), (1000000 : Int64), (10000000 : Int64), (100000000 : Int64), (1000000000 : Int64), (10000000000 : Int64), (100000000000 : Int64), (1000000000000 : Int64), (0 : Int64), (0 : Int64), (0 : Int64), (0 : Int64), (0 : Int64), (0 : Int64)].set 13 (10000000000000 : Int64) = [(1 : Int64), (10 : Int64), (100 : Int64), (1000 : Int64), (10000 : Int64), (100000 : Int64), (1000000 : Int64), (10000000 : Int64), (100000000 : Int64), (1000000000 : Int64), (10000000000 : Int64), (100000000000 : Int64), (1000000000000 : Int64), (10000000000000 : Int64), (0 : Int64), (0 : Int64), (0 : Int64), (0 : Int64), (0 : Int64)] from rfl] at V95
    have N96 := Fr.snoc X95 N92 ge40
    have Z97 : n0 ≤ h95.size := by rw [W95.size]; exact Z93
    have V98 := V94.other W95 ne39
    refine own_dup X95 hx (hb hby at_210) rfl 211 rfl ?_
    refine own_bipush X95 hx (hb hby at_211) (14 : Int32) rfl 213 rfl ?_
    refine own_ldc2Long X95 hx hown (mvT hZ (own_w hw 18 rfl)) (hb hby at_213) 216 rfl ?_
    refine own_lastore X95 hx hZ e95 V95 14 rfl (by simp) (hb hby at_216) 217 rfl (fun T99 h99 X99 e99 W99 V99 => ?_)
    rw [show [(1 : Int64), (10 : Int64), (100 : Int64), (1000 : Int64), (10000 : Int64), (100000 : Int64), (1000000 : Int64), (10000000 : Int64), (100000000 : Int64), (1000000000 : Int64), (10000000000 : Int64), (100000000000 : Int64), (1000000000000 : Int64), (10000000000000 : Int64), (0 : Int64), (0 : Int64), (0 : Int64), (0 : Int64), (0 : Int64)].set 14 (100000000000000 : Int64) = [(1 : Int64), (10 : Int64), (100 : Int64), (1000 : Int64), (10000 : Int64), (100000 : Int64), (1000000 : Int64), (10000000 : Int64), (100000000 : Int64), (1000000000 : Int64), (10000000000 : Int64), (100000000000 : Int64), (1000000000000 : Int64), (10000000000000 : Int64), (100000000000000 : Int64), (0 : Int64), (0 : Int64), (0 : Int64), (0 : Int64)] from rfl] at V99
    have N100 := Fr.snoc X99 N96 ge40
    have Z101 : n0 ≤ h99.size := by rw [W99.size]; exact Z97
    have V102 := V98.other W99 ne39
    refine own_dup X99 hx (hb hby at_217) rfl 218 rfl ?_
    refine own_bipush X99 hx (hb hby at_218) (15 : Int32) rfl 220 rfl ?_
    refine own_ldc2Long X99 hx hown (mvT hZ (own_w hw 19 rfl)) (hb hby at_220) 223 rfl ?_
    refine own_lastore X99 hx hZ e99 V99 15 rfl (by simp) (hb hby at_223) 224 rfl (fun T103 h103 X103 e103 W103 V103 => ?_)
    rw [show [(1 : Int64), (10 : Int64), (100 : Int64), (1000 : Int64), (10000 : Int64), (100000 : Int64), (1000000 : Int64), (10000000 : Int64), (100000000 : Int64), (1000000000 : Int64), (10000000000 : Int64), (100000000000 : Int64), (1000000000000 : Int64), (10000000000000 : Int64), (100000000000000 : Int64), (0 : Int64), (0 : Int64), (0 : Int64), (0 : Int64)].set 15 (1000000000000000 : Int64) = [(1 : Int64), (10 : Int64), (100 : Int64), (1000 : Int64), (10000 : Int64), (100000 : Int64), (1000000 : Int64), (10000000 : Int64), (100000000 : Int64), (1000000000 : Int64), (10000000000 : Int64), (100000000000 : Int64), (1000000000000 : Int64), (10000000000000 : Int64), (100000000000000 : Int64), (1000000000000000 : Int64), (0 : Int64), (0 : Int64), (0 : Int64)] from rfl] at V103
    have N104 := Fr.snoc X103 N100 ge40
    have Z105 : n0 ≤ h103.size := by rw [W103.size]; exact Z101
    have V106 := V102.other W103 ne39
    refine own_dup X103 hx (hb hby at_224) rfl 225 rfl ?_
    refine own_bipush X103 hx (hb hby at_225) (16 : Int32) rfl 227 rfl ?_
    refine own_ldc2Long X103 hx hown (mvT hZ (own_w hw 20 rfl)) (hb hby at_227) 230 rfl ?_
    refine own_lastore X103 hx hZ e103 V103 16 rfl (by simp) (hb hby at_230) 231 rfl (fun T107 h107 X107 e107 W107 V107 => ?_)
    rw [show [(1 : Int64), (10 : Int64), (100 : Int64), (1000 : Int64), (10000 : Int64), (100000 : Int64), (1000000 : Int64), (10000000 : Int64), (100000000 : Int64), (1000000000 : Int64), (10000000000 : Int64), (100000000000 : Int64), (1000000000000 : Int64), (10000000000000 : Int64), (100000000000000 : Int64), (1000000000000000 : Int64), (0 : Int64), (0 : Int64), (0 : Int64)].set 16 (10000000000000000 : Int64) = [(1 : Int64), (10 : Int64), (100 : Int64), (1000 : Int64), (10000 : Int64), (100000 : Int64), (1000000 : Int64), (10000000 : Int64), (100000000 : Int64), (1000000000 : Int64), (10000000000 : Int64), (100000000000 : Int64), (1000000000000 : Int64), (10000000000000 : Int64), (100000000000000 : Int64), (1000000000000000 : Int64), (10000000000000000 : Int64), (0 : Int64), (0 : Int64)] from rfl] at V107
    have N108 := Fr.snoc X107 N104 ge40
    have Z109 : n0 ≤ h107.size := by rw [W107.size]; exact Z105
    have V110 := V106.other W107 ne39
    refine own_dup X107 hx (hb hby at_231) rfl 232 rfl ?_
    refine own_bipush X107 hx (hb hby at_232) (17 : Int32) rfl 234 rfl ?_
    refine own_ldc2Long X107 hx hown (mvT hZ (own_w hw 21 rfl)) (hb hby at_234) 237 rfl ?_
    refine own_lastore X107 hx hZ e107 V107 17 rfl (by simp) (hb hby at_237) 238 rfl (fun T111 h111 X111 e111 W111 V111 => ?_)
    rw [show [(1 : Int64), (10 : Int64), (100 : Int64), (1000 : Int64), (10000 : Int64), (100000 : Int64), (1000000 : Int64), (10000000 : Int64), (100000000 : Int64), (1000000000 : Int64), (10000000000 : Int64), (100000000000 : Int64), (1000000000000 : Int64), (10000000000000 : Int64), (100000000000000 : Int64), (1000000000000000 : Int64), (10000000000000000 : Int64), (0 : Int64), (0 : Int64)].set 17 (100000000000000000 : Int64) = [(1 : Int64), (10 : Int64), (100 : Int64), (1000 : Int64), (10000 : Int64), (100000 : Int64), (1000000 : Int64), (10000000 : Int64), (100000000 : Int64), (1000000000 : Int64), (10000000000 : Int64), (100000000000 : Int64), (1000000000000 : Int64), (10000000000000 : Int64), (100000000000000 : Int64), (1000000000000000 : Int64), (10000000000000000 : Int64), (100000000000000000 : Int64), (0 : Int64)] from rfl] at V111
    have N112 := Fr.snoc X111 N108 ge40
    have Z113 : n0 ≤ h111.size := by rw [W111.size]; exact Z109
    have V114 := V110.other W111 ne39
    refine own_dup X111 hx (hb hby at_238) rfl 239 rfl ?_
    refine own_bipush X111 hx (hb hby at_239) (18 : Int32) rfl 241 rfl ?_
    refine own_ldc2Long X111 hx hown (mvT hZ (own_w hw 1 rfl)) (hb hby at_241) 244 rfl ?_
    refine own_lastore X111 hx hZ e111 V111 18 rfl (by simp) (hb hby at_244) 245 rfl (fun T115 h115 X115 e115 W115 V115 => ?_)
    rw [show [(1 : Int64), (10 : Int64), (100 : Int64), (1000 : Int64), (10000 : Int64), (100000 : Int64), (1000000 : Int64), (10000000 : Int64), (100000000 : Int64), (1000000000 : Int64), (10000000000 : Int64), (100000000000 : Int64), (1000000000000 : Int64), (10000000000000 : Int64), (100000000000000 : Int64), (1000000000000000 : Int64), (10000000000000000 : Int64), (100000000000000000 : Int64), (0 : Int64)].set 18 (1000000000000000000 : Int64) = [(1 : Int64), (10 : Int64), (100 : Int64), (1000 : Int64), (10000 : Int64), (100000 : Int64), (1000000 : Int64), (10000000 : Int64), (100000000 : Int64), (1000000000 : Int64), (10000000000 : Int64), (100000000000 : Int64), (1000000000000 : Int64), (10000000000000 : Int64), (100000000000000 : Int64), (1000000000000000 : Int64), (10000000000000000 : Int64), (100000000000000000 : Int64), (1000000000000000000 : Int64)] from rfl] at V115
    have N116 := Fr.snoc X115 N112 ge40
    have Z117 : n0 ≤ h115.size := by rw [W115.size]; exact Z113
    have V118 := V114.other W115 ne39
    refine own_astore X115 hx (hb hby at_245) rfl #[.val (.long v0), .second, .val (.int v1), .val (.int v2), .val (.int v3), .val (.long (Int64.ofNat nn)), .second, .val (.int (Int32.ofNat ni)), .val (.int (0 : Int32)), .val (.int (18 : Int32)), .val (.int (Int32.ofNat (18 - ni))), .val (.int y4), .val (.ref a5), .val (.ref a38)] rfl 247 rfl ?_
    refine own_aload X115 hx (hb hby at_247) rfl rfl 249 rfl ?_
    refine own_iload X115 hx (hb hby at_249) rfl 251 rfl ?_
    refine own_iconst X115 hx (hb hby at_251) (1 : Int32) rfl 252 rfl ?_
    refine own_isub X115 hx (hb hby at_252) 253 rfl ?_
    show own_Go p e below G (T115.setTop (mkF m 253 #[.val (.long v0), .second, .val (.int v1), .val (.int v2), .val (.int v3), .val (.long (Int64.ofNat nn)), .second, .val (.int (Int32.ofNat ni)), .val (.int (0 : Int32)), .val (.int (18 : Int32)), .val (.int (Int32.ofNat (18 - ni))), .val (.int y4), .val (.ref a5), .val (.ref a38)] [(.int (17 : Int32)), (.ref a5)]))
    refine own_lload X115 hx (hb hby at_253) rfl 255 rfl ?_
    refine own_aload X115 hx (hb hby at_255) rfl rfl 257 rfl ?_
    refine own_iconst X115 hx (hb hby at_257) (0 : Int32) rfl 258 rfl ?_
    refine own_laload X115 hx hZ e115 V115 0 rfl (1 : Int64) rfl (hb hby at_258) 259 rfl ?_
    refine own_callS X115 hx hZ hown (own_w hw 22 rfl) (own_w hw 23 rfl) (own_w hw 24 rfl) (own_w hw 25 rfl) (by decide) e115 (rm1 l Z a0 hw [] nn 0 (1 : Int64) h115 n0 hnn (by decide) (by decide)) (by rw [hml]; rfl) pd_0 (argsL := [(.long (Int64.ofNat nn)), (.long (1 : Int64))]) rfl (rest := [(.int (17 : Int32)), (.ref a5)]) rfl (hb hby at_259) 2 (Nat.le_of_eq rfl) (by decide) (by decide) (by decide) (by decide) 262 rfl (fun T119 L119 v119 X119 hQ119 => ?_)
    obtain ⟨rfl, N119, e119⟩ := hQ119
    have N120 := Fr.app N116 N119
    show own_Go p e below G (T119.setTop (mkF m 262 #[.val (.long v0), .second, .val (.int v1), .val (.int v2), .val (.int v3), .val (.long (Int64.ofNat nn)), .second, .val (.int (Int32.ofNat ni)), .val (.int (0 : Int32)), .val (.int (18 : Int32)), .val (.int (Int32.ofNat (18 - ni))), .val (.int y4), .val (.ref a5), .val (.ref a38)] [(.int (own_d nn 0)), (.int (17 : Int32)), (.ref a5)]))
    refine own_bastore X119 hx hZ e119 V118 17 rfl (by simp) (hb hby at_262) 263 rfl (fun T121 h121 X121 e121 W121 V121 => ?_)
    rw [show [y4, y4, y4, y4, (0 : Int32), (0 : Int32), (0 : Int32), (0 : Int32), (0 : Int32), (0 : Int32), (0 : Int32), (0 : Int32), (0 : Int32), (0 : Int32), (0 : Int32), (0 : Int32), (0 : Int32), (0 : Int32), y4, y4, y4, y4, y4, y4].set 17 ((own_d nn 0).toInt8.toInt32) = [y4, y4, y4, y4, (0 : Int32), (0 : Int32), (0 : Int32), (0 : Int32), (0 : Int32), (0 : Int32), (0 : Int32), (0 : Int32), (0 : Int32), (0 : Int32), (0 : Int32), (0 : Int32), (0 : Int32), (own_d nn 0), y4, y4, y4, y4, y4, y4] from (by rw [own_d8]; rfl)] at V121
    have N122 := Fr.snoc X121 N120 ge6
    have Z123 : n0 ≤ h121.size := by rw [W121.size]; exact Z117
    have V124 := V115.other W121 (Ne.symm ne39)
    refine own_aload X121 hx (hb hby at_263) rfl rfl 265 rfl ?_
    refine own_iload X121 hx (hb hby at_265) rfl 267 rfl ?_
    refine own_iconst X121 hx (hb hby at_267) (2 : Int32) rfl 268 rfl ?_
    refine own_isub X121 hx (hb hby at_268) 269 rfl ?_
    show own_Go p e below G (T121.setTop (mkF m 269 #[.val (.long v0), .second, .val (.int v1), .val (.int v2), .val (.int v3), .val (.long (Int64.ofNat nn)), .second, .val (.int (Int32.ofNat ni)), .val (.int (0 : Int32)), .val (.int (18 : Int32)), .val (.int (Int32.ofNat (18 - ni))), .val (.int y4), .val (.ref a5), .val (.ref a38)] [(.int (16 : Int32)), (.ref a5)]))
    refine own_lload X121 hx (hb hby at_269) rfl 271 rfl ?_
    refine own_aload X121 hx (hb hby at_271) rfl rfl 273 rfl ?_
    refine own_iconst X121 hx (hb hby at_273) (1 : Int32) rfl 274 rfl ?_
    refine own_laload X121 hx hZ e121 V124 1 rfl (10 : Int64) rfl (hb hby at_274) 275 rfl ?_
    refine own_callS X121 hx hZ hown (own_w hw 22 rfl) (own_w hw 23 rfl) (own_w hw 24 rfl) (own_w hw 25 rfl) (by decide) e121 (rm1 l Z a0 hw [] nn 1 (10 : Int64) h121 n0 hnn (by decide) (by decide)) (by rw [hml]; rfl) pd_0 (argsL := [(.long (Int64.ofNat nn)), (.long (10 : Int64))]) rfl (rest := [(.int (16 : Int32)), (.ref a5)]) rfl (hb hby at_275) 2 (Nat.le_of_eq rfl) (by decide) (by decide) (by decide) (by decide) 278 rfl (fun T125 L125 v125 X125 hQ125 => ?_)
    obtain ⟨rfl, N125, e125⟩ := hQ125
    have N126 := Fr.app N122 N125
    show own_Go p e below G (T125.setTop (mkF m 278 #[.val (.long v0), .second, .val (.int v1), .val (.int v2), .val (.int v3), .val (.long (Int64.ofNat nn)), .second, .val (.int (Int32.ofNat ni)), .val (.int (0 : Int32)), .val (.int (18 : Int32)), .val (.int (Int32.ofNat (18 - ni))), .val (.int y4), .val (.ref a5), .val (.ref a38)] [(.int (own_d nn 1)), (.int (16 : Int32)), (.ref a5)]))
    refine own_bastore X125 hx hZ e125 V121 16 rfl (by simp) (hb hby at_278) 279 rfl (fun T127 h127 X127 e127 W127 V127 => ?_)
    rw [show [y4, y4, y4, y4, (0 : Int32), (0 : Int32), (0 : Int32), (0 : Int32), (0 : Int32), (0 : Int32), (0 : Int32), (0 : Int32), (0 : Int32), (0 : Int32), (0 : Int32), (0 : Int32), (0 : Int32), (own_d nn 0), y4, y4, y4, y4, y4, y4].set 16 ((own_d nn 1).toInt8.toInt32) = [y4, y4, y4, y4, (0 : Int32), (0 : Int32), (0 : Int32), (0 : Int32), (0 : Int32), (0 : Int32), (0 : Int32), (0 : Int32), (0 : Int32), (0 : Int32), (0 : Int32), (0 : Int32), (own_d nn 1), (own_d nn 0), y4, y4, y4, y4, y4, y4] from (by rw [own_d8]; rfl)] at V127
    have N128 := Fr.snoc X127 N126 ge6
    have Z129 : n0 ≤ h127.size := by rw [W127.size]; exact Z123
    have V130 := V124.other W127 (Ne.symm ne39)
    refine own_aload X127 hx (hb hby at_279) rfl rfl 281 rfl ?_
    refine own_iload X127 hx (hb hby at_281) rfl 283 rfl ?_
    refine own_iconst X127 hx (hb hby at_283) (3 : Int32) rfl 284 rfl ?_
    refine own_isub X127 hx (hb hby at_284) 285 rfl ?_
    show own_Go p e below G (T127.setTop (mkF m 285 #[.val (.long v0), .second, .val (.int v1), .val (.int v2), .val (.int v3), .val (.long (Int64.ofNat nn)), .second, .val (.int (Int32.ofNat ni)), .val (.int (0 : Int32)), .val (.int (18 : Int32)), .val (.int (Int32.ofNat (18 - ni))), .val (.int y4), .val (.ref a5), .val (.ref a38)] [(.int (15 : Int32)), (.ref a5)]))
    refine own_lload X127 hx (hb hby at_285) rfl 287 rfl ?_
    refine own_aload X127 hx (hb hby at_287) rfl rfl 289 rfl ?_
    refine own_iconst X127 hx (hb hby at_289) (2 : Int32) rfl 290 rfl ?_
    refine own_laload X127 hx hZ e127 V130 2 rfl (100 : Int64) rfl (hb hby at_290) 291 rfl ?_
    refine own_callS X127 hx hZ hown (own_w hw 22 rfl) (own_w hw 23 rfl) (own_w hw 24 rfl) (own_w hw 25 rfl) (by decide) e127 (rm1 l Z a0 hw [] nn 2 (100 : Int64) h127 n0 hnn (by decide) (by decide)) (by rw [hml]; rfl) pd_0 (argsL := [(.long (Int64.ofNat nn)), (.long (100 : Int64))]) rfl (rest := [(.int (15 : Int32)), (.ref a5)]) rfl (hb hby at_291) 2 (Nat.le_of_eq rfl) (by decide) (by decide) (by decide) (by decide) 294 rfl (fun T131 L131 v131 X131 hQ131 => ?_)
    obtain ⟨rfl, N131, e131⟩ := hQ131
    have N132 := Fr.app N128 N131
    show own_Go p e below G (T131.setTop (mkF m 294 #[.val (.long v0), .second, .val (.int v1), .val (.int v2), .val (.int v3), .val (.long (Int64.ofNat nn)), .second, .val (.int (Int32.ofNat ni)), .val (.int (0 : Int32)), .val (.int (18 : Int32)), .val (.int (Int32.ofNat (18 - ni))), .val (.int y4), .val (.ref a5), .val (.ref a38)] [(.int (own_d nn 2)), (.int (15 : Int32)), (.ref a5)]))
    refine own_bastore X131 hx hZ e131 V127 15 rfl (by simp) (hb hby at_294) 295 rfl (fun T133 h133 X133 e133 W133 V133 => ?_)
    rw [show [y4, y4, y4, y4, (0 : Int32), (0 : Int32), (0 : Int32), (0 : Int32), (0 : Int32), (0 : Int32), (0 : Int32), (0 : Int32), (0 : Int32), (0 : Int32), (0 : Int32), (0 : Int32), (own_d nn 1), (own_d nn 0), y4, y4, y4, y4, y4, y4].set 15 ((own_d nn 2).toInt8.toInt32) = [y4, y4, y4, y4, (0 : Int32), (0 : Int32), (0 : Int32), (0 : Int32), (0 : Int32), (0 : Int32), (0 : Int32), (0 : Int32), (0 : Int32), (0 : Int32), (0 : Int32), (own_d nn 2), (own_d nn 1), (own_d nn 0), y4, y4, y4, y4, y4, y4] from (by rw [own_d8]; rfl)] at V133
    have N134 := Fr.snoc X133 N132 ge6
    have Z135 : n0 ≤ h133.size := by rw [W133.size]; exact Z129
    have V136 := V130.other W133 (Ne.symm ne39)
    refine own_aload X133 hx (hb hby at_295) rfl rfl 297 rfl ?_
    refine own_iload X133 hx (hb hby at_297) rfl 299 rfl ?_
    refine own_iconst X133 hx (hb hby at_299) (4 : Int32) rfl 300 rfl ?_
    refine own_isub X133 hx (hb hby at_300) 301 rfl ?_
    show own_Go p e below G (T133.setTop (mkF m 301 #[.val (.long v0), .second, .val (.int v1), .val (.int v2), .val (.int v3), .val (.long (Int64.ofNat nn)), .second, .val (.int (Int32.ofNat ni)), .val (.int (0 : Int32)), .val (.int (18 : Int32)), .val (.int (Int32.ofNat (18 - ni))), .val (.int y4), .val (.ref a5), .val (.ref a38)] [(.int (14 : Int32)), (.ref a5)]))
    refine own_lload X133 hx (hb hby at_301) rfl 303 rfl ?_
    refine own_aload X133 hx (hb hby at_303) rfl rfl 305 rfl ?_
    refine own_iconst X133 hx (hb hby at_305) (3 : Int32) rfl 306 rfl ?_
    refine own_laload X133 hx hZ e133 V136 3 rfl (1000 : Int64) rfl (hb hby at_306) 307 rfl ?_
    refine own_callS X133 hx hZ hown (own_w hw 22 rfl) (own_w hw 23 rfl) (own_w hw 24 rfl) (own_w hw 25 rfl) (by decide) e133 (rm1 l Z a0 hw [] nn 3 (1000 : Int64) h133 n0 hnn (by decide) (by decide)) (by rw [hml]; rfl) pd_0 (argsL := [(.long (Int64.ofNat nn)), (.long (1000 : Int64))]) rfl (rest := [(.int (14 : Int32)), (.ref a5)]) rfl (hb hby at_307) 2 (Nat.le_of_eq rfl) (by decide) (by decide) (by decide) (by decide) 310 rfl (fun T137 L137 v137 X137 hQ137 => ?_)
    obtain ⟨rfl, N137, e137⟩ := hQ137
    have N138 := Fr.app N134 N137
    show own_Go p e below G (T137.setTop (mkF m 310 #[.val (.long v0), .second, .val (.int v1), .val (.int v2), .val (.int v3), .val (.long (Int64.ofNat nn)), .second, .val (.int (Int32.ofNat ni)), .val (.int (0 : Int32)), .val (.int (18 : Int32)), .val (.int (Int32.ofNat (18 - ni))), .val (.int y4), .val (.ref a5), .val (.ref a38)] [(.int (own_d nn 3)), (.int (14 : Int32)), (.ref a5)]))
    refine own_bastore X137 hx hZ e137 V133 14 rfl (by simp) (hb hby at_310) 311 rfl (fun T139 h139 X139 e139 W139 V139 => ?_)
    rw [show [y4, y4, y4, y4, (0 : Int32), (0 : Int32), (0 : Int32), (0 : Int32), (0 : Int32), (0 : Int32), (0 : Int32), (0 : Int32), (0 : Int32), (0 : Int32), (0 : Int32), (own_d nn 2), (own_d nn 1), (own_d nn 0), y4, y4, y4, y4, y4, y4].set 14 ((own_d nn 3).toInt8.toInt32) = [y4, y4, y4, y4, (0 : Int32), (0 : Int32), (0 : Int32), (0 : Int32), (0 : Int32), (0 : Int32), (0 : Int32), (0 : Int32), (0 : Int32), (0 : Int32), (own_d nn 3), (own_d nn 2), (own_d nn 1), (own_d nn 0), y4, y4, y4, y4, y4, y4] from (by rw [own_d8]; rfl)] at V139
    have N140 := Fr.snoc X139 N138 ge6
    have Z141 : n0 ≤ h139.size := by rw [W139.size]; exact Z135
    have V142 := V136.other W139 (Ne.symm ne39)
    refine own_aload X139 hx (hb hby at_311) rfl rfl 313 rfl ?_
    refine own_iload X139 hx (hb hby at_313) rfl 315 rfl ?_
    refine own_iconst X139 hx (hb hby at_315) (5 : Int32) rfl 316 rfl ?_
    refine own_isub X139 hx (hb hby at_316) 317 rfl ?_
    show own_Go p e below G (T139.setTop (mkF m 317 #[.val (.long v0), .second, .val (.int v1), .val (.int v2), .val (.int v3), .val (.long (Int64.ofNat nn)), .second, .val (.int (Int32.ofNat ni)), .val (.int (0 : Int32)), .val (.int (18 : Int32)), .val (.int (Int32.ofNat (18 - ni))), .val (.int y4), .val (.ref a5), .val (.ref a38)] [(.int (13 : Int32)), (.ref a5)]))
    refine own_lload X139 hx (hb hby at_317) rfl 319 rfl ?_
    refine own_aload X139 hx (hb hby at_319) rfl rfl 321 rfl ?_
    refine own_iconst X139 hx (hb hby at_321) (4 : Int32) rfl 322 rfl ?_
    refine own_laload X139 hx hZ e139 V142 4 rfl (10000 : Int64) rfl (hb hby at_322) 323 rfl ?_
    refine own_callS X139 hx hZ hown (own_w hw 22 rfl) (own_w hw 23 rfl) (own_w hw 24 rfl) (own_w hw 25 rfl) (by decide) e139 (rm1 l Z a0 hw [] nn 4 (10000 : Int64) h139 n0 hnn (by decide) (by decide)) (by rw [hml]; rfl) pd_0 (argsL := [(.long (Int64.ofNat nn)), (.long (10000 : Int64))]) rfl (rest := [(.int (13 : Int32)), (.ref a5)]) rfl (hb hby at_323) 2 (Nat.le_of_eq rfl) (by decide) (by decide) (by decide) (by decide) 326 rfl (fun T143 L143 v143 X143 hQ143 => ?_)
    obtain ⟨rfl, N143, e143⟩ := hQ143
    have N144 := Fr.app N140 N143
    show own_Go p e below G (T143.setTop (mkF m 326 #[.val (.long v0), .second, .val (.int v1), .val (.int v2), .val (.int v3), .val (.long (Int64.ofNat nn)), .second, .val (.int (Int32.ofNat ni)), .val (.int (0 : Int32)), .val (.int (18 : Int32)), .val (.int (Int32.ofNat (18 - ni))), .val (.int y4), .val (.ref a5), .val (.ref a38)] [(.int (own_d nn 4)), (.int (13 : Int32)), (.ref a5)]))
    refine own_bastore X143 hx hZ e143 V139 13 rfl (by simp) (hb hby at_326) 327 rfl (fun T145 h145 X145 e145 W145 V145 => ?_)
    rw [show [y4, y4, y4, y4, (0 : Int32), (0 : Int32), (0 : Int32), (0 : Int32), (0 : Int32), (0 : Int32), (0 : Int32), (0 : Int32), (0 : Int32), (0 : Int32), (own_d nn 3), (own_d nn 2), (own_d nn 1), (own_d nn 0), y4, y4, y4, y4, y4, y4].set 13 ((own_d nn 4).toInt8.toInt32) = [y4, y4, y4, y4, (0 : Int32), (0 : Int32), (0 : Int32), (0 : Int32), (0 : Int32), (0 : Int32), (0 : Int32), (0 : Int32), (0 : Int32), (own_d nn 4), (own_d nn 3), (own_d nn 2), (own_d nn 1), (own_d nn 0), y4, y4, y4, y4, y4, y4] from (by rw [own_d8]; rfl)] at V145
    have N146 := Fr.snoc X145 N144 ge6
    have Z147 : n0 ≤ h145.size := by rw [W145.size]; exact Z141
    have V148 := V142.other W145 (Ne.symm ne39)
    refine own_aload X145 hx (hb hby at_327) rfl rfl 329 rfl ?_
    refine own_iload X145 hx (hb hby at_329) rfl 331 rfl ?_
    refine own_bipush X145 hx (hb hby at_331) (6 : Int32) rfl 333 rfl ?_
    refine own_isub X145 hx (hb hby at_333) 334 rfl ?_
    show own_Go p e below G (T145.setTop (mkF m 334 #[.val (.long v0), .second, .val (.int v1), .val (.int v2), .val (.int v3), .val (.long (Int64.ofNat nn)), .second, .val (.int (Int32.ofNat ni)), .val (.int (0 : Int32)), .val (.int (18 : Int32)), .val (.int (Int32.ofNat (18 - ni))), .val (.int y4), .val (.ref a5), .val (.ref a38)] [(.int (12 : Int32)), (.ref a5)]))
    refine own_lload X145 hx (hb hby at_334) rfl 336 rfl ?_
    refine own_aload X145 hx (hb hby at_336) rfl rfl 338 rfl ?_
    refine own_iconst X145 hx (hb hby at_338) (5 : Int32) rfl 339 rfl ?_
    refine own_laload X145 hx hZ e145 V148 5 rfl (100000 : Int64) rfl (hb hby at_339) 340 rfl ?_
    refine own_callS X145 hx hZ hown (own_w hw 22 rfl) (own_w hw 23 rfl) (own_w hw 24 rfl) (own_w hw 25 rfl) (by decide) e145 (rm1 l Z a0 hw [] nn 5 (100000 : Int64) h145 n0 hnn (by decide) (by decide)) (by rw [hml]; rfl) pd_0 (argsL := [(.long (Int64.ofNat nn)), (.long (100000 : Int64))]) rfl (rest := [(.int (12 : Int32)), (.ref a5)]) rfl (hb hby at_340) 2 (Nat.le_of_eq rfl) (by decide) (by decide) (by decide) (by decide) 343 rfl (fun T149 L149 v149 X149 hQ149 => ?_)
    obtain ⟨rfl, N149, e149⟩ := hQ149
    have N150 := Fr.app N146 N149
    show own_Go p e below G (T149.setTop (mkF m 343 #[.val (.long v0), .second, .val (.int v1), .val (.int v2), .val (.int v3), .val (.long (Int64.ofNat nn)), .second, .val (.int (Int32.ofNat ni)), .val (.int (0 : Int32)), .val (.int (18 : Int32)), .val (.int (Int32.ofNat (18 - ni))), .val (.int y4), .val (.ref a5), .val (.ref a38)] [(.int (own_d nn 5)), (.int (12 : Int32)), (.ref a5)]))
    refine own_bastore X149 hx hZ e149 V145 12 rfl (by simp) (hb hby at_343) 344 rfl (fun T151 h151 X151 e151 W151 V151 => ?_)
    rw [show [y4, y4, y4, y4, (0 : Int32), (0 : Int32), (0 : Int32), (0 : Int32), (0 : Int32), (0 : Int32), (0 : Int32), (0 : Int32), (0 : Int32), (own_d nn 4), (own_d nn 3), (own_d nn 2), (own_d nn 1), (own_d nn 0), y4, y4, y4, y4, y4, y4].set 12 ((own_d nn 5).toInt8.toInt32) = [y4, y4, y4, y4, (0 : Int32), (0 : Int32), (0 : Int32), (0 : Int32), (0 : Int32), (0 : Int32), (0 : Int32), (0 : Int32), (own_d nn 5), (own_d nn 4), (own_d nn 3), (own_d nn 2), (own_d nn 1), (own_d nn 0), y4, y4, y4, y4, y4, y4] from (by rw [own_d8]; rfl)] at V151
    have N152 := Fr.snoc X151 N150 ge6
    have Z153 : n0 ≤ h151.size := by rw [W151.size]; exact Z147
    have V154 := V148.other W151 (Ne.symm ne39)
    refine own_aload X151 hx (hb hby at_344) rfl rfl 346 rfl ?_
    refine own_iload X151 hx (hb hby at_346) rfl 348 rfl ?_
    refine own_bipush X151 hx (hb hby at_348) (7 : Int32) rfl 350 rfl ?_
    refine own_isub X151 hx (hb hby at_350) 351 rfl ?_
    show own_Go p e below G (T151.setTop (mkF m 351 #[.val (.long v0), .second, .val (.int v1), .val (.int v2), .val (.int v3), .val (.long (Int64.ofNat nn)), .second, .val (.int (Int32.ofNat ni)), .val (.int (0 : Int32)), .val (.int (18 : Int32)), .val (.int (Int32.ofNat (18 - ni))), .val (.int y4), .val (.ref a5), .val (.ref a38)] [(.int (11 : Int32)), (.ref a5)]))
    refine own_lload X151 hx (hb hby at_351) rfl 353 rfl ?_
    refine own_aload X151 hx (hb hby at_353) rfl rfl 355 rfl ?_
    refine own_bipush X151 hx (hb hby at_355) (6 : Int32) rfl 357 rfl ?_
    refine own_laload X151 hx hZ e151 V154 6 rfl (1000000 : Int64) rfl (hb hby at_357) 358 rfl ?_
    refine own_callS X151 hx hZ hown (own_w hw 22 rfl) (own_w hw 23 rfl) (own_w hw 24 rfl) (own_w hw 25 rfl) (by decide) e151 (rm1 l Z a0 hw [] nn 6 (1000000 : Int64) h151 n0 hnn (by decide) (by decide)) (by rw [hml]; rfl) pd_0 (argsL := [(.long (Int64.ofNat nn)), (.long (1000000 : Int64))]) rfl (rest := [(.int (11 : Int32)), (.ref a5)]) rfl (hb hby at_358) 2 (Nat.le_of_eq rfl) (by decide) (by decide) (by decide) (by decide) 361 rfl (fun T155 L155 v155 X155 hQ155 => ?_)
    obtain ⟨rfl, N155, e155⟩ := hQ155
    have N156 := Fr.app N152 N155
    show own_Go p e below G (T155.setTop (mkF m 361 #[.val (.long v0), .second, .val (.int v1), .val (.int v2), .val (.int v3), .val (.long (Int64.ofNat nn)), .second, .val (.int (Int32.ofNat ni)), .val (.int (0 : Int32)), .val (.int (18 : Int32)), .val (.int (Int32.ofNat (18 - ni))), .val (.int y4), .val (.ref a5), .val (.ref a38)] [(.int (own_d nn 6)), (.int (11 : Int32)), (.ref a5)]))
    refine own_bastore X155 hx hZ e155 V151 11 rfl (by simp) (hb hby at_361) 362 rfl (fun T157 h157 X157 e157 W157 V157 => ?_)
    rw [show [y4, y4, y4, y4, (0 : Int32), (0 : Int32), (0 : Int32), (0 : Int32), (0 : Int32), (0 : Int32), (0 : Int32), (0 : Int32), (own_d nn 5), (own_d nn 4), (own_d nn 3), (own_d nn 2), (own_d nn 1), (own_d nn 0), y4, y4, y4, y4, y4, y4].set 11 ((own_d nn 6).toInt8.toInt32) = [y4, y4, y4, y4, (0 : Int32), (0 : Int32), (0 : Int32), (0 : Int32), (0 : Int32), (0 : Int32), (0 : Int32), (own_d nn 6), (own_d nn 5), (own_d nn 4), (own_d nn 3), (own_d nn 2), (own_d nn 1), (own_d nn 0), y4, y4, y4, y4, y4, y4] from (by rw [own_d8]; rfl)] at V157
    have N158 := Fr.snoc X157 N156 ge6
    have Z159 : n0 ≤ h157.size := by rw [W157.size]; exact Z153
    have V160 := V154.other W157 (Ne.symm ne39)
    refine own_aload X157 hx (hb hby at_362) rfl rfl 364 rfl ?_
    refine own_iload X157 hx (hb hby at_364) rfl 366 rfl ?_
    refine own_bipush X157 hx (hb hby at_366) (8 : Int32) rfl 368 rfl ?_
    refine own_isub X157 hx (hb hby at_368) 369 rfl ?_
    show own_Go p e below G (T157.setTop (mkF m 369 #[.val (.long v0), .second, .val (.int v1), .val (.int v2), .val (.int v3), .val (.long (Int64.ofNat nn)), .second, .val (.int (Int32.ofNat ni)), .val (.int (0 : Int32)), .val (.int (18 : Int32)), .val (.int (Int32.ofNat (18 - ni))), .val (.int y4), .val (.ref a5), .val (.ref a38)] [(.int (10 : Int32)), (.ref a5)]))
    refine own_lload X157 hx (hb hby at_369) rfl 371 rfl ?_
    refine own_aload X157 hx (hb hby at_371) rfl rfl 373 rfl ?_
    refine own_bipush X157 hx (hb hby at_373) (7 : Int32) rfl 375 rfl ?_
    refine own_laload X157 hx hZ e157 V160 7 rfl (10000000 : Int64) rfl (hb hby at_375) 376 rfl ?_
    refine own_callS X157 hx hZ hown (own_w hw 22 rfl) (own_w hw 23 rfl) (own_w hw 24 rfl) (own_w hw 25 rfl) (by decide) e157 (rm1 l Z a0 hw [] nn 7 (10000000 : Int64) h157 n0 hnn (by decide) (by decide)) (by rw [hml]; rfl) pd_0 (argsL := [(.long (Int64.ofNat nn)), (.long (10000000 : Int64))]) rfl (rest := [(.int (10 : Int32)), (.ref a5)]) rfl (hb hby at_376) 2 (Nat.le_of_eq rfl) (by decide) (by decide) (by decide) (by decide) 379 rfl (fun T161 L161 v161 X161 hQ161 => ?_)
    obtain ⟨rfl, N161, e161⟩ := hQ161
    have N162 := Fr.app N158 N161
    show own_Go p e below G (T161.setTop (mkF m 379 #[.val (.long v0), .second, .val (.int v1), .val (.int v2), .val (.int v3), .val (.long (Int64.ofNat nn)), .second, .val (.int (Int32.ofNat ni)), .val (.int (0 : Int32)), .val (.int (18 : Int32)), .val (.int (Int32.ofNat (18 - ni))), .val (.int y4), .val (.ref a5), .val (.ref a38)] [(.int (own_d nn 7)), (.int (10 : Int32)), (.ref a5)]))
    refine own_bastore X161 hx hZ e161 V157 10 rfl (by simp) (hb hby at_379) 380 rfl (fun T163 h163 X163 e163 W163 V163 => ?_)
    rw [show [y4, y4, y4, y4, (0 : Int32), (0 : Int32), (0 : Int32), (0 : Int32), (0 : Int32), (0 : Int32), (0 : Int32), (own_d nn 6), (own_d nn 5), (own_d nn 4), (own_d nn 3), (own_d nn 2), (own_d nn 1), (own_d nn 0), y4, y4, y4, y4, y4, y4].set 10 ((own_d nn 7).toInt8.toInt32) = [y4, y4, y4, y4, (0 : Int32), (0 : Int32), (0 : Int32), (0 : Int32), (0 : Int32), (0 : Int32), (own_d nn 7), (own_d nn 6), (own_d nn 5), (own_d nn 4), (own_d nn 3), (own_d nn 2), (own_d nn 1), (own_d nn 0), y4, y4, y4, y4, y4, y4] from (by rw [own_d8]; rfl)] at V163
    have N164 := Fr.snoc X163 N162 ge6
    have Z165 : n0 ≤ h163.size := by rw [W163.size]; exact Z159
    have V166 := V160.other W163 (Ne.symm ne39)
    refine own_aload X163 hx (hb hby at_380) rfl rfl 382 rfl ?_
    refine own_iload X163 hx (hb hby at_382) rfl 384 rfl ?_
    refine own_bipush X163 hx (hb hby at_384) (9 : Int32) rfl 386 rfl ?_
    refine own_isub X163 hx (hb hby at_386) 387 rfl ?_
    show own_Go p e below G (T163.setTop (mkF m 387 #[.val (.long v0), .second, .val (.int v1), .val (.int v2), .val (.int v3), .val (.long (Int64.ofNat nn)), .second, .val (.int (Int32.ofNat ni)), .val (.int (0 : Int32)), .val (.int (18 : Int32)), .val (.int (Int32.ofNat (18 - ni))), .val (.int y4), .val (.ref a5), .val (.ref a38)] [(.int (9 : Int32)), (.ref a5)]))
    refine own_lload X163 hx (hb hby at_387) rfl 389 rfl ?_
    refine own_aload X163 hx (hb hby at_389) rfl rfl 391 rfl ?_
    refine own_bipush X163 hx (hb hby at_391) (8 : Int32) rfl 393 rfl ?_
    refine own_laload X163 hx hZ e163 V166 8 rfl (100000000 : Int64) rfl (hb hby at_393) 394 rfl ?_
    refine own_callS X163 hx hZ hown (own_w hw 22 rfl) (own_w hw 23 rfl) (own_w hw 24 rfl) (own_w hw 25 rfl) (by decide) e163 (rm1 l Z a0 hw [] nn 8 (100000000 : Int64) h163 n0 hnn (by decide) (by decide)) (by rw [hml]; rfl) pd_0 (argsL := [(.long (Int64.ofNat nn)), (.long (100000000 : Int64))]) rfl (rest := [(.int (9 : Int32)), (.ref a5)]) rfl (hb hby at_394) 2 (Nat.le_of_eq rfl) (by decide) (by decide) (by decide) (by decide) 397 rfl (fun T167 L167 v167 X167 hQ167 => ?_)
    obtain ⟨rfl, N167, e167⟩ := hQ167
    have N168 := Fr.app N164 N167
    show own_Go p e below G (T167.setTop (mkF m 397 #[.val (.long v0), .second, .val (.int v1), .val (.int v2), .val (.int v3), .val (.long (Int64.ofNat nn)), .second, .val (.int (Int32.ofNat ni)), .val (.int (0 : Int32)), .val (.int (18 : Int32)), .val (.int (Int32.ofNat (18 - ni))), .val (.int y4), .val (.ref a5), .val (.ref a38)] [(.int (own_d nn 8)), (.int (9 : Int32)), (.ref a5)]))
    refine own_bastore X167 hx hZ e167 V163 9 rfl (by simp) (hb hby at_397) 398 rfl (fun T169 h169 X169 e169 W169 V169 => ?_)
    rw [show [y4, y4, y4, y4, (0 : Int32), (0 : Int32), (0 : Int32), (0 : Int32), (0 : Int32), (0 : Int32), (own_d nn 7), (own_d nn 6), (own_d nn 5), (own_d nn 4), (own_d nn 3), (own_d nn 2), (own_d nn 1), (own_d nn 0), y4, y4, y4, y4, y4, y4].set 9 ((own_d nn 8).toInt8.toInt32) = [y4, y4, y4, y4, (0 : Int32), (0 : Int32), (0 : Int32), (0 : Int32), (0 : Int32), (own_d nn 8), (own_d nn 7), (own_d nn 6), (own_d nn 5), (own_d nn 4), (own_d nn 3), (own_d nn 2), (own_d nn 1), (own_d nn 0), y4, y4, y4, y4, y4, y4] from (by rw [own_d8]; rfl)] at V169
    have N170 := Fr.snoc X169 N168 ge6
    have Z171 : n0 ≤ h169.size := by rw [W169.size]; exact Z165
    have V172 := V166.other W169 (Ne.symm ne39)
    refine own_aload X169 hx (hb hby at_398) rfl rfl 400 rfl ?_
    refine own_iload X169 hx (hb hby at_400) rfl 402 rfl ?_
    refine own_bipush X169 hx (hb hby at_402) (10 : Int32) rfl 404 rfl ?_
    refine own_isub X169 hx (hb hby at_404) 405 rfl ?_
    show own_Go p e below G (T169.setTop (mkF m 405 #[.val (.long v0), .second, .val (.int v1), .val (.int v2), .val (.int v3), .val (.long (Int64.ofNat nn)), .second, .val (.int (Int32.ofNat ni)), .val (.int (0 : Int32)), .val (.int (18 : Int32)), .val (.int (Int32.ofNat (18 - ni))), .val (.int y4), .val (.ref a5), .val (.ref a38)] [(.int (8 : Int32)), (.ref a5)]))
    refine own_lload X169 hx (hb hby at_405) rfl 407 rfl ?_
    refine own_aload X169 hx (hb hby at_407) rfl rfl 409 rfl ?_
    refine own_bipush X169 hx (hb hby at_409) (9 : Int32) rfl 411 rfl ?_
    refine own_laload X169 hx hZ e169 V172 9 rfl (1000000000 : Int64) rfl (hb hby at_411) 412 rfl ?_
    refine own_callS X169 hx hZ hown (own_w hw 22 rfl) (own_w hw 23 rfl) (own_w hw 24 rfl) (own_w hw 25 rfl) (by decide) e169 (rm1 l Z a0 hw [] nn 9 (1000000000 : Int64) h169 n0 hnn (by decide) (by decide)) (by rw [hml]; rfl) pd_0 (argsL := [(.long (Int64.ofNat nn)), (.long (1000000000 : Int64))]) rfl (rest := [(.int (8 : Int32)), (.ref a5)]) rfl (hb hby at_412) 2 (Nat.le_of_eq rfl) (by decide) (by decide) (by decide) (by decide) 415 rfl (fun T173 L173 v173 X173 hQ173 => ?_)
    obtain ⟨rfl, N173, e173⟩ := hQ173
    have N174 := Fr.app N170 N173
    show own_Go p e below G (T173.setTop (mkF m 415 #[.val (.long v0), .second, .val (.int v1), .val (.int v2), .val (.int v3), .val (.long (Int64.ofNat nn)), .second, .val (.int (Int32.ofNat ni)), .val (.int (0 : Int32)), .val (.int (18 : Int32)), .val (.int (Int32.ofNat (18 - ni))), .val (.int y4), .val (.ref a5), .val (.ref a38)] [(.int (own_d nn 9)), (.int (8 : Int32)), (.ref a5)]))
    refine own_bastore X173 hx hZ e173 V169 8 rfl (by simp) (hb hby at_415) 416 rfl (fun T175 h175 X175 e175 W175 V175 => ?_)
    rw [show [y4, y4, y4, y4, (0 : Int32), (0 : Int32), (0 : Int32), (0 : Int32), (0 : Int32), (own_d nn 8), (own_d nn 7), (own_d nn 6), (own_d nn 5), (own_d nn 4), (own_d nn 3), (own_d nn 2), (own_d nn 1), (own_d nn 0), y4, y4, y4, y4, y4, y4].set 8 ((own_d nn 9).toInt8.toInt32) = [y4, y4, y4, y4, (0 : Int32), (0 : Int32), (0 : Int32), (0 : Int32), (own_d nn 9), (own_d nn 8), (own_d nn 7), (own_d nn 6), (own_d nn 5), (own_d nn 4), (own_d nn 3), (own_d nn 2), (own_d nn 1), (own_d nn 0), y4, y4, y4, y4, y4, y4] from (by rw [own_d8]; rfl)] at V175
    have N176 := Fr.snoc X175 N174 ge6
    have Z177 : n0 ≤ h175.size := by rw [W175.size]; exact Z171
    have V178 := V172.other W175 (Ne.symm ne39)
    refine own_aload X175 hx (hb hby at_416) rfl rfl 418 rfl ?_
    refine own_iload X175 hx (hb hby at_418) rfl 420 rfl ?_
    refine own_bipush X175 hx (hb hby at_420) (11 : Int32) rfl 422 rfl ?_
    refine own_isub X175 hx (hb hby at_422) 423 rfl ?_
    show own_Go p e below G (T175.setTop (mkF m 423 #[.val (.long v0), .second, .val (.int v1), .val (.int v2), .val (.int v3), .val (.long (Int64.ofNat nn)), .second, .val (.int (Int32.ofNat ni)), .val (.int (0 : Int32)), .val (.int (18 : Int32)), .val (.int (Int32.ofNat (18 - ni))), .val (.int y4), .val (.ref a5), .val (.ref a38)] [(.int (7 : Int32)), (.ref a5)]))
    refine own_lload X175 hx (hb hby at_423) rfl 425 rfl ?_
    refine own_aload X175 hx (hb hby at_425) rfl rfl 427 rfl ?_
    refine own_bipush X175 hx (hb hby at_427) (10 : Int32) rfl 429 rfl ?_
    refine own_laload X175 hx hZ e175 V178 10 rfl (10000000000 : Int64) rfl (hb hby at_429) 430 rfl ?_
    refine own_callS X175 hx hZ hown (own_w hw 22 rfl) (own_w hw 23 rfl) (own_w hw 24 rfl) (own_w hw 25 rfl) (by decide) e175 (rm1 l Z a0 hw [] nn 10 (10000000000 : Int64) h175 n0 hnn (by decide) (by decide)) (by rw [hml]; rfl) pd_0 (argsL := [(.long (Int64.ofNat nn)), (.long (10000000000 : Int64))]) rfl (rest := [(.int (7 : Int32)), (.ref a5)]) rfl (hb hby at_430) 2 (Nat.le_of_eq rfl) (by decide) (by decide) (by decide) (by decide) 433 rfl (fun T179 L179 v179 X179 hQ179 => ?_)
    obtain ⟨rfl, N179, e179⟩ := hQ179
    have N180 := Fr.app N176 N179
    show own_Go p e below G (T179.setTop (mkF m 433 #[.val (.long v0), .second, .val (.int v1), .val (.int v2), .val (.int v3), .val (.long (Int64.ofNat nn)), .second, .val (.int (Int32.ofNat ni)), .val (.int (0 : Int32)), .val (.int (18 : Int32)), .val (.int (Int32.ofNat (18 - ni))), .val (.int y4), .val (.ref a5), .val (.ref a38)] [(.int (own_d nn 10)), (.int (7 : Int32)), (.ref a5)]))
    refine own_bastore X179 hx hZ e179 V175 7 rfl (by simp) (hb hby at_433) 434 rfl (fun T181 h181 X181 e181 W181 V181 => ?_)
    rw [show [y4, y4, y4, y4, (0 : Int32), (0 : Int32), (0 : Int32), (0 : Int32), (own_d nn 9), (own_d nn 8), (own_d nn 7), (own_d nn 6), (own_d nn 5), (own_d nn 4), (own_d nn 3), (own_d nn 2), (own_d nn 1), (own_d nn 0), y4, y4, y4, y4, y4, y4].set 7 ((own_d nn 10).toInt8.toInt32) = [y4, y4, y4, y4, (0 : Int32), (0 : Int32), (0 : Int32), (own_d nn 10), (own_d nn 9), (own_d nn 8), (own_d nn 7), (own_d nn 6), (own_d nn 5), (own_d nn 4), (own_d nn 3), (own_d nn 2), (own_d nn 1), (own_d nn 0), y4, y4, y4, y4, y4, y4] from (by rw [own_d8]; rfl)] at V181
    have N182 := Fr.snoc X181 N180 ge6
    have Z183 : n0 ≤ h181.size := by rw [W181.size]; exact Z177
    have V184 := V178.other W181 (Ne.symm ne39)
    refine own_aload X181 hx (hb hby at_434) rfl rfl 436 rfl ?_
    refine own_iload X181 hx (hb hby at_436) rfl 438 rfl ?_
    refine own_bipush X181 hx (hb hby at_438) (12 : Int32) rfl 440 rfl ?_
    refine own_isub X181 hx (hb hby at_440) 441 rfl ?_
    show own_Go p e below G (T181.setTop (mkF m 441 #[.val (.long v0), .second, .val (.int v1), .val (.int v2), .val (.int v3), .val (.long (Int64.ofNat nn)), .second, .val (.int (Int32.ofNat ni)), .val (.int (0 : Int32)), .val (.int (18 : Int32)), .val (.int (Int32.ofNat (18 - ni))), .val (.int y4), .val (.ref a5), .val (.ref a38)] [(.int (6 : Int32)), (.ref a5)]))
    refine own_lload X181 hx (hb hby at_441) rfl 443 rfl ?_
    refine own_aload X181 hx (hb hby at_443) rfl rfl 445 rfl ?_
    refine own_bipush X181 hx (hb hby at_445) (11 : Int32) rfl 447 rfl ?_
    refine own_laload X181 hx hZ e181 V184 11 rfl (100000000000 : Int64) rfl (hb hby at_447) 448 rfl ?_
    refine own_callS X181 hx hZ hown (own_w hw 22 rfl) (own_w hw 23 rfl) (own_w hw 24 rfl) (own_w hw 25 rfl) (by decide) e181 (rm1 l Z a0 hw [] nn 11 (100000000000 : Int64) h181 n0 hnn (by decide) (by decide)) (by rw [hml]; rfl) pd_0 (argsL := [(.long (Int64.ofNat nn)), (.long (100000000000 : Int64))]) rfl (rest := [(.int (6 : Int32)), (.ref a5)]) rfl (hb hby at_448) 2 (Nat.le_of_eq rfl) (by decide) (by decide) (by decide) (by decide) 451 rfl (fun T185 L185 v185 X185 hQ185 => ?_)
    obtain ⟨rfl, N185, e185⟩ := hQ185
    have N186 := Fr.app N182 N185
    show own_Go p e below G (T185.setTop (mkF m 451 #[.val (.long v0), .second, .val (.int v1), .val (.int v2), .val (.int v3), .val (.long (Int64.ofNat nn)), .second, .val (.int (Int32.ofNat ni)), .val (.int (0 : Int32)), .val (.int (18 : Int32)), .val (.int (Int32.ofNat (18 - ni))), .val (.int y4), .val (.ref a5), .val (.ref a38)] [(.int (own_d nn 11)), (.int (6 : Int32)), (.ref a5)]))
    refine own_bastore X185 hx hZ e185 V181 6 rfl (by simp) (hb hby at_451) 452 rfl (fun T187 h187 X187 e187 W187 V187 => ?_)
    rw [show [y4, y4, y4, y4, (0 : Int32), (0 : Int32), (0 : Int32), (own_d nn 10), (own_d nn 9), (own_d nn 8), (own_d nn 7), (own_d nn 6), (own_d nn 5), (own_d nn 4), (own_d nn 3), (own_d nn 2), (own_d nn 1), (own_d nn 0), y4, y4, y4, y4, y4, y4].set 6 ((own_d nn 11).toInt8.toInt32) = [y4, y4, y4, y4, (0 : Int32), (0 : Int32), (own_d nn 11), (own_d nn 10), (own_d nn 9), (own_d nn 8), (own_d nn 7), (own_d nn 6), (own_d nn 5), (own_d nn 4), (own_d nn 3), (own_d nn 2), (own_d nn 1), (own_d nn 0), y4, y4, y4, y4, y4, y4] from (by rw [own_d8]; rfl)] at V187
    have N188 := Fr.snoc X187 N186 ge6
    have Z189 : n0 ≤ h187.size := by rw [W187.size]; exact Z183
    have V190 := V184.other W187 (Ne.symm ne39)
    refine own_aload X187 hx (hb hby at_452) rfl rfl 454 rfl ?_
    refine own_iload X187 hx (hb hby at_454) rfl 456 rfl ?_
    refine own_bipush X187 hx (hb hby at_456) (13 : Int32) rfl 458 rfl ?_
    refine own_isub X187 hx (hb hby at_458) 459 rfl ?_
    show own_Go p e below G (T187.setTop (mkF m 459 #[.val (.long v0), .second, .val (.int v1), .val (.int v2), .val (.int v3), .val (.long (Int64.ofNat nn)), .second, .val (.int (Int32.ofNat ni)), .val (.int (0 : Int32)), .val (.int (18 : Int32)), .val (.int (Int32.ofNat (18 - ni))), .val (.int y4), .val (.ref a5), .val (.ref a38)] [(.int (5 : Int32)), (.ref a5)]))
    refine own_lload X187 hx (hb hby at_459) rfl 461 rfl ?_
    refine own_aload X187 hx (hb hby at_461) rfl rfl 463 rfl ?_
    refine own_bipush X187 hx (hb hby at_463) (12 : Int32) rfl 465 rfl ?_
    refine own_laload X187 hx hZ e187 V190 12 rfl (1000000000000 : Int64) rfl (hb hby at_465) 466 rfl ?_
    refine own_callS X187 hx hZ hown (own_w hw 22 rfl) (own_w hw 23 rfl) (own_w hw 24 rfl) (own_w hw 25 rfl) (by decide) e187 (rm1 l Z a0 hw [] nn 12 (1000000000000 : Int64) h187 n0 hnn (by decide) (by decide)) (by rw [hml]; rfl) pd_0 (argsL := [(.long (Int64.ofNat nn)), (.long (1000000000000 : Int64))]) rfl (rest := [(.int (5 : Int32)), (.ref a5)]) rfl (hb hby at_466) 2 (Nat.le_of_eq rfl) (by decide) (by decide) (by decide) (by decide) 469 rfl (fun T191 L191 v191 X191 hQ191 => ?_)
    obtain ⟨rfl, N191, e191⟩ := hQ191
    have N192 := Fr.app N188 N191
    show own_Go p e below G (T191.setTop (mkF m 469 #[.val (.long v0), .second, .val (.int v1), .val (.int v2), .val (.int v3), .val (.long (Int64.ofNat nn)), .second, .val (.int (Int32.ofNat ni)), .val (.int (0 : Int32)), .val (.int (18 : Int32)), .val (.int (Int32.ofNat (18 - ni))), .val (.int y4), .val (.ref a5), .val (.ref a38)] [(.int (own_d nn 12)), (.int (5 : Int32)), (.ref a5)]))
    refine own_bastore X191 hx hZ e191 V187 5 rfl (by simp) (hb hby at_469) 470 rfl (fun T193 h193 X193 e193 W193 V193 => ?_)
    rw [show [y4, y4, y4, y4, (0 : Int32), (0 : Int32), (own_d nn 11), (own_d nn 10), (own_d nn 9), (own_d nn 8), (own_d nn 7), (own_d nn 6), (own_d nn 5), (own_d nn 4), (own_d nn 3), (own_d nn 2), (own_d nn 1), (own_d nn 0), y4, y4, y4, y4, y4, y4].set 5 ((own_d nn 12).toInt8.toInt32) = [y4, y4, y4, y4, (0 : Int32), (own_d nn 12), (own_d nn 11), (own_d nn 10), (own_d nn 9), (own_d nn 8), (own_d nn 7), (own_d nn 6), (own_d nn 5), (own_d nn 4), (own_d nn 3), (own_d nn 2), (own_d nn 1), (own_d nn 0), y4, y4, y4, y4, y4, y4] from (by rw [own_d8]; rfl)] at V193
    have N194 := Fr.snoc X193 N192 ge6
    have Z195 : n0 ≤ h193.size := by rw [W193.size]; exact Z189
    have V196 := V190.other W193 (Ne.symm ne39)
    refine own_aload X193 hx (hb hby at_470) rfl rfl 472 rfl ?_
    refine own_iload X193 hx (hb hby at_472) rfl 474 rfl ?_
    refine own_bipush X193 hx (hb hby at_474) (14 : Int32) rfl 476 rfl ?_
    refine own_isub X193 hx (hb hby at_476) 477 rfl ?_
    show own_Go p e below G (T193.setTop (mkF m 477 #[.val (.long v0), .second, .val (.int v1), .val (.int v2), .val (.int v3), .val (.long (Int64.ofNat nn)), .second, .val (.int (Int32.ofNat ni)), .val (.int (0 : Int32)), .val (.int (18 : Int32)), .val (.int (Int32.ofNat (18 - ni))), .val (.int y4), .val (.ref a5), .val (.ref a38)] [(.int (4 : Int32)), (.ref a5)]))
    refine own_lload X193 hx (hb hby at_477) rfl 479 rfl ?_
    refine own_aload X193 hx (hb hby at_479) rfl rfl 481 rfl ?_
    refine own_bipush X193 hx (hb hby at_481) (13 : Int32) rfl 483 rfl ?_
    refine own_laload X193 hx hZ e193 V196 13 rfl (10000000000000 : Int64) rfl (hb hby at_483) 484 rfl ?_
    refine own_callS X193 hx hZ hown (own_w hw 22 rfl) (own_w hw 23 rfl) (own_w hw 24 rfl) (own_w hw 25 rfl) (by decide) e193 (rm1 l Z a0 hw [] nn 13 (10000000000000 : Int64) h193 n0 hnn (by decide) (by decide)) (by rw [hml]; rfl) pd_0 (argsL := [(.long (Int64.ofNat nn)), (.long (10000000000000 : Int64))]) rfl (rest := [(.int (4 : Int32)), (.ref a5)]) rfl (hb hby at_484) 2 (Nat.le_of_eq rfl) (by decide) (by decide) (by decide) (by decide) 487 rfl (fun T197 L197 v197 X197 hQ197 => ?_)
    obtain ⟨rfl, N197, e197⟩ := hQ197
    have N198 := Fr.app N194 N197
    show own_Go p e below G (T197.setTop (mkF m 487 #[.val (.long v0), .second, .val (.int v1), .val (.int v2), .val (.int v3), .val (.long (Int64.ofNat nn)), .second, .val (.int (Int32.ofNat ni)), .val (.int (0 : Int32)), .val (.int (18 : Int32)), .val (.int (Int32.ofNat (18 - ni))), .val (.int y4), .val (.ref a5), .val (.ref a38)] [(.int (own_d nn 13)), (.int (4 : Int32)), (.ref a5)]))
    refine own_bastore X197 hx hZ e197 V193 4 rfl (by simp) (hb hby at_487) 488 rfl (fun T199 h199 X199 e199 W199 V199 => ?_)
    rw [show [y4, y4, y4, y4, (0 : Int32), (own_d nn 12), (own_d nn 11), (own_d nn 10), (own_d nn 9), (own_d nn 8), (own_d nn 7), (own_d nn 6), (own_d nn 5), (own_d nn 4), (own_d nn 3), (own_d nn 2), (own_d nn 1), (own_d nn 0), y4, y4, y4, y4, y4, y4].set 4 ((own_d nn 13).toInt8.toInt32) = [y4, y4, y4, y4, (own_d nn 13), (own_d nn 12), (own_d nn 11), (own_d nn 10), (own_d nn 9), (own_d nn 8), (own_d nn 7), (own_d nn 6), (own_d nn 5), (own_d nn 4), (own_d nn 3), (own_d nn 2), (own_d nn 1), (own_d nn 0), y4, y4, y4, y4, y4, y4] from (by rw [own_d8]; rfl)] at V199
    have N200 := Fr.snoc X199 N198 ge6
    have Z201 : n0 ≤ h199.size := by rw [W199.size]; exact Z195
    have V202 := V196.other W199 (Ne.symm ne39)
    refine own_aload X199 hx (hb hby at_488) rfl rfl 490 rfl ?_
    refine own_iload X199 hx (hb hby at_490) rfl 492 rfl ?_
    refine own_bipush X199 hx (hb hby at_492) (15 : Int32) rfl 494 rfl ?_
    refine own_isub X199 hx (hb hby at_494) 495 rfl ?_
    show own_Go p e below G (T199.setTop (mkF m 495 #[.val (.long v0), .second, .val (.int v1), .val (.int v2), .val (.int v3), .val (.long (Int64.ofNat nn)), .second, .val (.int (Int32.ofNat ni)), .val (.int (0 : Int32)), .val (.int (18 : Int32)), .val (.int (Int32.ofNat (18 - ni))), .val (.int y4), .val (.ref a5), .val (.ref a38)] [(.int (3 : Int32)), (.ref a5)]))
    refine own_lload X199 hx (hb hby at_495) rfl 497 rfl ?_
    refine own_aload X199 hx (hb hby at_497) rfl rfl 499 rfl ?_
    refine own_bipush X199 hx (hb hby at_499) (14 : Int32) rfl 501 rfl ?_
    refine own_laload X199 hx hZ e199 V202 14 rfl (100000000000000 : Int64) rfl (hb hby at_501) 502 rfl ?_
    refine own_callS X199 hx hZ hown (own_w hw 22 rfl) (own_w hw 23 rfl) (own_w hw 24 rfl) (own_w hw 25 rfl) (by decide) e199 (rm1 l Z a0 hw [] nn 14 (100000000000000 : Int64) h199 n0 hnn (by decide) (by decide)) (by rw [hml]; rfl) pd_0 (argsL := [(.long (Int64.ofNat nn)), (.long (100000000000000 : Int64))]) rfl (rest := [(.int (3 : Int32)), (.ref a5)]) rfl (hb hby at_502) 2 (Nat.le_of_eq rfl) (by decide) (by decide) (by decide) (by decide) 505 rfl (fun T203 L203 v203 X203 hQ203 => ?_)
    obtain ⟨rfl, N203, e203⟩ := hQ203
    have N204 := Fr.app N200 N203
    show own_Go p e below G (T203.setTop (mkF m 505 #[.val (.long v0), .second, .val (.int v1), .val (.int v2), .val (.int v3), .val (.long (Int64.ofNat nn)), .second, .val (.int (Int32.ofNat ni)), .val (.int (0 : Int32)), .val (.int (18 : Int32)), .val (.int (Int32.ofNat (18 - ni))), .val (.int y4), .val (.ref a5), .val (.ref a38)] [(.int (own_d nn 14)), (.int (3 : Int32)), (.ref a5)]))
    refine own_bastore X203 hx hZ e203 V199 3 rfl (by simp) (hb hby at_505) 506 rfl (fun T205 h205 X205 e205 W205 V205 => ?_)
    rw [show [y4, y4, y4, y4, (own_d nn 13), (own_d nn 12), (own_d nn 11), (own_d nn 10), (own_d nn 9), (own_d nn 8), (own_d nn 7), (own_d nn 6), (own_d nn 5), (own_d nn 4), (own_d nn 3), (own_d nn 2), (own_d nn 1), (own_d nn 0), y4, y4, y4, y4, y4, y4].set 3 ((own_d nn 14).toInt8.toInt32) = [y4, y4, y4, (own_d nn 14), (own_d nn 13), (own_d nn 12), (own_d nn 11), (own_d nn 10), (own_d nn 9), (own_d nn 8), (own_d nn 7), (own_d nn 6), (own_d nn 5), (own_d nn 4), (own_d nn 3), (own_d nn 2), (own_d nn 1), (own_d nn 0), y4, y4, y4, y4, y4, y4] from (by rw [own_d8]; rfl)] at V205
    have N206 := Fr.snoc X205 N204 ge6
    have Z207 : n0 ≤ h205.size := by rw [W205.size]; exact Z201
    have V208 := V202.other W205 (Ne.symm ne39)
    refine own_aload X205 hx (hb hby at_506) rfl rfl 508 rfl ?_
    refine own_iload X205 hx (hb hby at_508) rfl 510 rfl ?_
    refine own_bipush X205 hx (hb hby at_510) (16 : Int32) rfl 512 rfl ?_
    refine own_isub X205 hx (hb hby at_512) 513 rfl ?_
    show own_Go p e below G (T205.setTop (mkF m 513 #[.val (.long v0), .second, .val (.int v1), .val (.int v2), .val (.int v3), .val (.long (Int64.ofNat nn)), .second, .val (.int (Int32.ofNat ni)), .val (.int (0 : Int32)), .val (.int (18 : Int32)), .val (.int (Int32.ofNat (18 - ni))), .val (.int y4), .val (.ref a5), .val (.ref a38)] [(.int (2 : Int32)), (.ref a5)]))
    refine own_lload X205 hx (hb hby at_513) rfl 515 rfl ?_
    refine own_aload X205 hx (hb hby at_515) rfl rfl 517 rfl ?_
    refine own_bipush X205 hx (hb hby at_517) (15 : Int32) rfl 519 rfl ?_
    refine own_laload X205 hx hZ e205 V208 15 rfl (1000000000000000 : Int64) rfl (hb hby at_519) 520 rfl ?_
    refine own_callS X205 hx hZ hown (own_w hw 22 rfl) (own_w hw 23 rfl) (own_w hw 24 rfl) (own_w hw 25 rfl) (by decide) e205 (rm1 l Z a0 hw [] nn 15 (1000000000000000 : Int64) h205 n0 hnn (by decide) (by decide)) (by rw [hml]; rfl) pd_0 (argsL := [(.long (Int64.ofNat nn)), (.long (1000000000000000 : Int64))]) rfl (rest := [(.int (2 : Int32)), (.ref a5)]) rfl (hb hby at_520) 2 (Nat.le_of_eq rfl) (by decide) (by decide) (by decide) (by decide) 523 rfl (fun T209 L209 v209 X209 hQ209 => ?_)
    obtain ⟨rfl, N209, e209⟩ := hQ209
    have N210 := Fr.app N206 N209
    show own_Go p e below G (T209.setTop (mkF m 523 #[.val (.long v0), .second, .val (.int v1), .val (.int v2), .val (.int v3), .val (.long (Int64.ofNat nn)), .second, .val (.int (Int32.ofNat ni)), .val (.int (0 : Int32)), .val (.int (18 : Int32)), .val (.int (Int32.ofNat (18 - ni))), .val (.int y4), .val (.ref a5), .val (.ref a38)] [(.int (own_d nn 15)), (.int (2 : Int32)), (.ref a5)]))
    refine own_bastore X209 hx hZ e209 V205 2 rfl (by simp) (hb hby at_523) 524 rfl (fun T211 h211 X211 e211 W211 V211 => ?_)
    rw [show [y4, y4, y4, (own_d nn 14), (own_d nn 13), (own_d nn 12), (own_d nn 11), (own_d nn 10), (own_d nn 9), (own_d nn 8), (own_d nn 7), (own_d nn 6), (own_d nn 5), (own_d nn 4), (own_d nn 3), (own_d nn 2), (own_d nn 1), (own_d nn 0), y4, y4, y4, y4, y4, y4].set 2 ((own_d nn 15).toInt8.toInt32) = [y4, y4, (own_d nn 15), (own_d nn 14), (own_d nn 13), (own_d nn 12), (own_d nn 11), (own_d nn 10), (own_d nn 9), (own_d nn 8), (own_d nn 7), (own_d nn 6), (own_d nn 5), (own_d nn 4), (own_d nn 3), (own_d nn 2), (own_d nn 1), (own_d nn 0), y4, y4, y4, y4, y4, y4] from (by rw [own_d8]; rfl)] at V211
    have N212 := Fr.snoc X211 N210 ge6
    have Z213 : n0 ≤ h211.size := by rw [W211.size]; exact Z207
    have V214 := V208.other W211 (Ne.symm ne39)
    refine own_aload X211 hx (hb hby at_524) rfl rfl 526 rfl ?_
    refine own_iload X211 hx (hb hby at_526) rfl 528 rfl ?_
    refine own_bipush X211 hx (hb hby at_528) (17 : Int32) rfl 530 rfl ?_
    refine own_isub X211 hx (hb hby at_530) 531 rfl ?_
    show own_Go p e below G (T211.setTop (mkF m 531 #[.val (.long v0), .second, .val (.int v1), .val (.int v2), .val (.int v3), .val (.long (Int64.ofNat nn)), .second, .val (.int (Int32.ofNat ni)), .val (.int (0 : Int32)), .val (.int (18 : Int32)), .val (.int (Int32.ofNat (18 - ni))), .val (.int y4), .val (.ref a5), .val (.ref a38)] [(.int (1 : Int32)), (.ref a5)]))
    refine own_lload X211 hx (hb hby at_531) rfl 533 rfl ?_
    refine own_aload X211 hx (hb hby at_533) rfl rfl 535 rfl ?_
    refine own_bipush X211 hx (hb hby at_535) (16 : Int32) rfl 537 rfl ?_
    refine own_laload X211 hx hZ e211 V214 16 rfl (10000000000000000 : Int64) rfl (hb hby at_537) 538 rfl ?_
    refine own_callS X211 hx hZ hown (own_w hw 22 rfl) (own_w hw 23 rfl) (own_w hw 24 rfl) (own_w hw 25 rfl) (by decide) e211 (rm1 l Z a0 hw [] nn 16 (10000000000000000 : Int64) h211 n0 hnn (by decide) (by decide)) (by rw [hml]; rfl) pd_0 (argsL := [(.long (Int64.ofNat nn)), (.long (10000000000000000 : Int64))]) rfl (rest := [(.int (1 : Int32)), (.ref a5)]) rfl (hb hby at_538) 2 (Nat.le_of_eq rfl) (by decide) (by decide) (by decide) (by decide) 541 rfl (fun T215 L215 v215 X215 hQ215 => ?_)
    obtain ⟨rfl, N215, e215⟩ := hQ215
    have N216 := Fr.app N212 N215
    show own_Go p e below G (T215.setTop (mkF m 541 #[.val (.long v0), .second, .val (.int v1), .val (.int v2), .val (.int v3), .val (.long (Int64.ofNat nn)), .second, .val (.int (Int32.ofNat ni)), .val (.int (0 : Int32)), .val (.int (18 : Int32)), .val (.int (Int32.ofNat (18 - ni))), .val (.int y4), .val (.ref a5), .val (.ref a38)] [(.int (own_d nn 16)), (.int (1 : Int32)), (.ref a5)]))
    refine own_bastore X215 hx hZ e215 V211 1 rfl (by simp) (hb hby at_541) 542 rfl (fun T217 h217 X217 e217 W217 V217 => ?_)
    rw [show [y4, y4, (own_d nn 15), (own_d nn 14), (own_d nn 13), (own_d nn 12), (own_d nn 11), (own_d nn 10), (own_d nn 9), (own_d nn 8), (own_d nn 7), (own_d nn 6), (own_d nn 5), (own_d nn 4), (own_d nn 3), (own_d nn 2), (own_d nn 1), (own_d nn 0), y4, y4, y4, y4, y4, y4].set 1 ((own_d nn 16).toInt8.toInt32) = [y4, (own_d nn 16), (own_d nn 15), (own_d nn 14), (own_d nn 13), (own_d nn 12), (own_d nn 11), (own_d nn 10), (own_d nn 9), (own_d nn 8), (own_d nn 7), (own_d nn 6), (own_d nn 5), (own_d nn 4), (own_d nn 3), (own_d nn 2), (own_d nn 1), (own_d nn 0), y4, y4, y4, y4, y4, y4] from (by rw [own_d8]; rfl)] at V217
    have N218 := Fr.snoc X217 N216 ge6
    have Z219 : n0 ≤ h217.size := by rw [W217.size]; exact Z213
    have V220 := V214.other W217 (Ne.symm ne39)
    refine own_aload X217 hx (hb hby at_542) rfl rfl 544 rfl ?_
    refine own_iload X217 hx (hb hby at_544) rfl 546 rfl ?_
    refine own_bipush X217 hx (hb hby at_546) (18 : Int32) rfl 548 rfl ?_
    refine own_isub X217 hx (hb hby at_548) 549 rfl ?_
    show own_Go p e below G (T217.setTop (mkF m 549 #[.val (.long v0), .second, .val (.int v1), .val (.int v2), .val (.int v3), .val (.long (Int64.ofNat nn)), .second, .val (.int (Int32.ofNat ni)), .val (.int (0 : Int32)), .val (.int (18 : Int32)), .val (.int (Int32.ofNat (18 - ni))), .val (.int y4), .val (.ref a5), .val (.ref a38)] [(.int (0 : Int32)), (.ref a5)]))
    refine own_lload X217 hx (hb hby at_549) rfl 551 rfl ?_
    refine own_aload X217 hx (hb hby at_551) rfl rfl 553 rfl ?_
    refine own_bipush X217 hx (hb hby at_553) (17 : Int32) rfl 555 rfl ?_
    refine own_laload X217 hx hZ e217 V220 17 rfl (100000000000000000 : Int64) rfl (hb hby at_555) 556 rfl ?_
    refine own_callS X217 hx hZ hown (own_w hw 22 rfl) (own_w hw 23 rfl) (own_w hw 24 rfl) (own_w hw 25 rfl) (by decide) e217 (rm1 l Z a0 hw [] nn 17 (100000000000000000 : Int64) h217 n0 hnn (by decide) (by decide)) (by rw [hml]; rfl) pd_0 (argsL := [(.long (Int64.ofNat nn)), (.long (100000000000000000 : Int64))]) rfl (rest := [(.int (0 : Int32)), (.ref a5)]) rfl (hb hby at_556) 2 (Nat.le_of_eq rfl) (by decide) (by decide) (by decide) (by decide) 559 rfl (fun T221 L221 v221 X221 hQ221 => ?_)
    obtain ⟨rfl, N221, e221⟩ := hQ221
    have N222 := Fr.app N218 N221
    show own_Go p e below G (T221.setTop (mkF m 559 #[.val (.long v0), .second, .val (.int v1), .val (.int v2), .val (.int v3), .val (.long (Int64.ofNat nn)), .second, .val (.int (Int32.ofNat ni)), .val (.int (0 : Int32)), .val (.int (18 : Int32)), .val (.int (Int32.ofNat (18 - ni))), .val (.int y4), .val (.ref a5), .val (.ref a38)] [(.int (own_d nn 17)), (.int (0 : Int32)), (.ref a5)]))
    refine own_bastore X221 hx hZ e221 V217 0 rfl (by simp) (hb hby at_559) 560 rfl (fun T223 h223 X223 e223 W223 V223 => ?_)
    rw [show [y4, (own_d nn 16), (own_d nn 15), (own_d nn 14), (own_d nn 13), (own_d nn 12), (own_d nn 11), (own_d nn 10), (own_d nn 9), (own_d nn 8), (own_d nn 7), (own_d nn 6), (own_d nn 5), (own_d nn 4), (own_d nn 3), (own_d nn 2), (own_d nn 1), (own_d nn 0), y4, y4, y4, y4, y4, y4].set 0 ((own_d nn 17).toInt8.toInt32) = [(own_d nn 17), (own_d nn 16), (own_d nn 15), (own_d nn 14), (own_d nn 13), (own_d nn 12), (own_d nn 11), (own_d nn 10), (own_d nn 9), (own_d nn 8), (own_d nn 7), (own_d nn 6), (own_d nn 5), (own_d nn 4), (own_d nn 3), (own_d nn 2), (own_d nn 1), (own_d nn 0), y4, y4, y4, y4, y4, y4] from (by rw [own_d8]; rfl)] at V223
    have N224 := Fr.snoc X223 N222 ge6
    have Z225 : n0 ≤ h223.size := by rw [W223.size]; exact Z219
    have V226 := V220.other W223 (Ne.symm ne39)
    refine own_aload X223 hx (hb hby at_560) rfl rfl 562 rfl ?_
    refine own_iload X223 hx (hb hby at_562) rfl 564 rfl ?_
    refine own_iload X223 hx (hb hby at_564) rfl 566 rfl ?_
    refine own_callS X223 hx hZ hown (own_w hw 27 rfl) (own_w hw 28 rfl) (own_w hw 29 rfl) (own_w hw 30 rfl) (by decide) e223 (rm2 l Z a0 hw [] a5 (18 - ni) 18 [(own_d nn 17), (own_d nn 16), (own_d nn 15), (own_d nn 14), (own_d nn 13), (own_d nn 12), (own_d nn 11), (own_d nn 10), (own_d nn 9), (own_d nn 8), (own_d nn 7), (own_d nn 6), (own_d nn 5), (own_d nn 4), (own_d nn 3), (own_d nn 2), (own_d nn 1), (own_d nn 0), y4, y4, y4, y4, y4, y4] h223 n0 (by omega) (by simp) V223) (by rw [hml]; rfl) pd_1 (argsL := [(.ref a5), (.int (Int32.ofNat (18 - ni))), (.int (18 : Int32))]) rfl (rest := []) rfl (hb hby at_566) 0 (Nat.le_of_eq rfl) (by decide) (by decide) (by decide) (by decide) 569 rfl (fun T227 L227 v227 X227 hQ227 => ?_)
    obtain ⟨rfl, N227, e227⟩ := hQ227
    have N228 := Fr.app N224 N227
    show own_Go p e below G (T227.setTop (mkF m 569 #[.val (.long v0), .second, .val (.int v1), .val (.int v2), .val (.int v3), .val (.long (Int64.ofNat nn)), .second, .val (.int (Int32.ofNat ni)), .val (.int (0 : Int32)), .val (.int (18 : Int32)), .val (.int (Int32.ofNat (18 - ni))), .val (.int y4), .val (.ref a5), .val (.ref a38)] [(.long ((own_slice [(own_d nn 17), (own_d nn 16), (own_d nn 15), (own_d nn 14), (own_d nn 13), (own_d nn 12), (own_d nn 11), (own_d nn 10), (own_d nn 9), (own_d nn 8), (own_d nn 7), (own_d nn 6), (own_d nn 5), (own_d nn 4), (own_d nn 3), (own_d nn 2), (own_d nn 1), (own_d nn 0), y4, y4, y4, y4, y4, y4] (18 - ni) 18).foldl own_lv 0))]))
    refine own_lload X227 hx (hb hby at_569) rfl 571 rfl ?_
    refine own_aload X227 hx (hb hby at_571) rfl rfl 573 rfl ?_
    refine own_iload X227 hx (hb hby at_573) rfl 575 rfl ?_
    refine own_laload X227 hx hZ e227 V226 ni rfl xx hxx (hb hby at_575) 576 rfl ?_
    refine own_lrem X227 hx (hb hby at_576) hxz 577 rfl ?_
    refine own_lcmp X227 hx (hb hby at_577) 578 rfl ?_
    have hsl : own_slice [(own_d nn 17), (own_d nn 16), (own_d nn 15), (own_d nn 14), (own_d nn 13), (own_d nn 12), (own_d nn 11), (own_d nn 10), (own_d nn 9), (own_d nn 8), (own_d nn 7), (own_d nn 6), (own_d nn 5), (own_d nn 4), (own_d nn 3), (own_d nn 2), (own_d nn 1), (own_d nn 0), y4, y4, y4, y4, y4, y4] (18 - ni) 18 = own_D nn ni := by
      have q : ni = 0 ∨ ni = 1 ∨ ni = 2 ∨ ni = 3 ∨ ni = 4 ∨ ni = 5 ∨ ni = 6 ∨ ni = 7 ∨ ni = 8 ∨ ni = 9 ∨ ni = 10 ∨ ni = 11 ∨ ni = 12 ∨ ni = 13 ∨ ni = 14 ∨ ni = 15 ∨ ni = 16 ∨ ni = 17 ∨ ni = 18 := by omega
      rcases q with rfl | rfl | rfl | rfl | rfl | rfl | rfl | rfl | rfl | rfl | rfl | rfl | rfl | rfl | rfl | rfl | rfl | rfl | rfl <;> rfl
    refine own_ifN X227 hx (hb hby at_578) (own_eqL (by rw [hsl]; exact own_end hnn hxi)).2 581 rfl ?_
    refine own_iconst X227 hx (hb hby at_581) (1 : Int32) rfl 582 rfl ?_
    refine own_goto X227 hx (hb hby at_582) 586 ⟨by decide, by decide⟩ ?_
    refine own_nreturn X227 hx Bd.notSynchronized hG Bd.returns (by simp) (hb hby at_586) (by decide) (by decide) ?_
    rw [e227]
    exact ⟨rfl, N228⟩
  ·
    refine own_iload X0 hx (hb hby at_25) rfl 27 rfl ?_
    refine own_bipush X0 hx (hb hby at_27) (18 : Int32) rfl 29 rfl ?_
    refine own_iadd X0 hx (hb hby at_29) 30 rfl ?_
    show own_Go p e below G (s₁.setTop (mkF m 30 #[.val (.long v0), .second, .val (.int v1), .val (.int v2), .val (.int v3), .val (.long (Int64.ofNat nn)), .second, .val (.int (Int32.ofNat ni)), .val (.int (1 : Int32)), .unset, .unset, .unset, .unset, .unset] [(.int (19 : Int32))]))
    refine own_istore X0 hx (hb hby at_30) #[.val (.long v0), .second, .val (.int v1), .val (.int v2), .val (.int v3), .val (.long (Int64.ofNat nn)), .second, .val (.int (Int32.ofNat ni)), .val (.int (1 : Int32)), .val (.int (19 : Int32)), .unset, .unset, .unset, .unset] rfl 32 rfl ?_
    refine own_iload X0 hx (hb hby at_32) rfl 34 rfl ?_
    refine own_iload X0 hx (hb hby at_34) rfl 36 rfl ?_
    refine own_isub X0 hx (hb hby at_36) 37 rfl ?_
    rw [show (19 : Int32) - Int32.ofNat ni = Int32.ofNat (19 - ni) from own_sub32 (i := ni) (j := 19) (by omega)]
    refine own_istore X0 hx (hb hby at_37) #[.val (.long v0), .second, .val (.int v1), .val (.int v2), .val (.int v3), .val (.long (Int64.ofNat nn)), .second, .val (.int (Int32.ofNat ni)), .val (.int (1 : Int32)), .val (.int (19 : Int32)), .val (.int (Int32.ofNat (19 - ni))), .unset, .unset, .unset] rfl 39 rfl ?_
    refine own_iload X0 hx (hb hby at_39) rfl 41 rfl ?_
    refine own_i2b X0 hx (hb hby at_41) 42 rfl ?_
    generalize hy229 : (v3).toInt8.toInt32 = y229
    refine own_istore X0 hx (hb hby at_42) #[.val (.long v0), .second, .val (.int v1), .val (.int v2), .val (.int v3), .val (.long (Int64.ofNat nn)), .second, .val (.int (Int32.ofNat ni)), .val (.int (1 : Int32)), .val (.int (19 : Int32)), .val (.int (Int32.ofNat (19 - ni))), .val (.int y229), .unset, .unset] rfl 44 rfl ?_
    refine own_bipush X0 hx (hb hby at_44) (24 : Int32) rfl 46 rfl ?_
    refine own_newB X0 hx hZ (own_w hw 3 rfl) e0 (hb hby at_46) 24 rfl 24 (by decide) (by decide) (by decide) (by decide) 48 rfl (fun T230 h230 a230 g230 X230 e230 E230 V230 => ?_)
    have ge231 : n0 ≤ a230 := by rw [g230]; exact Z0
    have Z232 : n0 ≤ h230.size := Nat.le_trans Z0 E230.1
    rw [show (List.replicate 24 (0 : Int32)) = [(0 : Int32), (0 : Int32), (0 : Int32), (0 : Int32), (0 : Int32), (0 : Int32), (0 : Int32), (0 : Int32), (0 : Int32), (0 : Int32), (0 : Int32), (0 : Int32), (0 : Int32), (0 : Int32), (0 : Int32), (0 : Int32), (0 : Int32), (0 : Int32), (0 : Int32), (0 : Int32), (0 : Int32), (0 : Int32), (0 : Int32), (0 : Int32)] from rfl] at V230
    refine own_astore X230 hx (hb hby at_48) rfl #[.val (.long v0), .second, .val (.int v1), .val (.int v2), .val (.int v3), .val (.long (Int64.ofNat nn)), .second, .val (.int (Int32.ofNat ni)), .val (.int (1 : Int32)), .val (.int (19 : Int32)), .val (.int (Int32.ofNat (19 - ni))), .val (.int y229), .val (.ref a230), .unset] rfl 50 rfl ?_
    refine own_aload X230 hx (hb hby at_50) rfl rfl 52 rfl ?_
    refine own_iconst X230 hx (hb hby at_52) (0 : Int32) rfl 53 rfl ?_
    refine own_iload X230 hx (hb hby at_53) rfl 55 rfl ?_
    refine own_bastore X230 hx hZ e230 V230 0 rfl (by simp) (hb hby at_55) 56 rfl (fun T233 h233 X233 e233 W233 V233 => ?_)
    rw [show [(0 : Int32), (0 : Int32), (0 : Int32), (0 : Int32), (0 : Int32), (0 : Int32), (0 : Int32), (0 : Int32), (0 : Int32), (0 : Int32), (0 : Int32), (0 : Int32), (0 : Int32), (0 : Int32), (0 : Int32), (0 : Int32), (0 : Int32), (0 : Int32), (0 : Int32), (0 : Int32), (0 : Int32), (0 : Int32), (0 : Int32), (0 : Int32)].set 0 (y229.toInt8.toInt32) = [y229, (0 : Int32), (0 : Int32), (0 : Int32), (0 : Int32), (0 : Int32), (0 : Int32), (0 : Int32), (0 : Int32), (0 : Int32), (0 : Int32), (0 : Int32), (0 : Int32), (0 : Int32), (0 : Int32), (0 : Int32), (0 : Int32), (0 : Int32), (0 : Int32), (0 : Int32), (0 : Int32), (0 : Int32), (0 : Int32), (0 : Int32)] from (by rw [own_b hy229]; rfl)] at V233
    have N234 := Fr.snoc X233 N0 ge231
    have Z235 : n0 ≤ h233.size := by rw [W233.size]; exact Z232
    refine own_aload X233 hx (hb hby at_56) rfl rfl 58 rfl ?_
    refine own_iconst X233 hx (hb hby at_58) (1 : Int32) rfl 59 rfl ?_
    refine own_iload X233 hx (hb hby at_59) rfl 61 rfl ?_
    refine own_bastore X233 hx hZ e233 V233 1 rfl (by simp) (hb hby at_61) 62 rfl (fun T236 h236 X236 e236 W236 V236 => ?_)
    rw [show [y229, (0 : Int32), (0 : Int32), (0 : Int32), (0 : Int32), (0 : Int32), (0 : Int32), (0 : Int32), (0 : Int32), (0 : Int32), (0 : Int32), (0 : Int32), (0 : Int32), (0 : Int32), (0 : Int32), (0 : Int32), (0 : Int32), (0 : Int32), (0 : Int32), (0 : Int32), (0 : Int32), (0 : Int32), (0 : Int32), (0 : Int32)].set 1 (y229.toInt8.toInt32) = [y229, y229, (0 : Int32), (0 : Int32), (0 : Int32), (0 : Int32), (0 : Int32), (0 : Int32), (0 : Int32), (0 : Int32), (0 : Int32), (0 : Int32), (0 : Int32), (0 : Int32), (0 : Int32), (0 : Int32), (0 : Int32), (0 : Int32), (0 : Int32), (0 : Int32), (0 : Int32), (0 : Int32), (0 : Int32), (0 : Int32)] from (by rw [own_b hy229]; rfl)] at V236
    have N237 := Fr.snoc X236 N234 ge231
    have Z238 : n0 ≤ h236.size := by rw [W236.size]; exact Z235
    refine own_aload X236 hx (hb hby at_62) rfl rfl 64 rfl ?_
    refine own_iconst X236 hx (hb hby at_64) (2 : Int32) rfl 65 rfl ?_
    refine own_iload X236 hx (hb hby at_65) rfl 67 rfl ?_
    refine own_bastore X236 hx hZ e236 V236 2 rfl (by simp) (hb hby at_67) 68 rfl (fun T239 h239 X239 e239 W239 V239 => ?_)
    rw [show [y229, y229, (0 : Int32), (0 : Int32), (0 : Int32), (0 : Int32), (0 : Int32), (0 : Int32), (0 : Int32), (0 : Int32), (0 : Int32), (0 : Int32), (0 : Int32), (0 : Int32), (0 : Int32), (0 : Int32), (0 : Int32), (0 : Int32), (0 : Int32), (0 : Int32), (0 : Int32), (0 : Int32), (0 : Int32), (0 : Int32)].set 2 (y229.toInt8.toInt32) = [y229, y229, y229, (0 : Int32), (0 : Int32), (0 : Int32), (0 : Int32), (0 : Int32), (0 : Int32), (0 : Int32), (0 : Int32), (0 : Int32), (0 : Int32), (0 : Int32), (0 : Int32), (0 : Int32), (0 : Int32), (0 : Int32), (0 : Int32), (0 : Int32), (0 : Int32), (0 : Int32), (0 : Int32), (0 : Int32)] from (by rw [own_b hy229]; rfl)] at V239
    have N240 := Fr.snoc X239 N237 ge231
    have Z241 : n0 ≤ h239.size := by rw [W239.size]; exact Z238
    refine own_aload X239 hx (hb hby at_68) rfl rfl 70 rfl ?_
    refine own_iconst X239 hx (hb hby at_70) (3 : Int32) rfl 71 rfl ?_
    refine own_iload X239 hx (hb hby at_71) rfl 73 rfl ?_
    refine own_bastore X239 hx hZ e239 V239 3 rfl (by simp) (hb hby at_73) 74 rfl (fun T242 h242 X242 e242 W242 V242 => ?_)
    rw [show [y229, y229, y229, (0 : Int32), (0 : Int32), (0 : Int32), (0 : Int32), (0 : Int32), (0 : Int32), (0 : Int32), (0 : Int32), (0 : Int32), (0 : Int32), (0 : Int32), (0 : Int32), (0 : Int32), (0 : Int32), (0 : Int32), (0 : Int32), (0 : Int32), (0 : Int32), (0 : Int32), (0 : Int32), (0 : Int32)].set 3 (y229.toInt8.toInt32) = [y229, y229, y229, y229, (0 : Int32), (0 : Int32), (0 : Int32), (0 : Int32), (0 : Int32), (0 : Int32), (0 : Int32), (0 : Int32), (0 : Int32), (0 : Int32), (0 : Int32), (0 : Int32), (0 : Int32), (0 : Int32), (0 : Int32), (0 : Int32), (0 : Int32), (0 : Int32), (0 : Int32), (0 : Int32)] from (by rw [own_b hy229]; rfl)] at V242
    have N243 := Fr.snoc X242 N240 ge231
    have Z244 : n0 ≤ h242.size := by rw [W242.size]; exact Z241
    refine own_aload X242 hx (hb hby at_74) rfl rfl 76 rfl ?_
    refine own_bipush X242 hx (hb hby at_76) (18 : Int32) rfl 78 rfl ?_
    refine own_iload X242 hx (hb hby at_78) rfl 80 rfl ?_
    refine own_bastore X242 hx hZ e242 V242 18 rfl (by simp) (hb hby at_80) 81 rfl (fun T245 h245 X245 e245 W245 V245 => ?_)
    rw [show [y229, y229, y229, y229, (0 : Int32), (0 : Int32), (0 : Int32), (0 : Int32), (0 : Int32), (0 : Int32), (0 : Int32), (0 : Int32), (0 : Int32), (0 : Int32), (0 : Int32), (0 : Int32), (0 : Int32), (0 : Int32), (0 : Int32), (0 : Int32), (0 : Int32), (0 : Int32), (0 : Int32), (0 : Int32)].set 18 (y229.toInt8.toInt32) = [y229, y229, y229, y229, (0 : Int32), (0 : Int32), (0 : Int32), (0 : Int32), (0 : Int32), (0 : Int32), (0 : Int32), (0 : Int32), (0 : Int32), (0 : Int32), (0 : Int32), (0 : Int32), (0 : Int32), (0 : Int32), y229, (0 : Int32), (0 : Int32), (0 : Int32), (0 : Int32), (0 : Int32)] from (by rw [own_b hy229]; rfl)] at V245
    have N246 := Fr.snoc X245 N243 ge231
    have Z247 : n0 ≤ h245.size := by rw [W245.size]; exact Z244
    refine own_aload X245 hx (hb hby at_81) rfl rfl 83 rfl ?_
    refine own_bipush X245 hx (hb hby at_83) (19 : Int32) rfl 85 rfl ?_
    refine own_iload X245 hx (hb hby at_85) rfl 87 rfl ?_
    refine own_bastore X245 hx hZ e245 V245 19 rfl (by simp) (hb hby at_87) 88 rfl (fun T248 h248 X248 e248 W248 V248 => ?_)
    rw [show [y229, y229, y229, y229, (0 : Int32), (0 : Int32), (0 : Int32), (0 : Int32), (0 : Int32), (0 : Int32), (0 : Int32), (0 : Int32), (0 : Int32), (0 : Int32), (0 : Int32), (0 : Int32), (0 : Int32), (0 : Int32), y229, (0 : Int32), (0 : Int32), (0 : Int32), (0 : Int32), (0 : Int32)].set 19 (y229.toInt8.toInt32) = [y229, y229, y229, y229, (0 : Int32), (0 : Int32), (0 : Int32), (0 : Int32), (0 : Int32), (0 : Int32), (0 : Int32), (0 : Int32), (0 : Int32), (0 : Int32), (0 : Int32), (0 : Int32), (0 : Int32), (0 : Int32), y229, y229, (0 : Int32), (0 : Int32), (0 : Int32), (0 : Int32)] from (by rw [own_b hy229]; rfl)] at V248
    have N249 := Fr.snoc X248 N246 ge231
    have Z250 : n0 ≤ h248.size := by rw [W248.size]; exact Z247
    refine own_aload X248 hx (hb hby at_88) rfl rfl 90 rfl ?_
    refine own_bipush X248 hx (hb hby at_90) (20 : Int32) rfl 92 rfl ?_
    refine own_iload X248 hx (hb hby at_92) rfl 94 rfl ?_
    refine own_bastore X248 hx hZ e248 V248 20 rfl (by simp) (hb hby at_94) 95 rfl (fun T251 h251 X251 e251 W251 V251 => ?_)
    rw [show [y229, y229, y229, y229, (0 : Int32), (0 : Int32), (0 : Int32), (0 : Int32), (0 : Int32), (0 : Int32), (0 : Int32), (0 : Int32), (0 : Int32), (0 : Int32), (0 : Int32), (0 : Int32), (0 : Int32), (0 : Int32), y229, y229, (0 : Int32), (0 : Int32), (0 : Int32), (0 : Int32)].set 20 (y229.toInt8.toInt32) = [y229, y229, y229, y229, (0 : Int32), (0 : Int32), (0 : Int32), (0 : Int32), (0 : Int32), (0 : Int32), (0 : Int32), (0 : Int32), (0 : Int32), (0 : Int32), (0 : Int32), (0 : Int32), (0 : Int32), (0 : Int32), y229, y229, y229, (0 : Int32), (0 : Int32), (0 : Int32)] from (by rw [own_b hy229]; rfl)] at V251
    have N252 := Fr.snoc X251 N249 ge231
    have Z253 : n0 ≤ h251.size := by rw [W251.size]; exact Z250
    refine own_aload X251 hx (hb hby at_95) rfl rfl 97 rfl ?_
    refine own_bipush X251 hx (hb hby at_97) (21 : Int32) rfl 99 rfl ?_
    refine own_iload X251 hx (hb hby at_99) rfl 101 rfl ?_
    refine own_bastore X251 hx hZ e251 V251 21 rfl (by simp) (hb hby at_101) 102 rfl (fun T254 h254 X254 e254 W254 V254 => ?_)
    rw [show [y229, y229, y229, y229, (0 : Int32), (0 : Int32), (0 : Int32), (0 : Int32), (0 : Int32), (0 : Int32), (0 : Int32), (0 : Int32), (0 : Int32), (0 : Int32), (0 : Int32), (0 : Int32), (0 : Int32), (0 : Int32), y229, y229, y229, (0 : Int32), (0 : Int32), (0 : Int32)].set 21 (y229.toInt8.toInt32) = [y229, y229, y229, y229, (0 : Int32), (0 : Int32), (0 : Int32), (0 : Int32), (0 : Int32), (0 : Int32), (0 : Int32), (0 : Int32), (0 : Int32), (0 : Int32), (0 : Int32), (0 : Int32), (0 : Int32), (0 : Int32), y229, y229, y229, y229, (0 : Int32), (0 : Int32)] from (by rw [own_b hy229]; rfl)] at V254
    have N255 := Fr.snoc X254 N252 ge231
    have Z256 : n0 ≤ h254.size := by rw [W254.size]; exact Z253
    refine own_aload X254 hx (hb hby at_102) rfl rfl 104 rfl ?_
    refine own_bipush X254 hx (hb hby at_104) (22 : Int32) rfl 106 rfl ?_
    refine own_iload X254 hx (hb hby at_106) rfl 108 rfl ?_
    refine own_bastore X254 hx hZ e254 V254 22 rfl (by simp) (hb hby at_108) 109 rfl (fun T257 h257 X257 e257 W257 V257 => ?_)
    rw [show [y229, y229, y229, y229, (0 : Int32), (0 : Int32), (0 : Int32), (0 : Int32), (0 : Int32), (0 : Int32), (0 : Int32), (0 : Int32), (0 : Int32), (0 : Int32), (0 : Int32), (0 : Int32), (0 : Int32), (0 : Int32), y229, y229, y229, y229, (0 : Int32), (0 : Int32)].set 22 (y229.toInt8.toInt32) = [y229, y229, y229, y229, (0 : Int32), (0 : Int32), (0 : Int32), (0 : Int32), (0 : Int32), (0 : Int32), (0 : Int32), (0 : Int32), (0 : Int32), (0 : Int32), (0 : Int32), (0 : Int32), (0 : Int32), (0 : Int32), y229, y229, y229, y229, y229, (0 : Int32)] from (by rw [own_b hy229]; rfl)] at V257
    have N258 := Fr.snoc X257 N255 ge231
    have Z259 : n0 ≤ h257.size := by rw [W257.size]; exact Z256
    refine own_aload X257 hx (hb hby at_109) rfl rfl 111 rfl ?_
    refine own_bipush X257 hx (hb hby at_111) (23 : Int32) rfl 113 rfl ?_
    refine own_iload X257 hx (hb hby at_113) rfl 115 rfl ?_
    refine own_bastore X257 hx hZ e257 V257 23 rfl (by simp) (hb hby at_115) 116 rfl (fun T260 h260 X260 e260 W260 V260 => ?_)
    rw [show [y229, y229, y229, y229, (0 : Int32), (0 : Int32), (0 : Int32), (0 : Int32), (0 : Int32), (0 : Int32), (0 : Int32), (0 : Int32), (0 : Int32), (0 : Int32), (0 : Int32), (0 : Int32), (0 : Int32), (0 : Int32), y229, y229, y229, y229, y229, (0 : Int32)].set 23 (y229.toInt8.toInt32) = [y229, y229, y229, y229, (0 : Int32), (0 : Int32), (0 : Int32), (0 : Int32), (0 : Int32), (0 : Int32), (0 : Int32), (0 : Int32), (0 : Int32), (0 : Int32), (0 : Int32), (0 : Int32), (0 : Int32), (0 : Int32), y229, y229, y229, y229, y229, y229] from (by rw [own_b hy229]; rfl)] at V260
    have N261 := Fr.snoc X260 N258 ge231
    have Z262 : n0 ≤ h260.size := by rw [W260.size]; exact Z259
    refine own_bipush X260 hx (hb hby at_116) (19 : Int32) rfl 118 rfl ?_
    refine own_newJ X260 hx hZ (own_w hw 4 rfl) e260 (hb hby at_118) 19 rfl 19 (by decide) (by decide) (by decide) (by decide) 120 rfl (fun T263 h263 a263 g263 X263 e263 E263 V263 => ?_)
    have ne264 : a230 ≠ a263 := by rw [g263]; exact Nat.ne_of_lt V260.lt
    have ge265 : n0 ≤ a263 := by rw [g263]; exact Z262
    have Z266 : n0 ≤ h263.size := Nat.le_trans Z262 E263.1
    have V267 := V260.ext E263
    rw [show (List.replicate 19 (0 : Int64)) = [(0 : Int64), (0 : Int64), (0 : Int64), (0 : Int64), (0 : Int64), (0 : Int64), (0 : Int64), (0 : Int64), (0 : Int64), (0 : Int64), (0 : Int64), (0 : Int64), (0 : Int64), (0 : Int64), (0 : Int64), (0 : Int64), (0 : Int64), (0 : Int64), (0 : Int64)] from rfl] at V263
    refine own_dup X263 hx (hb hby at_120) rfl 121 rfl ?_
    refine own_iconst X263 hx (hb hby at_121) (0 : Int32) rfl 122 rfl ?_
    refine own_lconst X263 hx (hb hby at_122) (1 : Int64) rfl 123 rfl ?_
    refine own_lastore X263 hx hZ e263 V263 0 rfl (by simp) (hb hby at_123) 124 rfl (fun T268 h268 X268 e268 W268 V268 => ?_)
    rw [show [(0 : Int64), (0 : Int64), (0 : Int64), (0 : Int64), (0 : Int64), (0 : Int64), (0 : Int64), (0 : Int64), (0 : Int64), (0 : Int64), (0 : Int64), (0 : Int64), (0 : Int64), (0 : Int64), (0 : Int64), (0 : Int64), (0 : Int64), (0 : Int64), (0 : Int64)].set 0 (1 : Int64) = [(1 : Int64), (0 : Int64), (0 : Int64), (0 : Int64), (0 : Int64), (0 : Int64), (0 : Int64), (0 : Int64), (0 : Int64), (0 : Int64), (0 : Int64), (0 : Int64), (0 : Int64), (0 : Int64), (0 : Int64), (0 : Int64), (0 : Int64), (0 : Int64), (0 : Int64)] from rfl] at V268
    have N269 := Fr.snoc X268 N261 ge265
    have Z270 : n0 ≤ h268.size := by rw [W268.size]; exact Z266
    have V271 := V267.other W268 ne264
    refine own_dup X268 hx (hb hby at_124) rfl 125 rfl ?_
    refine own_iconst X268 hx (hb hby at_125) (1 : Int32) rfl 126 rfl ?_
    refine own_ldc2Long X268 hx hown (mvT hZ (own_w hw 5 rfl)) (hb hby at_126) 129 rfl ?_
    refine own_lastore X268 hx hZ e268 V268 1 rfl (by simp) (hb hby at_129) 130 rfl (fun T272 h272 X272 e272 W272 V272 => ?_)
    rw [show [(1 : Int64), (0 : Int64), (0 : Int64), (0 : Int64), (0 : Int64), (0 : Int64), (0 : Int64), (0 : Int64), (0 : Int64), (0 : Int64), (0 : Int64), (0 : Int64), (0 : Int64), (0 : Int64), (0 : Int64), (0 : Int64), (0 : Int64), (0 : Int64), (0 : Int64)].set 1 (10 : Int64) = [(1 : Int64), (10 : Int64), (0 : Int64), (0 : Int64), (0 : Int64), (0 : Int64), (0 : Int64), (0 : Int64), (0 : Int64), (0 : Int64), (0 : Int64), (0 : Int64), (0 : Int64), (0 : Int64), (0 : Int64), (0 : Int64), (0 : Int64), (0 : Int64), (0 : Int64)] from rfl] at V272
    have N273 := Fr.snoc X272 N269 ge265
    have Z274 : n0 ≤ h272.size := by rw [W272.size]; exact Z270
    have V275 := V271.other W272 ne264
    refine own_dup X272 hx (hb hby at_130) rfl 131 rfl ?_
    refine own_iconst X272 hx (hb hby at_131) (2 : Int32) rfl 132 rfl ?_
    refine own_ldc2Long X272 hx hown (mvT hZ (own_w hw 6 rfl)) (hb hby at_132) 135 rfl ?_
    refine own_lastore X272 hx hZ e272 V272 2 rfl (by simp) (hb hby at_135) 136 rfl (fun T276 h276 X276 e276 W276 V276 => ?_)
    rw [show [(1 : Int64), (10 : Int64), (0 : Int64), (0 : Int64), (0 : Int64), (0 : Int64), (0 : Int64), (0 : Int64), (0 : Int64), (0 : Int64), (0 : Int64), (0 : Int64), (0 : Int64), (0 : Int64), (0 : Int64), (0 : Int64), (0 : Int64), (0 : Int64), (0 : Int64)].set 2 (100 : Int64) = [(1 : Int64), (10 : Int64), (100 : Int64), (0 : Int64), (0 : Int64), (0 : Int64), (0 : Int64), (0 : Int64), (0 : Int64), (0 : Int64), (0 : Int64), (0 : Int64), (0 : Int64), (0 : Int64), (0 : Int64), (0 : Int64), (0 : Int64), (0 : Int64), (0 : Int64)] from rfl] at V276
    have N277 := Fr.snoc X276 N273 ge265
    have Z278 : n0 ≤ h276.size := by rw [W276.size]; exact Z274
    have V279 := V275.other W276 ne264
    refine own_dup X276 hx (hb hby at_136) rfl 137 rfl ?_
    refine own_iconst X276 hx (hb hby at_137) (3 : Int32) rfl 138 rfl ?_
    refine own_ldc2Long X276 hx hown (mvT hZ (own_w hw 7 rfl)) (hb hby at_138) 141 rfl ?_
    refine own_lastore X276 hx hZ e276 V276 3 rfl (by simp) (hb hby at_141) 142 rfl (fun T280 h280 X280 e280 W280 V280 => ?_)
    rw [show [(1 : Int64), (10 : Int64), (100 : Int64), (0 : Int64), (0 : Int64), (0 : Int64), (0 : Int64), (0 : Int64), (0 : Int64), (0 : Int64), (0 : Int64), (0 : Int64), (0 : Int64), (0 : Int64), (0 : Int64), (0 : Int64), (0 : Int64), (0 : Int64), (0 : Int64)].set 3 (1000 : Int64) = [(1 : Int64), (10 : Int64), (100 : Int64), (1000 : Int64), (0 : Int64), (0 : Int64), (0 : Int64), (0 : Int64), (0 : Int64), (0 : Int64), (0 : Int64), (0 : Int64), (0 : Int64), (0 : Int64), (0 : Int64), (0 : Int64), (0 : Int64), (0 : Int64), (0 : Int64)] from rfl] at V280
    have N281 := Fr.snoc X280 N277 ge265
    have Z282 : n0 ≤ h280.size := by rw [W280.size]; exact Z278
    have V283 := V279.other W280 ne264
    refine own_dup X280 hx (hb hby at_142) rfl 143 rfl ?_
    refine own_iconst X280 hx (hb hby at_143) (4 : Int32) rfl 144 rfl ?_
    refine own_ldc2Long X280 hx hown (mvT hZ (own_w hw 8 rfl)) (hb hby at_144) 147 rfl ?_
    refine own_lastore X280 hx hZ e280 V280 4 rfl (by simp) (hb hby at_147) 148 rfl (fun T284 h284 X284 e284 W284 V284 => ?_)
    rw [show [(1 : Int64), (10 : Int64), (100 : Int64), (1000 : Int64), (0 : Int64), (0 : Int64), (0 : Int64), (0 : Int64), (0 : Int64), (0 : Int64), (0 : Int64), (0 : Int64), (0 : Int64), (0 : Int64), (0 : Int64), (0 : Int64), (0 : Int64), (0 : Int64), (0 : Int64)].set 4 (10000 : Int64) = [(1 : Int64), (10 : Int64), (100 : Int64), (1000 : Int64), (10000 : Int64), (0 : Int64), (0 : Int64), (0 : Int64), (0 : Int64), (0 : Int64), (0 : Int64), (0 : Int64), (0 : Int64), (0 : Int64), (0 : Int64), (0 : Int64), (0 : Int64), (0 : Int64), (0 : Int64)] from rfl] at V284
    have N285 := Fr.snoc X284 N281 ge265
    have Z286 : n0 ≤ h284.size := by rw [W284.size]; exact Z282
    have V287 := V283.other W284 ne264
    refine own_dup X284 hx (hb hby at_148) rfl 149 rfl ?_
    refine own_iconst X284 hx (hb hby at_149) (5 : Int32) rfl 150 rfl ?_
    refine own_ldc2Long X284 hx hown (mvT hZ (own_w hw 9 rfl)) (hb hby at_150) 153 rfl ?_
    refine own_lastore X284 hx hZ e284 V284 5 rfl (by simp) (hb hby at_153) 154 rfl (fun T288 h288 X288 e288 W288 V288 => ?_)
    rw [show [(1 : Int64), (10 : Int64), (100 : Int64), (1000 : Int64), (10000 : Int64), (0 : Int64), (0 : Int64), (0 : Int64), (0 : Int64), (0 : Int64), (0 : Int64), (0 : Int64), (0 : Int64), (0 : Int64), (0 : Int64), (0 : Int64), (0 : Int64), (0 : Int64), (0 : Int64)].set 5 (100000 : Int64) = [(1 : Int64), (10 : Int64), (100 : Int64), (1000 : Int64), (10000 : Int64), (100000 : Int64), (0 : Int64), (0 : Int64), (0 : Int64), (0 : Int64), (0 : Int64), (0 : Int64), (0 : Int64), (0 : Int64), (0 : Int64), (0 : Int64), (0 : Int64), (0 : Int64), (0 : Int64)] from rfl] at V288
    have N289 := Fr.snoc X288 N285 ge265
    have Z290 : n0 ≤ h288.size := by rw [W288.size]; exact Z286
    have V291 := V287.other W288 ne264
    refine own_dup X288 hx (hb hby at_154) rfl 155 rfl ?_
    refine own_bipush X288 hx (hb hby at_155) (6 : Int32) rfl 157 rfl ?_
    refine own_ldc2Long X288 hx hown (mvT hZ (own_w hw 10 rfl)) (hb hby at_157) 160 rfl ?_
    refine own_lastore X288 hx hZ e288 V288 6 rfl (by simp) (hb hby at_160) 161 rfl (fun T292 h292 X292 e292 W292 V292 => ?_)
    rw [show [(1 : Int64), (10 : Int64), (100 : Int64), (1000 : Int64), (10000 : Int64), (100000 : Int64), (0 : Int64), (0 : Int64), (0 : Int64), (0 : Int64), (0 : Int64), (0 : Int64), (0 : Int64), (0 : Int64), (0 : Int64), (0 : Int64), (0 : Int64), (0 : Int64), (0 : Int64)].set 6 (1000000 : Int64) = [(1 : Int64), (10 : Int64), (100 : Int64), (1000 : Int64), (10000 : Int64), (100000 : Int64), (1000000 : Int64), (0 : Int64), (0 : Int64), (0 : Int64), (0 : Int64), (0 : Int64), (0 : Int64), (0 : Int64), (0 : Int64), (0 : Int64), (0 : Int64), (0 : Int64), (0 : Int64)] from rfl] at V292
    have N293 := Fr.snoc X292 N289 ge265
    have Z294 : n0 ≤ h292.size := by rw [W292.size]; exact Z290
    have V295 := V291.other W292 ne264
    refine own_dup X292 hx (hb hby at_161) rfl 162 rfl ?_
    refine own_bipush X292 hx (hb hby at_162) (7 : Int32) rfl 164 rfl ?_
    refine own_ldc2Long X292 hx hown (mvT hZ (own_w hw 11 rfl)) (hb hby at_164) 167 rfl ?_
    refine own_lastore X292 hx hZ e292 V292 7 rfl (by simp) (hb hby at_167) 168 rfl (fun T296 h296 X296 e296 W296 V296 => ?_)
    rw [show [(1 : Int64), (10 : Int64), (100 : Int64), (1000 : Int64), (10000 : Int64), (100000 : Int64), (1000000 : Int64), (0 : Int64), (0 : Int64), (0 : Int64), (0 : Int64), (0 : Int64), (0 : Int64), (0 : Int64), (0 : Int64), (0 : Int64), (0 : Int64), (0 : Int64), (0 : Int64)].set 7 (10000000 : Int64) = [(1 : Int64), (10 : Int64), (100 : Int64), (1000 : Int64), (10000 : Int64), (100000 : Int64), (1000000 : Int64), (10000000 : Int64), (0 : Int64), (0 : Int64), (0 : Int64), (0 : Int64), (0 : Int64), (0 : Int64), (0 : Int64), (0 : Int64), (0 : Int64), (0 : Int64), (0 : Int64)] from rfl] at V296
    have N297 := Fr.snoc X296 N293 ge265
    have Z298 : n0 ≤ h296.size := by rw [W296.size]; exact Z294
    have V299 := V295.other W296 ne264
    refine own_dup X296 hx (hb hby at_168) rfl 169 rfl ?_
    refine own_bipush X296 hx (hb hby at_169) (8 : Int32) rfl 171 rfl ?_
    refine own_ldc2Long X296 hx hown (mvT hZ (own_w hw 12 rfl)) (hb hby at_171) 174 rfl ?_
    refine own_lastore X296 hx hZ e296 V296 8 rfl (by simp) (hb hby at_174) 175 rfl (fun T300 h300 X300 e300 W300 V300 => ?_)
    rw [show [(1 : Int64), (10 : Int64), (100 : Int64), (1000 : Int64), (10000 : Int64), (100000 : Int64), (1000000 : Int64), (10000000 : Int64), (0 : Int64), (0 : Int64), (0 : Int64), (0 : Int64), (0 : Int64), (0 : Int64), (0 : Int64), (0 : Int64), (0 : Int64), (0 : Int64), (0 : Int64)].set 8 (100000000 : Int64) = [(1 : Int64), (10 : Int64), (100 : Int64), (1000 : Int64), (10000 : Int64), (100000 : Int64), (1000000 : Int64), (10000000 : Int64), (100000000 : Int64), (0 : Int64), (0 : Int64), (0 : Int64), (0 : Int64), (0 : Int64), (0 : Int64), (0 : Int64), (0 : Int64), (0 : Int64), (0 : Int64)] from rfl] at V300
    have N301 := Fr.snoc X300 N297 ge265
    have Z302 : n0 ≤ h300.size := by rw [W300.size]; exact Z298
    have V303 := V299.other W300 ne264
    refine own_dup X300 hx (hb hby at_175) rfl 176 rfl ?_
    refine own_bipush X300 hx (hb hby at_176) (9 : Int32) rfl 178 rfl ?_
    refine own_ldc2Long X300 hx hown (mvT hZ (own_w hw 13 rfl)) (hb hby at_178) 181 rfl ?_
    refine own_lastore X300 hx hZ e300 V300 9 rfl (by simp) (hb hby at_181) 182 rfl (fun T304 h304 X304 e304 W304 V304 => ?_)
    rw [show [(1 : Int64), (10 : Int64), (100 : Int64), (1000 : Int64), (10000 : Int64), (100000 : Int64), (1000000 : Int64), (10000000 : Int64), (100000000 : Int64), (0 : Int64), (0 : Int64), (0 : Int64), (0 : Int64), (0 : Int64), (0 : Int64), (0 : Int64), (0 : Int64), (0 : Int64), (0 : Int64)].set 9 (1000000000 : Int64) = [(1 : Int64), (10 : Int64), (100 : Int64), (1000 : Int64), (10000 : Int64), (100000 : Int64), (1000000 : Int64), (10000000 : Int64), (100000000 : Int64), (1000000000 : Int64), (0 : Int64), (0 : Int64), (0 : Int64), (0 : Int64), (0 : Int64), (0 : Int64), (0 : Int64), (0 : Int64), (0 : Int64)] from rfl] at V304
    have N305 := Fr.snoc X304 N301 ge265
    have Z306 : n0 ≤ h304.size := by rw [W304.size]; exact Z302
    have V307 := V303.other W304 ne264
    refine own_dup X304 hx (hb hby at_182) rfl 183 rfl ?_
    refine own_bipush X304 hx (hb hby at_183) (10 : Int32) rfl 185 rfl ?_
    refine own_ldc2Long X304 hx hown (mvT hZ (own_w hw 14 rfl)) (hb hby at_185) 188 rfl ?_
    refine own_lastore X304 hx hZ e304 V304 10 rfl (by simp) (hb hby at_188) 189 rfl (fun T308 h308 X308 e308 W308 V308 => ?_)
    rw [show [(1 : Int64), (10 : Int64), (100 : Int64), (1000 : Int64), (10000 : Int64), (100000 : Int64), (1000000 : Int64), (10000000 : Int64), (100000000 : Int64), (1000000000 : Int64), (0 : Int64), (0 : Int64), (0 : Int64), (0 : Int64), (0 : Int64), (0 : Int64), (0 : Int64), (0 : Int64), (0 : Int64)].set 10 (10000000000 : Int64) = [(1 : Int64), (10 : Int64), (100 : Int64), (1000 : Int64), (10000 : Int64), (100000 : Int64), (1000000 : Int64), (10000000 : Int64), (100000000 : Int64), (1000000000 : Int64), (10000000000 : Int64), (0 : Int64), (0 : Int64), (0 : Int64), (0 : Int64), (0 : Int64), (0 : Int64), (0 : Int64), (0 : Int64)] from rfl] at V308
    have N309 := Fr.snoc X308 N305 ge265
    have Z310 : n0 ≤ h308.size := by rw [W308.size]; exact Z306
    have V311 := V307.other W308 ne264
    refine own_dup X308 hx (hb hby at_189) rfl 190 rfl ?_
    refine own_bipush X308 hx (hb hby at_190) (11 : Int32) rfl 192 rfl ?_
    refine own_ldc2Long X308 hx hown (mvT hZ (own_w hw 15 rfl)) (hb hby at_192) 195 rfl ?_
    refine own_lastore X308 hx hZ e308 V308 11 rfl (by simp) (hb hby at_195) 196 rfl (fun T312 h312 X312 e312 W312 V312 => ?_)
    rw [show [(1 : Int64), (10 : Int64), (100 : Int64), (1000 : Int64), (10000 : Int64), (100000 : Int64), (1000000 : Int64), (10000000 : Int64), (100000000 : Int64), (1000000000 : Int64), (10000000000 : Int64), (0 : Int64), (0 : Int64), (0 : Int64), (0 : Int64), (0 : Int64), (0 : Int64), (0 : Int64), (0 : Int64)].set 11 (100000000000 : Int64) = [(1 : Int64), (10 : Int64), (100 : Int64), (1000 : Int64), (10000 : Int64), (100000 : Int64), (1000000 : Int64), (10000000 : Int64), (100000000 : Int64), (1000000000 : Int64), (10000000000 : Int64), (100000000000 : Int64), (0 : Int64), (0 : Int64), (0 : Int64), (0 : Int64), (0 : Int64), (0 : Int64), (0 : Int64)] from rfl] at V312
    have N313 := Fr.snoc X312 N309 ge265
    have Z314 : n0 ≤ h312.size := by rw [W312.size]; exact Z310
    have V315 := V311.other W312 ne264
    refine own_dup X312 hx (hb hby at_196) rfl 197 rfl ?_
    refine own_bipush X312 hx (hb hby at_197) (12 : Int32) rfl 199 rfl ?_
    refine own_ldc2Long X312 hx hown (mvT hZ (own_w hw 16 rfl)) (hb hby at_199) 202 rfl ?_
    refine own_lastore X312 hx hZ e312 V312 12 rfl (by simp) (hb hby at_202) 203 rfl (fun T316 h316 X316 e316 W316 V316 => ?_)
    rw [show [(1 : Int64), (10 : Int64), (100 : Int64), (1000 : Int64), (10000 : Int64), (100000 : Int64), (1000000 : Int64), (10000000 : Int64), (100000000 : Int64), (1000000000 : Int64), (10000000000 : Int64), (100000000000 : Int64), (0 : Int64), (0 : Int64), (0 : Int64), (0 : Int64), (0 : Int64), (0 : Int64), (0 : Int64)].set 12 (1000000000000 : Int64) = [(1 : Int64), (10 : Int64), (100 : Int64), (1000 : Int64), (10000 : Int64), (100000 : Int64), (1000000 : Int64), (10000000 : Int64), (100000000 : Int64), (1000000000 : Int64), (10000000000 : Int64), (100000000000 : Int64), (1000000000000 : Int64), (0 : Int64), (0 : Int64), (0 : Int64), (0 : Int64), (0 : Int64), (0 : Int64)] from rfl] at V316
    have N317 := Fr.snoc X316 N313 ge265
    have Z318 : n0 ≤ h316.size := by rw [W316.size]; exact Z314
    have V319 := V315.other W316 ne264
    refine own_dup X316 hx (hb hby at_203) rfl 204 rfl ?_
    refine own_bipush X316 hx (hb hby at_204) (13 : Int32) rfl 206 rfl ?_
    refine own_ldc2Long X316 hx hown (mvT hZ (own_w hw 17 rfl)) (hb hby at_206) 209 rfl ?_
    refine own_lastore X316 hx hZ e316 V316 13 rfl (by simp) (hb hby at_209) 210 rfl (fun T320 h320 X320 e320 W320 V320 => ?_)
    rw [show [(1 : Int64), (10 : Int64), (100 : Int64), (1000 : Int64), (10000 : Int64), (100000 : Int64), (1000000 : Int64), (10000000 : Int64), (100000000 : Int64), (1000000000 : Int64), (10000000000 : Int64), (100000000000 : Int64), (1000000000000 : Int64), (0 : Int64), (0 : Int64), (0 : Int64), (0 : Int64), (0 : Int64), (0 : Int64)].set 13 (10000000000000 : Int64) = [(1 : Int64), (10 : Int64), (100 : Int64), (1000 : Int64), (10000 : Int64), (100000 : Int64), (1000000 : Int64), (10000000 : Int64), (100000000 : Int64), (1000000000 : Int64), (10000000000 : Int64), (100000000000 : Int64), (1000000000000 : Int64), (10000000000000 : Int64), (0 : Int64), (0 : Int64), (0 : Int64), (0 : Int64), (0 : Int64)] from rfl] at V320
    have N321 := Fr.snoc X320 N317 ge265
    have Z322 : n0 ≤ h320.size := by rw [W320.size]; exact Z318
    have V323 := V319.other W320 ne264
    refine own_dup X320 hx (hb hby at_210) rfl 211 rfl ?_
    refine own_bipush X320 hx (hb hby at_211) (14 : Int32) rfl 213 rfl ?_
    refine own_ldc2Long X320 hx hown (mvT hZ (own_w hw 18 rfl)) (hb hby at_213) 216 rfl ?_
    refine own_lastore X320 hx hZ e320 V320 14 rfl (by simp) (hb hby at_216) 217 rfl (fun T324 h324 X324 e324 W324 V324 => ?_)
    rw [show [(1 : Int64), (10 : Int64), (100 : Int64), (1000 : Int64), (10000 : Int64), (100000 : Int64), (1000000 : Int64), (10000000 : Int64), (100000000 : Int64), (1000000000 : Int64), (10000000000 : Int64), (100000000000 : Int64), (1000000000000 : Int64), (10000000000000 : Int64), (0 : Int64), (0 : Int64), (0 : Int64), (0 : Int64), (0 : Int64)].set 14 (100000000000000 : Int64) = [(1 : Int64), (10 : Int64), (100 : Int64), (1000 : Int64), (10000 : Int64), (100000 : Int64), (1000000 : Int64), (10000000 : Int64), (100000000 : Int64), (1000000000 : Int64), (10000000000 : Int64), (100000000000 : Int64), (1000000000000 : Int64), (10000000000000 : Int64), (100000000000000 : Int64), (0 : Int64), (0 : Int64), (0 : Int64), (0 : Int64)] from rfl] at V324
    have N325 := Fr.snoc X324 N321 ge265
    have Z326 : n0 ≤ h324.size := by rw [W324.size]; exact Z322
    have V327 := V323.other W324 ne264
    refine own_dup X324 hx (hb hby at_217) rfl 218 rfl ?_
    refine own_bipush X324 hx (hb hby at_218) (15 : Int32) rfl 220 rfl ?_
    refine own_ldc2Long X324 hx hown (mvT hZ (own_w hw 19 rfl)) (hb hby at_220) 223 rfl ?_
    refine own_lastore X324 hx hZ e324 V324 15 rfl (by simp) (hb hby at_223) 224 rfl (fun T328 h328 X328 e328 W328 V328 => ?_)
    rw [show [(1 : Int64), (10 : Int64), (100 : Int64), (1000 : Int64), (10000 : Int64), (100000 : Int64), (1000000 : Int64), (10000000 : Int64), (100000000 : Int64), (1000000000 : Int64), (10000000000 : Int64), (100000000000 : Int64), (1000000000000 : Int64), (10000000000000 : Int64), (100000000000000 : Int64), (0 : Int64), (0 : Int64), (0 : Int64), (0 : Int64)].set 15 (1000000000000000 : Int64) = [(1 : Int64), (10 : Int64), (100 : Int64), (1000 : Int64), (10000 : Int64), (100000 : Int64), (1000000 : Int64), (10000000 : Int64), (100000000 : Int64), (1000000000 : Int64), (10000000000 : Int64), (100000000000 : Int64), (1000000000000 : Int64), (10000000000000 : Int64), (100000000000000 : Int64), (1000000000000000 : Int64), (0 : Int64), (0 : Int64), (0 : Int64)] from rfl] at V328
    have N329 := Fr.snoc X328 N325 ge265
    have Z330 : n0 ≤ h328.size := by rw [W328.size]; exact Z326
    have V331 := V327.other W328 ne264
    refine own_dup X328 hx (hb hby at_224) rfl 225 rfl ?_
    refine own_bipush X328 hx (hb hby at_225) (16 : Int32) rfl 227 rfl ?_
    refine own_ldc2Long X328 hx hown (mvT hZ (own_w hw 20 rfl)) (hb hby at_227) 230 rfl ?_
    refine own_lastore X328 hx hZ e328 V328 16 rfl (by simp) (hb hby at_230) 231 rfl (fun T332 h332 X332 e332 W332 V332 => ?_)
    rw [show [(1 : Int64), (10 : Int64), (100 : Int64), (1000 : Int64), (10000 : Int64), (100000 : Int64), (1000000 : Int64), (10000000 : Int64), (100000000 : Int64), (1000000000 : Int64), (10000000000 : Int64), (100000000000 : Int64), (1000000000000 : Int64), (10000000000000 : Int64), (100000000000000 : Int64), (1000000000000000 : Int64), (0 : Int64), (0 : Int64), (0 : Int64)].set 16 (10000000000000000 : Int64) = [(1 : Int64), (10 : Int64), (100 : Int64), (1000 : Int64), (10000 : Int64), (100000 : Int64), (1000000 : Int64), (10000000 : Int64), (100000000 : Int64), (1000000000 : Int64), (10000000000 : Int64), (100000000000 : Int64), (1000000000000 : Int64), (10000000000000 : Int64), (100000000000000 : Int64), (1000000000000000 : Int64), (10000000000000000 : Int64), (0 : Int64), (0 : Int64)] from rfl] at V332
    have N333 := Fr.snoc X332 N329 ge265
    have Z334 : n0 ≤ h332.size := by rw [W332.size]; exact Z330
    have V335 := V331.other W332 ne264
    refine own_dup X332 hx (hb hby at_231) rfl 232 rfl ?_
    refine own_bipush X332 hx (hb hby at_232) (17 : Int32) rfl 234 rfl ?_
    refine own_ldc2Long X332 hx hown (mvT hZ (own_w hw 21 rfl)) (hb hby at_234) 237 rfl ?_
    refine own_lastore X332 hx hZ e332 V332 17 rfl (by simp) (hb hby at_237) 238 rfl (fun T336 h336 X336 e336 W336 V336 => ?_)
    rw [show [(1 : Int64), (10 : Int64), (100 : Int64), (1000 : Int64), (10000 : Int64), (100000 : Int64), (1000000 : Int64), (10000000 : Int64), (100000000 : Int64), (1000000000 : Int64), (10000000000 : Int64), (100000000000 : Int64), (1000000000000 : Int64), (10000000000000 : Int64), (100000000000000 : Int64), (1000000000000000 : Int64), (10000000000000000 : Int64), (0 : Int64), (0 : Int64)].set 17 (100000000000000000 : Int64) = [(1 : Int64), (10 : Int64), (100 : Int64), (1000 : Int64), (10000 : Int64), (100000 : Int64), (1000000 : Int64), (10000000 : Int64), (100000000 : Int64), (1000000000 : Int64), (10000000000 : Int64), (100000000000 : Int64), (1000000000000 : Int64), (10000000000000 : Int64), (100000000000000 : Int64), (1000000000000000 : Int64), (10000000000000000 : Int64), (100000000000000000 : Int64), (0 : Int64)] from rfl] at V336
    have N337 := Fr.snoc X336 N333 ge265
    have Z338 : n0 ≤ h336.size := by rw [W336.size]; exact Z334
    have V339 := V335.other W336 ne264
    refine own_dup X336 hx (hb hby at_238) rfl 239 rfl ?_
    refine own_bipush X336 hx (hb hby at_239) (18 : Int32) rfl 241 rfl ?_
    refine own_ldc2Long X336 hx hown (mvT hZ (own_w hw 1 rfl)) (hb hby at_241) 244 rfl ?_
    refine own_lastore X336 hx hZ e336 V336 18 rfl (by simp) (hb hby at_244) 245 rfl (fun T340 h340 X340 e340 W340 V340 => ?_)
    rw [show [(1 : Int64), (10 : Int64), (100 : Int64), (1000 : Int64), (10000 : Int64), (100000 : Int64), (1000000 : Int64), (10000000 : Int64), (100000000 : Int64), (1000000000 : Int64), (10000000000 : Int64), (100000000000 : Int64), (1000000000000 : Int64), (10000000000000 : Int64), (100000000000000 : Int64), (1000000000000000 : Int64), (10000000000000000 : Int64), (100000000000000000 : Int64), (0 : Int64)].set 18 (1000000000000000000 : Int64) = [(1 : Int64), (10 : Int64), (100 : Int64), (1000 : Int64), (10000 : Int64), (100000 : Int64), (1000000 : Int64), (10000000 : Int64), (100000000 : Int64), (1000000000 : Int64), (10000000000 : Int64), (100000000000 : Int64), (1000000000000 : Int64), (10000000000000 : Int64), (100000000000000 : Int64), (1000000000000000 : Int64), (10000000000000000 : Int64), (100000000000000000 : Int64), (1000000000000000000 : Int64)] from rfl] at V340
    have N341 := Fr.snoc X340 N337 ge265
    have Z342 : n0 ≤ h340.size := by rw [W340.size]; exact Z338
    have V343 := V339.other W340 ne264
    refine own_astore X340 hx (hb hby at_245) rfl #[.val (.long v0), .second, .val (.int v1), .val (.int v2), .val (.int v3), .val (.long (Int64.ofNat nn)), .second, .val (.int (Int32.ofNat ni)), .val (.int (1 : Int32)), .val (.int (19 : Int32)), .val (.int (Int32.ofNat (19 - ni))), .val (.int y229), .val (.ref a230), .val (.ref a263)] rfl 247 rfl ?_
    refine own_aload X340 hx (hb hby at_247) rfl rfl 249 rfl ?_
    refine own_iload X340 hx (hb hby at_249) rfl 251 rfl ?_
    refine own_iconst X340 hx (hb hby at_251) (1 : Int32) rfl 252 rfl ?_
    refine own_isub X340 hx (hb hby at_252) 253 rfl ?_
    show own_Go p e below G (T340.setTop (mkF m 253 #[.val (.long v0), .second, .val (.int v1), .val (.int v2), .val (.int v3), .val (.long (Int64.ofNat nn)), .second, .val (.int (Int32.ofNat ni)), .val (.int (1 : Int32)), .val (.int (19 : Int32)), .val (.int (Int32.ofNat (19 - ni))), .val (.int y229), .val (.ref a230), .val (.ref a263)] [(.int (18 : Int32)), (.ref a230)]))
    refine own_lload X340 hx (hb hby at_253) rfl 255 rfl ?_
    refine own_aload X340 hx (hb hby at_255) rfl rfl 257 rfl ?_
    refine own_iconst X340 hx (hb hby at_257) (0 : Int32) rfl 258 rfl ?_
    refine own_laload X340 hx hZ e340 V340 0 rfl (1 : Int64) rfl (hb hby at_258) 259 rfl ?_
    refine own_callS X340 hx hZ hown (own_w hw 22 rfl) (own_w hw 23 rfl) (own_w hw 24 rfl) (own_w hw 25 rfl) (by decide) e340 (rm1 l Z a0 hw [] nn 0 (1 : Int64) h340 n0 hnn (by decide) (by decide)) (by rw [hml]; rfl) pd_0 (argsL := [(.long (Int64.ofNat nn)), (.long (1 : Int64))]) rfl (rest := [(.int (18 : Int32)), (.ref a230)]) rfl (hb hby at_259) 2 (Nat.le_of_eq rfl) (by decide) (by decide) (by decide) (by decide) 262 rfl (fun T344 L344 v344 X344 hQ344 => ?_)
    obtain ⟨rfl, N344, e344⟩ := hQ344
    have N345 := Fr.app N341 N344
    show own_Go p e below G (T344.setTop (mkF m 262 #[.val (.long v0), .second, .val (.int v1), .val (.int v2), .val (.int v3), .val (.long (Int64.ofNat nn)), .second, .val (.int (Int32.ofNat ni)), .val (.int (1 : Int32)), .val (.int (19 : Int32)), .val (.int (Int32.ofNat (19 - ni))), .val (.int y229), .val (.ref a230), .val (.ref a263)] [(.int (own_d nn 0)), (.int (18 : Int32)), (.ref a230)]))
    refine own_bastore X344 hx hZ e344 V343 18 rfl (by simp) (hb hby at_262) 263 rfl (fun T346 h346 X346 e346 W346 V346 => ?_)
    rw [show [y229, y229, y229, y229, (0 : Int32), (0 : Int32), (0 : Int32), (0 : Int32), (0 : Int32), (0 : Int32), (0 : Int32), (0 : Int32), (0 : Int32), (0 : Int32), (0 : Int32), (0 : Int32), (0 : Int32), (0 : Int32), y229, y229, y229, y229, y229, y229].set 18 ((own_d nn 0).toInt8.toInt32) = [y229, y229, y229, y229, (0 : Int32), (0 : Int32), (0 : Int32), (0 : Int32), (0 : Int32), (0 : Int32), (0 : Int32), (0 : Int32), (0 : Int32), (0 : Int32), (0 : Int32), (0 : Int32), (0 : Int32), (0 : Int32), (own_d nn 0), y229, y229, y229, y229, y229] from (by rw [own_d8]; rfl)] at V346
    have N347 := Fr.snoc X346 N345 ge231
    have Z348 : n0 ≤ h346.size := by rw [W346.size]; exact Z342
    have V349 := V340.other W346 (Ne.symm ne264)
    refine own_aload X346 hx (hb hby at_263) rfl rfl 265 rfl ?_
    refine own_iload X346 hx (hb hby at_265) rfl 267 rfl ?_
    refine own_iconst X346 hx (hb hby at_267) (2 : Int32) rfl 268 rfl ?_
    refine own_isub X346 hx (hb hby at_268) 269 rfl ?_
    show own_Go p e below G (T346.setTop (mkF m 269 #[.val (.long v0), .second, .val (.int v1), .val (.int v2), .val (.int v3), .val (.long (Int64.ofNat nn)), .second, .val (.int (Int32.ofNat ni)), .val (.int (1 : Int32)), .val (.int (19 : Int32)), .val (.int (Int32.ofNat (19 - ni))), .val (.int y229), .val (.ref a230), .val (.ref a263)] [(.int (17 : Int32)), (.ref a230)]))
    refine own_lload X346 hx (hb hby at_269) rfl 271 rfl ?_
    refine own_aload X346 hx (hb hby at_271) rfl rfl 273 rfl ?_
    refine own_iconst X346 hx (hb hby at_273) (1 : Int32) rfl 274 rfl ?_
    refine own_laload X346 hx hZ e346 V349 1 rfl (10 : Int64) rfl (hb hby at_274) 275 rfl ?_
    refine own_callS X346 hx hZ hown (own_w hw 22 rfl) (own_w hw 23 rfl) (own_w hw 24 rfl) (own_w hw 25 rfl) (by decide) e346 (rm1 l Z a0 hw [] nn 1 (10 : Int64) h346 n0 hnn (by decide) (by decide)) (by rw [hml]; rfl) pd_0 (argsL := [(.long (Int64.ofNat nn)), (.long (10 : Int64))]) rfl (rest := [(.int (17 : Int32)), (.ref a230)]) rfl (hb hby at_275) 2 (Nat.le_of_eq rfl) (by decide) (by decide) (by decide) (by decide) 278 rfl (fun T350 L350 v350 X350 hQ350 => ?_)
    obtain ⟨rfl, N350, e350⟩ := hQ350
    have N351 := Fr.app N347 N350
    show own_Go p e below G (T350.setTop (mkF m 278 #[.val (.long v0), .second, .val (.int v1), .val (.int v2), .val (.int v3), .val (.long (Int64.ofNat nn)), .second, .val (.int (Int32.ofNat ni)), .val (.int (1 : Int32)), .val (.int (19 : Int32)), .val (.int (Int32.ofNat (19 - ni))), .val (.int y229), .val (.ref a230), .val (.ref a263)] [(.int (own_d nn 1)), (.int (17 : Int32)), (.ref a230)]))
    refine own_bastore X350 hx hZ e350 V346 17 rfl (by simp) (hb hby at_278) 279 rfl (fun T352 h352 X352 e352 W352 V352 => ?_)
    rw [show [y229, y229, y229, y229, (0 : Int32), (0 : Int32), (0 : Int32), (0 : Int32), (0 : Int32), (0 : Int32), (0 : Int32), (0 : Int32), (0 : Int32), (0 : Int32), (0 : Int32), (0 : Int32), (0 : Int32), (0 : Int32), (own_d nn 0), y229, y229, y229, y229, y229].set 17 ((own_d nn 1).toInt8.toInt32) = [y229, y229, y229, y229, (0 : Int32), (0 : Int32), (0 : Int32), (0 : Int32), (0 : Int32), (0 : Int32), (0 : Int32), (0 : Int32), (0 : Int32), (0 : Int32), (0 : Int32), (0 : Int32), (0 : Int32), (own_d nn 1), (own_d nn 0), y229, y229, y229, y229, y229] from (by rw [own_d8]; rfl)] at V352
    have N353 := Fr.snoc X352 N351 ge231
    have Z354 : n0 ≤ h352.size := by rw [W352.size]; exact Z348
    have V355 := V349.other W352 (Ne.symm ne264)
    refine own_aload X352 hx (hb hby at_279) rfl rfl 281 rfl ?_
    refine own_iload X352 hx (hb hby at_281) rfl 283 rfl ?_
    refine own_iconst X352 hx (hb hby at_283) (3 : Int32) rfl 284 rfl ?_
    refine own_isub X352 hx (hb hby at_284) 285 rfl ?_
    show own_Go p e below G (T352.setTop (mkF m 285 #[.val (.long v0), .second, .val (.int v1), .val (.int v2), .val (.int v3), .val (.long (Int64.ofNat nn)), .second, .val (.int (Int32.ofNat ni)), .val (.int (1 : Int32)), .val (.int (19 : Int32)), .val (.int (Int32.ofNat (19 - ni))), .val (.int y229), .val (.ref a230), .val (.ref a263)] [(.int (16 : Int32)), (.ref a230)]))
    refine own_lload X352 hx (hb hby at_285) rfl 287 rfl ?_
    refine own_aload X352 hx (hb hby at_287) rfl rfl 289 rfl ?_
    refine own_iconst X352 hx (hb hby at_289) (2 : Int32) rfl 290 rfl ?_
    refine own_laload X352 hx hZ e352 V355 2 rfl (100 : Int64) rfl (hb hby at_290) 291 rfl ?_
    refine own_callS X352 hx hZ hown (own_w hw 22 rfl) (own_w hw 23 rfl) (own_w hw 24 rfl) (own_w hw 25 rfl) (by decide) e352 (rm1 l Z a0 hw [] nn 2 (100 : Int64) h352 n0 hnn (by decide) (by decide)) (by rw [hml]; rfl) pd_0 (argsL := [(.long (Int64.ofNat nn)), (.long (100 : Int64))]) rfl (rest := [(.int (16 : Int32)), (.ref a230)]) rfl (hb hby at_291) 2 (Nat.le_of_eq rfl) (by decide) (by decide) (by decide) (by decide) 294 rfl (fun T356 L356 v356 X356 hQ356 => ?_)
    obtain ⟨rfl, N356, e356⟩ := hQ356
    have N357 := Fr.app N353 N356
    show own_Go p e below G (T356.setTop (mkF m 294 #[.val (.long v0), .second, .val (.int v1), .val (.int v2), .val (.int v3), .val (.long (Int64.ofNat nn)), .second, .val (.int (Int32.ofNat ni)), .val (.int (1 : Int32)), .val (.int (19 : Int32)), .val (.int (Int32.ofNat (19 - ni))), .val (.int y229), .val (.ref a230), .val (.ref a263)] [(.int (own_d nn 2)), (.int (16 : Int32)), (.ref a230)]))
    refine own_bastore X356 hx hZ e356 V352 16 rfl (by simp) (hb hby at_294) 295 rfl (fun T358 h358 X358 e358 W358 V358 => ?_)
    rw [show [y229, y229, y229, y229, (0 : Int32), (0 : Int32), (0 : Int32), (0 : Int32), (0 : Int32), (0 : Int32), (0 : Int32), (0 : Int32), (0 : Int32), (0 : Int32), (0 : Int32), (0 : Int32), (0 : Int32), (own_d nn 1), (own_d nn 0), y229, y229, y229, y229, y229].set 16 ((own_d nn 2).toInt8.toInt32) = [y229, y229, y229, y229, (0 : Int32), (0 : Int32), (0 : Int32), (0 : Int32), (0 : Int32), (0 : Int32), (0 : Int32), (0 : Int32), (0 : Int32), (0 : Int32), (0 : Int32), (0 : Int32), (own_d nn 2), (own_d nn 1), (own_d nn 0), y229, y229, y229, y229, y229] from (by rw [own_d8]; rfl)] at V358
    have N359 := Fr.snoc X358 N357 ge231
    have Z360 : n0 ≤ h358.size := by rw [W358.size]; exact Z354
    have V361 := V355.other W358 (Ne.symm ne264)
    refine own_aload X358 hx (hb hby at_295) rfl rfl 297 rfl ?_
    refine own_iload X358 hx (hb hby at_297) rfl 299 rfl ?_
    refine own_iconst X358 hx (hb hby at_299) (4 : Int32) rfl 300 rfl ?_
    refine own_isub X358 hx (hb hby at_300) 301 rfl ?_
    show own_Go p e below G (T358.setTop (mkF m 301 #[.val (.long v0), .second, .val (.int v1), .val (.int v2), .val (.int v3), .val (.long (Int64.ofNat nn)), .second, .val (.int (Int32.ofNat ni)), .val (.int (1 : Int32)), .val (.int (19 : Int32)), .val (.int (Int32.ofNat (19 - ni))), .val (.int y229), .val (.ref a230), .val (.ref a263)] [(.int (15 : Int32)), (.ref a230)]))
    refine own_lload X358 hx (hb hby at_301) rfl 303 rfl ?_
    refine own_aload X358 hx (hb hby at_303) rfl rfl 305 rfl ?_
    refine own_iconst X358 hx (hb hby at_305) (3 : Int32) rfl 306 rfl ?_
    refine own_laload X358 hx hZ e358 V361 3 rfl (1000 : Int64) rfl (hb hby at_306) 307 rfl ?_
    refine own_callS X358 hx hZ hown (own_w hw 22 rfl) (own_w hw 23 rfl) (own_w hw 24 rfl) (own_w hw 25 rfl) (by decide) e358 (rm1 l Z a0 hw [] nn 3 (1000 : Int64) h358 n0 hnn (by decide) (by decide)) (by rw [hml]; rfl) pd_0 (argsL := [(.long (Int64.ofNat nn)), (.long (1000 : Int64))]) rfl (rest := [(.int (15 : Int32)), (.ref a230)]) rfl (hb hby at_307) 2 (Nat.le_of_eq rfl) (by decide) (by decide) (by decide) (by decide) 310 rfl (fun T362 L362 v362 X362 hQ362 => ?_)
    obtain ⟨rfl, N362, e362⟩ := hQ362
    have N363 := Fr.app N359 N362
    show own_Go p e below G (T362.setTop (mkF m 310 #[.val (.long v0), .second, .val (.int v1), .val (.int v2), .val (.int v3), .val (.long (Int64.ofNat nn)), .second, .val (.int (Int32.ofNat ni)), .val (.int (1 : Int32)), .val (.int (19 : Int32)), .val (.int (Int32.ofNat (19 - ni))), .val (.int y229), .val (.ref a230), .val (.ref a263)] [(.int (own_d nn 3)), (.int (15 : Int32)), (.ref a230)]))
    refine own_bastore X362 hx hZ e362 V358 15 rfl (by simp) (hb hby at_310) 311 rfl (fun T364 h364 X364 e364 W364 V364 => ?_)
    rw [show [y229, y229, y229, y229, (0 : Int32), (0 : Int32), (0 : Int32), (0 : Int32), (0 : Int32), (0 : Int32), (0 : Int32), (0 : Int32), (0 : Int32), (0 : Int32), (0 : Int32), (0 : Int32), (own_d nn 2), (own_d nn 1), (own_d nn 0), y229, y229, y229, y229, y229].set 15 ((own_d nn 3).toInt8.toInt32) = [y229, y229, y229, y229, (0 : Int32), (0 : Int32), (0 : Int32), (0 : Int32), (0 : Int32), (0 : Int32), (0 : Int32), (0 : Int32), (0 : Int32), (0 : Int32), (0 : Int32), (own_d nn 3), (own_d nn 2), (own_d nn 1), (own_d nn 0), y229, y229, y229, y229, y229] from (by rw [own_d8]; rfl)] at V364
    have N365 := Fr.snoc X364 N363 ge231
    have Z366 : n0 ≤ h364.size := by rw [W364.size]; exact Z360
    have V367 := V361.other W364 (Ne.symm ne264)
    refine own_aload X364 hx (hb hby at_311) rfl rfl 313 rfl ?_
    refine own_iload X364 hx (hb hby at_313) rfl 315 rfl ?_
    refine own_iconst X364 hx (hb hby at_315) (5 : Int32) rfl 316 rfl ?_
    refine own_isub X364 hx (hb hby at_316) 317 rfl ?_
    show own_Go p e below G (T364.setTop (mkF m 317 #[.val (.long v0), .second, .val (.int v1), .val (.int v2), .val (.int v3), .val (.long (Int64.ofNat nn)), .second, .val (.int (Int32.ofNat ni)), .val (.int (1 : Int32)), .val (.int (19 : Int32)), .val (.int (Int32.ofNat (19 - ni))), .val (.int y229), .val (.ref a230), .val (.ref a263)] [(.int (14 : Int32)), (.ref a230)]))
    refine own_lload X364 hx (hb hby at_317) rfl 319 rfl ?_
    refine own_aload X364 hx (hb hby at_319) rfl rfl 321 rfl ?_
    refine own_iconst X364 hx (hb hby at_321) (4 : Int32) rfl 322 rfl ?_
    refine own_laload X364 hx hZ e364 V367 4 rfl (10000 : Int64) rfl (hb hby at_322) 323 rfl ?_
    refine own_callS X364 hx hZ hown (own_w hw 22 rfl) (own_w hw 23 rfl) (own_w hw 24 rfl) (own_w hw 25 rfl) (by decide) e364 (rm1 l Z a0 hw [] nn 4 (10000 : Int64) h364 n0 hnn (by decide) (by decide)) (by rw [hml]; rfl) pd_0 (argsL := [(.long (Int64.ofNat nn)), (.long (10000 : Int64))]) rfl (rest := [(.int (14 : Int32)), (.ref a230)]) rfl (hb hby at_323) 2 (Nat.le_of_eq rfl) (by decide) (by decide) (by decide) (by decide) 326 rfl (fun T368 L368 v368 X368 hQ368 => ?_)
    obtain ⟨rfl, N368, e368⟩ := hQ368
    have N369 := Fr.app N365 N368
    show own_Go p e below G (T368.setTop (mkF m 326 #[.val (.long v0), .second, .val (.int v1), .val (.int v2), .val (.int v3), .val (.long (Int64.ofNat nn)), .second, .val (.int (Int32.ofNat ni)), .val (.int (1 : Int32)), .val (.int (19 : Int32)), .val (.int (Int32.ofNat (19 - ni))), .val (.int y229), .val (.ref a230), .val (.ref a263)] [(.int (own_d nn 4)), (.int (14 : Int32)), (.ref a230)]))
    refine own_bastore X368 hx hZ e368 V364 14 rfl (by simp) (hb hby at_326) 327 rfl (fun T370 h370 X370 e370 W370 V370 => ?_)
    rw [show [y229, y229, y229, y229, (0 : Int32), (0 : Int32), (0 : Int32), (0 : Int32), (0 : Int32), (0 : Int32), (0 : Int32), (0 : Int32), (0 : Int32), (0 : Int32), (0 : Int32), (own_d nn 3), (own_d nn 2), (own_d nn 1), (own_d nn 0), y229, y229, y229, y229, y229].set 14 ((own_d nn 4).toInt8.toInt32) = [y229, y229, y229, y229, (0 : Int32), (0 : Int32), (0 : Int32), (0 : Int32), (0 : Int32), (0 : Int32), (0 : Int32), (0 : Int32), (0 : Int32), (0 : Int32), (own_d nn 4), (own_d nn 3), (own_d nn 2), (own_d nn 1), (own_d nn 0), y229, y229, y229, y229, y229] from (by rw [own_d8]; rfl)] at V370
    have N371 := Fr.snoc X370 N369 ge231
    have Z372 : n0 ≤ h370.size := by rw [W370.size]; exact Z366
    have V373 := V367.other W370 (Ne.symm ne264)
    refine own_aload X370 hx (hb hby at_327) rfl rfl 329 rfl ?_
    refine own_iload X370 hx (hb hby at_329) rfl 331 rfl ?_
    refine own_bipush X370 hx (hb hby at_331) (6 : Int32) rfl 333 rfl ?_
    refine own_isub X370 hx (hb hby at_333) 334 rfl ?_
    show own_Go p e below G (T370.setTop (mkF m 334 #[.val (.long v0), .second, .val (.int v1), .val (.int v2), .val (.int v3), .val (.long (Int64.ofNat nn)), .second, .val (.int (Int32.ofNat ni)), .val (.int (1 : Int32)), .val (.int (19 : Int32)), .val (.int (Int32.ofNat (19 - ni))), .val (.int y229), .val (.ref a230), .val (.ref a263)] [(.int (13 : Int32)), (.ref a230)]))
    refine own_lload X370 hx (hb hby at_334) rfl 336 rfl ?_
    refine own_aload X370 hx (hb hby at_336) rfl rfl 338 rfl ?_
    refine own_iconst X370 hx (hb hby at_338) (5 : Int32) rfl 339 rfl ?_
    refine own_laload X370 hx hZ e370 V373 5 rfl (100000 : Int64) rfl (hb hby at_339) 340 rfl ?_
    refine own_callS X370 hx hZ hown (own_w hw 22 rfl) (own_w hw 23 rfl) (own_w hw 24 rfl) (own_w hw 25 rfl) (by decide) e370 (rm1 l Z a0 hw [] nn 5 (100000 : Int64) h370 n0 hnn (by decide) (by decide)) (by rw [hml]; rfl) pd_0 (argsL := [(.long (Int64.ofNat nn)), (.long (100000 : Int64))]) rfl (rest := [(.int (13 : Int32)), (.ref a230)]) rfl (hb hby at_340) 2 (Nat.le_of_eq rfl) (by decide) (by decide) (by decide) (by decide) 343 rfl (fun T374 L374 v374 X374 hQ374 => ?_)
    obtain ⟨rfl, N374, e374⟩ := hQ374
    have N375 := Fr.app N371 N374
    show own_Go p e below G (T374.setTop (mkF m 343 #[.val (.long v0), .second, .val (.int v1), .val (.int v2), .val (.int v3), .val (.long (Int64.ofNat nn)), .second, .val (.int (Int32.ofNat ni)), .val (.int (1 : Int32)), .val (.int (19 : Int32)), .val (.int (Int32.ofNat (19 - ni))), .val (.int y229), .val (.ref a230), .val (.ref a263)] [(.int (own_d nn 5)), (.int (13 : Int32)), (.ref a230)]))
    refine own_bastore X374 hx hZ e374 V370 13 rfl (by simp) (hb hby at_343) 344 rfl (fun T376 h376 X376 e376 W376 V376 => ?_)
    rw [show [y229, y229, y229, y229, (0 : Int32), (0 : Int32), (0 : Int32), (0 : Int32), (0 : Int32), (0 : Int32), (0 : Int32), (0 : Int32), (0 : Int32), (0 : Int32), (own_d nn 4), (own_d nn 3), (own_d nn 2), (own_d nn 1), (own_d nn 0), y229, y229, y229, y229, y229].set 13 ((own_d nn 5).toInt8.toInt32) = [y229, y229, y229, y229, (0 : Int32), (0 : Int32), (0 : Int32), (0 : Int32), (0 : Int32), (0 : Int32), (0 : Int32), (0 : Int32), (0 : Int32), (own_d nn 5), (own_d nn 4), (own_d nn 3), (own_d nn 2), (own_d nn 1), (own_d nn 0), y229, y229, y229, y229, y229] from (by rw [own_d8]; rfl)] at V376
    have N377 := Fr.snoc X376 N375 ge231
    have Z378 : n0 ≤ h376.size := by rw [W376.size]; exact Z372
    have V379 := V373.other W376 (Ne.symm ne264)
    refine own_aload X376 hx (hb hby at_344) rfl rfl 346 rfl ?_
    refine own_iload X376 hx (hb hby at_346) rfl 348 rfl ?_
    refine own_bipush X376 hx (hb hby at_348) (7 : Int32) rfl 350 rfl ?_
    refine own_isub X376 hx (hb hby at_350) 351 rfl ?_
    show own_Go p e below G (T376.setTop (mkF m 351 #[.val (.long v0), .second, .val (.int v1), .val (.int v2), .val (.int v3), .val (.long (Int64.ofNat nn)), .second, .val (.int (Int32.ofNat ni)), .val (.int (1 : Int32)), .val (.int (19 : Int32)), .val (.int (Int32.ofNat (19 - ni))), .val (.int y229), .val (.ref a230), .val (.ref a263)] [(.int (12 : Int32)), (.ref a230)]))
    refine own_lload X376 hx (hb hby at_351) rfl 353 rfl ?_
    refine own_aload X376 hx (hb hby at_353) rfl rfl 355 rfl ?_
    refine own_bipush X376 hx (hb hby at_355) (6 : Int32) rfl 357 rfl ?_
    refine own_laload X376 hx hZ e376 V379 6 rfl (1000000 : Int64) rfl (hb hby at_357) 358 rfl ?_
    refine own_callS X376 hx hZ hown (own_w hw 22 rfl) (own_w hw 23 rfl) (own_w hw 24 rfl) (own_w hw 25 rfl) (by decide) e376 (rm1 l Z a0 hw [] nn 6 (1000000 : Int64) h376 n0 hnn (by decide) (by decide)) (by rw [hml]; rfl) pd_0 (argsL := [(.long (Int64.ofNat nn)), (.long (1000000 : Int64))]) rfl (rest := [(.int (12 : Int32)), (.ref a230)]) rfl (hb hby at_358) 2 (Nat.le_of_eq rfl) (by decide) (by decide) (by decide) (by decide) 361 rfl (fun T380 L380 v380 X380 hQ380 => ?_)
    obtain ⟨rfl, N380, e380⟩ := hQ380
    have N381 := Fr.app N377 N380
    show own_Go p e below G (T380.setTop (mkF m 361 #[.val (.long v0), .second, .val (.int v1), .val (.int v2), .val (.int v3), .val (.long (Int64.ofNat nn)), .second, .val (.int (Int32.ofNat ni)), .val (.int (1 : Int32)), .val (.int (19 : Int32)), .val (.int (Int32.ofNat (19 - ni))), .val (.int y229), .val (.ref a230), .val (.ref a263)] [(.int (own_d nn 6)), (.int (12 : Int32)), (.ref a230)]))
    refine own_bastore X380 hx hZ e380 V376 12 rfl (by simp) (hb hby at_361) 362 rfl (fun T382 h382 X382 e382 W382 V382 => ?_)
    rw [show [y229, y229, y229, y229, (0 : Int32), (0 : Int32), (0 : Int32), (0 : Int32), (0 : Int32), (0 : Int32), (0 : Int32), (0 : Int32), (0 : Int32), (own_d nn 5), (own_d nn 4), (own_d nn 3), (own_d nn 2), (own_d nn 1), (own_d nn 0), y229, y229, y229, y229, y229].set 12 ((own_d nn 6).toInt8.toInt32) = [y229, y229, y229, y229, (0 : Int32), (0 : Int32), (0 : Int32), (0 : Int32), (0 : Int32), (0 : Int32), (0 : Int32), (0 : Int32), (own_d nn 6), (own_d nn 5), (own_d nn 4), (own_d nn 3), (own_d nn 2), (own_d nn 1), (own_d nn 0), y229, y229, y229, y229, y229] from (by rw [own_d8]; rfl)] at V382
    have N383 := Fr.snoc X382 N381 ge231
    have Z384 : n0 ≤ h382.size := by rw [W382.size]; exact Z378
    have V385 := V379.other W382 (Ne.symm ne264)
    refine own_aload X382 hx (hb hby at_362) rfl rfl 364 rfl ?_
    refine own_iload X382 hx (hb hby at_364) rfl 366 rfl ?_
    refine own_bipush X382 hx (hb hby at_366) (8 : Int32) rfl 368 rfl ?_
    refine own_isub X382 hx (hb hby at_368) 369 rfl ?_
    show own_Go p e below G (T382.setTop (mkF m 369 #[.val (.long v0), .second, .val (.int v1), .val (.int v2), .val (.int v3), .val (.long (Int64.ofNat nn)), .second, .val (.int (Int32.ofNat ni)), .val (.int (1 : Int32)), .val (.int (19 : Int32)), .val (.int (Int32.ofNat (19 - ni))), .val (.int y229), .val (.ref a230), .val (.ref a263)] [(.int (11 : Int32)), (.ref a230)]))
    refine own_lload X382 hx (hb hby at_369) rfl 371 rfl ?_
    refine own_aload X382 hx (hb hby at_371) rfl rfl 373 rfl ?_
    refine own_bipush X382 hx (hb hby at_373) (7 : Int32) rfl 375 rfl ?_
    refine own_laload X382 hx hZ e382 V385 7 rfl (10000000 : Int64) rfl (hb hby at_375) 376 rfl ?_
    refine own_callS X382 hx hZ hown (own_w hw 22 rfl) (own_w hw 23 rfl) (own_w hw 24 rfl) (own_w hw 25 rfl) (by decide) e382 (rm1 l Z a0 hw [] nn 7 (10000000 : Int64) h382 n0 hnn (by decide) (by decide)) (by rw [hml]; rfl) pd_0 (argsL := [(.long (Int64.ofNat nn)), (.long (10000000 : Int64))]) rfl (rest := [(.int (11 : Int32)), (.ref a230)]) rfl (hb hby at_376) 2 (Nat.le_of_eq rfl) (by decide) (by decide) (by decide) (by decide) 379 rfl (fun T386 L386 v386 X386 hQ386 => ?_)
    obtain ⟨rfl, N386, e386⟩ := hQ386
    have N387 := Fr.app N383 N386
    show own_Go p e below G (T386.setTop (mkF m 379 #[.val (.long v0), .second, .val (.int v1), .val (.int v2), .val (.int v3), .val (.long (Int64.ofNat nn)), .second, .val (.int (Int32.ofNat ni)), .val (.int (1 : Int32)), .val (.int (19 : Int32)), .val (.int (Int32.ofNat (19 - ni))), .val (.int y229), .val (.ref a230), .val (.ref a263)] [(.int (own_d nn 7)), (.int (11 : Int32)), (.ref a230)]))
    refine own_bastore X386 hx hZ e386 V382 11 rfl (by simp) (hb hby at_379) 380 rfl (fun T388 h388 X388 e388 W388 V388 => ?_)
    rw [show [y229, y229, y229, y229, (0 : Int32), (0 : Int32), (0 : Int32), (0 : Int32), (0 : Int32), (0 : Int32), (0 : Int32), (0 : Int32), (own_d nn 6), (own_d nn 5), (own_d nn 4), (own_d nn 3), (own_d nn 2), (own_d nn 1), (own_d nn 0), y229, y229, y229, y229, y229].set 11 ((own_d nn 7).toInt8.toInt32) = [y229, y229, y229, y229, (0 : Int32), (0 : Int32), (0 : Int32), (0 : Int32), (0 : Int32), (0 : Int32), (0 : Int32), (own_d nn 7), (own_d nn 6), (own_d nn 5), (own_d nn 4), (own_d nn 3), (own_d nn 2), (own_d nn 1), (own_d nn 0), y229, y229, y229, y229, y229] from (by rw [own_d8]; rfl)] at V388
    have N389 := Fr.snoc X388 N387 ge231
    have Z390 : n0 ≤ h388.size := by rw [W388.size]; exact Z384
    have V391 := V385.other W388 (Ne.symm ne264)
    refine own_aload X388 hx (hb hby at_380) rfl rfl 382 rfl ?_
    refine own_iload X388 hx (hb hby at_382) rfl 384 rfl ?_
    refine own_bipush X388 hx (hb hby at_384) (9 : Int32) rfl 386 rfl ?_
    refine own_isub X388 hx (hb hby at_386) 387 rfl ?_
    show own_Go p e below G (T388.setTop (mkF m 387 #[.val (.long v0), .second, .val (.int v1), .val (.int v2), .val (.int v3), .val (.long (Int64.ofNat nn)), .second, .val (.int (Int32.ofNat ni)), .val (.int (1 : Int32)), .val (.int (19 : Int32)), .val (.int (Int32.ofNat (19 - ni))), .val (.int y229), .val (.ref a230), .val (.ref a263)] [(.int (10 : Int32)), (.ref a230)]))
    refine own_lload X388 hx (hb hby at_387) rfl 389 rfl ?_
    refine own_aload X388 hx (hb hby at_389) rfl rfl 391 rfl ?_
    refine own_bipush X388 hx (hb hby at_391) (8 : Int32) rfl 393 rfl ?_
    refine own_laload X388 hx hZ e388 V391 8 rfl (100000000 : Int64) rfl (hb hby at_393) 394 rfl ?_
    refine own_callS X388 hx hZ hown (own_w hw 22 rfl) (own_w hw 23 rfl) (own_w hw 24 rfl) (own_w hw 25 rfl) (by decide) e388 (rm1 l Z a0 hw [] nn 8 (100000000 : Int64) h388 n0 hnn (by decide) (by decide)) (by rw [hml]; rfl) pd_0 (argsL := [(.long (Int64.ofNat nn)), (.long (100000000 : Int64))]) rfl (rest := [(.int (10 : Int32)), (.ref a230)]) rfl (hb hby at_394) 2 (Nat.le_of_eq rfl) (by decide) (by decide) (by decide) (by decide) 397 rfl (fun T392 L392 v392 X392 hQ392 => ?_)
    obtain ⟨rfl, N392, e392⟩ := hQ392
    have N393 := Fr.app N389 N392
    show own_Go p e below G (T392.setTop (mkF m 397 #[.val (.long v0), .second, .val (.int v1), .val (.int v2), .val (.int v3), .val (.long (Int64.ofNat nn)), .second, .val (.int (Int32.ofNat ni)), .val (.int (1 : Int32)), .val (.int (19 : Int32)), .val (.int (Int32.ofNat (19 - ni))), .val (.int y229), .val (.ref a230), .val (.ref a263)] [(.int (own_d nn 8)), (.int (10 : Int32)), (.ref a230)]))
    refine own_bastore X392 hx hZ e392 V388 10 rfl (by simp) (hb hby at_397) 398 rfl (fun T394 h394 X394 e394 W394 V394 => ?_)
    rw [show [y229, y229, y229, y229, (0 : Int32), (0 : Int32), (0 : Int32), (0 : Int32), (0 : Int32), (0 : Int32), (0 : Int32), (own_d nn 7), (own_d nn 6), (own_d nn 5), (own_d nn 4), (own_d nn 3), (own_d nn 2), (own_d nn 1), (own_d nn 0), y229, y229, y229, y229, y229].set 10 ((own_d nn 8).toInt8.toInt32) = [y229, y229, y229, y229, (0 : Int32), (0 : Int32), (0 : Int32), (0 : Int32), (0 : Int32), (0 : Int32), (own_d nn 8), (own_d nn 7), (own_d nn 6), (own_d nn 5), (own_d nn 4), (own_d nn 3), (own_d nn 2), (own_d nn 1), (own_d nn 0), y229, y229, y229, y229, y229] from (by rw [own_d8]; rfl)] at V394
    have N395 := Fr.snoc X394 N393 ge231
    have Z396 : n0 ≤ h394.size := by rw [W394.size]; exact Z390
    have V397 := V391.other W394 (Ne.symm ne264)
    refine own_aload X394 hx (hb hby at_398) rfl rfl 400 rfl ?_
    refine own_iload X394 hx (hb hby at_400) rfl 402 rfl ?_
    refine own_bipush X394 hx (hb hby at_402) (10 : Int32) rfl 404 rfl ?_
    refine own_isub X394 hx (hb hby at_404) 405 rfl ?_
    show own_Go p e below G (T394.setTop (mkF m 405 #[.val (.long v0), .second, .val (.int v1), .val (.int v2), .val (.int v3), .val (.long (Int64.ofNat nn)), .second, .val (.int (Int32.ofNat ni)), .val (.int (1 : Int32)), .val (.int (19 : Int32)), .val (.int (Int32.ofNat (19 - ni))), .val (.int y229), .val (.ref a230), .val (.ref a263)] [(.int (9 : Int32)), (.ref a230)]))
    refine own_lload X394 hx (hb hby at_405) rfl 407 rfl ?_
    refine own_aload X394 hx (hb hby at_407) rfl rfl 409 rfl ?_
    refine own_bipush X394 hx (hb hby at_409) (9 : Int32) rfl 411 rfl ?_
    refine own_laload X394 hx hZ e394 V397 9 rfl (1000000000 : Int64) rfl (hb hby at_411) 412 rfl ?_
    refine own_callS X394 hx hZ hown (own_w hw 22 rfl) (own_w hw 23 rfl) (own_w hw 24 rfl) (own_w hw 25 rfl) (by decide) e394 (rm1 l Z a0 hw [] nn 9 (1000000000 : Int64) h394 n0 hnn (by decide) (by decide)) (by rw [hml]; rfl) pd_0 (argsL := [(.long (Int64.ofNat nn)), (.long (1000000000 : Int64))]) rfl (rest := [(.int (9 : Int32)), (.ref a230)]) rfl (hb hby at_412) 2 (Nat.le_of_eq rfl) (by decide) (by decide) (by decide) (by decide) 415 rfl (fun T398 L398 v398 X398 hQ398 => ?_)
    obtain ⟨rfl, N398, e398⟩ := hQ398
    have N399 := Fr.app N395 N398
    show own_Go p e below G (T398.setTop (mkF m 415 #[.val (.long v0), .second, .val (.int v1), .val (.int v2), .val (.int v3), .val (.long (Int64.ofNat nn)), .second, .val (.int (Int32.ofNat ni)), .val (.int (1 : Int32)), .val (.int (19 : Int32)), .val (.int (Int32.ofNat (19 - ni))), .val (.int y229), .val (.ref a230), .val (.ref a263)] [(.int (own_d nn 9)), (.int (9 : Int32)), (.ref a230)]))
    refine own_bastore X398 hx hZ e398 V394 9 rfl (by simp) (hb hby at_415) 416 rfl (fun T400 h400 X400 e400 W400 V400 => ?_)
    rw [show [y229, y229, y229, y229, (0 : Int32), (0 : Int32), (0 : Int32), (0 : Int32), (0 : Int32), (0 : Int32), (own_d nn 8), (own_d nn 7), (own_d nn 6), (own_d nn 5), (own_d nn 4), (own_d nn 3), (own_d nn 2), (own_d nn 1), (own_d nn 0), y229, y229, y229, y229, y229].set 9 ((own_d nn 9).toInt8.toInt32) = [y229, y229, y229, y229, (0 : Int32), (0 : Int32), (0 : Int32), (0 : Int32), (0 : Int32), (own_d nn 9), (own_d nn 8), (own_d nn 7), (own_d nn 6), (own_d nn 5), (own_d nn 4), (own_d nn 3), (own_d nn 2), (own_d nn 1), (own_d nn 0), y229, y229, y229, y229, y229] from (by rw [own_d8]; rfl)] at V400
    have N401 := Fr.snoc X400 N399 ge231
    have Z402 : n0 ≤ h400.size := by rw [W400.size]; exact Z396
    have V403 := V397.other W400 (Ne.symm ne264)
    refine own_aload X400 hx (hb hby at_416) rfl rfl 418 rfl ?_
    refine own_iload X400 hx (hb hby at_418) rfl 420 rfl ?_
    refine own_bipush X400 hx (hb hby at_420) (11 : Int32) rfl 422 rfl ?_
    refine own_isub X400 hx (hb hby at_422) 423 rfl ?_
    show own_Go p e below G (T400.setTop (mkF m 423 #[.val (.long v0), .second, .val (.int v1), .val (.int v2), .val (.int v3), .val (.long (Int64.ofNat nn)), .second, .val (.int (Int32.ofNat ni)), .val (.int (1 : Int32)), .val (.int (19 : Int32)), .val (.int (Int32.ofNat (19 - ni))), .val (.int y229), .val (.ref a230), .val (.ref a263)] [(.int (8 : Int32)), (.ref a230)]))
    refine own_lload X400 hx (hb hby at_423) rfl 425 rfl ?_
    refine own_aload X400 hx (hb hby at_425) rfl rfl 427 rfl ?_
    refine own_bipush X400 hx (hb hby at_427) (10 : Int32) rfl 429 rfl ?_
    refine own_laload X400 hx hZ e400 V403 10 rfl (10000000000 : Int64) rfl (hb hby at_429) 430 rfl ?_
    refine own_callS X400 hx hZ hown (own_w hw 22 rfl) (own_w hw 23 rfl) (own_w hw 24 rfl) (own_w hw 25 rfl) (by decide) e400 (rm1 l Z a0 hw [] nn 10 (10000000000 : Int64) h400 n0 hnn (by decide) (by decide)) (by rw [hml]; rfl) pd_0 (argsL := [(.long (Int64.ofNat nn)), (.long (10000000000 : Int64))]) rfl (rest := [(.int (8 : Int32)), (.ref a230)]) rfl (hb hby at_430) 2 (Nat.le_of_eq rfl) (by decide) (by decide) (by decide) (by decide) 433 rfl (fun T404 L404 v404 X404 hQ404 => ?_)
    obtain ⟨rfl, N404, e404⟩ := hQ404
    have N405 := Fr.app N401 N404
    show own_Go p e below G (T404.setTop (mkF m 433 #[.val (.long v0), .second, .val (.int v1), .val (.int v2), .val (.int v3), .val (.long (Int64.ofNat nn)), .second, .val (.int (Int32.ofNat ni)), .val (.int (1 : Int32)), .val (.int (19 : Int32)), .val (.int (Int32.ofNat (19 - ni))), .val (.int y229), .val (.ref a230), .val (.ref a263)] [(.int (own_d nn 10)), (.int (8 : Int32)), (.ref a230)]))
    refine own_bastore X404 hx hZ e404 V400 8 rfl (by simp) (hb hby at_433) 434 rfl (fun T406 h406 X406 e406 W406 V406 => ?_)
    rw [show [y229, y229, y229, y229, (0 : Int32), (0 : Int32), (0 : Int32), (0 : Int32), (0 : Int32), (own_d nn 9), (own_d nn 8), (own_d nn 7), (own_d nn 6), (own_d nn 5), (own_d nn 4), (own_d nn 3), (own_d nn 2), (own_d nn 1), (own_d nn 0), y229, y229, y229, y229, y229].set 8 ((own_d nn 10).toInt8.toInt32) = [y229, y229, y229, y229, (0 : Int32), (0 : Int32), (0 : Int32), (0 : Int32), (own_d nn 10), (own_d nn 9), (own_d nn 8), (own_d nn 7), (own_d nn 6), (own_d nn 5), (own_d nn 4), (own_d nn 3), (own_d nn 2), (own_d nn 1), (own_d nn 0), y229, y229, y229, y229, y229] from (by rw [own_d8]; rfl)] at V406
    have N407 := Fr.snoc X406 N405 ge231
    have Z408 : n0 ≤ h406.size := by rw [W406.size]; exact Z402
    have V409 := V403.other W406 (Ne.symm ne264)
    refine own_aload X406 hx (hb hby at_434) rfl rfl 436 rfl ?_
    refine own_iload X406 hx (hb hby at_436) rfl 438 rfl ?_
    refine own_bipush X406 hx (hb hby at_438) (12 : Int32) rfl 440 rfl ?_
    refine own_isub X406 hx (hb hby at_440) 441 rfl ?_
    show own_Go p e below G (T406.setTop (mkF m 441 #[.val (.long v0), .second, .val (.int v1), .val (.int v2), .val (.int v3), .val (.long (Int64.ofNat nn)), .second, .val (.int (Int32.ofNat ni)), .val (.int (1 : Int32)), .val (.int (19 : Int32)), .val (.int (Int32.ofNat (19 - ni))), .val (.int y229), .val (.ref a230), .val (.ref a263)] [(.int (7 : Int32)), (.ref a230)]))
    refine own_lload X406 hx (hb hby at_441) rfl 443 rfl ?_
    refine own_aload X406 hx (hb hby at_443) rfl rfl 445 rfl ?_
    refine own_bipush X406 hx (hb hby at_445) (11 : Int32) rfl 447 rfl ?_
    refine own_laload X406 hx hZ e406 V409 11 rfl (100000000000 : Int64) rfl (hb hby at_447) 448 rfl ?_
    refine own_callS X406 hx hZ hown (own_w hw 22 rfl) (own_w hw 23 rfl) (own_w hw 24 rfl) (own_w hw 25 rfl) (by decide) e406 (rm1 l Z a0 hw [] nn 11 (100000000000 : Int64) h406 n0 hnn (by decide) (by decide)) (by rw [hml]; rfl) pd_0 (argsL := [(.long (Int64.ofNat nn)), (.long (100000000000 : Int64))]) rfl (rest := [(.int (7 : Int32)), (.ref a230)]) rfl (hb hby at_448) 2 (Nat.le_of_eq rfl) (by decide) (by decide) (by decide) (by decide) 451 rfl (fun T410 L410 v410 X410 hQ410 => ?_)
    obtain ⟨rfl, N410, e410⟩ := hQ410
    have N411 := Fr.app N407 N410
    show own_Go p e below G (T410.setTop (mkF m 451 #[.val (.long v0), .second, .val (.int v1), .val (.int v2), .val (.int v3), .val (.long (Int64.ofNat nn)), .second, .val (.int (Int32.ofNat ni)), .val (.int (1 : Int32)), .val (.int (19 : Int32)), .val (.int (Int32.ofNat (19 - ni))), .val (.int y229), .val (.ref a230), .val (.ref a263)] [(.int (own_d nn 11)), (.int (7 : Int32)), (.ref a230)]))
    refine own_bastore X410 hx hZ e410 V406 7 rfl (by simp) (hb hby at_451) 452 rfl (fun T412 h412 X412 e412 W412 V412 => ?_)
    rw [show [y229, y229, y229, y229, (0 : Int32), (0 : Int32), (0 : Int32), (0 : Int32), (own_d nn 10), (own_d nn 9), (own_d nn 8), (own_d nn 7), (own_d nn 6), (own_d nn 5), (own_d nn 4), (own_d nn 3), (own_d nn 2), (own_d nn 1), (own_d nn 0), y229, y229, y229, y229, y229].set 7 ((own_d nn 11).toInt8.toInt32) = [y229, y229, y229, y229, (0 : Int32), (0 : Int32), (0 : Int32), (own_d nn 11), (own_d nn 10), (own_d nn 9), (own_d nn 8), (own_d nn 7), (own_d nn 6), (own_d nn 5), (own_d nn 4), (own_d nn 3), (own_d nn 2), (own_d nn 1), (own_d nn 0), y229, y229, y229, y229, y229] from (by rw [own_d8]; rfl)] at V412
    have N413 := Fr.snoc X412 N411 ge231
    have Z414 : n0 ≤ h412.size := by rw [W412.size]; exact Z408
    have V415 := V409.other W412 (Ne.symm ne264)
    refine own_aload X412 hx (hb hby at_452) rfl rfl 454 rfl ?_
    refine own_iload X412 hx (hb hby at_454) rfl 456 rfl ?_
    refine own_bipush X412 hx (hb hby at_456) (13 : Int32) rfl 458 rfl ?_
    refine own_isub X412 hx (hb hby at_458) 459 rfl ?_
    show own_Go p e below G (T412.setTop (mkF m 459 #[.val (.long v0), .second, .val (.int v1), .val (.int v2), .val (.int v3), .val (.long (Int64.ofNat nn)), .second, .val (.int (Int32.ofNat ni)), .val (.int (1 : Int32)), .val (.int (19 : Int32)), .val (.int (Int32.ofNat (19 - ni))), .val (.int y229), .val (.ref a230), .val (.ref a263)] [(.int (6 : Int32)), (.ref a230)]))
    refine own_lload X412 hx (hb hby at_459) rfl 461 rfl ?_
    refine own_aload X412 hx (hb hby at_461) rfl rfl 463 rfl ?_
    refine own_bipush X412 hx (hb hby at_463) (12 : Int32) rfl 465 rfl ?_
    refine own_laload X412 hx hZ e412 V415 12 rfl (1000000000000 : Int64) rfl (hb hby at_465) 466 rfl ?_
    refine own_callS X412 hx hZ hown (own_w hw 22 rfl) (own_w hw 23 rfl) (own_w hw 24 rfl) (own_w hw 25 rfl) (by decide) e412 (rm1 l Z a0 hw [] nn 12 (1000000000000 : Int64) h412 n0 hnn (by decide) (by decide)) (by rw [hml]; rfl) pd_0 (argsL := [(.long (Int64.ofNat nn)), (.long (1000000000000 : Int64))]) rfl (rest := [(.int (6 : Int32)), (.ref a230)]) rfl (hb hby at_466) 2 (Nat.le_of_eq rfl) (by decide) (by decide) (by decide) (by decide) 469 rfl (fun T416 L416 v416 X416 hQ416 => ?_)
    obtain ⟨rfl, N416, e416⟩ := hQ416
    have N417 := Fr.app N413 N416
    show own_Go p e below G (T416.setTop (mkF m 469 #[.val (.long v0), .second, .val (.int v1), .val (.int v2), .val (.int v3), .val (.long (Int64.ofNat nn)), .second, .val (.int (Int32.ofNat ni)), .val (.int (1 : Int32)), .val (.int (19 : Int32)), .val (.int (Int32.ofNat (19 - ni))), .val (.int y229), .val (.ref a230), .val (.ref a263)] [(.int (own_d nn 12)), (.int (6 : Int32)), (.ref a230)]))
    refine own_bastore X416 hx hZ e416 V412 6 rfl (by simp) (hb hby at_469) 470 rfl (fun T418 h418 X418 e418 W418 V418 => ?_)
    rw [show [y229, y229, y229, y229, (0 : Int32), (0 : Int32), (0 : Int32), (own_d nn 11), (own_d nn 10), (own_d nn 9), (own_d nn 8), (own_d nn 7), (own_d nn 6), (own_d nn 5), (own_d nn 4), (own_d nn 3), (own_d nn 2), (own_d nn 1), (own_d nn 0), y229, y229, y229, y229, y229].set 6 ((own_d nn 12).toInt8.toInt32) = [y229, y229, y229, y229, (0 : Int32), (0 : Int32), (own_d nn 12), (own_d nn 11), (own_d nn 10), (own_d nn 9), (own_d nn 8), (own_d nn 7), (own_d nn 6), (own_d nn 5), (own_d nn 4), (own_d nn 3), (own_d nn 2), (own_d nn 1), (own_d nn 0), y229, y229, y229, y229, y229] from (by rw [own_d8]; rfl)] at V418
    have N419 := Fr.snoc X418 N417 ge231
    have Z420 : n0 ≤ h418.size := by rw [W418.size]; exact Z414
    have V421 := V415.other W418 (Ne.symm ne264)
    refine own_aload X418 hx (hb hby at_470) rfl rfl 472 rfl ?_
    refine own_iload X418 hx (hb hby at_472) rfl 474 rfl ?_
    refine own_bipush X418 hx (hb hby at_474) (14 : Int32) rfl 476 rfl ?_
    refine own_isub X418 hx (hb hby at_476) 477 rfl ?_
    show own_Go p e below G (T418.setTop (mkF m 477 #[.val (.long v0), .second, .val (.int v1), .val (.int v2), .val (.int v3), .val (.long (Int64.ofNat nn)), .second, .val (.int (Int32.ofNat ni)), .val (.int (1 : Int32)), .val (.int (19 : Int32)), .val (.int (Int32.ofNat (19 - ni))), .val (.int y229), .val (.ref a230), .val (.ref a263)] [(.int (5 : Int32)), (.ref a230)]))
    refine own_lload X418 hx (hb hby at_477) rfl 479 rfl ?_
    refine own_aload X418 hx (hb hby at_479) rfl rfl 481 rfl ?_
    refine own_bipush X418 hx (hb hby at_481) (13 : Int32) rfl 483 rfl ?_
    refine own_laload X418 hx hZ e418 V421 13 rfl (10000000000000 : Int64) rfl (hb hby at_483) 484 rfl ?_
    refine own_callS X418 hx hZ hown (own_w hw 22 rfl) (own_w hw 23 rfl) (own_w hw 24 rfl) (own_w hw 25 rfl) (by decide) e418 (rm1 l Z a0 hw [] nn 13 (10000000000000 : Int64) h418 n0 hnn (by decide) (by decide)) (by rw [hml]; rfl) pd_0 (argsL := [(.long (Int64.ofNat nn)), (.long (10000000000000 : Int64))]) rfl (rest := [(.int (5 : Int32)), (.ref a230)]) rfl (hb hby at_484) 2 (Nat.le_of_eq rfl) (by decide) (by decide) (by decide) (by decide) 487 rfl (fun T422 L422 v422 X422 hQ422 => ?_)
    obtain ⟨rfl, N422, e422⟩ := hQ422
    have N423 := Fr.app N419 N422
    show own_Go p e below G (T422.setTop (mkF m 487 #[.val (.long v0), .second, .val (.int v1), .val (.int v2), .val (.int v3), .val (.long (Int64.ofNat nn)), .second, .val (.int (Int32.ofNat ni)), .val (.int (1 : Int32)), .val (.int (19 : Int32)), .val (.int (Int32.ofNat (19 - ni))), .val (.int y229), .val (.ref a230), .val (.ref a263)] [(.int (own_d nn 13)), (.int (5 : Int32)), (.ref a230)]))
    refine own_bastore X422 hx hZ e422 V418 5 rfl (by simp) (hb hby at_487) 488 rfl (fun T424 h424 X424 e424 W424 V424 => ?_)
    rw [show [y229, y229, y229, y229, (0 : Int32), (0 : Int32), (own_d nn 12), (own_d nn 11), (own_d nn 10), (own_d nn 9), (own_d nn 8), (own_d nn 7), (own_d nn 6), (own_d nn 5), (own_d nn 4), (own_d nn 3), (own_d nn 2), (own_d nn 1), (own_d nn 0), y229, y229, y229, y229, y229].set 5 ((own_d nn 13).toInt8.toInt32) = [y229, y229, y229, y229, (0 : Int32), (own_d nn 13), (own_d nn 12), (own_d nn 11), (own_d nn 10), (own_d nn 9), (own_d nn 8), (own_d nn 7), (own_d nn 6), (own_d nn 5), (own_d nn 4), (own_d nn 3), (own_d nn 2), (own_d nn 1), (own_d nn 0), y229, y229, y229, y229, y229] from (by rw [own_d8]; rfl)] at V424
    have N425 := Fr.snoc X424 N423 ge231
    have Z426 : n0 ≤ h424.size := by rw [W424.size]; exact Z420
    have V427 := V421.other W424 (Ne.symm ne264)
    refine own_aload X424 hx (hb hby at_488) rfl rfl 490 rfl ?_
    refine own_iload X424 hx (hb hby at_490) rfl 492 rfl ?_
    refine own_bipush X424 hx (hb hby at_492) (15 : Int32) rfl 494 rfl ?_
    refine own_isub X424 hx (hb hby at_494) 495 rfl ?_
    show own_Go p e below G (T424.setTop (mkF m 495 #[.val (.long v0), .second, .val (.int v1), .val (.int v2), .val (.int v3), .val (.long (Int64.ofNat nn)), .second, .val (.int (Int32.ofNat ni)), .val (.int (1 : Int32)), .val (.int (19 : Int32)), .val (.int (Int32.ofNat (19 - ni))), .val (.int y229), .val (.ref a230), .val (.ref a263)] [(.int (4 : Int32)), (.ref a230)]))
    refine own_lload X424 hx (hb hby at_495) rfl 497 rfl ?_
    refine own_aload X424 hx (hb hby at_497) rfl rfl 499 rfl ?_
    refine own_bipush X424 hx (hb hby at_499) (14 : Int32) rfl 501 rfl ?_
    refine own_laload X424 hx hZ e424 V427 14 rfl (100000000000000 : Int64) rfl (hb hby at_501) 502 rfl ?_
    refine own_callS X424 hx hZ hown (own_w hw 22 rfl) (own_w hw 23 rfl) (own_w hw 24 rfl) (own_w hw 25 rfl) (by decide) e424 (rm1 l Z a0 hw [] nn 14 (100000000000000 : Int64) h424 n0 hnn (by decide) (by decide)) (by rw [hml]; rfl) pd_0 (argsL := [(.long (Int64.ofNat nn)), (.long (100000000000000 : Int64))]) rfl (rest := [(.int (4 : Int32)), (.ref a230)]) rfl (hb hby at_502) 2 (Nat.le_of_eq rfl) (by decide) (by decide) (by decide) (by decide) 505 rfl (fun T428 L428 v428 X428 hQ428 => ?_)
    obtain ⟨rfl, N428, e428⟩ := hQ428
    have N429 := Fr.app N425 N428
    show own_Go p e below G (T428.setTop (mkF m 505 #[.val (.long v0), .second, .val (.int v1), .val (.int v2), .val (.int v3), .val (.long (Int64.ofNat nn)), .second, .val (.int (Int32.ofNat ni)), .val (.int (1 : Int32)), .val (.int (19 : Int32)), .val (.int (Int32.ofNat (19 - ni))), .val (.int y229), .val (.ref a230), .val (.ref a263)] [(.int (own_d nn 14)), (.int (4 : Int32)), (.ref a230)]))
    refine own_bastore X428 hx hZ e428 V424 4 rfl (by simp) (hb hby at_505) 506 rfl (fun T430 h430 X430 e430 W430 V430 => ?_)
    rw [show [y229, y229, y229, y229, (0 : Int32), (own_d nn 13), (own_d nn 12), (own_d nn 11), (own_d nn 10), (own_d nn 9), (own_d nn 8), (own_d nn 7), (own_d nn 6), (own_d nn 5), (own_d nn 4), (own_d nn 3), (own_d nn 2), (own_d nn 1), (own_d nn 0), y229, y229, y229, y229, y229].set 4 ((own_d nn 14).toInt8.toInt32) = [y229, y229, y229, y229, (own_d nn 14), (own_d nn 13), (own_d nn 12), (own_d nn 11), (own_d nn 10), (own_d nn 9), (own_d nn 8), (own_d nn 7), (own_d nn 6), (own_d nn 5), (own_d nn 4), (own_d nn 3), (own_d nn 2), (own_d nn 1), (own_d nn 0), y229, y229, y229, y229, y229] from (by rw [own_d8]; rfl)] at V430
    have N431 := Fr.snoc X430 N429 ge231
    have Z432 : n0 ≤ h430.size := by rw [W430.size]; exact Z426
    have V433 := V427.other W430 (Ne.symm ne264)
    refine own_aload X430 hx (hb hby at_506) rfl rfl 508 rfl ?_
    refine own_iload X430 hx (hb hby at_508) rfl 510 rfl ?_
    refine own_bipush X430 hx (hb hby at_510) (16 : Int32) rfl 512 rfl ?_
    refine own_isub X430 hx (hb hby at_512) 513 rfl ?_
    show own_Go p e below G (T430.setTop (mkF m 513 #[.val (.long v0), .second, .val (.int v1), .val (.int v2), .val (.int v3), .val (.long (Int64.ofNat nn)), .second, .val (.int (Int32.ofNat ni)), .val (.int (1 : Int32)), .val (.int (19 : Int32)), .val (.int (Int32.ofNat (19 - ni))), .val (.int y229), .val (.ref a230), .val (.ref a263)] [(.int (3 : Int32)), (.ref a230)]))
    refine own_lload X430 hx (hb hby at_513) rfl 515 rfl ?_
    refine own_aload X430 hx (hb hby at_515) rfl rfl 517 rfl ?_
    refine own_bipush X430 hx (hb hby at_517) (15 : Int32) rfl 519 rfl ?_
    refine own_laload X430 hx hZ e430 V433 15 rfl (1000000000000000 : Int64) rfl (hb hby at_519) 520 rfl ?_
    refine own_callS X430 hx hZ hown (own_w hw 22 rfl) (own_w hw 23 rfl) (own_w hw 24 rfl) (own_w hw 25 rfl) (by decide) e430 (rm1 l Z a0 hw [] nn 15 (1000000000000000 : Int64) h430 n0 hnn (by decide) (by decide)) (by rw [hml]; rfl) pd_0 (argsL := [(.long (Int64.ofNat nn)), (.long (1000000000000000 : Int64))]) rfl (rest := [(.int (3 : Int32)), (.ref a230)]) rfl (hb hby at_520) 2 (Nat.le_of_eq rfl) (by decide) (by decide) (by decide) (by decide) 523 rfl (fun T434 L434 v434 X434 hQ434 => ?_)
    obtain ⟨rfl, N434, e434⟩ := hQ434
    have N435 := Fr.app N431 N434
    show own_Go p e below G (T434.setTop (mkF m 523 #[.val (.long v0), .second, .val (.int v1), .val (.int v2), .val (.int v3), .val (.long (Int64.ofNat nn)), .second, .val (.int (Int32.ofNat ni)), .val (.int (1 : Int32)), .val (.int (19 : Int32)), .val (.int (Int32.ofNat (19 - ni))), .val (.int y229), .val (.ref a230), .val (.ref a263)] [(.int (own_d nn 15)), (.int (3 : Int32)), (.ref a230)]))
    refine own_bastore X434 hx hZ e434 V430 3 rfl (by simp) (hb hby at_523) 524 rfl (fun T436 h436 X436 e436 W436 V436 => ?_)
    rw [show [y229, y229, y229, y229, (own_d nn 14), (own_d nn 13), (own_d nn 12), (own_d nn 11), (own_d nn 10), (own_d nn 9), (own_d nn 8), (own_d nn 7), (own_d nn 6), (own_d nn 5), (own_d nn 4), (own_d nn 3), (own_d nn 2), (own_d nn 1), (own_d nn 0), y229, y229, y229, y229, y229].set 3 ((own_d nn 15).toInt8.toInt32) = [y229, y229, y229, (own_d nn 15), (own_d nn 14), (own_d nn 13), (own_d nn 12), (own_d nn 11), (own_d nn 10), (own_d nn 9), (own_d nn 8), (own_d nn 7), (own_d nn 6), (own_d nn 5), (own_d nn 4), (own_d nn 3), (own_d nn 2), (own_d nn 1), (own_d nn 0), y229, y229, y229, y229, y229] from (by rw [own_d8]; rfl)] at V436
    have N437 := Fr.snoc X436 N435 ge231
    have Z438 : n0 ≤ h436.size := by rw [W436.size]; exact Z432
    have V439 := V433.other W436 (Ne.symm ne264)
    refine own_aload X436 hx (hb hby at_524) rfl rfl 526 rfl ?_
    refine own_iload X436 hx (hb hby at_526) rfl 528 rfl ?_
    refine own_bipush X436 hx (hb hby at_528) (17 : Int32) rfl 530 rfl ?_
    refine own_isub X436 hx (hb hby at_530) 531 rfl ?_
    show own_Go p e below G (T436.setTop (mkF m 531 #[.val (.long v0), .second, .val (.int v1), .val (.int v2), .val (.int v3), .val (.long (Int64.ofNat nn)), .second, .val (.int (Int32.ofNat ni)), .val (.int (1 : Int32)), .val (.int (19 : Int32)), .val (.int (Int32.ofNat (19 - ni))), .val (.int y229), .val (.ref a230), .val (.ref a263)] [(.int (2 : Int32)), (.ref a230)]))
    refine own_lload X436 hx (hb hby at_531) rfl 533 rfl ?_
    refine own_aload X436 hx (hb hby at_533) rfl rfl 535 rfl ?_
    refine own_bipush X436 hx (hb hby at_535) (16 : Int32) rfl 537 rfl ?_
    refine own_laload X436 hx hZ e436 V439 16 rfl (10000000000000000 : Int64) rfl (hb hby at_537) 538 rfl ?_
    refine own_callS X436 hx hZ hown (own_w hw 22 rfl) (own_w hw 23 rfl) (own_w hw 24 rfl) (own_w hw 25 rfl) (by decide) e436 (rm1 l Z a0 hw [] nn 16 (10000000000000000 : Int64) h436 n0 hnn (by decide) (by decide)) (by rw [hml]; rfl) pd_0 (argsL := [(.long (Int64.ofNat nn)), (.long (10000000000000000 : Int64))]) rfl (rest := [(.int (2 : Int32)), (.ref a230)]) rfl (hb hby at_538) 2 (Nat.le_of_eq rfl) (by decide) (by decide) (by decide) (by decide) 541 rfl (fun T440 L440 v440 X440 hQ440 => ?_)
    obtain ⟨rfl, N440, e440⟩ := hQ440
    have N441 := Fr.app N437 N440
    show own_Go p e below G (T440.setTop (mkF m 541 #[.val (.long v0), .second, .val (.int v1), .val (.int v2), .val (.int v3), .val (.long (Int64.ofNat nn)), .second, .val (.int (Int32.ofNat ni)), .val (.int (1 : Int32)), .val (.int (19 : Int32)), .val (.int (Int32.ofNat (19 - ni))), .val (.int y229), .val (.ref a230), .val (.ref a263)] [(.int (own_d nn 16)), (.int (2 : Int32)), (.ref a230)]))
    refine own_bastore X440 hx hZ e440 V436 2 rfl (by simp) (hb hby at_541) 542 rfl (fun T442 h442 X442 e442 W442 V442 => ?_)
    rw [show [y229, y229, y229, (own_d nn 15), (own_d nn 14), (own_d nn 13), (own_d nn 12), (own_d nn 11), (own_d nn 10), (own_d nn 9), (own_d nn 8), (own_d nn 7), (own_d nn 6), (own_d nn 5), (own_d nn 4), (own_d nn 3), (own_d nn 2), (own_d nn 1), (own_d nn 0), y229, y229, y229, y229, y229].set 2 ((own_d nn 16).toInt8.toInt32) = [y229, y229, (own_d nn 16), (own_d nn 15), (own_d nn 14), (own_d nn 13), (own_d nn 12), (own_d nn 11), (own_d nn 10), (own_d nn 9), (own_d nn 8), (own_d nn 7), (own_d nn 6), (own_d nn 5), (own_d nn 4), (own_d nn 3), (own_d nn 2), (own_d nn 1), (own_d nn 0), y229, y229, y229, y229, y229] from (by rw [own_d8]; rfl)] at V442
    have N443 := Fr.snoc X442 N441 ge231
    have Z444 : n0 ≤ h442.size := by rw [W442.size]; exact Z438
    have V445 := V439.other W442 (Ne.symm ne264)
    refine own_aload X442 hx (hb hby at_542) rfl rfl 544 rfl ?_
    refine own_iload X442 hx (hb hby at_544) rfl 546 rfl ?_
    refine own_bipush X442 hx (hb hby at_546) (18 : Int32) rfl 548 rfl ?_
    refine own_isub X442 hx (hb hby at_548) 549 rfl ?_
    show own_Go p e below G (T442.setTop (mkF m 549 #[.val (.long v0), .second, .val (.int v1), .val (.int v2), .val (.int v3), .val (.long (Int64.ofNat nn)), .second, .val (.int (Int32.ofNat ni)), .val (.int (1 : Int32)), .val (.int (19 : Int32)), .val (.int (Int32.ofNat (19 - ni))), .val (.int y229), .val (.ref a230), .val (.ref a263)] [(.int (1 : Int32)), (.ref a230)]))
    refine own_lload X442 hx (hb hby at_549) rfl 551 rfl ?_
    refine own_aload X442 hx (hb hby at_551) rfl rfl 553 rfl ?_
    refine own_bipush X442 hx (hb hby at_553) (17 : Int32) rfl 555 rfl ?_
    refine own_laload X442 hx hZ e442 V445 17 rfl (100000000000000000 : Int64) rfl (hb hby at_555) 556 rfl ?_
    refine own_callS X442 hx hZ hown (own_w hw 22 rfl) (own_w hw 23 rfl) (own_w hw 24 rfl) (own_w hw 25 rfl) (by decide) e442 (rm1 l Z a0 hw [] nn 17 (100000000000000000 : Int64) h442 n0 hnn (by decide) (by decide)) (by rw [hml]; rfl) pd_0 (argsL := [(.long (Int64.ofNat nn)), (.long (100000000000000000 : Int64))]) rfl (rest := [(.int (1 : Int32)), (.ref a230)]) rfl (hb hby at_556) 2 (Nat.le_of_eq rfl) (by decide) (by decide) (by decide) (by decide) 559 rfl (fun T446 L446 v446 X446 hQ446 => ?_)
    obtain ⟨rfl, N446, e446⟩ := hQ446
    have N447 := Fr.app N443 N446
    show own_Go p e below G (T446.setTop (mkF m 559 #[.val (.long v0), .second, .val (.int v1), .val (.int v2), .val (.int v3), .val (.long (Int64.ofNat nn)), .second, .val (.int (Int32.ofNat ni)), .val (.int (1 : Int32)), .val (.int (19 : Int32)), .val (.int (Int32.ofNat (19 - ni))), .val (.int y229), .val (.ref a230), .val (.ref a263)] [(.int (own_d nn 17)), (.int (1 : Int32)), (.ref a230)]))
    refine own_bastore X446 hx hZ e446 V442 1 rfl (by simp) (hb hby at_559) 560 rfl (fun T448 h448 X448 e448 W448 V448 => ?_)
    rw [show [y229, y229, (own_d nn 16), (own_d nn 15), (own_d nn 14), (own_d nn 13), (own_d nn 12), (own_d nn 11), (own_d nn 10), (own_d nn 9), (own_d nn 8), (own_d nn 7), (own_d nn 6), (own_d nn 5), (own_d nn 4), (own_d nn 3), (own_d nn 2), (own_d nn 1), (own_d nn 0), y229, y229, y229, y229, y229].set 1 ((own_d nn 17).toInt8.toInt32) = [y229, (own_d nn 17), (own_d nn 16), (own_d nn 15), (own_d nn 14), (own_d nn 13), (own_d nn 12), (own_d nn 11), (own_d nn 10), (own_d nn 9), (own_d nn 8), (own_d nn 7), (own_d nn 6), (own_d nn 5), (own_d nn 4), (own_d nn 3), (own_d nn 2), (own_d nn 1), (own_d nn 0), y229, y229, y229, y229, y229] from (by rw [own_d8]; rfl)] at V448
    have N449 := Fr.snoc X448 N447 ge231
    have Z450 : n0 ≤ h448.size := by rw [W448.size]; exact Z444
    have V451 := V445.other W448 (Ne.symm ne264)
    refine own_aload X448 hx (hb hby at_560) rfl rfl 562 rfl ?_
    refine own_iload X448 hx (hb hby at_562) rfl 564 rfl ?_
    refine own_iload X448 hx (hb hby at_564) rfl 566 rfl ?_
    refine own_callS X448 hx hZ hown (own_w hw 27 rfl) (own_w hw 28 rfl) (own_w hw 29 rfl) (own_w hw 30 rfl) (by decide) e448 (rm2 l Z a0 hw [] a230 (19 - ni) 19 [y229, (own_d nn 17), (own_d nn 16), (own_d nn 15), (own_d nn 14), (own_d nn 13), (own_d nn 12), (own_d nn 11), (own_d nn 10), (own_d nn 9), (own_d nn 8), (own_d nn 7), (own_d nn 6), (own_d nn 5), (own_d nn 4), (own_d nn 3), (own_d nn 2), (own_d nn 1), (own_d nn 0), y229, y229, y229, y229, y229] h448 n0 (by omega) (by simp) V448) (by rw [hml]; rfl) pd_1 (argsL := [(.ref a230), (.int (Int32.ofNat (19 - ni))), (.int (19 : Int32))]) rfl (rest := []) rfl (hb hby at_566) 0 (Nat.le_of_eq rfl) (by decide) (by decide) (by decide) (by decide) 569 rfl (fun T452 L452 v452 X452 hQ452 => ?_)
    obtain ⟨rfl, N452, e452⟩ := hQ452
    have N453 := Fr.app N449 N452
    show own_Go p e below G (T452.setTop (mkF m 569 #[.val (.long v0), .second, .val (.int v1), .val (.int v2), .val (.int v3), .val (.long (Int64.ofNat nn)), .second, .val (.int (Int32.ofNat ni)), .val (.int (1 : Int32)), .val (.int (19 : Int32)), .val (.int (Int32.ofNat (19 - ni))), .val (.int y229), .val (.ref a230), .val (.ref a263)] [(.long ((own_slice [y229, (own_d nn 17), (own_d nn 16), (own_d nn 15), (own_d nn 14), (own_d nn 13), (own_d nn 12), (own_d nn 11), (own_d nn 10), (own_d nn 9), (own_d nn 8), (own_d nn 7), (own_d nn 6), (own_d nn 5), (own_d nn 4), (own_d nn 3), (own_d nn 2), (own_d nn 1), (own_d nn 0), y229, y229, y229, y229, y229] (19 - ni) 19).foldl own_lv 0))]))
    refine own_lload X452 hx (hb hby at_569) rfl 571 rfl ?_
    refine own_aload X452 hx (hb hby at_571) rfl rfl 573 rfl ?_
    refine own_iload X452 hx (hb hby at_573) rfl 575 rfl ?_
    refine own_laload X452 hx hZ e452 V451 ni rfl xx hxx (hb hby at_575) 576 rfl ?_
    refine own_lrem X452 hx (hb hby at_576) hxz 577 rfl ?_
    refine own_lcmp X452 hx (hb hby at_577) 578 rfl ?_
    have hsl : own_slice [y229, (own_d nn 17), (own_d nn 16), (own_d nn 15), (own_d nn 14), (own_d nn 13), (own_d nn 12), (own_d nn 11), (own_d nn 10), (own_d nn 9), (own_d nn 8), (own_d nn 7), (own_d nn 6), (own_d nn 5), (own_d nn 4), (own_d nn 3), (own_d nn 2), (own_d nn 1), (own_d nn 0), y229, y229, y229, y229, y229] (19 - ni) 19 = own_D nn ni := by
      have q : ni = 0 ∨ ni = 1 ∨ ni = 2 ∨ ni = 3 ∨ ni = 4 ∨ ni = 5 ∨ ni = 6 ∨ ni = 7 ∨ ni = 8 ∨ ni = 9 ∨ ni = 10 ∨ ni = 11 ∨ ni = 12 ∨ ni = 13 ∨ ni = 14 ∨ ni = 15 ∨ ni = 16 ∨ ni = 17 ∨ ni = 18 := by omega
      rcases q with rfl | rfl | rfl | rfl | rfl | rfl | rfl | rfl | rfl | rfl | rfl | rfl | rfl | rfl | rfl | rfl | rfl | rfl | rfl <;> rfl
    refine own_ifN X452 hx (hb hby at_578) (own_eqL (by rw [hsl]; exact own_end hnn hxi)).2 581 rfl ?_
    refine own_iconst X452 hx (hb hby at_581) (1 : Int32) rfl 582 rfl ?_
    refine own_goto X452 hx (hb hby at_582) 586 ⟨by decide, by decide⟩ ?_
    refine own_nreturn X452 hx Bd.notSynchronized hG Bd.returns (by simp) (hb hby at_586) (by decide) (by decide) ?_
    rw [e452]
    exact ⟨rfl, N453⟩
  ·
    refine own_iload X0 hx (hb hby at_25) rfl 27 rfl ?_
    refine own_bipush X0 hx (hb hby at_27) (18 : Int32) rfl 29 rfl ?_
    refine own_iadd X0 hx (hb hby at_29) 30 rfl ?_
    show own_Go p e below G (s₁.setTop (mkF m 30 #[.val (.long v0), .second, .val (.int v1), .val (.int v2), .val (.int v3), .val (.long (Int64.ofNat nn)), .second, .val (.int (Int32.ofNat ni)), .val (.int (2 : Int32)), .unset, .unset, .unset, .unset, .unset] [(.int (20 : Int32))]))
    refine own_istore X0 hx (hb hby at_30) #[.val (.long v0), .second, .val (.int v1), .val (.int v2), .val (.int v3), .val (.long (Int64.ofNat nn)), .second, .val (.int (Int32.ofNat ni)), .val (.int (2 : Int32)), .val (.int (20 : Int32)), .unset, .unset, .unset, .unset] rfl 32 rfl ?_
    refine own_iload X0 hx (hb hby at_32) rfl 34 rfl ?_
    refine own_iload X0 hx (hb hby at_34) rfl 36 rfl ?_
    refine own_isub X0 hx (hb hby at_36) 37 rfl ?_
    rw [show (20 : Int32) - Int32.ofNat ni = Int32.ofNat (20 - ni) from own_sub32 (i := ni) (j := 20) (by omega)]
    refine own_istore X0 hx (hb hby at_37) #[.val (.long v0), .second, .val (.int v1), .val (.int v2), .val (.int v3), .val (.long (Int64.ofNat nn)), .second, .val (.int (Int32.ofNat ni)), .val (.int (2 : Int32)), .val (.int (20 : Int32)), .val (.int (Int32.ofNat (20 - ni))), .unset, .unset, .unset] rfl 39 rfl ?_
    refine own_iload X0 hx (hb hby at_39) rfl 41 rfl ?_
    refine own_i2b X0 hx (hb hby at_41) 42 rfl ?_
    generalize hy454 : (v3).toInt8.toInt32 = y454
    refine own_istore X0 hx (hb hby at_42) #[.val (.long v0), .second, .val (.int v1), .val (.int v2), .val (.int v3), .val (.long (Int64.ofNat nn)), .second, .val (.int (Int32.ofNat ni)), .val (.int (2 : Int32)), .val (.int (20 : Int32)), .val (.int (Int32.ofNat (20 - ni))), .val (.int y454), .unset, .unset] rfl 44 rfl ?_
    refine own_bipush X0 hx (hb hby at_44) (24 : Int32) rfl 46 rfl ?_
    refine own_newB X0 hx hZ (own_w hw 3 rfl) e0 (hb hby at_46) 24 rfl 24 (by decide) (by decide) (by decide) (by decide) 48 rfl (fun T455 h455 a455 g455 X455 e455 E455 V455 => ?_)
    have ge456 : n0 ≤ a455 := by rw [g455]; exact Z0
    have Z457 : n0 ≤ h455.size := Nat.le_trans Z0 E455.1
    rw [show (List.replicate 24 (0 : Int32)) = [(0 : Int32), (0 : Int32), (0 : Int32), (0 : Int32), (0 : Int32), (0 : Int32), (0 : Int32), (0 : Int32), (0 : Int32), (0 : Int32), (0 : Int32), (0 : Int32), (0 : Int32), (0 : Int32), (0 : Int32), (0 : Int32), (0 : Int32), (0 : Int32), (0 : Int32), (0 : Int32), (0 : Int32), (0 : Int32), (0 : Int32), (0 : Int32)] from rfl] at V455
    refine own_astore X455 hx (hb hby at_48) rfl #[.val (.long v0), .second, .val (.int v1), .val (.int v2), .val (.int v3), .val (.long (Int64.ofNat nn)), .second, .val (.int (Int32.ofNat ni)), .val (.int (2 : Int32)), .val (.int (20 : Int32)), .val (.int (Int32.ofNat (20 - ni))), .val (.int y454), .val (.ref a455), .unset] rfl 50 rfl ?_
    refine own_aload X455 hx (hb hby at_50) rfl rfl 52 rfl ?_
    refine own_iconst X455 hx (hb hby at_52) (0 : Int32) rfl 53 rfl ?_
    refine own_iload X455 hx (hb hby at_53) rfl 55 rfl ?_
    refine own_bastore X455 hx hZ e455 V455 0 rfl (by simp) (hb hby at_55) 56 rfl (fun T458 h458 X458 e458 W458 V458 => ?_)
    rw [show [(0 : Int32), (0 : Int32), (0 : Int32), (0 : Int32), (0 : Int32), (0 : Int32), (0 : Int32), (0 : Int32), (0 : Int32), (0 : Int32), (0 : Int32), (0 : Int32), (0 : Int32), (0 : Int32), (0 : Int32), (0 : Int32), (0 : Int32), (0 : Int32), (0 : Int32), (0 : Int32), (0 : Int32), (0 : Int32), (0 : Int32), (0 : Int32)].set 0 (y454.toInt8.toInt32) = [y454, (0 : Int32), (0 : Int32), (0 : Int32), (0 : Int32), (0 : Int32), (0 : Int32), (0 : Int32), (0 : Int32), (0 : Int32), (0 : Int32), (0 : Int32), (0 : Int32), (0 : Int32), (0 : Int32), (0 : Int32), (0 : Int32), (0 : Int32), (0 : Int32), (0 : Int32), (0 : Int32), (0 : Int32), (0 : Int32), (0 : Int32)] from (by rw [own_b hy454]; rfl)] at V458
    have N459 := Fr.snoc X458 N0 ge456
    have Z460 : n0 ≤ h458.size := by rw [W458.size]; exact Z457
    refine own_aload X458 hx (hb hby at_56) rfl rfl 58 rfl ?_
    refine own_iconst X458 hx (hb hby at_58) (1 : Int32) rfl 59 rfl ?_
    refine own_iload X458 hx (hb hby at_59) rfl 61 rfl ?_
    refine own_bastore X458 hx hZ e458 V458 1 rfl (by simp) (hb hby at_61) 62 rfl (fun T461 h461 X461 e461 W461 V461 => ?_)
    rw [show [y454, (0 : Int32), (0 : Int32), (0 : Int32), (0 : Int32), (0 : Int32), (0 : Int32), (0 : Int32), (0 : Int32), (0 : Int32), (0 : Int32), (0 : Int32), (0 : Int32), (0 : Int32), (0 : Int32), (0 : Int32), (0 : Int32), (0 : Int32), (0 : Int32), (0 : Int32), (0 : Int32), (0 : Int32), (0 : Int32), (0 : Int32)].set 1 (y454.toInt8.toInt32) = [y454, y454, (0 : Int32), (0 : Int32), (0 : Int32), (0 : Int32), (0 : Int32), (0 : Int32), (0 : Int32), (0 : Int32), (0 : Int32), (0 : Int32), (0 : Int32), (0 : Int32), (0 : Int32), (0 : Int32), (0 : Int32), (0 : Int32), (0 : Int32), (0 : Int32), (0 : Int32), (0 : Int32), (0 : Int32), (0 : Int32)] from (by rw [own_b hy454]; rfl)] at V461
    have N462 := Fr.snoc X461 N459 ge456
    have Z463 : n0 ≤ h461.size := by rw [W461.size]; exact Z460
    refine own_aload X461 hx (hb hby at_62) rfl rfl 64 rfl ?_
    refine own_iconst X461 hx (hb hby at_64) (2 : Int32) rfl 65 rfl ?_
    refine own_iload X461 hx (hb hby at_65) rfl 67 rfl ?_
    refine own_bastore X461 hx hZ e461 V461 2 rfl (by simp) (hb hby at_67) 68 rfl (fun T464 h464 X464 e464 W464 V464 => ?_)
    rw [show [y454, y454, (0 : Int32), (0 : Int32), (0 : Int32), (0 : Int32), (0 : Int32), (0 : Int32), (0 : Int32), (0 : Int32), (0 : Int32), (0 : Int32), (0 : Int32), (0 : Int32), (0 : Int32), (0 : Int32), (0 : Int32), (0 : Int32), (0 : Int32), (0 : Int32), (0 : Int32), (0 : Int32), (0 : Int32), (0 : Int32)].set 2 (y454.toInt8.toInt32) = [y454, y454, y454, (0 : Int32), (0 : Int32), (0 : Int32), (0 : Int32), (0 : Int32), (0 : Int32), (0 : Int32), (0 : Int32), (0 : Int32), (0 : Int32), (0 : Int32), (0 : Int32), (0 : Int32), (0 : Int32), (0 : Int32), (0 : Int32), (0 : Int32), (0 : Int32), (0 : Int32), (0 : Int32), (0 : Int32)] from (by rw [own_b hy454]; rfl)] at V464
    have N465 := Fr.snoc X464 N462 ge456
    have Z466 : n0 ≤ h464.size := by rw [W464.size]; exact Z463
    refine own_aload X464 hx (hb hby at_68) rfl rfl 70 rfl ?_
    refine own_iconst X464 hx (hb hby at_70) (3 : Int32) rfl 71 rfl ?_
    refine own_iload X464 hx (hb hby at_71) rfl 73 rfl ?_
    refine own_bastore X464 hx hZ e464 V464 3 rfl (by simp) (hb hby at_73) 74 rfl (fun T467 h467 X467 e467 W467 V467 => ?_)
    rw [show [y454, y454, y454, (0 : Int32), (0 : Int32), (0 : Int32), (0 : Int32), (0 : Int32), (0 : Int32), (0 : Int32), (0 : Int32), (0 : Int32), (0 : Int32), (0 : Int32), (0 : Int32), (0 : Int32), (0 : Int32), (0 : Int32), (0 : Int32), (0 : Int32), (0 : Int32), (0 : Int32), (0 : Int32), (0 : Int32)].set 3 (y454.toInt8.toInt32) = [y454, y454, y454, y454, (0 : Int32), (0 : Int32), (0 : Int32), (0 : Int32), (0 : Int32), (0 : Int32), (0 : Int32), (0 : Int32), (0 : Int32), (0 : Int32), (0 : Int32), (0 : Int32), (0 : Int32), (0 : Int32), (0 : Int32), (0 : Int32), (0 : Int32), (0 : Int32), (0 : Int32), (0 : Int32)] from (by rw [own_b hy454]; rfl)] at V467
    have N468 := Fr.snoc X467 N465 ge456
    have Z469 : n0 ≤ h467.size := by rw [W467.size]; exact Z466
    refine own_aload X467 hx (hb hby at_74) rfl rfl 76 rfl ?_
    refine own_bipush X467 hx (hb hby at_76) (18 : Int32) rfl 78 rfl ?_
    refine own_iload X467 hx (hb hby at_78) rfl 80 rfl ?_
    refine own_bastore X467 hx hZ e467 V467 18 rfl (by simp) (hb hby at_80) 81 rfl (fun T470 h470 X470 e470 W470 V470 => ?_)
    rw [show [y454, y454, y454, y454, (0 : Int32), (0 : Int32), (0 : Int32), (0 : Int32), (0 : Int32), (0 : Int32), (0 : Int32), (0 : Int32), (0 : Int32), (0 : Int32), (0 : Int32), (0 : Int32), (0 : Int32), (0 : Int32), (0 : Int32), (0 : Int32), (0 : Int32), (0 : Int32), (0 : Int32), (0 : Int32)].set 18 (y454.toInt8.toInt32) = [y454, y454, y454, y454, (0 : Int32), (0 : Int32), (0 : Int32), (0 : Int32), (0 : Int32), (0 : Int32), (0 : Int32), (0 : Int32), (0 : Int32), (0 : Int32), (0 : Int32), (0 : Int32), (0 : Int32), (0 : Int32), y454, (0 : Int32), (0 : Int32), (0 : Int32), (0 : Int32), (0 : Int32)] from (by rw [own_b hy454]; rfl)] at V470
    have N471 := Fr.snoc X470 N468 ge456
    have Z472 : n0 ≤ h470.size := by rw [W470.size]; exact Z469
    refine own_aload X470 hx (hb hby at_81) rfl rfl 83 rfl ?_
    refine own_bipush X470 hx (hb hby at_83) (19 : Int32) rfl 85 rfl ?_
    refine own_iload X470 hx (hb hby at_85) rfl 87 rfl ?_
    refine own_bastore X470 hx hZ e470 V470 19 rfl (by simp) (hb hby at_87) 88 rfl (fun T473 h473 X473 e473 W473 V473 => ?_)
    rw [show [y454, y454, y454, y454, (0 : Int32), (0 : Int32), (0 : Int32), (0 : Int32), (0 : Int32), (0 : Int32), (0 : Int32), (0 : Int32), (0 : Int32), (0 : Int32), (0 : Int32), (0 : Int32), (0 : Int32), (0 : Int32), y454, (0 : Int32), (0 : Int32), (0 : Int32), (0 : Int32), (0 : Int32)].set 19 (y454.toInt8.toInt32) = [y454, y454, y454, y454, (0 : Int32), (0 : Int32), (0 : Int32), (0 : Int32), (0 : Int32), (0 : Int32), (0 : Int32), (0 : Int32), (0 : Int32), (0 : Int32), (0 : Int32), (0 : Int32), (0 : Int32), (0 : Int32), y454, y454, (0 : Int32), (0 : Int32), (0 : Int32), (0 : Int32)] from (by rw [own_b hy454]; rfl)] at V473
    have N474 := Fr.snoc X473 N471 ge456
    have Z475 : n0 ≤ h473.size := by rw [W473.size]; exact Z472
    refine own_aload X473 hx (hb hby at_88) rfl rfl 90 rfl ?_
    refine own_bipush X473 hx (hb hby at_90) (20 : Int32) rfl 92 rfl ?_
    refine own_iload X473 hx (hb hby at_92) rfl 94 rfl ?_
    refine own_bastore X473 hx hZ e473 V473 20 rfl (by simp) (hb hby at_94) 95 rfl (fun T476 h476 X476 e476 W476 V476 => ?_)
    rw [show [y454, y454, y454, y454, (0 : Int32), (0 : Int32), (0 : Int32), (0 : Int32), (0 : Int32), (0 : Int32), (0 : Int32), (0 : Int32), (0 : Int32), (0 : Int32), (0 : Int32), (0 : Int32), (0 : Int32), (0 : Int32), y454, y454, (0 : Int32), (0 : Int32), (0 : Int32), (0 : Int32)].set 20 (y454.toInt8.toInt32) = [y454, y454, y454, y454, (0 : Int32), (0 : Int32), (0 : Int32), (0 : Int32), (0 : Int32), (0 : Int32), (0 : Int32), (0 : Int32), (0 : Int32), (0 : Int32), (0 : Int32), (0 : Int32), (0 : Int32), (0 : Int32), y454, y454, y454, (0 : Int32), (0 : Int32), (0 : Int32)] from (by rw [own_b hy454]; rfl)] at V476
    have N477 := Fr.snoc X476 N474 ge456
    have Z478 : n0 ≤ h476.size := by rw [W476.size]; exact Z475
    refine own_aload X476 hx (hb hby at_95) rfl rfl 97 rfl ?_
    refine own_bipush X476 hx (hb hby at_97) (21 : Int32) rfl 99 rfl ?_
    refine own_iload X476 hx (hb hby at_99) rfl 101 rfl ?_
    refine own_bastore X476 hx hZ e476 V476 21 rfl (by simp) (hb hby at_101) 102 rfl (fun T479 h479 X479 e479 W479 V479 => ?_)
    rw [show [y454, y454, y454, y454, (0 : Int32), (0 : Int32), (0 : Int32), (0 : Int32), (0 : Int32), (0 : Int32), (0 : Int32), (0 : Int32), (0 : Int32), (0 : Int32), (0 : Int32), (0 : Int32), (0 : Int32), (0 : Int32), y454, y454, y454, (0 : Int32), (0 : Int32), (0 : Int32)].set 21 (y454.toInt8.toInt32) = [y454, y454, y454, y454, (0 : Int32), (0 : Int32), (0 : Int32), (0 : Int32), (0 : Int32), (0 : Int32), (0 : Int32), (0 : Int32), (0 : Int32), (0 : Int32), (0 : Int32), (0 : Int32), (0 : Int32), (0 : Int32), y454, y454, y454, y454, (0 : Int32), (0 : Int32)] from (by rw [own_b hy454]; rfl)] at V479
    have N480 := Fr.snoc X479 N477 ge456
    have Z481 : n0 ≤ h479.size := by rw [W479.size]; exact Z478
    refine own_aload X479 hx (hb hby at_102) rfl rfl 104 rfl ?_
    refine own_bipush X479 hx (hb hby at_104) (22 : Int32) rfl 106 rfl ?_
    refine own_iload X479 hx (hb hby at_106) rfl 108 rfl ?_
    refine own_bastore X479 hx hZ e479 V479 22 rfl (by simp) (hb hby at_108) 109 rfl (fun T482 h482 X482 e482 W482 V482 => ?_)
    rw [show [y454, y454, y454, y454, (0 : Int32), (0 : Int32), (0 : Int32), (0 : Int32), (0 : Int32), (0 : Int32), (0 : Int32), (0 : Int32), (0 : Int32), (0 : Int32), (0 : Int32), (0 : Int32), (0 : Int32), (0 : Int32), y454, y454, y454, y454, (0 : Int32), (0 : Int32)].set 22 (y454.toInt8.toInt32) = [y454, y454, y454, y454, (0 : Int32), (0 : Int32), (0 : Int32), (0 : Int32), (0 : Int32), (0 : Int32), (0 : Int32), (0 : Int32), (0 : Int32), (0 : Int32), (0 : Int32), (0 : Int32), (0 : Int32), (0 : Int32), y454, y454, y454, y454, y454, (0 : Int32)] from (by rw [own_b hy454]; rfl)] at V482
    have N483 := Fr.snoc X482 N480 ge456
    have Z484 : n0 ≤ h482.size := by rw [W482.size]; exact Z481
    refine own_aload X482 hx (hb hby at_109) rfl rfl 111 rfl ?_
    refine own_bipush X482 hx (hb hby at_111) (23 : Int32) rfl 113 rfl ?_
    refine own_iload X482 hx (hb hby at_113) rfl 115 rfl ?_
    refine own_bastore X482 hx hZ e482 V482 23 rfl (by simp) (hb hby at_115) 116 rfl (fun T485 h485 X485 e485 W485 V485 => ?_)
    rw [show [y454, y454, y454, y454, (0 : Int32), (0 : Int32), (0 : Int32), (0 : Int32), (0 : Int32), (0 : Int32), (0 : Int32), (0 : Int32), (0 : Int32), (0 : Int32), (0 : Int32), (0 : Int32), (0 : Int32), (0 : Int32), y454, y454, y454, y454, y454, (0 : Int32)].set 23 (y454.toInt8.toInt32) = [y454, y454, y454, y454, (0 : Int32), (0 : Int32), (0 : Int32), (0 : Int32), (0 : Int32), (0 : Int32), (0 : Int32), (0 : Int32), (0 : Int32), (0 : Int32), (0 : Int32), (0 : Int32), (0 : Int32), (0 : Int32), y454, y454, y454, y454, y454, y454] from (by rw [own_b hy454]; rfl)] at V485
    have N486 := Fr.snoc X485 N483 ge456
    have Z487 : n0 ≤ h485.size := by rw [W485.size]; exact Z484
    refine own_bipush X485 hx (hb hby at_116) (19 : Int32) rfl 118 rfl ?_
    refine own_newJ X485 hx hZ (own_w hw 4 rfl) e485 (hb hby at_118) 19 rfl 19 (by decide) (by decide) (by decide) (by decide) 120 rfl (fun T488 h488 a488 g488 X488 e488 E488 V488 => ?_)
    have ne489 : a455 ≠ a488 := by rw [g488]; exact Nat.ne_of_lt V485.lt
    have ge490 : n0 ≤ a488 := by rw [g488]; exact Z487
    have Z491 : n0 ≤ h488.size := Nat.le_trans Z487 E488.1
    have V492 := V485.ext E488
    rw [show (List.replicate 19 (0 : Int64)) = [(0 : Int64), (0 : Int64), (0 : Int64), (0 : Int64), (0 : Int64), (0 : Int64), (0 : Int64), (0 : Int64), (0 : Int64), (0 : Int64), (0 : Int64), (0 : Int64), (0 : Int64), (0 : Int64), (0 : Int64), (0 : Int64), (0 : Int64), (0 : Int64), (0 : Int64)] from rfl] at V488
    refine own_dup X488 hx (hb hby at_120) rfl 121 rfl ?_
    refine own_iconst X488 hx (hb hby at_121) (0 : Int32) rfl 122 rfl ?_
    refine own_lconst X488 hx (hb hby at_122) (1 : Int64) rfl 123 rfl ?_
    refine own_lastore X488 hx hZ e488 V488 0 rfl (by simp) (hb hby at_123) 124 rfl (fun T493 h493 X493 e493 W493 V493 => ?_)
    rw [show [(0 : Int64), (0 : Int64), (0 : Int64), (0 : Int64), (0 : Int64), (0 : Int64), (0 : Int64), (0 : Int64), (0 : Int64), (0 : Int64), (0 : Int64), (0 : Int64), (0 : Int64), (0 : Int64), (0 : Int64), (0 : Int64), (0 : Int64), (0 : Int64), (0 : Int64)].set 0 (1 : Int64) = [(1 : Int64), (0 : Int64), (0 : Int64), (0 : Int64), (0 : Int64), (0 : Int64), (0 : Int64), (0 : Int64), (0 : Int64), (0 : Int64), (0 : Int64), (0 : Int64), (0 : Int64), (0 : Int64), (0 : Int64), (0 : Int64), (0 : Int64), (0 : Int64), (0 : Int64)] from rfl] at V493
    have N494 := Fr.snoc X493 N486 ge490
    have Z495 : n0 ≤ h493.size := by rw [W493.size]; exact Z491
    have V496 := V492.other W493 ne489
    refine own_dup X493 hx (hb hby at_124) rfl 125 rfl ?_
    refine own_iconst X493 hx (hb hby at_125) (1 : Int32) rfl 126 rfl ?_
    refine own_ldc2Long X493 hx hown (mvT hZ (own_w hw 5 rfl)) (hb hby at_126) 129 rfl ?_
    refine own_lastore X493 hx hZ e493 V493 1 rfl (by simp) (hb hby at_129) 130 rfl (fun T497 h497 X497 e497 W497 V497 => ?_)
    rw [show [(1 : Int64), (0 : Int64), (0 : Int64), (0 : Int64), (0 : Int64), (0 : Int64), (0 : Int64), (0 : Int64), (0 : Int64), (0 : Int64), (0 : Int64), (0 : Int64), (0 : Int64), (0 : Int64), (0 : Int64), (0 : Int64), (0 : Int64), (0 : Int64), (0 : Int64)].set 1 (10 : Int64) = [(1 : Int64), (10 : Int64), (0 : Int64), (0 : Int64), (0 : Int64), (0 : Int64), (0 : Int64), (0 : Int64), (0 : Int64), (0 : Int64), (0 : Int64), (0 : Int64), (0 : Int64), (0 : Int64), (0 : Int64), (0 : Int64), (0 : Int64), (0 : Int64), (0 : Int64)] from rfl] at V497
    have N498 := Fr.snoc X497 N494 ge490
    have Z499 : n0 ≤ h497.size := by rw [W497.size]; exact Z495
    have V500 := V496.other W497 ne489
    refine own_dup X497 hx (hb hby at_130) rfl 131 rfl ?_
    refine own_iconst X497 hx (hb hby at_131) (2 : Int32) rfl 132 rfl ?_
    refine own_ldc2Long X497 hx hown (mvT hZ (own_w hw 6 rfl)) (hb hby at_132) 135 rfl ?_
    refine own_lastore X497 hx hZ e497 V497 2 rfl (by simp) (hb hby at_135) 136 rfl (fun T501 h501 X501 e501 W501 V501 => ?_)
    rw [show [(1 : Int64), (10 : Int64), (0 : Int64), (0 : Int64), (0 : Int64), (0 : Int64), (0 : Int64), (0 : Int64), (0 : Int64), (0 : Int64), (0 : Int64), (0 : Int64), (0 : Int64), (0 : Int64), (0 : Int64), (0 : Int64), (0 : Int64), (0 : Int64), (0 : Int64)].set 2 (100 : Int64) = [(1 : Int64), (10 : Int64), (100 : Int64), (0 : Int64), (0 : Int64), (0 : Int64), (0 : Int64), (0 : Int64), (0 : Int64), (0 : Int64), (0 : Int64), (0 : Int64), (0 : Int64), (0 : Int64), (0 : Int64), (0 : Int64), (0 : Int64), (0 : Int64), (0 : Int64)] from rfl] at V501
    have N502 := Fr.snoc X501 N498 ge490
    have Z503 : n0 ≤ h501.size := by rw [W501.size]; exact Z499
    have V504 := V500.other W501 ne489
    refine own_dup X501 hx (hb hby at_136) rfl 137 rfl ?_
    refine own_iconst X501 hx (hb hby at_137) (3 : Int32) rfl 138 rfl ?_
    refine own_ldc2Long X501 hx hown (mvT hZ (own_w hw 7 rfl)) (hb hby at_138) 141 rfl ?_
    refine own_lastore X501 hx hZ e501 V501 3 rfl (by simp) (hb hby at_141) 142 rfl (fun T505 h505 X505 e505 W505 V505 => ?_)
    rw [show [(1 : Int64), (10 : Int64), (100 : Int64), (0 : Int64), (0 : Int64), (0 : Int64), (0 : Int64), (0 : Int64), (0 : Int64), (0 : Int64), (0 : Int64), (0 : Int64), (0 : Int64), (0 : Int64), (0 : Int64), (0 : Int64), (0 : Int64), (0 : Int64), (0 : Int64)].set 3 (1000 : Int64) = [(1 : Int64), (10 : Int64), (100 : Int64), (1000 : Int64), (0 : Int64), (0 : Int64), (0 : Int64), (0 : Int64), (0 : Int64), (0 : Int64), (0 : Int64), (0 : Int64), (0 : Int64), (0 : Int64), (0 : Int64), (0 : Int64), (0 : Int64), (0 : Int64), (0 : Int64)] from rfl] at V505
    have N506 := Fr.snoc X505 N502 ge490
    have Z507 : n0 ≤ h505.size := by rw [W505.size]; exact Z503
    have V508 := V504.other W505 ne489
    refine own_dup X505 hx (hb hby at_142) rfl 143 rfl ?_
    refine own_iconst X505 hx (hb hby at_143) (4 : Int32) rfl 144 rfl ?_
    refine own_ldc2Long X505 hx hown (mvT hZ (own_w hw 8 rfl)) (hb hby at_144) 147 rfl ?_
    refine own_lastore X505 hx hZ e505 V505 4 rfl (by simp) (hb hby at_147) 148 rfl (fun T509 h509 X509 e509 W509 V509 => ?_)
    rw [show [(1 : Int64), (10 : Int64), (100 : Int64), (1000 : Int64), (0 : Int64), (0 : Int64), (0 : Int64), (0 : Int64), (0 : Int64), (0 : Int64), (0 : Int64), (0 : Int64), (0 : Int64), (0 : Int64), (0 : Int64), (0 : Int64), (0 : Int64), (0 : Int64), (0 : Int64)].set 4 (10000 : Int64) = [(1 : Int64), (10 : Int64), (100 : Int64), (1000 : Int64), (10000 : Int64), (0 : Int64), (0 : Int64), (0 : Int64), (0 : Int64), (0 : Int64), (0 : Int64), (0 : Int64), (0 : Int64), (0 : Int64), (0 : Int64), (0 : Int64), (0 : Int64), (0 : Int64), (0 : Int64)] from rfl] at V509
    have N510 := Fr.snoc X509 N506 ge490
    have Z511 : n0 ≤ h509.size := by rw [W509.size]; exact Z507
    have V512 := V508.other W509 ne489
    refine own_dup X509 hx (hb hby at_148) rfl 149 rfl ?_
    refine own_iconst X509 hx (hb hby at_149) (5 : Int32) rfl 150 rfl ?_
    refine own_ldc2Long X509 hx hown (mvT hZ (own_w hw 9 rfl)) (hb hby at_150) 153 rfl ?_
    refine own_lastore X509 hx hZ e509 V509 5 rfl (by simp) (hb hby at_153) 154 rfl (fun T513 h513 X513 e513 W513 V513 => ?_)
    rw [show [(1 : Int64), (10 : Int64), (100 : Int64), (1000 : Int64), (10000 : Int64), (0 : Int64), (0 : Int64), (0 : Int64), (0 : Int64), (0 : Int64), (0 : Int64), (0 : Int64), (0 : Int64), (0 : Int64), (0 : Int64), (0 : Int64), (0 : Int64), (0 : Int64), (0 : Int64)].set 5 (100000 : Int64) = [(1 : Int64), (10 : Int64), (100 : Int64), (1000 : Int64), (10000 : Int64), (100000 : Int64), (0 : Int64), (0 : Int64), (0 : Int64), (0 : Int64), (0 : Int64), (0 : Int64), (0 : Int64), (0 : Int64), (0 : Int64), (0 : Int64), (0 : Int64), (0 : Int64), (0 : Int64)] from rfl] at V513
    have N514 := Fr.snoc X513 N510 ge490
    have Z515 : n0 ≤ h513.size := by rw [W513.size]; exact Z511
    have V516 := V512.other W513 ne489
    refine own_dup X513 hx (hb hby at_154) rfl 155 rfl ?_
    refine own_bipush X513 hx (hb hby at_155) (6 : Int32) rfl 157 rfl ?_
    refine own_ldc2Long X513 hx hown (mvT hZ (own_w hw 10 rfl)) (hb hby at_157) 160 rfl ?_
    refine own_lastore X513 hx hZ e513 V513 6 rfl (by simp) (hb hby at_160) 161 rfl (fun T517 h517 X517 e517 W517 V517 => ?_)
    rw [show [(1 : Int64), (10 : Int64), (100 : Int64), (1000 : Int64), (10000 : Int64), (100000 : Int64), (0 : Int64), (0 : Int64), (0 : Int64), (0 : Int64), (0 : Int64), (0 : Int64), (0 : Int64), (0 : Int64), (0 : Int64), (0 : Int64), (0 : Int64), (0 : Int64), (0 : Int64)].set 6 (1000000 : Int64) = [(1 : Int64), (10 : Int64), (100 : Int64), (1000 : Int64), (10000 : Int64), (100000 : Int64), (1000000 : Int64), (0 : Int64), (0 : Int64), (0 : Int64), (0 : Int64), (0 : Int64), (0 : Int64), (0 : Int64), (0 : Int64), (0 : Int64), (0 : Int64), (0 : Int64), (0 : Int64)] from rfl] at V517
    have N518 := Fr.snoc X517 N514 ge490
    have Z519 : n0 ≤ h517.size := by rw [W517.size]; exact Z515
    have V520 := V516.other W517 ne489
    refine own_dup X517 hx (hb hby at_161) rfl 162 rfl ?_
    refine own_bipush X517 hx (hb hby at_162) (7 : Int32) rfl 164 rfl ?_
    refine own_ldc2Long X517 hx hown (mvT hZ (own_w hw 11 rfl)) (hb hby at_164) 167 rfl ?_
    refine own_lastore X517 hx hZ e517 V517 7 rfl (by simp) (hb hby at_167) 168 rfl (fun T521 h521 X521 e521 W521 V521 => ?_)
    rw [show [(1 : Int64), (10 : Int64), (100 : Int64), (1000 : Int64), (10000 : Int64), (100000 : Int64), (1000000 : Int64), (0 : Int64), (0 : Int64), (0 : Int64), (0 : Int64), (0 : Int64), (0 : Int64), (0 : Int64), (0 : Int64), (0 : Int64), (0 : Int64), (0 : Int64), (0 : Int64)].set 7 (10000000 : Int64) = [(1 : Int64), (10 : Int64), (100 : Int64), (1000 : Int64), (10000 : Int64), (100000 : Int64), (1000000 : Int64), (10000000 : Int64), (0 : Int64), (0 : Int64), (0 : Int64), (0 : Int64), (0 : Int64), (0 : Int64), (0 : Int64), (0 : Int64), (0 : Int64), (0 : Int64), (0 : Int64)] from rfl] at V521
    have N522 := Fr.snoc X521 N518 ge490
    have Z523 : n0 ≤ h521.size := by rw [W521.size]; exact Z519
    have V524 := V520.other W521 ne489
    refine own_dup X521 hx (hb hby at_168) rfl 169 rfl ?_
    refine own_bipush X521 hx (hb hby at_169) (8 : Int32) rfl 171 rfl ?_
    refine own_ldc2Long X521 hx hown (mvT hZ (own_w hw 12 rfl)) (hb hby at_171) 174 rfl ?_
    refine own_lastore X521 hx hZ e521 V521 8 rfl (by simp) (hb hby at_174) 175 rfl (fun T525 h525 X525 e525 W525 V525 => ?_)
    rw [show [(1 : Int64), (10 : Int64), (100 : Int64), (1000 : Int64), (10000 : Int64), (100000 : Int64), (1000000 : Int64), (10000000 : Int64), (0 : Int64), (0 : Int64), (0 : Int64), (0 : Int64), (0 : Int64), (0 : Int64), (0 : Int64), (0 : Int64), (0 : Int64), (0 : Int64), (0 : Int64)].set 8 (100000000 : Int64) = [(1 : Int64), (10 : Int64), (100 : Int64), (1000 : Int64), (10000 : Int64), (100000 : Int64), (1000000 : Int64), (10000000 : Int64), (100000000 : Int64), (0 : Int64), (0 : Int64), (0 : Int64), (0 : Int64), (0 : Int64), (0 : Int64), (0 : Int64), (0 : Int64), (0 : Int64), (0 : Int64)] from rfl] at V525
    have N526 := Fr.snoc X525 N522 ge490
    have Z527 : n0 ≤ h525.size := by rw [W525.size]; exact Z523
    have V528 := V524.other W525 ne489
    refine own_dup X525 hx (hb hby at_175) rfl 176 rfl ?_
    refine own_bipush X525 hx (hb hby at_176) (9 : Int32) rfl 178 rfl ?_
    refine own_ldc2Long X525 hx hown (mvT hZ (own_w hw 13 rfl)) (hb hby at_178) 181 rfl ?_
    refine own_lastore X525 hx hZ e525 V525 9 rfl (by simp) (hb hby at_181) 182 rfl (fun T529 h529 X529 e529 W529 V529 => ?_)
    rw [show [(1 : Int64), (10 : Int64), (100 : Int64), (1000 : Int64), (10000 : Int64), (100000 : Int64), (1000000 : Int64), (10000000 : Int64), (100000000 : Int64), (0 : Int64), (0 : Int64), (0 : Int64), (0 : Int64), (0 : Int64), (0 : Int64), (0 : Int64), (0 : Int64), (0 : Int64), (0 : Int64)].set 9 (1000000000 : Int64) = [(1 : Int64), (10 : Int64), (100 : Int64), (1000 : Int64), (10000 : Int64), (100000 : Int64), (1000000 : Int64), (10000000 : Int64), (100000000 : Int64), (1000000000 : Int64), (0 : Int64), (0 : Int64), (0 : Int64), (0 : Int64), (0 : Int64), (0 : Int64), (0 : Int64), (0 : Int64), (0 : Int64)] from rfl] at V529
    have N530 := Fr.snoc X529 N526 ge490
    have Z531 : n0 ≤ h529.size := by rw [W529.size]; exact Z527
    have V532 := V528.other W529 ne489
    refine own_dup X529 hx (hb hby at_182) rfl 183 rfl ?_
    refine own_bipush X529 hx (hb hby at_183) (10 : Int32) rfl 185 rfl ?_
    refine own_ldc2Long X529 hx hown (mvT hZ (own_w hw 14 rfl)) (hb hby at_185) 188 rfl ?_
    refine own_lastore X529 hx hZ e529 V529 10 rfl (by simp) (hb hby at_188) 189 rfl (fun T533 h533 X533 e533 W533 V533 => ?_)
    rw [show [(1 : Int64), (10 : Int64), (100 : Int64), (1000 : Int64), (10000 : Int64), (100000 : Int64), (1000000 : Int64), (10000000 : Int64), (100000000 : Int64), (1000000000 : Int64), (0 : Int64), (0 : Int64), (0 : Int64), (0 : Int64), (0 : Int64), (0 : Int64), (0 : Int64), (0 : Int64), (0 : Int64)].set 10 (10000000000 : Int64) = [(1 : Int64), (10 : Int64), (100 : Int64), (1000 : Int64), (10000 : Int64), (100000 : Int64), (1000000 : Int64), (10000000 : Int64), (100000000 : Int64), (1000000000 : Int64), (10000000000 : Int64), (0 : Int64), (0 : Int64), (0 : Int64), (0 : Int64), (0 : Int64), (0 : Int64), (0 : Int64), (0 : Int64)] from rfl] at V533
    have N534 := Fr.snoc X533 N530 ge490
    have Z535 : n0 ≤ h533.size := by rw [W533.size]; exact Z531
    have V536 := V532.other W533 ne489
    refine own_dup X533 hx (hb hby at_189) rfl 190 rfl ?_
    refine own_bipush X533 hx (hb hby at_190) (11 : Int32) rfl 192 rfl ?_
    refine own_ldc2Long X533 hx hown (mvT hZ (own_w hw 15 rfl)) (hb hby at_192) 195 rfl ?_
    refine own_lastore X533 hx hZ e533 V533 11 rfl (by simp) (hb hby at_195) 196 rfl (fun T537 h537 X537 e537 W537 V537 => ?_)
    rw [show [(1 : Int64), (10 : Int64), (100 : Int64), (1000 : Int64), (10000 : Int64), (100000 : Int64), (1000000 : Int64), (10000000 : Int64), (100000000 : Int64), (1000000000 : Int64), (10000000000 : Int64), (0 : Int64), (0 : Int64), (0 : Int64), (0 : Int64), (0 : Int64), (0 : Int64), (0 : Int64), (0 : Int64)].set 11 (100000000000 : Int64) = [(1 : Int64), (10 : Int64), (100 : Int64), (1000 : Int64), (10000 : Int64), (100000 : Int64), (1000000 : Int64), (10000000 : Int64), (100000000 : Int64), (1000000000 : Int64), (10000000000 : Int64), (100000000000 : Int64), (0 : Int64), (0 : Int64), (0 : Int64), (0 : Int64), (0 : Int64), (0 : Int64), (0 : Int64)] from rfl] at V537
    have N538 := Fr.snoc X537 N534 ge490
    have Z539 : n0 ≤ h537.size := by rw [W537.size]; exact Z535
    have V540 := V536.other W537 ne489
    refine own_dup X537 hx (hb hby at_196) rfl 197 rfl ?_
    refine own_bipush X537 hx (hb hby at_197) (12 : Int32) rfl 199 rfl ?_
    refine own_ldc2Long X537 hx hown (mvT hZ (own_w hw 16 rfl)) (hb hby at_199) 202 rfl ?_
    refine own_lastore X537 hx hZ e537 V537 12 rfl (by simp) (hb hby at_202) 203 rfl (fun T541 h541 X541 e541 W541 V541 => ?_)
    rw [show [(1 : Int64), (10 : Int64), (100 : Int64), (1000 : Int64), (10000 : Int64), (100000 : Int64), (1000000 : Int64), (10000000 : Int64), (100000000 : Int64), (1000000000 : Int64), (10000000000 : Int64), (100000000000 : Int64), (0 : Int64), (0 : Int64), (0 : Int64), (0 : Int64), (0 : Int64), (0 : Int64), (0 : Int64)].set 12 (1000000000000 : Int64) = [(1 : Int64), (10 : Int64), (100 : Int64), (1000 : Int64), (10000 : Int64), (100000 : Int64), (1000000 : Int64), (10000000 : Int64), (100000000 : Int64), (1000000000 : Int64), (10000000000 : Int64), (100000000000 : Int64), (1000000000000 : Int64), (0 : Int64), (0 : Int64), (0 : Int64), (0 : Int64), (0 : Int64), (0 : Int64)] from rfl] at V541
    have N542 := Fr.snoc X541 N538 ge490
    have Z543 : n0 ≤ h541.size := by rw [W541.size]; exact Z539
    have V544 := V540.other W541 ne489
    refine own_dup X541 hx (hb hby at_203) rfl 204 rfl ?_
    refine own_bipush X541 hx (hb hby at_204) (13 : Int32) rfl 206 rfl ?_
    refine own_ldc2Long X541 hx hown (mvT hZ (own_w hw 17 rfl)) (hb hby at_206) 209 rfl ?_
    refine own_lastore X541 hx hZ e541 V541 13 rfl (by simp) (hb hby at_209) 210 rfl (fun T545 h545 X545 e545 W545 V545 => ?_)
    rw [show [(1 : Int64), (10 : Int64), (100 : Int64), (1000 : Int64), (10000 : Int64), (100000 : Int64), (1000000 : Int64), (10000000 : Int64), (100000000 : Int64), (1000000000 : Int64), (10000000000 : Int64), (100000000000 : Int64), (1000000000000 : Int64), (0 : Int64), (0 : Int64), (0 : Int64), (0 : Int64), (0 : Int64), (0 : Int64)].set 13 (10000000000000 : Int64) = [(1 : Int64), (10 : Int64), (100 : Int64), (1000 : Int64), (10000 : Int64), (100000 : Int64), (1000000 : Int64), (10000000 : Int64), (100000000 : Int64), (1000000000 : Int64), (10000000000 : Int64), (100000000000 : Int64), (1000000000000 : Int64), (10000000000000 : Int64), (0 : Int64), (0 : Int64), (0 : Int64), (0 : Int64), (0 : Int64)] from rfl] at V545
    have N546 := Fr.snoc X545 N542 ge490
    have Z547 : n0 ≤ h545.size := by rw [W545.size]; exact Z543
    have V548 := V544.other W545 ne489
    refine own_dup X545 hx (hb hby at_210) rfl 211 rfl ?_
    refine own_bipush X545 hx (hb hby at_211) (14 : Int32) rfl 213 rfl ?_
    refine own_ldc2Long X545 hx hown (mvT hZ (own_w hw 18 rfl)) (hb hby at_213) 216 rfl ?_
    refine own_lastore X545 hx hZ e545 V545 14 rfl (by simp) (hb hby at_216) 217 rfl (fun T549 h549 X549 e549 W549 V549 => ?_)
    rw [show [(1 : Int64), (10 : Int64), (100 : Int64), (1000 : Int64), (10000 : Int64), (100000 : Int64), (1000000 : Int64), (10000000 : Int64), (100000000 : Int64), (1000000000 : Int64), (10000000000 : Int64), (100000000000 : Int64), (1000000000000 : Int64), (10000000000000 : Int64), (0 : Int64), (0 : Int64), (0 : Int64), (0 : Int64), (0 : Int64)].set 14 (100000000000000 : Int64) = [(1 : Int64), (10 : Int64), (100 : Int64), (1000 : Int64), (10000 : Int64), (100000 : Int64), (1000000 : Int64), (10000000 : Int64), (100000000 : Int64), (1000000000 : Int64), (10000000000 : Int64), (100000000000 : Int64), (1000000000000 : Int64), (10000000000000 : Int64), (100000000000000 : Int64), (0 : Int64), (0 : Int64), (0 : Int64), (0 : Int64)] from rfl] at V549
    have N550 := Fr.snoc X549 N546 ge490
    have Z551 : n0 ≤ h549.size := by rw [W549.size]; exact Z547
    have V552 := V548.other W549 ne489
    refine own_dup X549 hx (hb hby at_217) rfl 218 rfl ?_
    refine own_bipush X549 hx (hb hby at_218) (15 : Int32) rfl 220 rfl ?_
    refine own_ldc2Long X549 hx hown (mvT hZ (own_w hw 19 rfl)) (hb hby at_220) 223 rfl ?_
    refine own_lastore X549 hx hZ e549 V549 15 rfl (by simp) (hb hby at_223) 224 rfl (fun T553 h553 X553 e553 W553 V553 => ?_)
    rw [show [(1 : Int64), (10 : Int64), (100 : Int64), (1000 : Int64), (10000 : Int64), (100000 : Int64), (1000000 : Int64), (10000000 : Int64), (100000000 : Int64), (1000000000 : Int64), (10000000000 : Int64), (100000000000 : Int64), (1000000000000 : Int64), (10000000000000 : Int64), (100000000000000 : Int64), (0 : Int64), (0 : Int64), (0 : Int64), (0 : Int64)].set 15 (1000000000000000 : Int64) = [(1 : Int64), (10 : Int64), (100 : Int64), (1000 : Int64), (10000 : Int64), (100000 : Int64), (1000000 : Int64), (10000000 : Int64), (100000000 : Int64), (1000000000 : Int64), (10000000000 : Int64), (100000000000 : Int64), (1000000000000 : Int64), (10000000000000 : Int64), (100000000000000 : Int64), (1000000000000000 : Int64), (0 : Int64), (0 : Int64), (0 : Int64)] from rfl] at V553
    have N554 := Fr.snoc X553 N550 ge490
    have Z555 : n0 ≤ h553.size := by rw [W553.size]; exact Z551
    have V556 := V552.other W553 ne489
    refine own_dup X553 hx (hb hby at_224) rfl 225 rfl ?_
    refine own_bipush X553 hx (hb hby at_225) (16 : Int32) rfl 227 rfl ?_
    refine own_ldc2Long X553 hx hown (mvT hZ (own_w hw 20 rfl)) (hb hby at_227) 230 rfl ?_
    refine own_lastore X553 hx hZ e553 V553 16 rfl (by simp) (hb hby at_230) 231 rfl (fun T557 h557 X557 e557 W557 V557 => ?_)
    rw [show [(1 : Int64), (10 : Int64), (100 : Int64), (1000 : Int64), (10000 : Int64), (100000 : Int64), (1000000 : Int64), (10000000 : Int64), (100000000 : Int64), (1000000000 : Int64), (10000000000 : Int64), (100000000000 : Int64), (1000000000000 : Int64), (10000000000000 : Int64), (100000000000000 : Int64), (1000000000000000 : Int64), (0 : Int64), (0 : Int64), (0 : Int64)].set 16 (10000000000000000 : Int64) = [(1 : Int64), (10 : Int64), (100 : Int64), (1000 : Int64), (10000 : Int64), (100000 : Int64), (1000000 : Int64), (10000000 : Int64), (100000000 : Int64), (1000000000 : Int64), (10000000000 : Int64), (100000000000 : Int64), (1000000000000 : Int64), (10000000000000 : Int64), (100000000000000 : Int64), (1000000000000000 : Int64), (10000000000000000 : Int64), (0 : Int64), (0 : Int64)] from rfl] at V557
    have N558 := Fr.snoc X557 N554 ge490
    have Z559 : n0 ≤ h557.size := by rw [W557.size]; exact Z555
    have V560 := V556.other W557 ne489
    refine own_dup X557 hx (hb hby at_231) rfl 232 rfl ?_
    refine own_bipush X557 hx (hb hby at_232) (17 : Int32) rfl 234 rfl ?_
    refine own_ldc2Long X557 hx hown (mvT hZ (own_w hw 21 rfl)) (hb hby at_234) 237 rfl ?_
    refine own_lastore X557 hx hZ e557 V557 17 rfl (by simp) (hb hby at_237) 238 rfl (fun T561 h561 X561 e561 W561 V561 => ?_)
    rw [show [(1 : Int64), (10 : Int64), (100 : Int64), (1000 : Int64), (10000 : Int64), (100000 : Int64), (1000000 : Int64), (10000000 : Int64), (100000000 : Int64), (1000000000 : Int64), (10000000000 : Int64), (100000000000 : Int64), (1000000000000 : Int64), (10000000000000 : Int64), (100000000000000 : Int64), (1000000000000000 : Int64), (10000000000000000 : Int64), (0 : Int64), (0 : Int64)].set 17 (100000000000000000 : Int64) = [(1 : Int64), (10 : Int64), (100 : Int64), (1000 : Int64), (10000 : Int64), (100000 : Int64), (1000000 : Int64), (10000000 : Int64), (100000000 : Int64), (1000000000 : Int64), (10000000000 : Int64), (100000000000 : Int64), (1000000000000 : Int64), (10000000000000 : Int64), (100000000000000 : Int64), (1000000000000000 : Int64), (10000000000000000 : Int64), (100000000000000000 : Int64), (0 : Int64)] from rfl] at V561
    have N562 := Fr.snoc X561 N558 ge490
    have Z563 : n0 ≤ h561.size := by rw [W561.size]; exact Z559
    have V564 := V560.other W561 ne489
    refine own_dup X561 hx (hb hby at_238) rfl 239 rfl ?_
    refine own_bipush X561 hx (hb hby at_239) (18 : Int32) rfl 241 rfl ?_
    refine own_ldc2Long X561 hx hown (mvT hZ (own_w hw 1 rfl)) (hb hby at_241) 244 rfl ?_
    refine own_lastore X561 hx hZ e561 V561 18 rfl (by simp) (hb hby at_244) 245 rfl (fun T565 h565 X565 e565 W565 V565 => ?_)
    rw [show [(1 : Int64), (10 : Int64), (100 : Int64), (1000 : Int64), (10000 : Int64), (100000 : Int64), (1000000 : Int64), (10000000 : Int64), (100000000 : Int64), (1000000000 : Int64), (10000000000 : Int64), (100000000000 : Int64), (1000000000000 : Int64), (10000000000000 : Int64), (100000000000000 : Int64), (1000000000000000 : Int64), (10000000000000000 : Int64), (100000000000000000 : Int64), (0 : Int64)].set 18 (1000000000000000000 : Int64) = [(1 : Int64), (10 : Int64), (100 : Int64), (1000 : Int64), (10000 : Int64), (100000 : Int64), (1000000 : Int64), (10000000 : Int64), (100000000 : Int64), (1000000000 : Int64), (10000000000 : Int64), (100000000000 : Int64), (1000000000000 : Int64), (10000000000000 : Int64), (100000000000000 : Int64), (1000000000000000 : Int64), (10000000000000000 : Int64), (100000000000000000 : Int64), (1000000000000000000 : Int64)] from rfl] at V565
    have N566 := Fr.snoc X565 N562 ge490
    have Z567 : n0 ≤ h565.size := by rw [W565.size]; exact Z563
    have V568 := V564.other W565 ne489
    refine own_astore X565 hx (hb hby at_245) rfl #[.val (.long v0), .second, .val (.int v1), .val (.int v2), .val (.int v3), .val (.long (Int64.ofNat nn)), .second, .val (.int (Int32.ofNat ni)), .val (.int (2 : Int32)), .val (.int (20 : Int32)), .val (.int (Int32.ofNat (20 - ni))), .val (.int y454), .val (.ref a455), .val (.ref a488)] rfl 247 rfl ?_
    refine own_aload X565 hx (hb hby at_247) rfl rfl 249 rfl ?_
    refine own_iload X565 hx (hb hby at_249) rfl 251 rfl ?_
    refine own_iconst X565 hx (hb hby at_251) (1 : Int32) rfl 252 rfl ?_
    refine own_isub X565 hx (hb hby at_252) 253 rfl ?_
    show own_Go p e below G (T565.setTop (mkF m 253 #[.val (.long v0), .second, .val (.int v1), .val (.int v2), .val (.int v3), .val (.long (Int64.ofNat nn)), .second, .val (.int (Int32.ofNat ni)), .val (.int (2 : Int32)), .val (.int (20 : Int32)), .val (.int (Int32.ofNat (20 - ni))), .val (.int y454), .val (.ref a455), .val (.ref a488)] [(.int (19 : Int32)), (.ref a455)]))
    refine own_lload X565 hx (hb hby at_253) rfl 255 rfl ?_
    refine own_aload X565 hx (hb hby at_255) rfl rfl 257 rfl ?_
    refine own_iconst X565 hx (hb hby at_257) (0 : Int32) rfl 258 rfl ?_
    refine own_laload X565 hx hZ e565 V565 0 rfl (1 : Int64) rfl (hb hby at_258) 259 rfl ?_
    refine own_callS X565 hx hZ hown (own_w hw 22 rfl) (own_w hw 23 rfl) (own_w hw 24 rfl) (own_w hw 25 rfl) (by decide) e565 (rm1 l Z a0 hw [] nn 0 (1 : Int64) h565 n0 hnn (by decide) (by decide)) (by rw [hml]; rfl) pd_0 (argsL := [(.long (Int64.ofNat nn)), (.long (1 : Int64))]) rfl (rest := [(.int (19 : Int32)), (.ref a455)]) rfl (hb hby at_259) 2 (Nat.le_of_eq rfl) (by decide) (by decide) (by decide) (by decide) 262 rfl (fun T569 L569 v569 X569 hQ569 => ?_)
    obtain ⟨rfl, N569, e569⟩ := hQ569
    have N570 := Fr.app N566 N569
    show own_Go p e below G (T569.setTop (mkF m 262 #[.val (.long v0), .second, .val (.int v1), .val (.int v2), .val (.int v3), .val (.long (Int64.ofNat nn)), .second, .val (.int (Int32.ofNat ni)), .val (.int (2 : Int32)), .val (.int (20 : Int32)), .val (.int (Int32.ofNat (20 - ni))), .val (.int y454), .val (.ref a455), .val (.ref a488)] [(.int (own_d nn 0)), (.int (19 : Int32)), (.ref a455)]))
    refine own_bastore X569 hx hZ e569 V568 19 rfl (by simp) (hb hby at_262) 263 rfl (fun T571 h571 X571 e571 W571 V571 => ?_)
    rw [show [y454, y454, y454, y454, (0 : Int32), (0 : Int32), (0 : Int32), (0 : Int32), (0 : Int32), (0 : Int32), (0 : Int32), (0 : Int32), (0 : Int32), (0 : Int32), (0 : Int32), (0 : Int32), (0 : Int32), (0 : Int32), y454, y454, y454, y454, y454, y454].set 19 ((own_d nn 0).toInt8.toInt32) = [y454, y454, y454, y454, (0 : Int32), (0 : Int32), (0 : Int32), (0 : Int32), (0 : Int32), (0 : Int32), (0 : Int32), (0 : Int32), (0 : Int32), (0 : Int32), (0 : Int32), (0 : Int32), (0 : Int32), (0 : Int32), y454, (own_d nn 0), y454, y454, y454, y454] from (by rw [own_d8]; rfl)] at V571
    have N572 := Fr.snoc X571 N570 ge456
    have Z573 : n0 ≤ h571.size := by rw [W571.size]; exact Z567
    have V574 := V565.other W571 (Ne.symm ne489)
    refine own_aload X571 hx (hb hby at_263) rfl rfl 265 rfl ?_
    refine own_iload X571 hx (hb hby at_265) rfl 267 rfl ?_
    refine own_iconst X571 hx (hb hby at_267) (2 : Int32) rfl 268 rfl ?_
    refine own_isub X571 hx (hb hby at_268) 269 rfl ?_
    show own_Go p e below G (T571.setTop (mkF m 269 #[.val (.long v0), .second, .val (.int v1), .val (.int v2), .val (.int v3), .val (.long (Int64.ofNat nn)), .second, .val (.int (Int32.ofNat ni)), .val (.int (2 : Int32)), .val (.int (20 : Int32)), .val (.int (Int32.ofNat (20 - ni))), .val (.int y454), .val (.ref a455), .val (.ref a488)] [(.int (18 : Int32)), (.ref a455)]))
    refine own_lload X571 hx (hb hby at_269) rfl 271 rfl ?_
    refine own_aload X571 hx (hb hby at_271) rfl rfl 273 rfl ?_
    refine own_iconst X571 hx (hb hby at_273) (1 : Int32) rfl 274 rfl ?_
    refine own_laload X571 hx hZ e571 V574 1 rfl (10 : Int64) rfl (hb hby at_274) 275 rfl ?_
    refine own_callS X571 hx hZ hown (own_w hw 22 rfl) (own_w hw 23 rfl) (own_w hw 24 rfl) (own_w hw 25 rfl) (by decide) e571 (rm1 l Z a0 hw [] nn 1 (10 : Int64) h571 n0 hnn (by decide) (by decide)) (by rw [hml]; rfl) pd_0 (argsL := [(.long (Int64.ofNat nn)), (.long (10 : Int64))]) rfl (rest := [(.int (18 : Int32)), (.ref a455)]) rfl (hb hby at_275) 2 (Nat.le_of_eq rfl) (by decide) (by decide) (by decide) (by decide) 278 rfl (fun T575 L575 v575 X575 hQ575 => ?_)
    obtain ⟨rfl, N575, e575⟩ := hQ575
    have N576 := Fr.app N572 N575
    show own_Go p e below G (T575.setTop (mkF m 278 #[.val (.long v0), .second, .val (.int v1), .val (.int v2), .val (.int v3), .val (.long (Int64.ofNat nn)), .second, .val (.int (Int32.ofNat ni)), .val (.int (2 : Int32)), .val (.int (20 : Int32)), .val (.int (Int32.ofNat (20 - ni))), .val (.int y454), .val (.ref a455), .val (.ref a488)] [(.int (own_d nn 1)), (.int (18 : Int32)), (.ref a455)]))
    refine own_bastore X575 hx hZ e575 V571 18 rfl (by simp) (hb hby at_278) 279 rfl (fun T577 h577 X577 e577 W577 V577 => ?_)
    rw [show [y454, y454, y454, y454, (0 : Int32), (0 : Int32), (0 : Int32), (0 : Int32), (0 : Int32), (0 : Int32), (0 : Int32), (0 : Int32), (0 : Int32), (0 : Int32), (0 : Int32), (0 : Int32), (0 : Int32), (0 : Int32), y454, (own_d nn 0), y454, y454, y454, y454].set 18 ((own_d nn 1).toInt8.toInt32) = [y454, y454, y454, y454, (0 : Int32), (0 : Int32), (0 : Int32), (0 : Int32), (0 : Int32), (0 : Int32), (0 : Int32), (0 : Int32), (0 : Int32), (0 : Int32), (0 : Int32), (0 : Int32), (0 : Int32), (0 : Int32), (own_d nn 1), (own_d nn 0), y454, y454, y454, y454] from (by rw [own_d8]; rfl)] at V577
    have N578 := Fr.snoc X577 N576 ge456
    have Z579 : n0 ≤ h577.size := by rw [W577.size]; exact Z573
    have V580 := V574.other W577 (Ne.symm ne489)
    refine own_aload X577 hx (hb hby at_279) rfl rfl 281 rfl ?_
    refine own_iload X577 hx (hb hby at_281) rfl 283 rfl ?_
    refine own_iconst X577 hx (hb hby at_283) (3 : Int32) rfl 284 rfl ?_
    refine own_isub X577 hx (hb hby at_284) 285 rfl ?_
    show own_Go p e below G (T577.setTop (mkF m 285 #[.val (.long v0), .second, .val (.int v1), .val (.int v2), .val (.int v3), .val (.long (Int64.ofNat nn)), .second, .val (.int (Int32.ofNat ni)), .val (.int (2 : Int32)), .val (.int (20 : Int32)), .val (.int (Int32.ofNat (20 - ni))), .val (.int y454), .val (.ref a455), .val (.ref a488)] [(.int (17 : Int32)), (.ref a455)]))
    refine own_lload X577 hx (hb hby at_285) rfl 287 rfl ?_
    refine own_aload X577 hx (hb hby at_287) rfl rfl 289 rfl ?_
    refine own_iconst X577 hx (hb hby at_289) (2 : Int32) rfl 290 rfl ?_
    refine own_laload X577 hx hZ e577 V580 2 rfl (100 : Int64) rfl (hb hby at_290) 291 rfl ?_
    refine own_callS X577 hx hZ hown (own_w hw 22 rfl) (own_w hw 23 rfl) (own_w hw 24 rfl) (own_w hw 25 rfl) (by decide) e577 (rm1 l Z a0 hw [] nn 2 (100 : Int64) h577 n0 hnn (by decide) (by decide)) (by rw [hml]; rfl) pd_0 (argsL := [(.long (Int64.ofNat nn)), (.long (100 : Int64))]) rfl (rest := [(.int (17 : Int32)), (.ref a455)]) rfl (hb hby at_291) 2 (Nat.le_of_eq rfl) (by decide) (by decide) (by decide) (by decide) 294 rfl (fun T581 L581 v581 X581 hQ581 => ?_)
    obtain ⟨rfl, N581, e581⟩ := hQ581
    have N582 := Fr.app N578 N581
    show own_Go p e below G (T581.setTop (mkF m 294 #[.val (.long v0), .second, .val (.int v1), .val (.int v2), .val (.int v3), .val (.long (Int64.ofNat nn)), .second, .val (.int (Int32.ofNat ni)), .val (.int (2 : Int32)), .val (.int (20 : Int32)), .val (.int (Int32.ofNat (20 - ni))), .val (.int y454), .val (.ref a455), .val (.ref a488)] [(.int (own_d nn 2)), (.int (17 : Int32)), (.ref a455)]))
    refine own_bastore X581 hx hZ e581 V577 17 rfl (by simp) (hb hby at_294) 295 rfl (fun T583 h583 X583 e583 W583 V583 => ?_)
    rw [show [y454, y454, y454, y454, (0 : Int32), (0 : Int32), (0 : Int32), (0 : Int32), (0 : Int32), (0 : Int32), (0 : Int32), (0 : Int32), (0 : Int32), (0 : Int32), (0 : Int32), (0 : Int32), (0 : Int32), (0 : Int32), (own_d nn 1), (own_d nn 0), y454, y454, y454, y454].set 17 ((own_d nn 2).toInt8.toInt32) = [y454, y454, y454, y454, (0 : Int32), (0 : Int32), (0 : Int32), (0 : Int32), (0 : Int32), (0 : Int32), (0 : Int32), (0 : Int32), (0 : Int32), (0 : Int32), (0 : Int32), (0 : Int32), (0 : Int32), (own_d nn 2), (own_d nn 1), (own_d nn 0), y454, y454, y454, y454] from (by rw [own_d8]; rfl)] at V583
    have N584 := Fr.snoc X583 N582 ge456
    have Z585 : n0 ≤ h583.size := by rw [W583.size]; exact Z579
    have V586 := V580.other W583 (Ne.symm ne489)
    refine own_aload X583 hx (hb hby at_295) rfl rfl 297 rfl ?_
    refine own_iload X583 hx (hb hby at_297) rfl 299 rfl ?_
    refine own_iconst X583 hx (hb hby at_299) (4 : Int32) rfl 300 rfl ?_
    refine own_isub X583 hx (hb hby at_300) 301 rfl ?_
    show own_Go p e below G (T583.setTop (mkF m 301 #[.val (.long v0), .second, .val (.int v1), .val (.int v2), .val (.int v3), .val (.long (Int64.ofNat nn)), .second, .val (.int (Int32.ofNat ni)), .val (.int (2 : Int32)), .val (.int (20 : Int32)), .val (.int (Int32.ofNat (20 - ni))), .val (.int y454), .val (.ref a455), .val (.ref a488)] [(.int (16 : Int32)), (.ref a455)]))
    refine own_lload X583 hx (hb hby at_301) rfl 303 rfl ?_
    refine own_aload X583 hx (hb hby at_303) rfl rfl 305 rfl ?_
    refine own_iconst X583 hx (hb hby at_305) (3 : Int32) rfl 306 rfl ?_
    refine own_laload X583 hx hZ e583 V586 3 rfl (1000 : Int64) rfl (hb hby at_306) 307 rfl ?_
    refine own_callS X583 hx hZ hown (own_w hw 22 rfl) (own_w hw 23 rfl) (own_w hw 24 rfl) (own_w hw 25 rfl) (by decide) e583 (rm1 l Z a0 hw [] nn 3 (1000 : Int64) h583 n0 hnn (by decide) (by decide)) (by rw [hml]; rfl) pd_0 (argsL := [(.long (Int64.ofNat nn)), (.long (1000 : Int64))]) rfl (rest := [(.int (16 : Int32)), (.ref a455)]) rfl (hb hby at_307) 2 (Nat.le_of_eq rfl) (by decide) (by decide) (by decide) (by decide) 310 rfl (fun T587 L587 v587 X587 hQ587 => ?_)
    obtain ⟨rfl, N587, e587⟩ := hQ587
    have N588 := Fr.app N584 N587
    show own_Go p e below G (T587.setTop (mkF m 310 #[.val (.long v0), .second, .val (.int v1), .val (.int v2), .val (.int v3), .val (.long (Int64.ofNat nn)), .second, .val (.int (Int32.ofNat ni)), .val (.int (2 : Int32)), .val (.int (20 : Int32)), .val (.int (Int32.ofNat (20 - ni))), .val (.int y454), .val (.ref a455), .val (.ref a488)] [(.int (own_d nn 3)), (.int (16 : Int32)), (.ref a455)]))
    refine own_bastore X587 hx hZ e587 V583 16 rfl (by simp) (hb hby at_310) 311 rfl (fun T589 h589 X589 e589 W589 V589 => ?_)
    rw [show [y454, y454, y454, y454, (0 : Int32), (0 : Int32), (0 : Int32), (0 : Int32), (0 : Int32), (0 : Int32), (0 : Int32), (0 : Int32), (0 : Int32), (0 : Int32), (0 : Int32), (0 : Int32), (0 : Int32), (own_d nn 2), (own_d nn 1), (own_d nn 0), y454, y454, y454, y454].set 16 ((own_d nn 3).toInt8.toInt32) = [y454, y454, y454, y454, (0 : Int32), (0 : Int32), (0 : Int32), (0 : Int32), (0 : Int32), (0 : Int32), (0 : Int32), (0 : Int32), (0 : Int32), (0 : Int32), (0 : Int32), (0 : Int32), (own_d nn 3), (own_d nn 2), (own_d nn 1), (own_d nn 0), y454, y454, y454, y454] from (by rw [own_d8]; rfl)] at V589
    have N590 := Fr.snoc X589 N588 ge456
    have Z591 : n0 ≤ h589.size := by rw [W589.size]; exact Z585
    have V592 := V586.other W589 (Ne.symm ne489)
    refine own_aload X589 hx (hb hby at_311) rfl rfl 313 rfl ?_
    refine own_iload X589 hx (hb hby at_313) rfl 315 rfl ?_
    refine own_iconst X589 hx (hb hby at_315) (5 : Int32) rfl 316 rfl ?_
    refine own_isub X589 hx (hb hby at_316) 317 rfl ?_
    show own_Go p e below G (T589.setTop (mkF m 317 #[.val (.long v0), .second, .val (.int v1), .val (.int v2), .val (.int v3), .val (.long (Int64.ofNat nn)), .second, .val (.int (Int32.ofNat ni)), .val (.int (2 : Int32)), .val (.int (20 : Int32)), .val (.int (Int32.ofNat (20 - ni))), .val (.int y454), .val (.ref a455), .val (.ref a488)] [(.int (15 : Int32)), (.ref a455)]))
    refine own_lload X589 hx (hb hby at_317) rfl 319 rfl ?_
    refine own_aload X589 hx (hb hby at_319) rfl rfl 321 rfl ?_
    refine own_iconst X589 hx (hb hby at_321) (4 : Int32) rfl 322 rfl ?_
    refine own_laload X589 hx hZ e589 V592 4 rfl (10000 : Int64) rfl (hb hby at_322) 323 rfl ?_
    refine own_callS X589 hx hZ hown (own_w hw 22 rfl) (own_w hw 23 rfl) (own_w hw 24 rfl) (own_w hw 25 rfl) (by decide) e589 (rm1 l Z a0 hw [] nn 4 (10000 : Int64) h589 n0 hnn (by decide) (by decide)) (by rw [hml]; rfl) pd_0 (argsL := [(.long (Int64.ofNat nn)), (.long (10000 : Int64))]) rfl (rest := [(.int (15 : Int32)), (.ref a455)]) rfl (hb hby at_323) 2 (Nat.le_of_eq rfl) (by decide) (by decide) (by decide) (by decide) 326 rfl (fun T593 L593 v593 X593 hQ593 => ?_)
    obtain ⟨rfl, N593, e593⟩ := hQ593
    have N594 := Fr.app N590 N593
    show own_Go p e below G (T593.setTop (mkF m 326 #[.val (.long v0), .second, .val (.int v1), .val (.int v2), .val (.int v3), .val (.long (Int64.ofNat nn)), .second, .val (.int (Int32.ofNat ni)), .val (.int (2 : Int32)), .val (.int (20 : Int32)), .val (.int (Int32.ofNat (20 - ni))), .val (.int y454), .val (.ref a455), .val (.ref a488)] [(.int (own_d nn 4)), (.int (15 : Int32)), (.ref a455)]))
    refine own_bastore X593 hx hZ e593 V589 15 rfl (by simp) (hb hby at_326) 327 rfl (fun T595 h595 X595 e595 W595 V595 => ?_)
    rw [show [y454, y454, y454, y454, (0 : Int32), (0 : Int32), (0 : Int32), (0 : Int32), (0 : Int32), (0 : Int32), (0 : Int32), (0 : Int32), (0 : Int32), (0 : Int32), (0 : Int32), (0 : Int32), (own_d nn 3), (own_d nn 2), (own_d nn 1), (own_d nn 0), y454, y454, y454, y454].set 15 ((own_d nn 4).toInt8.toInt32) = [y454, y454, y454, y454, (0 : Int32), (0 : Int32), (0 : Int32), (0 : Int32), (0 : Int32), (0 : Int32), (0 : Int32), (0 : Int32), (0 : Int32), (0 : Int32), (0 : Int32), (own_d nn 4), (own_d nn 3), (own_d nn 2), (own_d nn 1), (own_d nn 0), y454, y454, y454, y454] from (by rw [own_d8]; rfl)] at V595
    have N596 := Fr.snoc X595 N594 ge456
    have Z597 : n0 ≤ h595.size := by rw [W595.size]; exact Z591
    have V598 := V592.other W595 (Ne.symm ne489)
    refine own_aload X595 hx (hb hby at_327) rfl rfl 329 rfl ?_
    refine own_iload X595 hx (hb hby at_329) rfl 331 rfl ?_
    refine own_bipush X595 hx (hb hby at_331) (6 : Int32) rfl 333 rfl ?_
    refine own_isub X595 hx (hb hby at_333) 334 rfl ?_
    show own_Go p e below G (T595.setTop (mkF m 334 #[.val (.long v0), .second, .val (.int v1), .val (.int v2), .val (.int v3), .val (.long (Int64.ofNat nn)), .second, .val (.int (Int32.ofNat ni)), .val (.int (2 : Int32)), .val (.int (20 : Int32)), .val (.int (Int32.ofNat (20 - ni))), .val (.int y454), .val (.ref a455), .val (.ref a488)] [(.int (14 : Int32)), (.ref a455)]))
    refine own_lload X595 hx (hb hby at_334) rfl 336 rfl ?_
    refine own_aload X595 hx (hb hby at_336) rfl rfl 338 rfl ?_
    refine own_iconst X595 hx (hb hby at_338) (5 : Int32) rfl 339 rfl ?_
    refine own_laload X595 hx hZ e595 V598 5 rfl (100000 : Int64) rfl (hb hby at_339) 340 rfl ?_
    refine own_callS X595 hx hZ hown (own_w hw 22 rfl) (own_w hw 23 rfl) (own_w hw 24 rfl) (own_w hw 25 rfl) (by decide) e595 (rm1 l Z a0 hw [] nn 5 (100000 : Int64) h595 n0 hnn (by decide) (by decide)) (by rw [hml]; rfl) pd_0 (argsL := [(.long (Int64.ofNat nn)), (.long (100000 : Int64))]) rfl (rest := [(.int (14 : Int32)), (.ref a455)]) rfl (hb hby at_340) 2 (Nat.le_of_eq rfl) (by decide) (by decide) (by decide) (by decide) 343 rfl (fun T599 L599 v599 X599 hQ599 => ?_)
    obtain ⟨rfl, N599, e599⟩ := hQ599
    have N600 := Fr.app N596 N599
    show own_Go p e below G (T599.setTop (mkF m 343 #[.val (.long v0), .second, .val (.int v1), .val (.int v2), .val (.int v3), .val (.long (Int64.ofNat nn)), .second, .val (.int (Int32.ofNat ni)), .val (.int (2 : Int32)), .val (.int (20 : Int32)), .val (.int (Int32.ofNat (20 - ni))), .val (.int y454), .val (.ref a455), .val (.ref a488)] [(.int (own_d nn 5)), (.int (14 : Int32)), (.ref a455)]))
    refine own_bastore X599 hx hZ e599 V595 14 rfl (by simp) (hb hby at_343) 344 rfl (fun T601 h601 X601 e601 W601 V601 => ?_)
    rw [show [y454, y454, y454, y454, (0 : Int32), (0 : Int32), (0 : Int32), (0 : Int32), (0 : Int32), (0 : Int32), (0 : Int32), (0 : Int32), (0 : Int32), (0 : Int32), (0 : Int32), (own_d nn 4), (own_d nn 3), (own_d nn 2), (own_d nn 1), (own_d nn 0), y454, y454, y454, y454].set 14 ((own_d nn 5).toInt8.toInt32) = [y454, y454, y454, y454, (0 : Int32), (0 : Int32), (0 : Int32), (0 : Int32), (0 : Int32), (0 : Int32), (0 : Int32), (0 : Int32), (0 : Int32), (0 : Int32), (own_d nn 5), (own_d nn 4), (own_d nn 3), (own_d nn 2), (own_d nn 1), (own_d nn 0), y454, y454, y454, y454] from (by rw [own_d8]; rfl)] at V601
    have N602 := Fr.snoc X601 N600 ge456
    have Z603 : n0 ≤ h601.size := by rw [W601.size]; exact Z597
    have V604 := V598.other W601 (Ne.symm ne489)
    refine own_aload X601 hx (hb hby at_344) rfl rfl 346 rfl ?_
    refine own_iload X601 hx (hb hby at_346) rfl 348 rfl ?_
    refine own_bipush X601 hx (hb hby at_348) (7 : Int32) rfl 350 rfl ?_
    refine own_isub X601 hx (hb hby at_350) 351 rfl ?_
    show own_Go p e below G (T601.setTop (mkF m 351 #[.val (.long v0), .second, .val (.int v1), .val (.int v2), .val (.int v3), .val (.long (Int64.ofNat nn)), .second, .val (.int (Int32.ofNat ni)), .val (.int (2 : Int32)), .val (.int (20 : Int32)), .val (.int (Int32.ofNat (20 - ni))), .val (.int y454), .val (.ref a455), .val (.ref a488)] [(.int (13 : Int32)), (.ref a455)]))
    refine own_lload X601 hx (hb hby at_351) rfl 353 rfl ?_
    refine own_aload X601 hx (hb hby at_353) rfl rfl 355 rfl ?_
    refine own_bipush X601 hx (hb hby at_355) (6 : Int32) rfl 357 rfl ?_
    refine own_laload X601 hx hZ e601 V604 6 rfl (1000000 : Int64) rfl (hb hby at_357) 358 rfl ?_
    refine own_callS X601 hx hZ hown (own_w hw 22 rfl) (own_w hw 23 rfl) (own_w hw 24 rfl) (own_w hw 25 rfl) (by decide) e601 (rm1 l Z a0 hw [] nn 6 (1000000 : Int64) h601 n0 hnn (by decide) (by decide)) (by rw [hml]; rfl) pd_0 (argsL := [(.long (Int64.ofNat nn)), (.long (1000000 : Int64))]) rfl (rest := [(.int (13 : Int32)), (.ref a455)]) rfl (hb hby at_358) 2 (Nat.le_of_eq rfl) (by decide) (by decide) (by decide) (by decide) 361 rfl (fun T605 L605 v605 X605 hQ605 => ?_)
    obtain ⟨rfl, N605, e605⟩ := hQ605
    have N606 := Fr.app N602 N605
    show own_Go p e below G (T605.setTop (mkF m 361 #[.val (.long v0), .second, .val (.int v1), .val (.int v2), .val (.int v3), .val (.long (Int64.ofNat nn)), .second, .val (.int (Int32.ofNat ni)), .val (.int (2 : Int32)), .val (.int (20 : Int32)), .val (.int (Int32.ofNat (20 - ni))), .val (.int y454), .val (.ref a455), .val (.ref a488)] [(.int (own_d nn 6)), (.int (13 : Int32)), (.ref a455)]))
    refine own_bastore X605 hx hZ e605 V601 13 rfl (by simp) (hb hby at_361) 362 rfl (fun T607 h607 X607 e607 W607 V607 => ?_)
    rw [show [y454, y454, y454, y454, (0 : Int32), (0 : Int32), (0 : Int32), (0 : Int32), (0 : Int32), (0 : Int32), (0 : Int32), (0 : Int32), (0 : Int32), (0 : Int32), (own_d nn 5), (own_d nn 4), (own_d nn 3), (own_d nn 2), (own_d nn 1), (own_d nn 0), y454, y454, y454, y454].set 13 ((own_d nn 6).toInt8.toInt32) = [y454, y454, y454, y454, (0 : Int32), (0 : Int32), (0 : Int32), (0 : Int32), (0 : Int32), (0 : Int32), (0 : Int32), (0 : Int32), (0 : Int32), (own_d nn 6), (own_d nn 5), (own_d nn 4), (own_d nn 3), (own_d nn 2), (own_d nn 1), (own_d nn 0), y454, y454, y454, y454] from (by rw [own_d8]; rfl)] at V607
    have N608 := Fr.snoc X607 N606 ge456
    have Z609 : n0 ≤ h607.size := by rw [W607.size]; exact Z603
    have V610 := V604.other W607 (Ne.symm ne489)
    refine own_aload X607 hx (hb hby at_362) rfl rfl 364 rfl ?_
    refine own_iload X607 hx (hb hby at_364) rfl 366 rfl ?_
    refine own_bipush X607 hx (hb hby at_366) (8 : Int32) rfl 368 rfl ?_
    refine own_isub X607 hx (hb hby at_368) 369 rfl ?_
    show own_Go p e below G (T607.setTop (mkF m 369 #[.val (.long v0), .second, .val (.int v1), .val (.int v2), .val (.int v3), .val (.long (Int64.ofNat nn)), .second, .val (.int (Int32.ofNat ni)), .val (.int (2 : Int32)), .val (.int (20 : Int32)), .val (.int (Int32.ofNat (20 - ni))), .val (.int y454), .val (.ref a455), .val (.ref a488)] [(.int (12 : Int32)), (.ref a455)]))
    refine own_lload X607 hx (hb hby at_369) rfl 371 rfl ?_
    refine own_aload X607 hx (hb hby at_371) rfl rfl 373 rfl ?_
    refine own_bipush X607 hx (hb hby at_373) (7 : Int32) rfl 375 rfl ?_
    refine own_laload X607 hx hZ e607 V610 7 rfl (10000000 : Int64) rfl (hb hby at_375) 376 rfl ?_
    refine own_callS X607 hx hZ hown (own_w hw 22 rfl) (own_w hw 23 rfl) (own_w hw 24 rfl) (own_w hw 25 rfl) (by decide) e607 (rm1 l Z a0 hw [] nn 7 (10000000 : Int64) h607 n0 hnn (by decide) (by decide)) (by rw [hml]; rfl) pd_0 (argsL := [(.long (Int64.ofNat nn)), (.long (10000000 : Int64))]) rfl (rest := [(.int (12 : Int32)), (.ref a455)]) rfl (hb hby at_376) 2 (Nat.le_of_eq rfl) (by decide) (by decide) (by decide) (by decide) 379 rfl (fun T611 L611 v611 X611 hQ611 => ?_)
    obtain ⟨rfl, N611, e611⟩ := hQ611
    have N612 := Fr.app N608 N611
    show own_Go p e below G (T611.setTop (mkF m 379 #[.val (.long v0), .second, .val (.int v1), .val (.int v2), .val (.int v3), .val (.long (Int64.ofNat nn)), .second, .val (.int (Int32.ofNat ni)), .val (.int (2 : Int32)), .val (.int (20 : Int32)), .val (.int (Int32.ofNat (20 - ni))), .val (.int y454), .val (.ref a455), .val (.ref a488)] [(.int (own_d nn 7)), (.int (12 : Int32)), (.ref a455)]))
    refine own_bastore X611 hx hZ e611 V607 12 rfl (by simp) (hb hby at_379) 380 rfl (fun T613 h613 X613 e613 W613 V613 => ?_)
    rw [show [y454, y454, y454, y454, (0 : Int32), (0 : Int32), (0 : Int32), (0 : Int32), (0 : Int32), (0 : Int32), (0 : Int32), (0 : Int32), (0 : Int32), (own_d nn 6), (own_d nn 5), (own_d nn 4), (own_d nn 3), (own_d nn 2), (own_d nn 1), (own_d nn 0), y454, y454, y454, y454].set 12 ((own_d nn 7).toInt8.toInt32) = [y454, y454, y454, y454, (0 : Int32), (0 : Int32), (0 : Int32), (0 : Int32), (0 : Int32), (0 : Int32), (0 : Int32), (0 : Int32), (own_d nn 7), (own_d nn 6), (own_d nn 5), (own_d nn 4), (own_d nn 3), (own_d nn 2), (own_d nn 1), (own_d nn 0), y454, y454, y454, y454] from (by rw [own_d8]; rfl)] at V613
    have N614 := Fr.snoc X613 N612 ge456
    have Z615 : n0 ≤ h613.size := by rw [W613.size]; exact Z609
    have V616 := V610.other W613 (Ne.symm ne489)
    refine own_aload X613 hx (hb hby at_380) rfl rfl 382 rfl ?_
    refine own_iload X613 hx (hb hby at_382) rfl 384 rfl ?_
    refine own_bipush X613 hx (hb hby at_384) (9 : Int32) rfl 386 rfl ?_
    refine own_isub X613 hx (hb hby at_386) 387 rfl ?_
    show own_Go p e below G (T613.setTop (mkF m 387 #[.val (.long v0), .second, .val (.int v1), .val (.int v2), .val (.int v3), .val (.long (Int64.ofNat nn)), .second, .val (.int (Int32.ofNat ni)), .val (.int (2 : Int32)), .val (.int (20 : Int32)), .val (.int (Int32.ofNat (20 - ni))), .val (.int y454), .val (.ref a455), .val (.ref a488)] [(.int (11 : Int32)), (.ref a455)]))
    refine own_lload X613 hx (hb hby at_387) rfl 389 rfl ?_
    refine own_aload X613 hx (hb hby at_389) rfl rfl 391 rfl ?_
    refine own_bipush X613 hx (hb hby at_391) (8 : Int32) rfl 393 rfl ?_
    refine own_laload X613 hx hZ e613 V616 8 rfl (100000000 : Int64) rfl (hb hby at_393) 394 rfl ?_
    refine own_callS X613 hx hZ hown (own_w hw 22 rfl) (own_w hw 23 rfl) (own_w hw 24 rfl) (own_w hw 25 rfl) (by decide) e613 (rm1 l Z a0 hw [] nn 8 (100000000 : Int64) h613 n0 hnn (by decide) (by decide)) (by rw [hml]; rfl) pd_0 (argsL := [(.long (Int64.ofNat nn)), (.long (100000000 : Int64))]) rfl (rest := [(.int (11 : Int32)), (.ref a455)]) rfl (hb hby at_394) 2 (Nat.le_of_eq rfl) (by decide) (by decide) (by decide) (by decide) 397 rfl (fun T617 L617 v617 X617 hQ617 => ?_)
    obtain ⟨rfl, N617, e617⟩ := hQ617
    have N618 := Fr.app N614 N617
    show own_Go p e below G (T617.setTop (mkF m 397 #[.val (.long v0), .second, .val (.int v1), .val (.int v2), .val (.int v3), .val (.long (Int64.ofNat nn)), .second, .val (.int (Int32.ofNat ni)), .val (.int (2 : Int32)), .val (.int (20 : Int32)), .val (.int (Int32.ofNat (20 - ni))), .val (.int y454), .val (.ref a455), .val (.ref a488)] [(.int (own_d nn 8)), (.int (11 : Int32)), (.ref a455)]))
    refine own_bastore X617 hx hZ e617 V613 11 rfl (by simp) (hb hby at_397) 398 rfl (fun T619 h619 X619 e619 W619 V619 => ?_)
    rw [show [y454, y454, y454, y454, (0 : Int32), (0 : Int32), (0 : Int32), (0 : Int32), (0 : Int32), (0 : Int32), (0 : Int32), (0 : Int32), (own_d nn 7), (own_d nn 6), (own_d nn 5), (own_d nn 4), (own_d nn 3), (own_d nn 2), (own_d nn 1), (own_d nn 0), y454, y454, y454, y454].set 11 ((own_d nn 8).toInt8.toInt32) = [y454, y454, y454, y454, (0 : Int32), (0 : Int32), (0 : Int32), (0 : Int32), (0 : Int32), (0 : Int32), (0 : Int32), (own_d nn 8), (own_d nn 7), (own_d nn 6), (own_d nn 5), (own_d nn 4), (own_d nn 3), (own_d nn 2), (own_d nn 1), (own_d nn 0), y454, y454, y454, y454] from (by rw [own_d8]; rfl)] at V619
    have N620 := Fr.snoc X619 N618 ge456
    have Z621 : n0 ≤ h619.size := by rw [W619.size]; exact Z615
    have V622 := V616.other W619 (Ne.symm ne489)
    refine own_aload X619 hx (hb hby at_398) rfl rfl 400 rfl ?_
    refine own_iload X619 hx (hb hby at_400) rfl 402 rfl ?_
    refine own_bipush X619 hx (hb hby at_402) (10 : Int32) rfl 404 rfl ?_
    refine own_isub X619 hx (hb hby at_404) 405 rfl ?_
    show own_Go p e below G (T619.setTop (mkF m 405 #[.val (.long v0), .second, .val (.int v1), .val (.int v2), .val (.int v3), .val (.long (Int64.ofNat nn)), .second, .val (.int (Int32.ofNat ni)), .val (.int (2 : Int32)), .val (.int (20 : Int32)), .val (.int (Int32.ofNat (20 - ni))), .val (.int y454), .val (.ref a455), .val (.ref a488)] [(.int (10 : Int32)), (.ref a455)]))
    refine own_lload X619 hx (hb hby at_405) rfl 407 rfl ?_
    refine own_aload X619 hx (hb hby at_407) rfl rfl 409 rfl ?_
    refine own_bipush X619 hx (hb hby at_409) (9 : Int32) rfl 411 rfl ?_
    refine own_laload X619 hx hZ e619 V622 9 rfl (1000000000 : Int64) rfl (hb hby at_411) 412 rfl ?_
    refine own_callS X619 hx hZ hown (own_w hw 22 rfl) (own_w hw 23 rfl) (own_w hw 24 rfl) (own_w hw 25 rfl) (by decide) e619 (rm1 l Z a0 hw [] nn 9 (1000000000 : Int64) h619 n0 hnn (by decide) (by decide)) (by rw [hml]; rfl) pd_0 (argsL := [(.long (Int64.ofNat nn)), (.long (1000000000 : Int64))]) rfl (rest := [(.int (10 : Int32)), (.ref a455)]) rfl (hb hby at_412) 2 (Nat.le_of_eq rfl) (by decide) (by decide) (by decide) (by decide) 415 rfl (fun T623 L623 v623 X623 hQ623 => ?_)
    obtain ⟨rfl, N623, e623⟩ := hQ623
    have N624 := Fr.app N620 N623
    show own_Go p e below G (T623.setTop (mkF m 415 #[.val (.long v0), .second, .val (.int v1), .val (.int v2), .val (.int v3), .val (.long (Int64.ofNat nn)), .second, .val (.int (Int32.ofNat ni)), .val (.int (2 : Int32)), .val (.int (20 : Int32)), .val (.int (Int32.ofNat (20 - ni))), .val (.int y454), .val (.ref a455), .val (.ref a488)] [(.int (own_d nn 9)), (.int (10 : Int32)), (.ref a455)]))
    refine own_bastore X623 hx hZ e623 V619 10 rfl (by simp) (hb hby at_415) 416 rfl (fun T625 h625 X625 e625 W625 V625 => ?_)
    rw [show [y454, y454, y454, y454, (0 : Int32), (0 : Int32), (0 : Int32), (0 : Int32), (0 : Int32), (0 : Int32), (0 : Int32), (own_d nn 8), (own_d nn 7), (own_d nn 6), (own_d nn 5), (own_d nn 4), (own_d nn 3), (own_d nn 2), (own_d nn 1), (own_d nn 0), y454, y454, y454, y454].set 10 ((own_d nn 9).toInt8.toInt32) = [y454, y454, y454, y454, (0 : Int32), (0 : Int32), (0 : Int32), (0 : Int32), (0 : Int32), (0 : Int32), (own_d nn 9), (own_d nn 8), (own_d nn 7), (own_d nn 6), (own_d nn 5), (own_d nn 4), (own_d nn 3), (own_d nn 2), (own_d nn 1), (own_d nn 0), y454, y454, y454, y454] from (by rw [own_d8]; rfl)] at V625
    have N626 := Fr.snoc X625 N624 ge456
    have Z627 : n0 ≤ h625.size := by rw [W625.size]; exact Z621
    have V628 := V622.other W625 (Ne.symm ne489)
    refine own_aload X625 hx (hb hby at_416) rfl rfl 418 rfl ?_
    refine own_iload X625 hx (hb hby at_418) rfl 420 rfl ?_
    refine own_bipush X625 hx (hb hby at_420) (11 : Int32) rfl 422 rfl ?_
    refine own_isub X625 hx (hb hby at_422) 423 rfl ?_
    show own_Go p e below G (T625.setTop (mkF m 423 #[.val (.long v0), .second, .val (.int v1), .val (.int v2), .val (.int v3), .val (.long (Int64.ofNat nn)), .second, .val (.int (Int32.ofNat ni)), .val (.int (2 : Int32)), .val (.int (20 : Int32)), .val (.int (Int32.ofNat (20 - ni))), .val (.int y454), .val (.ref a455), .val (.ref a488)] [(.int (9 : Int32)), (.ref a455)]))
    refine own_lload X625 hx (hb hby at_423) rfl 425 rfl ?_
    refine own_aload X625 hx (hb hby at_425) rfl rfl 427 rfl ?_
    refine own_bipush X625 hx (hb hby at_427) (10 : Int32) rfl 429 rfl ?_
    refine own_laload X625 hx hZ e625 V628 10 rfl (10000000000 : Int64) rfl (hb hby at_429) 430 rfl ?_
    refine own_callS X625 hx hZ hown (own_w hw 22 rfl) (own_w hw 23 rfl) (own_w hw 24 rfl) (own_w hw 25 rfl) (by decide) e625 (rm1 l Z a0 hw [] nn 10 (10000000000 : Int64) h625 n0 hnn (by decide) (by decide)) (by rw [hml]; rfl) pd_0 (argsL := [(.long (Int64.ofNat nn)), (.long (10000000000 : Int64))]) rfl (rest := [(.int (9 : Int32)), (.ref a455)]) rfl (hb hby at_430) 2 (Nat.le_of_eq rfl) (by decide) (by decide) (by decide) (by decide) 433 rfl (fun T629 L629 v629 X629 hQ629 => ?_)
    obtain ⟨rfl, N629, e629⟩ := hQ629
    have N630 := Fr.app N626 N629
    show own_Go p e below G (T629.setTop (mkF m 433 #[.val (.long v0), .second, .val (.int v1), .val (.int v2), .val (.int v3), .val (.long (Int64.ofNat nn)), .second, .val (.int (Int32.ofNat ni)), .val (.int (2 : Int32)), .val (.int (20 : Int32)), .val (.int (Int32.ofNat (20 - ni))), .val (.int y454), .val (.ref a455), .val (.ref a488)] [(.int (own_d nn 10)), (.int (9 : Int32)), (.ref a455)]))
    refine own_bastore X629 hx hZ e629 V625 9 rfl (by simp) (hb hby at_433) 434 rfl (fun T631 h631 X631 e631 W631 V631 => ?_)
    rw [show [y454, y454, y454, y454, (0 : Int32), (0 : Int32), (0 : Int32), (0 : Int32), (0 : Int32), (0 : Int32), (own_d nn 9), (own_d nn 8), (own_d nn 7), (own_d nn 6), (own_d nn 5), (own_d nn 4), (own_d nn 3), (own_d nn 2), (own_d nn 1), (own_d nn 0), y454, y454, y454, y454].set 9 ((own_d nn 10).toInt8.toInt32) = [y454, y454, y454, y454, (0 : Int32), (0 : Int32), (0 : Int32), (0 : Int32), (0 : Int32), (own_d nn 10), (own_d nn 9), (own_d nn 8), (own_d nn 7), (own_d nn 6), (own_d nn 5), (own_d nn 4), (own_d nn 3), (own_d nn 2), (own_d nn 1), (own_d nn 0), y454, y454, y454, y454] from (by rw [own_d8]; rfl)] at V631
    have N632 := Fr.snoc X631 N630 ge456
    have Z633 : n0 ≤ h631.size := by rw [W631.size]; exact Z627
    have V634 := V628.other W631 (Ne.symm ne489)
    refine own_aload X631 hx (hb hby at_434) rfl rfl 436 rfl ?_
    refine own_iload X631 hx (hb hby at_436) rfl 438 rfl ?_
    refine own_bipush X631 hx (hb hby at_438) (12 : Int32) rfl 440 rfl ?_
    refine own_isub X631 hx (hb hby at_440) 441 rfl ?_
    show own_Go p e below G (T631.setTop (mkF m 441 #[.val (.long v0), .second, .val (.int v1), .val (.int v2), .val (.int v3), .val (.long (Int64.ofNat nn)), .second, .val (.int (Int32.ofNat ni)), .val (.int (2 : Int32)), .val (.int (20 : Int32)), .val (.int (Int32.ofNat (20 - ni))), .val (.int y454), .val (.ref a455), .val (.ref a488)] [(.int (8 : Int32)), (.ref a455)]))
    refine own_lload X631 hx (hb hby at_441) rfl 443 rfl ?_
    refine own_aload X631 hx (hb hby at_443) rfl rfl 445 rfl ?_
    refine own_bipush X631 hx (hb hby at_445) (11 : Int32) rfl 447 rfl ?_
    refine own_laload X631 hx hZ e631 V634 11 rfl (100000000000 : Int64) rfl (hb hby at_447) 448 rfl ?_
    refine own_callS X631 hx hZ hown (own_w hw 22 rfl) (own_w hw 23 rfl) (own_w hw 24 rfl) (own_w hw 25 rfl) (by decide) e631 (rm1 l Z a0 hw [] nn 11 (100000000000 : Int64) h631 n0 hnn (by decide) (by decide)) (by rw [hml]; rfl) pd_0 (argsL := [(.long (Int64.ofNat nn)), (.long (100000000000 : Int64))]) rfl (rest := [(.int (8 : Int32)), (.ref a455)]) rfl (hb hby at_448) 2 (Nat.le_of_eq rfl) (by decide) (by decide) (by decide) (by decide) 451 rfl (fun T635 L635 v635 X635 hQ635 => ?_)
    obtain ⟨rfl, N635, e635⟩ := hQ635
    have N636 := Fr.app N632 N635
    show own_Go p e below G (T635.setTop (mkF m 451 #[.val (.long v0), .second, .val (.int v1), .val (.int v2), .val (.int v3), .val (.long (Int64.ofNat nn)), .second, .val (.int (Int32.ofNat ni)), .val (.int (2 : Int32)), .val (.int (20 : Int32)), .val (.int (Int32.ofNat (20 - ni))), .val (.int y454), .val (.ref a455), .val (.ref a488)] [(.int (own_d nn 11)), (.int (8 : Int32)), (.ref a455)]))
    refine own_bastore X635 hx hZ e635 V631 8 rfl (by simp) (hb hby at_451) 452 rfl (fun T637 h637 X637 e637 W637 V637 => ?_)
    rw [show [y454, y454, y454, y454, (0 : Int32), (0 : Int32), (0 : Int32), (0 : Int32), (0 : Int32), (own_d nn 10), (own_d nn 9), (own_d nn 8), (own_d nn 7), (own_d nn 6), (own_d nn 5), (own_d nn 4), (own_d nn 3), (own_d nn 2), (own_d nn 1), (own_d nn 0), y454, y454, y454, y454].set 8 ((own_d nn 11).toInt8.toInt32) = [y454, y454, y454, y454, (0 : Int32), (0 : Int32), (0 : Int32), (0 : Int32), (own_d nn 11), (own_d nn 10), (own_d nn 9), (own_d nn 8), (own_d nn 7), (own_d nn 6), (own_d nn 5), (own_d nn 4), (own_d nn 3), (own_d nn 2), (own_d nn 1), (own_d nn 0), y454, y454, y454, y454] from (by rw [own_d8]; rfl)] at V637
    have N638 := Fr.snoc X637 N636 ge456
    have Z639 : n0 ≤ h637.size := by rw [W637.size]; exact Z633
    have V640 := V634.other W637 (Ne.symm ne489)
    refine own_aload X637 hx (hb hby at_452) rfl rfl 454 rfl ?_
    refine own_iload X637 hx (hb hby at_454) rfl 456 rfl ?_
    refine own_bipush X637 hx (hb hby at_456) (13 : Int32) rfl 458 rfl ?_
    refine own_isub X637 hx (hb hby at_458) 459 rfl ?_
    show own_Go p e below G (T637.setTop (mkF m 459 #[.val (.long v0), .second, .val (.int v1), .val (.int v2), .val (.int v3), .val (.long (Int64.ofNat nn)), .second, .val (.int (Int32.ofNat ni)), .val (.int (2 : Int32)), .val (.int (20 : Int32)), .val (.int (Int32.ofNat (20 - ni))), .val (.int y454), .val (.ref a455), .val (.ref a488)] [(.int (7 : Int32)), (.ref a455)]))
    refine own_lload X637 hx (hb hby at_459) rfl 461 rfl ?_
    refine own_aload X637 hx (hb hby at_461) rfl rfl 463 rfl ?_
    refine own_bipush X637 hx (hb hby at_463) (12 : Int32) rfl 465 rfl ?_
    refine own_laload X637 hx hZ e637 V640 12 rfl (1000000000000 : Int64) rfl (hb hby at_465) 466 rfl ?_
    refine own_callS X637 hx hZ hown (own_w hw 22 rfl) (own_w hw 23 rfl) (own_w hw 24 rfl) (own_w hw 25 rfl) (by decide) e637 (rm1 l Z a0 hw [] nn 12 (1000000000000 : Int64) h637 n0 hnn (by decide) (by decide)) (by rw [hml]; rfl) pd_0 (argsL := [(.long (Int64.ofNat nn)), (.long (1000000000000 : Int64))]) rfl (rest := [(.int (7 : Int32)), (.ref a455)]) rfl (hb hby at_466) 2 (Nat.le_of_eq rfl) (by decide) (by decide) (by decide) (by decide) 469 rfl (fun T641 L641 v641 X641 hQ641 => ?_)
    obtain ⟨rfl, N641, e641⟩ := hQ641
    have N642 := Fr.app N638 N641
    show own_Go p e below G (T641.setTop (mkF m 469 #[.val (.long v0), .second, .val (.int v1), .val (.int v2), .val (.int v3), .val (.long (Int64.ofNat nn)), .second, .val (.int (Int32.ofNat ni)), .val (.int (2 : Int32)), .val (.int (20 : Int32)), .val (.int (Int32.ofNat (20 - ni))), .val (.int y454), .val (.ref a455), .val (.ref a488)] [(.int (own_d nn 12)), (.int (7 : Int32)), (.ref a455)]))
    refine own_bastore X641 hx hZ e641 V637 7 rfl (by simp) (hb hby at_469) 470 rfl (fun T643 h643 X643 e643 W643 V643 => ?_)
    rw [show [y454, y454, y454, y454, (0 : Int32), (0 : Int32), (0 : Int32), (0 : Int32), (own_d nn 11), (own_d nn 10), (own_d nn 9), (own_d nn 8), (own_d nn 7), (own_d nn 6), (own_d nn 5), (own_d nn 4), (own_d nn 3), (own_d nn 2), (own_d nn 1), (own_d nn 0), y454, y454, y454, y454].set 7 ((own_d nn 12).toInt8.toInt32) = [y454, y454, y454, y454, (0 : Int32), (0 : Int32), (0 : Int32), (own_d nn 12), (own_d nn 11), (own_d nn 10), (own_d nn 9), (own_d nn 8), (own_d nn 7), (own_d nn 6), (own_d nn 5), (own_d nn 4), (own_d nn 3), (own_d nn 2), (own_d nn 1), (own_d nn 0), y454, y454, y454, y454] from (by rw [own_d8]; rfl)] at V643
    have N644 := Fr.snoc X643 N642 ge456
    have Z645 : n0 ≤ h643.size := by rw [W643.size]; exact Z639
    have V646 := V640.other W643 (Ne.symm ne489)
    refine own_aload X643 hx (hb hby at_470) rfl rfl 472 rfl ?_
    refine own_iload X643 hx (hb hby at_472) rfl 474 rfl ?_
    refine own_bipush X643 hx (hb hby at_474) (14 : Int32) rfl 476 rfl ?_
    refine own_isub X643 hx (hb hby at_476) 477 rfl ?_
    show own_Go p e below G (T643.setTop (mkF m 477 #[.val (.long v0), .second, .val (.int v1), .val (.int v2), .val (.int v3), .val (.long (Int64.ofNat nn)), .second, .val (.int (Int32.ofNat ni)), .val (.int (2 : Int32)), .val (.int (20 : Int32)), .val (.int (Int32.ofNat (20 - ni))), .val (.int y454), .val (.ref a455), .val (.ref a488)] [(.int (6 : Int32)), (.ref a455)]))
    refine own_lload X643 hx (hb hby at_477) rfl 479 rfl ?_
    refine own_aload X643 hx (hb hby at_479) rfl rfl 481 rfl ?_
    refine own_bipush X643 hx (hb hby at_481) (13 : Int32) rfl 483 rfl ?_
    refine own_laload X643 hx hZ e643 V646 13 rfl (10000000000000 : Int64) rfl (hb hby at_483) 484 rfl ?_
    refine own_callS X643 hx hZ hown (own_w hw 22 rfl) (own_w hw 23 rfl) (own_w hw 24 rfl) (own_w hw 25 rfl) (by decide) e643 (rm1 l Z a0 hw [] nn 13 (10000000000000 : Int64) h643 n0 hnn (by decide) (by decide)) (by rw [hml]; rfl) pd_0 (argsL := [(.long (Int64.ofNat nn)), (.long (10000000000000 : Int64))]) rfl (rest := [(.int (6 : Int32)), (.ref a455)]) rfl (hb hby at_484) 2 (Nat.le_of_eq rfl) (by decide) (by decide) (by decide) (by decide) 487 rfl (fun T647 L647 v647 X647 hQ647 => ?_)
    obtain ⟨rfl, N647, e647⟩ := hQ647
    have N648 := Fr.app N644 N647
    show own_Go p e below G (T647.setTop (mkF m 487 #[.val (.long v0), .second, .val (.int v1), .val (.int v2), .val (.int v3), .val (.long (Int64.ofNat nn)), .second, .val (.int (Int32.ofNat ni)), .val (.int (2 : Int32)), .val (.int (20 : Int32)), .val (.int (Int32.ofNat (20 - ni))), .val (.int y454), .val (.ref a455), .val (.ref a488)] [(.int (own_d nn 13)), (.int (6 : Int32)), (.ref a455)]))
    refine own_bastore X647 hx hZ e647 V643 6 rfl (by simp) (hb hby at_487) 488 rfl (fun T649 h649 X649 e649 W649 V649 => ?_)
    rw [show [y454, y454, y454, y454, (0 : Int32), (0 : Int32), (0 : Int32), (own_d nn 12), (own_d nn 11), (own_d nn 10), (own_d nn 9), (own_d nn 8), (own_d nn 7), (own_d nn 6), (own_d nn 5), (own_d nn 4), (own_d nn 3), (own_d nn 2), (own_d nn 1), (own_d nn 0), y454, y454, y454, y454].set 6 ((own_d nn 13).toInt8.toInt32) = [y454, y454, y454, y454, (0 : Int32), (0 : Int32), (own_d nn 13), (own_d nn 12), (own_d nn 11), (own_d nn 10), (own_d nn 9), (own_d nn 8), (own_d nn 7), (own_d nn 6), (own_d nn 5), (own_d nn 4), (own_d nn 3), (own_d nn 2), (own_d nn 1), (own_d nn 0), y454, y454, y454, y454] from (by rw [own_d8]; rfl)] at V649
    have N650 := Fr.snoc X649 N648 ge456
    have Z651 : n0 ≤ h649.size := by rw [W649.size]; exact Z645
    have V652 := V646.other W649 (Ne.symm ne489)
    refine own_aload X649 hx (hb hby at_488) rfl rfl 490 rfl ?_
    refine own_iload X649 hx (hb hby at_490) rfl 492 rfl ?_
    refine own_bipush X649 hx (hb hby at_492) (15 : Int32) rfl 494 rfl ?_
    refine own_isub X649 hx (hb hby at_494) 495 rfl ?_
    show own_Go p e below G (T649.setTop (mkF m 495 #[.val (.long v0), .second, .val (.int v1), .val (.int v2), .val (.int v3), .val (.long (Int64.ofNat nn)), .second, .val (.int (Int32.ofNat ni)), .val (.int (2 : Int32)), .val (.int (20 : Int32)), .val (.int (Int32.ofNat (20 - ni))), .val (.int y454), .val (.ref a455), .val (.ref a488)] [(.int (5 : Int32)), (.ref a455)]))
    refine own_lload X649 hx (hb hby at_495) rfl 497 rfl ?_
    refine own_aload X649 hx (hb hby at_497) rfl rfl 499 rfl ?_
    refine own_bipush X649 hx (hb hby at_499) (14 : Int32) rfl 501 rfl ?_
    refine own_laload X649 hx hZ e649 V652 14 rfl (100000000000000 : Int64) rfl (hb hby at_501) 502 rfl ?_
    refine own_callS X649 hx hZ hown (own_w hw 22 rfl) (own_w hw 23 rfl) (own_w hw 24 rfl) (own_w hw 25 rfl) (by decide) e649 (rm1 l Z a0 hw [] nn 14 (100000000000000 : Int64) h649 n0 hnn (by decide) (by decide)) (by rw [hml]; rfl) pd_0 (argsL := [(.long (Int64.ofNat nn)), (.long (100000000000000 : Int64))]) rfl (rest := [(.int (5 : Int32)), (.ref a455)]) rfl (hb hby at_502) 2 (Nat.le_of_eq rfl) (by decide) (by decide) (by decide) (by decide) 505 rfl (fun T653 L653 v653 X653 hQ653 => ?_)
    obtain ⟨rfl, N653, e653⟩ := hQ653
    have N654 := Fr.app N650 N653
    show own_Go p e below G (T653.setTop (mkF m 505 #[.val (.long v0), .second, .val (.int v1), .val (.int v2), .val (.int v3), .val (.long (Int64.ofNat nn)), .second, .val (.int (Int32.ofNat ni)), .val (.int (2 : Int32)), .val (.int (20 : Int32)), .val (.int (Int32.ofNat (20 - ni))), .val (.int y454), .val (.ref a455), .val (.ref a488)] [(.int (own_d nn 14)), (.int (5 : Int32)), (.ref a455)]))
    refine own_bastore X653 hx hZ e653 V649 5 rfl (by simp) (hb hby at_505) 506 rfl (fun T655 h655 X655 e655 W655 V655 => ?_)
    rw [show [y454, y454, y454, y454, (0 : Int32), (0 : Int32), (own_d nn 13), (own_d nn 12), (own_d nn 11), (own_d nn 10), (own_d nn 9), (own_d nn 8), (own_d nn 7), (own_d nn 6), (own_d nn 5), (own_d nn 4), (own_d nn 3), (own_d nn 2), (own_d nn 1), (own_d nn 0), y454, y454, y454, y454].set 5 ((own_d nn 14).toInt8.toInt32) = [y454, y454, y454, y454, (0 : Int32), (own_d nn 14), (own_d nn 13), (own_d nn 12), (own_d nn 11), (own_d nn 10), (own_d nn 9), (own_d nn 8), (own_d nn 7), (own_d nn 6), (own_d nn 5), (own_d nn 4), (own_d nn 3), (own_d nn 2), (own_d nn 1), (own_d nn 0), y454, y454, y454, y454] from (by rw [own_d8]; rfl)] at V655
    have N656 := Fr.snoc X655 N654 ge456
    have Z657 : n0 ≤ h655.size := by rw [W655.size]; exact Z651
    have V658 := V652.other W655 (Ne.symm ne489)
    refine own_aload X655 hx (hb hby at_506) rfl rfl 508 rfl ?_
    refine own_iload X655 hx (hb hby at_508) rfl 510 rfl ?_
    refine own_bipush X655 hx (hb hby at_510) (16 : Int32) rfl 512 rfl ?_
    refine own_isub X655 hx (hb hby at_512) 513 rfl ?_
    show own_Go p e below G (T655.setTop (mkF m 513 #[.val (.long v0), .second, .val (.int v1), .val (.int v2), .val (.int v3), .val (.long (Int64.ofNat nn)), .second, .val (.int (Int32.ofNat ni)), .val (.int (2 : Int32)), .val (.int (20 : Int32)), .val (.int (Int32.ofNat (20 - ni))), .val (.int y454), .val (.ref a455), .val (.ref a488)] [(.int (4 : Int32)), (.ref a455)]))
    refine own_lload X655 hx (hb hby at_513) rfl 515 rfl ?_
    refine own_aload X655 hx (hb hby at_515) rfl rfl 517 rfl ?_
    refine own_bipush X655 hx (hb hby at_517) (15 : Int32) rfl 519 rfl ?_
    refine own_laload X655 hx hZ e655 V658 15 rfl (1000000000000000 : Int64) rfl (hb hby at_519) 520 rfl ?_
    refine own_callS X655 hx hZ hown (own_w hw 22 rfl) (own_w hw 23 rfl) (own_w hw 24 rfl) (own_w hw 25 rfl) (by decide) e655 (rm1 l Z a0 hw [] nn 15 (1000000000000000 : Int64) h655 n0 hnn (by decide) (by decide)) (by rw [hml]; rfl) pd_0 (argsL := [(.long (Int64.ofNat nn)), (.long (1000000000000000 : Int64))]) rfl (rest := [(.int (4 : Int32)), (.ref a455)]) rfl (hb hby at_520) 2 (Nat.le_of_eq rfl) (by decide) (by decide) (by decide) (by decide) 523 rfl (fun T659 L659 v659 X659 hQ659 => ?_)
    obtain ⟨rfl, N659, e659⟩ := hQ659
    have N660 := Fr.app N656 N659
    show own_Go p e below G (T659.setTop (mkF m 523 #[.val (.long v0), .second, .val (.int v1), .val (.int v2), .val (.int v3), .val (.long (Int64.ofNat nn)), .second, .val (.int (Int32.ofNat ni)), .val (.int (2 : Int32)), .val (.int (20 : Int32)), .val (.int (Int32.ofNat (20 - ni))), .val (.int y454), .val (.ref a455), .val (.ref a488)] [(.int (own_d nn 15)), (.int (4 : Int32)), (.ref a455)]))
    refine own_bastore X659 hx hZ e659 V655 4 rfl (by simp) (hb hby at_523) 524 rfl (fun T661 h661 X661 e661 W661 V661 => ?_)
    rw [show [y454, y454, y454, y454, (0 : Int32), (own_d nn 14), (own_d nn 13), (own_d nn 12), (own_d nn 11), (own_d nn 10), (own_d nn 9), (own_d nn 8), (own_d nn 7), (own_d nn 6), (own_d nn 5), (own_d nn 4), (own_d nn 3), (own_d nn 2), (own_d nn 1), (own_d nn 0), y454, y454, y454, y454].set 4 ((own_d nn 15).toInt8.toInt32) = [y454, y454, y454, y454, (own_d nn 15), (own_d nn 14), (own_d nn 13), (own_d nn 12), (own_d nn 11), (own_d nn 10), (own_d nn 9), (own_d nn 8), (own_d nn 7), (own_d nn 6), (own_d nn 5), (own_d nn 4), (own_d nn 3), (own_d nn 2), (own_d nn 1), (own_d nn 0), y454, y454, y454, y454] from (by rw [own_d8]; rfl)] at V661
    have N662 := Fr.snoc X661 N660 ge456
    have Z663 : n0 ≤ h661.size := by rw [W661.size]; exact Z657
    have V664 := V658.other W661 (Ne.symm ne489)
    refine own_aload X661 hx (hb hby at_524) rfl rfl 526 rfl ?_
    refine own_iload X661 hx (hb hby at_526) rfl 528 rfl ?_
    refine own_bipush X661 hx (hb hby at_528) (17 : Int32) rfl 530 rfl ?_
    refine own_isub X661 hx (hb hby at_530) 531 rfl ?_
    show own_Go p e below G (T661.setTop (mkF m 531 #[.val (.long v0), .second, .val (.int v1), .val (.int v2), .val (.int v3), .val (.long (Int64.ofNat nn)), .second, .val (.int (Int32.ofNat ni)), .val (.int (2 : Int32)), .val (.int (20 : Int32)), .val (.int (Int32.ofNat (20 - ni))), .val (.int y454), .val (.ref a455), .val (.ref a488)] [(.int (3 : Int32)), (.ref a455)]))
    refine own_lload X661 hx (hb hby at_531) rfl 533 rfl ?_
    refine own_aload X661 hx (hb hby at_533) rfl rfl 535 rfl ?_
    refine own_bipush X661 hx (hb hby at_535) (16 : Int32) rfl 537 rfl ?_
    refine own_laload X661 hx hZ e661 V664 16 rfl (10000000000000000 : Int64) rfl (hb hby at_537) 538 rfl ?_
    refine own_callS X661 hx hZ hown (own_w hw 22 rfl) (own_w hw 23 rfl) (own_w hw 24 rfl) (own_w hw 25 rfl) (by decide) e661 (rm1 l Z a0 hw [] nn 16 (10000000000000000 : Int64) h661 n0 hnn (by decide) (by decide)) (by rw [hml]; rfl) pd_0 (argsL := [(.long (Int64.ofNat nn)), (.long (10000000000000000 : Int64))]) rfl (rest := [(.int (3 : Int32)), (.ref a455)]) rfl (hb hby at_538) 2 (Nat.le_of_eq rfl) (by decide) (by decide) (by decide) (by decide) 541 rfl (fun T665 L665 v665 X665 hQ665 => ?_)
    obtain ⟨rfl, N665, e665⟩ := hQ665
    have N666 := Fr.app N662 N665
    show own_Go p e below G (T665.setTop (mkF m 541 #[.val (.long v0), .second, .val (.int v1), .val (.int v2), .val (.int v3), .val (.long (Int64.ofNat nn)), .second, .val (.int (Int32.ofNat ni)), .val (.int (2 : Int32)), .val (.int (20 : Int32)), .val (.int (Int32.ofNat (20 - ni))), .val (.int y454), .val (.ref a455), .val (.ref a488)] [(.int (own_d nn 16)), (.int (3 : Int32)), (.ref a455)]))
    refine own_bastore X665 hx hZ e665 V661 3 rfl (by simp) (hb hby at_541) 542 rfl (fun T667 h667 X667 e667 W667 V667 => ?_)
    rw [show [y454, y454, y454, y454, (own_d nn 15), (own_d nn 14), (own_d nn 13), (own_d nn 12), (own_d nn 11), (own_d nn 10), (own_d nn 9), (own_d nn 8), (own_d nn 7), (own_d nn 6), (own_d nn 5), (own_d nn 4), (own_d nn 3), (own_d nn 2), (own_d nn 1), (own_d nn 0), y454, y454, y454, y454].set 3 ((own_d nn 16).toInt8.toInt32) = [y454, y454, y454, (own_d nn 16), (own_d nn 15), (own_d nn 14), (own_d nn 13), (own_d nn 12), (own_d nn 11), (own_d nn 10), (own_d nn 9), (own_d nn 8), (own_d nn 7), (own_d nn 6), (own_d nn 5), (own_d nn 4), (own_d nn 3), (own_d nn 2), (own_d nn 1), (own_d nn 0), y454, y454, y454, y454] from (by rw [own_d8]; rfl)] at V667
    have N668 := Fr.snoc X667 N666 ge456
    have Z669 : n0 ≤ h667.size := by rw [W667.size]; exact Z663
    have V670 := V664.other W667 (Ne.symm ne489)
    refine own_aload X667 hx (hb hby at_542) rfl rfl 544 rfl ?_
    refine own_iload X667 hx (hb hby at_544) rfl 546 rfl ?_
    refine own_bipush X667 hx (hb hby at_546) (18 : Int32) rfl 548 rfl ?_
    refine own_isub X667 hx (hb hby at_548) 549 rfl ?_
    show own_Go p e below G (T667.setTop (mkF m 549 #[.val (.long v0), .second, .val (.int v1), .val (.int v2), .val (.int v3), .val (.long (Int64.ofNat nn)), .second, .val (.int (Int32.ofNat ni)), .val (.int (2 : Int32)), .val (.int (20 : Int32)), .val (.int (Int32.ofNat (20 - ni))), .val (.int y454), .val (.ref a455), .val (.ref a488)] [(.int (2 : Int32)), (.ref a455)]))
    refine own_lload X667 hx (hb hby at_549) rfl 551 rfl ?_
    refine own_aload X667 hx (hb hby at_551) rfl rfl 553 rfl ?_
    refine own_bipush X667 hx (hb hby at_553) (17 : Int32) rfl 555 rfl ?_
    refine own_laload X667 hx hZ e667 V670 17 rfl (100000000000000000 : Int64) rfl (hb hby at_555) 556 rfl ?_
    refine own_callS X667 hx hZ hown (own_w hw 22 rfl) (own_w hw 23 rfl) (own_w hw 24 rfl) (own_w hw 25 rfl) (by decide) e667 (rm1 l Z a0 hw [] nn 17 (100000000000000000 : Int64) h667 n0 hnn (by decide) (by decide)) (by rw [hml]; rfl) pd_0 (argsL := [(.long (Int64.ofNat nn)), (.long (100000000000000000 : Int64))]) rfl (rest := [(.int (2 : Int32)), (.ref a455)]) rfl (hb hby at_556) 2 (Nat.le_of_eq rfl) (by decide) (by decide) (by decide) (by decide) 559 rfl (fun T671 L671 v671 X671 hQ671 => ?_)
    obtain ⟨rfl, N671, e671⟩ := hQ671
    have N672 := Fr.app N668 N671
    show own_Go p e below G (T671.setTop (mkF m 559 #[.val (.long v0), .second, .val (.int v1), .val (.int v2), .val (.int v3), .val (.long (Int64.ofNat nn)), .second, .val (.int (Int32.ofNat ni)), .val (.int (2 : Int32)), .val (.int (20 : Int32)), .val (.int (Int32.ofNat (20 - ni))), .val (.int y454), .val (.ref a455), .val (.ref a488)] [(.int (own_d nn 17)), (.int (2 : Int32)), (.ref a455)]))
    refine own_bastore X671 hx hZ e671 V667 2 rfl (by simp) (hb hby at_559) 560 rfl (fun T673 h673 X673 e673 W673 V673 => ?_)
    rw [show [y454, y454, y454, (own_d nn 16), (own_d nn 15), (own_d nn 14), (own_d nn 13), (own_d nn 12), (own_d nn 11), (own_d nn 10), (own_d nn 9), (own_d nn 8), (own_d nn 7), (own_d nn 6), (own_d nn 5), (own_d nn 4), (own_d nn 3), (own_d nn 2), (own_d nn 1), (own_d nn 0), y454, y454, y454, y454].set 2 ((own_d nn 17).toInt8.toInt32) = [y454, y454, (own_d nn 17), (own_d nn 16), (own_d nn 15), (own_d nn 14), (own_d nn 13), (own_d nn 12), (own_d nn 11), (own_d nn 10), (own_d nn 9), (own_d nn 8), (own_d nn 7), (own_d nn 6), (own_d nn 5), (own_d nn 4), (own_d nn 3), (own_d nn 2), (own_d nn 1), (own_d nn 0), y454, y454, y454, y454] from (by rw [own_d8]; rfl)] at V673
    have N674 := Fr.snoc X673 N672 ge456
    have Z675 : n0 ≤ h673.size := by rw [W673.size]; exact Z669
    have V676 := V670.other W673 (Ne.symm ne489)
    refine own_aload X673 hx (hb hby at_560) rfl rfl 562 rfl ?_
    refine own_iload X673 hx (hb hby at_562) rfl 564 rfl ?_
    refine own_iload X673 hx (hb hby at_564) rfl 566 rfl ?_
    refine own_callS X673 hx hZ hown (own_w hw 27 rfl) (own_w hw 28 rfl) (own_w hw 29 rfl) (own_w hw 30 rfl) (by decide) e673 (rm2 l Z a0 hw [] a455 (20 - ni) 20 [y454, y454, (own_d nn 17), (own_d nn 16), (own_d nn 15), (own_d nn 14), (own_d nn 13), (own_d nn 12), (own_d nn 11), (own_d nn 10), (own_d nn 9), (own_d nn 8), (own_d nn 7), (own_d nn 6), (own_d nn 5), (own_d nn 4), (own_d nn 3), (own_d nn 2), (own_d nn 1), (own_d nn 0), y454, y454, y454, y454] h673 n0 (by omega) (by simp) V673) (by rw [hml]; rfl) pd_1 (argsL := [(.ref a455), (.int (Int32.ofNat (20 - ni))), (.int (20 : Int32))]) rfl (rest := []) rfl (hb hby at_566) 0 (Nat.le_of_eq rfl) (by decide) (by decide) (by decide) (by decide) 569 rfl (fun T677 L677 v677 X677 hQ677 => ?_)
    obtain ⟨rfl, N677, e677⟩ := hQ677
    have N678 := Fr.app N674 N677
    show own_Go p e below G (T677.setTop (mkF m 569 #[.val (.long v0), .second, .val (.int v1), .val (.int v2), .val (.int v3), .val (.long (Int64.ofNat nn)), .second, .val (.int (Int32.ofNat ni)), .val (.int (2 : Int32)), .val (.int (20 : Int32)), .val (.int (Int32.ofNat (20 - ni))), .val (.int y454), .val (.ref a455), .val (.ref a488)] [(.long ((own_slice [y454, y454, (own_d nn 17), (own_d nn 16), (own_d nn 15), (own_d nn 14), (own_d nn 13), (own_d nn 12), (own_d nn 11), (own_d nn 10), (own_d nn 9), (own_d nn 8), (own_d nn 7), (own_d nn 6), (own_d nn 5), (own_d nn 4), (own_d nn 3), (own_d nn 2), (own_d nn 1), (own_d nn 0), y454, y454, y454, y454] (20 - ni) 20).foldl own_lv 0))]))
    refine own_lload X677 hx (hb hby at_569) rfl 571 rfl ?_
    refine own_aload X677 hx (hb hby at_571) rfl rfl 573 rfl ?_
    refine own_iload X677 hx (hb hby at_573) rfl 575 rfl ?_
    refine own_laload X677 hx hZ e677 V676 ni rfl xx hxx (hb hby at_575) 576 rfl ?_
    refine own_lrem X677 hx (hb hby at_576) hxz 577 rfl ?_
    refine own_lcmp X677 hx (hb hby at_577) 578 rfl ?_
    have hsl : own_slice [y454, y454, (own_d nn 17), (own_d nn 16), (own_d nn 15), (own_d nn 14), (own_d nn 13), (own_d nn 12), (own_d nn 11), (own_d nn 10), (own_d nn 9), (own_d nn 8), (own_d nn 7), (own_d nn 6), (own_d nn 5), (own_d nn 4), (own_d nn 3), (own_d nn 2), (own_d nn 1), (own_d nn 0), y454, y454, y454, y454] (20 - ni) 20 = own_D nn ni := by
      have q : ni = 0 ∨ ni = 1 ∨ ni = 2 ∨ ni = 3 ∨ ni = 4 ∨ ni = 5 ∨ ni = 6 ∨ ni = 7 ∨ ni = 8 ∨ ni = 9 ∨ ni = 10 ∨ ni = 11 ∨ ni = 12 ∨ ni = 13 ∨ ni = 14 ∨ ni = 15 ∨ ni = 16 ∨ ni = 17 ∨ ni = 18 := by omega
      rcases q with rfl | rfl | rfl | rfl | rfl | rfl | rfl | rfl | rfl | rfl | rfl | rfl | rfl | rfl | rfl | rfl | rfl | rfl | rfl <;> rfl
    refine own_ifN X677 hx (hb hby at_578) (own_eqL (by rw [hsl]; exact own_end hnn hxi)).2 581 rfl ?_
    refine own_iconst X677 hx (hb hby at_581) (1 : Int32) rfl 582 rfl ?_
    refine own_goto X677 hx (hb hby at_582) 586 ⟨by decide, by decide⟩ ?_
    refine own_nreturn X677 hx Bd.notSynchronized hG Bd.returns (by simp) (hb hby at_586) (by decide) (by decide) ?_
    rw [e677]
    exact ⟨rfl, N678⟩
  ·
    refine own_iload X0 hx (hb hby at_25) rfl 27 rfl ?_
    refine own_bipush X0 hx (hb hby at_27) (18 : Int32) rfl 29 rfl ?_
    refine own_iadd X0 hx (hb hby at_29) 30 rfl ?_
    show own_Go p e below G (s₁.setTop (mkF m 30 #[.val (.long v0), .second, .val (.int v1), .val (.int v2), .val (.int v3), .val (.long (Int64.ofNat nn)), .second, .val (.int (Int32.ofNat ni)), .val (.int (3 : Int32)), .unset, .unset, .unset, .unset, .unset] [(.int (21 : Int32))]))
    refine own_istore X0 hx (hb hby at_30) #[.val (.long v0), .second, .val (.int v1), .val (.int v2), .val (.int v3), .val (.long (Int64.ofNat nn)), .second, .val (.int (Int32.ofNat ni)), .val (.int (3 : Int32)), .val (.int (21 : Int32)), .unset, .unset, .unset, .unset] rfl 32 rfl ?_
    refine own_iload X0 hx (hb hby at_32) rfl 34 rfl ?_
    refine own_iload X0 hx (hb hby at_34) rfl 36 rfl ?_
    refine own_isub X0 hx (hb hby at_36) 37 rfl ?_
    rw [show (21 : Int32) - Int32.ofNat ni = Int32.ofNat (21 - ni) from own_sub32 (i := ni) (j := 21) (by omega)]
    refine own_istore X0 hx (hb hby at_37) #[.val (.long v0), .second, .val (.int v1), .val (.int v2), .val (.int v3), .val (.long (Int64.ofNat nn)), .second, .val (.int (Int32.ofNat ni)), .val (.int (3 : Int32)), .val (.int (21 : Int32)), .val (.int (Int32.ofNat (21 - ni))), .unset, .unset, .unset] rfl 39 rfl ?_
    refine own_iload X0 hx (hb hby at_39) rfl 41 rfl ?_
    refine own_i2b X0 hx (hb hby at_41) 42 rfl ?_
    generalize hy679 : (v3).toInt8.toInt32 = y679
    refine own_istore X0 hx (hb hby at_42) #[.val (.long v0), .second, .val (.int v1), .val (.int v2), .val (.int v3), .val (.long (Int64.ofNat nn)), .second, .val (.int (Int32.ofNat ni)), .val (.int (3 : Int32)), .val (.int (21 : Int32)), .val (.int (Int32.ofNat (21 - ni))), .val (.int y679), .unset, .unset] rfl 44 rfl ?_
    refine own_bipush X0 hx (hb hby at_44) (24 : Int32) rfl 46 rfl ?_
    refine own_newB X0 hx hZ (own_w hw 3 rfl) e0 (hb hby at_46) 24 rfl 24 (by decide) (by decide) (by decide) (by decide) 48 rfl (fun T680 h680 a680 g680 X680 e680 E680 V680 => ?_)
    have ge681 : n0 ≤ a680 := by rw [g680]; exact Z0
    have Z682 : n0 ≤ h680.size := Nat.le_trans Z0 E680.1
    rw [show (List.replicate 24 (0 : Int32)) = [(0 : Int32), (0 : Int32), (0 : Int32), (0 : Int32), (0 : Int32), (0 : Int32), (0 : Int32), (0 : Int32), (0 : Int32), (0 : Int32), (0 : Int32), (0 : Int32), (0 : Int32), (0 : Int32), (0 : Int32), (0 : Int32), (0 : Int32), (0 : Int32), (0 : Int32), (0 : Int32), (0 : Int32), (0 : Int32), (0 : Int32), (0 : Int32)] from rfl] at V680
    refine own_astore X680 hx (hb hby at_48) rfl #[.val (.long v0), .second, .val (.int v1), .val (.int v2), .val (.int v3), .val (.long (Int64.ofNat nn)), .second, .val (.int (Int32.ofNat ni)), .val (.int (3 : Int32)), .val (.int (21 : Int32)), .val (.int (Int32.ofNat (21 - ni))), .val (.int y679), .val (.ref a680), .unset] rfl 50 rfl ?_
    refine own_aload X680 hx (hb hby at_50) rfl rfl 52 rfl ?_
    refine own_iconst X680 hx (hb hby at_52) (0 : Int32) rfl 53 rfl ?_
    refine own_iload X680 hx (hb hby at_53) rfl 55 rfl ?_
    refine own_bastore X680 hx hZ e680 V680 0 rfl (by simp) (hb hby at_55) 56 rfl (fun T683 h683 X683 e683 W683 V683 => ?_)
    rw [show [(0 : Int32), (0 : Int32), (0 : Int32), (0 : Int32), (0 : Int32), (0 : Int32), (0 : Int32), (0 : Int32), (0 : Int32), (0 : Int32), (0 : Int32), (0 : Int32), (0 : Int32), (0 : Int32), (0 : Int32), (0 : Int32), (0 : Int32), (0 : Int32), (0 : Int32), (0 : Int32), (0 : Int32), (0 : Int32), (0 : Int32), (0 : Int32)].set 0 (y679.toInt8.toInt32) = [y679, (0 : Int32), (0 : Int32), (0 : Int32), (0 : Int32), (0 : Int32), (0 : Int32), (0 : Int32), (0 : Int32), (0 : Int32), (0 : Int32), (0 : Int32), (0 : Int32), (0 : Int32), (0 : Int32), (0 : Int32), (0 : Int32), (0 : Int32), (0 : Int32), (0 : Int32), (0 : Int32), (0 : Int32), (0 : Int32), (0 : Int32)] from (by rw [own_b hy679]; rfl)] at V683
    have N684 := Fr.snoc X683 N0 ge681
    have Z685 : n0 ≤ h683.size := by rw [W683.size]; exact Z682
    refine own_aload X683 hx (hb hby at_56) rfl rfl 58 rfl ?_
    refine own_iconst X683 hx (hb hby at_58) (1 : Int32) rfl 59 rfl ?_
    refine own_iload X683 hx (hb hby at_59) rfl 61 rfl ?_
    refine own_bastore X683 hx hZ e683 V683 1 rfl (by simp) (hb hby at_61) 62 rfl (fun T686 h686 X686 e686 W686 V686 => ?_)
    rw [show [y679, (0 : Int32), (0 : Int32), (0 : Int32), (0 : Int32), (0 : Int32), (0 : Int32), (0 : Int32), (0 : Int32), (0 : Int32), (0 : Int32), (0 : Int32), (0 : Int32), (0 : Int32), (0 : Int32), (0 : Int32), (0 : Int32), (0 : Int32), (0 : Int32), (0 : Int32), (0 : Int32), (0 : Int32), (0 : Int32), (0 : Int32)].set 1 (y679.toInt8.toInt32) = [y679, y679, (0 : Int32), (0 : Int32), (0 : Int32), (0 : Int32), (0 : Int32), (0 : Int32), (0 : Int32), (0 : Int32), (0 : Int32), (0 : Int32), (0 : Int32), (0 : Int32), (0 : Int32), (0 : Int32), (0 : Int32), (0 : Int32), (0 : Int32), (0 : Int32), (0 : Int32), (0 : Int32), (0 : Int32), (0 : Int32)] from (by rw [own_b hy679]; rfl)] at V686
    have N687 := Fr.snoc X686 N684 ge681
    have Z688 : n0 ≤ h686.size := by rw [W686.size]; exact Z685
    refine own_aload X686 hx (hb hby at_62) rfl rfl 64 rfl ?_
    refine own_iconst X686 hx (hb hby at_64) (2 : Int32) rfl 65 rfl ?_
    refine own_iload X686 hx (hb hby at_65) rfl 67 rfl ?_
    refine own_bastore X686 hx hZ e686 V686 2 rfl (by simp) (hb hby at_67) 68 rfl (fun T689 h689 X689 e689 W689 V689 => ?_)
    rw [show [y679, y679, (0 : Int32), (0 : Int32), (0 : Int32), (0 : Int32), (0 : Int32), (0 : Int32), (0 : Int32), (0 : Int32), (0 : Int32), (0 : Int32), (0 : Int32), (0 : Int32), (0 : Int32), (0 : Int32), (0 : Int32), (0 : Int32), (0 : Int32), (0 : Int32), (0 : Int32), (0 : Int32), (0 : Int32), (0 : Int32)].set 2 (y679.toInt8.toInt32) = [y679, y679, y679, (0 : Int32), (0 : Int32), (0 : Int32), (0 : Int32), (0 : Int32), (0 : Int32), (0 : Int32), (0 : Int32), (0 : Int32), (0 : Int32), (0 : Int32), (0 : Int32), (0 : Int32), (0 : Int32), (0 : Int32), (0 : Int32), (0 : Int32), (0 : Int32), (0 : Int32), (0 : Int32), (0 : Int32)] from (by rw [own_b hy679]; rfl)] at V689
    have N690 := Fr.snoc X689 N687 ge681
    have Z691 : n0 ≤ h689.size := by rw [W689.size]; exact Z688
    refine own_aload X689 hx (hb hby at_68) rfl rfl 70 rfl ?_
    refine own_iconst X689 hx (hb hby at_70) (3 : Int32) rfl 71 rfl ?_
    refine own_iload X689 hx (hb hby at_71) rfl 73 rfl ?_
    refine own_bastore X689 hx hZ e689 V689 3 rfl (by simp) (hb hby at_73) 74 rfl (fun T692 h692 X692 e692 W692 V692 => ?_)
    rw [show [y679, y679, y679, (0 : Int32), (0 : Int32), (0 : Int32), (0 : Int32), (0 : Int32), (0 : Int32), (0 : Int32), (0 : Int32), (0 : Int32), (0 : Int32), (0 : Int32), (0 : Int32), (0 : Int32), (0 : Int32), (0 : Int32), (0 : Int32), (0 : Int32), (0 : Int32), (0 : Int32), (0 : Int32), (0 : Int32)].set 3 (y679.toInt8.toInt32) = [y679, y679, y679, y679, (0 : Int32), (0 : Int32), (0 : Int32), (0 : Int32), (0 : Int32), (0 : Int32), (0 : Int32), (0 : Int32), (0 : Int32), (0 : Int32), (0 : Int32), (0 : Int32), (0 : Int32), (0 : Int32), (0 : Int32), (0 : Int32), (0 : Int32), (0 : Int32), (0 : Int32), (0 : Int32)] from (by rw [own_b hy679]; rfl)] at V692
    have N693 := Fr.snoc X692 N690 ge681
    have Z694 : n0 ≤ h692.size := by rw [W692.size]; exact Z691
    refine own_aload X692 hx (hb hby at_74) rfl rfl 76 rfl ?_
    refine own_bipush X692 hx (hb hby at_76) (18 : Int32) rfl 78 rfl ?_
    refine own_iload X692 hx (hb hby at_78) rfl 80 rfl ?_
    refine own_bastore X692 hx hZ e692 V692 18 rfl (by simp) (hb hby at_80) 81 rfl (fun T695 h695 X695 e695 W695 V695 => ?_)
    rw [show [y679, y679, y679, y679, (0 : Int32), (0 : Int32), (0 : Int32), (0 : Int32), (0 : Int32), (0 : Int32), (0 : Int32), (0 : Int32), (0 : Int32), (0 : Int32), (0 : Int32), (0 : Int32), (0 : Int32), (0 : Int32), (0 : Int32), (0 : Int32), (0 : Int32), (0 : Int32), (0 : Int32), (0 : Int32)].set 18 (y679.toInt8.toInt32) = [y679, y679, y679, y679, (0 : Int32), (0 : Int32), (0 : Int32), (0 : Int32), (0 : Int32), (0 : Int32), (0 : Int32), (0 : Int32), (0 : Int32), (0 : Int32), (0 : Int32), (0 : Int32), (0 : Int32), (0 : Int32), y679, (0 : Int32), (0 : Int32), (0 : Int32), (0 : Int32), (0 : Int32)] from (by rw [own_b hy679]; rfl)] at V695
    have N696 := Fr.snoc X695 N693 ge681
    have Z697 : n0 ≤ h695.size := by rw [W695.size]; exact Z694
    refine own_aload X695 hx (hb hby at_81) rfl rfl 83 rfl ?_
    refine own_bipush X695 hx (hb hby at_83) (19 : Int32) rfl 85 rfl ?_
    refine own_iload X695 hx (hb hby at_85) rfl 87 rfl ?_
    refine own_bastore X695 hx hZ e695 V695 19 rfl (by simp) (hb hby at_87) 88 rfl (fun T698 h698 X698 e698 W698 V698 => ?_)
    rw [show [y679, y679, y679, y679, (0 : Int32), (0 : Int32), (0 : Int32), (0 : Int32), (0 : Int32), (0 : Int32), (0 : Int32), (0 : Int32), (0 : Int32), (0 : Int32), (0 : Int32), (0 : Int32), (0 : Int32), (0 : Int32), y679, (0 : Int32), (0 : Int32), (0 : Int32), (0 : Int32), (0 : Int32)].set 19 (y679.toInt8.toInt32) = [y679, y679, y679, y679, (0 : Int32), (0 : Int32), (0 : Int32), (0 : Int32), (0 : Int32), (0 : Int32), (0 : Int32), (0 : Int32), (0 : Int32), (0 : Int32), (0 : Int32), (0 : Int32), (0 : Int32), (0 : Int32), y679, y679, (0 : Int32), (0 : Int32), (0 : Int32), (0 : Int32)] from (by rw [own_b hy679]; rfl)] at V698
    have N699 := Fr.snoc X698 N696 ge681
    have Z700 : n0 ≤ h698.size := by rw [W698.size]; exact Z697
    refine own_aload X698 hx (hb hby at_88) rfl rfl 90 rfl ?_
    refine own_bipush X698 hx (hb hby at_90) (20 : Int32) rfl 92 rfl ?_
    refine own_iload X698 hx (hb hby at_92) rfl 94 rfl ?_
    refine own_bastore X698 hx hZ e698 V698 20 rfl (by simp) (hb hby at_94) 95 rfl (fun T701 h701 X701 e701 W701 V701 => ?_)
    rw [show [y679, y679, y679, y679, (0 : Int32), (0 : Int32), (0 : Int32), (0 : Int32), (0 : Int32), (0 : Int32), (0 : Int32), (0 : Int32), (0 : Int32), (0 : Int32), (0 : Int32), (0 : Int32), (0 : Int32), (0 : Int32), y679, y679, (0 : Int32), (0 : Int32), (0 : Int32), (0 : Int32)].set 20 (y679.toInt8.toInt32) = [y679, y679, y679, y679, (0 : Int32), (0 : Int32), (0 : Int32), (0 : Int32), (0 : Int32), (0 : Int32), (0 : Int32), (0 : Int32), (0 : Int32), (0 : Int32), (0 : Int32), (0 : Int32), (0 : Int32), (0 : Int32), y679, y679, y679, (0 : Int32), (0 : Int32), (0 : Int32)] from (by rw [own_b hy679]; rfl)] at V701
    have N702 := Fr.snoc X701 N699 ge681
    have Z703 : n0 ≤ h701.size := by rw [W701.size]; exact Z700
    refine own_aload X701 hx (hb hby at_95) rfl rfl 97 rfl ?_
    refine own_bipush X701 hx (hb hby at_97) (21 : Int32) rfl 99 rfl ?_
    refine own_iload X701 hx (hb hby at_99) rfl 101 rfl ?_
    refine own_bastore X701 hx hZ e701 V701 21 rfl (by simp) (hb hby at_101) 102 rfl (fun T704 h704 X704 e704 W704 V704 => ?_)
    rw [show [y679, y679, y679, y679, (0 : Int32), (0 : Int32), (0 : Int32), (0 : Int32), (0 : Int32), (0 : Int32), (0 : Int32), (0 : Int32), (0 : Int32), (0 : Int32), (0 : Int32), (0 : Int32), (0 : Int32), (0 : Int32), y679, y679, y679, (0 : Int32), (0 : Int32), (0 : Int32)].set 21 (y679.toInt8.toInt32) = [y679, y679, y679, y679, (0 : Int32), (0 : Int32), (0 : Int32), (0 : Int32), (0 : Int32), (0 : Int32), (0 : Int32), (0 : Int32), (0 : Int32), (0 : Int32), (0 : Int32), (0 : Int32), (0 : Int32), (0 : Int32), y679, y679, y679, y679, (0 : Int32), (0 : Int32)] from (by rw [own_b hy679]; rfl)] at V704
    have N705 := Fr.snoc X704 N702 ge681
    have Z706 : n0 ≤ h704.size := by rw [W704.size]; exact Z703
    refine own_aload X704 hx (hb hby at_102) rfl rfl 104 rfl ?_
    refine own_bipush X704 hx (hb hby at_104) (22 : Int32) rfl 106 rfl ?_
    refine own_iload X704 hx (hb hby at_106) rfl 108 rfl ?_
    refine own_bastore X704 hx hZ e704 V704 22 rfl (by simp) (hb hby at_108) 109 rfl (fun T707 h707 X707 e707 W707 V707 => ?_)
    rw [show [y679, y679, y679, y679, (0 : Int32), (0 : Int32), (0 : Int32), (0 : Int32), (0 : Int32), (0 : Int32), (0 : Int32), (0 : Int32), (0 : Int32), (0 : Int32), (0 : Int32), (0 : Int32), (0 : Int32), (0 : Int32), y679, y679, y679, y679, (0 : Int32), (0 : Int32)].set 22 (y679.toInt8.toInt32) = [y679, y679, y679, y679, (0 : Int32), (0 : Int32), (0 : Int32), (0 : Int32), (0 : Int32), (0 : Int32), (0 : Int32), (0 : Int32), (0 : Int32), (0 : Int32), (0 : Int32), (0 : Int32), (0 : Int32), (0 : Int32), y679, y679, y679, y679, y679, (0 : Int32)] from (by rw [own_b hy679]; rfl)] at V707
    have N708 := Fr.snoc X707 N705 ge681
    have Z709 : n0 ≤ h707.size := by rw [W707.size]; exact Z706
    refine own_aload X707 hx (hb hby at_109) rfl rfl 111 rfl ?_
    refine own_bipush X707 hx (hb hby at_111) (23 : Int32) rfl 113 rfl ?_
    refine own_iload X707 hx (hb hby at_113) rfl 115 rfl ?_
    refine own_bastore X707 hx hZ e707 V707 23 rfl (by simp) (hb hby at_115) 116 rfl (fun T710 h710 X710 e710 W710 V710 => ?_)
    rw [show [y679, y679, y679, y679, (0 : Int32), (0 : Int32), (0 : Int32), (0 : Int32), (0 : Int32), (0 : Int32), (0 : Int32), (0 : Int32), (0 : Int32), (0 : Int32), (0 : Int32), (0 : Int32), (0 : Int32), (0 : Int32), y679, y679, y679, y679, y679, (0 : Int32)].set 23 (y679.toInt8.toInt32) = [y679, y679, y679, y679, (0 : Int32), (0 : Int32), (0 : Int32), (0 : Int32), (0 : Int32), (0 : Int32), (0 : Int32), (0 : Int32), (0 : Int32), (0 : Int32), (0 : Int32), (0 : Int32), (0 : Int32), (0 : Int32), y679, y679, y679, y679, y679, y679] from (by rw [own_b hy679]; rfl)] at V710
    have N711 := Fr.snoc X710 N708 ge681
    have Z712 : n0 ≤ h710.size := by rw [W710.size]; exact Z709
    refine own_bipush X710 hx (hb hby at_116) (19 : Int32) rfl 118 rfl ?_
    refine own_newJ X710 hx hZ (own_w hw 4 rfl) e710 (hb hby at_118) 19 rfl 19 (by decide) (by decide) (by decide) (by decide) 120 rfl (fun T713 h713 a713 g713 X713 e713 E713 V713 => ?_)
    have ne714 : a680 ≠ a713 := by rw [g713]; exact Nat.ne_of_lt V710.lt
    have ge715 : n0 ≤ a713 := by rw [g713]; exact Z712
    have Z716 : n0 ≤ h713.size := Nat.le_trans Z712 E713.1
    have V717 := V710.ext E713
    rw [show (List.replicate 19 (0 : Int64)) = [(0 : Int64), (0 : Int64), (0 : Int64), (0 : Int64), (0 : Int64), (0 : Int64), (0 : Int64), (0 : Int64), (0 : Int64), (0 : Int64), (0 : Int64), (0 : Int64), (0 : Int64), (0 : Int64), (0 : Int64), (0 : Int64), (0 : Int64), (0 : Int64), (0 : Int64)] from rfl] at V713
    refine own_dup X713 hx (hb hby at_120) rfl 121 rfl ?_
    refine own_iconst X713 hx (hb hby at_121) (0 : Int32) rfl 122 rfl ?_
    refine own_lconst X713 hx (hb hby at_122) (1 : Int64) rfl 123 rfl ?_
    refine own_lastore X713 hx hZ e713 V713 0 rfl (by simp) (hb hby at_123) 124 rfl (fun T718 h718 X718 e718 W718 V718 => ?_)
    rw [show [(0 : Int64), (0 : Int64), (0 : Int64), (0 : Int64), (0 : Int64), (0 : Int64), (0 : Int64), (0 : Int64), (0 : Int64), (0 : Int64), (0 : Int64), (0 : Int64), (0 : Int64), (0 : Int64), (0 : Int64), (0 : Int64), (0 : Int64), (0 : Int64), (0 : Int64)].set 0 (1 : Int64) = [(1 : Int64), (0 : Int64), (0 : Int64), (0 : Int64), (0 : Int64), (0 : Int64), (0 : Int64), (0 : Int64), (0 : Int64), (0 : Int64), (0 : Int64), (0 : Int64), (0 : Int64), (0 : Int64), (0 : Int64), (0 : Int64), (0 : Int64), (0 : Int64), (0 : Int64)] from rfl] at V718
    have N719 := Fr.snoc X718 N711 ge715
    have Z720 : n0 ≤ h718.size := by rw [W718.size]; exact Z716
    have V721 := V717.other W718 ne714
    refine own_dup X718 hx (hb hby at_124) rfl 125 rfl ?_
    refine own_iconst X718 hx (hb hby at_125) (1 : Int32) rfl 126 rfl ?_
    refine own_ldc2Long X718 hx hown (mvT hZ (own_w hw 5 rfl)) (hb hby at_126) 129 rfl ?_
    refine own_lastore X718 hx hZ e718 V718 1 rfl (by simp) (hb hby at_129) 130 rfl (fun T722 h722 X722 e722 W722 V722 => ?_)
    rw [show [(1 : Int64), (0 : Int64), (0 : Int64), (0 : Int64), (0 : Int64), (0 : Int64), (0 : Int64), (0 : Int64), (0 : Int64), (0 : Int64), (0 : Int64), (0 : Int64), (0 : Int64), (0 : Int64), (0 : Int64), (0 : Int64), (0 : Int64), (0 : Int64), (0 : Int64)].set 1 (10 : Int64) = [(1 : Int64), (10 : Int64), (0 : Int64), (0 : Int64), (0 : Int64), (0 : Int64), (0 : Int64), (0 : Int64), (0 : Int64), (0 : Int64), (0 : Int64), (0 : Int64), (0 : Int64), (0 : Int64), (0 : Int64), (0 : Int64), (0 : Int64), (0 : Int64), (0 : Int64)] from rfl] at V722
    have N723 := Fr.snoc X722 N719 ge715
    have Z724 : n0 ≤ h722.size := by rw [W722.size]; exact Z720
    have V725 := V721.other W722 ne714
    refine own_dup X722 hx (hb hby at_130) rfl 131 rfl ?_
    refine own_iconst X722 hx (hb hby at_131) (2 : Int32) rfl 132 rfl ?_
    refine own_ldc2Long X722 hx hown (mvT hZ (own_w hw 6 rfl)) (hb hby at_132) 135 rfl ?_
    refine own_lastore X722 hx hZ e722 V722 2 rfl (by simp) (hb hby at_135) 136 rfl (fun T726 h726 X726 e726 W726 V726 => ?_)
    rw [show [(1 : Int64), (10 : Int64), (0 : Int64), (0 : Int64), (0 : Int64), (0 : Int64), (0 : Int64), (0 : Int64), (0 : Int64), (0 : Int64), (0 : Int64), (0 : Int64), (0 : Int64), (0 : Int64), (0 : Int64), (0 : Int64), (0 : Int64), (0 : Int64), (0 : Int64)].set 2 (100 : Int64) = [(1 : Int64), (10 : Int64), (100 : Int64), (0 : Int64), (0 : Int64), (0 : Int64), (0 : Int64), (0 : Int64), (0 : Int64), (0 : Int64), (0 : Int64), (0 : Int64), (0 : Int64), (0 : Int64), (0 : Int64), (0 : Int64), (0 : Int64), (0 : Int64), (0 : Int64)] from rfl] at V726
    have N727 := Fr.snoc X726 N723 ge715
    have Z728 : n0 ≤ h726.size := by rw [W726.size]; exact Z724
    have V729 := V725.other W726 ne714
    refine own_dup X726 hx (hb hby at_136) rfl 137 rfl ?_
    refine own_iconst X726 hx (hb hby at_137) (3 : Int32) rfl 138 rfl ?_
    refine own_ldc2Long X726 hx hown (mvT hZ (own_w hw 7 rfl)) (hb hby at_138) 141 rfl ?_
    refine own_lastore X726 hx hZ e726 V726 3 rfl (by simp) (hb hby at_141) 142 rfl (fun T730 h730 X730 e730 W730 V730 => ?_)
    rw [show [(1 : Int64), (10 : Int64), (100 : Int64), (0 : Int64), (0 : Int64), (0 : Int64), (0 : Int64), (0 : Int64), (0 : Int64), (0 : Int64), (0 : Int64), (0 : Int64), (0 : Int64), (0 : Int64), (0 : Int64), (0 : Int64), (0 : Int64), (0 : Int64), (0 : Int64)].set 3 (1000 : Int64) = [(1 : Int64), (10 : Int64), (100 : Int64), (1000 : Int64), (0 : Int64), (0 : Int64), (0 : Int64), (0 : Int64), (0 : Int64), (0 : Int64), (0 : Int64), (0 : Int64), (0 : Int64), (0 : Int64), (0 : Int64), (0 : Int64), (0 : Int64), (0 : Int64), (0 : Int64)] from rfl] at V730
    have N731 := Fr.snoc X730 N727 ge715
    have Z732 : n0 ≤ h730.size := by rw [W730.size]; exact Z728
    have V733 := V729.other W730 ne714
    refine own_dup X730 hx (hb hby at_142) rfl 143 rfl ?_
    refine own_iconst X730 hx (hb hby at_143) (4 : Int32) rfl 144 rfl ?_
    refine own_ldc2Long X730 hx hown (mvT hZ (own_w hw 8 rfl)) (hb hby at_144) 147 rfl ?_
    refine own_lastore X730 hx hZ e730 V730 4 rfl (by simp) (hb hby at_147) 148 rfl (fun T734 h734 X734 e734 W734 V734 => ?_)
    rw [show [(1 : Int64), (10 : Int64), (100 : Int64), (1000 : Int64), (0 : Int64), (0 : Int64), (0 : Int64), (0 : Int64), (0 : Int64), (0 : Int64), (0 : Int64), (0 : Int64), (0 : Int64), (0 : Int64), (0 : Int64), (0 : Int64), (0 : Int64), (0 : Int64), (0 : Int64)].set 4 (10000 : Int64) = [(1 : Int64), (10 : Int64), (100 : Int64), (1000 : Int64), (10000 : Int64), (0 : Int64), (0 : Int64), (0 : Int64), (0 : Int64), (0 : Int64), (0 : Int64), (0 : Int64), (0 : Int64), (0 : Int64), (0 : Int64), (0 : Int64), (0 : Int64), (0 : Int64), (0 : Int64)] from rfl] at V734
    have N735 := Fr.snoc X734 N731 ge715
    have Z736 : n0 ≤ h734.size := by rw [W734.size]; exact Z732
    have V737 := V733.other W734 ne714
    refine own_dup X734 hx (hb hby at_148) rfl 149 rfl ?_
    refine own_iconst X734 hx (hb hby at_149) (5 : Int32) rfl 150 rfl ?_
    refine own_ldc2Long X734 hx hown (mvT hZ (own_w hw 9 rfl)) (hb hby at_150) 153 rfl ?_
    refine own_lastore X734 hx hZ e734 V734 5 rfl (by simp) (hb hby at_153) 154 rfl (fun T738 h738 X738 e738 W738 V738 => ?_)
    rw [show [(1 : Int64), (10 : Int64), (100 : Int64), (1000 : Int64), (10000 : Int64), (0 : Int64), (0 : Int64), (0 : Int64), (0 : Int64), (0 : Int64), (0 : Int64), (0 : Int64), (0 : Int64), (0 : Int64), (0 : Int64), (0 : Int64), (0 : Int64), (0 : Int64), (0 : Int64)].set 5 (100000 : Int64) = [(1 : Int64), (10 : Int64), (100 : Int64), (1000 : Int64), (10000 : Int64), (100000 : Int64), (0 : Int64), (0 : Int64), (0 : Int64), (0 : Int64), (0 : Int64), (0 : Int64), (0 : Int64), (0 : Int64), (0 : Int64), (0 : Int64), (0 : Int64), (0 : Int64), (0 : Int64)] from rfl] at V738
    have N739 := Fr.snoc X738 N735 ge715
    have Z740 : n0 ≤ h738.size := by rw [W738.size]; exact Z736
    have V741 := V737.other W738 ne714
    refine own_dup X738 hx (hb hby at_154) rfl 155 rfl ?_
    refine own_bipush X738 hx (hb hby at_155) (6 : Int32) rfl 157 rfl ?_
    refine own_ldc2Long X738 hx hown (mvT hZ (own_w hw 10 rfl)) (hb hby at_157) 160 rfl ?_
    refine own_lastore X738 hx hZ e738 V738 6 rfl (by simp) (hb hby at_160) 161 rfl (fun T742 h742 X742 e742 W742 V742 => ?_)
    rw [show [(1 : Int64), (10 : Int64), (100 : Int64), (1000 : Int64), (10000 : Int64), (100000 : Int64), (0 : Int64), (0 : Int64), (0 : Int64), (0 : Int64), (0 : Int64), (0 : Int64), (0 : Int64), (0 : Int64), (0 : Int64), (0 : Int64), (0 : Int64), (0 : Int64), (0 : Int64)].set 6 (1000000 : Int64) = [(1 : Int64), (10 : Int64), (100 : Int64), (1000 : Int64), (10000 : Int64), (100000 : Int64), (1000000 : Int64), (0 : Int64), (0 : Int64), (0 : Int64), (0 : Int64), (0 : Int64), (0 : Int64), (0 : Int64), (0 : Int64), (0 : Int64), (0 : Int64), (0 : Int64), (0 : Int64)] from rfl] at V742
    have N743 := Fr.snoc X742 N739 ge715
    have Z744 : n0 ≤ h742.size := by rw [W742.size]; exact Z740
    have V745 := V741.other W742 ne714
    refine own_dup X742 hx (hb hby at_161) rfl 162 rfl ?_
    refine own_bipush X742 hx (hb hby at_162) (7 : Int32) rfl 164 rfl ?_
    refine own_ldc2Long X742 hx hown (mvT hZ (own_w hw 11 rfl)) (hb hby at_164) 167 rfl ?_
    refine own_lastore X742 hx hZ e742 V742 7 rfl (by simp) (hb hby at_167) 168 rfl (fun T746 h746 X746 e746 W746 V746 => ?_)
    rw [show [(1 : Int64), (10 : Int64), (100 : Int64), (1000 : Int64), (10000 : Int64), (100000 : Int64), (1000000 : Int64), (0 : Int64), (0 : Int64), (0 : Int64), (0 : Int64), (0 : Int64), (0 : Int64), (0 : Int64), (0 : Int64), (0 : Int64), (0 : Int64), (0 : Int64), (0 : Int64)].set 7 (10000000 : Int64) = [(1 : Int64), (10 : Int64), (100 : Int64), (1000 : Int64), (10000 : Int64), (100000 : Int64), (1000000 : Int64), (10000000 : Int64), (0 : Int64), (0 : Int64), (0 : Int64), (0 : Int64), (0 : Int64), (0 : Int64), (0 : Int64), (0 : Int64), (0 : Int64), (0 : Int64), (0 : Int64)] from rfl] at V746
    have N747 := Fr.snoc X746 N743 ge715
    have Z748 : n0 ≤ h746.size := by rw [W746.size]; exact Z744
    have V749 := V745.other W746 ne714
    refine own_dup X746 hx (hb hby at_168) rfl 169 rfl ?_
    refine own_bipush X746 hx (hb hby at_169) (8 : Int32) rfl 171 rfl ?_
    refine own_ldc2Long X746 hx hown (mvT hZ (own_w hw 12 rfl)) (hb hby at_171) 174 rfl ?_
    refine own_lastore X746 hx hZ e746 V746 8 rfl (by simp) (hb hby at_174) 175 rfl (fun T750 h750 X750 e750 W750 V750 => ?_)
    rw [show [(1 : Int64), (10 : Int64), (100 : Int64), (1000 : Int64), (10000 : Int64), (100000 : Int64), (1000000 : Int64), (10000000 : Int64), (0 : Int64), (0 : Int64), (0 : Int64), (0 : Int64), (0 : Int64), (0 : Int64), (0 : Int64), (0 : Int64), (0 : Int64), (0 : Int64), (0 : Int64)].set 8 (100000000 : Int64) = [(1 : Int64), (10 : Int64), (100 : Int64), (1000 : Int64), (10000 : Int64), (100000 : Int64), (1000000 : Int64), (10000000 : Int64), (100000000 : Int64), (0 : Int64), (0 : Int64), (0 : Int64), (0 : Int64), (0 : Int64), (0 : Int64), (0 : Int64), (0 : Int64), (0 : Int64), (0 : Int64)] from rfl] at V750
    have N751 := Fr.snoc X750 N747 ge715
    have Z752 : n0 ≤ h750.size := by rw [W750.size]; exact Z748
    have V753 := V749.other W750 ne714
    refine own_dup X750 hx (hb hby at_175) rfl 176 rfl ?_
    refine own_bipush X750 hx (hb hby at_176) (9 : Int32) rfl 178 rfl ?_
    refine own_ldc2Long X750 hx hown (mvT hZ (own_w hw 13 rfl)) (hb hby at_178) 181 rfl ?_
    refine own_lastore X750 hx hZ e750 V750 9 rfl (by simp) (hb hby at_181) 182 rfl (fun T754 h754 X754 e754 W754 V754 => ?_)
    rw [show [(1 : Int64), (10 : Int64), (100 : Int64), (1000 : Int64), (10000 : Int64), (100000 : Int64), (1000000 : Int64), (10000000 : Int64), (100000000 : Int64), (0 : Int64), (0 : Int64), (0 : Int64), (0 : Int64), (0 : Int64), (0 : Int64), (0 : Int64), (0 : Int64), (0 : Int64), (0 : Int64)].set 9 (1000000000 : Int64) = [(1 : Int64), (10 : Int64), (100 : Int64), (1000 : Int64), (10000 : Int64), (100000 : Int64), (1000000 : Int64), (10000000 : Int64), (100000000 : Int64), (1000000000 : Int64), (0 : Int64), (0 : Int64), (0 : Int64), (0 : Int64), (0 : Int64), (0 : Int64), (0 : Int64), (0 : Int64), (0 : Int64)] from rfl] at V754
    have N755 := Fr.snoc X754 N751 ge715
    have Z756 : n0 ≤ h754.size := by rw [W754.size]; exact Z752
    have V757 := V753.other W754 ne714
    refine own_dup X754 hx (hb hby at_182) rfl 183 rfl ?_
    refine own_bipush X754 hx (hb hby at_183) (10 : Int32) rfl 185 rfl ?_
    refine own_ldc2Long X754 hx hown (mvT hZ (own_w hw 14 rfl)) (hb hby at_185) 188 rfl ?_
    refine own_lastore X754 hx hZ e754 V754 10 rfl (by simp) (hb hby at_188) 189 rfl (fun T758 h758 X758 e758 W758 V758 => ?_)
    rw [show [(1 : Int64), (10 : Int64), (100 : Int64), (1000 : Int64), (10000 : Int64), (100000 : Int64), (1000000 : Int64), (10000000 : Int64), (100000000 : Int64), (1000000000 : Int64), (0 : Int64), (0 : Int64), (0 : Int64), (0 : Int64), (0 : Int64), (0 : Int64), (0 : Int64), (0 : Int64), (0 : Int64)].set 10 (10000000000 : Int64) = [(1 : Int64), (10 : Int64), (100 : Int64), (1000 : Int64), (10000 : Int64), (100000 : Int64), (1000000 : Int64), (10000000 : Int64), (100000000 : Int64), (1000000000 : Int64), (10000000000 : Int64), (0 : Int64), (0 : Int64), (0 : Int64), (0 : Int64), (0 : Int64), (0 : Int64), (0 : Int64), (0 : Int64)] from rfl] at V758
    have N759 := Fr.snoc X758 N755 ge715
    have Z760 : n0 ≤ h758.size := by rw [W758.size]; exact Z756
    have V761 := V757.other W758 ne714
    refine own_dup X758 hx (hb hby at_189) rfl 190 rfl ?_
    refine own_bipush X758 hx (hb hby at_190) (11 : Int32) rfl 192 rfl ?_
    refine own_ldc2Long X758 hx hown (mvT hZ (own_w hw 15 rfl)) (hb hby at_192) 195 rfl ?_
    refine own_lastore X758 hx hZ e758 V758 11 rfl (by simp) (hb hby at_195) 196 rfl (fun T762 h762 X762 e762 W762 V762 => ?_)
    rw [show [(1 : Int64), (10 : Int64), (100 : Int64), (1000 : Int64), (10000 : Int64), (100000 : Int64), (1000000 : Int64), (10000000 : Int64), (100000000 : Int64), (1000000000 : Int64), (10000000000 : Int64), (0 : Int64), (0 : Int64), (0 : Int64), (0 : Int64), (0 : Int64), (0 : Int64), (0 : Int64), (0 : Int64)].set 11 (100000000000 : Int64) = [(1 : Int64), (10 : Int64), (100 : Int64), (1000 : Int64), (10000 : Int64), (100000 : Int64), (1000000 : Int64), (10000000 : Int64), (100000000 : Int64), (1000000000 : Int64), (10000000000 : Int64), (100000000000 : Int64), (0 : Int64), (0 : Int64), (0 : Int64), (0 : Int64), (0 : Int64), (0 : Int64), (0 : Int64)] from rfl] at V762
    have N763 := Fr.snoc X762 N759 ge715
    have Z764 : n0 ≤ h762.size := by rw [W762.size]; exact Z760
    have V765 := V761.other W762 ne714
    refine own_dup X762 hx (hb hby at_196) rfl 197 rfl ?_
    refine own_bipush X762 hx (hb hby at_197) (12 : Int32) rfl 199 rfl ?_
    refine own_ldc2Long X762 hx hown (mvT hZ (own_w hw 16 rfl)) (hb hby at_199) 202 rfl ?_
    refine own_lastore X762 hx hZ e762 V762 12 rfl (by simp) (hb hby at_202) 203 rfl (fun T766 h766 X766 e766 W766 V766 => ?_)
    rw [show [(1 : Int64), (10 : Int64), (100 : Int64), (1000 : Int64), (10000 : Int64), (100000 : Int64), (1000000 : Int64), (10000000 : Int64), (100000000 : Int64), (1000000000 : Int64), (10000000000 : Int64), (100000000000 : Int64), (0 : Int64), (0 : Int64), (0 : Int64), (0 : Int64), (0 : Int64), (0 : Int64), (0 : Int64)].set 12 (1000000000000 : Int64) = [(1 : Int64), (10 : Int64), (100 : Int64), (1000 : Int64), (10000 : Int64), (100000 : Int64), (1000000 : Int64), (10000000 : Int64), (100000000 : Int64), (1000000000 : Int64), (10000000000 : Int64), (100000000000 : Int64), (1000000000000 : Int64), (0 : Int64), (0 : Int64), (0 : Int64), (0 : Int64), (0 : Int64), (0 : Int64)] from rfl] at V766
    have N767 := Fr.snoc X766 N763 ge715
    have Z768 : n0 ≤ h766.size := by rw [W766.size]; exact Z764
    have V769 := V765.other W766 ne714
    refine own_dup X766 hx (hb hby at_203) rfl 204 rfl ?_
    refine own_bipush X766 hx (hb hby at_204) (13 : Int32) rfl 206 rfl ?_
    refine own_ldc2Long X766 hx hown (mvT hZ (own_w hw 17 rfl)) (hb hby at_206) 209 rfl ?_
    refine own_lastore X766 hx hZ e766 V766 13 rfl (by simp) (hb hby at_209) 210 rfl (fun T770 h770 X770 e770 W770 V770 => ?_)
    rw [show [(1 : Int64), (10 : Int64), (100 : Int64), (1000 : Int64), (10000 : Int64), (100000 : Int64), (1000000 : Int64), (10000000 : Int64), (100000000 : Int64), (1000000000 : Int64), (10000000000 : Int64), (100000000000 : Int64), (1000000000000 : Int64), (0 : Int64), (0 : Int64), (0 : Int64), (0 : Int64), (0 : Int64), (0 : Int64)].set 13 (10000000000000 : Int64) = [(1 : Int64), (10 : Int64), (100 : Int64), (1000 : Int64), (10000 : Int64), (100000 : Int64), (1000000 : Int64), (10000000 : Int64), (100000000 : Int64), (1000000000 : Int64), (10000000000 : Int64), (100000000000 : Int64), (1000000000000 : Int64), (10000000000000 : Int64), (0 : Int64), (0 : Int64), (0 : Int64), (0 : Int64), (0 : Int64)] from rfl] at V770
    have N771 := Fr.snoc X770 N767 ge715
    have Z772 : n0 ≤ h770.size := by rw [W770.size]; exact Z768
    have V773 := V769.other W770 ne714
    refine own_dup X770 hx (hb hby at_210) rfl 211 rfl ?_
    refine own_bipush X770 hx (hb hby at_211) (14 : Int32) rfl 213 rfl ?_
    refine own_ldc2Long X770 hx hown (mvT hZ (own_w hw 18 rfl)) (hb hby at_213) 216 rfl ?_
    refine own_lastore X770 hx hZ e770 V770 14 rfl (by simp) (hb hby at_216) 217 rfl (fun T774 h774 X774 e774 W774 V774 => ?_)
    rw [show [(1 : Int64), (10 : Int64), (100 : Int64), (1000 : Int64), (10000 : Int64), (100000 : Int64), (1000000 : Int64), (10000000 : Int64), (100000000 : Int64), (1000000000 : Int64), (10000000000 : Int64), (100000000000 : Int64), (1000000000000 : Int64), (10000000000000 : Int64), (0 : Int64), (0 : Int64), (0 : Int64), (0 : Int64), (0 : Int64)].set 14 (100000000000000 : Int64) = [(1 : Int64), (10 : Int64), (100 : Int64), (1000 : Int64), (10000 : Int64), (100000 : Int64), (1000000 : Int64), (10000000 : Int64), (100000000 : Int64), (1000000000 : Int64), (10000000000 : Int64), (100000000000 : Int64), (1000000000000 : Int64), (10000000000000 : Int64), (100000000000000 : Int64), (0 : Int64), (0 : Int64), (0 : Int64), (0 : Int64)] from rfl] at V774
    have N775 := Fr.snoc X774 N771 ge715
    have Z776 : n0 ≤ h774.size := by rw [W774.size]; exact Z772
    have V777 := V773.other W774 ne714
    refine own_dup X774 hx (hb hby at_217) rfl 218 rfl ?_
    refine own_bipush X774 hx (hb hby at_218) (15 : Int32) rfl 220 rfl ?_
    refine own_ldc2Long X774 hx hown (mvT hZ (own_w hw 19 rfl)) (hb hby at_220) 223 rfl ?_
    refine own_lastore X774 hx hZ e774 V774 15 rfl (by simp) (hb hby at_223) 224 rfl (fun T778 h778 X778 e778 W778 V778 => ?_)
    rw [show [(1 : Int64), (10 : Int64), (100 : Int64), (1000 : Int64), (10000 : Int64), (100000 : Int64), (1000000 : Int64), (10000000 : Int64), (100000000 : Int64), (1000000000 : Int64), (10000000000 : Int64), (100000000000 : Int64), (1000000000000 : Int64), (10000000000000 : Int64), (100000000000000 : Int64), (0 : Int64), (0 : Int64), (0 : Int64), (0 : Int64)].set 15 (1000000000000000 : Int64) = [(1 : Int64), (10 : Int64), (100 : Int64), (1000 : Int64), (10000 : Int64), (100000 : Int64), (1000000 : Int64), (10000000 : Int64), (100000000 : Int64), (1000000000 : Int64), (10000000000 : Int64), (100000000000 : Int64), (1000000000000 : Int64), (10000000000000 : Int64), (100000000000000 : Int64), (1000000000000000 : Int64), (0 : Int64), (0 : Int64), (0 : Int64)] from rfl] at V778
    have N779 := Fr.snoc X778 N775 ge715
    have Z780 : n0 ≤ h778.size := by rw [W778.size]; exact Z776
    have V781 := V777.other W778 ne714
    refine own_dup X778 hx (hb hby at_224) rfl 225 rfl ?_
    refine own_bipush X778 hx (hb hby at_225) (16 : Int32) rfl 227 rfl ?_
    refine own_ldc2Long X778 hx hown (mvT hZ (own_w hw 20 rfl)) (hb hby at_227) 230 rfl ?_
    refine own_lastore X778 hx hZ e778 V778 16 rfl (by simp) (hb hby at_230) 231 rfl (fun T782 h782 X782 e782 W782 V782 => ?_)
    rw [show [(1 : Int64), (10 : Int64), (100 : Int64), (1000 : Int64), (10000 : Int64), (100000 : Int64), (1000000 : Int64), (10000000 : Int64), (100000000 : Int64), (1000000000 : Int64), (10000000000 : Int64), (100000000000 : Int64), (1000000000000 : Int64), (10000000000000 : Int64), (100000000000000 : Int64), (1000000000000000 : Int64), (0 : Int64), (0 : Int64), (0 : Int64)].set 16 (10000000000000000 : Int64) = [(1 : Int64), (10 : Int64), (100 : Int64), (1000 : Int64), (10000 : Int64), (100000 : Int64), (1000000 : Int64), (10000000 : Int64), (100000000 : Int64), (1000000000 : Int64), (10000000000 : Int64), (100000000000 : Int64), (1000000000000 : Int64), (10000000000000 : Int64), (100000000000000 : Int64), (1000000000000000 : Int64), (10000000000000000 : Int64), (0 : Int64), (0 : Int64)] from rfl] at V782
    have N783 := Fr.snoc X782 N779 ge715
    have Z784 : n0 ≤ h782.size := by rw [W782.size]; exact Z780
    have V785 := V781.other W782 ne714
    refine own_dup X782 hx (hb hby at_231) rfl 232 rfl ?_
    refine own_bipush X782 hx (hb hby at_232) (17 : Int32) rfl 234 rfl ?_
    refine own_ldc2Long X782 hx hown (mvT hZ (own_w hw 21 rfl)) (hb hby at_234) 237 rfl ?_
    refine own_lastore X782 hx hZ e782 V782 17 rfl (by simp) (hb hby at_237) 238 rfl (fun T786 h786 X786 e786 W786 V786 => ?_)
    rw [show [(1 : Int64), (10 : Int64), (100 : Int64), (1000 : Int64), (10000 : Int64), (100000 : Int64), (1000000 : Int64), (10000000 : Int64), (100000000 : Int64), (1000000000 : Int64), (10000000000 : Int64), (100000000000 : Int64), (1000000000000 : Int64), (10000000000000 : Int64), (100000000000000 : Int64), (1000000000000000 : Int64), (10000000000000000 : Int64), (0 : Int64), (0 : Int64)].set 17 (100000000000000000 : Int64) = [(1 : Int64), (10 : Int64), (100 : Int64), (1000 : Int64), (10000 : Int64), (100000 : Int64), (1000000 : Int64), (10000000 : Int64), (100000000 : Int64), (1000000000 : Int64), (10000000000 : Int64), (100000000000 : Int64), (1000000000000 : Int64), (10000000000000 : Int64), (100000000000000 : Int64), (1000000000000000 : Int64), (10000000000000000 : Int64), (100000000000000000 : Int64), (0 : Int64)] from rfl] at V786
    have N787 := Fr.snoc X786 N783 ge715
    have Z788 : n0 ≤ h786.size := by rw [W786.size]; exact Z784
    have V789 := V785.other W786 ne714
    refine own_dup X786 hx (hb hby at_238) rfl 239 rfl ?_
    refine own_bipush X786 hx (hb hby at_239) (18 : Int32) rfl 241 rfl ?_
    refine own_ldc2Long X786 hx hown (mvT hZ (own_w hw 1 rfl)) (hb hby at_241) 244 rfl ?_
    refine own_lastore X786 hx hZ e786 V786 18 rfl (by simp) (hb hby at_244) 245 rfl (fun T790 h790 X790 e790 W790 V790 => ?_)
    rw [show [(1 : Int64), (10 : Int64), (100 : Int64), (1000 : Int64), (10000 : Int64), (100000 : Int64), (1000000 : Int64), (10000000 : Int64), (100000000 : Int64), (1000000000 : Int64), (10000000000 : Int64), (100000000000 : Int64), (1000000000000 : Int64), (10000000000000 : Int64), (100000000000000 : Int64), (1000000000000000 : Int64), (10000000000000000 : Int64), (100000000000000000 : Int64), (0 : Int64)].set 18 (1000000000000000000 : Int64) = [(1 : Int64), (10 : Int64), (100 : Int64), (1000 : Int64), (10000 : Int64), (100000 : Int64), (1000000 : Int64), (10000000 : Int64), (100000000 : Int64), (1000000000 : Int64), (10000000000 : Int64), (100000000000 : Int64), (1000000000000 : Int64), (10000000000000 : Int64), (100000000000000 : Int64), (1000000000000000 : Int64), (10000000000000000 : Int64), (100000000000000000 : Int64), (1000000000000000000 : Int64)] from rfl] at V790
    have N791 := Fr.snoc X790 N787 ge715
    have Z792 : n0 ≤ h790.size := by rw [W790.size]; exact Z788
    have V793 := V789.other W790 ne714
    refine own_astore X790 hx (hb hby at_245) rfl #[.val (.long v0), .second, .val (.int v1), .val (.int v2), .val (.int v3), .val (.long (Int64.ofNat nn)), .second, .val (.int (Int32.ofNat ni)), .val (.int (3 : Int32)), .val (.int (21 : Int32)), .val (.int (Int32.ofNat (21 - ni))), .val (.int y679), .val (.ref a680), .val (.ref a713)] rfl 247 rfl ?_
    refine own_aload X790 hx (hb hby at_247) rfl rfl 249 rfl ?_
    refine own_iload X790 hx (hb hby at_249) rfl 251 rfl ?_
    refine own_iconst X790 hx (hb hby at_251) (1 : Int32) rfl 252 rfl ?_
    refine own_isub X790 hx (hb hby at_252) 253 rfl ?_
    show own_Go p e below G (T790.setTop (mkF m 253 #[.val (.long v0), .second, .val (.int v1), .val (.int v2), .val (.int v3), .val (.long (Int64.ofNat nn)), .second, .val (.int (Int32.ofNat ni)), .val (.int (3 : Int32)), .val (.int (21 : Int32)), .val (.int (Int32.ofNat (21 - ni))), .val (.int y679), .val (.ref a680), .val (.ref a713)] [(.int (20 : Int32)), (.ref a680)]))
    refine own_lload X790 hx (hb hby at_253) rfl 255 rfl ?_
    refine own_aload X790 hx (hb hby at_255) rfl rfl 257 rfl ?_
    refine own_iconst X790 hx (hb hby at_257) (0 : Int32) rfl 258 rfl ?_
    refine own_laload X790 hx hZ e790 V790 0 rfl (1 : Int64) rfl (hb hby at_258) 259 rfl ?_
    refine own_callS X790 hx hZ hown (own_w hw 22 rfl) (own_w hw 23 rfl) (own_w hw 24 rfl) (own_w hw 25 rfl) (by decide) e790 (rm1 l Z a0 hw [] nn 0 (1 : Int64) h790 n0 hnn (by decide) (by decide)) (by rw [hml]; rfl) pd_0 (argsL := [(.long (Int64.ofNat nn)), (.long (1 : Int64))]) rfl (rest := [(.int (20 : Int32)), (.ref a680)]) rfl (hb hby at_259) 2 (Nat.le_of_eq rfl) (by decide) (by decide) (by decide) (by decide) 262 rfl (fun T794 L794 v794 X794 hQ794 => ?_)
    obtain ⟨rfl, N794, e794⟩ := hQ794
    have N795 := Fr.app N791 N794
    show own_Go p e below G (T794.setTop (mkF m 262 #[.val (.long v0), .second, .val (.int v1), .val (.int v2), .val (.int v3), .val (.long (Int64.ofNat nn)), .second, .val (.int (Int32.ofNat ni)), .val (.int (3 : Int32)), .val (.int (21 : Int32)), .val (.int (Int32.ofNat (21 - ni))), .val (.int y679), .val (.ref a680), .val (.ref a713)] [(.int (own_d nn 0)), (.int (20 : Int32)), (.ref a680)]))
    refine own_bastore X794 hx hZ e794 V793 20 rfl (by simp) (hb hby at_262) 263 rfl (fun T796 h796 X796 e796 W796 V796 => ?_)
    rw [show [y679, y679, y679, y679, (0 : Int32), (0 : Int32), (0 : Int32), (0 : Int32), (0 : Int32), (0 : Int32), (0 : Int32), (0 : Int32), (0 : Int32), (0 : Int32), (0 : Int32), (0 : Int32), (0 : Int32), (0 : Int32), y679, y679, y679, y679, y679, y679].set 20 ((own_d nn 0).toInt8.toInt32) = [y679, y679, y679, y679, (0 : Int32), (0 : Int32), (0 : Int32), (0 : Int32), (0 : Int32), (0 : Int32), (0 : Int32), (0 : Int32), (0 : Int32), (0 : Int32), (0 : Int32), (0 : Int32), (0 : Int32), (0 : Int32), y679, y679, (own_d nn 0), y679, y679, y679] from (by rw [own_d8]; rfl)] at V796
    have N797 := Fr.snoc X796 N795 ge681
    have Z798 : n0 ≤ h796.size := by rw [W796.size]; exact Z792
    have V799 := V790.other W796 (Ne.symm ne714)
    refine own_aload X796 hx (hb hby at_263) rfl rfl 265 rfl ?_
    refine own_iload X796 hx (hb hby at_265) rfl 267 rfl ?_
    refine own_iconst X796 hx (hb hby at_267) (2 : Int32) rfl 268 rfl ?_
    refine own_isub X796 hx (hb hby at_268) 269 rfl ?_
    show own_Go p e below G (T796.setTop (mkF m 269 #[.val (.long v0), .second, .val (.int v1), .val (.int v2), .val (.int v3), .val (.long (Int64.ofNat nn)), .second, .val (.int (Int32.ofNat ni)), .val (.int (3 : Int32)), .val (.int (21 : Int32)), .val (.int (Int32.ofNat (21 - ni))), .val (.int y679), .val (.ref a680), .val (.ref a713)] [(.int (19 : Int32)), (.ref a680)]))
    refine own_lload X796 hx (hb hby at_269) rfl 271 rfl ?_
    refine own_aload X796 hx (hb hby at_271) rfl rfl 273 rfl ?_
    refine own_iconst X796 hx (hb hby at_273) (1 : Int32) rfl 274 rfl ?_
    refine own_laload X796 hx hZ e796 V799 1 rfl (10 : Int64) rfl (hb hby at_274) 275 rfl ?_
    refine own_callS X796 hx hZ hown (own_w hw 22 rfl) (own_w hw 23 rfl) (own_w hw 24 rfl) (own_w hw 25 rfl) (by decide) e796 (rm1 l Z a0 hw [] nn 1 (10 : Int64) h796 n0 hnn (by decide) (by decide)) (by rw [hml]; rfl) pd_0 (argsL := [(.long (Int64.ofNat nn)), (.long (10 : Int64))]) rfl (rest := [(.int (19 : Int32)), (.ref a680)]) rfl (hb hby at_275) 2 (Nat.le_of_eq rfl) (by decide) (by decide) (by decide) (by decide) 278 rfl (fun T800 L800 v800 X800 hQ800 => ?_)
    obtain ⟨rfl, N800, e800⟩ := hQ800
    have N801 := Fr.app N797 N800
    show own_Go p e below G (T800.setTop (mkF m 278 #[.val (.long v0), .second, .val (.int v1), .val (.int v2), .val (.int v3), .val (.long (Int64.ofNat nn)), .second, .val (.int (Int32.ofNat ni)), .val (.int (3 : Int32)), .val (.int (21 : Int32)), .val (.int (Int32.ofNat (21 - ni))), .val (.int y679), .val (.ref a680), .val (.ref a713)] [(.int (own_d nn 1)), (.int (19 : Int32)), (.ref a680)]))
    refine own_bastore X800 hx hZ e800 V796 19 rfl (by simp) (hb hby at_278) 279 rfl (fun T802 h802 X802 e802 W802 V802 => ?_)
    rw [show [y679, y679, y679, y679, (0 : Int32), (0 : Int32), (0 : Int32), (0 : Int32), (0 : Int32), (0 : Int32), (0 : Int32), (0 : Int32), (0 : Int32), (0 : Int32), (0 : Int32), (0 : Int32), (0 : Int32), (0 : Int32), y679, y679, (own_d nn 0), y679, y679, y679].set 19 ((own_d nn 1).toInt8.toInt32) = [y679, y679, y679, y679, (0 : Int32), (0 : Int32), (0 : Int32), (0 : Int32), (0 : Int32), (0 : Int32), (0 : Int32), (0 : Int32), (0 : Int32), (0 : Int32), (0 : Int32), (0 : Int32), (0 : Int32), (0 : Int32), y679, (own_d nn 1), (own_d nn 0), y679, y679, y679] from (by rw [own_d8]; rfl)] at V802
    have N803 := Fr.snoc X802 N801 ge681
    have Z804 : n0 ≤ h802.size := by rw [W802.size]; exact Z798
    have V805 := V799.other W802 (Ne.symm ne714)
    refine own_aload X802 hx (hb hby at_279) rfl rfl 281 rfl ?_
    refine own_iload X802 hx (hb hby at_281) rfl 283 rfl ?_
    refine own_iconst X802 hx (hb hby at_283) (3 : Int32) rfl 284 rfl ?_
    refine own_isub X802 hx (hb hby at_284) 285 rfl ?_
    show own_Go p e below G (T802.setTop (mkF m 285 #[.val (.long v0), .second, .val (.int v1), .val (.int v2), .val (.int v3), .val (.long (Int64.ofNat nn)), .second, .val (.int (Int32.ofNat ni)), .val (.int (3 : Int32)), .val (.int (21 : Int32)), .val (.int (Int32.ofNat (21 - ni))), .val (.int y679), .val (.ref a680), .val (.ref a713)] [(.int (18 : Int32)), (.ref a680)]))
    refine own_lload X802 hx (hb hby at_285) rfl 287 rfl ?_
    refine own_aload X802 hx (hb hby at_287) rfl rfl 289 rfl ?_
    refine own_iconst X802 hx (hb hby at_289) (2 : Int32) rfl 290 rfl ?_
    refine own_laload X802 hx hZ e802 V805 2 rfl (100 : Int64) rfl (hb hby at_290) 291 rfl ?_
    refine own_callS X802 hx hZ hown (own_w hw 22 rfl) (own_w hw 23 rfl) (own_w hw 24 rfl) (own_w hw 25 rfl) (by decide) e802 (rm1 l Z a0 hw [] nn 2 (100 : Int64) h802 n0 hnn (by decide) (by decide)) (by rw [hml]; rfl) pd_0 (argsL := [(.long (Int64.ofNat nn)), (.long (100 : Int64))]) rfl (rest := [(.int (18 : Int32)), (.ref a680)]) rfl (hb hby at_291) 2 (Nat.le_of_eq rfl) (by decide) (by decide) (by decide) (by decide) 294 rfl (fun T806 L806 v806 X806 hQ806 => ?_)
    obtain ⟨rfl, N806, e806⟩ := hQ806
    have N807 := Fr.app N803 N806
    show own_Go p e below G (T806.setTop (mkF m 294 #[.val (.long v0), .second, .val (.int v1), .val (.int v2), .val (.int v3), .val (.long (Int64.ofNat nn)), .second, .val (.int (Int32.ofNat ni)), .val (.int (3 : Int32)), .val (.int (21 : Int32)), .val (.int (Int32.ofNat (21 - ni))), .val (.int y679), .val (.ref a680), .val (.ref a713)] [(.int (own_d nn 2)), (.int (18 : Int32)), (.ref a680)]))
    refine own_bastore X806 hx hZ e806 V802 18 rfl (by simp) (hb hby at_294) 295 rfl (fun T808 h808 X808 e808 W808 V808 => ?_)
    rw [show [y679, y679, y679, y679, (0 : Int32), (0 : Int32), (0 : Int32), (0 : Int32), (0 : Int32), (0 : Int32), (0 : Int32), (0 : Int32), (0 : Int32), (0 : Int32), (0 : Int32), (0 : Int32), (0 : Int32), (0 : Int32), y679, (own_d nn 1), (own_d nn 0), y679, y679, y679].set 18 ((own_d nn 2).toInt8.toInt32) = [y679, y679, y679, y679, (0 : Int32), (0 : Int32), (0 : Int32), (0 : Int32), (0 : Int32), (0 : Int32), (0 : Int32), (0 : Int32), (0 : Int32), (0 : Int32), (0 : Int32), (0 : Int32), (0 : Int32), (0 : Int32), (own_d nn 2), (own_d nn 1), (own_d nn 0), y679, y679, y679] from (by rw [own_d8]; rfl)] at V808
    have N809 := Fr.snoc X808 N807 ge681
    have Z810 : n0 ≤ h808.size := by rw [W808.size]; exact Z804
    have V811 := V805.other W808 (Ne.symm ne714)
    refine own_aload X808 hx (hb hby at_295) rfl rfl 297 rfl ?_
    refine own_iload X808 hx (hb hby at_297) rfl 299 rfl ?_
    refine own_iconst X808 hx (hb hby at_299) (4 : Int32) rfl 300 rfl ?_
    refine own_isub X808 hx (hb hby at_300) 301 rfl ?_
    show own_Go p e below G (T808.setTop (mkF m 301 #[.val (.long v0), .second, .val (.int v1), .val (.int v2), .val (.int v3), .val (.long (Int64.ofNat nn)), .second, .val (.int (Int32.ofNat ni)), .val (.int (3 : Int32)), .val (.int (21 : Int32)), .val (.int (Int32.ofNat (21 - ni))), .val (.int y679), .val (.ref a680), .val (.ref a713)] [(.int (17 : Int32)), (.ref a680)]))
    refine own_lload X808 hx (hb hby at_301) rfl 303 rfl ?_
    refine own_aload X808 hx (hb hby at_303) rfl rfl 305 rfl ?_
    refine own_iconst X808 hx (hb hby at_305) (3 : Int32) rfl 306 rfl ?_
    refine own_laload X808 hx hZ e808 V811 3 rfl (1000 : Int64) rfl (hb hby at_306) 307 rfl ?_
    refine own_callS X808 hx hZ hown (own_w hw 22 rfl) (own_w hw 23 rfl) (own_w hw 24 rfl) (own_w hw 25 rfl) (by decide) e808 (rm1 l Z a0 hw [] nn 3 (1000 : Int64) h808 n0 hnn (by decide) (by decide)) (by rw [hml]; rfl) pd_0 (argsL := [(.long (Int64.ofNat nn)), (.long (1000 : Int64))]) rfl (rest := [(.int (17 : Int32)), (.ref a680)]) rfl (hb hby at_307) 2 (Nat.le_of_eq rfl) (by decide) (by decide) (by decide) (by decide) 310 rfl (fun T812 L812 v812 X812 hQ812 => ?_)
    obtain ⟨rfl, N812, e812⟩ := hQ812
    have N813 := Fr.app N809 N812
    show own_Go p e below G (T812.setTop (mkF m 310 #[.val (.long v0), .second, .val (.int v1), .val (.int v2), .val (.int v3), .val (.long (Int64.ofNat nn)), .second, .val (.int (Int32.ofNat ni)), .val (.int (3 : Int32)), .val (.int (21 : Int32)), .val (.int (Int32.ofNat (21 - ni))), .val (.int y679), .val (.ref a680), .val (.ref a713)] [(.int (own_d nn 3)), (.int (17 : Int32)), (.ref a680)]))
    refine own_bastore X812 hx hZ e812 V808 17 rfl (by simp) (hb hby at_310) 311 rfl (fun T814 h814 X814 e814 W814 V814 => ?_)
    rw [show [y679, y679, y679, y679, (0 : Int32), (0 : Int32), (0 : Int32), (0 : Int32), (0 : Int32), (0 : Int32), (0 : Int32), (0 : Int32), (0 : Int32), (0 : Int32), (0 : Int32), (0 : Int32), (0 : Int32), (0 : Int32), (own_d nn 2), (own_d nn 1), (own_d nn 0), y679, y679, y679].set 17 ((own_d nn 3).toInt8.toInt32) = [y679, y679, y679, y679, (0 : Int32), (0 : Int32), (0 : Int32), (0 : Int32), (0 : Int32), (0 : Int32), (0 : Int32), (0 : Int32), (0 : Int32), (0 : Int32), (0 : Int32), (0 : Int32), (0 : Int32), (own_d nn 3), (own_d nn 2), (own_d nn 1), (own_d nn 0), y679, y679, y679] from (by rw [own_d8]; rfl)] at V814
    have N815 := Fr.snoc X814 N813 ge681
    have Z816 : n0 ≤ h814.size := by rw [W814.size]; exact Z810
    have V817 := V811.other W814 (Ne.symm ne714)
    refine own_aload X814 hx (hb hby at_311) rfl rfl 313 rfl ?_
    refine own_iload X814 hx (hb hby at_313) rfl 315 rfl ?_
    refine own_iconst X814 hx (hb hby at_315) (5 : Int32) rfl 316 rfl ?_
    refine own_isub X814 hx (hb hby at_316) 317 rfl ?_
    show own_Go p e below G (T814.setTop (mkF m 317 #[.val (.long v0), .second, .val (.int v1), .val (.int v2), .val (.int v3), .val (.long (Int64.ofNat nn)), .second, .val (.int (Int32.ofNat ni)), .val (.int (3 : Int32)), .val (.int (21 : Int32)), .val (.int (Int32.ofNat (21 - ni))), .val (.int y679), .val (.ref a680), .val (.ref a713)] [(.int (16 : Int32)), (.ref a680)]))
    refine own_lload X814 hx (hb hby at_317) rfl 319 rfl ?_
    refine own_aload X814 hx (hb hby at_319) rfl rfl 321 rfl ?_
    refine own_iconst X814 hx (hb hby at_321) (4 : Int32) rfl 322 rfl ?_
    refine own_laload X814 hx hZ e814 V817 4 rfl (10000 : Int64) rfl (hb hby at_322) 323 rfl ?_
    refine own_callS X814 hx hZ hown (own_w hw 22 rfl) (own_w hw 23 rfl) (own_w hw 24 rfl) (own_w hw 25 rfl) (by decide) e814 (rm1 l Z a0 hw [] nn 4 (10000 : Int64) h814 n0 hnn (by decide) (by decide)) (by rw [hml]; rfl) pd_0 (argsL := [(.long (Int64.ofNat nn)), (.long (10000 : Int64))]) rfl (rest := [(.int (16 : Int32)), (.ref a680)]) rfl (hb hby at_323) 2 (Nat.le_of_eq rfl) (by decide) (by decide) (by decide) (by decide) 326 rfl (fun T818 L818 v818 X818 hQ818 => ?_)
    obtain ⟨rfl, N818, e818⟩ := hQ818
    have N819 := Fr.app N815 N818
    show own_Go p e below G (T818.setTop (mkF m 326 #[.val (.long v0), .second, .val (.int v1), .val (.int v2), .val (.int v3), .val (.long (Int64.ofNat nn)), .second, .val (.int (Int32.ofNat ni)), .val (.int (3 : Int32)), .val (.int (21 : Int32)), .val (.int (Int32.ofNat (21 - ni))), .val (.int y679), .val (.ref a680), .val (.ref a713)] [(.int (own_d nn 4)), (.int (16 : Int32)), (.ref a680)]))
    refine own_bastore X818 hx hZ e818 V814 16 rfl (by simp) (hb hby at_326) 327 rfl (fun T820 h820 X820 e820 W820 V820 => ?_)
    rw [show [y679, y679, y679, y679, (0 : Int32), (0 : Int32), (0 : Int32), (0 : Int32), (0 : Int32), (0 : Int32), (0 : Int32), (0 : Int32), (0 : Int32), (0 : Int32), (0 : Int32), (0 : Int32), (0 : Int32), (own_d nn 3), (own_d nn 2), (own_d nn 1), (own_d nn 0), y679, y679, y679].set 16 ((own_d nn 4).toInt8.toInt32) = [y679, y679, y679, y679, (0 : Int32), (0 : Int32), (0 : Int32), (0 : Int32), (0 : Int32), (0 : Int32), (0 : Int32), (0 : Int32), (0 : Int32), (0 : Int32), (0 : Int32), (0 : Int32), (own_d nn 4), (own_d nn 3), (own_d nn 2), (own_d nn 1), (own_d nn 0), y679, y679, y679] from (by rw [own_d8]; rfl)] at V820
    have N821 := Fr.snoc X820 N819 ge681
    have Z822 : n0 ≤ h820.size := by rw [W820.size]; exact Z816
    have V823 := V817.other W820 (Ne.symm ne714)
    refine own_aload X820 hx (hb hby at_327) rfl rfl 329 rfl ?_
    refine own_iload X820 hx (hb hby at_329) rfl 331 rfl ?_
    refine own_bipush X820 hx (hb hby at_331) (6 : Int32) rfl 333 rfl ?_
    refine own_isub X820 hx (hb hby at_333) 334 rfl ?_
    show own_Go p e below G (T820.setTop (mkF m 334 #[.val (.long v0), .second, .val (.int v1), .val (.int v2), .val (.int v3), .val (.long (Int64.ofNat nn)), .second, .val (.int (Int32.ofNat ni)), .val (.int (3 : Int32)), .val (.int (21 : Int32)), .val (.int (Int32.ofNat (21 - ni))), .val (.int y679), .val (.ref a680), .val (.ref a713)] [(.int (15 : Int32)), (.ref a680)]))
    refine own_lload X820 hx (hb hby at_334) rfl 336 rfl ?_
    refine own_aload X820 hx (hb hby at_336) rfl rfl 338 rfl ?_
    refine own_iconst X820 hx (hb hby at_338) (5 : Int32) rfl 339 rfl ?_
    refine own_laload X820 hx hZ e820 V823 5 rfl (100000 : Int64) rfl (hb hby at_339) 340 rfl ?_
    refine own_callS X820 hx hZ hown (own_w hw 22 rfl) (own_w hw 23 rfl) (own_w hw 24 rfl) (own_w hw 25 rfl) (by decide) e820 (rm1 l Z a0 hw [] nn 5 (100000 : Int64) h820 n0 hnn (by decide) (by decide)) (by rw [hml]; rfl) pd_0 (argsL := [(.long (Int64.ofNat nn)), (.long (100000 : Int64))]) rfl (rest := [(.int (15 : Int32)), (.ref a680)]) rfl (hb hby at_340) 2 (Nat.le_of_eq rfl) (by decide) (by decide) (by decide) (by decide) 343 rfl (fun T824 L824 v824 X824 hQ824 => ?_)
    obtain ⟨rfl, N824, e824⟩ := hQ824
    have N825 := Fr.app N821 N824
    show own_Go p e below G (T824.setTop (mkF m 343 #[.val (.long v0), .second, .val (.int v1), .val (.int v2), .val (.int v3), .val (.long (Int64.ofNat nn)), .second, .val (.int (Int32.ofNat ni)), .val (.int (3 : Int32)), .val (.int (21 : Int32)), .val (.int (Int32.ofNat (21 - ni))), .val (.int y679), .val (.ref a680), .val (.ref a713)] [(.int (own_d nn 5)), (.int (15 : Int32)), (.ref a680)]))
    refine own_bastore X824 hx hZ e824 V820 15 rfl (by simp) (hb hby at_343) 344 rfl (fun T826 h826 X826 e826 W826 V826 => ?_)
    rw [show [y679, y679, y679, y679, (0 : Int32), (0 : Int32), (0 : Int32), (0 : Int32), (0 : Int32), (0 : Int32), (0 : Int32), (0 : Int32), (0 : Int32), (0 : Int32), (0 : Int32), (0 : Int32), (own_d nn 4), (own_d nn 3), (own_d nn 2), (own_d nn 1), (own_d nn 0), y679, y679, y679].set 15 ((own_d nn 5).toInt8.toInt32) = [y679, y679, y679, y679, (0 : Int32), (0 : Int32), (0 : Int32), (0 : Int32), (0 : Int32), (0 : Int32), (0 : Int32), (0 : Int32), (0 : Int32), (0 : Int32), (0 : Int32), (own_d nn 5), (own_d nn 4), (own_d nn 3), (own_d nn 2), (own_d nn 1), (own_d nn 0), y679, y679, y679] from (by rw [own_d8]; rfl)] at V826
    have N827 := Fr.snoc X826 N825 ge681
    have Z828 : n0 ≤ h826.size := by rw [W826.size]; exact Z822
    have V829 := V823.other W826 (Ne.symm ne714)
    refine own_aload X826 hx (hb hby at_344) rfl rfl 346 rfl ?_
    refine own_iload X826 hx (hb hby at_346) rfl 348 rfl ?_
    refine own_bipush X826 hx (hb hby at_348) (7 : Int32) rfl 350 rfl ?_
    refine own_isub X826 hx (hb hby at_350) 351 rfl ?_
    show own_Go p e below G (T826.setTop (mkF m 351 #[.val (.long v0), .second, .val (.int v1), .val (.int v2), .val (.int v3), .val (.long (Int64.ofNat nn)), .second, .val (.int (Int32.ofNat ni)), .val (.int (3 : Int32)), .val (.int (21 : Int32)), .val (.int (Int32.ofNat (21 - ni))), .val (.int y679), .val (.ref a680), .val (.ref a713)] [(.int (14 : Int32)), (.ref a680)]))
    refine own_lload X826 hx (hb hby at_351) rfl 353 rfl ?_
    refine own_aload X826 hx (hb hby at_353) rfl rfl 355 rfl ?_
    refine own_bipush X826 hx (hb hby at_355) (6 : Int32) rfl 357 rfl ?_
    refine own_laload X826 hx hZ e826 V829 6 rfl (1000000 : Int64) rfl (hb hby at_357) 358 rfl ?_
    refine own_callS X826 hx hZ hown (own_w hw 22 rfl) (own_w hw 23 rfl) (own_w hw 24 rfl) (own_w hw 25 rfl) (by decide) e826 (rm1 l Z a0 hw [] nn 6 (1000000 : Int64) h826 n0 hnn (by decide) (by decide)) (by rw [hml]; rfl) pd_0 (argsL := [(.long (Int64.ofNat nn)), (.long (1000000 : Int64))]) rfl (rest := [(.int (14 : Int32)), (.ref a680)]) rfl (hb hby at_358) 2 (Nat.le_of_eq rfl) (by decide) (by decide) (by decide) (by decide) 361 rfl (fun T830 L830 v830 X830 hQ830 => ?_)
    obtain ⟨rfl, N830, e830⟩ := hQ830
    have N831 := Fr.app N827 N830
    show own_Go p e below G (T830.setTop (mkF m 361 #[.val (.long v0), .second, .val (.int v1), .val (.int v2), .val (.int v3), .val (.long (Int64.ofNat nn)), .second, .val (.int (Int32.ofNat ni)), .val (.int (3 : Int32)), .val (.int (21 : Int32)), .val (.int (Int32.ofNat (21 - ni))), .val (.int y679), .val (.ref a680), .val (.ref a713)] [(.int (own_d nn 6)), (.int (14 : Int32)), (.ref a680)]))
    refine own_bastore X830 hx hZ e830 V826 14 rfl (by simp) (hb hby at_361) 362 rfl (fun T832 h832 X832 e832 W832 V832 => ?_)
    rw [show [y679, y679, y679, y679, (0 : Int32), (0 : Int32), (0 : Int32), (0 : Int32), (0 : Int32), (0 : Int32), (0 : Int32), (0 : Int32), (0 : Int32), (0 : Int32), (0 : Int32), (own_d nn 5), (own_d nn 4), (own_d nn 3), (own_d nn 2), (own_d nn 1), (own_d nn 0), y679, y679, y679].set 14 ((own_d nn 6).toInt8.toInt32) = [y679, y679, y679, y679, (0 : Int32), (0 : Int32), (0 : Int32), (0 : Int32), (0 : Int32), (0 : Int32), (0 : Int32), (0 : Int32), (0 : Int32), (0 : Int32), (own_d nn 6), (own_d nn 5), (own_d nn 4), (own_d nn 3), (own_d nn 2), (own_d nn 1), (own_d nn 0), y679, y679, y679] from (by rw [own_d8]; rfl)] at V832
    have N833 := Fr.snoc X832 N831 ge681
    have Z834 : n0 ≤ h832.size := by rw [W832.size]; exact Z828
    have V835 := V829.other W832 (Ne.symm ne714)
    refine own_aload X832 hx (hb hby at_362) rfl rfl 364 rfl ?_
    refine own_iload X832 hx (hb hby at_364) rfl 366 rfl ?_
    refine own_bipush X832 hx (hb hby at_366) (8 : Int32) rfl 368 rfl ?_
    refine own_isub X832 hx (hb hby at_368) 369 rfl ?_
    show own_Go p e below G (T832.setTop (mkF m 369 #[.val (.long v0), .second, .val (.int v1), .val (.int v2), .val (.int v3), .val (.long (Int64.ofNat nn)), .second, .val (.int (Int32.ofNat ni)), .val (.int (3 : Int32)), .val (.int (21 : Int32)), .val (.int (Int32.ofNat (21 - ni))), .val (.int y679), .val (.ref a680), .val (.ref a713)] [(.int (13 : Int32)), (.ref a680)]))
    refine own_lload X832 hx (hb hby at_369) rfl 371 rfl ?_
    refine own_aload X832 hx (hb hby at_371) rfl rfl 373 rfl ?_
    refine own_bipush X832 hx (hb hby at_373) (7 : Int32) rfl 375 rfl ?_
    refine own_laload X832 hx hZ e832 V835 7 rfl (10000000 : Int64) rfl (hb hby at_375) 376 rfl ?_
    refine own_callS X832 hx hZ hown (own_w hw 22 rfl) (own_w hw 23 rfl) (own_w hw 24 rfl) (own_w hw 25 rfl) (by decide) e832 (rm1 l Z a0 hw [] nn 7 (10000000 : Int64) h832 n0 hnn (by decide) (by decide)) (by rw [hml]; rfl) pd_0 (argsL := [(.long (Int64.ofNat nn)), (.long (10000000 : Int64))]) rfl (rest := [(.int (13 : Int32)), (.ref a680)]) rfl (hb hby at_376) 2 (Nat.le_of_eq rfl) (by decide) (by decide) (by decide) (by decide) 379 rfl (fun T836 L836 v836 X836 hQ836 => ?_)
    obtain ⟨rfl, N836, e836⟩ := hQ836
    have N837 := Fr.app N833 N836
    show own_Go p e below G (T836.setTop (mkF m 379 #[.val (.long v0), .second, .val (.int v1), .val (.int v2), .val (.int v3), .val (.long (Int64.ofNat nn)), .second, .val (.int (Int32.ofNat ni)), .val (.int (3 : Int32)), .val (.int (21 : Int32)), .val (.int (Int32.ofNat (21 - ni))), .val (.int y679), .val (.ref a680), .val (.ref a713)] [(.int (own_d nn 7)), (.int (13 : Int32)), (.ref a680)]))
    refine own_bastore X836 hx hZ e836 V832 13 rfl (by simp) (hb hby at_379) 380 rfl (fun T838 h838 X838 e838 W838 V838 => ?_)
    rw [show [y679, y679, y679, y679, (0 : Int32), (0 : Int32), (0 : Int32), (0 : Int32), (0 : Int32), (0 : Int32), (0 : Int32), (0 : Int32), (0 : Int32), (0 : Int32), (own_d nn 6), (own_d nn 5), (own_d nn 4), (own_d nn 3), (own_d nn 2), (own_d nn 1), (own_d nn 0), y679, y679, y679].set 13 ((own_d nn 7).toInt8.toInt32) = [y679, y679, y679, y679, (0 : Int32), (0 : Int32), (0 : Int32), (0 : Int32), (0 : Int32), (0 : Int32), (0 : Int32), (0 : Int32), (0 : Int32), (own_d nn 7), (own_d nn 6), (own_d nn 5), (own_d nn 4), (own_d nn 3), (own_d nn 2), (own_d nn 1), (own_d nn 0), y679, y679, y679] from (by rw [own_d8]; rfl)] at V838
    have N839 := Fr.snoc X838 N837 ge681
    have Z840 : n0 ≤ h838.size := by rw [W838.size]; exact Z834
    have V841 := V835.other W838 (Ne.symm ne714)
    refine own_aload X838 hx (hb hby at_380) rfl rfl 382 rfl ?_
    refine own_iload X838 hx (hb hby at_382) rfl 384 rfl ?_
    refine own_bipush X838 hx (hb hby at_384) (9 : Int32) rfl 386 rfl ?_
    refine own_isub X838 hx (hb hby at_386) 387 rfl ?_
    show own_Go p e below G (T838.setTop (mkF m 387 #[.val (.long v0), .second, .val (.int v1), .val (.int v2), .val (.int v3), .val (.long (Int64.ofNat nn)), .second, .val (.int (Int32.ofNat ni)), .val (.int (3 : Int32)), .val (.int (21 : Int32)), .val (.int (Int32.ofNat (21 - ni))), .val (.int y679), .val (.ref a680), .val (.ref a713)] [(.int (12 : Int32)), (.ref a680)]))
    refine own_lload X838 hx (hb hby at_387) rfl 389 rfl ?_
    refine own_aload X838 hx (hb hby at_389) rfl rfl 391 rfl ?_
    refine own_bipush X838 hx (hb hby at_391) (8 : Int32) rfl 393 rfl ?_
    refine own_laload X838 hx hZ e838 V841 8 rfl (100000000 : Int64) rfl (hb hby at_393) 394 rfl ?_
    refine own_callS X838 hx hZ hown (own_w hw 22 rfl) (own_w hw 23 rfl) (own_w hw 24 rfl) (own_w hw 25 rfl) (by decide) e838 (rm1 l Z a0 hw [] nn 8 (100000000 : Int64) h838 n0 hnn (by decide) (by decide)) (by rw [hml]; rfl) pd_0 (argsL := [(.long (Int64.ofNat nn)), (.long (100000000 : Int64))]) rfl (rest := [(.int (12 : Int32)), (.ref a680)]) rfl (hb hby at_394) 2 (Nat.le_of_eq rfl) (by decide) (by decide) (by decide) (by decide) 397 rfl (fun T842 L842 v842 X842 hQ842 => ?_)
    obtain ⟨rfl, N842, e842⟩ := hQ842
    have N843 := Fr.app N839 N842
    show own_Go p e below G (T842.setTop (mkF m 397 #[.val (.long v0), .second, .val (.int v1), .val (.int v2), .val (.int v3), .val (.long (Int64.ofNat nn)), .second, .val (.int (Int32.ofNat ni)), .val (.int (3 : Int32)), .val (.int (21 : Int32)), .val (.int (Int32.ofNat (21 - ni))), .val (.int y679), .val (.ref a680), .val (.ref a713)] [(.int (own_d nn 8)), (.int (12 : Int32)), (.ref a680)]))
    refine own_bastore X842 hx hZ e842 V838 12 rfl (by simp) (hb hby at_397) 398 rfl (fun T844 h844 X844 e844 W844 V844 => ?_)
    rw [show [y679, y679, y679, y679, (0 : Int32), (0 : Int32), (0 : Int32), (0 : Int32), (0 : Int32), (0 : Int32), (0 : Int32), (0 : Int32), (0 : Int32), (own_d nn 7), (own_d nn 6), (own_d nn 5), (own_d nn 4), (own_d nn 3), (own_d nn 2), (own_d nn 1), (own_d nn 0), y679, y679, y679].set 12 ((own_d nn 8).toInt8.toInt32) = [y679, y679, y679, y679, (0 : Int32), (0 : Int32), (0 : Int32), (0 : Int32), (0 : Int32), (0 : Int32), (0 : Int32), (0 : Int32), (own_d nn 8), (own_d nn 7), (own_d nn 6), (own_d nn 5), (own_d nn 4), (own_d nn 3), (own_d nn 2), (own_d nn 1), (own_d nn 0), y679, y679, y679] from (by rw [own_d8]; rfl)] at V844
    have N845 := Fr.snoc X844 N843 ge681
    have Z846 : n0 ≤ h844.size := by rw [W844.size]; exact Z840
    have V847 := V841.other W844 (Ne.symm ne714)
    refine own_aload X844 hx (hb hby at_398) rfl rfl 400 rfl ?_
    refine own_iload X844 hx (hb hby at_400) rfl 402 rfl ?_
    refine own_bipush X844 hx (hb hby at_402) (10 : Int32) rfl 404 rfl ?_
    refine own_isub X844 hx (hb hby at_404) 405 rfl ?_
    show own_Go p e below G (T844.setTop (mkF m 405 #[.val (.long v0), .second, .val (.int v1), .val (.int v2), .val (.int v3), .val (.long (Int64.ofNat nn)), .second, .val (.int (Int32.ofNat ni)), .val (.int (3 : Int32)), .val (.int (21 : Int32)), .val (.int (Int32.ofNat (21 - ni))), .val (.int y679), .val (.ref a680), .val (.ref a713)] [(.int (11 : Int32)), (.ref a680)]))
    refine own_lload X844 hx (hb hby at_405) rfl 407 rfl ?_
    refine own_aload X844 hx (hb hby at_407) rfl rfl 409 rfl ?_
    refine own_bipush X844 hx (hb hby at_409) (9 : Int32) rfl 411 rfl ?_
    refine own_laload X844 hx hZ e844 V847 9 rfl (1000000000 : Int64) rfl (hb hby at_411) 412 rfl ?_
    refine own_callS X844 hx hZ hown (own_w hw 22 rfl) (own_w hw 23 rfl) (own_w hw 24 rfl) (own_w hw 25 rfl) (by decide) e844 (rm1 l Z a0 hw [] nn 9 (1000000000 : Int64) h844 n0 hnn (by decide) (by decide)) (by rw [hml]; rfl) pd_0 (argsL := [(.long (Int64.ofNat nn)), (.long (1000000000 : Int64))]) rfl (rest := [(.int (11 : Int32)), (.ref a680)]) rfl (hb hby at_412) 2 (Nat.le_of_eq rfl) (by decide) (by decide) (by decide) (by decide) 415 rfl (fun T848 L848 v848 X848 hQ848 => ?_)
    obtain ⟨rfl, N848, e848⟩ := hQ848
    have N849 := Fr.app N845 N848
    show own_Go p e below G (T848.setTop (mkF m 415 #[.val (.long v0), .second, .val (.int v1), .val (.int v2), .val (.int v3), .val (.long (Int64.ofNat nn)), .second, .val (.int (Int32.ofNat ni)), .val (.int (3 : Int32)), .val (.int (21 : Int32)), .val (.int (Int32.ofNat (21 - ni))), .val (.int y679), .val (.ref a680), .val (.ref a713)] [(.int (own_d nn 9)), (.int (11 : Int32)), (.ref a680)]))
    refine own_bastore X848 hx hZ e848 V844 11 rfl (by simp) (hb hby at_415) 416 rfl (fun T850 h850 X850 e850 W850 V850 => ?_)
    rw [show [y679, y679, y679, y679, (0 : Int32), (0 : Int32), (0 : Int32), (0 : Int32), (0 : Int32), (0 : Int32), (0 : Int32), (0 : Int32), (own_d nn 8), (own_d nn 7), (own_d nn 6), (own_d nn 5), (own_d nn 4), (own_d nn 3), (own_d nn 2), (own_d nn 1), (own_d nn 0), y679, y679, y679].set 11 ((own_d nn 9).toInt8.toInt32) = [y679, y679, y679, y679, (0 : Int32), (0 : Int32), (0 : Int32), (0 : Int32), (0 : Int32), (0 : Int32), (0 : Int32), (own_d nn 9), (own_d nn 8), (own_d nn 7), (own_d nn 6), (own_d nn 5), (own_d nn 4), (own_d nn 3), (own_d nn 2), (own_d nn 1), (own_d nn 0), y679, y679, y679] from (by rw [own_d8]; rfl)] at V850
    have N851 := Fr.snoc X850 N849 ge681
    have Z852 : n0 ≤ h850.size := by rw [W850.size]; exact Z846
    have V853 := V847.other W850 (Ne.symm ne714)
    refine own_aload X850 hx (hb hby at_416) rfl rfl 418 rfl ?_
    refine own_iload X850 hx (hb hby at_418) rfl 420 rfl ?_
    refine own_bipush X850 hx (hb hby at_420) (11 : Int32) rfl 422 rfl ?_
    refine own_isub X850 hx (hb hby at_422) 423 rfl ?_
    show own_Go p e below G (T850.setTop (mkF m 423 #[.val (.long v0), .second, .val (.int v1), .val (.int v2), .val (.int v3), .val (.long (Int64.ofNat nn)), .second, .val (.int (Int32.ofNat ni)), .val (.int (3 : Int32)), .val (.int (21 : Int32)), .val (.int (Int32.ofNat (21 - ni))), .val (.int y679), .val (.ref a680), .val (.ref a713)] [(.int (10 : Int32)), (.ref a680)]))
    refine own_lload X850 hx (hb hby at_423) rfl 425 rfl ?_
    refine own_aload X850 hx (hb hby at_425) rfl rfl 427 rfl ?_
    refine own_bipush X850 hx (hb hby at_427) (10 : Int32) rfl 429 rfl ?_
    refine own_laload X850 hx hZ e850 V853 10 rfl (10000000000 : Int64) rfl (hb hby at_429) 430 rfl ?_
    refine own_callS X850 hx hZ hown (own_w hw 22 rfl) (own_w hw 23 rfl) (own_w hw 24 rfl) (own_w hw 25 rfl) (by decide) e850 (rm1 l Z a0 hw [] nn 10 (10000000000 : Int64) h850 n0 hnn (by decide) (by decide)) (by rw [hml]; rfl) pd_0 (argsL := [(.long (Int64.ofNat nn)), (.long (10000000000 : Int64))]) rfl (rest := [(.int (10 : Int32)), (.ref a680)]) rfl (hb hby at_430) 2 (Nat.le_of_eq rfl) (by decide) (by decide) (by decide) (by decide) 433 rfl (fun T854 L854 v854 X854 hQ854 => ?_)
    obtain ⟨rfl, N854, e854⟩ := hQ854
    have N855 := Fr.app N851 N854
    show own_Go p e below G (T854.setTop (mkF m 433 #[.val (.long v0), .second, .val (.int v1), .val (.int v2), .val (.int v3), .val (.long (Int64.ofNat nn)), .second, .val (.int (Int32.ofNat ni)), .val (.int (3 : Int32)), .val (.int (21 : Int32)), .val (.int (Int32.ofNat (21 - ni))), .val (.int y679), .val (.ref a680), .val (.ref a713)] [(.int (own_d nn 10)), (.int (10 : Int32)), (.ref a680)]))
    refine own_bastore X854 hx hZ e854 V850 10 rfl (by simp) (hb hby at_433) 434 rfl (fun T856 h856 X856 e856 W856 V856 => ?_)
    rw [show [y679, y679, y679, y679, (0 : Int32), (0 : Int32), (0 : Int32), (0 : Int32), (0 : Int32), (0 : Int32), (0 : Int32), (own_d nn 9), (own_d nn 8), (own_d nn 7), (own_d nn 6), (own_d nn 5), (own_d nn 4), (own_d nn 3), (own_d nn 2), (own_d nn 1), (own_d nn 0), y679, y679, y679].set 10 ((own_d nn 10).toInt8.toInt32) = [y679, y679, y679, y679, (0 : Int32), (0 : Int32), (0 : Int32), (0 : Int32), (0 : Int32), (0 : Int32), (own_d nn 10), (own_d nn 9), (own_d nn 8), (own_d nn 7), (own_d nn 6), (own_d nn 5), (own_d nn 4), (own_d nn 3), (own_d nn 2), (own_d nn 1), (own_d nn 0), y679, y679, y679] from (by rw [own_d8]; rfl)] at V856
    have N857 := Fr.snoc X856 N855 ge681
    have Z858 : n0 ≤ h856.size := by rw [W856.size]; exact Z852
    have V859 := V853.other W856 (Ne.symm ne714)
    refine own_aload X856 hx (hb hby at_434) rfl rfl 436 rfl ?_
    refine own_iload X856 hx (hb hby at_436) rfl 438 rfl ?_
    refine own_bipush X856 hx (hb hby at_438) (12 : Int32) rfl 440 rfl ?_
    refine own_isub X856 hx (hb hby at_440) 441 rfl ?_
    show own_Go p e below G (T856.setTop (mkF m 441 #[.val (.long v0), .second, .val (.int v1), .val (.int v2), .val (.int v3), .val (.long (Int64.ofNat nn)), .second, .val (.int (Int32.ofNat ni)), .val (.int (3 : Int32)), .val (.int (21 : Int32)), .val (.int (Int32.ofNat (21 - ni))), .val (.int y679), .val (.ref a680), .val (.ref a713)] [(.int (9 : Int32)), (.ref a680)]))
    refine own_lload X856 hx (hb hby at_441) rfl 443 rfl ?_
    refine own_aload X856 hx (hb hby at_443) rfl rfl 445 rfl ?_
    refine own_bipush X856 hx (hb hby at_445) (11 : Int32) rfl 447 rfl ?_
    refine own_laload X856 hx hZ e856 V859 11 rfl (100000000000 : Int64) rfl (hb hby at_447) 448 rfl ?_
    refine own_callS X856 hx hZ hown (own_w hw 22 rfl) (own_w hw 23 rfl) (own_w hw 24 rfl) (own_w hw 25 rfl) (by decide) e856 (rm1 l Z a0 hw [] nn 11 (100000000000 : Int64) h856 n0 hnn (by decide) (by decide)) (by rw [hml]; rfl) pd_0 (argsL := [(.long (Int64.ofNat nn)), (.long (100000000000 : Int64))]) rfl (rest := [(.int (9 : Int32)), (.ref a680)]) rfl (hb hby at_448) 2 (Nat.le_of_eq rfl) (by decide) (by decide) (by decide) (by decide) 451 rfl (fun T860 L860 v860 X860 hQ860 => ?_)
    obtain ⟨rfl, N860, e860⟩ := hQ860
    have N861 := Fr.app N857 N860
    show own_Go p e below G (T860.setTop (mkF m 451 #[.val (.long v0), .second, .val (.int v1), .val (.int v2), .val (.int v3), .val (.long (Int64.ofNat nn)), .second, .val (.int (Int32.ofNat ni)), .val (.int (3 : Int32)), .val (.int (21 : Int32)), .val (.int (Int32.ofNat (21 - ni))), .val (.int y679), .val (.ref a680), .val (.ref a713)] [(.int (own_d nn 11)), (.int (9 : Int32)), (.ref a680)]))
    refine own_bastore X860 hx hZ e860 V856 9 rfl (by simp) (hb hby at_451) 452 rfl (fun T862 h862 X862 e862 W862 V862 => ?_)
    rw [show [y679, y679, y679, y679, (0 : Int32), (0 : Int32), (0 : Int32), (0 : Int32), (0 : Int32), (0 : Int32), (own_d nn 10), (own_d nn 9), (own_d nn 8), (own_d nn 7), (own_d nn 6), (own_d nn 5), (own_d nn 4), (own_d nn 3), (own_d nn 2), (own_d nn 1), (own_d nn 0), y679, y679, y679].set 9 ((own_d nn 11).toInt8.toInt32) = [y679, y679, y679, y679, (0 : Int32), (0 : Int32), (0 : Int32), (0 : Int32), (0 : Int32), (own_d nn 11), (own_d nn 10), (own_d nn 9), (own_d nn 8), (own_d nn 7), (own_d nn 6), (own_d nn 5), (own_d nn 4), (own_d nn 3), (own_d nn 2), (own_d nn 1), (own_d nn 0), y679, y679, y679] from (by rw [own_d8]; rfl)] at V862
    have N863 := Fr.snoc X862 N861 ge681
    have Z864 : n0 ≤ h862.size := by rw [W862.size]; exact Z858
    have V865 := V859.other W862 (Ne.symm ne714)
    refine own_aload X862 hx (hb hby at_452) rfl rfl 454 rfl ?_
    refine own_iload X862 hx (hb hby at_454) rfl 456 rfl ?_
    refine own_bipush X862 hx (hb hby at_456) (13 : Int32) rfl 458 rfl ?_
    refine own_isub X862 hx (hb hby at_458) 459 rfl ?_
    show own_Go p e below G (T862.setTop (mkF m 459 #[.val (.long v0), .second, .val (.int v1), .val (.int v2), .val (.int v3), .val (.long (Int64.ofNat nn)), .second, .val (.int (Int32.ofNat ni)), .val (.int (3 : Int32)), .val (.int (21 : Int32)), .val (.int (Int32.ofNat (21 - ni))), .val (.int y679), .val (.ref a680), .val (.ref a713)] [(.int (8 : Int32)), (.ref a680)]))
    refine own_lload X862 hx (hb hby at_459) rfl 461 rfl ?_
    refine own_aload X862 hx (hb hby at_461) rfl rfl 463 rfl ?_
    refine own_bipush X862 hx (hb hby at_463) (12 : Int32) rfl 465 rfl ?_
    refine own_laload X862 hx hZ e862 V865 12 rfl (1000000000000 : Int64) rfl (hb hby at_465) 466 rfl ?_
    refine own_callS X862 hx hZ hown (own_w hw 22 rfl) (own_w hw 23 rfl) (own_w hw 24 rfl) (own_w hw 25 rfl) (by decide) e862 (rm1 l Z a0 hw [] nn 12 (1000000000000 : Int64) h862 n0 hnn (by decide) (by decide)) (by rw [hml]; rfl) pd_0 (argsL := [(.long (Int64.ofNat nn)), (.long (1000000000000 : Int64))]) rfl (rest := [(.int (8 : Int32)), (.ref a680)]) rfl (hb hby at_466) 2 (Nat.le_of_eq rfl) (by decide) (by decide) (by decide) (by decide) 469 rfl (fun T866 L866 v866 X866 hQ866 => ?_)
    obtain ⟨rfl, N866, e866⟩ := hQ866
    have N867 := Fr.app N863 N866
    show own_Go p e below G (T866.setTop (mkF m 469 #[.val (.long v0), .second, .val (.int v1), .val (.int v2), .val (.int v3), .val (.long (Int64.ofNat nn)), .second, .val (.int (Int32.ofNat ni)), .val (.int (3 : Int32)), .val (.int (21 : Int32)), .val (.int (Int32.ofNat (21 - ni))), .val (.int y679), .val (.ref a680), .val (.ref a713)] [(.int (own_d nn 12)), (.int (8 : Int32)), (.ref a680)]))
    refine own_bastore X866 hx hZ e866 V862 8 rfl (by simp) (hb hby at_469) 470 rfl (fun T868 h868 X868 e868 W868 V868 => ?_)
    rw [show [y679, y679, y679, y679, (0 : Int32), (0 : Int32), (0 : Int32), (0 : Int32), (0 : Int32), (own_d nn 11), (own_d nn 10), (own_d nn 9), (own_d nn 8), (own_d nn 7), (own_d nn 6), (own_d nn 5), (own_d nn 4), (own_d nn 3), (own_d nn 2), (own_d nn 1), (own_d nn 0), y679, y679, y679].set 8 ((own_d nn 12).toInt8.toInt32) = [y679, y679, y679, y679, (0 : Int32), (0 : Int32), (0 : Int32), (0 : Int32), (own_d nn 12), (own_d nn 11), (own_d nn 10), (own_d nn 9), (own_d nn 8), (own_d nn 7), (own_d nn 6), (own_d nn 5), (own_d nn 4), (own_d nn 3), (own_d nn 2), (own_d nn 1), (own_d nn 0), y679, y679, y679] from (by rw [own_d8]; rfl)] at V868
    have N869 := Fr.snoc X868 N867 ge681
    have Z870 : n0 ≤ h868.size := by rw [W868.size]; exact Z864
    have V871 := V865.other W868 (Ne.symm ne714)
    refine own_aload X868 hx (hb hby at_470) rfl rfl 472 rfl ?_
    refine own_iload X868 hx (hb hby at_472) rfl 474 rfl ?_
    refine own_bipush X868 hx (hb hby at_474) (14 : Int32) rfl 476 rfl ?_
    refine own_isub X868 hx (hb hby at_476) 477 rfl ?_
    show own_Go p e below G (T868.setTop (mkF m 477 #[.val (.long v0), .second, .val (.int v1), .val (.int v2), .val (.int v3), .val (.long (Int64.ofNat nn)), .second, .val (.int (Int32.ofNat ni)), .val (.int (3 : Int32)), .val (.int (21 : Int32)), .val (.int (Int32.ofNat (21 - ni))), .val (.int y679), .val (.ref a680), .val (.ref a713)] [(.int (7 : Int32)), (.ref a680)]))
    refine own_lload X868 hx (hb hby at_477) rfl 479 rfl ?_
    refine own_aload X868 hx (hb hby at_479) rfl rfl 481 rfl ?_
    refine own_bipush X868 hx (hb hby at_481) (13 : Int32) rfl 483 rfl ?_
    refine own_laload X868 hx hZ e868 V871 13 rfl (10000000000000 : Int64) rfl (hb hby at_483) 484 rfl ?_
    refine own_callS X868 hx hZ hown (own_w hw 22 rfl) (own_w hw 23 rfl) (own_w hw 24 rfl) (own_w hw 25 rfl) (by decide) e868 (rm1 l Z a0 hw [] nn 13 (10000000000000 : Int64) h868 n0 hnn (by decide) (by decide)) (by rw [hml]; rfl) pd_0 (argsL := [(.long (Int64.ofNat nn)), (.long (10000000000000 : Int64))]) rfl (rest := [(.int (7 : Int32)), (.ref a680)]) rfl (hb hby at_484) 2 (Nat.le_of_eq rfl) (by decide) (by decide) (by decide) (by decide) 487 rfl (fun T872 L872 v872 X872 hQ872 => ?_)
    obtain ⟨rfl, N872, e872⟩ := hQ872
    have N873 := Fr.app N869 N872
    show own_Go p e below G (T872.setTop (mkF m 487 #[.val (.long v0), .second, .val (.int v1), .val (.int v2), .val (.int v3), .val (.long (Int64.ofNat nn)), .second, .val (.int (Int32.ofNat ni)), .val (.int (3 : Int32)), .val (.int (21 : Int32)), .val (.int (Int32.ofNat (21 - ni))), .val (.int y679), .val (.ref a680), .val (.ref a713)] [(.int (own_d nn 13)), (.int (7 : Int32)), (.ref a680)]))
    refine own_bastore X872 hx hZ e872 V868 7 rfl (by simp) (hb hby at_487) 488 rfl (fun T874 h874 X874 e874 W874 V874 => ?_)
    rw [show [y679, y679, y679, y679, (0 : Int32), (0 : Int32), (0 : Int32), (0 : Int32), (own_d nn 12), (own_d nn 11), (own_d nn 10), (own_d nn 9), (own_d nn 8), (own_d nn 7), (own_d nn 6), (own_d nn 5), (own_d nn 4), (own_d nn 3), (own_d nn 2), (own_d nn 1), (own_d nn 0), y679, y679, y679].set 7 ((own_d nn 13).toInt8.toInt32) = [y679, y679, y679, y679, (0 : Int32), (0 : Int32), (0 : Int32), (own_d nn 13), (own_d nn 12), (own_d nn 11), (own_d nn 10), (own_d nn 9), (own_d nn 8), (own_d nn 7), (own_d nn 6), (own_d nn 5), (own_d nn 4), (own_d nn 3), (own_d nn 2), (own_d nn 1), (own_d nn 0), y679, y679, y679] from (by rw [own_d8]; rfl)] at V874
    have N875 := Fr.snoc X874 N873 ge681
    have Z876 : n0 ≤ h874.size := by rw [W874.size]; exact Z870
    have V877 := V871.other W874 (Ne.symm ne714)
    refine own_aload X874 hx (hb hby at_488) rfl rfl 490 rfl ?_
    refine own_iload X874 hx (hb hby at_490) rfl 492 rfl ?_
    refine own_bipush X874 hx (hb hby at_492) (15 : Int32) rfl 494 rfl ?_
    refine own_isub X874 hx (hb hby at_494) 495 rfl ?_
    show own_Go p e below G (T874.setTop (mkF m 495 #[.val (.long v0), .second, .val (.int v1), .val (.int v2), .val (.int v3), .val (.long (Int64.ofNat nn)), .second, .val (.int (Int32.ofNat ni)), .val (.int (3 : Int32)), .val (.int (21 : Int32)), .val (.int (Int32.ofNat (21 - ni))), .val (.int y679), .val (.ref a680), .val (.ref a713)] [(.int (6 : Int32)), (.ref a680)]))
    refine own_lload X874 hx (hb hby at_495) rfl 497 rfl ?_
    refine own_aload X874 hx (hb hby at_497) rfl rfl 499 rfl ?_
    refine own_bipush X874 hx (hb hby at_499) (14 : Int32) rfl 501 rfl ?_
    refine own_laload X874 hx hZ e874 V877 14 rfl (100000000000000 : Int64) rfl (hb hby at_501) 502 rfl ?_
    refine own_callS X874 hx hZ hown (own_w hw 22 rfl) (own_w hw 23 rfl) (own_w hw 24 rfl) (own_w hw 25 rfl) (by decide) e874 (rm1 l Z a0 hw [] nn 14 (100000000000000 : Int64) h874 n0 hnn (by decide) (by decide)) (by rw [hml]; rfl) pd_0 (argsL := [(.long (Int64.ofNat nn)), (.long (100000000000000 : Int64))]) rfl (rest := [(.int (6 : Int32)), (.ref a680)]) rfl (hb hby at_502) 2 (Nat.le_of_eq rfl) (by decide) (by decide) (by decide) (by decide) 505 rfl (fun T878 L878 v878 X878 hQ878 => ?_)
    obtain ⟨rfl, N878, e878⟩ := hQ878
    have N879 := Fr.app N875 N878
    show own_Go p e below G (T878.setTop (mkF m 505 #[.val (.long v0), .second, .val (.int v1), .val (.int v2), .val (.int v3), .val (.long (Int64.ofNat nn)), .second, .val (.int (Int32.ofNat ni)), .val (.int (3 : Int32)), .val (.int (21 : Int32)), .val (.int (Int32.ofNat (21 - ni))), .val (.int y679), .val (.ref a680), .val (.ref a713)] [(.int (own_d nn 14)), (.int (6 : Int32)), (.ref a680)]))
    refine own_bastore X878 hx hZ e878 V874 6 rfl (by simp) (hb hby at_505) 506 rfl (fun T880 h880 X880 e880 W880 V880 => ?_)
    rw [show [y679, y679, y679, y679, (0 : Int32), (0 : Int32), (0 : Int32), (own_d nn 13), (own_d nn 12), (own_d nn 11), (own_d nn 10), (own_d nn 9), (own_d nn 8), (own_d nn 7), (own_d nn 6), (own_d nn 5), (own_d nn 4), (own_d nn 3), (own_d nn 2), (own_d nn 1), (own_d nn 0), y679, y679, y679].set 6 ((own_d nn 14).toInt8.toInt32) = [y679, y679, y679, y679, (0 : Int32), (0 : Int32), (own_d nn 14), (own_d nn 13), (own_d nn 12), (own_d nn 11), (own_d nn 10), (own_d nn 9), (own_d nn 8), (own_d nn 7), (own_d nn 6), (own_d nn 5), (own_d nn 4), (own_d nn 3), (own_d nn 2), (own_d nn 1), (own_d nn 0), y679, y679, y679] from (by rw [own_d8]; rfl)] at V880
    have N881 := Fr.snoc X880 N879 ge681
    have Z882 : n0 ≤ h880.size := by rw [W880.size]; exact Z876
    have V883 := V877.other W880 (Ne.symm ne714)
    refine own_aload X880 hx (hb hby at_506) rfl rfl 508 rfl ?_
    refine own_iload X880 hx (hb hby at_508) rfl 510 rfl ?_
    refine own_bipush X880 hx (hb hby at_510) (16 : Int32) rfl 512 rfl ?_
    refine own_isub X880 hx (hb hby at_512) 513 rfl ?_
    show own_Go p e below G (T880.setTop (mkF m 513 #[.val (.long v0), .second, .val (.int v1), .val (.int v2), .val (.int v3), .val (.long (Int64.ofNat nn)), .second, .val (.int (Int32.ofNat ni)), .val (.int (3 : Int32)), .val (.int (21 : Int32)), .val (.int (Int32.ofNat (21 - ni))), .val (.int y679), .val (.ref a680), .val (.ref a713)] [(.int (5 : Int32)), (.ref a680)]))
    refine own_lload X880 hx (hb hby at_513) rfl 515 rfl ?_
    refine own_aload X880 hx (hb hby at_515) rfl rfl 517 rfl ?_
    refine own_bipush X880 hx (hb hby at_517) (15 : Int32) rfl 519 rfl ?_
    refine own_laload X880 hx hZ e880 V883 15 rfl (1000000000000000 : Int64) rfl (hb hby at_519) 520 rfl ?_
    refine own_callS X880 hx hZ hown (own_w hw 22 rfl) (own_w hw 23 rfl) (own_w hw 24 rfl) (own_w hw 25 rfl) (by decide) e880 (rm1 l Z a0 hw [] nn 15 (1000000000000000 : Int64) h880 n0 hnn (by decide) (by decide)) (by rw [hml]; rfl) pd_0 (argsL := [(.long (Int64.ofNat nn)), (.long (1000000000000000 : Int64))]) rfl (rest := [(.int (5 : Int32)), (.ref a680)]) rfl (hb hby at_520) 2 (Nat.le_of_eq rfl) (by decide) (by decide) (by decide) (by decide) 523 rfl (fun T884 L884 v884 X884 hQ884 => ?_)
    obtain ⟨rfl, N884, e884⟩ := hQ884
    have N885 := Fr.app N881 N884
    show own_Go p e below G (T884.setTop (mkF m 523 #[.val (.long v0), .second, .val (.int v1), .val (.int v2), .val (.int v3), .val (.long (Int64.ofNat nn)), .second, .val (.int (Int32.ofNat ni)), .val (.int (3 : Int32)), .val (.int (21 : Int32)), .val (.int (Int32.ofNat (21 - ni))), .val (.int y679), .val (.ref a680), .val (.ref a713)] [(.int (own_d nn 15)), (.int (5 : Int32)), (.ref a680)]))
    refine own_bastore X884 hx hZ e884 V880 5 rfl (by simp) (hb hby at_523) 524 rfl (fun T886 h886 X886 e886 W886 V886 => ?_)
    rw [show [y679, y679, y679, y679, (0 : Int32), (0 : Int32), (own_d nn 14), (own_d nn 13), (own_d nn 12), (own_d nn 11), (own_d nn 10), (own_d nn 9), (own_d nn 8), (own_d nn 7), (own_d nn 6), (own_d nn 5), (own_d nn 4), (own_d nn 3), (own_d nn 2), (own_d nn 1), (own_d nn 0), y679, y679, y679].set 5 ((own_d nn 15).toInt8.toInt32) = [y679, y679, y679, y679, (0 : Int32), (own_d nn 15), (own_d nn 14), (own_d nn 13), (own_d nn 12), (own_d nn 11), (own_d nn 10), (own_d nn 9), (own_d nn 8), (own_d nn 7), (own_d nn 6), (own_d nn 5), (own_d nn 4), (own_d nn 3), (own_d nn 2), (own_d nn 1), (own_d nn 0), y679, y679, y679] from (by rw [own_d8]; rfl)] at V886
    have N887 := Fr.snoc X886 N885 ge681
    have Z888 : n0 ≤ h886.size := by rw [W886.size]; exact Z882
    have V889 := V883.other W886 (Ne.symm ne714)
    refine own_aload X886 hx (hb hby at_524) rfl rfl 526 rfl ?_
    refine own_iload X886 hx (hb hby at_526) rfl 528 rfl ?_
    refine own_bipush X886 hx (hb hby at_528) (17 : Int32) rfl 530 rfl ?_
    refine own_isub X886 hx (hb hby at_530) 531 rfl ?_
    show own_Go p e below G (T886.setTop (mkF m 531 #[.val (.long v0), .second, .val (.int v1), .val (.int v2), .val (.int v3), .val (.long (Int64.ofNat nn)), .second, .val (.int (Int32.ofNat ni)), .val (.int (3 : Int32)), .val (.int (21 : Int32)), .val (.int (Int32.ofNat (21 - ni))), .val (.int y679), .val (.ref a680), .val (.ref a713)] [(.int (4 : Int32)), (.ref a680)]))
    refine own_lload X886 hx (hb hby at_531) rfl 533 rfl ?_
    refine own_aload X886 hx (hb hby at_533) rfl rfl 535 rfl ?_
    refine own_bipush X886 hx (hb hby at_535) (16 : Int32) rfl 537 rfl ?_
    refine own_laload X886 hx hZ e886 V889 16 rfl (10000000000000000 : Int64) rfl (hb hby at_537) 538 rfl ?_
    refine own_callS X886 hx hZ hown (own_w hw 22 rfl) (own_w hw 23 rfl) (own_w hw 24 rfl) (own_w hw 25 rfl) (by decide) e886 (rm1 l Z a0 hw [] nn 16 (10000000000000000 : Int64) h886 n0 hnn (by decide) (by decide)) (by rw [hml]; rfl) pd_0 (argsL := [(.long (Int64.ofNat nn)), (.long (10000000000000000 : Int64))]) rfl (rest := [(.int (4 : Int32)), (.ref a680)]) rfl (hb hby at_538) 2 (Nat.le_of_eq rfl) (by decide) (by decide) (by decide) (by decide) 541 rfl (fun T890 L890 v890 X890 hQ890 => ?_)
    obtain ⟨rfl, N890, e890⟩ := hQ890
    have N891 := Fr.app N887 N890
    show own_Go p e below G (T890.setTop (mkF m 541 #[.val (.long v0), .second, .val (.int v1), .val (.int v2), .val (.int v3), .val (.long (Int64.ofNat nn)), .second, .val (.int (Int32.ofNat ni)), .val (.int (3 : Int32)), .val (.int (21 : Int32)), .val (.int (Int32.ofNat (21 - ni))), .val (.int y679), .val (.ref a680), .val (.ref a713)] [(.int (own_d nn 16)), (.int (4 : Int32)), (.ref a680)]))
    refine own_bastore X890 hx hZ e890 V886 4 rfl (by simp) (hb hby at_541) 542 rfl (fun T892 h892 X892 e892 W892 V892 => ?_)
    rw [show [y679, y679, y679, y679, (0 : Int32), (own_d nn 15), (own_d nn 14), (own_d nn 13), (own_d nn 12), (own_d nn 11), (own_d nn 10), (own_d nn 9), (own_d nn 8), (own_d nn 7), (own_d nn 6), (own_d nn 5), (own_d nn 4), (own_d nn 3), (own_d nn 2), (own_d nn 1), (own_d nn 0), y679, y679, y679].set 4 ((own_d nn 16).toInt8.toInt32) = [y679, y679, y679, y679, (own_d nn 16), (own_d nn 15), (own_d nn 14), (own_d nn 13), (own_d nn 12), (own_d nn 11), (own_d nn 10), (own_d nn 9), (own_d nn 8), (own_d nn 7), (own_d nn 6), (own_d nn 5), (own_d nn 4), (own_d nn 3), (own_d nn 2), (own_d nn 1), (own_d nn 0), y679, y679, y679] from (by rw [own_d8]; rfl)] at V892
    have N893 := Fr.snoc X892 N891 ge681
    have Z894 : n0 ≤ h892.size := by rw [W892.size]; exact Z888
    have V895 := V889.other W892 (Ne.symm ne714)
    refine own_aload X892 hx (hb hby at_542) rfl rfl 544 rfl ?_
    refine own_iload X892 hx (hb hby at_544) rfl 546 rfl ?_
    refine own_bipush X892 hx (hb hby at_546) (18 : Int32) rfl 548 rfl ?_
    refine own_isub X892 hx (hb hby at_548) 549 rfl ?_
    show own_Go p e below G (T892.setTop (mkF m 549 #[.val (.long v0), .second, .val (.int v1), .val (.int v2), .val (.int v3), .val (.long (Int64.ofNat nn)), .second, .val (.int (Int32.ofNat ni)), .val (.int (3 : Int32)), .val (.int (21 : Int32)), .val (.int (Int32.ofNat (21 - ni))), .val (.int y679), .val (.ref a680), .val (.ref a713)] [(.int (3 : Int32)), (.ref a680)]))
    refine own_lload X892 hx (hb hby at_549) rfl 551 rfl ?_
    refine own_aload X892 hx (hb hby at_551) rfl rfl 553 rfl ?_
    refine own_bipush X892 hx (hb hby at_553) (17 : Int32) rfl 555 rfl ?_
    refine own_laload X892 hx hZ e892 V895 17 rfl (100000000000000000 : Int64) rfl (hb hby at_555) 556 rfl ?_
    refine own_callS X892 hx hZ hown (own_w hw 22 rfl) (own_w hw 23 rfl) (own_w hw 24 rfl) (own_w hw 25 rfl) (by decide) e892 (rm1 l Z a0 hw [] nn 17 (100000000000000000 : Int64) h892 n0 hnn (by decide) (by decide)) (by rw [hml]; rfl) pd_0 (argsL := [(.long (Int64.ofNat nn)), (.long (100000000000000000 : Int64))]) rfl (rest := [(.int (3 : Int32)), (.ref a680)]) rfl (hb hby at_556) 2 (Nat.le_of_eq rfl) (by decide) (by decide) (by decide) (by decide) 559 rfl (fun T896 L896 v896 X896 hQ896 => ?_)
    obtain ⟨rfl, N896, e896⟩ := hQ896
    have N897 := Fr.app N893 N896
    show own_Go p e below G (T896.setTop (mkF m 559 #[.val (.long v0), .second, .val (.int v1), .val (.int v2), .val (.int v3), .val (.long (Int64.ofNat nn)), .second, .val (.int (Int32.ofNat ni)), .val (.int (3 : Int32)), .val (.int (21 : Int32)), .val (.int (Int32.ofNat (21 - ni))), .val (.int y679), .val (.ref a680), .val (.ref a713)] [(.int (own_d nn 17)), (.int (3 : Int32)), (.ref a680)]))
    refine own_bastore X896 hx hZ e896 V892 3 rfl (by simp) (hb hby at_559) 560 rfl (fun T898 h898 X898 e898 W898 V898 => ?_)
    rw [show [y679, y679, y679, y679, (own_d nn 16), (own_d nn 15), (own_d nn 14), (own_d nn 13), (own_d nn 12), (own_d nn 11), (own_d nn 10), (own_d nn 9), (own_d nn 8), (own_d nn 7), (own_d nn 6), (own_d nn 5), (own_d nn 4), (own_d nn 3), (own_d nn 2), (own_d nn 1), (own_d nn 0), y679, y679, y679].set 3 ((own_d nn 17).toInt8.toInt32) = [y679, y679, y679, (own_d nn 17), (own_d nn 16), (own_d nn 15), (own_d nn 14), (own_d nn 13), (own_d nn 12), (own_d nn 11), (own_d nn 10), (own_d nn 9), (own_d nn 8), (own_d nn 7), (own_d nn 6), (own_d nn 5), (own_d nn 4), (own_d nn 3), (own_d nn 2), (own_d nn 1), (own_d nn 0), y679, y679, y679] from (by rw [own_d8]; rfl)] at V898
    have N899 := Fr.snoc X898 N897 ge681
    have Z900 : n0 ≤ h898.size := by rw [W898.size]; exact Z894
    have V901 := V895.other W898 (Ne.symm ne714)
    refine own_aload X898 hx (hb hby at_560) rfl rfl 562 rfl ?_
    refine own_iload X898 hx (hb hby at_562) rfl 564 rfl ?_
    refine own_iload X898 hx (hb hby at_564) rfl 566 rfl ?_
    refine own_callS X898 hx hZ hown (own_w hw 27 rfl) (own_w hw 28 rfl) (own_w hw 29 rfl) (own_w hw 30 rfl) (by decide) e898 (rm2 l Z a0 hw [] a680 (21 - ni) 21 [y679, y679, y679, (own_d nn 17), (own_d nn 16), (own_d nn 15), (own_d nn 14), (own_d nn 13), (own_d nn 12), (own_d nn 11), (own_d nn 10), (own_d nn 9), (own_d nn 8), (own_d nn 7), (own_d nn 6), (own_d nn 5), (own_d nn 4), (own_d nn 3), (own_d nn 2), (own_d nn 1), (own_d nn 0), y679, y679, y679] h898 n0 (by omega) (by simp) V898) (by rw [hml]; rfl) pd_1 (argsL := [(.ref a680), (.int (Int32.ofNat (21 - ni))), (.int (21 : Int32))]) rfl (rest := []) rfl (hb hby at_566) 0 (Nat.le_of_eq rfl) (by decide) (by decide) (by decide) (by decide) 569 rfl (fun T902 L902 v902 X902 hQ902 => ?_)
    obtain ⟨rfl, N902, e902⟩ := hQ902
    have N903 := Fr.app N899 N902
    show own_Go p e below G (T902.setTop (mkF m 569 #[.val (.long v0), .second, .val (.int v1), .val (.int v2), .val (.int v3), .val (.long (Int64.ofNat nn)), .second, .val (.int (Int32.ofNat ni)), .val (.int (3 : Int32)), .val (.int (21 : Int32)), .val (.int (Int32.ofNat (21 - ni))), .val (.int y679), .val (.ref a680), .val (.ref a713)] [(.long ((own_slice [y679, y679, y679, (own_d nn 17), (own_d nn 16), (own_d nn 15), (own_d nn 14), (own_d nn 13), (own_d nn 12), (own_d nn 11), (own_d nn 10), (own_d nn 9), (own_d nn 8), (own_d nn 7), (own_d nn 6), (own_d nn 5), (own_d nn 4), (own_d nn 3), (own_d nn 2), (own_d nn 1), (own_d nn 0), y679, y679, y679] (21 - ni) 21).foldl own_lv 0))]))
    refine own_lload X902 hx (hb hby at_569) rfl 571 rfl ?_
    refine own_aload X902 hx (hb hby at_571) rfl rfl 573 rfl ?_
    refine own_iload X902 hx (hb hby at_573) rfl 575 rfl ?_
    refine own_laload X902 hx hZ e902 V901 ni rfl xx hxx (hb hby at_575) 576 rfl ?_
    refine own_lrem X902 hx (hb hby at_576) hxz 577 rfl ?_
    refine own_lcmp X902 hx (hb hby at_577) 578 rfl ?_
    have hsl : own_slice [y679, y679, y679, (own_d nn 17), (own_d nn 16), (own_d nn 15), (own_d nn 14), (own_d nn 13), (own_d nn 12), (own_d nn 11), (own_d nn 10), (own_d nn 9), (own_d nn 8), (own_d nn 7), (own_d nn 6), (own_d nn 5), (own_d nn 4), (own_d nn 3), (own_d nn 2), (own_d nn 1), (own_d nn 0), y679, y679, y679] (21 - ni) 21 = own_D nn ni := by
      have q : ni = 0 ∨ ni = 1 ∨ ni = 2 ∨ ni = 3 ∨ ni = 4 ∨ ni = 5 ∨ ni = 6 ∨ ni = 7 ∨ ni = 8 ∨ ni = 9 ∨ ni = 10 ∨ ni = 11 ∨ ni = 12 ∨ ni = 13 ∨ ni = 14 ∨ ni = 15 ∨ ni = 16 ∨ ni = 17 ∨ ni = 18 := by omega
      rcases q with rfl | rfl | rfl | rfl | rfl | rfl | rfl | rfl | rfl | rfl | rfl | rfl | rfl | rfl | rfl | rfl | rfl | rfl | rfl <;> rfl
    refine own_ifN X902 hx (hb hby at_578) (own_eqL (by rw [hsl]; exact own_end hnn hxi)).2 581 rfl ?_
    refine own_iconst X902 hx (hb hby at_581) (1 : Int32) rfl 582 rfl ?_
    refine own_goto X902 hx (hb hby at_582) 586 ⟨by decide, by decide⟩ ?_
    refine own_nreturn X902 hx Bd.notSynchronized hG Bd.returns (by simp) (hb hby at_586) (by decide) (by decide) ?_
    rw [e902]
    exact ⟨rfl, N903⟩
set_option maxRecDepth 65536 in
set_option maxHeartbeats 40000000 in
theorem comes_1 {Post : Tables → Env → Array Value → State → Outcome → State → Prop} (hpost : ∀ tb e args s v u, (limb_1_1.after args s (.returned v) u = true ∧ limb_1_2.after args s (.returned v) u = true ∧ True) → FrameEnd s (.returned v) u (Jvm.fieldLocs frame_1_writes args s ++ Jvm.arrayLocs frame_1_arrays args s ++ Jvm.staticLocs frame_1_statics s) 16 192 → Post tb e args s (.returned v) u) :
    ArmFor flags0 classFile x code maxLocals ret World_1 tables_1 room_1 Calls_1 rest_1 Pre_1 Post := by
  intro l hfl _ _ p e ha hc hk s m args below hf hA hF happ hP
  obtain ⟨hcalls, hrest, hpre⟩ := hP
  obtain ⟨-, -, -, hnamed, -, -, -, hat⟩ := (Spec.applies_iff hf).mp happ
  obtain ⟨hg, hn⟩ := and_e (Cond.before_iff.mp (show (Jvm.Cond.and given_1 narrow_1).before args s = true from hpre))
  obtain ⟨hcount, k0⟩ := and_e hg
  obtain ⟨q0, k1⟩ := and_e k0
  obtain ⟨q1, k2⟩ := and_e k1
  obtain ⟨q2, k3⟩ := and_e k2
  have q3 := k3
  obtain ⟨w0, w1, w2, w3, rfl⟩ : ∃ w0 w1 w2 w3 : Value, args = #[w0, w1, w2, w3] := by
    have hs : args.size = 4 := by simpa [Cond.value, given_1] using hcount
    obtain ⟨L⟩ := args
    match L, hs with
    | [w0, w1, w2, w3], _ => exact ⟨w0, w1, w2, w3, rfl⟩
  have hw := fun d (hd : d ∈ tables_1) => atoms_spec (ws := Jvm.Cond.code x code maxLocals ret :: tables_1) hat d (List.mem_cons_of_mem _ hd)
  have hfit : Fit s := fun {y c} hc i hi => by
    obtain ⟨ha, rfl⟩ := Array.getElem?_eq_some_iff.mp hc
    have q := List.all_eq_true.mp ((Array.all_eq_true_iff_forall_mem.mp hF) _ (Array.getElem_mem ha)) i (List.mem_range.mpr hi)
    simpa [Array.getElem?_eq_getElem hi] using q
  obtain ⟨i0, r0⟩ := own_isl q0
  obtain rfl : w0 = (.long i0) := Option.some.inj r0
  obtain ⟨i1, r1⟩ := is_v q1
  obtain rfl : w1 = (.int i1) := Option.some.inj r1
  obtain ⟨i2, r2⟩ := is_v q2
  obtain rfl : w2 = (.int i2) := Option.some.inj r2
  obtain ⟨i3, r3⟩ := is_v q3
  obtain rfl : w3 = (.int i3) := Option.some.inj r3
  obtain ⟨n, o, h1, h2, h3, _, L, rfl, ⟨rfl, N⟩, hq⟩ := rm0 l s _ hw tables_1 i0 i1 i2 i3 s.heap s.heap.size (Nat.le_refl _) p e ha hc hk s m _ below hf ((Spec.applies_iff_loose hf).mp happ).1 ⟨rfl, State.Warmed39.refl s, rfl⟩ trivial
  refine ⟨n, _, h1, h2, h3, hpost _ _ _ _ _ _ ⟨Cond.after_iff.mpr rfl, Cond.after_iff.mpr (eq_i res_at (Term.int_eval (1)) rfl), trivial⟩ ⟨hq.1, hq.2.1, (hq.2.2.sift fun y hy => Or.inr (N y hy)).mono (by decide) (by decide)⟩⟩
theorem main_1_1 : Claimed_1_1 := comes_1 fun _ _ _ _ _ _ h hF => ⟨h.1, hF⟩
theorem main_1_2 : Claimed_1_2 := comes_1 fun _ _ _ _ _ _ h hF => ⟨h.2.1, hF⟩
end Jvm.Pilot.@@N@@
namespace Jvm.Pilot.@@N@@
open Jvm Jvm.ClassFile Sem Op Lib Jvm.Free Jvm.Stand Jvm.Pilot.@@N@@.Jvm.D
/-! MADE BY PROGRAM (witnessworld.py) out of the Statement's table words and the real class files: 11 classes; the members and pool entries that the words name. The judged class is class 1, her method 2. -/
namespace start1
open Jvm.ClassFile
def u (s : String) : CpInfo := .utf8 (stringToUtf16 s)
/-- a pool by its gaps: so many unusable entries, then the entry; so many at the end -/
def gap : Nat → List CpInfo → List CpInfo
  | 0, r => r
  | n + 1, r => .unusable :: gap n r
def poolList (es : List (Nat × CpInfo)) (last : Nat) : List CpInfo := es.foldr (fun e r => gap e.1 (e.2 :: r)) (gap last [])
def pool (es : List (Nat × CpInfo)) (last : Nat) : Array CpInfo := ⟨poolList es last⟩
def fileOf (pool : Array CpInfo) (this : Nat) (attrs : Array Attribute := #[]) (ms : Array MethodInfo := #[]) (fl : Nat := 33) (sup : Nat := 0) (ifs : Array Nat := #[]) (fds : Array FieldInfo := #[]) : ClassFile where
  minorVersion := 0
  majorVersion := 65
  constantPool := pool
  accessFlags := fl
  thisClass := this
  superClass := sup
  interfaces := ifs
  fields := fds
  methods := ms
  attributes := attrs
def plain (name : String) (sup : Option ClassId) : Class where
  name := name
  kind := .ordinary
  loader := none
  accessFlags := 33
  super := sup
  interfaces := #[]
  cf := none
  fields := #[]
  methods := #[]
  instanceTypes := #[]
  staticTypes := #[]
  resolved := #[]
  callSites := []
  init := .initialized
  statics := none
  mirror := none

def pool0 : Array CpInfo := pool [(5, u "<init>"), (0, u "()V"), (1, .class_ 10), (1, u "java/lang/Object")] 113

def k0m0 : Method := { name := "<init>", desc := "()V", sig := { parameters := [], returnType := none }, accessFlags := 1, code := none }
/-- java/lang/Object -/
def k0 : Class := { plain "java/lang/Object" none with
  accessFlags := 33
  interfaces := #[]
  cf := some (fileOf pool0 8 #[] #[{ accessFlags := 1, nameIndex := 5, descriptorIndex := 6, attributes := #[] }] 33 0 #[] #[])
  fields := #[]
  methods := #[k0m0]
  instanceTypes := #[]
  staticTypes := #[]
  resolved := Array.replicate 124 none
  statics := none }

def pool1 : Array CpInfo := pool [(2, .class_ 4), (1, u "java/lang/Object"), (0, u "<init>"), (0, u "()V"), (0, .long 48), (1, .long 10), (3, .long 9223372036854775807), (1, .long 1000000000000000000), (1, .integer 2147483647), (0, .long 100), (1, .long 1000), (1, .long 10000), (1, .long 100000), (1, .long 1000000), (1, .long 10000000), (1, .long 100000000), (1, .long 1000000000), (1, .long 10000000000), (1, .long 100000000000), (1, .long 1000000000000), (1, .long 10000000000000), (1, .long 100000000000000), (1, .long 1000000000000000), (1, .long 10000000000000000), (1, .long 100000000000000000), (1, .methodref 51 52), (0, .class_ 53), (0, .nameAndType 54 55), (0, u "com/example/mapweft/mapweft/release/DecimalDigitsLongValuePinLaw"), (0, u "digit"), (0, u "(JJ)B"), (0, .methodref 57 58), (0, .class_ 59), (0, .nameAndType 60 61), (0, u "com/example/mapweft/mapweft/release/DecimalDigits"), (0, u "longValue"), (0, u "([BII)J"), (2, u "law"), (0, u "(JIII)Z")] 7

def k1m0 : Method := { name := "<init>", desc := "()V", sig := { parameters := [], returnType := none }, accessFlags := 2, code := none }
def k1c1 : Code := { maxStack := 6, maxLocals := 4, code := method_2_code, exceptionTable := #[], attributes := #[] }
def k1m1 : Method := { name := "digit", desc := "(JJ)B", sig := { parameters := [.long, .long], returnType := some .byte }, accessFlags := 10, code := some k1c1 }
def k1c2 : Code := { maxStack := 6, maxLocals := 14, code := code, exceptionTable := #[], attributes := #[] }
def k1m2 : Method := { name := "law", desc := "(JIII)Z", sig := { parameters := [.long, .int, .int, .int], returnType := some .boolean }, accessFlags := 9, code := some k1c2 }
/-- com/example/mapweft/mapweft/release/DecimalDigitsLongValuePinLaw -/
def k1 : Class := { plain "com/example/mapweft/mapweft/release/DecimalDigitsLongValuePinLaw" (some 0) with
  accessFlags := 49
  interfaces := #[]
  cf := some (fileOf pool1 51 #[] #[{ accessFlags := 2, nameIndex := 5, descriptorIndex := 6, attributes := #[] }, { accessFlags := 10, nameIndex := 54, descriptorIndex := 55, attributes := #[] }, { accessFlags := 9, nameIndex := 64, descriptorIndex := 65, attributes := #[] }] 49 2 #[] #[])
  fields := #[]
  methods := #[k1m0, k1m1, k1m2]
  instanceTypes := #[]
  staticTypes := #[]
  resolved := Array.replicate 73 none
  statics := none }

def pool2 : Array CpInfo := pool [(2, .class_ 4), (1, u "java/lang/Object"), (0, u "<init>"), (0, u "()V"), (13, .class_ 22), (1, u "com/example/mapweft/mapweft/release/DecimalDigits"), (4, u "longValue"), (0, u "([BII)J"), (0, .long 10), (1, .long 48)] 9

def k2m0 : Method := { name := "<init>", desc := "()V", sig := { parameters := [], returnType := none }, accessFlags := 2, code := none }
def k2c1 : Code := { maxStack := 4, maxLocals := 6, code := prog_13_method_5_code, exceptionTable := #[], attributes := #[] }
def k2m1 : Method := { name := "longValue", desc := "([BII)J", sig := { parameters := [(.array .byte), .int, .int], returnType := some .long }, accessFlags := 8, code := some k2c1 }
/-- com/example/mapweft/mapweft/release/DecimalDigits -/
def k2 : Class := { plain "com/example/mapweft/mapweft/release/DecimalDigits" (some 0) with
  accessFlags := 49
  interfaces := #[]
  cf := some (fileOf pool2 20 #[] #[{ accessFlags := 2, nameIndex := 5, descriptorIndex := 6, attributes := #[] }, { accessFlags := 8, nameIndex := 27, descriptorIndex := 28, attributes := #[] }] 49 2 #[] #[])
  fields := #[]
  methods := #[k2m0, k2m1]
  instanceTypes := #[]
  staticTypes := #[]
  resolved := Array.replicate 41 none
  statics := none }

def pool3 : Array CpInfo := pool [(1, u "java/lang/Cloneable"), (0, .class_ 1), (0, u "java/lang/Object"), (0, .class_ 3)] 3

/-- java/lang/Cloneable -/
def k3 : Class := { plain "java/lang/Cloneable" (some 0) with
  accessFlags := 1537
  interfaces := #[]
  cf := some (fileOf pool3 2 #[] #[] 1537 4 #[] #[])
  fields := #[]
  methods := #[]
  instanceTypes := #[]
  staticTypes := #[]
  resolved := Array.replicate 8 none
  statics := none }

def pool4 : Array CpInfo := pool [(1, u "java/io/Serializable"), (0, .class_ 1), (0, u "java/lang/Object"), (0, .class_ 3)] 3

/-- java/io/Serializable -/
def k4 : Class := { plain "java/io/Serializable" (some 0) with
  accessFlags := 1537
  interfaces := #[]
  cf := some (fileOf pool4 2 #[] #[] 1537 4 #[] #[])
  fields := #[]
  methods := #[]
  instanceTypes := #[]
  staticTypes := #[]
  resolved := Array.replicate 8 none
  statics := none }

/-- the primitive byte -/
def k5 : Class := { plain "byte" none with kind := .primitive 'B', accessFlags := 0x411 }
/-- [B -/
def k6 : Class := { plain "[B" (some 0) with kind := .array 5 .byte, interfaces := #[3, 4], accessFlags := 1041 }

/-- the primitive int -/
def k7 : Class := { plain "int" none with kind := .primitive 'I', accessFlags := 0x411 }
/-- [I -/
def k8 : Class := { plain "[I" (some 0) with kind := .array 7 .int, interfaces := #[3, 4], accessFlags := 1041 }

/-- the primitive long -/
def k9 : Class := { plain "long" none with kind := .primitive 'J', accessFlags := 0x411 }
/-- [J -/
def k10 : Class := { plain "[J" (some 0) with kind := .array 9 .long, interfaces := #[3, 4], accessFlags := 1041 }

def heap : Heap := #[]
def classes : Array Class := #[k0, k1, k2, k3, k4, k5, k6, k7, k8, k9, k10]
def interned : List (Array UInt16 × Addr) := []
def slotsUsed : Nat := 0
def theMethod : MethodId := ⟨1, 2⟩
def args0 : Array Value := #[.long 12345, .int 3, .int 2, .int 7]
def aboutOver (below : List Frame) : State where
  vm := { classes := classes, interned := interned.toArray }
  heap := heap
  slotsUsed := slotsUsed
  threads := #[{ frames := .invoking theMethod args0 :: below }]
def below0 : List Frame := [.native { method := ⟨0, 0⟩, args := #[] }]
def about1 : State := aboutOver below0
def p0 : Program := .bare "" "" ""
def e0 : Env := launch0.env 0 0 0
theorem w_frames : about1.frames = Frame.invoking theMethod args0 :: below0 := rfl
set_option maxRecDepth 65536 in
theorem w_args : argsFit about1.vm theMethod args0 = true := by decide +kernel
set_option maxRecDepth 65536 in
theorem w_heap : heapFits about1 = true := by decide +kernel
set_option maxRecDepth 65536 in
theorem w_runnable : about1.curStatus? = some .runnable := by decide +kernel
set_option maxRecDepth 65536 in
theorem w_alone : about1.alone = true := by decide +kernel
set_option maxRecDepth 65536 in
theorem w_named : about1.methodNamed? x = some theMethod := by decide +kernel
set_option maxRecDepth 65536 in
theorem w_hears : about1.hears theMethod below0 = true := by decide +kernel
set_option maxRecDepth 65536 in
theorem w_ripe : about1.ripe theMethod args0 below0 = true := by decide +kernel
theorem w_running : about1.status = .running := rfl
set_option maxRecDepth 65536 in
theorem w_room : about1.hasRoom e0.platform room_1 = true :=
  launch0.hasRoom_least _ room_1 (by decide +kernel) (by decide +kernel) (by decide +kernel) (by decide +kernel) (by decide +kernel) (by decide +kernel)
theorem allAtoms_all (ts : List Jvm.Cond) (a : Array Jvm.Value) (st : Jvm.State) : (allAtoms ts).before a st = ts.all (fun c => c.before a st) := by
  induction ts with
  | nil => rfl
  | cons c t ih =>
    show (Jvm.Cond.and c (allAtoms t)).before a st = _
    rw [Jvm.Cond.before_and, ih, List.all_cons]
def words1 : List Jvm.Cond := Jvm.Cond.code x code maxLocals ret :: tables_1
/-- a 'code' word, met by the world's own term for the bytes: nothing is compared byte by byte -/
theorem code_word {y : MethodName} {bytes : ByteArray} {mx : Nat} {rt : Option FieldType} {a : Array Value} {s : State} {m : MethodId} {meth : Method} {c : Code} (h1 : s.methodNamed? y = some m) (h2 : s.vm.method? m = some meth) (h3 : meth.code = some c) (h4 : c.code = bytes)
    (h5 : (c.maxLocals == mx && c.exceptionTable.isEmpty && decide (c.maxStack ≤ mostOperands) && decide (meth.sig.returnType = rt) && !meth.locks && decide (parseMethodDescriptor y.desc = some meth.sig)) = true) : (Jvm.Cond.code y bytes mx rt).before a s = true := by
  simp only [Bool.and_eq_true, beq_iff_eq, Bool.not_eq_true', decide_eq_true_eq] at h5
  obtain ⟨⟨⟨⟨⟨g1, g2⟩, g3⟩, g4⟩, g5⟩, g6⟩ := h5
  simp [Cond.before, Cond.holds, Cond.value, h1, h2, h3, h4, g1, g2, g3, g4, g5, g6]
def isCode : Jvm.Cond → Bool
  | .code _ _ _ _ => true
  | _ => false
theorem all_split {L : List Jvm.Cond} {P : Jvm.Cond → Bool} (h1 : L.all (fun c => isCode c || P c) = true) (h2 : ∀ c ∈ L.filter isCode, P c = true) : L.all P = true := by
  refine List.all_eq_true.mpr fun c hc => ?_
  have h := List.all_eq_true.mp h1 c hc
  rcases Bool.eq_false_or_eq_true (isCode c) with hi | hi
  · exact h2 c (List.mem_filter.mpr ⟨hc, hi⟩)
  · simpa [hi] using h
set_option maxRecDepth 65536 in
theorem w_c0 : (Jvm.Cond.code x code maxLocals ret).before args0 about1 = true := code_word (m := ⟨1, 2⟩) (meth := k1m2) (c := k1c2) (by decide +kernel) rfl rfl rfl (by decide +kernel)
set_option maxRecDepth 65536 in
theorem w_c1 : (Jvm.Cond.code ({ cls := "com/example/mapweft/mapweft/release/DecimalDigitsLongValuePinLaw", name := "digit", desc := "(JJ)B" } : Jvm.MethodName) method_2_code (4 : Nat) (Option.some Jvm.ClassFile.FieldType.byte)).before args0 about1 = true := code_word (m := ⟨1, 1⟩) (meth := k1m1) (c := k1c1) (by decide +kernel) rfl rfl rfl (by decide +kernel)
set_option maxRecDepth 65536 in
theorem w_c2 : (Jvm.Cond.code ({ cls := "com/example/mapweft/mapweft/release/DecimalDigits", name := "longValue", desc := "([BII)J" } : Jvm.MethodName) prog_13_method_5_code (6 : Nat) (Option.some Jvm.ClassFile.FieldType.long)).before args0 about1 = true := code_word (m := ⟨2, 1⟩) (meth := k2m1) (c := k2c1) (by decide +kernel) rfl rfl rfl (by decide +kernel)
def codes1 : List Jvm.Cond := [Jvm.Cond.code x code maxLocals ret, Jvm.Cond.code ({ cls := "com/example/mapweft/mapweft/release/DecimalDigitsLongValuePinLaw", name := "digit", desc := "(JJ)B" } : Jvm.MethodName) method_2_code (4 : Nat) (Option.some Jvm.ClassFile.FieldType.byte), Jvm.Cond.code ({ cls := "com/example/mapweft/mapweft/release/DecimalDigits", name := "longValue", desc := "([BII)J" } : Jvm.MethodName) prog_13_method_5_code (6 : Nat) (Option.some Jvm.ClassFile.FieldType.long)]
set_option maxRecDepth 65536 in
theorem codes_eq : words1.filter isCode = codes1 := rfl
theorem w_codes : ∀ c ∈ words1.filter isCode, c.before args0 about1 = true := by
  rw [codes_eq]
  intro c hc
  simp only [codes1, List.mem_cons, List.not_mem_nil, or_false] at hc
  rcases hc with rfl | rfl | rfl
  · exact w_c0
  · exact w_c1
  · exact w_c2
set_option maxRecDepth 65536 in
theorem w_t1 : (words1.take 24).all (fun c => isCode c || c.before args0 about1) = true := by decide +kernel
set_option maxRecDepth 65536 in
theorem w_t2 : (words1.drop 24).all (fun c => isCode c || c.before args0 about1) = true := by decide +kernel
theorem w_tables : (allAtoms (Jvm.Cond.code x code maxLocals ret :: tables_1)).before args0 about1 = true := by
  rw [allAtoms_all]
  show words1.all (fun c => c.before args0 about1) = true
  refine all_split ?_ w_codes
  rw [← List.take_append_drop 24 words1, List.all_append, w_t1, w_t2]
  rfl
set_option maxRecDepth 65536 in
theorem w_case : (Jvm.Cond.and given_1 narrow_1).before args0 about1 = true := by decide +kernel
theorem w_applies : (headSpec (Jvm.Cond.code x code maxLocals ret :: tables_1) room_1).applies x e0.platform about1 = true :=
  (Spec.applies_iff w_frames).mpr ⟨w_running, w_runnable, w_alone, w_named, w_hears, w_ripe, w_room, w_tables⟩
theorem atStart : AtStart classFile x code maxLocals ret World_1 tables_1 room_1 Calls_1 rest_1 Pre_1 launch0 p0 e0 about1 theMethod args0 below0 :=
  ⟨lists_1, trivial, launch0.admits_env _ _ _, launch0.least_env, fairChoices_fair.cas, fairChoices_fair.clock, w_frames, w_args, w_heap, w_applies, trivial, trivial, w_case⟩
end start1
theorem witness_1 : WitnessClaimed_1 := ⟨start1.p0, start1.e0, start1.about1, start1.theMethod, start1.args0, start1.below0, start1.atStart⟩
end Jvm.Pilot.@@N@@
